import PyProof.Rows.All
import Wide.All
import OpenK.AllK
import Wide.FinOn
import PySem.Builtin.Re_Pattern.W2All
import KE.KEqDict
import PySem.Challenge.RW_pw0015_01
open PySem PySem.W PyProof.Rows
set_option Elab.async false
set_option linter.all false
-- B1
section
open PySem PyProof.Rows
set_option Elab.async false
namespace Mine
/-- plain data -/
inductive D where
  | none
  | bool (b : Bool)
  | int (i : Int)
  | str (s : Str)
  | tup (xs : List D)
  | list (xs : List D)
  | dict (kvs : List (Str × D))
  | inst (C : Addr) (sel : D)
noncomputable abbrev Keep (h h' : Heap) : Prop := ∀ b o, h.get? b = some o → h'.get? b = some o
noncomputable abbrev KeepV (V : Addr → Prop) (h h' : Heap) : Prop := ∀ b o, ¬ V b → h.get? b = some o → h'.get? b = some o
noncomputable def Dom (h : Heap) (a : Addr) : Prop := ∃ o, h.get? a = some o
noncomputable def selName : Str := Str.ofString "comp_select_list"
section
variable (prog : Program) (w : World)
/-- a dict keyed by texts, other than the interpreter's table of modules -/
noncomputable def SDict (h : Heap) (a : Addr) (kvs : List (Str × Value)) : Prop := h.DictOf (strKind prog w) a kvs ∧ (a == sysModules) = false
mutual
inductive Rep (h : Heap) (P : Addr → Prop) : Value → D → Prop
  | none : Rep h P .none .none
  | bool {b : Bool} : Rep h P (.bool b) (.bool b)
  | int {i : Int} {t : Tok} : Rep h P (.int i t) (.int i)
  | str {x : Str} {t : Tok} : Rep h P (.str x t) (.str x)
  | tup {a : Addr} {vs : List Value} {ds : List D} : h.IsTuple a vs.toArray → P a → Reps h P vs ds → Rep h P (.ref a) (.tup ds)
  | list {a : Addr} {vs : List Value} {ds : List D} : h.IsList a vs.toArray → P a → Reps h P vs ds → Rep h P (.ref a) (.list ds)
  | dict {a : Addr} {kvs : List (Str × Value)} {ds : List (Str × D)} : SDict prog w h a kvs → P a → RepsK h P kvs ds → Rep h P (.ref a) (.dict ds)
  | inst {a dx C : Addr} {v : Value} {d : D} : h.get? a = some (PySem.W.instObj C dx) → P a → SDict prog w h dx [(selName, v)] → P dx → Rep h P v d → Rep h P (.ref a) (.inst C d)
inductive Reps (h : Heap) (P : Addr → Prop) : List Value → List D → Prop
  | nil : Reps h P [] []
  | cons {v : Value} {d : D} {vs : List Value} {ds : List D} : Rep h P v d → Reps h P vs ds → Reps h P (v :: vs) (d :: ds)
inductive RepsK (h : Heap) (P : Addr → Prop) : List (Str × Value) → List (Str × D) → Prop
  | nil : RepsK h P [] []
  | cons {k : Str} {v : Value} {d : D} {vs : List (Str × Value)} {ds : List (Str × D)} : Rep h P v d → RepsK h P vs ds → RepsK h P ((k, v) :: vs) ((k, d) :: ds)
end
end
section
variable {prog : Program} {w : World} {h h' : Heap} {P P' : Addr → Prop}
theorem dictOf_at {kvs : List (Str × Value)} {a : Addr} (x : SDict prog w h a kvs) (hk : ∀ o, h.get? a = some o → h'.get? a = some o) : SDict prog w h' a kvs :=
  let ⟨⟨o, es, ep, ho, r⟩, q⟩ := x; ⟨⟨o, es, ep, hk _ ho, r⟩, q⟩
theorem SDict.dom {kvs : List (Str × Value)} {a : Addr} (x : SDict prog w h a kvs) : Dom h a := let ⟨⟨o, _, _, e, _⟩, _⟩ := x; ⟨o, e⟩
theorem at_of {a : Addr} {F : Obj → Prop} (t : ∃ o, h.get? a = some o ∧ F o) (hk : ∀ o, h.get? a = some o → h'.get? a = some o) : ∃ o, h'.get? a = some o ∧ F o := let ⟨o, e, q⟩ := t; ⟨o, hk o e, q⟩
/-- data seen again in another heap, through other addresses -/
theorem Rep.shift (hk : ∀ b o, P b → h.get? b = some o → h'.get? b = some o ∧ P' b) {v : Value} {d : D} (r : Rep prog w h P v d) : Rep prog w h' P' v d :=
  Rep.rec (motive_1 := fun v d _ => Rep prog w h' P' v d) (motive_2 := fun vs ds _ => Reps prog w h' P' vs ds) (motive_3 := fun vs ds _ => RepsK prog w h' P' vs ds)
    .none .bool .int .str (fun t p _ i => .tup (at_of t fun o e => (hk _ o p e).1) (hk _ _ p t.choose_spec.1).2 i) (fun t p _ i => .list (at_of t fun o e => (hk _ o p e).1) (hk _ _ p t.choose_spec.1).2 i)
    (fun x p _ i => .dict (dictOf_at x fun o e => (hk _ o p e).1) (hk _ _ p x.dom.choose_spec).2 i) (fun e p x q _ i => .inst (hk _ _ p e).1 (hk _ _ p e).2 (dictOf_at x fun o e => (hk _ o q e).1) (hk _ _ q x.dom.choose_spec).2 i)
    .nil (fun _ _ i j => .cons i j) .nil (fun _ _ i j => .cons i j) r
theorem Reps.shift (hk : ∀ b o, P b → h.get? b = some o → h'.get? b = some o ∧ P' b) {vs : List Value} {ds : List D} (r : Reps prog w h P vs ds) : Reps prog w h' P' vs ds :=
  Reps.rec (motive_1 := fun v d _ => Rep prog w h' P' v d) (motive_2 := fun vs ds _ => Reps prog w h' P' vs ds) (motive_3 := fun vs ds _ => RepsK prog w h' P' vs ds)
    .none .bool .int .str (fun t p _ i => .tup (at_of t fun o e => (hk _ o p e).1) (hk _ _ p t.choose_spec.1).2 i) (fun t p _ i => .list (at_of t fun o e => (hk _ o p e).1) (hk _ _ p t.choose_spec.1).2 i)
    (fun x p _ i => .dict (dictOf_at x fun o e => (hk _ o p e).1) (hk _ _ p x.dom.choose_spec).2 i) (fun e p x q _ i => .inst (hk _ _ p e).1 (hk _ _ p e).2 (dictOf_at x fun o e => (hk _ o q e).1) (hk _ _ q x.dom.choose_spec).2 i)
    .nil (fun _ _ i j => .cons i j) .nil (fun _ _ i j => .cons i j) r
theorem RepsK.shift (hk : ∀ b o, P b → h.get? b = some o → h'.get? b = some o ∧ P' b) {vs : List (Str × Value)} {ds : List (Str × D)} (r : RepsK prog w h P vs ds) : RepsK prog w h' P' vs ds :=
  RepsK.rec (motive_1 := fun v d _ => Rep prog w h' P' v d) (motive_2 := fun vs ds _ => Reps prog w h' P' vs ds) (motive_3 := fun vs ds _ => RepsK prog w h' P' vs ds)
    .none .bool .int .str (fun t p _ i => .tup (at_of t fun o e => (hk _ o p e).1) (hk _ _ p t.choose_spec.1).2 i) (fun t p _ i => .list (at_of t fun o e => (hk _ o p e).1) (hk _ _ p t.choose_spec.1).2 i)
    (fun x p _ i => .dict (dictOf_at x fun o e => (hk _ o p e).1) (hk _ _ p x.dom.choose_spec).2 i) (fun e p x q _ i => .inst (hk _ _ p e).1 (hk _ _ p e).2 (dictOf_at x fun o e => (hk _ o q e).1) (hk _ _ q x.dom.choose_spec).2 i)
    .nil (fun _ _ i j => .cons i j) .nil (fun _ _ i j => .cons i j) r
theorem Rep.move (hk : ∀ b o, P b → h.get? b = some o → h'.get? b = some o) (hp : ∀ b, P b → P' b) {v : Value} {d : D} (r : Rep prog w h P v d) : Rep prog w h' P' v d := r.shift fun b o p e => ⟨hk b o p e, hp b p⟩
theorem Reps.move (hk : ∀ b o, P b → h.get? b = some o → h'.get? b = some o) (hp : ∀ b, P b → P' b) {vs : List Value} {ds : List D} (r : Reps prog w h P vs ds) : Reps prog w h' P' vs ds := r.shift fun b o p e => ⟨hk b o p e, hp b p⟩
theorem RepsK.move (hk : ∀ b o, P b → h.get? b = some o → h'.get? b = some o) (hp : ∀ b, P b → P' b) {vs : List (Str × Value)} {ds : List (Str × D)} (r : RepsK prog w h P vs ds) : RepsK prog w h' P' vs ds := r.shift fun b o p e => ⟨hk b o p e, hp b p⟩
theorem Rep.keep {v : Value} {d : D} (r : Rep prog w h P v d) (hk : Keep h h') : Rep prog w h' P v d := r.move (fun b o _ e => hk b o e) fun _ p => p
theorem Reps.keep {v : List Value} {d : List D} (r : Reps prog w h P v d) (hk : Keep h h') : Reps prog w h' P v d := r.move (fun b o _ e => hk b o e) fun _ p => p
theorem RepsK.keep {v : List (Str × Value)} {d : List (Str × D)} (r : RepsK prog w h P v d) (hk : Keep h h') : RepsK prog w h' P v d := r.move (fun b o _ e => hk b o e) fun _ p => p
theorem Rep.mono {v : Value} {d : D} (r : Rep prog w h P v d) (hp : ∀ b, P b → P' b) : Rep prog w h P' v d := r.move (fun _ _ _ e => e) hp
theorem Reps.mono {v : List Value} {d : List D} (r : Reps prog w h P v d) (hp : ∀ b, P b → P' b) : Reps prog w h P' v d := r.move (fun _ _ _ e => e) hp
/-- a deep value lies in the heap: its addresses are live, so a predicate may be sharpened by liveness -/
theorem Rep.live {v : Value} {d : D} (r : Rep prog w h P v d) : Rep prog w h (fun a => P a ∧ Dom h a) v d := r.shift fun _ _ p e => ⟨e, p, _, e⟩
theorem Reps.live {vs : List Value} {ds : List D} (r : Reps prog w h P vs ds) : Reps prog w h (fun a => P a ∧ Dom h a) vs ds := r.shift fun _ _ p e => ⟨e, p, _, e⟩
theorem RepsK.live {vs : List (Str × Value)} {ds : List (Str × D)} (r : RepsK prog w h P vs ds) : RepsK prog w h (fun a => P a ∧ Dom h a) vs ds := r.shift fun _ _ p e => ⟨e, p, _, e⟩
/-- data without containers that could be changed -/
noncomputable def D.flat : D → Bool
  | .none => true
  | .bool _ => true
  | .int _ => true
  | .str _ => true
  | _ => false
theorem Rep.flat {v : Value} {d : D} (r : Rep prog w h P v d) (hf : d.flat = true) : Rep prog w h' P' v d := by
  cases r <;> first | exact .none | exact .bool | exact .int | exact .str | cases hf
theorem Reps.length {vs : List Value} {ds : List D} (r : Reps prog w h P vs ds) : vs.length = ds.length := by
  induction vs generalizing ds with
  | nil => cases r; rfl
  | cons v vs ih => cases r with | cons _ r => simp [ih r]
theorem Reps.append {vs vs' : List Value} {ds ds' : List D} (r : Reps prog w h P vs ds) (r' : Reps prog w h P vs' ds') : Reps prog w h P (vs ++ vs') (ds ++ ds') := by
  induction vs generalizing ds with
  | nil => cases r; exact r'
  | cons v vs ih => cases r with | cons x r => exact .cons x (ih r)
theorem Reps.get {vs : List Value} {ds : List D} (r : Reps prog w h P vs ds) {i : Nat} {d : D} (hd : ds[i]? = some d) : ∃ v, vs[i]? = some v ∧ Rep prog w h P v d := by
  induction vs generalizing ds i with
  | nil => cases r; simp at hd
  | cons v vs ih =>
    cases r with
    | cons x r =>
      cases i with
      | zero => simp at hd; subst hd; exact ⟨v, rfl, x⟩
      | succ i => simp at hd; obtain ⟨v', e, y⟩ := ih r hd; exact ⟨v', by simpa using e, y⟩
theorem Reps.get' {vs : List Value} {ds : List D} (r : Reps prog w h P vs ds) {i : Nat} {v : Value} (hv : vs[i]? = some v) : ∃ d, ds[i]? = some d ∧ Rep prog w h P v d := by
  induction vs generalizing ds i with
  | nil => simp at hv
  | cons u vs ih =>
    cases r with
    | cons x r =>
      cases i with
      | zero => simp at hv; subst hv; exact ⟨_, rfl, x⟩
      | succ i => simp at hv; obtain ⟨v', e, y⟩ := ih r hv; exact ⟨v', by simpa using e, y⟩
theorem Reps.drop {vs : List Value} {ds : List D} (r : Reps prog w h P vs ds) (i : Nat) : Reps prog w h P (vs.drop i) (ds.drop i) := by
  induction vs generalizing ds i with
  | nil => cases r; simp; exact .nil
  | cons u vs ih =>
    cases r with
    | cons x r => cases i with
      | zero => exact .cons x r
      | succ i => simpa using ih r i
theorem Reps.take {vs : List Value} {ds : List D} (r : Reps prog w h P vs ds) (i : Nat) : Reps prog w h P (vs.take i) (ds.take i) := by
  induction vs generalizing ds i with
  | nil => cases r; simp; exact .nil
  | cons u vs ih =>
    cases r with
    | cons x r => cases i with
      | zero => exact .nil
      | succ i => simpa using .cons x (ih r i)
theorem Reps.set {vs : List Value} {ds : List D} (r : Reps prog w h P vs ds) (i : Nat) {v : Value} {d : D} (x : Rep prog w h P v d) : Reps prog w h P (vs.set i v) (ds.set i d) := by
  induction vs generalizing ds i with
  | nil => cases r; exact .nil
  | cons u vs ih =>
    cases r with
    | cons y r => cases i with
      | zero => exact .cons x r
      | succ i => exact .cons y (ih r i)
theorem RepsK.length {vs : List (Str × Value)} {ds : List (Str × D)} (r : RepsK prog w h P vs ds) : vs.length = ds.length := by
  induction vs generalizing ds with
  | nil => cases r; rfl
  | cons v vs ih => cases r with | cons _ r => simp [ih r]
theorem RepsK.keys {vs : List (Str × Value)} {ds : List (Str × D)} (r : RepsK prog w h P vs ds) : vs.map (·.1) = ds.map (·.1) := by
  induction vs generalizing ds with
  | nil => cases r; rfl
  | cons v vs ih => cases r with | cons _ r => simp [ih r]
end
-- what a representation says of its value
section
variable {prog : Program} {w : World} {h : Heap} {P : Addr → Prop} {v : Value}
theorem Rep.invNone (r : Rep prog w h P v .none) : v = .none := by cases r with | none => rfl
theorem Rep.invBool {b : Bool} (r : Rep prog w h P v (.bool b)) : v = .bool b := by cases r with | bool => rfl
theorem Rep.invInt {i : Int} (r : Rep prog w h P v (.int i)) : ∃ t, v = .int i t := by cases r with | @int i t => exact ⟨t, rfl⟩
theorem Rep.invStr {x : Str} (r : Rep prog w h P v (.str x)) : ∃ t, v = .str x t := by cases r with | @str i t => exact ⟨t, rfl⟩
theorem Rep.invTup {ds : List D} (r : Rep prog w h P v (.tup ds)) : ∃ a vs, v = .ref a ∧ h.IsTuple a vs.toArray ∧ P a ∧ Reps prog w h P vs ds := by cases r with | @tup a vs _ hl p rs => exact ⟨a, vs, rfl, hl, p, rs⟩
theorem Rep.invList {ds : List D} (r : Rep prog w h P v (.list ds)) : ∃ a vs, v = .ref a ∧ h.IsList a vs.toArray ∧ P a ∧ Reps prog w h P vs ds := by cases r with | @list a vs _ hl p rs => exact ⟨a, vs, rfl, hl, p, rs⟩
theorem Rep.invDict {ds : List (Str × D)} (r : Rep prog w h P v (.dict ds)) : ∃ a kvs, v = .ref a ∧ SDict prog w h a kvs ∧ P a ∧ RepsK prog w h P kvs ds := by cases r with | @dict a vs _ hl p rs => exact ⟨a, vs, rfl, hl, p, rs⟩
theorem Reps.invNil {vs : List Value} (r : Reps prog w h P vs []) : vs = [] := by cases r with | nil => rfl
theorem Reps.invCons {vs : List Value} {d : D} {ds : List D} (r : Reps prog w h P vs (d :: ds)) : ∃ v vs', vs = v :: vs' ∧ Rep prog w h P v d ∧ Reps prog w h P vs' ds := by cases r with | @cons v d vs ds a b => exact ⟨v, vs, rfl, a, b⟩
theorem RepsK.invNil {vs : List (Str × Value)} (r : RepsK prog w h P vs []) : vs = [] := by cases r with | nil => rfl
theorem RepsK.invCons {vs : List (Str × Value)} {k : Str} {d : D} {ds : List (Str × D)} (r : RepsK prog w h P vs ((k, d) :: ds)) : ∃ v vs', vs = (k, v) :: vs' ∧ Rep prog w h P v d ∧ RepsK prog w h P vs' ds := by
  cases r with | @cons _ v _ vs' _ r rs => exact ⟨v, vs', rfl, r, rs⟩
end
end Mine
end
-- B2
section
open PySem PyProof.Rows PySem.W
set_option Elab.async false
namespace Mine
structure Cf where
  prog : Program
  w : World
  K : Frag
noncomputable abbrev Cf.M (c : Cf) : Model := model c.prog c.w
noncomputable abbrev Cf.Rep (c : Cf) := Mine.Rep c.prog c.w
noncomputable abbrev Cf.Reps (c : Cf) := Mine.Reps c.prog c.w
noncomputable abbrev Cf.RepsK (c : Cf) := Mine.RepsK c.prog c.w
noncomputable abbrev Cf.SDict (c : Cf) := Mine.SDict c.prog c.w
structure Gk (K : Frag) (h : Heap) : Prop where
  inn : K.In h
  g : ∃ mg, h.Ns mainGlobals mg
  b : ∃ mb, h.Ns builtinsNs mb ∧ ∀ x : Str, x ≠ "__name__" → mb x = bootBuiltins x
  nolimit : h.NoLimit
theorem Gk.keep {K : Frag} {h h' : Heap} (x : Gk K h) (hk : Keep h h') : Gk K h' :=
  ⟨x.inn.keeps hk, let ⟨mg, e⟩ := x.g; ⟨mg, e.keeps hk⟩, let ⟨mb, e, r⟩ := x.b; ⟨mb, e.keeps hk, r⟩, x.nolimit.keeps hk⟩
/-- the addresses that the module's facts hang on -/
noncomputable def GAddr (K : Frag) (a : Addr) : Prop := a = mainGlobals ∨ a = builtinsNs ∨ a = cStatics ∨ ∃ o, K.lookup a = some o
theorem ns_at {h h' : Heap} {a : Addr} {m : Str → Option Value} (x : h.Ns a m) (hk : ∀ o, h.get? a = some o → h'.get? a = some o) : h'.Ns a m :=
  let ⟨o, es, ep, e, r⟩ := x; ⟨o, es, ep, hk _ e, r⟩
theorem Gk.keepV {K : Frag} {h h' : Heap} (x : Gk K h) (hk : ∀ b o, GAddr K b → h.get? b = some o → h'.get? b = some o) : Gk K h' :=
  ⟨fun a o e => hk a o (.inr (.inr (.inr ⟨o, e⟩))) (x.inn a o e), let ⟨mg, e⟩ := x.g; ⟨mg, ns_at e fun o => hk _ o (.inl rfl)⟩,
    let ⟨mb, e, r⟩ := x.b; ⟨mb, ns_at e fun o => hk _ o (.inr (.inl rfl)), r⟩, let ⟨mc, e, r⟩ := x.nolimit; ⟨mc, ns_at e fun o => hk _ o (.inr (.inr (.inl rfl))), r⟩⟩
theorem Gk.dom {K : Frag} {h : Heap} (x : Gk K h) {a : Addr} (g : GAddr K a) : ∃ o, h.get? a = some o := by
  rcases g with rfl | rfl | rfl | ⟨o, e⟩
  · obtain ⟨_, o, _, _, e, _⟩ := x.g; exact ⟨o, e⟩
  · obtain ⟨_, ⟨o, _, _, e, _⟩, _⟩ := x.b; exact ⟨o, e⟩
  · obtain ⟨_, ⟨o, _, _, e, _⟩, _⟩ := x.nolimit; exact ⟨o, e⟩
  · exact ⟨o, x.inn a o e⟩
structure Rm (n : Nat) (A : Around) : Prop where
  handled : A.handled = none
  depth : A.depth + n < recursionLimit
  units : A.units + 16 * n + 16 < cLine
theorem Rm.le {n m : Nat} {A : Around} (x : Rm n A) (h : m ≤ n) : Rm m A := ⟨x.handled, by have := x.depth; lia, by have := x.units; lia⟩
theorem Rm.deeper {n : Nat} {A : Around} (x : Rm (n + 1) A) (env : Env) : Rm n (A.deeper env) := ⟨x.handled, by have := x.depth; show A.depth + 1 + n < _; lia, by have := x.units; show A.units + 3 + _ + _ < _; lia⟩
theorem Rm.unit {n : Nat} {A : Around} (x : Rm n A) : A.units < cLine := by have := x.units; lia
theorem Rm.room {n : Nat} {A : Around} (x : Rm n A) : A.depth < recursionLimit := by have := x.depth; lia
structure EnvOk (σ : List (Str × NameKind)) (env : Env) : Prop where
  kind : env.scope.kind = .function
  names : env.scope.names = σ
  glob : env.globals = mainGlobals
  blt : env.builtins = builtinsNs
  has : ∀ x, (σ.lookup x = some .cell ∨ σ.lookup x = some .free) → (env.cells.lookup x).isSome = true
  nl : ∀ x c, env.cells.lookup x = some c → σ.lookup x ≠ some .local
  apart : env.cells.Pairwise fun x y => x.2 ≠ y.2
  off : ∀ x a, (x, a) ∈ env.cells → a ≠ env.locals
theorem EnvOk.kindOf {σ : List (Str × NameKind)} {env : Env} (e : EnvOk σ env) (x : Str) : env.kindOf x = σ.lookup x := by unfold Env.kindOf; rw [e.names]
structure FrameAt (env : Env) (h : Heap) (ρ : Str → Option Value) : Prop where
  ns : ∃ m, h.Ns env.locals m ∧ ∀ x, env.kindOf x = some .local → m x = ρ x
  cell : ∀ x a, env.cells.lookup x = some a → h.IsCell a (ρ x)
theorem FrameAt.keep {env : Env} {h h' : Heap} {ρ : Str → Option Value} (F : FrameAt env h ρ) (hk : Keep h h') : FrameAt env h' ρ :=
  ⟨let ⟨m, e, r⟩ := F.ns; ⟨m, e.keeps hk, r⟩, fun x a e => (F.cell x a e).keeps hk⟩
noncomputable def FrameAddr (env : Env) (a : Addr) : Prop := a = env.locals ∨ ∃ x, env.cells.lookup x = some a
noncomputable def upd {α : Type} (ρ : Str → Option α) (x : Str) (v : α) : Str → Option α := fun y => if y = x then some v else ρ y
theorem upd_same {α : Type} {ρ : Str → Option α} {x : Str} {v : α} : upd ρ x v x = some v := by simp [upd]
theorem upd_ne {α : Type} {ρ : Str → Option α} {x y : Str} {v : α} {r : Option α} (h : y ≠ x) (e : ρ y = r) : upd ρ x v y = r := by simp [upd, h, e]
/-- the state's other parts are as they were -/
noncomputable def Same (s s' : Shared) : Prop := ∃ h' tk, s' = { s with heap := h', toks := tk }
theorem Same.refl (s : Shared) : Same s s := ⟨s.heap, s.toks, rfl⟩
theorem Same.trans {s s' s'' : Shared} (a : Same s s') (b : Same s' s'') : Same s s'' := by
  obtain ⟨h', tk, rfl⟩ := a; obtain ⟨h'', tk', rfl⟩ := b; exact ⟨h'', tk', rfl⟩
/-- the state grew -/
noncomputable def Grow (s s' : Shared) : Prop := Same s s' ∧ Keep s.heap s'.heap
theorem Grow.refl (s : Shared) : Grow s s := ⟨.refl s, fun _ _ e => e⟩
theorem Grow.trans {s s' s'' : Shared} (a : Grow s s') (b : Grow s' s'') : Grow s s'' := ⟨a.1.trans b.1, fun x o e => b.2 x o (a.2 x o e)⟩
theorem Grow.mk' {s : Shared} {h' : Heap} {tk : Nat} (hk : Keep s.heap h') : Grow s { s with heap := h', toks := tk } := ⟨⟨h', tk, rfl⟩, hk⟩
theorem frame_store {σ : List (Str × NameKind)} {env : Env} {M : Model} {A : Around} {E : Value → Shared → Prop} {s : Shared} {ρ : Str → Option Value} {x : Str} {v : Value} {Q : Unit → Shared → Prop}
    (e : EnvOk σ env) (F : FrameAt env s.heap ρ) (hx : σ.lookup x = some .local ∨ σ.lookup x = some .cell)
    (h : ∀ s', Same s s' → FrameAt env s'.heap (upd ρ x v) → KeepV (FrameAddr env) s.heap s'.heap → Q () s') : wpAny M A (storeName env x v) Q E s := by
  obtain ⟨m, hm, hr⟩ := F.ns
  rcases hx with hx | hx
  · refine wpAny_storeName_local ((e.kindOf x).trans hx) hm (fun h' hn hs => h _ ⟨h', _, rfl⟩ ⟨⟨_, hn, fun y hy => ?_⟩, fun y a hy => ?_⟩ fun b o hb he => ?_) (by rw [e.kind]; rfl)
    · show (if y = x then some v else m y) = (if y = x then some v else ρ y)
      split
      · rfl
      · exact hr y hy
    · have hyx : y ≠ x := by rintro rfl; exact e.nl _ _ hy hx
      show h'.IsCell a (if y = x then some v else ρ y)
      rw [if_neg hyx]
      exact (F.cell y a hy).sameBut hs (e.off y a (mem_of_lookup hy))
    · exact hs.extBut b o (fun q => hb (Or.inl q)) he
  · obtain ⟨a, ha⟩ := Option.isSome_iff_exists.mp (e.has x (Or.inl hx))
    refine wpAny_storeName_cell e.kind ((e.kindOf x).trans hx) ha (F.cell x a ha) fun h' hc hs => h _ ⟨h', _, rfl⟩ ⟨⟨m, hm.sameBut hs (Ne.symm (e.off x a (mem_of_lookup ha))), fun y hy => ?_⟩, fun y b hy => ?_⟩ fun b o hb he => ?_
    · have hyx : y ≠ x := by rintro rfl; rw [e.kindOf] at hy; rw [hx] at hy; cases hy
      show m y = (if y = x then some v else ρ y)
      rw [if_neg hyx]; exact hr y hy
    · show h'.IsCell b (if y = x then some v else ρ y)
      by_cases hyx : y = x
      · subst hyx; rw [ha] at hy; cases hy; rw [if_pos rfl]; exact hc
      · rw [if_neg hyx]
        exact (F.cell y b hy).sameBut hs fun q => hyx (name_of_addr e.apart (mem_of_lookup hy) (q ▸ mem_of_lookup ha))
    · exact hs.extBut b o (fun q => hb (Or.inr ⟨x, q ▸ ha⟩)) he
theorem frame_load {σ : List (Str × NameKind)} {env : Env} {M : Model} {A : Around} {E : Value → Shared → Prop} {s : Shared} {ρ : Str → Option Value} {x : Str} {v : Value} {Q : Value → Shared → Prop}
    (e : EnvOk σ env) (F : FrameAt env s.heap ρ) (hx : σ.lookup x = some .local ∨ σ.lookup x = some .cell ∨ σ.lookup x = some .free) (hv : ρ x = some v) (h : Q v s)
    (hn : (x == ("__classdict__" : Str)) = false) : wpAny M A (loadName env x) Q E s := by
  rcases hx with hx | hx | hx
  · obtain ⟨m, hm, hr⟩ := F.ns
    exact wpAny_loadName_local e.kind ((e.kindOf x).trans hx) hm ((hr x ((e.kindOf x).trans hx)).trans hv) h
  · obtain ⟨a, ha⟩ := Option.isSome_iff_exists.mp (e.has x (Or.inl hx))
    exact wpAny_loadName_cell e.kind ((e.kindOf x).trans hx) ha (hv ▸ F.cell x a ha) h
  · obtain ⟨a, ha⟩ := Option.isSome_iff_exists.mp (e.has x (Or.inr hx))
    exact wpAny_loadName_free e.kind ((e.kindOf x).trans hx) ha (hv ▸ F.cell x a ha) h hn
/-- what a variable bears -/
inductive Slot where
  | fz (d : D)
  | ol (ds : List D)
  | oi (ds : List D)
  | od (kvs : List (Str × D))
  | ld (dss : List (List (Str × D)))
  | oa (a : Addr) (ds : List D)
  | la (a : Addr) (dss : List (List (Str × D)))
section
variable (c : Cf)
inductive DictsAt (h : Heap) (P : Addr → Prop) : List Addr → List (List (Str × D)) → Prop
  | nil : DictsAt h P [] []
  | cons {b : Addr} {kvs : List (Str × Value)} {ds : List (Str × D)} {bs : List Addr} {dss : List (List (Str × D))} :
      c.SDict h b kvs → c.RepsK h P kvs ds → DictsAt h P bs dss → DictsAt h P (b :: bs) (ds :: dss)
inductive SlotRep (h : Heap) (P : Addr → Prop) : Value → Slot → List Addr → Prop
  | fz {v : Value} {d : D} : c.Rep h P v d → SlotRep h P v (.fz d) []
  | ol {a : Addr} {vs : List Value} {ds : List D} : h.PlainList a vs.toArray → c.Reps h P vs ds → SlotRep h P (.ref a) (.ol ds) [a]
  | oi {a : Addr} {vs : List Value} {ds : List D} : h.IsList a vs.toArray → c.Reps h P vs ds → SlotRep h P (.ref a) (.oi ds) [a]
  | od {a : Addr} {kvs : List (Str × Value)} {ds : List (Str × D)} : c.SDict h a kvs → c.RepsK h P kvs ds → SlotRep h P (.ref a) (.od ds) [a]
  | ld {a : Addr} {bs : List Addr} {dss : List (List (Str × D))} : h.IsList a (bs.map Value.ref).toArray → DictsAt c h P bs dss → SlotRep h P (.ref a) (.ld dss) (a :: bs)
  | oa {a : Addr} {vs : List Value} {ds : List D} : h.PlainList a vs.toArray → c.Reps h P vs ds → SlotRep h P (.ref a) (.oa a ds) [a]
  | la {a : Addr} {bs : List Addr} {dss : List (List (Str × D))} : h.PlainList a (bs.map Value.ref).toArray → (∀ b ∈ bs, a < b) → DictsAt c h P bs dss → SlotRep h P (.ref a) (.la a dss) (a :: bs)
end
noncomputable abbrev Vars := Str → Option Slot
noncomputable def Cl (U V : Addr → Prop) : Addr → Prop := fun a => ¬ U a ∧ ¬ V a
/-- clean (m = true) or borrowed -/
noncomputable def PM (m : Bool) (U V : Addr → Prop) : Addr → Prop := fun a => ¬ U a ∧ (m = true → ¬ V a)
theorem DictsAt.move {c : Cf} {h h' : Heap} {P P' : Addr → Prop} {bs : List Addr} {dss : List (List (Str × D))} (x : DictsAt c h P bs dss)
    (ho : ∀ b ∈ bs, ∀ o, h.get? b = some o → h'.get? b = some o) (hk : ∀ b o, P b → h.get? b = some o → h'.get? b = some o) (hp : ∀ b, P b → P' b) : DictsAt c h' P' bs dss := by
  induction x with
  | nil => exact .nil
  | cons d r _ ih => exact .cons (dictOf_at d fun o e => ho _ List.mem_cons_self o e) (r.move hk hp) (ih fun b hb => ho b (List.mem_cons_of_mem _ hb))
theorem SlotRep.move {c : Cf} {h h' : Heap} {P P' : Addr → Prop} {v : Value} {sl : Slot} {os : List Addr} (x : SlotRep c h P v sl os)
    (ho : ∀ b ∈ os, ∀ o, h.get? b = some o → h'.get? b = some o) (hk : ∀ b o, P b → h.get? b = some o → h'.get? b = some o) (hp : ∀ b, P b → P' b) : SlotRep c h' P' v sl os := by
  cases x with
  | fz r => exact .fz (r.move hk hp)
  | ol l r => exact .ol (l.at fun o e => ho _ List.mem_cons_self o e) (r.move hk hp)
  | oi l r => exact .oi (l.at fun o e => ho _ List.mem_cons_self o e) (r.move hk hp)
  | od d r => exact .od (dictOf_at d fun o e => ho _ List.mem_cons_self o e) (r.move hk hp)
  | ld l d => exact .ld (l.at fun o e => ho _ List.mem_cons_self o e) (d.move (fun b hb => ho b (List.mem_cons_of_mem _ hb)) hk hp)
  | oa l r => exact .oa (l.at fun o e => ho _ List.mem_cons_self o e) (r.move hk hp)
  | la l q d => exact .la (l.at fun o e => ho _ List.mem_cons_self o e) q (d.move (fun b hb => ho b (List.mem_cons_of_mem _ hb)) hk hp)
theorem DictsAt.live {c : Cf} {h : Heap} {P : Addr → Prop} {bs : List Addr} {dss : List (List (Str × D))} (x : DictsAt c h P bs dss) : DictsAt c h (fun a => P a ∧ Dom h a) bs dss := by
  induction x with
  | nil => exact .nil
  | cons d r _ ih => exact .cons d r.live ih
theorem DictsAt.dom {c : Cf} {h : Heap} {P : Addr → Prop} {bs : List Addr} {dss : List (List (Str × D))} (x : DictsAt c h P bs dss) : ∀ b ∈ bs, Dom h b := by
  induction x with
  | nil => intro b hb; cases hb
  | cons d _ _ ih =>
    intro b hb
    rcases List.mem_cons.mp hb with rfl | hb
    · exact d.dom
    · exact ih b hb
theorem SlotRep.live {c : Cf} {h : Heap} {P : Addr → Prop} {v : Value} {sl : Slot} {os : List Addr} (x : SlotRep c h P v sl os) : SlotRep c h (fun a => P a ∧ Dom h a) v sl os := by
  cases x with
  | fz r => exact .fz r.live
  | ol l r => exact .ol l r.live
  | oi l r => exact .oi l r.live
  | od d r => exact .od d r.live
  | ld l d => exact .ld l d.live
  | oa l r => exact .oa l r.live
  | la l q d => exact .la l q d.live
/-- the frame's invariant -/
structure InvAt (c : Cf) (env : Env) (U V : Addr → Prop) (Γ : Vars) (h : Heap) (ρ : Str → Option Value) (os : Str → List Addr) : Prop where
  fr : FrameAt env h ρ
  var : ∀ x sl, Γ x = some sl → ∃ v, ρ x = some v ∧ SlotRep c h (Cl U V) v sl (os x)
  nd : ∀ x sl, Γ x = some sl → (os x).Nodup
  own : ∀ x sl, Γ x = some sl → ∀ a ∈ os x, V a ∧ ¬ FrameAddr env a
  dis : ∀ x sl y sl', Γ x = some sl → Γ y = some sl' → y ≠ x → ∀ a ∈ os x, a ∉ os y
  vf : ∀ a, FrameAddr env a → V a
  uv : ∀ a, V a → ¬ U a
  vd : ∀ a, V a → Dom h a
  ud : ∀ a, U a → Dom h a
  gb : ∀ a, V a → ¬ GAddr c.K a
  gk : Gk c.K h
noncomputable def Inv (c : Cf) (env : Env) (U V : Addr → Prop) (Γ : Vars) (h : Heap) : Prop := ∃ ρ os, InvAt c env U V Γ h ρ os
theorem Dom.keep {h h' : Heap} {a : Addr} (x : Dom h a) (hk : Keep h h') : Dom h' a := let ⟨o, e⟩ := x; ⟨o, hk _ _ e⟩
theorem InvAt.keep {c : Cf} {env : Env} {U V : Addr → Prop} {Γ : Vars} {h h' : Heap} {ρ : Str → Option Value} {os : Str → List Addr} (I : InvAt c env U V Γ h ρ os) (hk : Keep h h') : InvAt c env U V Γ h' ρ os :=
  ⟨I.fr.keep hk, fun x sl e => let ⟨v, a, b⟩ := I.var x sl e; ⟨v, a, b.move (fun b _ o e => hk b o e) (fun b o _ e => hk b o e) fun _ p => p⟩, I.nd, I.own, I.dis, I.vf, I.uv,
    fun a x => (I.vd a x).keep hk, fun a x => (I.ud a x).keep hk, I.gb, I.gk.keep hk⟩
theorem Inv.keep {c : Cf} {env : Env} {U V : Addr → Prop} {Γ : Vars} {h h' : Heap} (I : Inv c env U V Γ h) (hk : Keep h h') : Inv c env U V Γ h' :=
  let ⟨ρ, os, I⟩ := I; ⟨ρ, os, I.keep hk⟩
/-- fewer variables, the same words -/
theorem InvAt.sub {c : Cf} {env : Env} {U V : Addr → Prop} {Γ Γ' : Vars} {h : Heap} {ρ : Str → Option Value} {os : Str → List Addr} (I : InvAt c env U V Γ h ρ os) (hs : ∀ x sl, Γ' x = some sl → Γ x = some sl) : InvAt c env U V Γ' h ρ os :=
  ⟨I.fr, fun x sl e => I.var x sl (hs x sl e), fun x sl e => I.nd x sl (hs x sl e), fun x sl e => I.own x sl (hs x sl e), fun x sl y sl' e e' => I.dis x sl y sl' (hs _ _ e) (hs _ _ e'), I.vf, I.uv, I.vd, I.ud, I.gb, I.gk⟩
theorem Inv.sub {c : Cf} {env : Env} {U V : Addr → Prop} {Γ Γ' : Vars} {h : Heap} (I : Inv c env U V Γ h) (hs : ∀ x sl, Γ' x = some sl → Γ x = some sl) : Inv c env U V Γ' h :=
  let ⟨ρ, os, I⟩ := I; ⟨ρ, os, I.sub hs⟩
/-- more addresses shut out (fresh ones): callers' or iterators' -/
theorem InvAt.shut {c : Cf} {env : Env} {U U' V : Addr → Prop} {Γ : Vars} {h h' : Heap} {ρ : Str → Option Value} {os : Str → List Addr} (I : InvAt c env U V Γ h ρ os) (hk : Keep h h')
    (hu : ∀ a, U' a → (U a ∨ h.get? a = none) ∧ Dom h' a) : InvAt c env U' V Γ h' ρ os where
  fr := I.fr.keep hk
  var := fun x sl e => by
    obtain ⟨v, a, b⟩ := I.var x sl e
    refine ⟨v, a, b.live.move (fun b _ o e => hk b o e) (fun b o _ e => hk b o e) fun a p => ⟨fun q => ?_, p.1.2⟩⟩
    rcases (hu a q).1 with q | q
    · exact p.1.1 q
    · obtain ⟨o, e⟩ := p.2; rw [q] at e; cases e
  nd := I.nd
  own := I.own
  dis := I.dis
  vf := I.vf
  uv := fun a x q => by
    rcases (hu a q).1 with q | q
    · exact I.uv a x q
    · obtain ⟨o, e⟩ := I.vd a x; rw [q] at e; cases e
  vd := fun a x => (I.vd a x).keep hk
  ud := fun a x => (hu a x).2
  gb := I.gb
  gk := I.gk.keep hk
/-- judgements -/
noncomputable def EvE (c : Cf) (σ : List (Str × NameKind)) (n : Nat) (Γ : Vars) (m : Bool) (e : Expr) (d : D) : Prop :=
  ∀ env U V A s, EnvOk σ env → Rm n A → Inv c env U V Γ s.heap → wpAny c.M A (eval e env) (fun v s' => Grow s s' ∧ c.Rep s'.heap (PM m U V) v d) (fun _ _ => False) s
noncomputable def EvT (c : Cf) (σ : List (Str × NameKind)) (n : Nat) (Γ : Vars) (e : Expr) (b : Bool) : Prop :=
  ∀ env U V A s, EnvOk σ env → Rm n A → Inv c env U V Γ s.heap → wpAny c.M A (isTrue e env (eval e env)) (fun r s' => Grow s s' ∧ r = b) (fun _ _ => False) s
noncomputable def EvEs (c : Cf) (σ : List (Str × NameKind)) (n : Nat) (Γ : Vars) (m : Bool) (es : List Expr) (ds : List D) : Prop :=
  ∀ env U V A s pos, EnvOk σ env → Rm n A → Inv c env U V Γ s.heap → wpAny c.M A (spliced (backTo pos (starEach es env))) (fun vs s' => Grow s s' ∧ c.Reps s'.heap (PM m U V) vs ds) (fun _ _ => False) s
inductive Out where
  | next (Γ : Vars)
  | ret (d : D)
noncomputable def VExt (s : Shared) (V V' : Addr → Prop) : Prop := ∀ a, V' a → V a ∨ s.heap.get? a = none
/-- what a statement leaves -/
noncomputable def Left (c : Cf) (env : Env) (U V : Addr → Prop) (s : Shared) (out : Out) (f : Flow) (s' : Shared) : Prop :=
  Same s s' ∧ KeepV V s.heap s'.heap ∧ match out with
    | .next Γ' => f = .next ∧ ∃ V', VExt s V V' ∧ Inv c env U V' Γ' s'.heap
    | .ret d => ∃ v, f = .ret v ∧ c.Rep s'.heap (fun a => ¬ U a) v d ∧ (∀ a, U a → Dom s'.heap a)
noncomputable def Exs (c : Cf) (σ : List (Str × NameKind)) (n : Nat) (Γ : Vars) (sts : List Stmt) (out : Out) : Prop :=
  ∀ env U V A s, EnvOk σ env → Rm n A → Inv c env U V Γ s.heap → wpAny c.M A (execs sts env) (Left c env U V s out) (fun _ _ => False) s
noncomputable def Ex (c : Cf) (σ : List (Str × NameKind)) (n : Nat) (Γ : Vars) (st : Stmt) (out : Out) : Prop :=
  ∀ env U V A s, EnvOk σ env → Rm n A → Inv c env U V Γ s.heap → wpAny c.M A (exec st env) (Left c env U V s out) (fun _ _ => False) s
noncomputable def FunSpec (c : Cf) (f : Addr) (n : Nat) (ds : List D) (d : D) : Prop :=
  ∀ (U : Addr → Prop) A s vs, Rm n A → Gk c.K s.heap → (∀ a, U a → Dom s.heap a) → c.Reps s.heap (fun a => ¬ U a) vs ds →
    wpAny c.M A (call (.ref f) vs) (fun v s' => Grow s s' ∧ c.Rep s'.heap (fun a => ¬ U a) v d) (fun _ _ => False) s
theorem Left.trans {c : Cf} {env : Env} {U V V₁ : Addr → Prop} {s s₁ s₂ : Shared} {out : Out} {f : Flow} (a : Same s s₁) (k : KeepV V s.heap s₁.heap) (x : VExt s V V₁) (l : Left c env U V₁ s₁ out f s₂) : Left c env U V s out f s₂ := by
  obtain ⟨a', k', r⟩ := l
  have hb : ∀ b o, ¬ V b → s.heap.get? b = some o → ¬ V₁ b := fun b o hb e q => by
    rcases x b q with q | q
    · exact hb q
    · rw [q] at e; cases e
  refine ⟨a.trans a', fun b o h e => k' b o (hb b o h e) (k b o h e), ?_⟩
  cases out with
  | ret d => exact r
  | next Γ' =>
    obtain ⟨e, V', x', I⟩ := r
    refine ⟨e, V', fun b q => ?_, I⟩
    rcases x' b q with q | q
    · exact x b q
    · by_cases hv : V b
      · exact Or.inl hv
      · refine Or.inr ?_
        cases e : s.heap.get? b with
        | none => rfl
        | some o => rw [k b o hv e] at q; cases q
theorem Exs.nil {c : Cf} {σ : List (Str × NameKind)} {n : Nat} {Γ : Vars} : Exs c σ n Γ [] (.next Γ) :=
  fun _ _ _ _ s _ _ I => wpAny_execs_nil ⟨.refl s, fun _ _ _ e => e, rfl, _, fun _ h => Or.inl h, I⟩
theorem Exs.cons {c : Cf} {σ : List (Str × NameKind)} {n : Nat} {Γ Γ' : Vars} {st : Stmt} {r : List Stmt} {out : Out} (a : Ex c σ n Γ st (.next Γ')) (b : Exs c σ n Γ' r out) : Exs c σ n Γ (st :: r) out :=
  fun env U V A s e R I => wpAny_execs_cons (wpAny_mono (a env U V A s e R I) (fun f s₁ l => by
    obtain ⟨a', k', rfl, V', x, I'⟩ := l
    exact wpAny_mono (b env U V' A s₁ e R I') (fun _ _ l => Left.trans a' k' x l) fun _ _ h => h) fun _ _ h => h)
theorem Exs.ret {c : Cf} {σ : List (Str × NameKind)} {n : Nat} {Γ : Vars} {st : Stmt} {r : List Stmt} {d : D} (a : Ex c σ n Γ st (.ret d)) : Exs c σ n Γ (st :: r) (.ret d) :=
  fun env U V A s e R I => wpAny_execs_cons (wpAny_mono (a env U V A s e R I) (fun f s₁ l => by
    obtain ⟨a', k', v, rfl, q⟩ := l
    exact ⟨a', k', v, rfl, q⟩) fun _ _ h => h)
theorem Exs.sub {c : Cf} {σ : List (Str × NameKind)} {n : Nat} {Γ Γ' : Vars} {sts : List Stmt} {out : Out} (hs : ∀ x sl, Γ' x = some sl → Γ x = some sl) (a : Exs c σ n Γ' sts out) : Exs c σ n Γ sts out :=
  fun env U V A s e R I => a env U V A s e R (I.sub hs)
theorem Ex.sub {c : Cf} {σ : List (Str × NameKind)} {n : Nat} {Γ Γ' : Vars} {st : Stmt} {out : Out} (hs : ∀ x sl, Γ' x = some sl → Γ x = some sl) (a : Ex c σ n Γ' st out) : Ex c σ n Γ st out :=
  fun env U V A s e R I => a env U V A s e R (I.sub hs)
theorem Left.weaken {c : Cf} {env : Env} {U V : Addr → Prop} {s s' : Shared} {Γ Γ' : Vars} {f : Flow} (l : Left c env U V s (.next Γ) f s') (hs : ∀ x sl, Γ' x = some sl → Γ x = some sl) : Left c env U V s (.next Γ') f s' := by
  obtain ⟨a, k, e, V', x, I⟩ := l; exact ⟨a, k, e, V', x, I.sub hs⟩
theorem Exs.weaken {c : Cf} {σ : List (Str × NameKind)} {n : Nat} {Γ Γ₁ Γ₂ : Vars} {sts : List Stmt} (a : Exs c σ n Γ sts (.next Γ₁)) (hs : ∀ x sl, Γ₂ x = some sl → Γ₁ x = some sl) : Exs c σ n Γ sts (.next Γ₂) :=
  fun env U V A s e R I => wpAny_mono (a env U V A s e R I) (fun _ _ l => l.weaken hs) fun _ _ h => h
theorem EvE.sub {c : Cf} {σ : List (Str × NameKind)} {n : Nat} {Γ Γ' : Vars} {m : Bool} {e : Expr} {d : D} (hs : ∀ x sl, Γ' x = some sl → Γ x = some sl) (a : EvE c σ n Γ' m e d) : EvE c σ n Γ m e d :=
  fun env U V A s E R I => a env U V A s E R (I.sub hs)
-- what a slot says of its value
section
variable {c : Cf} {h : Heap} {P : Addr → Prop} {v : Value} {os : List Addr}
theorem SlotRep.invFz {d : D} (r : SlotRep c h P v (.fz d) os) : os = [] ∧ c.Rep h P v d := by cases r with | fz r => exact ⟨rfl, r⟩
theorem SlotRep.invOl {ds : List D} (r : SlotRep c h P v (.ol ds) os) : ∃ a vs, v = .ref a ∧ os = [a] ∧ h.PlainList a (List.toArray vs) ∧ c.Reps h P vs ds := by cases r with | ol l r => exact ⟨_, _, rfl, rfl, l, r⟩
theorem SlotRep.invOi {ds : List D} (r : SlotRep c h P v (.oi ds) os) : ∃ a vs, v = .ref a ∧ os = [a] ∧ h.IsList a (List.toArray vs) ∧ c.Reps h P vs ds := by cases r with | oi l r => exact ⟨_, _, rfl, rfl, l, r⟩
theorem SlotRep.invOd {ds : List (Str × D)} (r : SlotRep c h P v (.od ds) os) : ∃ a kvs, v = .ref a ∧ os = [a] ∧ c.SDict h a kvs ∧ c.RepsK h P kvs ds := by cases r with | od l r => exact ⟨_, _, rfl, rfl, l, r⟩
theorem SlotRep.invLd {dss : List (List (Str × D))} (r : SlotRep c h P v (.ld dss) os) : ∃ a bs, v = .ref a ∧ os = a :: bs ∧ h.IsList a (List.map Value.ref bs).toArray ∧ DictsAt c h P bs dss := by cases r with | ld l r => exact ⟨_, _, rfl, rfl, l, r⟩
end
end Mine
end
-- B3
section
open PySem PyProof.Rows PySem.W
set_option Elab.async false
set_option linter.unusedVariables false
namespace Mine
section
variable {c : Cf} {σ : List (Str × NameKind)} {n : Nat} {Γ : Vars} {m : Bool} {d d₁ d₂ : D}
noncomputable abbrev NoE : Value → Shared → Prop := fun _ _ => False
theorem slot_read {c : Cf} {h : Heap} {U V : Addr → Prop} {v : Value} {d : D} {os : List Addr} (r : SlotRep c h (Cl U V) v (.fz d) os) (m : Bool) : c.Rep h (PM m U V) v d := by
  obtain ⟨rfl, r2⟩ := r.invFz
  exact r2.mono fun a p => ⟨p.1, fun _ => p.2⟩
/-- plain consequence -/
theorem EvE.borrow {e : Expr} (a : EvE c σ n Γ true e d) : EvE c σ n Γ false e d :=
  fun env U V A s E R I => wpAny_mono (a env U V A s E R I) (fun _ _ x => ⟨x.1, x.2.mono fun _ p => ⟨p.1, fun q => by cases q⟩⟩) fun _ _ x => x
theorem EvE.lend {e : Expr} (a : EvE c σ n Γ true e d) : EvE c σ n Γ m e d := by cases m; exact a.borrow; exact a
theorem EvE.flat {e : Expr} (a : EvE c σ n Γ false e d) (hf : d.flat = true) : EvE c σ n Γ m e d :=
  fun env U V A s E R I => wpAny_mono (a env U V A s E R I) (fun _ _ x => ⟨x.1, x.2.flat hf⟩) fun _ _ x => x
theorem EvE.int {i : Int} {k : Nat} {pos : Pos} : EvE c σ n Γ m (.Constant (.int i) k pos) (.int i) :=
  fun _ _ _ _ _ _ _ _ => wpAny_Constant_int ⟨.mk' fun _ _ e => e, .int⟩
theorem EvE.str {x : Str} {k : Nat} {pos : Pos} : EvE c σ n Γ m (.Constant (.str x) k pos) (.str x) :=
  fun _ _ _ _ _ _ _ _ => wpAny_Constant_str ⟨.mk' fun _ _ e => e, .str⟩
theorem EvE.bool {b : Bool} {k : Nat} {pos : Pos} : EvE c σ n Γ m (.Constant (.bool b) k pos) (.bool b) :=
  fun _ _ _ _ s _ _ _ => wpAny_Constant_bool ⟨.refl s, .bool⟩
theorem EvE.name {x : Str} {pos : Pos} (hΓ : Γ x = some (.fz d)) (hx : σ.lookup x = some .local ∨ σ.lookup x = some .cell ∨ σ.lookup x = some .free)
    (hn : (x == ("__classdict__" : Str)) = false := by decide) (hd : (x == ("__debug__" : Str)) = false := by decide) : EvE c σ n Γ m (.Name x pos) d :=
  fun env U V A s E R I => by
    obtain ⟨ρ, os, I⟩ := I
    obtain ⟨v, hv, r⟩ := I.var x _ hΓ
    exact wpAny_Name (frame_load E I.fr hx hv ⟨.refl s, slot_read r m⟩ hn) hd
/-- an owned variable, borrowed -/
theorem name_own {x : Str} {pos : Pos} {sl : Slot} (hΓ : Γ x = some sl) (hx : σ.lookup x = some .local ∨ σ.lookup x = some .cell ∨ σ.lookup x = some .free)
    (hn : (x == ("__classdict__" : Str)) = false) (hd : (x == ("__debug__" : Str)) = false)
    (hs : ∀ (h : Heap) (U V : Addr → Prop) v os, (∀ a ∈ os, ¬ U a) → SlotRep c h (Cl U V) v sl os → c.Rep h (PM false U V) v d) : EvE c σ n Γ false (.Name x pos) d :=
  fun env U V A s E R I => by
    obtain ⟨ρ, os, I⟩ := I
    obtain ⟨v, hv, r⟩ := I.var x _ hΓ
    exact wpAny_Name (frame_load E I.fr hx hv ⟨.refl s, hs _ _ _ _ _ (fun a ha => I.uv a (I.own x _ hΓ a ha).1) r⟩ hn) hd
theorem cl_false {U V : Addr → Prop} {a : Addr} (p : Cl U V a) : PM false U V a := ⟨p.1, fun q => by cases q⟩
theorem EvE.name_ol {x : Str} {pos : Pos} {ds : List D} (hΓ : Γ x = some (.ol ds)) (hx : σ.lookup x = some .local ∨ σ.lookup x = some .cell ∨ σ.lookup x = some .free)
    (hn : (x == ("__classdict__" : Str)) = false := by decide) (hd : (x == ("__debug__" : Str)) = false := by decide) : EvE c σ n Γ false (.Name x pos) (.list ds) :=
  name_own hΓ hx hn hd fun h U V v os ho r => by
    obtain ⟨_, _, rfl, rfl, l, r⟩ := r.invOl
    exact .list l.isList ⟨ho _ List.mem_cons_self, fun q => by cases q⟩ (r.mono fun _ p => cl_false p)
theorem EvE.name_oi {x : Str} {pos : Pos} {ds : List D} (hΓ : Γ x = some (.oi ds)) (hx : σ.lookup x = some .local ∨ σ.lookup x = some .cell ∨ σ.lookup x = some .free)
    (hn : (x == ("__classdict__" : Str)) = false := by decide) (hd : (x == ("__debug__" : Str)) = false := by decide) : EvE c σ n Γ false (.Name x pos) (.list ds) :=
  name_own hΓ hx hn hd fun h U V v os ho r => by
    obtain ⟨_, _, rfl, rfl, l, r⟩ := r.invOi
    exact .list l ⟨ho _ List.mem_cons_self, fun q => by cases q⟩ (r.mono fun _ p => cl_false p)
theorem EvE.name_od {x : Str} {pos : Pos} {kvs : List (Str × D)} (hΓ : Γ x = some (.od kvs)) (hx : σ.lookup x = some .local ∨ σ.lookup x = some .cell ∨ σ.lookup x = some .free)
    (hn : (x == ("__classdict__" : Str)) = false := by decide) (hd : (x == ("__debug__" : Str)) = false := by decide) : EvE c σ n Γ false (.Name x pos) (.dict kvs) :=
  name_own hΓ hx hn hd fun h U V v os ho r => by
    obtain ⟨_, _, rfl, rfl, l, r⟩ := r.invOd
    exact .dict l ⟨ho _ List.mem_cons_self, fun q => by cases q⟩ (r.move (fun _ _ _ e => e) fun _ p => cl_false p)
/-- two expressions in a row -/
theorem ev2 {e₁ e₂ : Expr} {env : Env} {U V : Addr → Prop} {A : Around} {s : Shared} {Q : Value → Value → Shared → Prop} (a : EvE c σ n Γ m e₁ d₁) (b : EvE c σ n Γ m e₂ d₂)
    (E : EnvOk σ env) (R : Rm n A) (I : Inv c env U V Γ s.heap)
    (h : ∀ v₁ v₂ s₂, Grow s s₂ → Inv c env U V Γ s₂.heap → c.Rep s₂.heap (PM m U V) v₁ d₁ → c.Rep s₂.heap (PM m U V) v₂ d₂ → Q v₁ v₂ s₂) :
    wpAny c.M A (eval e₁ env) (fun v₁ s₁ => wpAny c.M A (eval e₂ env) (fun v₂ s₂ => Q v₁ v₂ s₂) NoE s₁) NoE s :=
  wpAny_mono (a env U V A s E R I) (fun v₁ s₁ x => wpAny_mono (b env U V A s₁ E R (I.keep x.1.2)) (fun v₂ s₂ y => h v₁ v₂ s₂ (x.1.trans y.1) ((I.keep x.1.2).keep y.1.2) (x.2.keep y.1.2) y.2) fun _ _ z => z) fun _ _ z => z
/-- values: operators. P holds of fresh addresses -/
noncomputable def BinV (c : Cf) (op : Operator) (d₁ d₂ d : D) : Prop := ∀ (P : Addr → Prop) A s v₁ v₂, Rm 0 A → (∀ a, s.heap.get? a = none → P a) → c.Rep s.heap P v₁ d₁ → c.Rep s.heap P v₂ d₂ →
  wpAny c.M A (binaryOp op v₁ v₂) (fun v s' => Grow s s' ∧ c.Rep s'.heap P v d) NoE s
noncomputable def CmpV (c : Cf) (op : CmpOp) (d₁ d₂ : D) (b : Bool) : Prop := ∀ (P : Addr → Prop) A s v₁ v₂, Rm 0 A → Gk c.K s.heap → c.Rep s.heap P v₁ d₁ → c.Rep s.heap P v₂ d₂ →
  wpAny c.M A (compareOp op v₁ v₂) (fun v s' => Grow s s' ∧ v = .bool b) NoE s
noncomputable def SubV (c : Cf) (d₁ d₂ d : D) : Prop := ∀ (P : Addr → Prop) s v₁ v₂, c.Rep s.heap P v₁ d₁ → c.Rep s.heap P v₂ d₂ →
  ∃ T id, s.TypeIs v₁ T ∧ typeLookup (.type T) "__getitem__" = pure (some (.builtin id)) ∧ ∀ A, Rm 0 A → wpAny c.M A (getItem v₁ v₂) (fun v s' => Grow s s' ∧ c.Rep s'.heap P v d) NoE s
noncomputable def TruV (c : Cf) (d : D) (b : Bool) : Prop := ∀ (P : Addr → Prop) A s v, Rm 0 A → c.Rep s.heap P v d → wpAny c.M A (truthy v) (fun r s' => Grow s s' ∧ r = b) NoE s
noncomputable def UnV (c : Cf) (op : UnaryOp) (d₁ d : D) : Prop := ∀ (P : Addr → Prop) A s v, Rm 0 A → c.Rep s.heap P v d₁ → wpAny c.M A (unaryOp op v) (fun v s' => Grow s s' ∧ c.Rep s'.heap P v d) NoE s
theorem fresh_pm {env : Env} {U V : Addr → Prop} {h : Heap} (I : Inv c env U V Γ h) (m : Bool) : ∀ a, h.get? a = none → PM m U V a := by
  obtain ⟨ρ, os, I⟩ := I
  intro a e
  refine ⟨fun q => ?_, fun _ q => ?_⟩
  · obtain ⟨o, e'⟩ := I.ud a q; rw [e] at e'; cases e'
  · obtain ⟨o, e'⟩ := I.vd a q; rw [e] at e'; cases e'
theorem Inv.gk {env : Env} {U V : Addr → Prop} {h : Heap} (I : Inv c env U V Γ h) : Gk c.K h := let ⟨_, _, I⟩ := I; I.gk
theorem EvE.bin {e₁ e₂ : Expr} {op : Operator} {pos : Pos} (a : EvE c σ n Γ m e₁ d₁) (b : EvE c σ n Γ m e₂ d₂) (h : BinV c op d₁ d₂ d) : EvE c σ n Γ m (.BinOp e₁ op e₂ pos) d :=
  fun env U V A s E R I => wpAny_BinOp (ev2 a b E R I fun v₁ v₂ s₂ g I₂ r₁ r₂ => wpAny_mono (h _ A s₂ v₁ v₂ (R.le (Nat.zero_le _)) (fresh_pm I₂ m) r₁ r₂) (fun _ _ x => ⟨g.trans x.1, x.2⟩) fun _ _ z => z)
theorem EvE.un {e₁ : Expr} {op : UnaryOp} {pos : Pos} (a : EvE c σ n Γ m e₁ d₁) (h : UnV c op d₁ d) : EvE c σ n Γ m (.UnaryOp op e₁ pos) d :=
  fun env U V A s E R I => wpAny_UnaryOp (wpAny_mono (a env U V A s E R I) (fun v s₁ x => wpAny_mono (h _ A s₁ v (R.le (Nat.zero_le _)) x.2) (fun _ _ y => ⟨x.1.trans y.1, y.2⟩) fun _ _ z => z) fun _ _ z => z)
theorem EvE.cmp {e₁ e₂ : Expr} {op : CmpOp} {pos : Pos} {b : Bool} (x : EvE c σ n Γ false e₁ d₁) (y : EvE c σ n Γ false e₂ d₂) (h : CmpV c op d₁ d₂ b) (hm : behindInMarks op e₂ = false := by rfl) : EvE c σ n Γ m (.Compare e₁ [op] [e₂] pos) (.bool b) :=
  fun env U V A s E R I => wpAny_Compare1 (ev2 x y E R I fun v₁ v₂ s₂ g I₂ r₁ r₂ => wpAny_mono (h _ A s₂ v₁ v₂ (R.le (Nat.zero_le _)) I₂.gk r₁ r₂) (fun _ _ x => ⟨g.trans x.1, x.2 ▸ .bool⟩) fun _ _ z => z) hm
theorem EvT.cmp {e₁ e₂ : Expr} {op : CmpOp} {pos : Pos} {b : Bool} (x : EvE c σ n Γ false e₁ d₁) (y : EvE c σ n Γ false e₂ d₂) (h : CmpV c op d₁ d₂ b) (hm : behindInMarks op e₂ = false := by rfl) : EvT c σ n Γ (.Compare e₁ [op] [e₂] pos) b :=
  fun env U V A s E R I => wpAny_isTrue_Compare1 (ev2 x y E R I fun v₁ v₂ s₂ g I₂ r₁ r₂ => wpAny_mono (h _ A s₂ v₁ v₂ (R.le (Nat.zero_le _)) I₂.gk r₁ r₂) (fun _ _ x => by rw [x.2]; exact wpAny_truthy_bool ⟨g.trans x.1, rfl⟩) fun _ _ z => z) hm
theorem EvT.value {e : Expr} {b : Bool} (a : EvE c σ n Γ false e d) (h : TruV c d b)
    (he : ∀ env whole, isTrue e env whole = (do let v ← whole; standAt e.pos; holding [v] (truthy v)) := by intro _ _; rfl) : EvT c σ n Γ e b :=
  fun env U V A s E R I => wpAny_isTrue_value (wpAny_mono (a env U V A s E R I) (fun v s₁ x => wpAny_mono (h _ A s₁ v (R.le (Nat.zero_le _)) x.2) (fun _ _ y => ⟨x.1.trans y.1, y.2⟩) fun _ _ z => z) fun _ _ z => z) (he env _)
theorem EvT.not {e : Expr} {b : Bool} {pos : Pos} (a : EvT c σ n Γ e b) : EvT c σ n Γ (.UnaryOp .Not e pos) (!b) :=
  fun env U V A s E R I => wpAny_isTrue_Not (wpAny_mono (a env U V A s E R I) (fun v s₁ x => ⟨x.1, by rw [x.2]⟩) fun _ _ z => z)
/-- a chain of and | or -/
noncomputable def AllT (c : Cf) (σ : List (Str × NameKind)) (n : Nat) (Γ : Vars) (op : BoolOp) (es : List Expr) (b : Bool) : Prop :=
  ∀ env U V A s, EnvOk σ env → Rm n A → Inv c env U V Γ s.heap → wpAny c.M A (allTrue op es env) (fun r s' => Grow s s' ∧ r = b) NoE s
theorem EvT.boolop {op : BoolOp} {es : List Expr} {pos : Pos} {b : Bool} (a : AllT c σ n Γ op es b) : EvT c σ n Γ (.BoolOp op es pos) b :=
  fun env U V A s E R I => wpAny_isTrue_BoolOp (a env U V A s E R I)
theorem AllT.and_nil : AllT c σ n Γ .And [] true := fun _ _ _ _ s _ _ _ => wpAny_allTrue_And_nil ⟨.refl s, rfl⟩
theorem AllT.or_nil : AllT c σ n Γ .Or [] false := fun _ _ _ _ s _ _ _ => wpAny_allTrue_Or_nil ⟨.refl s, rfl⟩
theorem AllT.and {e : Expr} {r : List Expr} {b b' : Bool} (x : EvT c σ n Γ e b) (y : b = true → AllT c σ n Γ .And r b') : AllT c σ n Γ .And (e :: r) (b && b') :=
  fun env U V A s E R I => wpAny_allTrue_And_cons (wpAny_mono (x env U V A s E R I) (fun v s₁ q => by
    obtain ⟨g, rfl⟩ := q
    cases v with
    | false => exact ⟨g, rfl⟩
    | true => exact wpAny_mono (y rfl env U V A s₁ E R (I.keep g.2)) (fun _ _ q => ⟨g.trans q.1, by simp [q.2]⟩) fun _ _ z => z) fun _ _ z => z)
theorem AllT.or {e : Expr} {r : List Expr} {b b' : Bool} (x : EvT c σ n Γ e b) (y : b = false → AllT c σ n Γ .Or r b') : AllT c σ n Γ .Or (e :: r) (b || b') :=
  fun env U V A s E R I => wpAny_allTrue_Or_cons (wpAny_mono (x env U V A s E R I) (fun v s₁ q => by
    obtain ⟨g, rfl⟩ := q
    cases v with
    | true => exact ⟨g, rfl⟩
    | false => exact wpAny_mono (y rfl env U V A s₁ E R (I.keep g.2)) (fun _ _ q => ⟨g.trans q.1, by simp [q.2]⟩) fun _ _ z => z) fun _ _ z => z)
theorem EvE.ifexp {t e₁ e₂ : Expr} {pos : Pos} {b : Bool} (x : EvT c σ n Γ t b) (y : b = true → EvE c σ n Γ m e₁ d) (z : b = false → EvE c σ n Γ m e₂ d) : EvE c σ n Γ m (.IfExp t e₁ e₂ pos) d :=
  fun env U V A s E R I => wpAny_IfExp (wpAny_mono (x env U V A s E R I) (fun v s₁ q => by
    obtain ⟨g, rfl⟩ := q
    cases v with
    | true => exact wpAny_mono (y rfl env U V A s₁ E R (I.keep g.2)) (fun _ _ q => ⟨g.trans q.1, q.2⟩) fun _ _ z => z
    | false => exact wpAny_mono (z rfl env U V A s₁ E R (I.keep g.2)) (fun _ _ q => ⟨g.trans q.1, q.2⟩) fun _ _ z => z) fun _ _ z => z)
theorem EvE.sub' {e₁ e₂ : Expr} {pos : Pos} (a : EvE c σ n Γ m e₁ d₁) (b : EvE c σ n Γ m e₂ d₂) (h : SubV c d₁ d₂ d)
    (hs : ∀ o i, subscripted e₂ false o i = operate [o, i] (getItem o i) := by intro _ _; rfl) : EvE c σ n Γ m (.Subscript e₁ e₂ pos) d :=
  fun env U V A s E R I => Subscript_ (ev2 a b E R I fun v₁ v₂ s₂ g I₂ r₁ r₂ => by
    obtain ⟨T, id, hT, hl, hg⟩ := h _ s₂ v₁ v₂ r₁ r₂
    exact tail_any hT hl (wpAny_mono (hg A (R.le (Nat.zero_le _))) (fun _ _ x => ⟨g.trans x.1, x.2⟩) fun _ _ z => z) (hs _ _))
/-- an item of an owned list is clean -/
theorem EvE.item_own {x : Str} {px pos : Pos} {e₂ : Expr} {sl : Slot} {d₁ : D} (hΓ : Γ x = some sl) (hx : σ.lookup x = some .local ∨ σ.lookup x = some .cell ∨ σ.lookup x = some .free)
    (b : EvE c σ n Γ true e₂ d₂)
    (h : ∀ (s : Shared) (P : Addr → Prop) v os v₂, SlotRep c s.heap P v sl os → c.Rep s.heap P v₂ d₂ →
      ∃ T id, s.TypeIs v T ∧ typeLookup (.type T) "__getitem__" = pure (some (.builtin id)) ∧ ∀ A, Rm 0 A → wpAny c.M A (getItem v v₂) (fun r s' => Grow s s' ∧ c.Rep s'.heap P r d) NoE s)
    (hs : ∀ o i, subscripted e₂ false o i = operate [o, i] (getItem o i) := by intro _ _; rfl)
    (hn : (x == ("__classdict__" : Str)) = false := by decide) (hd : (x == ("__debug__" : Str)) = false := by decide) : EvE c σ n Γ m (.Subscript (.Name x px) e₂ pos) d :=
  EvE.lend fun env U V A s E R I => by
    refine Subscript_ ?_
    have I' := I
    obtain ⟨ρ, os, J⟩ := I
    obtain ⟨v, hv, r⟩ := J.var x _ hΓ
    refine wpAny_Name (frame_load E J.fr hx hv ?_ hn) hd
    refine wpAny_mono (b env U V A s E R I') (fun v₂ s₁ y => ?_) fun _ _ z => z
    obtain ⟨T, id, hT, hl, hg⟩ := h s₁ (Cl U V) v (os x) v₂ (r.move (fun b _ o e => y.1.2 b o e) (fun b o _ e => y.1.2 b o e) fun _ p => p) (y.2.mono fun _ p => ⟨p.1, p.2 rfl⟩)
    exact tail_any hT hl (wpAny_mono (hg A (R.le (Nat.zero_le _))) (fun _ _ q => ⟨y.1.trans q.1, q.2.mono fun _ p => ⟨p.1, fun _ => p.2⟩⟩) fun _ _ z => z) (hs _ _)
theorem EvEs.nil : EvEs c σ n Γ m [] [] := fun _ _ _ _ s _ _ _ _ => wpAny_items_nil ⟨.refl s, .nil⟩
theorem EvEs.cons {e : Expr} {r : List Expr} {ds : List D} (a : EvE c σ n Γ m e d) (b : EvEs c σ n Γ m r ds) (he : ∀ env, starEach (e :: r) env = (false, eval e env) :: starEach r env := by intro _; rfl) : EvEs c σ n Γ m (e :: r) (d :: ds) :=
  fun env U V A s pos E R I => wpAny_items_cons (wpAny_mono (a env U V A s E R I) (fun v s₁ x => wpAny_mono (b env U V A s₁ pos E R (I.keep x.1.2)) (fun vs s₂ y => ⟨x.1.trans y.1, .cons (x.2.keep y.1.2) y.2⟩) fun _ _ z => z) fun _ _ z => z) (he env)
theorem heap_size_none (h : Heap) : h.get? h.objs.size = none := by
  cases e : h.get? h.objs.size with
  | none => rfl
  | some o => exact absurd (Heap.lt_size e) (Nat.lt_irrefl _)
theorem push_keep (h : Heap) (o : Obj) : Keep h (h.push o) := fun _ _ e => Heap.get?_push_of_some _ e
theorem EvE.tup {es : List Expr} {ds : List D} {k : Nat} {pos : Pos} (a : EvEs c σ n Γ m es ds) (hsz : ds.length ≤ sizeLine := by simp [sizeLine]) : EvE c σ n Γ m (.Tuple es k pos) (.tup ds) :=
  fun env U V A s E R I => wpAny_Tuple_spliced (wpAny_mono (a env U V A s pos E R I) (fun vs s₁ x => by
    refine ⟨x.2.length ▸ hsz, ⟨x.1.trans ⟨⟨_, _, rfl⟩, push_keep _ _⟩, .tup (vs := vs) ⟨_, Heap.get?_push_size _ rfl, rfl, 0, rfl⟩ (fresh_pm (I.keep x.1.2) m _ (heap_size_none _)) (x.2.keep (push_keep _ _))⟩⟩) fun _ _ z => z)
theorem EvE.list {es : List Expr} {ds : List D} {pos : Pos} (a : EvEs c σ n Γ m es ds) (hsz : ds.length ≤ sizeLine := by simp [sizeLine]) : EvE c σ n Γ m (.List es pos) (.list ds) :=
  fun env U V A s E R I => wpAny_List_spliced (wpAny_mono (a env U V A s pos E R I) (fun vs s₁ x => by
    refine ⟨x.2.length ▸ hsz, ⟨x.1.trans ⟨⟨_, _, rfl⟩, push_keep _ _⟩, .list (vs := vs) ⟨_, Heap.get?_push_size _ rfl, rfl, 0, rfl⟩ (fresh_pm (I.keep x.1.2) m _ (heap_size_none _)) (x.2.keep (push_keep _ _))⟩⟩) fun _ _ z => z)
/-- names of the module's top and of the interpreter -/
theorem load_glob {env : Env} {M : Model} {A : Around} {E : Value → Shared → Prop} {s : Shared} {K : Frag} {x : Str} {pos : Pos} {v : Value} {Q : Value → Shared → Prop} (e : EnvOk σ env) (G : Gk K s.heap)
    (hx : σ.lookup x = some .globalImplicit) (hv : nsIn K mainGlobals x = some (some v)) (h : Q v s) (hd : (x == ("__debug__" : Str)) = false := by decide) : wpAny M A (eval (.Name x pos) env) Q E s := by
  obtain ⟨mg, hg⟩ := G.g
  exact Calls.Name_function_global e.kind ((e.kindOf x).trans hx) (Calls.loadGlobal_global (env := env) (by rw [e.glob]; exact hg) (mg_of G.inn hg hv) h) hd
theorem load_blt {env : Env} {M : Model} {A : Around} {E : Value → Shared → Prop} {s : Shared} {K : Frag} {x : Str} {pos : Pos} {v : Value} {Q : Value → Shared → Prop} (e : EnvOk σ env) (G : Gk K s.heap)
    (hx : σ.lookup x = some .globalImplicit) (hg : nsIn K mainGlobals x = some none) (hv : bootBuiltins x = some v) (hn : x ≠ "__name__") (h : Q v s) (hd : (x == ("__debug__" : Str)) = false := by decide) :
    wpAny M A (eval (.Name x pos) env) Q E s := by
  obtain ⟨mg, h1⟩ := G.g
  obtain ⟨mb, h2, h3⟩ := G.b
  exact Calls.Name_function_global e.kind ((e.kindOf x).trans hx) (Calls.loadGlobal_builtin (env := env) (by rw [e.glob]; exact h1) (ns_none_of G.inn h1 hg) (by rw [e.blt]; exact h2) ((h3 x hn).trans hv) h) hd
/-- a call of a def -/
theorem EvE.call {f : Str} {a : Addr} {np pos : Pos} {e : Expr} {r : List Expr} {ds : List D} {k : Nat} (hx : σ.lookup f = some .globalImplicit) (hv : nsIn c.K mainGlobals f = some (some (.ref a)))
    (hk : keepIn c.K (.ref a) = true) (b : EvEs c σ n Γ m (e :: r) ds) (F : FunSpec c a k ds d) (hkn : k ≤ n := by decide)
    (he : ∀ env, starEach (e :: r) env = (false, eval e env) :: starEach r env := by intro _; rfl) (hplain : ∀ env pos, (backTo pos (starEach r env)).any (·.1) = false := by intro _ _; rfl)
    (hd : (f == ("__debug__" : Str)) = false := by decide) : EvE c σ n Γ m (.Call (.Name f np) (e :: r) [] pos) d :=
  fun env U V A s E R I => wpAny_Call_NameR (load_glob E I.gk hx hv (callWith_K I.gk.inn hk (wpAny_mono (b env U V A s pos E R I) (fun vs s₁ x => ⟨(I.keep x.1.2).gk.inn, by
    obtain ⟨ρ, os, J⟩ := I.keep x.1.2
    have hp : ∀ b, PM m U V b ↔ ¬ (U b ∨ (m = true ∧ V b)) := fun b => by unfold PM; simp only [not_or, not_and]
    refine wpAny_mono (F (fun b => U b ∨ (m = true ∧ V b)) A s₁ vs (R.le hkn) J.gk (fun b q => q.elim (J.ud b) fun q => J.vd b q.2) (x.2.mono fun b q => (hp b).mp q)) (fun v s₂ y => ⟨x.1.trans y.1, y.2.mono fun b q => (hp b).mpr q⟩) fun _ _ z => z⟩) fun _ _ z => z)
    (he env) (hplain env pos)) hd)
end
end Mine
end
-- B4
section
open PySem PyProof.Rows PySem.W
set_option Elab.async false
set_option linter.unusedVariables false
namespace Mine
section
variable {c : Cf} {σ : List (Str × NameKind)} {n : Nat} {Γ : Vars} {m : Bool} {d d₁ d₂ : D}
theorem SlotRep.dom {h : Heap} {P : Addr → Prop} {v : Value} {sl : Slot} {os : List Addr} (r : SlotRep c h P v sl os) : ∀ a ∈ os, Dom h a := by
  cases r with
  | fz _ => intro a ha; cases ha
  | ol l _ => intro a ha; obtain rfl := List.mem_singleton.mp ha; obtain ⟨_, e⟩ := l; exact ⟨_, e⟩
  | oi l _ => intro a ha; obtain rfl := List.mem_singleton.mp ha; obtain ⟨_, e, _⟩ := l; exact ⟨_, e⟩
  | od l _ => intro a ha; obtain rfl := List.mem_singleton.mp ha; exact l.dom
  | ld l q =>
    intro a ha
    rcases List.mem_cons.mp ha with rfl | ha
    · obtain ⟨_, e, _⟩ := l; exact ⟨_, e⟩
    · exact q.dom a ha
  | oa l _ => intro a ha; obtain rfl := List.mem_singleton.mp ha; obtain ⟨_, e⟩ := l; exact ⟨_, e⟩
  | la l _ q =>
    intro a ha
    rcases List.mem_cons.mp ha with rfl | ha
    · obtain ⟨_, e⟩ := l; exact ⟨_, e⟩
    · exact q.dom a ha
theorem FrameAt.dom {env : Env} {h : Heap} {ρ : Str → Option Value} (F : FrameAt env h ρ) {a : Addr} (f : FrameAddr env a) : Dom h a := by
  rcases f with rfl | ⟨x, hx⟩
  · obtain ⟨_, ⟨o, _, _, e, _⟩, _⟩ := F.ns; exact ⟨o, e⟩
  · obtain ⟨o, e, _⟩ := F.cell x a hx; exact ⟨o, e⟩
/-- a variable gets a new value -/
theorem InvAt.store {env : Env} {U V : Addr → Prop} {h₀ h h' : Heap} {ρ : Str → Option Value} {os : Str → List Addr} {x : Str} {v : Value} {sl : Slot} {os₁ : List Addr}
    (I : InvAt c env U V Γ h₀ ρ os) (hk : Keep h₀ h) (r : SlotRep c h (fun a => Cl U V a ∧ a ∉ os₁) v sl os₁) (nd : os₁.Nodup) (fr : ∀ a ∈ os₁, h₀.get? a = none)
    (k : KeepV (FrameAddr env) h h') (F' : FrameAt env h' (upd ρ x v)) :
    InvAt c env U (fun a => V a ∨ a ∈ os₁) (upd Γ x sl) h' (upd ρ x v) (fun y => if y = x then os₁ else os y) := by
  have nf : ∀ a ∈ os₁, ¬ FrameAddr env a := fun a ha f => by obtain ⟨o, e⟩ := I.vd a (I.vf a f); rw [fr a ha] at e; cases e
  have ne : ∀ a, Dom h₀ a → a ∉ os₁ := fun a ⟨o, e⟩ ha => by rw [fr a ha] at e; cases e
  have dm : ∀ a, Dom h a → ¬ FrameAddr env a → Dom h' a := fun a ⟨o, e⟩ q => ⟨o, k a o q e⟩
  refine ⟨F', ?_, ?_, ?_, ?_, fun a f => .inl (I.vf a f), ?_, ?_, ?_, ?_, ?_⟩
  · intro y sl' e
    by_cases hy : y = x
    · subst hy
      simp only [upd, if_true] at e ⊢
      cases e
      refine ⟨v, rfl, r.move (fun b hb o e => k b o (nf b hb) e) (fun b o p e => k b o (fun f => p.1.2 (I.vf b f)) e) fun a p => ⟨p.1.1, fun q => q.elim p.1.2 p.2⟩⟩
    · simp only [upd, if_neg hy] at e ⊢
      obtain ⟨u, hu, q⟩ := I.var y sl' e
      refine ⟨u, hu, q.live.move (fun b hb o e' => k b o (I.own y sl' e b hb).2 (hk b o e')) (fun b o p e => k b o (fun f => p.1.2 (I.vf b f)) (hk b o e)) fun a p => ⟨p.1.1, fun q => q.elim p.1.2 (ne a p.2)⟩⟩
  · intro y sl' e
    by_cases hy : y = x
    · subst hy; simpa using nd
    · simp only [upd, if_neg hy] at e ⊢; exact I.nd y sl' e
  · intro y sl' e a ha
    by_cases hy : y = x
    · subst hy; simp only [if_true] at ha; exact ⟨.inr ha, nf a ha⟩
    · simp only [upd, if_neg hy] at e ha; exact ⟨.inl (I.own y sl' e a ha).1, (I.own y sl' e a ha).2⟩
  · intro y sl' z sl'' e e' hzy a ha
    by_cases hy : y = x
    · subst hy
      simp only [if_true, if_neg hzy] at ha ⊢
      simp only [upd, if_neg hzy] at e'
      intro q
      exact ne a (I.vd a (I.own z sl'' e' a q).1) ha
    · simp only [upd, if_neg hy] at e ha
      by_cases hz : z = x
      · subst hz; simp only [if_true]; exact ne a (I.vd a (I.own y sl' e a ha).1)
      · simp only [upd, if_neg hz] at e' ⊢; exact I.dis y sl' z sl'' e e' hzy a ha
  · rintro a (q | q) u
    · exact I.uv a q u
    · exact ne a (I.ud a u) q
  · rintro a (q | q)
    · by_cases f : FrameAddr env a
      · exact F'.dom f
      · exact dm a ((I.vd a q).keep hk) f
    · exact dm a (r.dom a q) (nf a q)
  · intro a u
    exact dm a ((I.ud a u).keep hk) fun f => I.uv a (I.vf a f) u
  · rintro a (q | q) g
    · exact I.gb a q g
    · exact ne a (I.gk.dom g) q
  · exact (I.gk.keep hk).keepV fun b o g e => k b o (fun f => I.gb b (I.vf b f) g) e
/-- an expression that makes a container of its own -/
noncomputable def EvO (c : Cf) (σ : List (Str × NameKind)) (n : Nat) (Γ : Vars) (e : Expr) (sl : Slot) : Prop :=
  ∀ env U V A s, EnvOk σ env → Rm n A → Inv c env U V Γ s.heap → wpAny c.M A (eval e env) (fun v s' => Grow s s' ∧ ∃ os, SlotRep c s'.heap (fun a => Cl U V a ∧ a ∉ os) v sl os ∧ os.Nodup ∧ ∀ a ∈ os, s.heap.get? a = none) NoE s
theorem EvE.own {e : Expr} (a : EvE c σ n Γ true e d) : EvO c σ n Γ e (.fz d) :=
  fun env U V A s E R I => wpAny_mono (a env U V A s E R I) (fun v s₁ x => ⟨x.1, [], .fz (x.2.mono fun _ p => ⟨⟨p.1, p.2 rfl⟩, fun q => nomatch q⟩), List.nodup_nil, fun a ha => nomatch ha⟩) fun _ _ z => z
/-- storing what an expression made -/
theorem store_left {env : Env} {U V : Addr → Prop} {A : Around} {s s₁ : Shared} {x : Str} {v : Value} {sl : Slot} {os₁ : List Addr} (E : EnvOk σ env) (I : Inv c env U V Γ s.heap) (g : Grow s s₁)
    (hx : σ.lookup x = some .local ∨ σ.lookup x = some .cell) (r : SlotRep c s₁.heap (fun a => Cl U V a ∧ a ∉ os₁) v sl os₁) (nd : os₁.Nodup) (fr : ∀ a ∈ os₁, s.heap.get? a = none) :
    wpAny c.M A (storeName env x v) (fun _ s' => Left c env U V s (.next (upd Γ x sl)) .next s') NoE s₁ := by
  obtain ⟨ρ, os, I⟩ := I
  refine frame_store E (I.fr.keep g.2) hx fun s' sm F' k => ?_
  refine ⟨g.1.trans sm, fun b o hb e => k b o (fun f => hb (I.vf b f)) (g.2 b o e), rfl, _, ?_, _, _, I.store g.2 r nd fr k F'⟩
  rintro a (q | q)
  · exact .inl q
  · exact .inr (fr a q)
theorem Ex.assign {x : Str} {px pos : Pos} {e : Expr} {sl : Slot} (a : EvO c σ n Γ e sl) (hx : σ.lookup x = some .local ∨ σ.lookup x = some .cell)
    (hs : ∀ env : Env, env.scope.names = σ → env.scope.kind = .function → swapsWith e (some (.Name x px)) pos.line env = pure false := by intro _ _ _; rfl) : Ex c σ n Γ (.Assign [.Name x px] e pos) (.next (upd Γ x sl)) :=
  fun env U V A s E R I => wpAny_Assign_Name (wpAny_mono (a env U V A s E R I) (fun v s₁ y => by
    obtain ⟨g, os, r, nd, fr⟩ := y
    exact store_left E I g hx r nd fr) fun _ _ z => z) (hs env E.names E.kind)
theorem Ex.set {x : Str} {px pos : Pos} {e : Expr} (a : EvE c σ n Γ true e d) (hx : σ.lookup x = some .local ∨ σ.lookup x = some .cell)
    (hs : ∀ env : Env, env.scope.names = σ → env.scope.kind = .function → swapsWith e (some (.Name x px)) pos.line env = pure false := by intro _ _ _; rfl) : Ex c σ n Γ (.Assign [.Name x px] e pos) (.next (upd Γ x (.fz d))) :=
  Ex.assign a.own hx hs
theorem gk_size {K : Frag} {h : Heap} (G : Gk K h) : (h.objs.size == sysModules) = false := by
  obtain ⟨_, o, _, _, e, _⟩ := G.g
  have h3 : 3 < h.objs.size := Heap.lt_size e
  rw [beq_eq_false_iff_ne]
  intro q
  have q' : h.objs.size = 1 := q
  exact absurd (q' ▸ h3) (by decide)
theorem newDict_s {s : Shared} (G : Gk c.K s.heap) : c.SDict (s.heap.push { cls := .type "dict", data := .dict #[] }) s.heap.objs.size [] :=
  ⟨⟨_, #[], 0, Heap.get?_push_size _ rfl, ⟨rfl, rfl, rfl⟩, rfl, fun _ h => by simp at h, .nil, List.nodup_nil⟩, gk_size G⟩
theorem EvO.dict0 {pos : Pos} : EvO c σ n Γ (.Dict [] [] pos) (.od []) :=
  fun env U V A s E R I => wpAny_Dict_empty (by
    refine ⟨⟨⟨_, _, rfl⟩, push_keep _ _⟩, [s.heap.objs.size], .od (kvs := []) (newDict_s I.gk) .nil, (by simp), fun a ha => ?_⟩
    obtain rfl := List.mem_singleton.mp ha; exact heap_size_none _)
theorem EvE.dict0 {pos : Pos} : EvE c σ n Γ m (.Dict [] [] pos) (.dict []) :=
  fun env U V A s E R I => wpAny_Dict_empty ⟨⟨⟨_, _, rfl⟩, push_keep _ _⟩, .dict (kvs := []) (newDict_s I.gk) (fresh_pm I m _ (heap_size_none _)) .nil⟩
theorem EvO.list {es : List Expr} {ds : List D} {pos : Pos} (a : EvEs c σ n Γ true es ds) (hsz : ds.length ≤ sizeLine := by simp [sizeLine]) : EvO c σ n Γ (.List es pos) (.ol ds) :=
  fun env U V A s E R I => wpAny_List_spliced (wpAny_mono (a env U V A s pos E R I) (fun vs s₁ x => by
    refine ⟨x.2.length ▸ hsz, x.1.trans ⟨⟨_, _, rfl⟩, push_keep _ _⟩, [s₁.heap.objs.size], .ol (vs := vs) ⟨0, Heap.get?_push_size _ rfl⟩ ?_, (by simp), fun a ha => ?_⟩
    · refine x.2.live.move (fun b o _ e => push_keep _ _ b o e) fun b p => ⟨⟨p.1.1, p.1.2 rfl⟩, fun q => ?_⟩
      obtain rfl := List.mem_singleton.mp q
      obtain ⟨o, e⟩ := p.2; rw [heap_size_none] at e; cases e
    · obtain rfl := List.mem_singleton.mp ha
      cases e : s.heap.get? s₁.heap.objs.size with
      | none => rfl
      | some o => have := x.1.2 _ _ e; rw [heap_size_none] at this; cases this) fun _ _ z => z)
theorem Ex.ret {e : Expr} {pos : Pos} (a : EvE c σ n Γ false e d) : Ex c σ n Γ (.Return (some e) pos) (.ret d) :=
  fun env U V A s E R I => wpAny_Return_some (wpAny_mono (a env U V A s E R I) (fun v s₁ x => ⟨x.1.1, fun b o _ e => x.1.2 b o e, v, rfl, x.2.mono fun _ p => p.1, by
    obtain ⟨ρ, os, J⟩ := I.keep x.1.2; exact J.ud⟩) fun _ _ z => z)
theorem Ex.ite {t : Expr} {b : Bool} {s₁ s₂ : List Stmt} {pos : Pos} {out : Out} (x : EvT c σ n Γ t b) (y : b = true → Exs c σ n Γ s₁ out) (z : b = false → Exs c σ n Γ s₂ out) : Ex c σ n Γ (.If t s₁ s₂ pos) out :=
  fun env U V A s E R I => wpAny_If (wpAny_mono (x env U V A s E R I) (fun v s₁ q => by
    obtain ⟨g, rfl⟩ := q
    have up : ∀ f s₂, Left c env U V s₁ out f s₂ → Left c env U V s out f s₂ := fun f s₂ l => Left.trans g.1 (fun b o _ e => g.2 b o e) (fun a q => .inl q) l
    cases v with
    | true => exact wpAny_mono (y rfl env U V A s₁ E R (I.keep g.2)) up fun _ _ z => z
    | false => exact wpAny_mono (z rfl env U V A s₁ E R (I.keep g.2)) up fun _ _ z => z) fun _ _ z => z)
/-- an owned container is changed no more -/
theorem InvAt.freeze {env : Env} {U V : Addr → Prop} {h : Heap} {ρ : Str → Option Value} {os : Str → List Addr} {x : Str} {sl : Slot} {d : D} (I : InvAt c env U V Γ h ρ os) (hΓ : Γ x = some sl)
    (hd : ∀ (P : Addr → Prop) v as, SlotRep c h P v sl as → (∀ a ∈ as, P a) → c.Rep h P v d) :
    InvAt c env U (fun a => V a ∧ a ∉ os x) (upd Γ x (.fz d)) h ρ (fun y => if y = x then [] else os y) where
  fr := I.fr
  var := fun y sl' e => by
    by_cases hy : y = x
    · subst hy
      simp only [upd, if_true] at e ⊢; cases e
      obtain ⟨v, hv, r⟩ := I.var y sl hΓ
      exact ⟨v, hv, .fz (hd _ v (os y) (r.move (fun _ _ _ e => e) (fun _ _ _ e => e) fun a p => ⟨p.1, fun q => p.2 q.1⟩) fun a ha => ⟨I.uv a (I.own y sl hΓ a ha).1, fun q => q.2 ha⟩)⟩
    · simp only [upd, if_neg hy] at e ⊢
      obtain ⟨v, hv, r⟩ := I.var y sl' e
      exact ⟨v, hv, r.move (fun _ _ _ e => e) (fun _ _ _ e => e) fun a p => ⟨p.1, fun q => p.2 q.1⟩⟩
  nd := fun y sl' e => by
    by_cases hy : y = x
    · simp [hy]
    · simp only [upd, if_neg hy] at e ⊢; exact I.nd y sl' e
  own := fun y sl' e a ha => by
    by_cases hy : y = x
    · simp [hy] at ha
    · simp only [upd, if_neg hy] at e ha; exact ⟨⟨(I.own y sl' e a ha).1, fun q => I.dis x sl y sl' hΓ e hy a q ha⟩, (I.own y sl' e a ha).2⟩
  dis := fun y sl' z sl'' e e' hzy a ha => by
    by_cases hy : y = x
    · simp [hy] at ha
    · simp only [upd, if_neg hy] at e ha
      by_cases hz : z = x
      · simp [hz]
      · simp only [upd, if_neg hz] at e' ⊢; exact I.dis y sl' z sl'' e e' hzy a ha
  vf := fun a f => ⟨I.vf a f, fun q => (I.own x sl hΓ a q).2 f⟩
  uv := fun a q => I.uv a q.1
  vd := fun a q => I.vd a q.1
  ud := I.ud
  gb := fun a q => I.gb a q.1
  gk := I.gk
theorem Left.narrow {env : Env} {U V V₁ : Addr → Prop} {s s' : Shared} {out : Out} {f : Flow} (hv : ∀ a, V₁ a → V a) (l : Left c env U V₁ s out f s') : Left c env U V s out f s' :=
  Left.trans (.refl s) (fun _ _ _ e => e) (fun a q => .inl (hv a q)) l
theorem Exs.freeze {x : Str} {sl : Slot} {sts : List Stmt} {out : Out} (hΓ : Γ x = some sl) (hd : ∀ (h : Heap) (P : Addr → Prop) v as, SlotRep c h P v sl as → (∀ a ∈ as, P a) → c.Rep h P v d)
    (a : Exs c σ n (upd Γ x (.fz d)) sts out) : Exs c σ n Γ sts out :=
  fun env U V A s E R I => by
    obtain ⟨ρ, os, I⟩ := I
    exact wpAny_mono (a env U _ A s E R ⟨_, _, I.freeze hΓ (hd _)⟩) (fun _ _ l => l.narrow fun a q => q.1) fun _ _ z => z
theorem frz_ol {ds : List D} (h : Heap) (P : Addr → Prop) (v : Value) (as : List Addr) (r : SlotRep c h P v (.ol ds) as) (ha : ∀ a ∈ as, P a) : c.Rep h P v (.list ds) := by
  obtain ⟨_, _, rfl, rfl, l, r⟩ := r.invOl
  exact .list l.isList (ha _ List.mem_cons_self) r
theorem frz_oi {ds : List D} (h : Heap) (P : Addr → Prop) (v : Value) (as : List Addr) (r : SlotRep c h P v (.oi ds) as) (ha : ∀ a ∈ as, P a) : c.Rep h P v (.list ds) := by
  obtain ⟨_, _, rfl, rfl, l, r⟩ := r.invOi
  exact .list l (ha _ List.mem_cons_self) r
theorem frz_od {ds : List (Str × D)} (h : Heap) (P : Addr → Prop) (v : Value) (as : List Addr) (r : SlotRep c h P v (.od ds) as) (ha : ∀ a ∈ as, P a) : c.Rep h P v (.dict ds) := by
  obtain ⟨_, _, rfl, rfl, l, r⟩ := r.invOd
  exact .dict l (ha _ List.mem_cons_self) r
theorem dicts_reps {h : Heap} {P : Addr → Prop} {bs : List Addr} {dss : List (List (Str × D))} (r : DictsAt c h P bs dss) (ha : ∀ a ∈ bs, P a) : c.Reps h P (bs.map Value.ref) (dss.map D.dict) := by
  induction r with
  | nil => exact .nil
  | cons x r _ ih => exact .cons (.dict x (ha _ List.mem_cons_self) r) (ih fun a h => ha a (List.mem_cons_of_mem _ h))
theorem frz_ld {dss : List (List (Str × D))} (h : Heap) (P : Addr → Prop) (v : Value) (as : List Addr) (r : SlotRep c h P v (.ld dss) as) (ha : ∀ a ∈ as, P a) : c.Rep h P v (.list (dss.map D.dict)) := by
  obtain ⟨_, _, rfl, rfl, l, r⟩ := r.invLd
  exact .list l (ha _ List.mem_cons_self) (dicts_reps r fun a h => ha a (List.mem_cons_of_mem _ h))
end
end Mine
end
-- B5
section
open PySem PyProof.Rows PySem.W
set_option Elab.async false
set_option linter.unusedVariables false
namespace Mine
noncomputable def put {α : Type} (kvs : List (Str × α)) (k : Str) (v : α) : List (Str × α) :=
  if kvs.any (fun kv => kv.1 = k) then kvs.map (fun kv => if kv.1 = k then (kv.1, v) else kv) else kvs ++ [(k, v)]
noncomputable def dget {α : Type} (kvs : List (Str × α)) (k : Str) : Option α := (kvs.find? fun kv => kv.1 = k).map (·.2)
section
variable {c : Cf} {σ : List (Str × NameKind)} {n : Nat} {Γ : Vars} {m : Bool} {d d₁ d₂ : D}
theorem RepsK.any {h : Heap} {P : Addr → Prop} {vs : List (Str × Value)} {ds : List (Str × D)} (r : c.RepsK h P vs ds) (k : Str) : vs.any (fun kv => kv.1 = k) = ds.any (fun kv => kv.1 = k) := by
  induction vs generalizing ds with
  | nil => cases r; rfl
  | cons v vs ih => cases r with | cons _ r => simp [ih r]
theorem RepsK.append {h : Heap} {P : Addr → Prop} {vs vs' : List (Str × Value)} {ds ds' : List (Str × D)} (r : c.RepsK h P vs ds) (r' : c.RepsK h P vs' ds') : c.RepsK h P (vs ++ vs') (ds ++ ds') := by
  induction vs generalizing ds with
  | nil => cases r; exact r'
  | cons v vs ih => cases r with | cons x r => exact .cons x (ih r)
theorem RepsK.mapSet {h : Heap} {P : Addr → Prop} {vs : List (Str × Value)} {ds : List (Str × D)} (r : c.RepsK h P vs ds) {k : Str} {v : Value} {d : D} (x : c.Rep h P v d) :
    c.RepsK h P (vs.map fun kv => if kv.1 = k then (kv.1, v) else kv) (ds.map fun kv => if kv.1 = k then (kv.1, d) else kv) := by
  induction vs generalizing ds with
  | nil => cases r; exact .nil
  | cons u vs ih =>
    cases r with
    | @cons k' _ _ _ _ y r =>
      simp only [List.map_cons]
      by_cases hk : k' = k
      · simp only [hk, if_true]; exact .cons x (ih r)
      · simp only [hk, if_false]; exact .cons y (ih r)
theorem RepsK.put {h : Heap} {P : Addr → Prop} {vs : List (Str × Value)} {ds : List (Str × D)} (r : c.RepsK h P vs ds) {k : Str} {v : Value} {d : D} (x : c.Rep h P v d) :
    c.RepsK h P (stored vs k v) (put ds k d) := by
  unfold stored Mine.put
  rw [r.any k]
  split
  · exact r.mapSet x
  · exact r.append (.cons x .nil)
theorem RepsK.get {h : Heap} {P : Addr → Prop} {vs : List (Str × Value)} {ds : List (Str × D)} (r : c.RepsK h P vs ds) {k : Str} {d : D} (hd : dget ds k = some d) : ∃ v, valueAt vs k = some v ∧ c.Rep h P v d := by
  induction vs generalizing ds with
  | nil => cases r; simp [dget] at hd
  | cons u vs ih =>
    cases r with
    | @cons k' v d' _ _ y r =>
      by_cases hk : k' = k
      · simp [dget, hk] at hd; subst hd; exact ⟨v, by simp [valueAt, hk], y⟩
      · obtain ⟨v', e, z⟩ := ih r (by simpa [dget, hk] using hd)
        exact ⟨v', by simpa [valueAt, hk] using e, z⟩
theorem RepsK.get_none {h : Heap} {P : Addr → Prop} {vs : List (Str × Value)} {ds : List (Str × D)} (r : c.RepsK h P vs ds) {k : Str} (hd : dget ds k = none) : valueAt vs k = none := by
  induction vs generalizing ds with
  | nil => rfl
  | cons u vs ih =>
    cases r with
    | @cons k' v d' _ _ y r =>
      by_cases hk : k' = k
      · simp [dget, hk] at hd
      · simpa [valueAt, hk] using ih r (by simpa [dget, hk] using hd)
/-- one owned container is changed -/
theorem InvAt.mutate {env : Env} {U V : Addr → Prop} {h h' : Heap} {ρ : Str → Option Value} {os : Str → List Addr} {x : Str} {sl sl' : Slot} {a : Addr} {v : Value}
    (I : InvAt c env U V Γ h ρ os) (hΓ : Γ x = some sl) (ha : a ∈ os x) (k : ∀ b o, b ≠ a → h.get? b = some o → h'.get? b = some o) (hv : ρ x = some v)
    (r' : SlotRep c h' (Cl U V) v sl' (os x)) : InvAt c env U V (upd Γ x sl') h' ρ os := by
  have va := (I.own x sl hΓ a ha).1
  have fa := (I.own x sl hΓ a ha).2
  have dm : ∀ b, Dom h b → Dom h' b := fun b ⟨o, e⟩ => by
    by_cases hb : b = a
    · subst hb; exact r'.dom b ha
    · exact ⟨o, k b o hb e⟩
  refine ⟨⟨?_, ?_⟩, ?_, ?_, ?_, ?_, I.vf, I.uv, fun b q => dm b (I.vd b q), fun b q => dm b (I.ud b q), I.gb, I.gk.keepV fun b o g e => k b o (fun q => I.gb a va (q ▸ g)) e⟩
  · obtain ⟨mm, hm, hr⟩ := I.fr.ns
    exact ⟨mm, ns_at hm fun o e => k _ o (fun q => fa (.inl q.symm)) e, hr⟩
  · intro y b hb
    obtain ⟨o, e, q⟩ := I.fr.cell y b hb
    exact ⟨o, k b o (fun q => fa (.inr ⟨y, q ▸ hb⟩)) e, q⟩
  · intro y sl'' e
    by_cases hy : y = x
    · subst hy; simp only [upd, if_true] at e; cases e; exact ⟨v, hv, r'⟩
    · simp only [upd, if_neg hy] at e
      obtain ⟨u, hu, q⟩ := I.var y sl'' e
      exact ⟨u, hu, q.move (fun b hb o e' => k b o (fun q => I.dis x sl y sl'' hΓ e hy a ha (q ▸ hb)) e') (fun b o p e => k b o (fun q => p.2 (q ▸ va)) e) fun _ p => p⟩
  · intro y sl'' e
    by_cases hy : y = x
    · subst hy; exact I.nd y sl hΓ
    · simp only [upd, if_neg hy] at e; exact I.nd y sl'' e
  · intro y sl'' e
    by_cases hy : y = x
    · subst hy; exact I.own y sl hΓ
    · simp only [upd, if_neg hy] at e; exact I.own y sl'' e
  · intro y sl₁ z sl₂ e e' hzy
    have back : ∀ {y sl₁}, upd Γ x sl' y = some sl₁ → ∃ sl₀, Γ y = some sl₀ := fun {y sl₁} e => by
      by_cases hy : y = x
      · subst hy; exact ⟨sl, hΓ⟩
      · simp only [upd, if_neg hy] at e; exact ⟨_, e⟩
    obtain ⟨s₁, e₁⟩ := back e
    obtain ⟨s₂, e₂⟩ := back e'
    exact I.dis y s₁ z s₂ e₁ e₂ hzy
/-- what a change of an owned container leaves -/
theorem mutate_left {env : Env} {U V : Addr → Prop} {s s₁ s₂ : Shared} {ρ : Str → Option Value} {os : Str → List Addr} {x : Str} {sl sl' : Slot} {a : Addr} {v : Value}
    (I : InvAt c env U V Γ s.heap ρ os) (g : Grow s s₁) (sm : Same s₁ s₂) (hΓ : Γ x = some sl) (ha : a ∈ os x) (k : ∀ b o, b ≠ a → s₁.heap.get? b = some o → s₂.heap.get? b = some o) (hv : ρ x = some v)
    (r' : SlotRep c s₂.heap (Cl U V) v sl' (os x)) : Left c env U V s (.next (upd Γ x sl')) .next s₂ := by
  have va := (I.own x sl hΓ a ha).1
  exact ⟨g.1.trans sm, fun b o hb e => k b o (fun q => hb (q ▸ va)) (g.2 b o e), rfl, V, fun _ q => .inl q, _, _, (I.keep g.2).mutate hΓ ha k hv r'⟩
/-- x.append(e) -/
theorem Ex.append {x : Str} {px ap cp pos : Pos} {e : Expr} {ds : List D} (hΓ : Γ x = some (.ol ds)) (hx : σ.lookup x = some .local ∨ σ.lookup x = some .cell ∨ σ.lookup x = some .free) (a : EvE c σ n Γ true e d)
    (hsz : ds.length ≤ sizeLine) (hline : (ap.endLine == cp.line) = true := by rfl) (he : ∀ env, starEach [e] env = [(false, eval e env)] := by intro _; rfl)
    (hn : (x == ("__classdict__" : Str)) = false := by decide) (hd : (x == ("__debug__" : Str)) = false := by decide) :
    Ex c σ n Γ (.Expr (.Call (.Attribute (.Name x px) "append" ap) [e] [] cp) pos) (.next (upd Γ x (.ol (ds ++ [d])))) :=
  fun env U V A s E R I => by
    have I' := I
    obtain ⟨ρ, os, J⟩ := I
    obtain ⟨v, hv, r⟩ := J.var x _ hΓ
    have ht : backTo cp (starEach [e] env) = [(false, eval e env)] := by rw [he]; rfl
    refine wpAny_Expr_any (wpAny_Call_append rfl (by rw [ht]; rfl) hline ht (wpAny_Name (frame_load E J.fr hx hv ?_ hn) hd)) (by unfold interactive; rw [E.kind]; rfl) rfl
    generalize hos : os x = os' at r
    obtain ⟨l, vs, rfl, rfl, hl, rs⟩ := r.invOl
    refine ⟨l, vs.toArray, rfl, let ⟨n, e⟩ := hl; ⟨_, n, e, rfl, rfl, rfl⟩, wpAny_mono (a env U V A s E R I') (fun y s₁ q => ?_) fun _ _ z => z⟩
    refine wpAny_list_append_plain (hl.at fun o e => q.1.2 _ o e) (fun h' hl' hs' => ?_) (by rw [List.size_toArray, rs.length]; exact hsz)
    have k : ∀ b o, b ≠ l → s₁.heap.get? b = some o → h'.get? b = some o := fun b o hb e => hs'.extBut b o hb e
    have vl : V l := (J.own x _ hΓ l (by rw [hos]; exact List.mem_cons_self)).1
    refine mutate_left J q.1 ⟨h', _, rfl⟩ hΓ (a := l) (by rw [hos]; exact List.mem_cons_self) k hv ?_
    rw [hos]
    refine .ol (vs := vs ++ [y]) (by simpa using hl') (((rs.keep q.1.2).append (.cons (q.2.mono fun _ p => ⟨p.1, p.2 rfl⟩) .nil)).move (fun b o p e => k b o (fun q => p.2 (q ▸ vl)) e) fun _ p => p)
/-- three expressions: value, then a name, then an index -/
theorem Ex.setitem {x : Str} {px tp pos : Pos} {e i : Expr} {sl sl' : Slot} {dv di : D} (hΓ : Γ x = some sl) (hx : σ.lookup x = some .local ∨ σ.lookup x = some .cell ∨ σ.lookup x = some .free)
    (a : EvE c σ n Γ true e dv) (b : EvE c σ n Γ true i di)
    (h : ∀ (U V : Addr → Prop) A s v os vi vv, Rm 0 A → (∀ a ∈ os, V a) → SlotRep c s.heap (Cl U V) v sl os → c.Rep s.heap (Cl U V) vi di → c.Rep s.heap (Cl U V) vv dv →
      wpAny c.M A (setItem v vi vv) (fun _ s' => Same s s' ∧ ∃ a ∈ os, (∀ b o, b ≠ a → s.heap.get? b = some o → s'.heap.get? b = some o) ∧ SlotRep c s'.heap (Cl U V) v sl' os) NoE s)
    (hn : (x == ("__classdict__" : Str)) = false := by decide) (hd : (x == ("__debug__" : Str)) = false := by decide)
    (hs : ∀ env : Env, swapsWith e (some (.Subscript (.Name x px) i tp)) pos.line env = pure false := by intro _; rfl) :
    Ex c σ n Γ (.Assign [.Subscript (.Name x px) i tp] e pos) (.next (upd Γ x sl')) :=
  fun env U V A s E R I => by
    refine wpAny_Assign_Subscript (wpAny_mono (a env U V A s E R I) (fun vv s₁ y => ?_) fun _ _ z => z) (hs env)
    have I' := I.keep y.1.2
    have I'' := I'
    obtain ⟨ρ, os, J⟩ := I'
    obtain ⟨v, hv, r⟩ := J.var x _ hΓ
    refine wpAny_Name (frame_load E J.fr hx hv ?_ hn) hd
    refine wpAny_mono (b env U V A s₁ E R I'') (fun vi s₂ z => ?_) fun _ _ z => z
    refine wpAny_mono (h U V A s₂ v (os x) vi vv (R.le (Nat.zero_le _)) (fun a ha => (J.own x _ hΓ a ha).1) (r.move (fun b _ o e => z.1.2 b o e) (fun b o _ e => z.1.2 b o e) fun _ p => p)
      (z.2.mono fun _ p => ⟨p.1, p.2 rfl⟩) ((y.2.keep z.1.2).mono fun _ p => ⟨p.1, p.2 rfl⟩)) (fun _ s₃ q => ?_) fun _ _ z => z
    obtain ⟨sm, a, ha, k, r'⟩ := q
    exact Left.trans y.1.1 (fun b o _ e => y.1.2 b o e) (fun _ q => .inl q) (mutate_left J z.1 sm hΓ ha k hv r')
theorem set_od {kvs : List (Str × D)} {k : Str} {dv : D} (hsz : kvs.length ≤ sizeLine) : ∀ (U V : Addr → Prop) A s v os vi vv, Rm 0 A → (∀ a ∈ os, V a) → SlotRep c s.heap (Cl U V) v (.od kvs) os → c.Rep s.heap (Cl U V) vi (.str k) → c.Rep s.heap (Cl U V) vv dv →
      wpAny c.M A (setItem v vi vv) (fun _ s' => Same s s' ∧ ∃ a ∈ os, (∀ b o, b ≠ a → s.heap.get? b = some o → s'.heap.get? b = some o) ∧ SlotRep c s'.heap (Cl U V) v (.od (put kvs k dv)) os) NoE s := by
  intro U V A s v os vi vv R ho r ri rv
  obtain ⟨a, vs, rfl, rfl, dd, rs⟩ := r.invOd
  obtain ⟨t, rfl⟩ := ri.invStr
  refine wpAny_setItem_pairs (knd := strKind c.prog c.w) (k := k) (by simp [PySem.strKind, Value.isStrOf]) dd.1 (fun h' d' hs' => ?_) (by rw [rs.length]; exact hsz)
  have kk : ∀ b o, b ≠ a → s.heap.get? b = some o → h'.get? b = some o := fun b o hb e => hs'.extBut b o hb e
  exact ⟨⟨h', _, rfl⟩, a, List.mem_cons_self, kk, .od ⟨d', dd.2⟩ ((rs.put rv).move (fun b o p e => kk b o (fun q => p.2 (ho b (q ▸ List.mem_cons_self))) e) fun _ p => p)⟩
theorem set_oi {ds : List D} {k : Int} {dv : D} (h0 : 0 ≤ k) (hk : k < ds.length) (hfit : k < 2 ^ 63) : ∀ (U V : Addr → Prop) A s v os vi vv, Rm 0 A → (∀ a ∈ os, V a) → SlotRep c s.heap (Cl U V) v (.oi ds) os → c.Rep s.heap (Cl U V) vi (.int k) → c.Rep s.heap (Cl U V) vv dv →
      wpAny c.M A (setItem v vi vv) (fun _ s' => Same s s' ∧ ∃ a ∈ os, (∀ b o, b ≠ a → s.heap.get? b = some o → s'.heap.get? b = some o) ∧ SlotRep c s'.heap (Cl U V) v (.oi (ds.set k.toNat dv)) os) NoE s := by
  intro U V A s v os vi vv R ho r ri rv
  obtain ⟨a, vs, rfl, rfl, dd, rs⟩ := r.invOi
  obtain ⟨t, rfl⟩ := ri.invInt
  refine wpAny_setItem_list dd h0 hfit (by rw [List.size_toArray, rs.length]; exact hk) (fun h' d' hs' => ?_)
  have kk : ∀ b o, b ≠ a → s.heap.get? b = some o → h'.get? b = some o := fun b o hb e => hs'.extBut b o hb e
  exact ⟨⟨h', _, rfl⟩, a, List.mem_cons_self, kk, .oi (vs := vs.set k.toNat vv) (by simpa using d') ((rs.set _ rv).move (fun b o p e => kk b o (fun q => p.2 (ho b (q ▸ List.mem_cons_self))) e) fun _ p => p)⟩
/-- in place operators on values that are not changed in place -/
noncomputable def InpV (c : Cf) (op : Operator) (d₁ d₂ d : D) : Prop := ∀ (P : Addr → Prop) A s v₁ v₂, Rm 0 A → (∀ a, s.heap.get? a = none → P a) → c.Rep s.heap P v₁ d₁ → c.Rep s.heap P v₂ d₂ →
  wpAny c.M A (inplaceOp op v₁ v₂) (fun v s' => Grow s s' ∧ c.Rep s'.heap P v d) NoE s
theorem inp_int {a b : Int} : InpV c .Add (.int a) (.int b) (.int (a + b)) := fun P A s v₁ v₂ R hf r₁ r₂ => by
  (obtain ⟨_, rfl⟩ := r₁.invInt; (obtain ⟨_, rfl⟩ := r₂.invInt; exact wpAny_iadd_int ⟨.mk' fun _ _ e => e, .int⟩))
theorem Ex.augname {x : Str} {px pos : Pos} {e : Expr} {op : Operator} (hΓ : Γ x = some (.fz d₁)) (hx : σ.lookup x = some .local ∨ σ.lookup x = some .cell) (b : EvE c σ n Γ true e d₂) (h : InpV c op d₁ d₂ d)
    (hn : (x == ("__classdict__" : Str)) = false := by decide) : Ex c σ n Γ (.AugAssign (.Name x px) op e pos) (.next (upd Γ x (.fz d))) :=
  fun env U V A s E R I => by
    have I' := I
    obtain ⟨ρ, os, J⟩ := I
    obtain ⟨v, hv, r⟩ := J.var x _ hΓ
    refine wpAny_AugAssign_Name (frame_load E J.fr (hx.elim .inl fun q => .inr (.inl q)) hv ?_ hn)
    have r := slot_read r true
    refine wpAny_mono (b env U V A s E R I') (fun v₂ s₁ y => ?_) fun _ _ z => z
    refine wpAny_mono (h _ A s₁ v v₂ (R.le (Nat.zero_le _)) (fresh_pm (I'.keep y.1.2) true) (r.keep y.1.2) y.2) (fun v₃ s₂ z => ?_) fun _ _ z => z
    exact store_left E I' (y.1.trans z.1) hx (os₁ := []) (.fz (z.2.mono fun _ p => ⟨⟨p.1, p.2 rfl⟩, fun q => nomatch q⟩)) List.nodup_nil fun a ha => nomatch ha
/-- x[i] += e -/
theorem Ex.augitem {x : Str} {px tp pos : Pos} {e i : Expr} {op : Operator} {sl sl' : Slot} {di d₁ d₂ dv : D} (hΓ : Γ x = some sl) (hx : σ.lookup x = some .local ∨ σ.lookup x = some .cell ∨ σ.lookup x = some .free)
    (b : EvE c σ n Γ true i di) (a : EvE c σ n Γ true e d₂) (hop : InpV c op d₁ d₂ dv)
    (hg : ∀ (s : Shared) (P : Addr → Prop) v os v₂, SlotRep c s.heap P v sl os → c.Rep s.heap P v₂ di → ∀ A, Rm 0 A → wpAny c.M A (getItem v v₂) (fun r s' => Grow s s' ∧ c.Rep s'.heap P r d₁) NoE s)
    (h : ∀ (U V : Addr → Prop) A s v os vi vv, Rm 0 A → (∀ a ∈ os, V a) → SlotRep c s.heap (Cl U V) v sl os → c.Rep s.heap (Cl U V) vi di → c.Rep s.heap (Cl U V) vv dv →
      wpAny c.M A (setItem v vi vv) (fun _ s' => Same s s' ∧ ∃ a ∈ os, (∀ b o, b ≠ a → s.heap.get? b = some o → s'.heap.get? b = some o) ∧ SlotRep c s'.heap (Cl U V) v sl' os) NoE s)
    (hn : (x == ("__classdict__" : Str)) = false := by decide) (hd : (x == ("__debug__" : Str)) = false := by decide)
    (hi : ∀ ov iv new, augStore i ov iv new = (do holding [new, ov, iv] (setItem ov iv new); release [new, ov, iv] []; pure .next) := by intros; rfl) :
    Ex c σ n Γ (.AugAssign (.Subscript (.Name x px) i tp) op e pos) (.next (upd Γ x sl')) :=
  fun env U V A s E R I => by
    have I' := I
    obtain ⟨ρ, os, J⟩ := I
    obtain ⟨v, hv, r⟩ := J.var x _ hΓ
    refine wpAny_AugAssign_SubscriptAny (wpAny_Name (frame_load E J.fr hx hv ?_ hn) hd) hi
    have R0 : Rm 0 A := R.le (Nat.zero_le _)
    refine wpAny_mono (b env U V A s E R I') (fun vi s₁ y => ?_) fun _ _ z => z
    have r₁ := r.move (h' := s₁.heap) (P' := Cl U V) (fun b _ o e => y.1.2 b o e) (fun b o _ e => y.1.2 b o e) fun _ p => p
    have ri := y.2.mono (P' := Cl U V) fun _ p => ⟨p.1, p.2 rfl⟩
    refine wpAny_mono (hg s₁ (Cl U V) v (os x) vi r₁ ri A R0) (fun old s₂ z => ?_) fun _ _ z => z
    refine wpAny_mono (a env U V A s₂ E R (I'.keep (y.1.trans z.1).2)) (fun v₂ s₃ t => ?_) fun _ _ z => z
    have I₃ := (I'.keep (y.1.trans z.1).2).keep t.1.2
    have clf : ∀ a, s₃.heap.get? a = none → Cl U V a := fun a e => ⟨(fresh_pm I₃ true a e).1, (fresh_pm I₃ true a e).2 rfl⟩
    refine wpAny_mono (hop (Cl U V) A s₃ old v₂ R0 clf (z.2.keep t.1.2) (t.2.mono fun _ p => ⟨p.1, p.2 rfl⟩)) (fun new s₄ u => ?_) fun _ _ z => z
    have g₄ := ((y.1.trans z.1).trans t.1).trans u.1
    have g₁ := (z.1.trans t.1).trans u.1
    refine wpAny_mono (h U V A s₄ v (os x) vi new R0 (fun a ha => (J.own x _ hΓ a ha).1) (r₁.move (fun b _ o e => g₁.2 b o e) (fun b o _ e => g₁.2 b o e) fun _ p => p) (ri.keep g₁.2) u.2) (fun _ s₅ q => ?_) fun _ _ z => z
    obtain ⟨sm, a, ha, k, r'⟩ := q
    exact mutate_left J g₄ sm hΓ ha k hv r'
theorem get_od {kvs : List (Str × D)} {k : Str} {d : D} (hg : dget kvs k = some d) (s : Shared) (P : Addr → Prop) (v : Value) (os : List Addr) (v₂ : Value) (r : SlotRep c s.heap P v (.od kvs) os) (ri : c.Rep s.heap P v₂ (.str k)) :
    ∃ T id, s.TypeIs v T ∧ typeLookup (.type T) "__getitem__" = pure (some (.builtin id)) ∧ ∀ A, Rm 0 A → wpAny c.M A (getItem v v₂) (fun r s' => Grow s s' ∧ c.Rep s'.heap P r d) NoE s := by
  obtain ⟨a, vs, rfl, rfl, dd, rs⟩ := r.invOd
  obtain ⟨t, rfl⟩ := ri.invStr
  obtain ⟨u, e, y⟩ := rs.get hg
  refine ⟨"dict", _, dd.1.typeIs, slot_dict_getitem.lookup, fun A R => ?_⟩
  exact wpAny_getItem_of (knd := strKind c.prog c.w) (k := k) (by simp [PySem.strKind, Value.isStrOf]) dd.1.mapOf e ⟨.mk' fun _ _ e => e, y⟩
theorem get_oi {ds : List D} {k : Int} {d : D} (h0 : 0 ≤ k) (hfit : k < 2 ^ 63) (hg : ds[k.toNat]? = some d) (s : Shared) (P : Addr → Prop) (v : Value) (os : List Addr) (v₂ : Value) (r : SlotRep c s.heap P v (.oi ds) os) (ri : c.Rep s.heap P v₂ (.int k)) :
    ∃ T id, s.TypeIs v T ∧ typeLookup (.type T) "__getitem__" = pure (some (.builtin id)) ∧ ∀ A, Rm 0 A → wpAny c.M A (getItem v v₂) (fun r s' => Grow s s' ∧ c.Rep s'.heap P r d) NoE s := by
  obtain ⟨a, vs, rfl, rfl, dd, rs⟩ := r.invOi
  obtain ⟨t, rfl⟩ := ri.invInt
  obtain ⟨u, e, y⟩ := rs.get hg
  exact ⟨"list", _, dd.typeIs, slot_list_getitem.lookup, fun A R => wpAny_getItem_list dd h0 hfit (by simpa using e) ⟨.refl s, y⟩⟩
theorem get_ol {ds : List D} {k : Int} {d : D} (h0 : 0 ≤ k) (hfit : k < 2 ^ 63) (hg : ds[k.toNat]? = some d) (s : Shared) (P : Addr → Prop) (v : Value) (os : List Addr) (v₂ : Value) (r : SlotRep c s.heap P v (.ol ds) os) (ri : c.Rep s.heap P v₂ (.int k)) :
    ∃ T id, s.TypeIs v T ∧ typeLookup (.type T) "__getitem__" = pure (some (.builtin id)) ∧ ∀ A, Rm 0 A → wpAny c.M A (getItem v v₂) (fun r s' => Grow s s' ∧ c.Rep s'.heap P r d) NoE s := by
  obtain ⟨a, vs, rfl, rfl, dd, rs⟩ := r.invOl
  obtain ⟨t, rfl⟩ := ri.invInt
  obtain ⟨u, e, y⟩ := rs.get hg
  exact ⟨"list", _, dd.isList.typeIs, slot_list_getitem.lookup, fun A R => wpAny_getItem_list dd.isList h0 hfit (by simpa using e) ⟨.refl s, y⟩⟩
theorem get_ol_last {ds : List D} {d : D} (hg : ds.getLast? = some d) (hsz : ds.length < 2 ^ 62) (s : Shared) (P : Addr → Prop) (v : Value) (os : List Addr) (v₂ : Value) (r : SlotRep c s.heap P v (.ol ds) os) (ri : c.Rep s.heap P v₂ (.int (-1))) :
    ∃ T id, s.TypeIs v T ∧ typeLookup (.type T) "__getitem__" = pure (some (.builtin id)) ∧ ∀ A, Rm 0 A → wpAny c.M A (getItem v v₂) (fun r s' => Grow s s' ∧ c.Rep s'.heap P r d) NoE s := by
  obtain ⟨a, vs, rfl, rfl, dd, rs⟩ := r.invOl
  obtain ⟨t, rfl⟩ := ri.invInt
  rw [List.getLast?_eq_getElem?] at hg
  obtain ⟨u, e, y⟩ := rs.get hg
  have hl := rs.length
  have hpos : 0 < ds.length := by
    cases ds with
    | nil => simp at hg
    | cons _ _ => simp
  refine ⟨"list", _, dd.isList.typeIs, slot_list_getitem.lookup, fun A R => wpAny_getItem_list_neg dd.isList (by decide) (by rw [List.size_toArray]; lia) (by decide) ?_ ⟨.refl s, y⟩⟩
  rw [List.size_toArray, hl]
  have : ((-1 : Int) + (ds.length : Nat)).toNat = ds.length - 1 := by lia
  rw [this]; simpa using e
end
end Mine
end
-- B6
section
open PySem PyProof.Rows PySem.W
set_option Elab.async false
set_option linter.unusedVariables false
namespace Mine
/-- an iterator of the interpreter's, its own addresses, and what it has still to give -/
inductive IterAt (c : Cf) (h : Heap) (P : Addr → Prop) : Addr → List Addr → Bool → List D → Prop
  | list {it l : Addr} {i : Nat} {vs : List Value} {ds : List D} : h.IsListIter it l i → h.IsList l vs.toArray → P l → c.Reps h P (vs.drop i) ds → IterAt c h P it [it] false ds
  | keys {it dd : Addr} {i ep : Nat} {kvs : List (Str × Value)} {ds : List D} : h.IsKeyIter it dd i kvs.length ep → h.DictAt (strKind c.prog c.w) dd kvs ep → P dd →
      ds = (kvs.drop i).map (fun kv => D.str kv.1) → IterAt c h P it [it] false ds
  | vals {it dd : Addr} {i ep : Nat} {kvs : List (Str × Value)} {es : List (Str × D)} {ds : List D} : h.IsValIter it dd i kvs.length ep → h.DictAt (strKind c.prog c.w) dd kvs ep → P dd →
      c.RepsK h P (kvs.drop i) es → ds = es.map (·.2) → IterAt c h P it [it] false ds
  | items {it dd : Addr} {i ep : Nat} {kvs : List (Str × Value)} {es : List (Str × D)} {ds : List D} {ok ov : Value} : IsItemIter h it dd i kvs.length ep ok ov → h.DictAt (strKind c.prog c.w) dd kvs ep → P dd →
      c.RepsK h P (kvs.drop i) es → ds = es.map (fun kv => D.tup [.str kv.1, kv.2]) → IterAt c h P it [it] true ds
  | range {it : Addr} {x : Int} {k : Nat} {ds : List D} : IsRangeIter h it x (k : Int) 1 → ds = (List.range k).map (fun j => D.int (x + (j : Nat))) → IterAt c h P it [it] false ds
  | enum {e it l : Addr} {i : Nat} {old : Value} {vs : List Value} {es : List D} {ds : List D} : IsEnum h e it (i : Int) old → h.IsListIter it l i → h.IsList l vs.toArray → P l → e ≠ it → c.Reps h P (vs.drop i) es →
      ds = (es.zipIdx i).map (fun p => D.tup [.int (p.2 : Nat), p.1]) → IterAt c h P e [e, it] true ds
section
variable {c : Cf} {σ : List (Str × NameKind)} {n : Nat} {Γ Γ₁ Γ₂ : Vars} {m : Bool} {d d₁ d₂ : D}
theorem IterAt.dom {h : Heap} {P : Addr → Prop} {it : Addr} {F : List Addr} {t : Bool} {ds : List D} (x : IterAt c h P it F t ds) : ∀ a ∈ F, Dom h a := by
  cases x with
  | list q _ _ _ => intro a ha; obtain rfl := List.mem_singleton.mp ha; obtain ⟨o, e, _⟩ := q; exact ⟨o, e⟩
  | keys q _ _ _ => intro a ha; obtain rfl := List.mem_singleton.mp ha; obtain ⟨o, e, _⟩ := q; exact ⟨o, e⟩
  | vals q _ _ _ _ => intro a ha; obtain rfl := List.mem_singleton.mp ha; obtain ⟨o, e, _⟩ := q; exact ⟨o, e⟩
  | items q _ _ _ _ => intro a ha; obtain rfl := List.mem_singleton.mp ha; exact ⟨_, q⟩
  | range q _ => intro a ha; obtain rfl := List.mem_singleton.mp ha; exact ⟨_, q⟩
  | enum q q' _ _ _ _ _ =>
    intro a ha
    rcases List.mem_cons.mp ha with rfl | ha
    · exact ⟨_, q⟩
    · obtain rfl := List.mem_singleton.mp ha; obtain ⟨o, e, _⟩ := q'; exact ⟨o, e⟩
theorem dictAt_at {h h' : Heap} {kvs : List (Str × Value)} {a : Addr} {ep : Nat} (x : h.DictAt (strKind c.prog c.w) a kvs ep) (hk : ∀ o, h.get? a = some o → h'.get? a = some o) : h'.DictAt (strKind c.prog c.w) a kvs ep :=
  let ⟨o, es, ho, r⟩ := x; ⟨o, es, hk _ ho, r⟩
theorem IterAt.move {h h' : Heap} {P P' : Addr → Prop} {it : Addr} {F : List Addr} {t : Bool} {ds : List D} (x : IterAt c h P it F t ds) (ho : ∀ b ∈ F, ∀ o, h.get? b = some o → h'.get? b = some o)
    (hk : ∀ b o, P b → h.get? b = some o → h'.get? b = some o) (hp : ∀ b, P b → Dom h b → P' b) : IterAt c h' P' it F t ds := by
  have mv : ∀ {vs : List Value} {es : List D}, c.Reps h P vs es → c.Reps h' P' vs es := fun r => r.live.move (fun b o p e => hk b o p.1 e) fun b p => hp b p.1 p.2
  have mk : ∀ {vs : List (Str × Value)} {es : List (Str × D)}, c.RepsK h P vs es → c.RepsK h' P' vs es := fun r => r.live.move (fun b o p e => hk b o p.1 e) fun b p => hp b p.1 p.2
  cases x with
  | list q l p r => exact .list (q.at fun o e => ho _ (by simp) o e) (l.at fun o e => hk _ o p e) (hp _ p (let ⟨o, e, _⟩ := l; ⟨o, e⟩)) (mv r)
  | keys q l p r => exact .keys (let ⟨o, e, z⟩ := q; ⟨o, ho _ (by simp) o e, z⟩) (dictAt_at l fun o e => hk _ o p e) (hp _ p (let ⟨o, _, e, _⟩ := l; ⟨o, e⟩)) r
  | vals q l p r z => exact .vals (let ⟨o, e, z⟩ := q; ⟨o, ho _ (by simp) o e, z⟩) (dictAt_at l fun o e => hk _ o p e) (hp _ p (let ⟨o, _, e, _⟩ := l; ⟨o, e⟩)) (mk r) z
  | items q l p r z => exact .items (ho _ (by simp) _ q) (dictAt_at l fun o e => hk _ o p e) (hp _ p (let ⟨o, _, e, _⟩ := l; ⟨o, e⟩)) (mk r) z
  | range q z => exact .range (ho _ (by simp) _ q) z
  | enum q q' l p ne r z => exact .enum (ho _ (by simp) _ q) (q'.at fun o e => ho _ (by simp) o e) (l.at fun o e => hk _ o p e) (hp _ p (let ⟨o, e, _⟩ := l; ⟨o, e⟩)) ne (mv r) z
/-- the iterators that keep no tuple -/
noncomputable def Plain (T : String) : Prop := T = "list_iterator" ∨ T = "dict_keyiterator" ∨ T = "dict_valueiterator" ∨ T = "range_iterator"
theorem letGo_plain {A : Around} {E : Value → Shared → Prop} {s : Shared} {tgt : Expr} {it : Addr} {o : Obj} {T : String} {v : Value} {Q : Unit → Shared → Prop} (ho : s.heap.get? it = some o) (hc : o.cls = .type T)
    (hT : Plain T) (h : Q () s) : wpAny c.M A (letOwnedTupleGo tgt (.ref it) v) Q E s := by
  suffices key : wpAny c.M A (letOwnedTupleGo (.Tuple [] 0 default) (.ref it) v) Q E s by
    unfold letOwnedTupleGo
    split
    · exact key
    · exact key
    · exact wpAny_pure h
  unfold letOwnedTupleGo
  cases v <;> first | exact wpAny_pure h | skip
  refine wpAny_bind (wpAny_load ho ?_)
  rw [hc]
  cases o.data <;> first | exact wpAny_pure h | skip
  refine (congrArg (fun m => wpAny c.M A m Q E s) (if_neg ?_)).mpr (wpAny_pure h)
  rcases hT with rfl | rfl | rfl | rfl <;> exact fun q => absurd (Bool.and_eq_true_iff.mp q).1 (by decide)
theorem str_of_is {k : Str} {key : Value} (h : (PySem.strKind c.prog c.w).is k key = true) : ∃ t, key = .str k t := Value.isStrOf_shape h
theorem drop_cons {α : Type} {vs : List α} {i : Nat} {v : α} {r : List α} (h : vs.drop i = v :: r) : vs[i]? = some v ∧ vs.drop (i + 1) = r := by
  constructor
  · have : (vs.drop i)[0]? = some v := by rw [h]; rfl
    simpa using this
  · have : (vs.drop i).drop 1 = r := by rw [h]; rfl
    simpa [List.drop_drop, Nat.add_comm] using this
/-- what a step of an iterator gives -/
noncomputable def StepTo (c : Cf) (A : Around) (s : Shared) (P : Addr → Prop) (it : Addr) (F : List Addr) (t : Bool) (d : D) (ds : List D) (tgt : Expr) (r : Option Value) (s₁ : Shared) : Prop :=
  ∃ v, r = some v ∧ wpAny c.M A (letOwnedTupleGo tgt (.ref it) v) (fun _ s₂ => Same s s₂ ∧ (∀ b o, b ∉ F → s.heap.get? b = some o → s₂.heap.get? b = some o) ∧ c.Rep s₂.heap P v d ∧ IterAt c s₂.heap P it F t ds) NoE s₁
theorem step_plain {A : Around} {s : Shared} {P : Addr → Prop} {it : Addr} {t : Bool} {ds : List D} {tgt : Expr} {v : Value} {h' : Heap} {o : Obj} {T : String} (tk : Nat) (hs : Heap.SameBut it s.heap h') (ho : h'.get? it = some o)
    (hc : o.cls = .type T) (hT : Plain T) (r : c.Rep h' P v d) (x : IterAt c h' P it [it] t ds) : StepTo c A s P it [it] t d ds tgt (some v) { s with heap := h', toks := tk } :=
  ⟨_, rfl, letGo_plain (s := { s with heap := h', toks := tk }) ho hc hT ⟨⟨_, _, rfl⟩, fun b o hb q => hs.extBut b o (by simpa using hb) q, r, x⟩⟩
/-- one step -/
theorem iter_step {A : Around} {s : Shared} {P : Addr → Prop} {it : Addr} {F : List Addr} {t : Bool} {ds : List D} {tgt : Expr} (x : IterAt c s.heap P it F t (d :: ds)) (hF : ∀ a ∈ F, ¬ P a)
    (hf : ∀ a, s.heap.get? a = none → P a) (ht : t = true → ∃ es k p, tgt = .Tuple es k p) :
    wpAny c.M A (pyNext (.ref it)) (StepTo c A s P it F t d ds tgt) NoE s := by
  generalize hdd : d :: ds = dd at x
  have nP : ∀ {a b : Addr}, P a → b ∈ F → a ≠ b := fun p q e => hF _ q (e ▸ p)
  cases x with
  | @list l i vs _ q hl p r =>
    subst hdd
    obtain ⟨v, rest, hvs, rv, rr⟩ := r.invCons
    obtain ⟨h1, h2⟩ := drop_cons hvs
    refine wpAny_pyNext_list_item q hl (x := v) (by simpa using h1) fun h' q' hs' => ?_
    have k : ∀ b o, P b → s.heap.get? b = some o → h'.get? b = some o := fun b o pb e => hs'.extBut b o (nP pb (by simp)) e
    obtain ⟨o, ho, hc, _⟩ := id q'
    exact step_plain s.toks hs' ho hc (.inl rfl) (rv.move k fun _ p => p) (.list q' (hl.at fun o e => k _ o p e) p (h2 ▸ rr.move k fun _ p => p))
  | @keys dd i ep kvs _ q hl p r =>
    subst hdd
    obtain ⟨kv, rest, hvs⟩ : ∃ kv rest, kvs.drop i = kv :: rest := by cases hvs : kvs.drop i with | nil => rw [hvs] at r; cases r | cons kv rest => exact ⟨_, _, rfl⟩
    rw [hvs] at r
    obtain ⟨rfl, rfl⟩ := List.cons.inj r
    obtain ⟨h1, h2⟩ := drop_cons hvs
    refine wpAny_pyNext_dict_item q hl (k := kv.1) (v := kv.2) h1 fun key h' hkey q' hs' => ?_
    have k : ∀ b o, P b → s.heap.get? b = some o → h'.get? b = some o := fun b o pb e => hs'.extBut b o (nP pb (by simp)) e
    obtain ⟨o, ho, hc, _⟩ := id q'
    obtain ⟨tk, rfl⟩ := str_of_is hkey
    exact step_plain s.toks hs' ho hc (.inr (.inl rfl)) .str (.keys q' (dictAt_at hl fun o e => k _ o p e) p (by rw [h2]))
  | @vals dd i ep kvs es _ q hl p r hd =>
    subst hd
    cases es with
    | nil => cases hdd
    | cons e es =>
      obtain ⟨rfl, rfl⟩ := List.cons.inj hdd
      obtain ⟨v, rest, hvs, rv, rr⟩ := r.invCons
      obtain ⟨h1, h2⟩ := drop_cons hvs
      refine wpAny_pyNext_values_item q hl (k := e.1) (v := v) h1 fun h' q' hs' => ?_
      have k : ∀ b o, P b → s.heap.get? b = some o → h'.get? b = some o := fun b o pb e => hs'.extBut b o (nP pb (by simp)) e
      obtain ⟨o, ho, hc, _⟩ := id q'
      exact step_plain s.toks hs' ho hc (.inr (.inr (.inl rfl))) (rv.move k fun _ p => p) (.vals q' (dictAt_at hl fun o e => k _ o p e) p (h2 ▸ rr.move k fun _ p => p) rfl)
  | @items dd i ep kvs es _ ok ov q hl p r hd =>
    obtain ⟨elts, k', pos, rfl⟩ := ht rfl
    subst hd
    cases es with
    | nil => cases hdd
    | cons e es =>
      obtain ⟨rfl, rfl⟩ := List.cons.inj hdd
      obtain ⟨v, rest, hvs, rv, rr⟩ := r.invCons
      obtain ⟨h1, h2⟩ := drop_cons hvs
      refine wpAny_pyNext_items_item q hl (k := e.1) (v := v) h1 fun key h' hkey q' htup hsz hk => ⟨_, rfl, ?_⟩
      obtain ⟨tk, rfl⟩ := str_of_is hkey
      refine wpAny_letOwnedTupleGo_items (s := { s with heap := h' }) q' fun h'' q'' hs'' => ?_
      have k : ∀ b o, P b → s.heap.get? b = some o → h''.get? b = some o := fun b o pb e => hs''.extBut b o (nP pb (by simp)) (hk b o (nP pb (by simp)) e)
      have hne : s.heap.objs.size ≠ it := nP (hf _ (heap_size_none _)) (by simp)
      exact ⟨⟨h'', _, rfl⟩, fun b o hb e => hs''.extBut b o (by simpa using hb) (hk b o (by simpa using hb) e),
        .tup (vs := [.str e.1 tk, v]) ⟨_, hs''.extBut _ _ hne htup, rfl, 0, rfl⟩ (hf _ (heap_size_none _)) (.cons .str (.cons (rv.move k fun _ p => p) .nil)),
        .items q'' (dictAt_at hl fun o e => k _ o p e) p (h2 ▸ rr.move k fun _ p => p) rfl⟩
  | @range x k _ q hd =>
    subst hd
    cases k with
    | zero => cases hdd
    | succ k =>
      rw [List.range_succ_eq_map, List.map_cons, List.map_map] at hdd
      obtain ⟨rfl, rfl⟩ := List.cons.inj hdd
      refine wpAny_pyNext_range_item q (by lia) fun h' q' hs' => ?_
      have e1 : ((k + 1 : Nat) : Int) - 1 = (k : Int) := by lia
      refine step_plain (s.toks + 1) hs' q' rfl (.inr (.inr (.inr rfl))) ?_ (.range (e1 ▸ q') ?_)
      · rw [Int.ofNat_zero, Int.add_zero]; exact .int
      · exact List.map_congr_left fun j _ => congrArg D.int (by simp only [Nat.succ_eq_add_one]; lia)
  | @enum it' l i old vs es _ q q' hl p ne r hd =>
    obtain ⟨elts, k', pos, rfl⟩ := ht rfl
    subst hd
    cases es with
    | nil => cases hdd
    | cons e es =>
      obtain ⟨rfl, rfl⟩ := List.cons.inj hdd
      obtain ⟨v, rest, hvs, rv, rr⟩ := r.invCons
      obtain ⟨h1, h2⟩ := drop_cons hvs
      refine wpAny_pyNext_enum_item q q' hl (x := v) (by simpa using h1) ne fun h' qe ql htup hsz hk => ⟨_, rfl, ?_⟩
      refine wpAny_letOwnedTupleGo_enum (s := { s with heap := h', toks := s.toks + 1 }) qe fun h'' qe' hs'' => ?_
      have k : ∀ b o, P b → s.heap.get? b = some o → h''.get? b = some o := fun b o pb e => hs''.extBut b o (nP pb (by simp)) (hk b o (nP pb (by simp)) (nP pb (by simp)) e)
      have hne : s.heap.objs.size ≠ it := nP (hf _ (heap_size_none _)) (by simp)
      exact ⟨⟨h'', _, rfl⟩, fun b o hb e => hs''.extBut b o (fun q => hb (q ▸ List.mem_cons_self)) (hk b o (fun q => hb (q ▸ List.mem_cons_self)) (fun q => hb (q ▸ List.mem_cons_of_mem _ List.mem_cons_self)) e),
        .tup (vs := [.int i s.toks, v]) ⟨_, hs''.extBut _ _ hne htup, rfl, 0, rfl⟩ (hf _ (heap_size_none _)) (.cons .int (.cons (rv.move k fun _ p => p) .nil)),
        .enum (i := i + 1) (by simpa using qe') (ql.extBut hs''.extBut (Ne.symm ne)) (hl.at fun o e => k _ o p e) p ne (h2 ▸ rr.move k fun _ p => p) rfl⟩
theorem iter_end {A : Around} {s : Shared} {P : Addr → Prop} {it : Addr} {F : List Addr} {t : Bool} (hh : A.handled = none) (x : IterAt c s.heap P it F t []) :
    wpAny c.M A (pyNext (.ref it)) (fun r s₁ => r = none ∧ Same s s₁ ∧ ∀ b o, b ∉ F → s.heap.get? b = some o → s₁.heap.get? b = some o) NoE s := by
  generalize hdd : ([] : List D) = dd at x
  have fin : ∀ h', Heap.ExtBut it s.heap h' → it ∈ F → ((none : Option Value) = none ∧ Same s { s with heap := h' } ∧ ∀ b o, b ∉ F → s.heap.get? b = some o → ({ s with heap := h' } : Shared).heap.get? b = some o) :=
    fun h' he hi => ⟨rfl, ⟨h', _, rfl⟩, fun b o hb e => he b o (fun q => hb (q ▸ hi)) e⟩
  cases x with
  | @list l i vs _ q hl p r =>
    subst hdd
    exact wpAny_pyNext_list_end hh q hl (by simpa using r.invNil) fun h' he => fin h' he (by simp)
  | @keys dd i ep kvs _ q hl p r =>
    subst hdd
    exact wpAny_pyNext_dict_end hh q hl (by simpa using r.symm) fun h' he => fin h' he (by simp)
  | @vals dd i ep kvs es _ q hl p r hd =>
    subst hdd
    obtain rfl := List.map_eq_nil_iff.mp hd.symm
    exact wpAny_pyNext_values_end hh q hl (by simpa using r.invNil) fun h' he => fin h' he (by simp)
  | @items dd i ep kvs es _ ok ov q hl p r hd =>
    subst hdd
    obtain rfl := List.map_eq_nil_iff.mp hd.symm
    exact wpAny_pyNext_items_end hh q hl (by simpa using r.invNil) fun h' he => fin h' he (by simp)
  | @range x k _ q hd =>
    subst hdd
    obtain rfl : k = 0 := by simpa using (List.map_eq_nil_iff.mp hd.symm)
    exact wpAny_pyNext_range_end hh q (by simp) fun h' he => fin h' he (by simp)
  | @enum it' l i old vs es _ q q' hl p ne r hd =>
    subst hdd
    cases es with
    | cons _ _ => cases hd
    | nil => exact wpAny_pyNext_enum_end hh q q' hl (by simpa using r.invNil) fun h' he => ⟨rfl, ⟨h', _, rfl⟩, fun b o hb e => he b o (fun q => hb (by simp [q])) e⟩
theorem iter_self {A : Around} {E : Value → Shared → Prop} {s : Shared} {P : Addr → Prop} {it : Addr} {F : List Addr} {ds : List D} {Q : Value → Shared → Prop} (x : IterAt c s.heap P it F false ds) (h : Q (.ref it) s) :
    wpAny c.M A (pyIter (.ref it)) Q E s := by
  generalize ht : false = t at x
  cases x with
  | list q _ _ _ => exact wpAny_pyIter_listiter q h
  | keys q _ _ _ => exact wpAny_pyIter_keyiter q h
  | vals q _ _ _ _ => exact wpAny_pyIter_valiter q h
  | range q _ => exact wpAny_pyIter_rangeiter q h
  | items => cases ht
  | enum => cases ht
end
end Mine
end
-- B7
section
open PySem PyProof.Rows PySem.W
set_option Elab.async false
set_option linter.unusedVariables false
namespace Mine
section
variable {c : Cf} {σ : List (Str × NameKind)} {n : Nat} {Γ Γ₁ Γ₂ : Vars} {m : Bool} {d d₁ d₂ : D}
/-- a target gets a value -/
noncomputable def Asn (c : Cf) (σ : List (Str × NameKind)) (n : Nat) (Γ : Vars) (tgt : Expr) (d : D) (Γ' : Vars) : Prop :=
  ∀ env U V A s v, EnvOk σ env → Rm n A → Inv c env U V Γ s.heap → c.Rep s.heap (Cl U V) v d → wpAny c.M A (assign tgt env v) (fun _ s' => Left c env U V s (.next Γ') .next s') NoE s
theorem Asn.name {x : Str} {px : Pos} (hx : σ.lookup x = some .local ∨ σ.lookup x = some .cell) : Asn c σ n Γ (.Name x px) d (upd Γ x (.fz d)) :=
  fun env U V A s v E R I r => wpAny_assign_Name (wpAny_mono (store_left E I (.refl s) hx (os₁ := []) (.fz (r.mono fun _ p => ⟨p, fun q => nomatch q⟩)) List.nodup_nil fun a ha => nomatch ha) (fun _ _ l => l) fun _ _ z => z)
/-- a row of targets -/
noncomputable def AsnL (c : Cf) (σ : List (Str × NameKind)) (n : Nat) (Γ : Vars) (ts : List Expr) (ds : List D) (Γ' : Vars) : Prop :=
  ∀ env U V A s vs, EnvOk σ env → Rm n A → Inv c env U V Γ s.heap → c.Reps s.heap (Cl U V) vs ds → wpAny c.M A (assignInOrder ((assignEach ts env).map (·.2)) vs) (fun _ s' => Left c env U V s (.next Γ') .next s') NoE s
theorem AsnL.nil : AsnL c σ n Γ [] [] Γ := fun env U V A s vs E R I r => by
  cases r; exact wpAny_pure ⟨.refl s, fun _ _ _ e => e, rfl, V, fun _ q => .inl q, I⟩
theorem AsnL.cons {t : Expr} {ts : List Expr} {ds : List D} (a : Asn c σ n Γ t d Γ₁) (b : AsnL c σ n Γ₁ ts ds Γ₂) (he : ∀ env, assignEach (t :: ts) env = (false, assign t env) :: assignEach ts env := by intro _; rfl) : AsnL c σ n Γ (t :: ts) (d :: ds) Γ₂ :=
  fun env U V A s vs E R I r => by
    obtain ⟨v, vs, rfl, rv, rs⟩ := r.invCons
    rw [he]
    refine wpAny_assignInOrder_more (wpAny_mono (a env U V A s v E R I rv) (fun _ s₁ l => ?_) fun _ _ z => z)
    obtain ⟨sm, k, _, V₁, x, I₁⟩ := l
    have rs' : c.Reps s₁.heap (Cl U V₁) vs ds := rs.live.move (fun b o p e => k b o p.1.2 e) fun b p => ⟨p.1.1, fun q => by
      rcases x b q with q | q
      · exact p.1.2 q
      · obtain ⟨o, e⟩ := p.2; rw [q] at e; cases e⟩
    exact wpAny_mono (b env U V₁ A s₁ vs E R I₁ rs') (fun _ _ l => Left.trans sm k x l) fun _ _ z => z
theorem Left.grow {env : Env} {U V : Addr → Prop} {s s₁ s₂ : Shared} {out : Out} {f : Flow} (g : Grow s s₁) (l : Left c env U V s₁ out f s₂) : Left c env U V s out f s₂ :=
  Left.trans g.1 (fun b o _ e => g.2 b o e) (fun _ q => .inl q) l
theorem Asn.tuple {ts : List Expr} {ds : List D} {k : Nat} {pos : Pos} (b : AsnL c σ n Γ ts ds Γ₁) (hn : ∀ env, (assignEach ts env).length = ds.length := by intro _; rfl)
    (hstar : ∀ env, (assignEach ts env).findIdx? (·.1) = none := by intro _; rfl) : Asn c σ n Γ (.Tuple ts k pos) (.tup ds) Γ₁ :=
  fun env U V A s v E R I r => by
    obtain ⟨a, vs, rfl, ht, p, rs⟩ := r.invTup
    refine wpAny_assign_Tuple R.handled ht (by rw [hn, List.size_toArray, rs.length]) (hstar env) fun h' hx => ?_
    have kp : Keep s.heap h' := fun b o e => hx b o (Nat.ne_of_lt (Heap.lt_size e)) e
    have g : Grow s { s with heap := h' } := ⟨⟨h', _, rfl⟩, kp⟩
    exact wpAny_mono (b env U V A { s with heap := h' } _ E R (I.keep kp) (by simpa using rs.keep kp)) (fun _ _ l => Left.grow g l) fun _ _ z => z
theorem Ex.assignT {ts : List Expr} {k : Nat} {tp pos : Pos} {e : Expr} (a : EvE c σ n Γ true e d) (b : Asn c σ n Γ (.Tuple ts k tp) d Γ₁)
    (hs : ∀ env, swapsWithSole [.Tuple ts k tp] e pos.line env = pure false := by intro _; rfl) (hw : ∀ env, swappedStores [.Tuple ts k tp] e env = pure none := by intro _; rfl) :
    Ex c σ n Γ (.Assign [.Tuple ts k tp] e pos) (.next Γ₁) :=
  fun env U V A s E R I => Assign_Tuple (wpAny_mono (a env U V A s E R I) (fun v s₁ y => wpAny_mono (b env U V A s₁ v E R (I.keep y.1.2) (y.2.mono fun _ p => ⟨p.1, p.2 rfl⟩)) (fun _ _ l => Left.grow y.1 l) fun _ _ z => z) fun _ _ z => z) (hs env) (hw env)
/-- an expression as a loop's source -/
noncomputable def EvIt (c : Cf) (σ : List (Str × NameKind)) (n : Nat) (Γ : Vars) (e : Expr) (t : Bool) (ds : List D) : Prop :=
  ∀ env U V A s, EnvOk σ env → Rm n A → Inv c env U V Γ s.heap → wpAny c.M A (eval e env) (fun v s₁ => wpAny c.M A (pyIter v) (fun it s₂ => Grow s s₂ ∧ ∃ a F, it = .ref a ∧
    IterAt c s₂.heap (fun b => Cl U V b ∧ b ∉ F) a F t ds ∧ (∀ b ∈ F, s.heap.get? b = none)) NoE s₁) NoE s
theorem shut_mem {h : Heap} {a : Addr} {P : Addr → Prop} : ∀ b, (P b ∧ Dom h b) → P b ∧ b ∉ [h.objs.size] := fun b p => ⟨p.1, fun q => by
  obtain rfl := List.mem_singleton.mp q
  obtain ⟨o, e⟩ := p.2; rw [heap_size_none] at e; cases e⟩
theorem fresh_back {s s₁ : Shared} (g : Grow s s₁) {b : Addr} (h : s₁.heap.get? b = none) : s.heap.get? b = none := by
  cases e : s.heap.get? b with
  | none => rfl
  | some o => have := g.2 b o e; rw [h] at this; cases this
theorem EvIt.list {e : Expr} {ds : List D} (a : EvE c σ n Γ true e (.list ds)) : EvIt c σ n Γ e false ds :=
  fun env U V A s E R I => wpAny_mono (a env U V A s E R I) (fun v s₁ y => by
    obtain ⟨g, r⟩ := y
    obtain ⟨l, vs, rfl, hl, p, rs⟩ := r.invList
    refine wpAny_pyIter_list hl ⟨g.trans ⟨⟨_, _, rfl⟩, push_keep _ _⟩, _, [s₁.heap.objs.size], rfl, ?_, fun b hb => ?_⟩
    · refine .list (l := l) (i := 0) (vs := vs) ⟨_, Heap.get?_push_size _ rfl, rfl, rfl⟩ (hl.at fun o e => push_keep _ _ _ _ e) (shut_mem (a := l) _ ⟨⟨p.1, p.2 rfl⟩, let ⟨o, e, _⟩ := hl; ⟨o, e⟩⟩) ?_
      exact rs.live.move (fun b o _ e => push_keep _ _ b o e) fun b p => shut_mem (a := b) _ ⟨⟨p.1.1, p.1.2 rfl⟩, p.2⟩
    · obtain rfl := List.mem_singleton.mp hb; exact fresh_back g (heap_size_none _)) fun _ _ z => z
theorem EvIt.dict {e : Expr} {kvs : List (Str × D)} (a : EvE c σ n Γ true e (.dict kvs)) : EvIt c σ n Γ e false (kvs.map fun kv => .str kv.1) :=
  fun env U V A s E R I => wpAny_mono (a env U V A s E R I) (fun v s₁ y => by
    obtain ⟨g, r⟩ := y
    obtain ⟨l, vs, rfl, hl, p, rs⟩ := r.invDict
    obtain ⟨ep, hl'⟩ := hl.1.dictAt
    refine wpAny_pyIter_dict hl.2 hl' ⟨g.trans ⟨⟨_, _, rfl⟩, push_keep _ _⟩, _, [s₁.heap.objs.size], rfl, ?_, fun b hb => ?_⟩
    · refine .keys (dd := l) (i := 0) (ep := ep) (kvs := vs) ⟨_, Heap.get?_push_size _ rfl, rfl, rfl⟩ (hl'.keep (push_keep _ _)) (shut_mem (a := l) _ ⟨⟨p.1, p.2 rfl⟩, hl.dom⟩) ?_
      have := rs.keys
      have h2 : vs.map (fun kv => D.str kv.1) = (vs.map (·.1)).map D.str := by simp
      rw [List.drop_zero, h2, this]; simp
    · obtain rfl := List.mem_singleton.mp hb; exact fresh_back g (heap_size_none _)) fun _ _ z => z
/-- callers' or iterators' addresses leave -/
theorem InvAt.unshut {env : Env} {U V : Addr → Prop} {F : List Addr} {h h' : Heap} {ρ : Str → Option Value} {os : Str → List Addr} (I : InvAt c env (fun a => U a ∨ a ∈ F) V Γ h ρ os)
    (k : ∀ b o, b ∉ F → h.get? b = some o → h'.get? b = some o) (hu : ∀ a ∈ F, ¬ U a) (hG : ∀ a ∈ F, ¬ GAddr c.K a) : InvAt c env U V Γ h' ρ os := by
  have nf : ∀ a, V a → a ∉ F := fun a v f => I.uv a v (.inr f)
  refine ⟨⟨?_, ?_⟩, ?_, I.nd, I.own, I.dis, I.vf, fun a v u => I.uv a v (.inl u), fun a v => let ⟨o, e⟩ := I.vd a v; ⟨o, k a o (nf a v) e⟩, fun a u => let ⟨o, e⟩ := I.ud a (.inl u); ⟨o, k a o (fun f => hu a f u) e⟩, I.gb,
    I.gk.keepV fun b o g e => k b o (fun f => hG b f g) e⟩
  · obtain ⟨mm, hm, hr⟩ := I.fr.ns
    exact ⟨mm, ns_at hm fun o e => k _ o (nf _ (I.vf _ (.inl rfl))) e, hr⟩
  · intro y b hb
    obtain ⟨o, e, q⟩ := I.fr.cell y b hb
    exact ⟨o, k b o (nf _ (I.vf _ (.inr ⟨y, hb⟩))) e, q⟩
  · intro x sl e
    obtain ⟨v, hv, r⟩ := I.var x sl e
    exact ⟨v, hv, r.move (fun b hb o e' => k b o (nf b (I.own x sl e b hb).1) e') (fun b o p e => k b o (fun f => p.1 (.inr f)) e) fun a p => ⟨fun u => p.1 (.inl u), p.2⟩⟩
/-- an iterator turns -/
theorem InvAt.turn {env : Env} {U V : Addr → Prop} {F : List Addr} {h h' : Heap} {ρ : Str → Option Value} {os : Str → List Addr} (I : InvAt c env (fun a => U a ∨ a ∈ F) V Γ h ρ os)
    (k : ∀ b o, b ∉ F → h.get? b = some o → h'.get? b = some o) (hd : ∀ a ∈ F, Dom h' a) (hG : ∀ a ∈ F, ¬ GAddr c.K a) : InvAt c env (fun a => U a ∨ a ∈ F) V Γ h' ρ os := by
  have nf : ∀ a, V a → a ∉ F := fun a v f => I.uv a v (.inr f)
  have dm : ∀ a, Dom h a → Dom h' a := fun a ⟨o, e⟩ => by
    by_cases f : a ∈ F
    · exact hd a f
    · exact ⟨o, k a o f e⟩
  refine ⟨⟨?_, ?_⟩, ?_, I.nd, I.own, I.dis, I.vf, I.uv, fun a v => dm a (I.vd a v), fun a u => dm a (I.ud a u), I.gb, I.gk.keepV fun b o g e => k b o (fun f => hG b f g) e⟩
  · obtain ⟨mm, hm, hr⟩ := I.fr.ns
    exact ⟨mm, ns_at hm fun o e => k _ o (nf _ (I.vf _ (.inl rfl))) e, hr⟩
  · intro y b hb
    obtain ⟨o, e, q⟩ := I.fr.cell y b hb
    exact ⟨o, k b o (nf _ (I.vf _ (.inr ⟨y, hb⟩))) e, q⟩
  · intro x sl e
    obtain ⟨v, hv, r⟩ := I.var x sl e
    exact ⟨v, hv, r.move (fun b hb o e' => k b o (nf b (I.own x sl e b hb).1) e') (fun b o p e => k b o (fun f => p.1 (.inr f)) e) fun a p => p⟩
/-- what a loop leaves: W may have changed -/
noncomputable def LeftW (c : Cf) (env : Env) (U V W : Addr → Prop) (s : Shared) (out : Out) (f : Flow) (s' : Shared) : Prop :=
  Same s s' ∧ KeepV W s.heap s'.heap ∧ match out with
    | .next Γ' => f = .next ∧ ∃ V', VExt s V V' ∧ Inv c env U V' Γ' s'.heap
    | .ret d => ∃ v, f = .ret v ∧ c.Rep s'.heap (fun a => ¬ U a) v d ∧ (∀ a, U a → Dom s'.heap a)
theorem LeftW.trans {env : Env} {U V V₁ W W₁ : Addr → Prop} {s s₁ s₂ : Shared} {out : Out} {f : Flow} (a : Same s s₁) (k : KeepV W s.heap s₁.heap) (x : VExt s V V₁) (hw : ∀ b, W₁ b → W b ∨ s.heap.get? b = none)
    (hd : ∀ b, W b → s₁.heap.get? b = none → V b) (l : LeftW c env U V₁ W₁ s₁ out f s₂) : LeftW c env U V W s out f s₂ := by
  obtain ⟨a', k', r⟩ := l
  refine ⟨a.trans a', fun b o h e => k' b o (fun q => ?_) (k b o h e), ?_⟩
  · rcases hw b q with q | q
    · exact h q
    · rw [q] at e; cases e
  cases out with
  | ret d => exact r
  | next Γ' =>
    obtain ⟨e, V', x', I⟩ := r
    refine ⟨e, V', fun b q => ?_, I⟩
    rcases x' b q with q | q
    · exact x b q
    · cases e : s.heap.get? b with
      | none => exact .inr rfl
      | some o =>
        by_cases hw : W b
        · exact .inl (hd b hw q)
        · rw [k b o hw e] at q; cases q
/-- the loop over what an iterator has still to give -/
noncomputable def Fors (c : Cf) (σ : List (Str × NameKind)) (n : Nat) (Γ : Vars) (tgt : Expr) (t : Bool) (body : List Stmt) (ds : List D) (out : Out) : Prop :=
  ∀ env U V A s it F, EnvOk σ env → Rm n A → Inv c env (fun a => U a ∨ a ∈ F) V Γ s.heap → (∀ a ∈ F, ¬ U a) → (∀ a ∈ F, ¬ GAddr c.K a) → IterAt c s.heap (Cl (fun a => U a ∨ a ∈ F) V) it F t ds →
    codeAny c.M A (.forLoop tgt (.ref it) body [] env) (fun r s' => ∃ f, r = .ok f ∧ LeftW c env U V (fun a => V a ∨ a ∈ F) s out f s') s
theorem under_loop {A : Around} {tgt : Expr} {it : Value} {body : List Stmt} {env : Env} : A.under (.forLoop tgt it body [] env) = A := Around.under_of_weight rfl
theorem for_tree {A : Around} {s : Shared} {tgt : Expr} {it : Addr} {body : List Stmt} {env : Env} {R : Result → Shared → Prop}
    (h : wpAny c.M A (pyNext (.ref it)) (fun r s₁ => match r with
      | none => R (.ok .next) s₁
      | some v => wpAny c.M A (letOwnedTupleGo tgt (.ref it) v) (fun _ s₂ => wpAny c.M A (assign tgt env v) (fun _ s₃ => wpAny c.M A (execs body env) (fun f s₄ => match f with
          | .next => codeAny c.M A (.forLoop tgt (.ref it) body [] env) R s₄
          | .ret v => R (.ok (.ret v)) s₄
          | _ => False) NoE s₃) NoE s₂) NoE s₁) NoE s) : codeAny c.M A (.forLoop tgt (.ref it) body [] env) R s := by
  refine codeAny_of_tree ?_
  rw [under_loop]
  show wpAny _ _ ((forTurn tgt (.ref it) body [] env).onRaise (fun x => do noteFrame x env; theTreesLotGoes x)) _ _ s
  refine wpAny_noted ?_
  simp only [forTurn]
  refine wpAny_bind (wpAny_standAt (wpAny_bind (wpAny_onRaise (wpAny_mono h (fun r s₁ h₁ => ?_) fun _ _ z => z.elim))))
  cases r with
  | none => exact wpAny_pure ⟨rfl, codeAny_block (wpAny_execs_nil h₁)⟩
  | some v =>
    refine wpAny_bind (wpAny_mono h₁ (fun _ s₂ h₂ => wpAny_bind (wpAny_mono h₂ (fun _ s₃ h₃ => wpAny_bind (wpAny_mono h₃ (fun f s₄ h₄ => ?_) fun _ _ z => z.elim)) fun _ _ z => z.elim)) fun _ _ z => z.elim)
    cases f with
    | next => exact wpAny_pure ⟨rfl, h₄⟩
    | cont => exact h₄.elim
    | brk => exact h₄.elim
    | ret v => exact wpAny_pure h₄
theorem Fors.nil {tgt : Expr} {t : Bool} {body : List Stmt} : Fors c σ n Γ tgt t body [] (.next Γ) :=
  fun env U V A s it F E R I hu hG x => for_tree (wpAny_mono (iter_end R.handled x) (fun r s₁ y => by
    obtain ⟨rfl, sm, k⟩ := y
    obtain ⟨ρ, os, J⟩ := I
    exact ⟨.next, rfl, sm, fun b o hb e => k b o (fun f => hb (.inr f)) e, rfl, V, fun _ q => .inl q, ρ, os, J.unshut k hu hG⟩) fun _ _ z => z)
/-- one turn's first part -/
theorem for_turn {tgt : Expr} {t : Bool} {body : List Stmt} {ds : List D} {env : Env} {U V : Addr → Prop} {A : Around} {s : Shared} {it : Addr} {F : List Addr} {out : Out} {R : Result → Shared → Prop}
    (E : EnvOk σ env) (Rr : Rm n A) (I : Inv c env (fun a => U a ∨ a ∈ F) V Γ s.heap) (hG : ∀ a ∈ F, ¬ GAddr c.K a) (x : IterAt c s.heap (Cl (fun a => U a ∨ a ∈ F) V) it F t (d :: ds))
    (ht : t = true → ∃ es k p, tgt = .Tuple es k p) (a : Asn c σ n Γ tgt d Γ₁) (b : Exs c σ n Γ₁ body out)
    (h : ∀ s₂ s₄ f, Same s s₂ → (∀ b o, b ∉ F → s.heap.get? b = some o → s₂.heap.get? b = some o) → IterAt c s₂.heap (Cl (fun a => U a ∨ a ∈ F) V) it F t ds → Left c env (fun a => U a ∨ a ∈ F) V s₂ out f s₄ →
      (match f with | .next => codeAny c.M A (.forLoop tgt (.ref it) body [] env) R s₄ | .ret v => R (.ok (.ret v)) s₄ | _ => False)) : codeAny c.M A (.forLoop tgt (.ref it) body [] env) R s := by
  refine for_tree (wpAny_mono (iter_step (tgt := tgt) x (fun a ha p => p.1 (.inr ha)) (fun a e => ?_) ht) (fun r s₁ y => ?_) fun _ _ z => z)
  · have := fresh_pm I true a e; exact ⟨this.1, this.2 rfl⟩
  · obtain ⟨v, rfl, y⟩ := y
    refine wpAny_mono y (fun _ s₂ z => ?_) fun _ _ z => z
    obtain ⟨sm, k, rv, x'⟩ := z
    have I₂ : Inv c env (fun a => U a ∨ a ∈ F) V Γ s₂.heap := by obtain ⟨ρ, os, J⟩ := I; exact ⟨ρ, os, J.turn k x'.dom hG⟩
    refine wpAny_mono (a env _ V A s₂ v E Rr I₂ rv) (fun _ s₃ l => ?_) fun _ _ z => z
    obtain ⟨sm₃, k₃, _, V₁, e₁, I₃⟩ := l
    exact wpAny_mono (b env _ V₁ A s₃ E Rr I₃) (fun f s₄ l => h s₂ s₄ f sm k x' (Left.trans sm₃ k₃ e₁ l)) fun _ _ z => z
theorem Fors.cons {tgt : Expr} {t : Bool} {body : List Stmt} {ds : List D} {out : Out} (a : Asn c σ n Γ tgt d Γ₁) (b : Exs c σ n Γ₁ body (.next Γ₂)) (r : Fors c σ n Γ₂ tgt t body ds out)
    (ht : t = true → ∃ es k p, tgt = .Tuple es k p := by intro h; first | cases h | exact ⟨_, _, _, rfl⟩) : Fors c σ n Γ tgt t body (d :: ds) out :=
  fun env U V A s it F E R I hu hG x => for_turn E R I hG x ht a b fun s₂ s₄ f sm k x' l => by
    obtain ⟨sm', k', rfl, V₂, e₂, I₄⟩ := l
    have nf : ∀ a ∈ F, ¬ V a := fun a f v => by obtain ⟨ρ, os, J⟩ := I; exact J.uv a v (.inr f)
    have x₄ : IterAt c s₄.heap (Cl (fun a => U a ∨ a ∈ F) V₂) it F t ds := x'.move (fun b hb o e => k' b o (nf b hb) e) (fun b o p e => k' b o p.2 e) fun b p q => ⟨p.1, fun v => by
      rcases e₂ b v with v | v
      · exact p.2 v
      · obtain ⟨o, e⟩ := q; rw [v] at e; cases e⟩
    have hne : ∀ b, s₂.heap.get? b = none → V b ∨ s.heap.get? b = none := fun b q => by
      cases e : s.heap.get? b with
      | none => exact .inr rfl
      | some o =>
        by_cases hb : b ∈ F
        · obtain ⟨o', e'⟩ := x'.dom b hb; rw [q] at e'; cases e'
        · rw [k b o hb e] at q; cases q
    have ve : VExt s V V₂ := fun b q => (e₂ b q).elim .inl (hne b)
    refine codeAny_mono (r env U V₂ A s₄ it F E R I₄ hu hG x₄) fun res s' y => ?_
    obtain ⟨f, rfl, y⟩ := y
    refine ⟨f, rfl, LeftW.trans (sm.trans sm') (fun b o hb e => k' b o (fun v => hb (.inl v)) (k b o (fun f => hb (.inr f)) e)) ve ?_ ?_ y⟩
    · rintro b (q | q)
      · exact (ve b q).elim (fun v => .inl (.inl v)) .inr
      · exact .inl (.inr q)
    · rintro b (q | q) e
      · exact q
      · obtain ⟨o, e'⟩ := x₄.dom b q; rw [e] at e'; cases e'
theorem Fors.ret {tgt : Expr} {t : Bool} {body : List Stmt} {ds : List D} {r : D} (a : Asn c σ n Γ tgt d Γ₁) (b : Exs c σ n Γ₁ body (.ret r))
    (ht : t = true → ∃ es k p, tgt = .Tuple es k p := by intro h; first | cases h | exact ⟨_, _, _, rfl⟩) : Fors c σ n Γ tgt t body (d :: ds) (.ret r) :=
  fun env U V A s it F E R I hu hG x => for_turn E R I hG x ht a b fun s₂ s₄ f sm k x' l => by
    obtain ⟨sm', k', v, rfl, rv, hd⟩ := l
    exact ⟨.ret v, rfl, sm.trans sm', fun b o hb e => k' b o (fun v => hb (.inl v)) (k b o (fun f => hb (.inr f)) e), v, rfl, rv.mono fun _ p q => p (.inl q), fun a u => hd a (.inl u)⟩
theorem Fors.sub {tgt : Expr} {t : Bool} {body : List Stmt} {ds : List D} {out : Out} (hs : ∀ x sl, Γ₁ x = some sl → Γ x = some sl) (a : Fors c σ n Γ₁ tgt t body ds out) : Fors c σ n Γ tgt t body ds out :=
  fun env U V A s it F E R I hu hG x => a env U V A s it F E R (I.sub hs) hu hG x
theorem Ex.for {tgt iter : Expr} {t : Bool} {body : List Stmt} {ds : List D} {out : Out} {pos : Pos} (a : EvIt c σ n Γ iter t ds) (b : Fors c σ n Γ tgt t body ds out)
    (hs : ∀ env x, foldedSetIterable iter env x = pure x := by intro _ _; rfl) : Ex c σ n Γ (.For tgt iter body [] pos) out :=
  fun env U V A s E R I => wpAny_For (wpAny_mono (a env U V A s E R I) (fun v s₁ y => wpAny_mono y (fun it s₂ z => by
    obtain ⟨g, it, F, rfl, x, hf⟩ := z
    have nd : ∀ a, Dom s.heap a → a ∉ F := fun a ⟨o, e⟩ f => by rw [hf a f] at e; cases e
    obtain ⟨ρ, os, J⟩ := I
    have J₂ : InvAt c env (fun a => U a ∨ a ∈ F) V Γ s₂.heap ρ os := J.shut g.2 fun a q => by
      rcases q with q | q
      · exact ⟨.inl q, (J.ud a q).keep g.2⟩
      · exact ⟨.inr (hf a q), x.dom a q⟩
    refine codeAny_mono (b env U V A s₂ it F E R ⟨ρ, os, J₂⟩ (fun a f u => nd a (J.ud a u) f) (fun a f q => nd a (J.gk.dom q) f) (x.move (fun _ _ _ e => e) (fun _ _ _ e => e) fun b p _ => ⟨fun q => q.elim p.1.1 p.2, p.1.2⟩)) fun r s' y => ?_
    obtain ⟨f, rfl, sm, k, y⟩ := y
    refine ⟨g.1.trans sm, fun b o hb e => k b o (fun q => q.elim hb (nd b ⟨o, e⟩)) (g.2 b o e), ?_⟩
    cases out with
    | ret d => exact y
    | next Γ' =>
      obtain ⟨e, V', x', I'⟩ := y
      exact ⟨e, V', fun b q => (x' b q).elim .inl fun q => .inr (fresh_back g q), I'⟩) fun _ _ z => z) fun _ _ z => z) (hs env)
/-- while -/
noncomputable def Whiles (c : Cf) (σ : List (Str × NameKind)) (n : Nat) (Γ : Vars) (test : Expr) (body : List Stmt) (out : Out) : Prop :=
  ∀ env U V A s, EnvOk σ env → Rm n A → Inv c env U V Γ s.heap → codeAny c.M A (.whileLoop test body [] env) (fun r s' => ∃ f, r = .ok f ∧ Left c env U V s out f s') s
theorem while_tree {A : Around} {s : Shared} {test : Expr} {body : List Stmt} {env : Env} {R : Result → Shared → Prop}
    (h : wpAny c.M A (isTrue test env (eval test env)) (fun b s₁ => if b then wpAny c.M A (execs body env) (fun f s₂ => match f with
          | .next => codeAny c.M A (.whileLoop test body [] env) R s₂
          | .ret v => R (.ok (.ret v)) s₂
          | _ => False) NoE s₁ else R (.ok .next) s₁) NoE s) : codeAny c.M A (.whileLoop test body [] env) R s := by
  refine codeAny_of_tree ?_
  rw [show A.under (.whileLoop test body [] env) = A from Around.under_of_weight rfl]
  show wpAny _ _ ((whileTurn test body [] env).onRaise (fun x => do noteFrame x env; theTreesLotGoes x)) _ _ s
  refine wpAny_noted ?_
  simp only [whileTurn]
  refine wpAny_bind (wpAny_mono h (fun b s₁ h₁ => ?_) fun _ _ z => z.elim)
  cases b with
  | false =>
    simp only [Bool.false_eq_true, if_false] at h₁ ⊢
    exact wpAny_bind (wpAny_execs_nil (wpAny_pure h₁))
  | true =>
    simp only [if_true] at h₁ ⊢
    refine wpAny_bind (wpAny_mono h₁ (fun f s₂ h₂ => ?_) fun _ _ z => z.elim)
    cases f with
    | next => exact wpAny_pure ⟨rfl, h₂⟩
    | cont => exact h₂.elim
    | brk => exact h₂.elim
    | ret v => exact wpAny_pure h₂
theorem Whiles.stop {test : Expr} {body : List Stmt} (a : EvT c σ n Γ test false) : Whiles c σ n Γ test body (.next Γ) :=
  fun env U V A s E R I => while_tree (wpAny_mono (a env U V A s E R I) (fun b s₁ y => by
    obtain ⟨g, rfl⟩ := y
    exact ⟨.next, rfl, g.1, fun b o _ e => g.2 b o e, rfl, V, fun _ q => .inl q, I.keep g.2⟩) fun _ _ z => z)
theorem Whiles.go {test : Expr} {body : List Stmt} {out : Out} (a : EvT c σ n Γ test true) (b : Exs c σ n Γ body (.next Γ₁)) (r : Whiles c σ n Γ₁ test body out) : Whiles c σ n Γ test body out :=
  fun env U V A s E R I => while_tree (wpAny_mono (a env U V A s E R I) (fun t s₁ y => by
    obtain ⟨g, rfl⟩ := y
    refine wpAny_mono (b env U V A s₁ E R (I.keep g.2)) (fun f s₂ l => ?_) fun _ _ z => z
    obtain ⟨sm, k, rfl, V₁, x, I₁⟩ := l
    refine codeAny_mono (r env U V₁ A s₂ E R I₁) fun res s' y => ?_
    obtain ⟨f, rfl, y⟩ := y
    exact ⟨f, rfl, Left.grow g (Left.trans sm k x y)⟩) fun _ _ z => z)
theorem Whiles.sub {test : Expr} {body : List Stmt} {out : Out} (hs : ∀ x sl, Γ₁ x = some sl → Γ x = some sl) (a : Whiles c σ n Γ₁ test body out) : Whiles c σ n Γ test body out :=
  fun env U V A s E R I => a env U V A s E R (I.sub hs)
theorem Ex.while {test : Expr} {body : List Stmt} {out : Out} {pos : Pos} (a : Whiles c σ n Γ test body out) : Ex c σ n Γ (.While test body [] pos) out :=
  fun env U V A s E R I => wpAny_While (codeAny_mono (a env U V A s E R I) fun r s' y => by obtain ⟨f, rfl, y⟩ := y; exact y)
end
end Mine
end
-- B8
section
open PySem PyProof.Rows PySem.W
set_option Elab.async false
set_option linter.unusedVariables false
namespace Mine
/-- a def's table of names: each once, none from outside -/
noncomputable def okScope (σ : List (Str × NameKind)) : Bool := σ.all (fun p => p.2 != .free) && decide ((σ.map (·.1)).Nodup)
theorem cells_mono : ∀ (l : List (Str × NameKind)) (k : Nat) (acc : List (Str × Addr)) (x : Str), (acc.lookup x).isSome = true → ((cellsFrom k l acc).lookup x).isSome = true
  | [], _, _, _, h => h
  | (y, kd) :: r, k, acc, x, h => by
    unfold cellsFrom
    split
    · refine cells_mono r _ _ x ?_
      rw [List.lookup_cons]
      cases x == y <;> simp [h]
    · exact cells_mono r _ _ x h
theorem cells_has : ∀ (l : List (Str × NameKind)) (k : Nat) (acc : List (Str × Addr)) (x : Str), l.lookup x = some .cell → ((cellsFrom k l acc).lookup x).isSome = true
  | [], _, _, _, h => by simp at h
  | (y, kd) :: r, k, acc, x, h => by
    rw [List.lookup_cons] at h
    unfold cellsFrom
    cases hb : x == y with
    | true =>
      rw [hb] at h
      cases h
      simp only [beq_self_eq_true, if_true]
      exact cells_mono r _ _ x (by simp [List.lookup_cons, hb])
    | false =>
      rw [hb] at h
      split
      · exact cells_has r _ _ x h
      · exact cells_has r _ _ x h
theorem cells_mem : ∀ (l : List (Str × NameKind)) (k : Nat) (acc : List (Str × Addr)) (x : Str) (a : Addr), (x, a) ∈ cellsFrom k l acc → (x, a) ∈ acc ∨ (x, NameKind.cell) ∈ l
  | [], _, _, _, _, h => .inl h
  | (y, kd) :: r, k, acc, x, a, h => by
    unfold cellsFrom at h
    split at h
    · rename_i hk
      rcases cells_mem r _ _ x a h with q | q
      · rcases List.mem_cons.mp q with q | q
        · cases q; exact .inr (by rw [beq_iff_eq.mp hk]; exact List.mem_cons_self)
        · exact .inl q
      · exact .inr (List.mem_cons_of_mem _ q)
    · rcases cells_mem r _ _ x a h with q | q
      · exact .inl q
      · exact .inr (List.mem_cons_of_mem _ q)
theorem lookup_of_nodup {α : Type} : ∀ {l : List (Str × α)} {x : Str} {v : α}, (l.map (·.1)).Nodup → (x, v) ∈ l → l.lookup x = some v
  | (y, u) :: r, x, v, hn, h => by
    rw [List.map_cons, List.nodup_cons] at hn
    rw [List.lookup_cons]
    rcases List.mem_cons.mp h with e | h
    · cases e; simp
    · have : (x == y) = false := by
        rw [beq_eq_false_iff_ne]; intro q
        exact hn.1 (List.mem_map.mpr ⟨(x, v), by assumption, q⟩)
      rw [this]; exact lookup_of_nodup hn.2 h
theorem bindL_other {kd : Str → Option NameKind} : ∀ (b : List (Str × Value)) (m : Str → Option Value) (x : Str), x ∉ b.map (·.1) → bindL kd b m x = m x
  | [], _, _, _ => rfl
  | (y, v) :: r, m, x, h => by
    simp only [List.map_cons, List.mem_cons, not_or] at h
    unfold bindL
    rw [bindL_other r _ x h.2]
    split
    · simp [h.1]
    · rfl
theorem bindC_other {kd : Str → Option NameKind} : ∀ (b : List (Str × Value)) (m : Str → Option Value) (x : Str), x ∉ b.map (·.1) → bindC kd b m x = m x
  | [], _, _, _ => rfl
  | (y, v) :: r, m, x, h => by
    simp only [List.map_cons, List.mem_cons, not_or] at h
    unfold bindC
    rw [bindC_other r _ x h.2]
    split
    · rfl
    · simp [h.1]
theorem bindL_at {kd : Str → Option NameKind} : ∀ (b : List (Str × Value)) (m : Str → Option Value) (x : Str) (v : Value), (b.map (·.1)).Nodup → (x, v) ∈ b → kd x = some .local → bindL kd b m x = some v
  | (y, u) :: r, m, x, v, hn, h, hk => by
    rw [List.map_cons, List.nodup_cons] at hn
    unfold bindL
    rcases List.mem_cons.mp h with e | h
    · cases e
      rw [bindL_other r _ _ hn.1, if_pos hk]; simp
    · exact bindL_at r _ x v hn.2 h hk
theorem bindC_at {kd : Str → Option NameKind} : ∀ (b : List (Str × Value)) (m : Str → Option Value) (x : Str) (v : Value), (b.map (·.1)).Nodup → (x, v) ∈ b → kd x = some .cell → bindC kd b m x = some v
  | (y, u) :: r, m, x, v, hn, h, hk => by
    rw [List.map_cons, List.nodup_cons] at hn
    unfold bindC
    rcases List.mem_cons.mp h with e | h
    · cases e
      rw [bindC_other r _ _ hn.1, if_neg (by rw [hk]; decide)]; simp
    · exact bindC_at r _ x v hn.2 h hk
/-- the arguments as variables -/
noncomputable def args : List Str → List D → Vars
  | p :: ps, d :: ds => fun y => if y = p then some (.fz d) else args ps ds y
  | _, _ => fun _ => none
section
variable {c : Cf} {σ : List (Str × NameKind)} {n : Nat} {Γ Γ₁ Γ₂ : Vars} {m : Bool} {d d₁ d₂ : D}
theorem args_get : ∀ {ps : List Str} {ds : List D} {vs : List Value} {h : Heap} {P : Addr → Prop} {x : Str} {sl : Slot}, args ps ds x = some sl → c.Reps h P vs ds → ∃ v d, (x, v) ∈ ps.zip vs ∧ sl = .fz d ∧ c.Rep h P v d
  | [], _, _, _, _, _, _, e, _ => by simp [args] at e
  | _ :: _, [], _, _, _, _, _, e, _ => by simp [args] at e
  | p :: ps, d :: ds, vs, h, P, x, sl, e, r => by
    obtain ⟨v, vs, rfl, rv, rs⟩ := r.invCons
    simp only [args] at e
    split at e
    · rename_i hx; cases e; exact ⟨v, d, by simp [hx], rfl, rv⟩
    · obtain ⟨v', d', a, b, c⟩ := args_get e rs
      exact ⟨v', d', by simp [a], b, c⟩
theorem FunSpec.of_body {f : Addr} {o : Obj} {fd : FuncData} {body : List Stmt} {ps : List Str} {ds : List D} (ho : c.K.lookup f = some o) (hdata : o.data = .func fd) (hcd : codeIn c.K fd.code fd.qualname = true)
    (hbody : fd.body = .stmts body) (hbind : ∀ vs, vs.length = ds.length → bindArgs fd ⟨vs, []⟩ = pure (ps.zip vs)) (hclo : fd.closure = []) (hg : fd.globals = mainGlobals) (hb : fd.builtins = builtinsNs)
    (hok : okScope fd.scope.names = true) (hps : ps.all (fun p => fd.scope.names.lookup p == some .local || fd.scope.names.lookup p == some .cell) = true) (hpn : ps.Nodup) (hlen : ps.length = ds.length)
    (hco : fd.scope.isCoroutine = false) (hgen : fd.scope.isGenerator = false) (hk : fd.scope.kind = .function)
    (h : Exs c fd.scope.names n (args ps ds) body (.ret d)) : FunSpec c f (n + 1) ds d := by
  intro U A s vs R G hU r
  have hl : vs.length = ds.length := r.length
  simp only [okScope, Bool.and_eq_true, decide_eq_true_eq, List.all_eq_true] at hok
  have names : (ps.zip vs).map (·.1) = ps := by rw [List.map_fst_zip]; lia
  have pk : ∀ p ∈ ps, fd.scope.names.lookup p = some .local ∨ fd.scope.names.lookup p = some .cell := fun p hp => by
    have := List.all_eq_true.mp hps p hp
    simpa using this
  have pm : ∀ x ∈ ps.zip vs, x.1 ∈ ps := fun x hx => by rw [← names]; exact List.mem_map_of_mem hx
  refine wpAny_call (codeAny_call_cells (fd := fd) (body := body) (binds := ps.zip vs) R.room (G.inn _ _ ho) hdata G.nolimit (codeRec_of G.inn hcd) hbody (hbind vs hl) hclo
    (fun x hx => (pk x.1 (pm x hx)).elim .inl fun q => .inr ⟨q, cells_has _ _ _ _ q⟩) (fun s₁ J => ?_) hco hgen hk)
  generalize henv : callEnvC fd s.heap.objs.size f = env at J
  have eL : env.locals = s.heap.objs.size := by rw [← henv]; rfl
  have eC : env.cells = cellsFrom (s.heap.objs.size + 1) fd.scope.names [] := by rw [← henv]; rfl
  have eS : env.scope = fd.scope := by rw [← henv]; rfl
  have ek : ∀ x, env.kindOf x = fd.scope.names.lookup x := fun x => by unfold Env.kindOf; rw [eS]
  have cellm : ∀ x a, (x, a) ∈ env.cells → fd.scope.names.lookup x = some .cell := fun x a hm => by
    rw [eC] at hm
    rcases cells_mem _ _ _ _ _ hm with q | q
    · cases q
    · exact lookup_of_nodup hok.2 q
  have E : EnvOk fd.scope.names env := {
    kind := by rw [eS]; exact hk
    names := by rw [eS]
    glob := by rw [← henv]; exact hg
    blt := by rw [← henv]; exact hb
    has := fun x q => by
      rcases q with q | q
      · rw [eC]; exact cells_has _ _ _ _ q
      · have := hok.1 _ (mem_of_lookup q); simp at this
    nl := fun x a q => by rw [cellm x a (mem_of_lookup q)]; decide
    apart := J.apart
    off := fun x a q => Nat.ne_of_gt (J.above x a q) }
  have fr : ∀ a, FrameAddr env a → s.heap.get? a = none := fun a q => by
    have ge : s.heap.objs.size ≤ a := by
      rcases q with rfl | ⟨x, q⟩
      · exact J.toInCall.fresh
      · exact Nat.le_trans J.toInCall.fresh (Nat.le_of_lt (J.above x a (mem_of_lookup q)))
    cases e : s.heap.get? a with
    | none => rfl
    | some o => exact absurd (Heap.lt_size e) (Nat.not_lt.mpr ge)
  have nf : ∀ a, Dom s.heap a → ¬ FrameAddr env a := fun a ⟨o, e⟩ q => by rw [fr a q] at e; cases e
  have F : FrameAt env s₁.heap (fun x => if env.kindOf x = some .local then bindL env.kindOf (ps.zip vs) (fun _ => none) x else bindC env.kindOf (ps.zip vs) (fun _ => none) x) := by
    refine ⟨⟨_, J.toInCall.ns, fun x hx => by simp [hx]⟩, fun x a hx => ?_⟩
    have : ¬ env.kindOf x = some .local := by rw [ek, cellm x a (mem_of_lookup hx)]; decide
    simp only [this, if_false]
    exact J.cell x a hx
  have I : InvAt c env U (FrameAddr env) (args ps ds) s₁.heap _ (fun _ => []) := {
    fr := F
    var := fun x sl e => by
      obtain ⟨v, d', hm, rfl, rv⟩ := args_get e r
      refine ⟨v, ?_, .fz (rv.live.move (fun b o _ e => J.toInCall.keep b o e) fun a p => ⟨p.1, nf a p.2⟩)⟩
      rcases pk x (pm _ hm) with q | q
      · simp only [ek, q, if_true]; exact bindL_at _ _ _ _ (by rw [names]; exact hpn) hm (by rw [ek]; exact q)
      · have q' : ¬ env.kindOf x = some .local := by rw [ek, q]; decide
        simp only [q', if_false]; exact bindC_at _ _ _ _ (by rw [names]; exact hpn) hm (by rw [ek]; exact q)
    nd := fun _ _ _ => List.nodup_nil
    own := fun _ _ _ a ha => nomatch ha
    dis := fun _ _ _ _ _ _ _ a ha => nomatch ha
    vf := fun a q => q
    uv := fun a q u => nf a (hU a u) q
    vd := fun a q => F.dom q
    ud := fun a u => (hU a u).keep J.toInCall.keep
    gb := fun a q g => nf a (G.dom g) q
    gk := G.keep J.toInCall.keep }
  refine wpAny_mono (h env U _ _ s₁ E (R.deeper env) ⟨_, _, I⟩) (fun fl s' l => ?_) fun _ _ z => z.elim
  obtain ⟨sm, k, v, rfl, rv, _⟩ := l
  exact ⟨⟨(by obtain ⟨h', tk, e⟩ := J.toInCall.same; exact ⟨h', tk, e⟩ : Same s s₁).trans sm, fun b o e => k b o (nf b ⟨o, e⟩) (J.toInCall.keep b o e)⟩, rv⟩
/-- calls of the interpreter's functions and types -/
noncomputable def CallV (c : Cf) (fv : Value) (ds : List D) (d : D) : Prop := ∀ (P : Addr → Prop) A s vs, Rm 0 A → (∀ a, s.heap.get? a = none → P a) → Gk c.K s.heap → c.Reps s.heap P vs ds →
  wpAny c.M A (PySem.call fv vs) (fun v s' => Grow s s' ∧ c.Rep s'.heap P v d) NoE s
noncomputable def CallI (c : Cf) (fv : Value) (ds : List D) (t : Bool) (es : List D) : Prop := ∀ (P : Addr → Prop) A s vs, Rm 0 A → (∀ a, s.heap.get? a = none → P a) → Gk c.K s.heap → c.Reps s.heap P vs ds →
  wpAny c.M A (PySem.call fv vs) (fun v s₁ => wpAny c.M A (pyIter v) (fun it s₂ => Grow s s₂ ∧ ∃ a F, it = .ref a ∧ IterAt c s₂.heap (fun b => P b ∧ b ∉ F) a F t es ∧ (∀ b ∈ F, s.heap.get? b = none)) NoE s₁) NoE s
theorem callb_tree {f : Str} {fv : Value} {np pos : Pos} {e : Expr} {r : List Expr} {ds : List D} {env : Env} {U V : Addr → Prop} {A : Around} {s : Shared} {Q : Value → Shared → Prop}
    (E : EnvOk σ env) (R : Rm n A) (I : Inv c env U V Γ s.heap) (hx : σ.lookup f = some .globalImplicit) (hg : nsIn c.K mainGlobals f = some none) (hv : bootBuiltins f = some fv) (hn : f ≠ "__name__")
    (hk : keeperOf fv = pure .machine) (b : EvEs c σ n Γ m (e :: r) ds) (he : starEach (e :: r) env = (false, eval e env) :: starEach r env) (hplain : (backTo pos (starEach r env)).any (·.1) = false) (hd : (f == ("__debug__" : Str)) = false)
    (h : ∀ vs s₁, Grow s s₁ → Inv c env U V Γ s₁.heap → c.Reps s₁.heap (PM m U V) vs ds → wpAny c.M A (PySem.call fv vs) Q NoE s₁) : wpAny c.M A (eval (.Call (.Name f np) (e :: r) [] pos) env) Q NoE s := by
  refine wpAny_Call_NameR (load_blt E I.gk hx hg hv hn ?_ hd)
  have b' := b env U V A s pos E R I
  rw [he] at b' ⊢
  refine callWith_of (P := fun _ => True) (by show ((false || (backTo pos (starEach r env)).any (·.1)) || false) = false; rw [hplain]; rfl) (fun h _ => ⟨.machine, .inr (.inl rfl), Looks.of_pure hk⟩) (Calls.evalArgs_plain ?_)
  exact wpAny_mono b' (fun vs s₁ x => ⟨trivial, h vs s₁ x.1 (I.keep x.1.2) x.2⟩) fun _ _ z => z
theorem EvE.callb {f : Str} {fv : Value} {np pos : Pos} {e : Expr} {r : List Expr} {ds : List D} (hx : σ.lookup f = some .globalImplicit) (hg : nsIn c.K mainGlobals f = some none) (hv : bootBuiltins f = some fv) (hn : f ≠ "__name__")
    (hk : keeperOf fv = pure .machine) (b : EvEs c σ n Γ m (e :: r) ds) (F : CallV c fv ds d)
    (he : ∀ env, starEach (e :: r) env = (false, eval e env) :: starEach r env := by intro _; rfl) (hplain : ∀ env pos, (backTo pos (starEach r env)).any (·.1) = false := by intro _ _; rfl)
    (hd : (f == ("__debug__" : Str)) = false := by decide) : EvE c σ n Γ m (.Call (.Name f np) (e :: r) [] pos) d :=
  fun env U V A s E R I => callb_tree E R I hx hg hv hn hk b (he env) (hplain env pos) hd fun vs s₁ g I₁ rs =>
    wpAny_mono (F _ A s₁ vs (R.le (Nat.zero_le _)) (fresh_pm I₁ m) I₁.gk rs) (fun v s₂ y => ⟨g.trans y.1, y.2⟩) fun _ _ z => z
theorem EvIt.callb {f : Str} {fv : Value} {np pos : Pos} {e : Expr} {r : List Expr} {ds es : List D} {t : Bool} (hx : σ.lookup f = some .globalImplicit) (hg : nsIn c.K mainGlobals f = some none) (hv : bootBuiltins f = some fv) (hn : f ≠ "__name__")
    (hk : keeperOf fv = pure .machine) (b : EvEs c σ n Γ true (e :: r) ds) (F : CallI c fv ds t es)
    (he : ∀ env, starEach (e :: r) env = (false, eval e env) :: starEach r env := by intro _; rfl) (hplain : ∀ env pos, (backTo pos (starEach r env)).any (·.1) = false := by intro _ _; rfl)
    (hd : (f == ("__debug__" : Str)) = false := by decide) : EvIt c σ n Γ (.Call (.Name f np) (e :: r) [] pos) t es :=
  fun env U V A s E R I => callb_tree E R I hx hg hv hn hk b (he env) (hplain env pos) hd fun vs s₁ g I₁ rs =>
    wpAny_mono (F (Cl U V) A s₁ vs (R.le (Nat.zero_le _)) (fun a q => ⟨(fresh_pm I₁ true a q).1, (fresh_pm I₁ true a q).2 rfl⟩) I₁.gk (rs.mono fun _ p => ⟨p.1, p.2 rfl⟩)) (fun v s₂ y => wpAny_mono y (fun it s₃ z => by
      obtain ⟨g', a, F, rfl, x, hf⟩ := z
      exact ⟨g.trans g', a, F, rfl, x, fun b hb => fresh_back g (hf b hb)⟩) fun _ _ z => z) fun _ _ z => z
/-- methods of the interpreter's types -/
structure MethT (c : Cf) (name : Str) (d₀ : D) (id : String) : Prop where
  road : ∃ T, PlainAttrs T ∧ PySem.Slot T name id ∧ typeOf (.builtin id) = pure (.type "method_descriptor") ∧
    ∀ (P : Addr → Prop) (s : Shared) v, c.Rep s.heap P v d₀ → s.TypeIs v T ∧ (∀ a, v = .ref a → ∃ ob, s.heap.get? a = some ob ∧ ob.dict = none)
theorem meth0_tree {o : Expr} {name : Str} {id : String} {ap pos : Pos} {d₀ : D} {env : Env} {U V : Addr → Prop} {A : Around} {s : Shared} {Q : Value → Shared → Prop}
    (E : EnvOk σ env) (R : Rm n A) (I : Inv c env U V Γ s.heap) (a : EvE c σ n Γ m o d₀) (M : MethT c name d₀ id)
    (hbase : attributeBase o name env (eval o env) = eval o env) (hline : (ap.endLine == pos.line) = true)
    (h : ∀ v s₁, Grow s s₁ → Inv c env U V Γ s₁.heap → c.Rep s₁.heap (PM m U V) v d₀ → wpAny c.M A (PySem.call (.builtin id) [v]) Q NoE s₁) :
    wpAny c.M A (eval (.Call (.Attribute o name ap) [] [] pos) env) Q NoE s := by
  obtain ⟨T, pa, sl, ty, tt⟩ := M.road
  refine wpAny_Call_method hbase rfl hline pa sl ty (wpAny_mono (a env U V A s E R I) (fun v s₁ x => ?_) fun _ _ z => z)
  refine ⟨(tt _ s₁ v x.2).1, (tt _ s₁ v x.2).2, ?_⟩
  refine Calls.callWith_builtin rfl (PySem.evalArgs_none ?_)
  exact h v s₁ x.1 (I.keep x.1.2) x.2
theorem meth_tree {o e : Expr} {r : List Expr} {name : Str} {id : String} {ap pos : Pos} {d₀ : D} {ds : List D} {env : Env} {U V : Addr → Prop} {A : Around} {s : Shared} {Q : Value → Shared → Prop}
    (E : EnvOk σ env) (R : Rm n A) (I : Inv c env U V Γ s.heap) (a : EvE c σ n Γ m o d₀) (b : EvEs c σ n Γ m (e :: r) ds) (M : MethT c name d₀ id)
    (hbase : attributeBase o name env (eval o env) = eval o env) (hline : (ap.endLine == pos.line) = true) (he : starEach (e :: r) env = (false, eval e env) :: starEach r env) (hp : (backTo pos (starEach r env)).any (·.1) = false)
    (hfew : ((backTo pos (starEach (e :: r) env)).all (fun x => !x.1) && (backToKw pos (keywordEach [] env)).all (fun x => x.1.isSome)
      && decide ((e :: r).length + ([] : List Keyword).length + (if ([] : List Keyword).isEmpty then 0 else 1) < 30)) = true)
    (h : ∀ v vs s₁, Grow s s₁ → Inv c env U V Γ s₁.heap → c.Rep s₁.heap (PM m U V) v d₀ → c.Reps s₁.heap (PM m U V) vs ds → wpAny c.M A (PySem.call (.builtin id) (v :: vs)) Q NoE s₁) :
    wpAny c.M A (eval (.Call (.Attribute o name ap) (e :: r) [] pos) env) Q NoE s := by
  obtain ⟨T, pa, sl, ty, tt⟩ := M.road
  refine wpAny_Call_method hbase hfew hline pa sl ty (wpAny_mono (a env U V A s E R I) (fun v s₁ x => ?_) fun _ _ z => z)
  refine ⟨(tt _ s₁ v x.2).1, (tt _ s₁ v x.2).2, ?_⟩
  have I₁ := I.keep x.1.2
  have b' := b env U V A s₁ pos E R I₁
  rw [he] at b' ⊢
  refine Calls.callWith_builtin (by show (false || (backTo pos (starEach r env)).any (·.1)) = false; rw [hp]; rfl) (Calls.evalArgs_plain ?_)
  exact wpAny_mono b' (fun vs s₂ y => h v vs s₂ (x.1.trans y.1) (I₁.keep y.1.2) (x.2.keep y.1.2) y.2) fun _ _ z => z
noncomputable def MethV (c : Cf) (id : String) (d₀ : D) (ds : List D) (d : D) : Prop := ∀ (P : Addr → Prop) A s v vs, Rm 0 A → (∀ a, s.heap.get? a = none → P a) → Gk c.K s.heap → c.Rep s.heap P v d₀ → c.Reps s.heap P vs ds →
  wpAny c.M A (PySem.call (.builtin id) (v :: vs)) (fun v s' => Grow s s' ∧ c.Rep s'.heap P v d) NoE s
noncomputable def MethI (c : Cf) (id : String) (d₀ : D) (t : Bool) (es : List D) : Prop := ∀ (P : Addr → Prop) A s v, Rm 0 A → (∀ a, s.heap.get? a = none → P a) → Gk c.K s.heap → c.Rep s.heap P v d₀ →
  wpAny c.M A (PySem.call (.builtin id) [v]) (fun v s₁ => wpAny c.M A (pyIter v) (fun it s₂ => Grow s s₂ ∧ ∃ a F, it = .ref a ∧ IterAt c s₂.heap (fun b => P b ∧ b ∉ F) a F t es ∧ (∀ b ∈ F, s.heap.get? b = none)) NoE s₁) NoE s
theorem EvE.meth0 {o : Expr} {name : Str} {id : String} {ap pos : Pos} {d₀ : D} (a : EvE c σ n Γ m o d₀) (M : MethT c name d₀ id) (F : MethV c id d₀ [] d)
    (hbase : ∀ env, attributeBase o name env (eval o env) = eval o env := by intro _; rfl) (hline : (ap.endLine == pos.line) = true := by rfl) : EvE c σ n Γ m (.Call (.Attribute o name ap) [] [] pos) d :=
  fun env U V A s E R I => meth0_tree E R I a M (hbase env) hline fun v s₁ g I₁ r =>
    wpAny_mono (F _ A s₁ v [] (R.le (Nat.zero_le _)) (fresh_pm I₁ m) I₁.gk r .nil) (fun v s₂ y => ⟨g.trans y.1, y.2⟩) fun _ _ z => z
theorem EvE.meth {o e : Expr} {r : List Expr} {name : Str} {id : String} {ap pos : Pos} {d₀ : D} {ds : List D} (a : EvE c σ n Γ m o d₀) (b : EvEs c σ n Γ m (e :: r) ds) (M : MethT c name d₀ id) (F : MethV c id d₀ ds d)
    (hbase : ∀ env, attributeBase o name env (eval o env) = eval o env := by intro _; rfl) (hline : (ap.endLine == pos.line) = true := by rfl)
    (he : ∀ env, starEach (e :: r) env = (false, eval e env) :: starEach r env := by intro _; rfl) (hp : ∀ env, (backTo pos (starEach r env)).any (·.1) = false := by intro _; rfl)
    (hfew : ∀ env, ((backTo pos (starEach (e :: r) env)).all (fun x => !x.1) && (backToKw pos (keywordEach [] env)).all (fun x => x.1.isSome)
      && decide ((e :: r).length + ([] : List Keyword).length + (if ([] : List Keyword).isEmpty then 0 else 1) < 30)) = true := by intro _; rfl) : EvE c σ n Γ m (.Call (.Attribute o name ap) (e :: r) [] pos) d :=
  fun env U V A s E R I => meth_tree E R I a b M (hbase env) hline (he env) (hp env) (hfew env) fun v vs s₁ g I₁ r rs =>
    wpAny_mono (F _ A s₁ v vs (R.le (Nat.zero_le _)) (fresh_pm I₁ m) I₁.gk r rs) (fun v s₂ y => ⟨g.trans y.1, y.2⟩) fun _ _ z => z
theorem EvIt.meth0 {o : Expr} {name : Str} {id : String} {ap pos : Pos} {d₀ : D} {t : Bool} {es : List D} (a : EvE c σ n Γ true o d₀) (M : MethT c name d₀ id) (F : MethI c id d₀ t es)
    (hbase : ∀ env, attributeBase o name env (eval o env) = eval o env := by intro _; rfl) (hline : (ap.endLine == pos.line) = true := by rfl) : EvIt c σ n Γ (.Call (.Attribute o name ap) [] [] pos) t es :=
  fun env U V A s E R I => meth0_tree E R I a M (hbase env) hline fun v s₁ g I₁ r =>
    wpAny_mono (F (Cl U V) A s₁ v (R.le (Nat.zero_le _)) (fun a q => ⟨(fresh_pm I₁ true a q).1, (fresh_pm I₁ true a q).2 rfl⟩) I₁.gk (r.mono fun _ p => ⟨p.1, p.2 rfl⟩)) (fun v s₂ y => wpAny_mono y (fun it s₃ z => by
      obtain ⟨g', a, F, rfl, x, hf⟩ := z
      exact ⟨g.trans g', a, F, rfl, x, fun b hb => fresh_back g (hf b hb)⟩) fun _ _ z => z) fun _ _ z => z
end
end Mine
end
-- B9
section
open PySem PyProof.Rows PySem.W
set_option Elab.async false
set_option linter.unusedVariables false
namespace Mine
noncomputable def accName : Str := Str.ofString ".acc"
/-- the cells that a comprehension takes along -/
noncomputable def closOf (cells : List (Str × Addr)) : List (Str × NameKind) → List (Str × Addr) → List (Str × Addr)
  | [], acc => acc
  | (x, k) :: r, acc => if k == .free then closOf cells r ((x, (cells.lookup x).getD 0) :: acc) else closOf cells r acc
theorem closureFor_eq {scope : Scope} {env : Env} (h : ∀ x, (x, NameKind.free) ∈ scope.names → (env.cells.lookup x).isSome = true) : closureFor scope env = pure (closOf env.cells scope.names []) := by
  have key : ∀ (l : List (Str × NameKind)) (acc : List (Str × Addr)), (∀ x, (x, NameKind.free) ∈ l → (env.cells.lookup x).isSome = true) →
      (forIn l acc fun (p : Str × NameKind) (r : List (Str × Addr)) => if (p.2 == NameKind.free) = true then do let a ← cellOf env p.1; pure (ForInStep.yield ((p.1, a) :: r)) else pure (ForInStep.yield r) : Sem (List (Str × Addr))) = pure (closOf env.cells l acc) := by
    intro l
    induction l with
    | nil => intro acc _; rfl
    | cons p r ih =>
      intro acc hl
      obtain ⟨x, k⟩ := p
      rw [List.forIn_cons]
      unfold closOf
      by_cases hk : (k == NameKind.free) = true
      · simp only [hk, if_true]
        have hx : (env.cells.lookup x).isSome = true := hl x (by rw [beq_iff_eq.mp hk]; exact List.mem_cons_self)
        obtain ⟨a, ha⟩ := Option.isSome_iff_exists.mp hx
        have : cellOf env x = pure a := by unfold cellOf; rw [ha]
        rw [this, ha]
        exact ih _ fun y hy => hl y (List.mem_cons_of_mem _ hy)
      · simp only [hk, if_false]
        exact ih _ fun y hy => hl y (List.mem_cons_of_mem _ hy)
  show (forIn scope.names ([] : List (Str × Addr)) (fun (p : Str × NameKind) (r : List (Str × Addr)) => if (p.2 == NameKind.free) = true then do let a ← cellOf env p.1; pure (ForInStep.yield ((p.1, a) :: r)) else pure (ForInStep.yield r)) >>= fun cs => pure cs) = _
  rw [key scope.names [] h]; rfl
theorem clos_mem {cells : List (Str × Addr)} : ∀ (l : List (Str × NameKind)) (acc : List (Str × Addr)) (x : Str) (a : Addr), (x, a) ∈ closOf cells l acc → (x, a) ∈ acc ∨ ((x, NameKind.free) ∈ l ∧ a = (cells.lookup x).getD 0)
  | [], _, _, _, h => .inl h
  | (y, k) :: r, acc, x, a, h => by
    unfold closOf at h
    split at h
    · rename_i hk
      rcases clos_mem r _ x a h with q | q
      · rcases List.mem_cons.mp q with q | q
        · cases q; exact .inr ⟨by rw [beq_iff_eq.mp hk]; exact List.mem_cons_self, rfl⟩
        · exact .inl q
      · exact .inr ⟨List.mem_cons_of_mem _ q.1, q.2⟩
    · rcases clos_mem r _ x a h with q | q
      · exact .inl q
      · exact .inr ⟨List.mem_cons_of_mem _ q.1, q.2⟩
theorem clos_mono {cells : List (Str × Addr)} : ∀ (l : List (Str × NameKind)) (acc : List (Str × Addr)) (x : Str), (acc.lookup x).isSome = true → ((closOf cells l acc).lookup x).isSome = true
  | [], _, _, h => h
  | (y, k) :: r, acc, x, h => by
    unfold closOf
    split
    · refine clos_mono r _ x ?_
      rw [List.lookup_cons]; cases x == y <;> simp [h]
    · exact clos_mono r _ x h
theorem clos_has {cells : List (Str × Addr)} : ∀ (l : List (Str × NameKind)) (acc : List (Str × Addr)) (x : Str), (x, NameKind.free) ∈ l → ((closOf cells l acc).lookup x).isSome = true
  | [], _, _, h => by cases h
  | (y, k) :: r, acc, x, h => by
    unfold closOf
    rcases List.mem_cons.mp h with e | h
    · cases e
      simp only [beq_self_eq_true, if_true]
      exact clos_mono r _ _ (by simp [List.lookup_cons])
    · split
      · exact clos_has r _ x h
      · exact clos_has r _ x h
theorem clos_names {cells : List (Str × Addr)} : ∀ (l : List (Str × NameKind)) (acc : List (Str × Addr)), (l.map (·.1)).Nodup → (acc.map (·.1)).Nodup → (∀ x ∈ acc.map (·.1), x ∉ l.map (·.1)) → ((closOf cells l acc).map (·.1)).Nodup
  | [], _, _, h, _ => h
  | (y, k) :: r, acc, hn, h, hd => by
    rw [List.map_cons, List.nodup_cons] at hn
    have hd' : ∀ x ∈ acc.map (·.1), x ∉ r.map (·.1) := fun x hx q => hd x hx (by rw [List.map_cons]; exact List.mem_cons_of_mem _ q)
    unfold closOf
    split
    · refine clos_names r _ hn.2 ?_ ?_
      · rw [List.map_cons, List.nodup_cons]
        exact ⟨fun q => hd y q (by rw [List.map_cons]; exact List.mem_cons_self), h⟩
      · intro x hx
        rw [List.map_cons] at hx
        rcases List.mem_cons.mp hx with rfl | hx
        · exact hn.1
        · exact hd' x hx
    · exact clos_names r _ hn.2 h hd'
/-- a comprehension's table of names, seen from its frame's -/
noncomputable def relab (names σ : List (Str × NameKind)) : List (Str × NameKind) := names.map fun p => if (p.2 == NameKind.free && σ.lookup p.1 == some .cell) then (p.1, NameKind.cell) else p
noncomputable def okComp (names σ : List (Str × NameKind)) : Bool :=
  decide ((names.map (·.1)).Nodup) && names.all (fun p => p.2 != .cell) && names.all (fun p => p.2 != .free || σ.lookup p.1 == some .cell || σ.lookup p.1 == some .free) && (names.lookup accName).isNone
theorem relab_lookup {σ : List (Str × NameKind)} : ∀ {names : List (Str × NameKind)} {x : Str} {k : NameKind}, (relab names σ).lookup x = some k → ∃ k', names.lookup x = some k' ∧ (k = k' ∨ (k' = .free ∧ k = .cell))
  | [], x, k, h => by simp [relab] at h
  | (n, kd) :: r, x, k, h => by
    have ih := @relab_lookup σ r x k
    have h' : List.lookup x ((if (kd == NameKind.free && σ.lookup n == some .cell) then (n, NameKind.cell) else (n, kd)) :: relab r σ) = some k := h
    rw [List.lookup_cons]
    by_cases hc : (kd == NameKind.free && σ.lookup n == some .cell) = true
    · rw [if_pos hc, List.lookup_cons] at h'
      cases hb : x == n with
      | true =>
        rw [hb] at h'; cases h'
        simp only [Bool.and_eq_true, beq_iff_eq] at hc
        exact ⟨kd, rfl, .inr ⟨hc.1, rfl⟩⟩
      | false => rw [hb] at h'; exact ih h'
    · rw [if_neg hc, List.lookup_cons] at h'
      cases hb : x == n with
      | true => rw [hb] at h'; cases h'; exact ⟨_, rfl, .inl rfl⟩
      | false => rw [hb] at h'; exact ih h'
theorem relab_local {σ : List (Str × NameKind)} : ∀ {names : List (Str × NameKind)} {x : Str}, names.lookup x = some .local → (relab names σ).lookup x = some .local
  | [], x, h => by simp at h
  | (n, kd) :: r, x, h => by
    have ih := @relab_local σ r x
    show List.lookup x ((if (kd == NameKind.free && σ.lookup n == some .cell) then (n, NameKind.cell) else (n, kd)) :: relab r σ) = some .local
    rw [List.lookup_cons] at h
    by_cases hc : (kd == NameKind.free && σ.lookup n == some .cell) = true
    · rw [if_pos hc, List.lookup_cons]
      cases hb : x == n with
      | true =>
        rw [hb] at h; cases h
        simp at hc
      | false => rw [hb] at h; exact ih h
    · rw [if_neg hc, List.lookup_cons]
      cases hb : x == n with
      | true => rw [hb] at h; exact h
      | false => rw [hb] at h; exact ih h
section
variable {c : Cf} {σ : List (Str × NameKind)} {n : Nat} {Γ Γ₁ Γ₂ : Vars} {m : Bool} {d d₁ d₂ : D}
theorem relabel_eq {scope : Scope} {env : Env} (E : EnvOk σ env) : (relabel scope env).names = relab scope.names σ := by
  unfold relabel relab
  simp only [E.kind, beq_self_eq_true, Bool.and_true]
  congr 1
  funext p
  rw [E.kindOf]
structure CompOk (scope : Scope) (σ : List (Str × NameKind)) : Prop where
  kind : scope.kind = .function
  ok : okComp scope.names σ = true
theorem comp_env {scope : Scope} {env : Env} {C : Addr} (E : EnvOk σ env) (H : CompOk scope σ) (hC : ∀ x a, env.cells.lookup x = some a → a ≠ C) :
    EnvOk (relab scope.names σ) (compEnvC scope (closOf env.cells scope.names []) C env) ∧ closureFor scope env = pure (closOf env.cells scope.names []) ∧
    (∀ x a, (closOf env.cells scope.names []).lookup x = some a → env.cells.lookup x = some a) ∧ (∀ x, (scope.names.lookup x = some .free) → ((closOf env.cells scope.names []).lookup x).isSome = true) := by
  have hok := H.ok
  simp only [okComp, Bool.and_eq_true, decide_eq_true_eq, List.all_eq_true] at hok
  obtain ⟨⟨⟨hnd, hnc⟩, hfr⟩, hacc⟩ := hok
  have some_of : ∀ x, (x, NameKind.free) ∈ scope.names → (env.cells.lookup x).isSome = true := fun x hx => by
    have := hfr _ hx
    simp only [Bool.or_eq_true, bne_self_eq_false, Bool.false_eq_true, false_or, beq_iff_eq] at this
    exact E.has x this
  have mem : ∀ x a, (x, a) ∈ closOf env.cells scope.names [] → (x, NameKind.free) ∈ scope.names ∧ env.cells.lookup x = some a := fun x a hm => by
    rcases clos_mem _ _ _ _ hm with q | ⟨q, e⟩
    · cases q
    · obtain ⟨b, hb⟩ := Option.isSome_iff_exists.mp (some_of x q)
      rw [hb] at e; subst e; exact ⟨q, by simpa using hb⟩
  have kinds : ∀ x a, (x, a) ∈ closOf env.cells scope.names [] → scope.names.lookup x = some .free := fun x a hm => lookup_of_nodup hnd (mem x a hm).1
  refine ⟨⟨?_, relabel_eq E, E.glob, E.blt, ?_, ?_, ?_, ?_⟩, closureFor_eq some_of, fun x a hx => (mem x a (mem_of_lookup hx)).2, fun x hx => clos_has _ _ _ (mem_of_lookup hx)⟩
  · exact H.kind
  · intro x hx
    show ((closOf env.cells scope.names []).lookup x).isSome = true
    refine clos_has _ _ _ ?_
    rcases hx with hx | hx
    · obtain ⟨k', e, q⟩ := relab_lookup hx
      rcases q with q | ⟨rfl, _⟩
      · subst q; have := hnc _ (mem_of_lookup e); simp at this
      · exact mem_of_lookup e
    · obtain ⟨k', e, q⟩ := relab_lookup hx
      rcases q with q | ⟨rfl, q⟩
      · subst q; exact mem_of_lookup e
      · cases q
  · intro x a hx hl
    have h1 := kinds x a (mem_of_lookup hx)
    obtain ⟨k', e, q⟩ := relab_lookup hl
    rw [h1] at e; cases e
    rcases q with q | ⟨_, q⟩ <;> cases q
  · show (closOf env.cells scope.names []).Pairwise fun x y => x.2 ≠ y.2
    have hn : ((closOf env.cells scope.names []).map (·.1)).Nodup := clos_names _ _ hnd List.nodup_nil fun x hx => by cases hx
    rw [List.Nodup, List.pairwise_map] at hn
    refine (List.pairwise_iff_forall_sublist.mpr fun {p q} hs => ?_)
    have hp : p ∈ closOf env.cells scope.names [] := hs.subset (by simp)
    have hq : q ∈ closOf env.cells scope.names [] := hs.subset (by simp)
    have hne := List.pairwise_iff_forall_sublist.mp hn hs
    intro e
    have h1 := (mem p.1 p.2 hp).2
    have h2 := (mem q.1 q.2 hq).2
    rw [← e] at h2
    exact hne (name_of_addr E.apart (mem_of_lookup h1) (mem_of_lookup h2))
  · intro x a hm
    exact hC x a (mem x a hm).2
/-- the variables that a comprehension sees -/
noncomputable def seen (names : List (Str × NameKind)) (Γ : Vars) : Vars := fun x => if names.lookup x = some .free then Γ x else none
theorem comp_inv {scope : Scope} {env : Env} {U V : Addr → Prop} {h h' : Heap} {ρ : Str → Option Value} {os : Str → List Addr} {C Dd : Addr} {mC : Str → Option Value} {sl : Slot} (E : EnvOk σ env) (H : CompOk scope σ)
    (I : InvAt c env U V Γ h ρ os) (hk : Keep h h') (hC : h.get? C = none) (hD : h.get? Dd = none) (hCD : C ≠ Dd) (hns : h'.Ns C mC) (hsl : ∀ P : Addr → Prop, SlotRep c h' P (.ref Dd) sl [Dd])
    (hcl : ∀ x a, (closOf env.cells scope.names []).lookup x = some a → env.cells.lookup x = some a) :
    Inv c (compEnvC scope (closOf env.cells scope.names []) C env) U (fun a => V a ∨ a = C ∨ a = Dd) (upd (seen scope.names Γ) accName sl) h' := by
  have hok := H.ok
  simp only [okComp, Bool.and_eq_true, decide_eq_true_eq, List.all_eq_true, Option.isNone_iff_eq_none] at hok
  obtain ⟨⟨⟨hnd, hnc⟩, hfr⟩, hacc⟩ := hok
  have kind : ∀ x, (compEnvC scope (closOf env.cells scope.names []) C env).kindOf x = (relab scope.names σ).lookup x := fun x => by
    show (relabel scope env).names.lookup x = _
    rw [relabel_eq E]
  have nC : ∀ a, Dom h a → a ≠ C := fun a ⟨o, e⟩ q => by subst q; rw [hC] at e; cases e
  have nD : ∀ a, Dom h a → a ≠ Dd := fun a ⟨o, e⟩ q => by subst q; rw [hD] at e; cases e
  have fa : ∀ a, FrameAddr (compEnvC scope (closOf env.cells scope.names []) C env) a → a = C ∨ FrameAddr env a := fun a q => by
    rcases q with q | ⟨x, q⟩
    · exact .inl q
    · exact .inr (.inr ⟨x, hcl x a q⟩)
  have back : ∀ {x sl'}, upd (seen scope.names Γ) accName sl x = some sl' → x ≠ accName → scope.names.lookup x = some .free ∧ Γ x = some sl' := fun {x sl'} e hx => by
    simp only [upd, if_neg hx, seen] at e
    split at e
    · rename_i q; exact ⟨q, e⟩
    · cases e
  refine ⟨fun x => if x = accName then some (.ref Dd) else if scope.names.lookup x = some .free then ρ x else mC x, fun x => if x = accName then [Dd] else os x, ?_⟩
  refine ⟨⟨⟨mC, hns, fun x hx => ?_⟩, fun x a hx => ?_⟩, ?_, ?_, ?_, ?_, ?_, ?_, ?_, ?_, ?_, ?_⟩
  · rw [kind] at hx
    obtain ⟨k', e, q⟩ := relab_lookup hx
    rcases q with q | ⟨_, q⟩
    · subst q
      have h1 : x ≠ accName := by rintro rfl; rw [hacc] at e; cases e
      simp [h1, e]
    · cases q
  · have hx' : (closOf env.cells scope.names []).lookup x = some a := hx
    have hl : scope.names.lookup x = some .free := by
      rcases clos_mem _ _ _ _ (mem_of_lookup hx') with q | q
      · cases q
      · exact lookup_of_nodup hnd q.1
    have h1 : x ≠ accName := by rintro rfl; rw [hacc] at hl; cases hl
    simp only [h1, if_false, hl, if_true]
    exact (I.fr.cell x a (hcl x a hx')).keeps hk
  · intro x sl' e
    by_cases hx : x = accName
    · subst hx
      simp only [upd, if_true] at e ⊢; cases e
      exact ⟨_, rfl, hsl _⟩
    · obtain ⟨q, e⟩ := back e hx
      obtain ⟨v, hv, r⟩ := I.var x sl' e
      refine ⟨v, by simp [hx, q, hv], ?_⟩
      simp only [hx, if_false]
      refine r.live.move (fun b _ o e => hk b o e) (fun b o _ e => hk b o e) fun a p => ⟨p.1.1, ?_⟩
      rintro (q | q | q)
      · exact p.1.2 q
      · exact nC a p.2 q
      · exact nD a p.2 q
  · intro x sl' e
    by_cases hx : x = accName
    · simp [hx]
    · simp only [hx, if_false]; exact I.nd x sl' (back e hx).2
  · intro x sl' e a ha
    by_cases hx : x = accName
    · simp only [hx, if_true, List.mem_singleton] at ha
      subst ha
      refine ⟨.inr (.inr rfl), fun q => ?_⟩
      rcases fa _ q with q | q
      · exact hCD q.symm
      · exact nD _ (I.vd _ (I.vf _ q)) rfl
    · simp only [hx, if_false] at ha
      have o := I.own x sl' (back e hx).2 a ha
      refine ⟨.inl o.1, fun q => ?_⟩
      rcases fa _ q with q | q
      · exact nC _ (I.vd _ o.1) q
      · exact o.2 q
  · intro x sl' y sl'' e e' hyx a ha
    by_cases hx : x = accName
    · have hy : y ≠ accName := fun q => hyx (q.trans hx.symm)
      simp only [hx, if_true, List.mem_singleton] at ha
      subst ha
      simp only [hy, if_false]
      intro q
      exact nD _ (I.vd _ (I.own y sl'' (back e' hy).2 _ q).1) rfl
    · simp only [hx, if_false] at ha
      have o := I.own x sl' (back e hx).2 a ha
      by_cases hy : y = accName
      · simp only [hy, if_true, List.mem_singleton]
        exact nD _ (I.vd _ o.1)
      · simp only [hy, if_false]
        exact I.dis x sl' y sl'' (back e hx).2 (back e' hy).2 hyx a ha
  · intro a q
    rcases fa a q with q | q
    · exact .inr (.inl q)
    · exact .inl (I.vf a q)
  · rintro a (q | q | q) u
    · exact I.uv a q u
    · exact nC a (I.ud a u) q
    · exact nD a (I.ud a u) q
  · rintro a (q | q | q)
    · exact (I.vd a q).keep hk
    · subst q; obtain ⟨o, _, _, e, _⟩ := hns; exact ⟨o, e⟩
    · subst q; exact (hsl fun _ => True).dom _ List.mem_cons_self
  · intro a u; exact (I.ud a u).keep hk
  · rintro a (q | q | q) g
    · exact I.gb a q g
    · exact nC a (I.gk.dom g) q
    · exact nD a (I.gk.dom g) q
  · exact I.gk.keep hk
end
end Mine
end
-- C1
section
open PySem PyProof.Rows PySem.W
set_option Elab.async false
set_option linter.unusedVariables false
namespace Mine
section
variable {c : Cf} {σ : List (Str × NameKind)} {n : Nat} {Γ Γ₁ Γ₂ : Vars} {m : Bool} {d d₁ d₂ : D}
/-- a store into a name of the frame's own table -/
theorem frame_store_local {env : Env} {M : Model} {A : Around} {E : Value → Shared → Prop} {s : Shared} {ρ : Str → Option Value} {x : Str} {v : Value} {Q : Unit → Shared → Prop}
    (e : EnvOk σ env) (F : FrameAt env s.heap ρ) (hx : σ.lookup x = some .local)
    (h : ∀ s', Same s s' → FrameAt env s'.heap (upd ρ x v) → KeepV (fun a => a = env.locals) s.heap s'.heap → Q () s') : wpAny M A (storeName env x v) Q E s := by
  obtain ⟨m, hm, hr⟩ := F.ns
  refine wpAny_storeName_local ((e.kindOf x).trans hx) hm (fun h' hn hs => h _ ⟨h', _, rfl⟩ ⟨⟨_, hn, fun y hy => ?_⟩, fun y a hy => ?_⟩ fun b o hb he => ?_) (by rw [e.kind]; rfl)
  · show (if y = x then some v else m y) = (if y = x then some v else ρ y)
    split
    · rfl
    · exact hr y hy
  · have hyx : y ≠ x := by rintro rfl; exact e.nl _ _ hy hx
    show h'.IsCell a (if y = x then some v else ρ y)
    rw [if_neg hyx]
    exact (F.cell y a hy).sameBut hs (e.off y a (mem_of_lookup hy))
  · exact hs.extBut b o hb he
/-- a comprehension's target gets a value -/
noncomputable def AsnC (c : Cf) (σ : List (Str × NameKind)) (n : Nat) (Γ : Vars) (tgt : Expr) (d : D) (Γ' : Vars) : Prop :=
  ∀ env U V A s v, EnvOk σ env → Rm n A → Inv c env U V Γ s.heap → c.Rep s.heap (Cl U V) v d → wpAny c.M A (assign tgt env v) (fun _ s' => Same s s' ∧ KeepV (fun a => a = env.locals) s.heap s'.heap ∧ Inv c env U V Γ' s'.heap) NoE s
theorem inv_v {env : Env} {U V V' : Addr → Prop} {h : Heap} {ρ : Str → Option Value} {os : Str → List Addr} (I : InvAt c env U V Γ h ρ os) (e : ∀ a, V' a ↔ V a) : InvAt c env U V' Γ h ρ os := by
  have : V' = V := funext fun a => propext (e a)
  rw [this]; exact I
theorem AsnC.name {x : Str} {px : Pos} (hx : σ.lookup x = some .local) : AsnC c σ n Γ (.Name x px) d (upd Γ x (.fz d)) :=
  fun env U V A s v E R I r => by
    obtain ⟨ρ, os, I⟩ := I
    refine wpAny_assign_Name (frame_store_local E I.fr hx fun s' sm F' k => ⟨sm, k, _, _, inv_v (I.store (h := s.heap) (os₁ := []) (fun _ _ e => e) (.fz (r.mono fun _ p => ⟨p, fun q => nomatch q⟩)) List.nodup_nil (fun a ha => nomatch ha) (fun b o hb e => k b o (fun q => hb (.inl q)) e) F') fun a => by simp⟩)
noncomputable def AsnCL (c : Cf) (σ : List (Str × NameKind)) (n : Nat) (Γ : Vars) (ts : List Expr) (ds : List D) (Γ' : Vars) : Prop :=
  ∀ env U V A s vs, EnvOk σ env → Rm n A → Inv c env U V Γ s.heap → c.Reps s.heap (Cl U V) vs ds → wpAny c.M A (assignInOrder ((assignEach ts env).map (·.2)) vs) (fun _ s' => Same s s' ∧ KeepV (fun a => a = env.locals) s.heap s'.heap ∧ Inv c env U V Γ' s'.heap) NoE s
theorem AsnCL.nil : AsnCL c σ n Γ [] [] Γ := fun env U V A s vs E R I r => by
  cases r; exact wpAny_pure ⟨.refl s, fun _ _ _ e => e, I⟩
theorem AsnCL.cons {t : Expr} {ts : List Expr} {ds : List D} (a : AsnC c σ n Γ t d Γ₁) (b : AsnCL c σ n Γ₁ ts ds Γ₂) (he : ∀ env, assignEach (t :: ts) env = (false, assign t env) :: assignEach ts env := by intro _; rfl) : AsnCL c σ n Γ (t :: ts) (d :: ds) Γ₂ :=
  fun env U V A s vs E R I r => by
    obtain ⟨v, vs, rfl, rv, rs⟩ := r.invCons
    rw [he]
    refine wpAny_assignInOrder_more (wpAny_mono (a env U V A s v E R I rv) (fun _ s₁ l => ?_) fun _ _ z => z)
    obtain ⟨sm, k, I₁⟩ := l
    have vl : V env.locals := by obtain ⟨_, _, J⟩ := I; exact J.vf _ (.inl rfl)
    have rs' : c.Reps s₁.heap (Cl U V) vs ds := rs.move (fun b o p e => k b o (fun q => p.2 (q ▸ vl)) e) fun b p => p
    exact wpAny_mono (b env U V A s₁ vs E R I₁ rs') (fun _ _ l => ⟨sm.trans l.1, fun b o hb e => l.2.1 b o hb (k b o hb e), l.2.2⟩) fun _ _ z => z
theorem AsnC.tuple {ts : List Expr} {ds : List D} {k : Nat} {pos : Pos} (b : AsnCL c σ n Γ ts ds Γ₁) (hn : ∀ env, (assignEach ts env).length = ds.length := by intro _; rfl)
    (hstar : ∀ env, (assignEach ts env).findIdx? (·.1) = none := by intro _; rfl) : AsnC c σ n Γ (.Tuple ts k pos) (.tup ds) Γ₁ :=
  fun env U V A s v E R I r => by
    obtain ⟨a, vs, rfl, ht, p, rs⟩ := r.invTup
    refine wpAny_assign_Tuple R.handled ht (by rw [hn, List.size_toArray, rs.length]) (hstar env) fun h' hx => ?_
    have kp : Keep s.heap h' := fun b o e => hx b o (Nat.ne_of_lt (Heap.lt_size e)) e
    exact wpAny_mono (b env U V A { s with heap := h' } _ E R (I.keep kp) (by simpa using rs.keep kp)) (fun _ _ l => ⟨Same.trans ⟨h', _, rfl⟩ l.1, fun b o hb e => l.2.1 b o hb (kp b o e), l.2.2⟩) fun _ _ z => z
/-- what a comprehension's turn leaves: its own names and its list may have changed -/
noncomputable def LeftC (c : Cf) (env : Env) (U V : Addr → Prop) (W : Addr → Prop) (s : Shared) (Γ' : Vars) (s' : Shared) : Prop :=
  Same s s' ∧ KeepV W s.heap s'.heap ∧ ∃ V', (∀ a, V a → V' a) ∧ VExt s V V' ∧ Inv c env U V' Γ' s'.heap
noncomputable abbrev testsOf (ifs : List Expr) (env : Env) : Sem Bool := forIn ifs true fun c r => if r = true then do let ok ← isTrue c env (eval c env); pure (ForInStep.yield ok) else pure (ForInStep.yield r)
noncomputable def Tests (c : Cf) (σ : List (Str × NameKind)) (n : Nat) (Γ : Vars) (ifs : List Expr) (b : Bool) : Prop :=
  ∀ env U V A s, EnvOk σ env → Rm n A → Inv c env U V Γ s.heap → wpAny c.M A (testsOf ifs env) (fun r s' => Grow s s' ∧ r = b) NoE s
theorem Tests.nil : Tests c σ n Γ [] true := fun _ _ _ _ s _ _ _ => wpAny_tests_nil ⟨.refl s, rfl⟩
theorem Tests.one {t : Expr} {b : Bool} (a : EvT c σ n Γ t b) : Tests c σ n Γ [t] b := fun env U V A s E R I => wpAny_tests_one (a env U V A s E R I)
/-- what a turn does behind its tests -/
noncomputable def Emit (c : Cf) (σ : List (Str × NameKind)) (n : Nat) (Γ : Vars) (Dd : Addr) (emit : Env → Sem PUnit) (Γ' : Vars) : Prop :=
  ∀ env U V A s, EnvOk σ env → Rm n A → Inv c env U V Γ s.heap → wpAny c.M A (emit env) (fun _ s' => LeftC c env U V (fun a => a = env.locals ∨ a = Dd) s Γ' s') NoE s
noncomputable abbrev emitElt (elt : Expr) (Dd : Addr) (env : Env) : Sem PUnit := do let _ ← PySem.call (.builtin "list.append") [.ref Dd, ← eval elt env]
theorem Emit.elt {elt : Expr} {Dd : Addr} {ds : List D} (hΓ : Γ accName = some (.oa Dd ds)) (a : EvE c σ n Γ true elt d) (hsz : ds.length ≤ sizeLine) : Emit c σ n Γ Dd (emitElt elt Dd) (upd Γ accName (.oa Dd (ds ++ [d]))) :=
  fun env U V A s E R I => by
    have I' := I
    obtain ⟨ρ, os, J⟩ := I
    obtain ⟨v, hv, r⟩ := J.var accName _ hΓ
    refine wpAny_bind (wpAny_mono (a env U V A s E R I') (fun y s₁ q => ?_) fun _ _ z => z)
    refine wpAny_bind ?_
    generalize hsl : Slot.oa Dd ds = sl at r
    generalize hos : os accName = os' at r
    cases r with
    | @oa l vs _ hl rs =>
      cases hsl
      refine wpAny_list_append_plain (hl.at fun o e => q.1.2 _ o e) (fun h' hl' hs' => wpAny_pure ?_) (by rw [List.size_toArray, rs.length]; exact hsz)
      have k : ∀ b o, b ≠ Dd → s₁.heap.get? b = some o → h'.get? b = some o := fun b o hb e => hs'.extBut b o hb e
      have vl : V Dd := (J.own accName _ hΓ Dd (by rw [hos]; exact List.mem_cons_self)).1
      refine ⟨q.1.1.trans ⟨h', _, rfl⟩, fun b o hb e => k b o (fun q => hb (.inr q)) (q.1.2 b o e), V, fun _ q => q, fun _ q => .inl q, _, _, (J.keep q.1.2).mutate hΓ (a := Dd) (by rw [hos]; exact List.mem_cons_self) k hv ?_⟩
      rw [hos]
      refine .oa (vs := vs ++ [y]) (by simpa using hl') (((rs.keep q.1.2).append (.cons (q.2.mono fun _ p => ⟨p.1, p.2 rfl⟩) .nil)).move (fun b o p e => k b o (fun q => p.2 (q ▸ vl)) e) fun _ p => p)
    | _ => cases hsl
/-- the loop -/
noncomputable def CompL (c : Cf) (σ : List (Str × NameKind)) (n : Nat) (Γ : Vars) (e : Expr) (depth : Nat) (Dd : Addr) (t : Bool) (ds : List D) (Γ' : Vars) : Prop :=
  ∀ env U V A s it F, EnvOk σ env → Rm n A → Inv c env (fun a => U a ∨ a ∈ F) V Γ s.heap → (∀ a ∈ F, ¬ U a) → (∀ a ∈ F, ¬ GAddr c.K a) → V Dd → IterAt c s.heap (Cl (fun a => U a ∨ a ∈ F) V) it F t ds →
    codeAny c.M A (.compLoop e depth (.ref it) (.ref Dd) env) (fun r s' => r = .ok .next ∧ LeftC c env U V (fun a => a = env.locals ∨ a = Dd ∨ a ∈ F) s Γ' s') s
/-- a turn's shape: target, tests, what is done -/
structure TurnIs (e : Expr) (depth : Nat) (Dd : Addr) (tgt : Expr) (ifs : List Expr) (emit : Env → Sem PUnit) : Prop where
  frame : ∀ it env, (Code.compLoop e depth (.ref it) (.ref Dd) env).isFrame = false
  quiet : ∀ it env, (Code.compLoop e depth (.ref it) (.ref Dd) env).quiet = true
  weight : ∀ it env, (Code.compLoop e depth (.ref it) (.ref Dd) env).weight = 0
  units : ∀ it env, (Code.compLoop e depth (.ref it) (.ref Dd) env).cUnits = 0
  tree : ∃ pos, ∀ it env, compTurn e depth (.ref it) (.ref Dd) env = (do
      standAt pos
      match ← pyNext (.ref it) with
      | none => pure (.done .next)
      | some v =>
        letOwnedTupleGo tgt (.ref it) v
        assign tgt env v
        let ok ← testsOf ifs env
        if ok then emit env
        again (.compLoop e depth (.ref it) (.ref Dd) env))
theorem turn_one {elt tgt iter : Expr} {ifs : List Expr} {scope : Scope} {pos : Pos} {Dd : Addr} : TurnIs (.ListComp elt [⟨tgt, iter, ifs, 0⟩] scope pos) 0 Dd tgt ifs (emitElt elt Dd) :=
  ⟨fun _ _ => rfl, fun _ _ => rfl, fun _ _ => rfl, fun _ _ => rfl, _, fun it env => by rw [compTurn_list]; rfl⟩
theorem comp_tree {e : Expr} {depth : Nat} {Dd : Addr} {tgt : Expr} {ifs : List Expr} {emit : Env → Sem PUnit} (T : TurnIs e depth Dd tgt ifs emit) {A : Around} {s : Shared} {it : Addr} {env : Env} {R : Result → Shared → Prop}
    (h : wpAny c.M A (pyNext (.ref it)) (fun r s₁ => match r with
      | none => R (.ok .next) s₁
      | some v => wpAny c.M A (letOwnedTupleGo tgt (.ref it) v) (fun _ s₂ => wpAny c.M A (assign tgt env v) (fun _ s₃ => wpAny c.M A (testsOf ifs env) (fun ok s₄ =>
          if ok = true then wpAny c.M A (emit env) (fun _ s₅ => codeAny c.M A (.compLoop e depth (.ref it) (.ref Dd) env) R s₅) NoE s₄ else codeAny c.M A (.compLoop e depth (.ref it) (.ref Dd) env) R s₄) NoE s₃) NoE s₂) NoE s₁) NoE s) :
    codeAny c.M A (.compLoop e depth (.ref it) (.ref Dd) env) R s := by
  refine codeAny_of_tree ?_
  rw [show A.under (.compLoop e depth (.ref it) (.ref Dd) env) = A from Around.under_of_weight (T.weight it env) (T.units it env)]
  show wpAny _ _ (if (Code.compLoop e depth (.ref it) (.ref Dd) env).isFrame then (compTurn e depth (.ref it) (.ref Dd) env).onRaise (leaving env) else (compTurn e depth (.ref it) (.ref Dd) env).onRaise (fun x => do noteFrame x env; theTreesLotGoes x)) _ _ s
  rw [T.frame it env, if_neg Bool.false_ne_true]
  refine wpAny_noted ?_
  obtain ⟨pos, ht⟩ := T.tree
  rw [ht]
  refine wpAny_bind (wpAny_standAt (wpAny_bind (wpAny_mono h (fun r s₁ h₁ => ?_) fun _ _ z => z.elim)))
  cases r with
  | none => exact wpAny_pure h₁
  | some v =>
    refine wpAny_bind (wpAny_mono h₁ (fun _ s₂ h₂ => wpAny_bind (wpAny_mono h₂ (fun _ s₃ h₃ => wpAny_bind (wpAny_mono h₃ (fun ok s₄ h₄ => ?_) fun _ _ z => z.elim)) fun _ _ z => z.elim)) fun _ _ z => z.elim)
    cases ok with
    | false =>
      simp only [Bool.false_eq_true, if_false] at h₄ ⊢
      exact wpAny_pure ⟨T.quiet it env, h₄⟩
    | true =>
      simp only [if_true] at h₄ ⊢
      exact wpAny_bind (wpAny_mono h₄ (fun _ s₅ h₅ => wpAny_pure ⟨T.quiet it env, h₅⟩) fun _ _ z => z.elim)
theorem CompL.nil {e : Expr} {depth : Nat} {Dd : Addr} {tgt : Expr} {ifs : List Expr} {emit : Env → Sem PUnit} (T : TurnIs e depth Dd tgt ifs emit) {t : Bool} : CompL c σ n Γ e depth Dd t [] Γ :=
  fun env U V A s it F E R I hu hG vd x => comp_tree T (wpAny_mono (iter_end R.handled x) (fun r s₁ y => by
    obtain ⟨rfl, sm, k⟩ := y
    obtain ⟨ρ, os, J⟩ := I
    exact ⟨rfl, sm, fun b o hb e => k b o (fun f => hb (.inr (.inr f))) e, V, fun _ q => q, fun _ q => .inl q, ρ, os, J.unshut k hu hG⟩) fun _ _ z => z)
theorem CompL.cons {e : Expr} {depth : Nat} {Dd : Addr} {tgt : Expr} {ifs : List Expr} {emit : Env → Sem PUnit} (T : TurnIs e depth Dd tgt ifs emit) {t b : Bool} {ds : List D} {Γ' : Vars}
    (a : AsnC c σ n Γ tgt d Γ₁) (q : Tests c σ n Γ₁ ifs b) (em : b = true → Emit c σ n Γ₁ Dd emit Γ₂) (em' : b = false → ∀ x sl, Γ₂ x = some sl → Γ₁ x = some sl) (r : CompL c σ n Γ₂ e depth Dd t ds Γ')
    (ht : t = true → ∃ es k p, tgt = .Tuple es k p := by intro h; first | cases h | exact ⟨_, _, _, rfl⟩) : CompL c σ n Γ e depth Dd t (d :: ds) Γ' :=
  fun env U V A s it F E R I hu hG vd x => by
    have nf : ∀ a ∈ F, ¬ V a := fun a f v => by obtain ⟨ρ, os, J⟩ := I; exact J.uv a v (.inr f)
    have vl : V env.locals := by obtain ⟨_, _, J⟩ := I; exact J.vf _ (.inl rfl)
    refine comp_tree T (wpAny_mono (iter_step (tgt := tgt) x (fun a ha p => p.1 (.inr ha)) (fun a e => ?_) ht) (fun r s₁ y => ?_) fun _ _ z => z)
    · have := fresh_pm I true a e; exact ⟨this.1, this.2 rfl⟩
    obtain ⟨v, rfl, y⟩ := y
    refine wpAny_mono y (fun _ s₂ z => ?_) fun _ _ z => z
    obtain ⟨sm, k, rv, x'⟩ := z
    have I₂ : Inv c env (fun a => U a ∨ a ∈ F) V Γ s₂.heap := by obtain ⟨ρ, os, J⟩ := I; exact ⟨ρ, os, J.turn k x'.dom hG⟩
    refine wpAny_mono (a env _ V A s₂ v E R I₂ rv) (fun _ s₃ l => ?_) fun _ _ z => z
    obtain ⟨sm₃, k₃, I₃⟩ := l
    have fin : ∀ s₅, LeftC c env (fun a => U a ∨ a ∈ F) V (fun a => a = env.locals ∨ a = Dd) s₃ Γ₂ s₅ → codeAny c.M A (.compLoop e depth (.ref it) (.ref Dd) env) (fun r s' => r = .ok .next ∧ LeftC c env U V (fun a => a = env.locals ∨ a = Dd ∨ a ∈ F) s Γ' s') s₅ := by
      intro s₅ l
      obtain ⟨sm', k', V₂, v₂, e₂, I₄⟩ := l
      have kk : ∀ b o, ¬ (b = env.locals ∨ b = Dd) → s₂.heap.get? b = some o → s₅.heap.get? b = some o := fun b o hb e => k' b o hb (k₃ b o (fun q => hb (.inl q)) e)
      have kv : ∀ b o, ¬ V b → s₂.heap.get? b = some o → s₅.heap.get? b = some o := fun b o hb e => kk b o (fun q => hb (q.elim (fun q => q ▸ vl) fun q => q ▸ vd)) e
      have f2 : ∀ b, s₃.heap.get? b = none → b ≠ env.locals → s₂.heap.get? b = none := fun b q hb => by
        cases e : s₂.heap.get? b with
        | none => rfl
        | some o => rw [k₃ b o hb e] at q; cases q
      have x₄ : IterAt c s₅.heap (Cl (fun a => U a ∨ a ∈ F) V₂) it F t ds := x'.move (fun b hb o e => kv b o (nf b hb) e) (fun b o p e => kv b o p.2 e) fun b p q => ⟨p.1, fun v => by
        rcases e₂ b v with v | v
        · exact p.2 v
        · obtain ⟨o, e⟩ := q
          by_cases hb : b = env.locals
          · exact p.2 (hb ▸ vl)
          · rw [f2 b v hb] at e; cases e⟩
      have hne : ∀ b, s₃.heap.get? b = none → V b ∨ s.heap.get? b = none := fun b q => by
        by_cases hb : b = env.locals
        · exact .inl (hb ▸ vl)
        · have q := f2 b q hb
          cases e : s.heap.get? b with
          | none => exact .inr rfl
          | some o =>
            by_cases hb : b ∈ F
            · obtain ⟨o', e'⟩ := x'.dom b hb; rw [q] at e'; cases e'
            · rw [k b o hb e] at q; cases q
      have ve : VExt s V V₂ := fun b q => (e₂ b q).elim .inl (hne b)
      refine codeAny_mono (r env U V₂ A s₅ it F E R I₄ hu hG (v₂ _ vd) x₄) fun res s' y => ?_
      obtain ⟨rfl, sm₆, k₆, V₆, v₆, e₆, I₆⟩ := y
      refine ⟨rfl, (sm.trans (sm₃.trans sm')).trans sm₆, fun b o hb e => k₆ b o hb (kk b o (fun q => hb (q.elim .inl fun q => .inr (.inl q))) (k b o (fun f => hb (.inr (.inr f))) e)), V₆, fun a q => v₆ a (v₂ a q), fun b q => ?_, I₆⟩
      rcases e₆ b q with q | q
      · exact ve b q
      · by_cases hv : V b
        · exact .inl hv
        · refine .inr ?_
          cases e : s.heap.get? b with
          | none => rfl
          | some o =>
            by_cases hb : b ∈ F
            · obtain ⟨o', e'⟩ := x₄.dom b hb; rw [q] at e'; cases e'
            · rw [kv b o hv (k b o hb e)] at q; cases q
    refine wpAny_mono (q env _ V A s₃ E R I₃) (fun ok s₄ z => ?_) fun _ _ z => z
    obtain ⟨g, rfl⟩ := z
    cases ok with
    | false =>
      simp only [Bool.false_eq_true, if_false]
      exact fin s₄ ⟨g.1, fun b o _ e => g.2 b o e, V, fun _ q => q, fun _ q => .inl q, (I₃.keep g.2).sub (em' rfl)⟩
    | true =>
      simp only [if_true]
      refine wpAny_mono (em rfl env _ V A s₄ E R (I₃.keep g.2)) (fun _ s₅ l => fin s₅ ?_) fun _ _ z => z
      obtain ⟨sm₅, k₅, V₅, v₅, e₅, I₅⟩ := l
      exact ⟨g.1.trans sm₅, fun b o hb e => k₅ b o hb (g.2 b o e), V₅, v₅, fun b q => (e₅ b q).elim .inl fun q => .inr (fresh_back g q), I₅⟩
end
end Mine
end
-- C2
section
open PySem PyProof.Rows PySem.W
set_option Elab.async false
set_option linter.unusedVariables false
namespace Mine
section
variable {c : Cf} {σ : List (Str × NameKind)} {n : Nat} {Γ Γ₁ Γ₂ : Vars} {m : Bool} {d d₁ d₂ : D}
/-- a comprehension's whole run, up to what is done with its list -/
theorem comp_core {elt tgt iter : Expr} {ifs : List Expr} {rest : List Comprehension} {scope : Scope} {pos p : Pos} {ds : List D} {env : Env} {U V : Addr → Prop} {A : Around} {s : Shared} {use : Option (Value → Sem Unit)} {Q : Value → Shared → Prop}
    {sl₀ sl : Addr → Slot} {Γr : Addr → Vars} (E : EnvOk σ env) (R : Rm n A) (I : Inv c env U V Γ s.heap) (H : CompOk scope σ) (hnm : ∀ x ∈ scope.names, x.2 = .local → scope.names.lookup x.1 = some .local)
    (h0 : ∀ (h : Heap) (P : Addr → Prop) a, h.PlainList a #[] → SlotRep c h P (.ref a) (sl₀ a) [a])
    (a : EvIt c σ n Γ iter false ds)
    (b : ∀ Dd, CompL c (relab scope.names σ) n (upd (seen scope.names Γ) accName (sl₀ Dd)) (.ListComp elt (⟨tgt, iter, ifs, 0⟩ :: rest) scope pos) 0 Dd false ds (Γr Dd))
    (hr : ∀ Dd, Γr Dd accName = some (sl Dd))
    (hs : ∀ x, foldedSetIterable iter env x = pure x)
    (h : ∀ Dd C s' V' v os, Grow s s' → s.heap.get? C = none → s.heap.get? Dd = none → (∀ b, Dd ≤ b → s.heap.get? b = none) → (∃ mC, s'.heap.Ns C mC) → (∀ a, V a → V' a) → V' C → ¬ U C → (∀ a ∈ os, V' a ∧ a ≠ C) → os.Nodup → SlotRep c s'.heap (Cl U V') v (sl Dd) os → v = .ref Dd →
      compPost c.M A NoE use Q (.ref Dd) C (.ok .next) s')
    (hsl : ∀ (h : Heap) (P : Addr → Prop) a v os, SlotRep c h P v (sl a) os → v = .ref a) :
    wpAny c.M A (comprehension (.ListComp elt (⟨tgt, iter, ifs, 0⟩ :: rest) scope pos) scope env p (newList []) false (eval iter env) use) Q NoE s := by
  have hok := H.ok
  simp only [okComp, Bool.and_eq_true, decide_eq_true_eq, List.all_eq_true] at hok
  have hclos : closureFor scope env = pure (closOf env.cells scope.names []) := closureFor_eq fun x hx => by
    have := hok.1.2 _ hx
    simp only [Bool.or_eq_true, bne_self_eq_false, Bool.false_eq_true, false_or, beq_iff_eq] at this
    exact E.has x this
  refine wpAny_comprehension_free rfl hs hclos H.kind hnm (wpAny_mono (a env U V A s E R I) (fun xv s₁ y => wpAny_mono y (fun it s₂ z => ?_) fun _ _ z => z) fun _ _ z => z)
  obtain ⟨g, it, F, rfl, x, hf⟩ := z
  obtain ⟨ρ, os, J⟩ := I
  have nd : ∀ a, Dom s.heap a → a ∉ F := fun a ⟨o, e⟩ f => by rw [hf a f] at e; cases e
  have J₂ : InvAt c env (fun a => U a ∨ a ∈ F) V Γ s₂.heap ρ os := J.shut g.2 fun a q => by
    rcases q with q | q
    · exact ⟨.inl q, (J.ud a q).keep g.2⟩
    · exact ⟨.inr (hf a q), x.dom a q⟩
  refine wpAny_newList ?_
  refine wpAny_newFunctionEnv (fun y hy => by have := hok.1.1.2 _ hy; simpa using this) (by intro y hy; cases hy) (fun h₁ hns₁ hsb₁ => ?_) H.kind
  dsimp only at hns₁ hsb₁ ⊢
  generalize hH2 : s₂.heap.push { cls := .type "list", dict := none, data := .seq ([] : List Value).toArray } = H2 at hns₁ hsb₁ ⊢
  have hCs : H2.objs.size = s₂.heap.objs.size + 1 := by rw [← hH2, Heap.size_push]
  have k₁ : Keep s₂.heap h₁ := fun b o e => hsb₁.extBut b o (by rw [hCs]; exact Nat.ne_of_lt (Nat.lt_succ_of_lt (Heap.lt_size e))) (Heap.get?_push_of_some _ (hH2 ▸ Heap.get?_push_of_some _ e))
  have fD : s₂.heap.get? s₂.heap.objs.size = none := heap_size_none _
  have fC : s₂.heap.get? H2.objs.size = none := by
    cases e : s₂.heap.get? H2.objs.size with
    | none => rfl
    | some o => have := Heap.lt_size e; rw [hCs] at this; exact absurd (Nat.lt_trans (Nat.lt_succ_self _) this) (Nat.lt_irrefl _)
  have nCD : H2.objs.size ≠ s₂.heap.objs.size := by rw [hCs]; exact Nat.succ_ne_self _
  have pl : h₁.PlainList s₂.heap.objs.size #[] := ⟨0, hsb₁.extBut _ _ (Ne.symm nCD) (Heap.get?_push_of_some _ (hH2 ▸ Heap.get?_push_size _ rfl))⟩
  obtain ⟨E', _, hcl, _⟩ := comp_env (scope := scope) (C := H2.objs.size) E H fun x a hx q => by
    have := J₂.vd a (J₂.vf a (.inr ⟨x, hx⟩)); subst q; obtain ⟨o, e⟩ := this; rw [fC] at e; cases e
  have IC := comp_inv (scope := scope) (sl := sl₀ s₂.heap.objs.size) E H J₂ k₁ fC fD nCD hns₁ (fun P => h0 _ P _ pl) hcl
  generalize hcenv : compEnvC scope (closOf env.cells scope.names []) H2.objs.size env = cenv at E' IC
  have hcl2 : cenv.locals = H2.objs.size := by rw [← hcenv]; rfl
  have xC : IterAt c h₁ (Cl (fun a => U a ∨ a ∈ F) (fun a => V a ∨ a = H2.objs.size ∨ a = s₂.heap.objs.size)) it F false ds := x.move (fun b _ o e => k₁ b o e) (fun b o _ e => k₁ b o e) fun b p q => ⟨fun r => r.elim p.1.1 p.2, fun r => by
    rcases r with r | r | r
    · exact p.1.2 r
    · subst r; obtain ⟨o, e⟩ := q; rw [fC] at e; cases e
    · subst r; obtain ⟨o, e⟩ := q; rw [fD] at e; cases e⟩
  have loop : ∀ s₃ : Shared, s₃ = { s₂ with heap := h₁, toks := s₂.toks + ([] : List (Str × Value)).length } →
      codeAny c.M A (.compLoop (.ListComp elt (⟨tgt, iter, ifs, 0⟩ :: rest) scope pos) 0 (.ref it) (.ref s₂.heap.objs.size) cenv) (compPost c.M A NoE use Q (.ref s₂.heap.objs.size) H2.objs.size) s₃ := by
    rintro s₃ rfl
    refine codeAny_mono (b s₂.heap.objs.size cenv U _ A _ it F E' R IC (fun a f u => nd a (J.ud a u) f) (fun a f q => nd a (J.gk.dom q) f) (.inr (.inr rfl)) xC) fun r s' y => ?_
    obtain ⟨rfl, sm, k, V', v', e', ρ', os', I'⟩ := y
    obtain ⟨v, hv, r⟩ := I'.var accName _ (hr _)
    have hv' := hsl _ _ _ _ _ r
    have gs : Grow s s' := by
      refine ⟨g.1.trans (Same.trans ⟨h₁, _, rfl⟩ sm), fun b o e => k b o ?_ (k₁ b o (g.2 b o e))⟩
      have e₂ := g.2 b o e
      rintro (q | q | q)
      · rw [hcl2] at q; subst q; rw [fC] at e₂; cases e₂
      · subst q; rw [fD] at e₂; cases e₂
      · exact nd b ⟨o, e⟩ q
    refine h s₂.heap.objs.size H2.objs.size s' V' v (os' accName) gs (fresh_back g fC) (fresh_back g fD) ?_ ?_ (fun a q => v' a (.inl q)) (v' _ (.inr (.inl rfl))) (fun u => I'.uv _ (v' _ (.inr (.inl rfl))) u) (fun a ha => ⟨(I'.own accName _ (hr _) a ha).1, fun q => ?_⟩) (I'.nd accName _ (hr _)) r hv'
    · intro b hb
      cases e : s.heap.get? b with
      | none => rfl
      | some o => exact absurd (Heap.lt_size (g.2 b o e)) (Nat.not_lt.mpr hb)
    · obtain ⟨mC, hm, _⟩ := I'.fr.ns; exact ⟨mC, hcl2 ▸ hm⟩
    · exact (I'.own accName _ (hr _) a ha).2 (.inl (by rw [hcl2]; exact q))
  have loop' := loop _ rfl
  rw [← hcenv] at loop'
  exact codeAny_compStart_list loop' (iter_self xC loop')
theorem oa_inv {h : Heap} {P : Addr → Prop} {a : Addr} {out : List D} {v : Value} {os : List Addr} (r : SlotRep c h P v (.oa a out) os) : ∃ vs, v = .ref a ∧ os = [a] ∧ h.PlainList a vs.toArray ∧ c.Reps h P vs out := by
  generalize hsl : Slot.oa a out = sl at r
  cases r with
  | oa l rs => cases hsl; exact ⟨_, rfl, rfl, l, rs⟩
  | _ => cases hsl
theorem la_inv {h : Heap} {P : Addr → Prop} {a : Addr} {out : List (List (Str × D))} {v : Value} {os : List Addr} (r : SlotRep c h P v (.la a out) os) : ∃ bs, v = .ref a ∧ os = a :: bs ∧ h.PlainList a (bs.map Value.ref).toArray ∧ (∀ b ∈ bs, a < b) ∧ DictsAt c h P bs out := by
  generalize hsl : Slot.la a out = sl at r
  cases r with
  | la l q rs => cases hsl; exact ⟨_, rfl, rfl, l, q, rs⟩
  | _ => cases hsl
/-- how the comprehension's own list is taken over -/
structure Takes (c : Cf) (sl₀ sl : Addr → Slot) (fin : Slot) : Prop where
  start : ∀ (h : Heap) (P : Addr → Prop) a, h.PlainList a #[] → SlotRep c h P (.ref a) (sl₀ a) [a]
  here : ∀ (h : Heap) (P : Addr → Prop) a v os, SlotRep c h P v (sl a) os → v = .ref a
  above : ∀ (h : Heap) (P : Addr → Prop) a v os, SlotRep c h P v (sl a) os → ∀ b ∈ os, a ≤ b
  done : ∀ (h : Heap) (P : Addr → Prop) a v os, SlotRep c h P v (sl a) os → SlotRep c h P v fin os
theorem takes_ol {out : List D} : Takes c (fun a => .oa a []) (fun a => .oa a out) (.ol out) :=
  ⟨fun h P a l => .oa (vs := []) l .nil, fun h P a v os r => (oa_inv r).choose_spec.1, fun h P a v os r b hb => by obtain ⟨vs, _, rfl, _⟩ := oa_inv r; rw [List.mem_singleton.mp hb]; exact Nat.le_refl _,
    fun h P a v os r => by obtain ⟨vs, rfl, rfl, l, rs⟩ := oa_inv r; exact .ol l rs⟩
theorem takes_oi {out : List D} : Takes c (fun a => .oa a []) (fun a => .oa a out) (.oi out) :=
  ⟨fun h P a l => .oa (vs := []) l .nil, fun h P a v os r => (oa_inv r).choose_spec.1, fun h P a v os r b hb => by obtain ⟨vs, _, rfl, _⟩ := oa_inv r; rw [List.mem_singleton.mp hb]; exact Nat.le_refl _,
    fun h P a v os r => by obtain ⟨vs, rfl, rfl, l, rs⟩ := oa_inv r; exact .oi l.isList rs⟩
theorem takes_ld {out : List (List (Str × D))} : Takes c (fun a => .la a []) (fun a => .la a out) (.ld out) :=
  ⟨fun h P a l => .la (bs := []) l (fun _ hb => nomatch hb) .nil, fun h P a v os r => (la_inv r).choose_spec.1, fun h P a v os r b hb => by
      obtain ⟨bs, _, rfl, _, q, _⟩ := la_inv r
      rcases List.mem_cons.mp hb with rfl | hb
      · exact Nat.le_refl _
      · exact Nat.le_of_lt (q b hb),
    fun h P a v os r => by obtain ⟨vs, rfl, rfl, l, _, rs⟩ := la_inv r; exact .ld l.isList rs⟩
theorem SlotRep.pmono {h : Heap} {P P' : Addr → Prop} {v : Value} {sl : Slot} {os : List Addr} (x : SlotRep c h P v sl os) (hp : ∀ b, P b → P' b) : SlotRep c h P' v sl os := x.move (fun _ _ _ e => e) (fun _ _ _ e => e) hp
noncomputable def Comp (c : Cf) (σ : List (Str × NameKind)) (n : Nat) (Γ : Vars) (elt tgt iter : Expr) (ifs : List Expr) (rest : List Comprehension) (scope : Scope) (pos : Pos) (fin : Slot) : Prop :=
  ∃ (sl₀ sl : Addr → Slot) (Γr : Addr → Vars) (ds : List D), Takes c sl₀ sl fin ∧ EvIt c σ n Γ iter false ds ∧
    (∀ Dd, CompL c (relab scope.names σ) n (upd (seen scope.names Γ) accName (sl₀ Dd)) (.ListComp elt (⟨tgt, iter, ifs, 0⟩ :: rest) scope pos) 0 Dd false ds (Γr Dd)) ∧ (∀ Dd, Γr Dd accName = some (sl Dd))
theorem EvO.comp {elt tgt iter : Expr} {ifs : List Expr} {rest : List Comprehension} {scope : Scope} {pos : Pos} {fin : Slot} (B : Comp c σ n Γ elt tgt iter ifs rest scope pos fin) (H : CompOk scope σ)
    (hnm : ∀ x ∈ scope.names, x.2 = .local → scope.names.lookup x.1 = some .local) (hs : ∀ env x, foldedSetIterable iter env x = pure x := by intro _ _; rfl) : EvO c σ n Γ (.ListComp elt (⟨tgt, iter, ifs, 0⟩ :: rest) scope pos) fin :=
  fun env U V A s E R I => by
    obtain ⟨sl₀, sl, Γr, ds, T, a, b, hr⟩ := B
    rw [eval_ListComp]
    refine comp_core (use := none) E R I H hnm T.start a b hr (hs env) (fun Dd C s' V' v os g fC fD above hns hV vC uC ho nd r hv => ?_) T.here
    obtain ⟨mC, hns⟩ := hns
    refine ⟨mC, hns, fun h' hsb => ?_⟩
    subst hv
    refine ⟨⟨g.1.trans ⟨h', _, rfl⟩, fun b o e => hsb.extBut b o (fun q => by subst q; rw [fC] at e; cases e) (g.2 b o e)⟩, os, T.done _ _ _ _ _ (r.move (fun b hb o e => hsb.extBut b o (ho b hb).2 e) (fun b o p e => hsb.extBut b o (fun q => p.2 (q ▸ vC)) e) fun b p => ⟨⟨p.1, fun q => p.2 (hV b q)⟩, fun q => p.2 (ho b q).1⟩), nd,
      fun b hb => above b (T.above _ _ _ _ _ r b hb)⟩
theorem EvE.comp {elt tgt iter : Expr} {ifs : List Expr} {rest : List Comprehension} {scope : Scope} {pos : Pos} {out : List D} (B : Comp c σ n Γ elt tgt iter ifs rest scope pos (.ol out)) (H : CompOk scope σ)
    (hnm : ∀ x ∈ scope.names, x.2 = .local → scope.names.lookup x.1 = some .local) (hs : ∀ env x, foldedSetIterable iter env x = pure x := by intro _ _; rfl) : EvE c σ n Γ m (.ListComp elt (⟨tgt, iter, ifs, 0⟩ :: rest) scope pos) (.list out) :=
  fun env U V A s E R I => wpAny_mono (EvO.comp B H hnm hs env U V A s E R I) (fun v s' y => by
    obtain ⟨g, os, r, nd, fr⟩ := y
    exact ⟨g, frz_ol _ _ _ _ (r.pmono fun b p => ⟨p.1.1, fun _ => p.1.2⟩) fun a ha => fresh_pm I m a (fr a ha)⟩) fun _ _ z => z
/-- does the interpreter store before it lets the comprehension's names go -/
noncomputable def swapB (σ names : List (Str × NameKind)) (y : Str) (l l' : Nat) : Bool := σ.lookup y == some .local && l == l' && !(names.any fun p => p.1 == y && (p.2 == .local || p.2 == .cell))
theorem swaps_eq {elt : Expr} {gens : List Comprehension} {scope : Scope} {pos py : Pos} {y : Str} {line : Nat} {env : Env} (hk : env.scope.kind = .function) (hn : env.scope.names = σ) :
    swapsWith (.ListComp elt gens scope pos) (some (.Name y py)) line env = pure (swapB σ scope.names y py.line pos.line) := by
  show pure (env.blockKind == .function && env.kindOf y == some .local && py.line == pos.line && !(scope.names.any fun (n, k) => n == y && (k == .local || k == .cell))) = _
  have h1 : env.blockKind = .function := by unfold Env.blockKind; rw [hk]; rfl
  have h2 : env.kindOf y = σ.lookup y := by unfold Env.kindOf; rw [hn]
  rw [h1, h2]
  simp only [beq_self_eq_true, Bool.true_and, swapB]
theorem Ex.comp {elt tgt iter : Expr} {ifs : List Expr} {rest : List Comprehension} {scope : Scope} {cpos py pos : Pos} {y : Str} {fin : Slot} (B : Comp c σ n Γ elt tgt iter ifs rest scope cpos fin) (H : CompOk scope σ)
    (hnm : ∀ x ∈ scope.names, x.2 = .local → scope.names.lookup x.1 = some .local) (hy : σ.lookup y = some .local ∨ σ.lookup y = some .cell) (hs : ∀ env x, foldedSetIterable iter env x = pure x := by intro _ _; rfl) :
    Ex c σ n Γ (.Assign [.Name y py] (.ListComp elt (⟨tgt, iter, ifs, 0⟩ :: rest) scope cpos) pos) (.next (upd Γ y fin)) := by
  by_cases hb : swapB σ scope.names y py.line cpos.line = false
  · exact Ex.assign (EvO.comp B H hnm hs) hy fun env hn hk => by rw [swaps_eq hk hn, hb]
  · simp only [Bool.not_eq_false] at hb
    intro env U V A s E R I
    obtain ⟨sl₀, sl, Γr, ds, T, a, b, hr⟩ := B
    rw [exec_Assign_Name_used _ _ _ _ (by rw [swaps_eq E.kind E.names, hb])]
    refine wpAny_bind (wpAny_standAt (wpAny_bind ?_))
    show wpAny _ A (do let _ ← comprehension (.ListComp elt (⟨tgt, iter, ifs, 0⟩ :: rest) scope cpos) scope env _ (newList []) false (eval iter env) (some (PySem.assign (.Name y py) env))) _ _ s
    refine wpAny_bind (wpAny_mono (comp_core (use := some (PySem.assign (.Name y py) env)) (Q := fun _ s' => Left c env U V s (.next (upd Γ y fin)) .next s') E R I H hnm T.start a b hr (hs env) (fun Dd C s' V' v os g fC fD above hns hV vC uC ho nd r hv => ?_) T.here) (fun _ s' l => wpAny_pure (wpAny_pure l)) fun _ _ z => z)
    subst hv
    obtain ⟨mC, hns⟩ := hns
    obtain ⟨ρ, ow, J⟩ := I
    have dC : Dom s'.heap C := by obtain ⟨o, _, _, e, _⟩ := hns; exact ⟨o, e⟩
    have J' : InvAt c env (fun a => U a ∨ a ∈ [C]) V Γ s'.heap ρ ow := J.shut g.2 fun a q => by
      rcases q with q | q
      · exact ⟨.inl q, (J.ud a q).keep g.2⟩
      · obtain rfl := List.mem_singleton.mp q; exact ⟨.inr fC, dC⟩
    have J₀ : InvAt c env (fun a => U a ∨ a ∈ [C]) V Γ s'.heap ρ ow := J'
    show wpAny _ A (PySem.assign (.Name y py) env (.ref Dd)) _ _ s'
    have r' : SlotRep c s'.heap (fun a => Cl (fun a => U a ∨ a ∈ [C]) V a ∧ a ∉ os) (.ref Dd) fin os := T.done _ _ _ _ _ (r.pmono fun b p => ⟨⟨fun q => q.elim p.1 fun q => p.2 (List.mem_singleton.mp q ▸ vC), fun q => p.2 (hV b q)⟩, fun q => p.2 (ho b q).1⟩)
    have fr : ∀ b ∈ os, s.heap.get? b = none := fun b hb => above b (T.above _ _ _ _ _ r b hb)
    refine wpAny_assign_Name (frame_store E J'.fr hy fun s₂ sm F' k => ?_)
    have nfC : ¬ FrameAddr env C := fun q => by obtain ⟨o, e⟩ := J.vd C (J.vf C q); rw [fC] at e; cases e
    -- the store, seen from the state ahead of the comprehension, with C shut out behind it
    have st := J.store (x := y) (h := s'.heap) (h' := s₂.heap) (v := .ref Dd) (sl := fin) (os₁ := os) g.2 (r'.pmono fun b p => ⟨⟨fun q => p.1.1 (.inl q), p.1.2⟩, p.2⟩) nd fr k F'
    refine ⟨mC, ns_at hns fun o e => k C o nfC e, fun h' hsb => ?_⟩
    have kC : ∀ b o, b ≠ C → s₂.heap.get? b = some o → h'.get? b = some o := fun b o hb e => hsb.extBut b o hb e
    refine ⟨(g.1.trans sm).trans ⟨h', _, rfl⟩, fun b o hb e => kC b o (fun q => by subst q; rw [fC] at e; cases e) (k b o (fun f => hb (J.vf b f)) (g.2 b o e)), rfl, (fun a => V a ∨ a ∈ os), ?_, upd ρ y (.ref Dd), (fun z => if z = y then os else ow z), ?_⟩
    · rintro a (q | q)
      · exact .inl q
      · exact .inr (fr a q)
    · have st' : InvAt c env (fun a => U a ∨ a ∈ [C]) (fun a => V a ∨ a ∈ os) (upd Γ y fin) s₂.heap (upd ρ y (.ref Dd)) (fun z => if z = y then os else ow z) := by
        refine { st with var := ?_, uv := ?_, ud := ?_ }
        · intro z sl' e
          by_cases hz : z = y
          · subst hz
            simp only [upd, if_true] at e ⊢; cases e
            refine ⟨_, rfl, r'.move (fun b hb o e => k b o (fun f => by obtain ⟨o', e'⟩ := J.vd b (J.vf b f); rw [fr b hb] at e'; cases e') e) (fun b o p e => k b o (fun f => p.1.2 (J.vf b f)) e) fun a p => ⟨p.1.1, fun q => q.elim p.1.2 p.2⟩⟩
          · simp only [upd, if_neg hz] at e ⊢
            obtain ⟨u, hu, q⟩ := J.var z sl' e
            refine ⟨u, hu, q.live.move (fun b hb o e' => k b o (J.own z sl' e b hb).2 (g.2 b o e')) (fun b o p e => k b o (fun f => p.1.2 (J.vf b f)) (g.2 b o e)) fun a p => ⟨fun q => ?_, fun q => q.elim p.1.2 fun q => by obtain ⟨o, e⟩ := p.2; rw [fr a q] at e; cases e⟩⟩
            rcases q with q | q
            · exact p.1.1 q
            · obtain rfl := List.mem_singleton.mp q; obtain ⟨o, e⟩ := p.2; rw [fC] at e; cases e
        · rintro a (q | q) (u | u)
          · exact J.uv a q u
          · obtain rfl := List.mem_singleton.mp u; obtain ⟨o, e⟩ := J.vd _ q; rw [fC] at e; cases e
          · obtain ⟨o, e⟩ := J.ud a u; rw [fr a q] at e; cases e
          · exact (ho a q).2 (List.mem_singleton.mp u)
        · rintro a (u | u)
          · exact st.ud a u
          · obtain rfl := List.mem_singleton.mp u; obtain ⟨o, e⟩ := dC; exact ⟨o, k _ o nfC e⟩
      exact st'.unshut (fun b o hb e => kC b o (fun q => hb (by simp [q])) e) (fun a ha u => by obtain rfl := List.mem_singleton.mp ha; exact uC u) fun a ha q => by
        obtain rfl := List.mem_singleton.mp ha; obtain ⟨o, e⟩ := J.gk.dom q; rw [fC] at e; cases e
theorem upd_upd {α : Type} {ρ : Str → Option α} {x : Str} {a b : α} : upd (upd ρ x a) x b = upd ρ x b := by
  funext y; unfold upd; split <;> rfl
theorem Left.freeze {env : Env} {U V : Addr → Prop} {s s' : Shared} {f : Flow} {x : Str} {sl : Slot} (l : Left c env U V s (.next Γ) f s') (hΓ : Γ x = some sl)
    (hd : ∀ (h : Heap) (P : Addr → Prop) v as, SlotRep c h P v sl as → (∀ a ∈ as, P a) → c.Rep h P v d) : Left c env U V s (.next (upd Γ x (.fz d))) f s' := by
  obtain ⟨sm, k, e, V', x', ρ, os, I⟩ := l
  exact ⟨sm, k, e, _, fun a q => x' a q.1, _, _, I.freeze hΓ (hd _)⟩
theorem Ex.compF {elt tgt iter : Expr} {ifs : List Expr} {rest : List Comprehension} {scope : Scope} {cpos py pos : Pos} {y : Str} {out : List D} (B : Comp c σ n Γ elt tgt iter ifs rest scope cpos (.ol out)) (H : CompOk scope σ)
    (hnm : ∀ x ∈ scope.names, x.2 = .local → scope.names.lookup x.1 = some .local) (hy : σ.lookup y = some .local ∨ σ.lookup y = some .cell) (hs : ∀ env x, foldedSetIterable iter env x = pure x := by intro _ _; rfl) :
    Ex c σ n Γ (.Assign [.Name y py] (.ListComp elt (⟨tgt, iter, ifs, 0⟩ :: rest) scope cpos) pos) (.next (upd Γ y (.fz (.list out)))) :=
  fun env U V A s E R I => wpAny_mono (Ex.comp B H hnm hy hs env U V A s E R I) (fun f s' l => by
    have := l.freeze (x := y) (sl := .ol out) upd_same frz_ol
    rwa [upd_upd] at this) fun _ _ z => z
end
end Mine
end
-- C3
section
open PySem PyProof.Rows PySem.W
set_option Elab.async false
set_option linter.unusedVariables false
namespace Mine
noncomputable def updL : Vars → List Str → List D → Vars
  | Γ, x :: xs, d :: ds => updL (upd Γ x (.fz d)) xs ds
  | Γ, _, _ => Γ
noncomputable def Sup (Γ Γ' : Vars) : Prop := ∀ x sl, Γ x = some sl → Γ' x = some sl
theorem Sup.refl (Γ : Vars) : Sup Γ Γ := fun _ _ e => e
theorem Sup.trans {Γ Γ' Γ'' : Vars} (a : Sup Γ Γ') (b : Sup Γ' Γ'') : Sup Γ Γ'' := fun x sl e => b x sl (a x sl e)
theorem Sup.upd {Γ Γ' : Vars} (a : Sup Γ Γ') (x : Str) (sl : Slot) : Sup (Mine.upd Γ x sl) (Mine.upd Γ' x sl) := fun y sl' e => by
  unfold Mine.upd at e ⊢
  split at e
  · rename_i h; rw [if_pos h]; exact e
  · rename_i h; rw [if_neg h]; exact a y sl' e
theorem Sup.updL {Γ Γ' : Vars} (a : Sup Γ Γ') (xs : List Str) (ds : List D) : Sup (Mine.updL Γ xs ds) (Mine.updL Γ' xs ds) := by
  induction xs generalizing Γ Γ' ds with
  | nil => exact a
  | cons x xs ih =>
    cases ds with
    | nil => exact a
    | cons d ds => exact ih (a.upd x _) ds
theorem updL_other {Γ : Vars} {xs : List Str} {ds : List D} {y : Str} (h : y ∉ xs) : updL Γ xs ds y = Γ y := by
  induction xs generalizing Γ ds with
  | nil => cases ds <;> rfl
  | cons x xs ih =>
    cases ds with
    | nil => rfl
    | cons d ds =>
      simp only [List.mem_cons, not_or] at h
      show updL (upd Γ x (.fz d)) xs ds y = Γ y
      rw [ih h.2]; unfold upd; rw [if_neg h.1]
section
variable {c : Cf} {σ : List (Str × NameKind)} {n : Nat} {Γ Γ₁ Γ₂ : Vars} {m : Bool} {d d₁ d₂ : D}
theorem AsnC.sub {tgt : Expr} (hs : ∀ x sl, Γ x = some sl → Γ₁ x = some sl) (a : AsnC c σ n Γ tgt d Γ₂) : AsnC c σ n Γ₁ tgt d Γ₂ :=
  fun env U V A s v E R I r => a env U V A s v E R (I.sub hs) r
theorem Tests.sub {ifs : List Expr} {b : Bool} (hs : ∀ x sl, Γ x = some sl → Γ₁ x = some sl) (a : Tests c σ n Γ ifs b) : Tests c σ n Γ₁ ifs b :=
  fun env U V A s E R I => a env U V A s E R (I.sub hs)
theorem CompL.sub {e : Expr} {depth : Nat} {Dd : Addr} {t : Bool} {ds : List D} {Γ' : Vars} (hs : ∀ x sl, Γ x = some sl → Γ₁ x = some sl) (a : CompL c σ n Γ e depth Dd t ds Γ') : CompL c σ n Γ₁ e depth Dd t ds Γ' :=
  fun env U V A s it F E R I hu hG vd x => a env U V A s it F E R (I.sub hs) hu hG vd x
theorem DictsAt.length {h : Heap} {P : Addr → Prop} {bs : List Addr} {dss : List (List (Str × D))} (x : DictsAt c h P bs dss) : bs.length = dss.length := by
  induction x with
  | nil => rfl
  | cons _ _ _ ih => simp [ih]
theorem DictsAt.snoc {h : Heap} {P : Addr → Prop} {bs : List Addr} {dss : List (List (Str × D))} {b : Addr} {kvs : List (Str × Value)} {ds : List (Str × D)} (x : DictsAt c h P bs dss) (sd : c.SDict h b kvs) (r : c.RepsK h P kvs ds) : DictsAt c h P (bs ++ [b]) (dss ++ [ds]) := by
  induction x with
  | nil => exact .cons sd r .nil
  | cons x r _ ih => exact .cons x r ih
/-- a list of new dicts -/
theorem Emit.dict {Dd : Addr} {dss : List (List (Str × D))} {pos : Pos} (hΓ : Γ accName = some (.la Dd dss)) (hsz : dss.length ≤ sizeLine) : Emit c σ n Γ Dd (emitElt (.Dict [] [] pos) Dd) (upd Γ accName (.la Dd (dss ++ [[]]))) :=
  fun env U V A s E R I => by
    have G := I.gk
    obtain ⟨ρ, os, J⟩ := I
    obtain ⟨v, hv, r⟩ := J.var accName _ hΓ
    obtain ⟨bs, rfl, hos, hl, hlt, ds⟩ := la_inv r
    refine wpAny_bind (wpAny_Dict_empty (wpAny_bind ?_))
    have kp := push_keep s.heap { cls := .type "dict", data := .dict #[] }
    have hlen : bs.length = dss.length := ds.length
    refine wpAny_list_append_plain (hl.at fun o e => kp _ o e) (fun h' hl' hs' => wpAny_pure ?_) (by simp [hlen]; exact hsz)
    have k : ∀ b o, b ≠ Dd → (s.heap.push { cls := .type "dict", data := .dict #[] }).get? b = some o → h'.get? b = some o := fun b o hb e => hs'.extBut b o hb e
    have mD : Dd ∈ os accName := by rw [hos]; exact List.mem_cons_self
    have vl : V Dd := (J.own accName _ hΓ Dd mD).1
    have dD : Dom s.heap Dd := J.vd _ vl
    have fb : s.heap.get? s.heap.objs.size = none := heap_size_none _
    have nb : ∀ a, Dom s.heap a → a ≠ s.heap.objs.size := fun a ⟨o, e⟩ q => by subst q; rw [fb] at e; cases e
    have sd : c.SDict h' s.heap.objs.size [] := dictOf_at (newDict_s G) fun o e => k _ o (Ne.symm (nb _ dD)) e
    have ke : ∀ b o, b ≠ Dd → s.heap.get? b = some o → h'.get? b = some o := fun b o hb e => k b o hb (kp b o e)
    have dm : ∀ a, Dom s.heap a → Dom h' a := fun a ⟨o, e⟩ => by
      by_cases hb : a = Dd
      · subst hb; obtain ⟨_, e⟩ := hl'; exact ⟨_, e⟩
      · exact ⟨o, ke a o hb e⟩
    refine ⟨⟨h', _, rfl⟩, fun b o hb e => ke b o (fun q => hb (.inr q)) e, (fun a => V a ∨ a = s.heap.objs.size), fun _ q => .inl q, fun a q => q.elim .inl fun q => .inr (q ▸ fb), ρ, (fun y => if y = accName then Dd :: (bs ++ [s.heap.objs.size]) else os y), ?_⟩
    have bm : ∀ b ∈ bs, b ∈ os accName := fun b hb => by rw [hos]; exact List.mem_cons_of_mem _ hb
    have fa := (J.own accName _ hΓ Dd mD).2
    have back : ∀ {x sl'}, upd Γ accName (.la Dd (dss ++ [[]])) x = some sl' → x ≠ accName → Γ x = some sl' := fun {x sl'} e hx => by simpa only [upd, if_neg hx] using e
    have nfs : ¬ FrameAddr env s.heap.objs.size := fun q => nb _ (J.vd _ (J.vf _ q)) rfl
    refine ⟨⟨?_, ?_⟩, ?_, ?_, ?_, ?_, fun a q => .inl (J.vf a q), ?_, ?_, fun a u => dm a (J.ud a u), ?_, J.gk.keepV fun b o g e => ke b o (fun q => J.gb Dd vl (q ▸ g)) e⟩
    · obtain ⟨mm, hm, hr⟩ := J.fr.ns
      exact ⟨mm, ns_at hm fun o e => ke _ o (fun q => fa (.inl q.symm)) e, hr⟩
    · intro y b hb
      obtain ⟨o, e, q⟩ := J.fr.cell y b hb
      exact ⟨o, ke b o (fun q => fa (.inr ⟨y, q ▸ hb⟩)) e, q⟩
    · intro x sl' e
      by_cases hx : x = accName
      · subst hx
        simp only [upd, if_true] at e ⊢; cases e
        refine ⟨_, hv, .la (bs := bs ++ [s.heap.objs.size]) (by simpa using hl') ?_ ?_⟩
        · intro b hb
          rcases List.mem_append.mp hb with hb | hb
          · exact hlt b hb
          · rw [List.mem_singleton.mp hb]; obtain ⟨o, e⟩ := dD; exact Heap.lt_size e
        · have nd := J.nd accName _ hΓ
          rw [hos] at nd
          have nDb : ∀ b ∈ bs, b ≠ Dd := fun b hb q => (List.nodup_cons.mp nd).1 (q ▸ hb)
          have d1 := ds.live.move (h' := h') (P' := Cl U (fun a => V a ∨ a = s.heap.objs.size)) (fun b hb o e => ke b o (nDb b hb) e) (fun b o p e => ke b o (fun q => p.1.2 (q ▸ vl)) e) fun a p => ⟨p.1.1, fun q => q.elim p.1.2 (nb a p.2)⟩
          exact d1.snoc sd .nil
      · simp only [if_neg hx]
        have e := back e hx
        obtain ⟨u, hu, q⟩ := J.var x sl' e
        exact ⟨u, hu, q.live.move (fun b hb o e' => ke b o (fun q => J.dis accName _ x sl' hΓ e hx Dd mD (q ▸ hb)) e') (fun b o p e => ke b o (fun q => p.1.2 (q ▸ vl)) e) fun a p => ⟨p.1.1, fun q => q.elim p.1.2 (nb a p.2)⟩⟩
    · intro x sl' e
      by_cases hx : x = accName
      · simp only [hx, if_true]
        have nd := J.nd accName _ hΓ
        rw [hos] at nd
        obtain ⟨n1, n2⟩ := List.nodup_cons.mp nd
        refine List.nodup_cons.mpr ⟨fun q => ?_, List.nodup_append.mpr ⟨n2, by simp, fun a ha b hb => ?_⟩⟩
        · rcases List.mem_append.mp q with q | q
          · exact n1 q
          · exact nb _ dD (List.mem_singleton.mp q)
        · rw [List.mem_singleton.mp hb]; exact nb a (J.vd a (J.own accName _ hΓ a (bm a ha)).1)
      · simp only [if_neg hx]; exact J.nd x sl' (back e hx)
    · intro x sl' e a ha
      by_cases hx : x = accName
      · simp only [hx, if_true] at ha
        rcases List.mem_cons.mp ha with rfl | ha
        · exact ⟨.inl vl, fa⟩
        · rcases List.mem_append.mp ha with ha | ha
          · exact ⟨.inl (J.own accName _ hΓ a (bm a ha)).1, (J.own accName _ hΓ a (bm a ha)).2⟩
          · rw [List.mem_singleton.mp ha]; exact ⟨.inr rfl, nfs⟩
      · simp only [if_neg hx] at ha; exact ⟨.inl (J.own x sl' (back e hx) a ha).1, (J.own x sl' (back e hx) a ha).2⟩
    · intro x sl' y sl'' e e' hyx a ha
      by_cases hx : x = accName
      · have hy : y ≠ accName := fun q => hyx (q.trans hx.symm)
        simp only [hx, if_true] at ha
        simp only [if_neg hy]
        have e2 := back e' hy
        rcases List.mem_cons.mp ha with q | ha
        · rw [q]; exact J.dis accName _ y sl'' hΓ e2 hy _ mD
        · rcases List.mem_append.mp ha with ha | ha
          · exact J.dis accName _ y sl'' hΓ e2 hy _ (bm a ha)
          · rw [List.mem_singleton.mp ha]; intro q; exact nb _ (J.vd _ (J.own y sl'' e2 _ q).1) rfl
      · simp only [if_neg hx] at ha
        have e2 := back e hx
        by_cases hy : y = accName
        · simp only [hy, if_true]
          intro q
          rcases List.mem_cons.mp q with q | q
          · exact J.dis accName _ x sl' hΓ e2 hx _ mD (q ▸ ha)
          · rcases List.mem_append.mp q with q | q
            · exact J.dis accName _ x sl' hΓ e2 hx _ (bm a q) ha
            · exact nb _ (J.vd _ (J.own x sl' e2 _ ha).1) (List.mem_singleton.mp q)
        · simp only [if_neg hy]; exact J.dis x sl' y sl'' e2 (back e' hy) hyx a ha
    · rintro a (q | q) u
      · exact J.uv a q u
      · exact nb a (J.ud a u) q
    · rintro a (q | q)
      · exact dm a (J.vd a q)
      · subst q; exact sd.dom
    · rintro a (q | q) g
      · exact J.gb a q g
      · exact nb a (J.gk.dom g) q
/-- [{} for x in ..] -/
theorem Comp.dicts {iter : Expr} {scope : Scope} {pos px dp : Pos} {x : Str} {ds : List D} (a : EvIt c σ n Γ iter false ds) (hx : scope.names.lookup x = some .local) (H : (scope.names.lookup accName).isNone = true) (hsz : ds.length ≤ sizeLine) :
    Comp c σ n Γ (.Dict [] [] dp) (.Name x px) iter [] [] scope pos (.ld (List.replicate ds.length [])) := by
  have H' := Option.isNone_iff_eq_none.mp H
  have hxa : accName ≠ x := fun q => by subst q; rw [H'] at hx; cases hx
  have key : ∀ (ds : List D) (out : List (List (Str × D))) (Γ' : Vars) (Dd : Addr), Γ' accName = some (.la Dd out) → out.length + ds.length ≤ sizeLine →
      ∃ Γ'', CompL c (relab scope.names σ) n Γ' (.ListComp (.Dict [] [] dp) [⟨.Name x px, iter, [], 0⟩] scope pos) 0 Dd false ds Γ'' ∧ Γ'' accName = some (.la Dd (out ++ List.replicate ds.length [])) := by
    intro ds
    induction ds with
    | nil => intro out Γ' Dd h _; exact ⟨Γ', CompL.nil turn_one, by simpa using h⟩
    | cons d ds ih =>
      intro out Γ' Dd h hsz
      simp only [List.length_cons] at hsz
      have h1 : upd Γ' x (.fz d) accName = some (.la Dd out) := upd_ne hxa h
      obtain ⟨Γ'', a1, a2⟩ := ih (out ++ [[]]) (upd (upd Γ' x (.fz d)) accName (.la Dd (out ++ [[]]))) Dd upd_same (by simp; lia)
      exact ⟨Γ'', CompL.cons turn_one (b := true) (AsnC.name (relab_local hx)) Tests.nil (fun _ => Emit.dict h1 (by lia)) (fun q => by cases q) a1, by simpa [List.replicate_succ] using a2⟩
  have k := fun Dd => key ds [] (upd (seen scope.names Γ) accName (.la Dd [])) Dd upd_same (by simpa using hsz)
  exact ⟨_, _, fun Dd => (k Dd).choose, ds, takes_ld, a, fun Dd => (k Dd).choose_spec.1, fun Dd => by simpa using (k Dd).choose_spec.2⟩
end
end Mine
end
-- C4
section
open PySem PyProof.Rows PySem.W
set_option Elab.async false
set_option linter.unusedVariables false
namespace Mine
section
variable {c : Cf} {σ : List (Str × NameKind)} {n : Nat} {Γ Γ₁ Γ₂ : Vars} {m : Bool} {d d₁ d₂ : D}
theorem tok_grow {s : Shared} {k : Nat} : Grow s { s with toks := k } := ⟨⟨s.heap, k, rfl⟩, fun _ _ e => e⟩
-- ints
theorem bin_add {a b : Int} : BinV c .Add (.int a) (.int b) (.int (a + b)) := fun P A s v₁ v₂ R hf r₁ r₂ => by
  (obtain ⟨_, rfl⟩ := r₁.invInt; (obtain ⟨_, rfl⟩ := r₂.invInt; exact PyProof.Rows.add_int ⟨tok_grow, .int⟩))
theorem bin_addb {a : Int} {b : Bool} : BinV c .Add (.int a) (.bool b) (.int (a + if b then 1 else 0)) := fun P A s v₁ v₂ R hf r₁ r₂ => by
  (obtain ⟨_, rfl⟩ := r₁.invInt; (obtain rfl := r₂.invBool; exact add_int_bool ⟨tok_grow, .int⟩))
theorem bin_sub {a b : Int} : BinV c .Sub (.int a) (.int b) (.int (a - b)) := fun P A s v₁ v₂ R hf r₁ r₂ => by
  (obtain ⟨_, rfl⟩ := r₁.invInt; (obtain ⟨_, rfl⟩ := r₂.invInt; exact PyProof.Rows.sub_int ⟨tok_grow, .int⟩))
theorem bin_mul {a b : Int} (h : IntMulOk a b) : BinV c .Mult (.int a) (.int b) (.int (a * b)) := fun P A s v₁ v₂ R hf r₁ r₂ => by
  (obtain ⟨_, rfl⟩ := r₁.invInt; (obtain ⟨_, rfl⟩ := r₂.invInt; exact PyProof.Rows.mul_int ⟨tok_grow, .int⟩ h))
theorem bin_mod {a b : Int} (h : b ≠ 0) : BinV c .Mod (.int a) (.int b) (.int (a.fmod b)) := fun P A s v₁ v₂ R hf r₁ r₂ => by
  (obtain ⟨_, rfl⟩ := r₁.invInt; (obtain ⟨_, rfl⟩ := r₂.invInt; exact PyProof.Rows.mod_int' h ⟨tok_grow, .int⟩))
theorem bin_div {a b : Int} (h : b ≠ 0) (hp : Builtin.divisionGoesByPylong a b = false) : BinV c .FloorDiv (.int a) (.int b) (.int (a.fdiv b)) := fun P A s v₁ v₂ R hf r₁ r₂ => by
  (obtain ⟨_, rfl⟩ := r₁.invInt; (obtain ⟨_, rfl⟩ := r₂.invInt; exact PyProof.Rows.floordiv_int h ⟨tok_grow, .int⟩ (.inl hp)))
theorem bin_pow {a b : Int} (h : 0 ≤ b) (hsz : (Builtin.Int.intBits a : Int) * b ≤ 2 ^ 27) : BinV c .Pow (.int a) (.int b) (.int (a ^ b.toNat)) := fun P A s v₁ v₂ R hf r₁ r₂ => by
  (obtain ⟨_, rfl⟩ := r₁.invInt; (obtain ⟨_, rfl⟩ := r₂.invInt; exact PyProof.Rows.pow_int h hsz ⟨tok_grow, .int⟩))
theorem un_neg {a : Int} : UnV c .USub (.int a) (.int (-a)) := fun P A s v R r => by
  (obtain ⟨_, rfl⟩ := r.invInt; exact PyProof.Rows.neg_int ⟨tok_grow, .int⟩)
-- texts
theorem bin_str {x y : Str} (h : x.length + y.length ≤ sizeLine) : BinV c .Add (.str x) (.str y) (.str (x ++ y)) := fun P A s v₁ v₂ R hf r₁ r₂ => by
  (obtain ⟨_, rfl⟩ := r₁.invStr; (obtain ⟨_, rfl⟩ := r₂.invStr; exact PyProof.Rows.add_str (fun t' tk => ⟨tok_grow, .str⟩) h))
-- comparisons
theorem cmp_int_eq {a b : Int} : CmpV c .Eq (.int a) (.int b) (a == b) := fun P A s v₁ v₂ R G r₁ r₂ => by
  (obtain ⟨_, rfl⟩ := r₁.invInt; (obtain ⟨_, rfl⟩ := r₂.invInt; exact PyProof.Rows.eq_int ⟨.refl s, rfl⟩))
theorem cmp_int_ne {a b : Int} : CmpV c .NotEq (.int a) (.int b) (a != b) := fun P A s v₁ v₂ R G r₁ r₂ => by
  (obtain ⟨_, rfl⟩ := r₁.invInt; (obtain ⟨_, rfl⟩ := r₂.invInt; exact PyProof.Rows.ne_int ⟨.refl s, rfl⟩))
theorem cmp_int_lt {a b : Int} : CmpV c .Lt (.int a) (.int b) (decide (a < b)) := fun P A s v₁ v₂ R G r₁ r₂ => by
  (obtain ⟨_, rfl⟩ := r₁.invInt; (obtain ⟨_, rfl⟩ := r₂.invInt; exact PyProof.Rows.lt_int ⟨.refl s, rfl⟩))
theorem cmp_int_gt {a b : Int} : CmpV c .Gt (.int a) (.int b) (decide (b < a)) := fun P A s v₁ v₂ R G r₁ r₂ => by
  (obtain ⟨_, rfl⟩ := r₁.invInt; (obtain ⟨_, rfl⟩ := r₂.invInt; exact PyProof.Rows.gt_int ⟨.refl s, rfl⟩))
theorem cmp_int_le {a b : Int} : CmpV c .LtE (.int a) (.int b) (decide (a ≤ b)) := fun P A s v₁ v₂ R G r₁ r₂ => by
  (obtain ⟨_, rfl⟩ := r₁.invInt; (obtain ⟨_, rfl⟩ := r₂.invInt; exact PyProof.Rows.le_int ⟨.refl s, rfl⟩))
theorem cmp_int_ge {a b : Int} : CmpV c .GtE (.int a) (.int b) (decide (b ≤ a)) := fun P A s v₁ v₂ R G r₁ r₂ => by
  (obtain ⟨_, rfl⟩ := r₁.invInt; (obtain ⟨_, rfl⟩ := r₂.invInt; exact PyProof.Rows.ge_int ⟨.refl s, rfl⟩))
theorem cmp_str_eq {x y : Str} : CmpV c .Eq (.str x) (.str y) (x == y) := fun P A s v₁ v₂ R G r₁ r₂ => by
  (obtain ⟨_, rfl⟩ := r₁.invStr; (obtain ⟨_, rfl⟩ := r₂.invStr; exact PyProof.Rows.eq_str ⟨.refl s, rfl⟩))
theorem cmp_str_ne {x y : Str} : CmpV c .NotEq (.str x) (.str y) (x != y) := fun P A s v₁ v₂ R G r₁ r₂ => by
  (obtain ⟨_, rfl⟩ := r₁.invStr; (obtain ⟨_, rfl⟩ := r₂.invStr; exact PyProof.Rows.ne_str ⟨.refl s, rfl⟩))
theorem cmp_isnot {a b : Bool} : CmpV c .IsNot (.bool a) (.bool b) (a != b) := fun P A s v₁ v₂ R G r₁ r₂ => by
  (obtain rfl := r₁.invBool; (obtain rfl := r₂.invBool; exact wpAny_isNot_plain rfl ⟨.refl s, by cases a <;> cases b <;> rfl⟩))
theorem tru_bool {b : Bool} : TruV c (.bool b) b := fun P A s v R r => by
  (obtain rfl := r.invBool; exact wpAny_truthy_bool ⟨.refl s, rfl⟩)
theorem tru_int {a : Int} : TruV c (.int a) (a != 0) := fun P A s v R r => by
  (obtain ⟨_, rfl⟩ := r.invInt; exact PyProof.Rows.truthy_int ⟨.refl s, rfl⟩)
-- equality of like data, within containers
theorem eq_str_at {A : Around} {s : Shared} {x y : Str} {t u : Tok} : SeqAt.EqAt A s (.str x t) (.str y u) (x == y) := fun prog w E Q h => wpAny_eqBool_str (by
  have : decide (x = y) = (x == y) := by cases hb : (x == y) with
    | true => exact decide_eq_true (beq_iff_eq.mp hb)
    | false => exact decide_eq_false (beq_eq_false_iff_ne.mp hb)
  rw [this]; exact h)
/-- data of one plain kind, compared -/
inductive Flat2 : D → D → Bool → Prop
  | int {a b : Int} : Flat2 (.int a) (.int b) (a == b)
  | str {a b : Str} : Flat2 (.str a) (.str b) (a == b)
theorem Flat2.at {A : Around} {s : Shared} {P : Addr → Prop} {v₁ v₂ : Value} {b : Bool} (x : Flat2 d₁ d₂ b) (r₁ : c.Rep s.heap P v₁ d₁) (r₂ : c.Rep s.heap P v₂ d₂) : SeqAt.EqAt A s v₁ v₂ b := by
  cases x with
  | int => (obtain ⟨_, rfl⟩ := r₁.invInt; (obtain ⟨_, rfl⟩ := r₂.invInt; exact SeqAt.EqAt.int_int _ _ _ _))
  | str => (obtain ⟨_, rfl⟩ := r₁.invStr; (obtain ⟨_, rfl⟩ := r₂.invStr; exact eq_str_at))
theorem ints_get {h : Heap} {P : Addr → Prop} {vs : List Value} {xs : List Int} (r : c.Reps h P vs (xs.map D.int)) {j : Nat} (hj : j < vs.length) : ∃ t, vs[j] = .int (xs.getD j 0) t := by
  have hl := r.length
  obtain ⟨d, e, rv⟩ := r.get' (i := j) (v := vs[j]) (by simp [hj])
  rw [List.getElem?_map] at e
  have hj' : j < xs.length := by simp at hl; lia
  rw [List.getElem?_eq_getElem hj'] at e
  simp only [Option.map_some, Option.some.injEq] at e
  subst e
  generalize hv : vs[j] = v at rv
  (obtain ⟨t, rfl⟩ := rv.invInt; exact ⟨t, by simp [hj']⟩)
theorem strs_get {h : Heap} {P : Addr → Prop} {vs : List Value} {xs : List Str} (r : c.Reps h P vs (xs.map D.str)) {j : Nat} (hj : j < vs.length) (d₀ : Str) : ∃ t, vs[j] = .str (xs.getD j d₀) t := by
  have hl := r.length
  obtain ⟨d, e, rv⟩ := r.get' (i := j) (v := vs[j]) (by simp [hj])
  rw [List.getElem?_map] at e
  have hj' : j < xs.length := by simp at hl; lia
  rw [List.getElem?_eq_getElem hj'] at e
  simp only [Option.map_some, Option.some.injEq] at e
  subst e
  generalize hv : vs[j] = v at rv
  (obtain ⟨t, rfl⟩ := rv.invStr; exact ⟨t, by simp [hj']⟩)
theorem list_eq_all {α : Type} [BEq α] [LawfulBEq α] (xs ys : List α) (d₀ : α) (h : xs.length = ys.length) : ((List.range xs.length).all fun j => xs.getD j d₀ == ys.getD j d₀) = (xs == ys) := by
  rw [Bool.eq_iff_iff, List.all_eq_true, beq_iff_eq]
  constructor
  · intro hh
    apply List.ext_getElem h
    intro i h1 h2
    have := hh i (List.mem_range.mpr h1)
    simpa [h1, h2] using this
  · rintro rfl; intro j _; exact beq_self_eq_true _
theorem list_ne_len {α : Type} [BEq α] [LawfulBEq α] {xs ys : List α} (h : xs.length ≠ ys.length) : (xs == ys) = false := by
  rw [beq_eq_false_iff_ne]; rintro rfl; exact h rfl
theorem cmp_strs_eq {xs ys : List Str} : CmpV c .Eq (.list (xs.map D.str)) (.list (ys.map D.str)) (xs == ys) := fun P A s v₁ v₂ R G r₁ r₂ => by
  obtain ⟨l, vs, rfl, hl, p, rs⟩ := r₁.invList
  obtain ⟨l', vs', rfl, hl', p', rs'⟩ := r₂.invList
  have e1 : vs.length = xs.length := by simpa using rs.length
  have e2 : vs'.length = ys.length := by simpa using rs'.length
  by_cases hs : xs.length = ys.length
  · refine SeqAt.eq_listAt hl hl' (by simp [e1, e2, hs]) R.unit (e := fun j => xs.getD j ⟨#[]⟩ == ys.getD j ⟨#[]⟩) (fun j h1 h2 => ?_) ⟨.refl s, ?_⟩
    · have h1' : j < vs.length := by simpa using h1
      have h2' : j < vs'.length := by simpa using h2
      obtain ⟨t, e⟩ := strs_get rs h1' ⟨#[]⟩
      obtain ⟨t', e'⟩ := strs_get rs' h2' ⟨#[]⟩
      simp only [List.getElem_toArray]
      rw [e, e']
      exact eq_str_at
    · rw [List.size_toArray, e1, list_eq_all xs ys ⟨#[]⟩ hs]
  · refine SeqAt.eq_list_lengthsAt hl hl' (by simpa [e1, e2] using hs) R.unit ⟨.refl s, ?_⟩
    rw [list_ne_len hs]
theorem cmp_strs_ne {xs ys : List Str} : CmpV c .NotEq (.list (xs.map D.str)) (.list (ys.map D.str)) (xs != ys) := fun P A s v₁ v₂ R G r₁ r₂ => by
  obtain ⟨l, vs, rfl, hl, p, rs⟩ := r₁.invList
  obtain ⟨l', vs', rfl, hl', p', rs'⟩ := r₂.invList
  have e1 : vs.length = xs.length := by simpa using rs.length
  have e2 : vs'.length = ys.length := by simpa using rs'.length
  by_cases hs : xs.length = ys.length
  · refine SeqAt.RcNeAt.lists hl hl' (by simp [e1, e2, hs]) R.unit (e := fun j => xs.getD j ⟨#[]⟩ == ys.getD j ⟨#[]⟩) (fun j h1 h2 => ?_) _ _ _ _ ⟨.refl s, ?_⟩
    · have h1' : j < vs.length := by simpa using h1
      have h2' : j < vs'.length := by simpa using h2
      obtain ⟨t, e⟩ := strs_get rs h1' ⟨#[]⟩
      obtain ⟨t', e'⟩ := strs_get rs' h2' ⟨#[]⟩
      simp only [List.getElem_toArray]
      rw [e, e']
      exact eq_str_at
    · rw [List.size_toArray, e1, list_eq_all xs ys ⟨#[]⟩ hs]; rfl
  · refine SeqAt.RcNeAt.lists_lengths hl hl' (by simpa [e1, e2] using hs) R.unit _ _ _ _ ⟨.refl s, ?_⟩
    have := list_ne_len hs
    simp only [bne, this]; rfl
theorem cmp_ints_eq {xs ys : List Int} : CmpV c .Eq (.list (xs.map D.int)) (.list (ys.map D.int)) (xs == ys) := fun P A s v₁ v₂ R G r₁ r₂ => by
  obtain ⟨l, vs, rfl, hl, p, rs⟩ := r₁.invList
  obtain ⟨l', vs', rfl, hl', p', rs'⟩ := r₂.invList
  have e1 : vs.length = xs.length := by simpa using rs.length
  have e2 : vs'.length = ys.length := by simpa using rs'.length
  by_cases hs : xs.length = ys.length
  · refine SeqAt.eq_listAt hl hl' (by simp [e1, e2, hs]) R.unit (e := fun j => xs.getD j 0 == ys.getD j 0) (fun j h1 h2 => ?_) ⟨.refl s, ?_⟩
    · have h1' : j < vs.length := by simpa using h1
      have h2' : j < vs'.length := by simpa using h2
      obtain ⟨t, e⟩ := ints_get rs h1'
      obtain ⟨t', e'⟩ := ints_get rs' h2'
      simp only [List.getElem_toArray]
      rw [e, e']
      exact SeqAt.EqAt.int_int _ _ _ _
    · rw [List.size_toArray, e1, list_eq_all xs ys 0 hs]
  · refine SeqAt.eq_list_lengthsAt hl hl' (by simpa [e1, e2] using hs) R.unit ⟨.refl s, ?_⟩
    rw [list_ne_len hs]
theorem cmp_ints_ne {xs ys : List Int} : CmpV c .NotEq (.list (xs.map D.int)) (.list (ys.map D.int)) (xs != ys) := fun P A s v₁ v₂ R G r₁ r₂ => by
  obtain ⟨l, vs, rfl, hl, p, rs⟩ := r₁.invList
  obtain ⟨l', vs', rfl, hl', p', rs'⟩ := r₂.invList
  have e1 : vs.length = xs.length := by simpa using rs.length
  have e2 : vs'.length = ys.length := by simpa using rs'.length
  by_cases hs : xs.length = ys.length
  · refine SeqAt.RcNeAt.lists hl hl' (by simp [e1, e2, hs]) R.unit (e := fun j => xs.getD j 0 == ys.getD j 0) (fun j h1 h2 => ?_) _ _ _ _ ⟨.refl s, ?_⟩
    · have h1' : j < vs.length := by simpa using h1
      have h2' : j < vs'.length := by simpa using h2
      obtain ⟨t, e⟩ := ints_get rs h1'
      obtain ⟨t', e'⟩ := ints_get rs' h2'
      simp only [List.getElem_toArray]
      rw [e, e']
      exact SeqAt.EqAt.int_int _ _ _ _
    · rw [List.size_toArray, e1, list_eq_all xs ys 0 hs]; rfl
  · refine SeqAt.RcNeAt.lists_lengths hl hl' (by simpa [e1, e2] using hs) R.unit _ _ _ _ ⟨.refl s, ?_⟩
    have := list_ne_len hs
    simp only [bne, this]; rfl
-- membership
theorem cmp_in_ints {a : Int} {xs : List Int} : CmpV c .In (.int a) (.list (xs.map D.int)) (xs.contains a) := fun P A s v₁ v₂ R G r₁ r₂ => by
  obtain ⟨t, rfl⟩ := r₁.invInt
  obtain ⟨l, vs, rfl, hl, p, rs⟩ := r₂.invList
  refine SeqAt.in_listAt (fun v => match v with | .int i _ => i == a | _ => false) hl (fun y hy => ?_) ⟨.refl s, ?_⟩
  · obtain ⟨j, hj, rfl⟩ := Array.mem_iff_getElem.mp hy
    obtain ⟨t', e⟩ := ints_get rs (by simpa using hj)
    simp only [List.getElem_toArray]; rw [e]; exact SeqAt.EqAt.int_int _ _ _ _
  · congr 1
    have : ∀ (vs : List Value) (xs : List Int), c.Reps s.heap P vs (xs.map D.int) → (vs.any fun v => match v with | .int i _ => i == a | _ => false) = xs.contains a := by
      intro vs xs
      induction xs generalizing vs with
      | nil => intro r; cases r; rfl
      | cons x xs ih =>
        intro r
        obtain ⟨_, _, rfl, rv, rr⟩ := r.invCons
        obtain ⟨_, rfl⟩ := rv.invInt
        rw [List.any_cons, ih _ rr, List.contains_cons, Bool.beq_comm]
    rw [← this vs xs rs]; simp
theorem any_strs {h : Heap} {P : Addr → Prop} {a : Str} : ∀ (vs : List Value) (xs : List Str), c.Reps h P vs (xs.map D.str) → (vs.any fun v => match v with | .str i _ => i == a | _ => false) = xs.contains a := by
  intro vs xs
  induction xs generalizing vs with
  | nil => intro r; cases r; rfl
  | cons x xs ih =>
    intro r
    obtain ⟨_, _, rfl, rv, rr⟩ := r.invCons
    obtain ⟨_, rfl⟩ := rv.invStr
    rw [List.any_cons, ih _ rr, List.contains_cons, Bool.beq_comm]
theorem cmp_notin_strs {a : Str} {xs : List Str} : CmpV c .NotIn (.str a) (.list (xs.map D.str)) (!xs.contains a) := fun P A s v₁ v₂ R G r₁ r₂ => by
  obtain ⟨t, rfl⟩ := r₁.invStr
  obtain ⟨l, vs, rfl, hl, p, rs⟩ := r₂.invList
  refine SeqAt.notIn_listAt (fun v => match v with | .str i _ => i == a | _ => false) hl (fun y hy => ?_) ⟨.refl s, ?_⟩
  · obtain ⟨j, hj, rfl⟩ := Array.mem_iff_getElem.mp hy
    obtain ⟨t', e⟩ := strs_get rs (by simpa using hj) ⟨#[]⟩
    simp only [List.getElem_toArray]; rw [e]; exact eq_str_at
  · congr 1
    rw [← any_strs vs xs rs]; simp
theorem cmp_in_dict {k : Str} {kvs : List (Str × D)} : CmpV c .In (.str k) (.dict kvs) (dget kvs k).isSome := fun P A s v₁ v₂ R G r₁ r₂ => by
  obtain ⟨t, rfl⟩ := r₁.invStr
  obtain ⟨l, vs, rfl, hl, p, rs⟩ := r₂.invDict
  refine wpAny_in_of (knd := strKind c.prog c.w) (k := k) (by simp [PySem.strKind, Value.isStrOf]) hl.2 hl.1.mapOf ⟨tok_grow, ?_⟩
  cases e : dget kvs k with
  | none => rw [rs.get_none e]; rfl
  | some d => obtain ⟨v, e', _⟩ := rs.get e; rw [e']; rfl
-- items
theorem sub_list {ds : List D} {k : Int} (h0 : 0 ≤ k) (hfit : k < 2 ^ 63) (hg : ds[k.toNat]? = some d) : SubV c (.list ds) (.int k) d := fun P s v₁ v₂ r₁ r₂ => by
  obtain ⟨_, rfl⟩ := r₂.invInt
  obtain ⟨l, vs, rfl, hl, p, rs⟩ := r₁.invList
  obtain ⟨u, e, y⟩ := rs.get hg
  exact ⟨"list", _, hl.typeIs, slot_list_getitem.lookup, fun A R => wpAny_getItem_list hl h0 hfit (by simpa using e) ⟨.refl s, y⟩⟩
theorem sub_list_last {ds : List D} (hg : ds.getLast? = some d) (hsz : ds.length < 2 ^ 62) : SubV c (.list ds) (.int (-1)) d := fun P s v₁ v₂ r₁ r₂ => by
  obtain ⟨_, rfl⟩ := r₂.invInt
  obtain ⟨l, vs, rfl, hl, p, rs⟩ := r₁.invList
  rw [List.getLast?_eq_getElem?] at hg
  obtain ⟨u, e, y⟩ := rs.get hg
  have hl' := rs.length
  have hpos : 0 < ds.length := by
    cases ds with
    | nil => simp at hg
    | cons _ _ => simp
  refine ⟨"list", _, hl.typeIs, slot_list_getitem.lookup, fun A R => wpAny_getItem_list_neg hl (by decide) (by rw [List.size_toArray]; lia) (by decide) ?_ ⟨.refl s, y⟩⟩
  rw [List.size_toArray, hl']
  have : ((-1 : Int) + (ds.length : Nat)).toNat = ds.length - 1 := by lia
  rw [this]; simpa using e
theorem sub_dict {kvs : List (Str × D)} {k : Str} (hg : dget kvs k = some d) : SubV c (.dict kvs) (.str k) d := fun P s v₁ v₂ r₁ r₂ => by
  obtain ⟨t, rfl⟩ := r₂.invStr
  obtain ⟨l, vs, rfl, hl, p, rs⟩ := r₁.invDict
  obtain ⟨u, e, y⟩ := rs.get hg
  exact ⟨"dict", _, hl.1.typeIs, slot_dict_getitem.lookup, fun A R => wpAny_getItem_of (knd := strKind c.prog c.w) (k := k) (by simp [PySem.strKind, Value.isStrOf]) hl.1.mapOf e ⟨tok_grow, y⟩⟩
end
end Mine
end
-- C5
section
open PySem PyProof.Rows PySem.W
set_option Elab.async false
set_option linter.unusedVariables false
namespace Mine
section
variable {c : Cf} {σ : List (Str × NameKind)} {n : Nat} {Γ Γ₁ Γ₂ : Vars} {m : Bool} {d d₁ d₂ : D}
theorem push_grow {s : Shared} {o : Obj} {k : Nat} : Grow s { s with heap := s.heap.push o, toks := k } := ⟨⟨_, _, rfl⟩, push_keep _ _⟩
theorem grow_mk {s : Shared} {h' : Heap} {k : Nat} (q : ∀ b o, s.heap.get? b = some o → h'.get? b = some o) : Grow s { s with heap := h', toks := k } := ⟨⟨_, _, rfl⟩, q⟩
theorem rep_list_new {h : Heap} {P : Addr → Prop} {vs : List Value} {ds : List D} {k : Nat} (p : P h.objs.size) (r : c.Reps h P vs ds) : c.Rep (h.push { cls := .type "list", data := .seq vs.toArray k }) P (.ref h.objs.size) (.list ds) :=
  .list (vs := vs) ⟨_, Heap.get?_push_size _ rfl, rfl, k, rfl⟩ p (r.keep (push_keep _ _))
theorem bin_list {xs ys : List D} (hsz : xs.length + ys.length ≤ sizeLine) : BinV c .Add (.list xs) (.list ys) (.list (xs ++ ys)) := fun P A s v₁ v₂ R hf r₁ r₂ => by
  obtain ⟨l, vs, rfl, hl, p, rs⟩ := r₁.invList
  obtain ⟨l', ws, rfl, hl', p', rs'⟩ := r₂.invList
  obtain ⟨⟨cls, dd, data, sl⟩, ho, hc, k, hd⟩ := id hl
  obtain ⟨⟨cls2, dd2, data2, sl2⟩, ho2, hc2, k2, hd2⟩ := id hl'
  simp only at hc hd hc2 hd2
  subst hc hd hc2 hd2
  have e : vs.toArray ++ ws.toArray = (vs ++ ws).toArray := by simp
  refine concat_meets ⟨_, ho, rfl⟩ ⟨_, ho2, rfl⟩ noFill_list_add seq_list_add PySem.F.slot_list_add PySem.F.entry_list_add (PySem.F.args_list_add_2 _ _)
    (list_addW l l' vs.toArray ws.toArray k k2 dd dd2 sl sl2 (by simpa [rs.length, rs'.length] using hsz)) ⟨ho, ho2, ?_⟩
  rw [e]
  exact ⟨push_grow, rep_list_new (hf _ (heap_size_none _)) (rs.append rs')⟩
theorem Reps_rep {h : Heap} {P : Addr → Prop} {v : Value} (r : c.Rep h P v d) : ∀ k, c.Reps h P (List.replicate k v) (List.replicate k d)
  | 0 => .nil
  | k + 1 => .cons r (Reps_rep r k)
-- items of tuples and texts
theorem sub_tup {ds : List D} {k : Nat} (hfit : k < 2 ^ 62) (hg : ds[k]? = some d) : SubV c (.tup ds) (.int k) d := fun P s v₁ v₂ r₁ r₂ => by
  obtain ⟨_, rfl⟩ := r₂.invInt
  obtain ⟨l, vs, rfl, hl, p, rs⟩ := r₁.invTup
  obtain ⟨u, e, y⟩ := rs.get hg
  have hlt : k < vs.length := by
    rcases Nat.lt_or_ge k vs.length with q | q
    · exact q
    · simp [List.getElem?_eq_none q] at e
  refine ⟨"tuple", _, hl.typeIs, slot_tuple_getitem.lookup, fun A R => PyProof.Rows.getItem_tuple (j := k) hl (by lia) (by lia) ?_ (by simpa using e) ⟨.refl s, y⟩⟩
  simp [seqIndex?]; lia
theorem sub_str {x : Str} {i : Int} {j : Nat} {ch : Nat} (hlo : -(2 ^ 63 : Int) ≤ i) (hhi : i < 2 ^ 63) (hj : seqIndex? i x.length = some j) (hc : x.cps[j]? = some ch) : SubV c (.str x) (.int i) (.str ⟨#[ch]⟩) := fun P s v₁ v₂ r₁ r₂ => by
  obtain ⟨_, rfl⟩ := r₂.invInt
  obtain ⟨_, rfl⟩ := r₁.invStr
  refine ⟨"str", _, typeIs_str _ _ _, F.slot_str_getitem.lookup, fun A R => PyProof.Rows.getItem_str (c := ch) (by simp; lia) (by rw [hj]; exact hc) ⟨tok_grow, .str⟩⟩
-- slices
noncomputable def PartOk (c : Cf) (σ : List (Str × NameKind)) (n : Nat) (Γ : Vars) (e : Option Expr) (i : Option Int) : Prop :=
  ∀ env U V A s, EnvOk σ env → Rm n A → Inv c env U V Γ s.heap → wpAny c.M A (evalPart e env) (fun v s' => Grow s s' ∧ IsPart v i) NoE s
theorem PartOk.none : PartOk c σ n Γ none none := fun _ _ _ _ s _ _ _ => wpAny_evalPart_none ⟨.refl s, .none⟩
theorem PartOk.some {e : Expr} {i : Int} (a : EvE c σ n Γ false e (.int i)) : PartOk c σ n Γ (some e) (some i) := fun env U V A s E R I =>
  wpAny_evalPart_some (wpAny_mono (a env U V A s E R I) (fun v s₁ x => ⟨x.1, by cases x.2 with | int => exact .int _ _⟩) fun _ _ z => z)
theorem typeIs_push {s : Shared} {v : Value} {T : String} (h : s.TypeIs v T) (o : Obj) : ({ s with heap := s.heap.push o } : Shared).TypeIs v T := by
  cases v with
  | ref a => obtain ⟨o', e, q⟩ := h; exact ⟨o', push_keep _ _ _ _ e, q⟩
  | _ => exact h
/-- the slice's value, by kind -/
noncomputable def SliV (c : Cf) (d₁ : D) (lo hi : Option Int) (d : D) : Prop := ∀ (P : Addr → Prop) A s v vl vu, Rm 0 A → (∀ a, s.heap.get? a = none → P a) → c.Rep s.heap P v d₁ → IsPart vl lo → IsPart vu hi →
  ∃ T id, s.TypeIs v T ∧ typeLookup (.type T) "__getitem__" = pure (some (.builtin id)) ∧
    wpAny c.M A (getItem v (.ref s.heap.objs.size)) (fun r s' => Grow s s' ∧ c.Rep s'.heap P r d) NoE { s with heap := s.heap.push { cls := .type "slice", data := .fields #[vl, vu, .none] } }
theorem sli_list {ds es : List D} {lo hi : Option Int} (hsz : ds.length ≤ sizeLine) (he : ∀ {h : Heap} {P : Addr → Prop} {vs : List Value}, c.Reps h P vs ds → ∃ us, slicePick vs.toArray lo hi none = us.toArray ∧ c.Reps h P us es) :
    SliV c (.list ds) lo hi (.list es) := fun P A s v vl vu R hf r pl pu => by
  obtain ⟨l, vs, rfl, hl, p, rs⟩ := r.invList
  refine ⟨"list", _, hl.typeIs, slot_list_getitem.lookup, ?_⟩
  refine wpAny_getItem_list_slice (hl.push _) (Heap.IsSliceOf.new ..) pl pu .none (by simp) ?_ (by simpa [rs.length] using hsz)
  obtain ⟨us, e, ru⟩ := he rs
  rw [e]
  refine ⟨⟨⟨_, _, rfl⟩, fun b o e => push_keep _ _ b o (push_keep _ _ b o e)⟩, rep_list_new (hf _ ?_) (ru.keep (push_keep _ _))⟩
  cases q : s.heap.get? (s.heap.push { cls := .type "slice", data := .fields #[vl, vu, .none] }).objs.size with
  | none => rfl
  | some o => exact absurd (Nat.lt_trans (Nat.lt_of_lt_of_eq (Nat.lt_succ_self _) (Heap.size_push ..).symm) (Heap.lt_size q)) (Nat.lt_irrefl _)
theorem sli_upto {ds : List D} (b : Nat) (hsz : ds.length ≤ sizeLine) : SliV c (.list ds) none (some (b : Int)) (.list (ds.take b)) :=
  sli_list hsz fun r => ⟨_, slicePick_upto' _ b, by simpa using r.take b⟩
theorem sli_butLast {ds : List D} (k : Nat) (hk : 1 ≤ k) (hsz : ds.length ≤ sizeLine) : SliV c (.list ds) none (some (-(k : Int))) (.list (ds.take (ds.length - k))) :=
  sli_list hsz fun r => ⟨_, slicePick_butLast _ k hk, by rw [← r.length]; simpa using r.take _⟩
theorem sli_last {ds : List D} (k : Nat) (hk : 1 ≤ k) (hsz : ds.length ≤ sizeLine) : SliV c (.list ds) (some (-(k : Int))) none (.list (ds.drop (ds.length - k))) :=
  sli_list hsz fun r => ⟨_, slicePick_last _ k hk, by rw [← r.length]; simpa using r.drop _⟩
theorem sli_str {x : Str} {lo hi : Option Int} (hsz : x.length ≤ sizeLine) : SliV c (.str x) lo hi (.str (Txt.slice x lo hi)) := fun P A s v vl vu R hf r pl pu => by
  obtain ⟨t, rfl⟩ := r.invStr
  have kp : KeptH (fun h => Keep s.heap h) := fun h ob k b o e => push_keep _ _ b o (k b o e)
  have k0 : Keep s.heap s.heap := fun _ _ e => e
  cases pl with
  | none => cases pu with
    | none =>
      obtain ⟨T, id, h1, h2, h3⟩ := SBH.sliceItem_nn (prog := c.prog) (w := c.w) (A := A) (E := NoE) (t := t) (Q := fun r s' => Grow s s' ∧ c.Rep s'.heap P r (.str (Txt.slice x none none))) kp k0 (fun h' t' k q => ⟨grow_mk q, .str⟩) hsz
      exact ⟨T, id, by cases h2; exact typeIs_str _ _ _, h1, h3⟩
    | int j uj =>
      obtain ⟨T, id, h1, h2, h3⟩ := SBH.sliceItem_ns (prog := c.prog) (w := c.w) (A := A) (E := NoE) (t := t) (j := j) (uj := uj) (Q := fun r s' => Grow s s' ∧ c.Rep s'.heap P r (.str (Txt.slice x none (some j)))) kp k0 (fun h' t' k q => ⟨grow_mk q, .str⟩) hsz
      exact ⟨T, id, by cases h2; exact typeIs_str _ _ _, h1, h3⟩
  | int i ui => cases pu with
    | none =>
      obtain ⟨T, id, h1, h2, h3⟩ := SBH.sliceItem_sn (prog := c.prog) (w := c.w) (A := A) (E := NoE) (t := t) (i := i) (ui := ui) (Q := fun r s' => Grow s s' ∧ c.Rep s'.heap P r (.str (Txt.slice x (some i) none))) kp k0 (fun h' t' k q => ⟨grow_mk q, .str⟩) hsz
      exact ⟨T, id, by cases h2; exact typeIs_str _ _ _, h1, h3⟩
    | int j uj =>
      obtain ⟨T, id, h1, h2, h3⟩ := SBH.sliceItem_ss (prog := c.prog) (w := c.w) (A := A) (E := NoE) (t := t) (i := i) (ui := ui) (j := j) (uj := uj) (Q := fun r s' => Grow s s' ∧ c.Rep s'.heap P r (.str (Txt.slice x (some i) (some j)))) kp k0 (fun h' t' k q => ⟨grow_mk q, .str⟩) hsz
      exact ⟨T, id, by cases h2; exact typeIs_str _ _ _, h1, h3⟩
theorem EvE.slice {e : Expr} {el eu : Option Expr} {lo hi : Option Int} {ps pos : Pos} (a : EvE c σ n Γ m e d₁) (pl : PartOk c σ n Γ el lo) (pu : PartOk c σ n Γ eu hi) (h : SliV c d₁ lo hi d)
    (hs : ∀ o i, subscripted (.Slice el eu none ps) false o i = operate [i, o] (getItem o i) := by intro _ _; rfl) : EvE c σ n Γ m (.Subscript e (.Slice el eu none ps) pos) d :=
  fun env U V A s E R I => Subscript_ (wpAny_mono (a env U V A s E R I) (fun v s₁ x => by
    have I₁ := I.keep x.1.2
    refine wpAny_Slice (wpAny_mono (pl env U V A s₁ E R I₁) (fun vl s₂ y => ?_) fun _ _ z => z)
    have I₂ := I₁.keep y.1.2
    refine wpAny_mono (pu env U V A s₂ E R I₂) (fun vu s₃ z => wpAny_evalPart_none ?_) fun _ _ z => z
    have I₃ := I₂.keep z.1.2
    obtain ⟨T, id, hT, hl, hg⟩ := h (PM m U V) A s₃ v vl vu (R.le (Nat.zero_le _)) (fresh_pm I₃ m) ((x.2.keep y.1.2).keep z.1.2) y.2 z.2
    refine tail_any (T := T) (id := id) ?_ hl (wpAny_mono hg (fun _ _ q => ⟨((x.1.trans y.1).trans z.1).trans q.1, q.2⟩) fun _ _ z => z) (hs _ _)
    exact typeIs_push hT _) fun _ _ z => z)
end
end Mine
end
-- C6
section
open PySem PyProof.Rows PySem.W
set_option Elab.async false
set_option linter.unusedVariables false
namespace Mine
/-- the first best of a list: a later one must be strictly better -/
noncomputable def bestOf {α : Type} (lt : α → α → Bool) : α → List α → α
  | a, [] => a
  | a, b :: r => bestOf lt (if lt b a then b else a) r
theorem bestOf_snoc {α : Type} (lt : α → α → Bool) : ∀ (r : List α) (a b : α), bestOf lt a (r ++ [b]) = if lt b (bestOf lt a r) then b else bestOf lt a r
  | [], a, b => rfl
  | x :: r, a, b => by simp only [List.cons_append, bestOf]; exact bestOf_snoc lt r _ b
noncomputable def best {α : Type} (lt : α → α → Bool) (d₀ : α) : List α → α
  | [] => d₀
  | a :: r => bestOf lt a r
theorem argBest_best {α : Type} (lt : α → α → Bool) (d₀ : α) (xs : List α) : ∀ k, k < xs.length → xs.getD (argBest (fun i j => lt (xs.getD i d₀) (xs.getD j d₀)) k) d₀ = best lt d₀ (xs.take (k + 1))
  | 0, h => by
    cases xs with
    | nil => simp at h
    | cons a r => rfl
  | k + 1, h => by
    have ih := argBest_best lt d₀ xs k (by lia)
    have e : xs.take (k + 1 + 1) = xs.take (k + 1) ++ [xs.getD (k + 1) d₀] := by
      rw [List.take_add_one (l := xs) (i := k + 1)]; simp [h]
    cases xs with
    | nil => simp at h
    | cons a r =>
      rw [e]
      simp only [List.take_succ_cons, List.cons_append, best] at ih ⊢
      rw [bestOf_snoc, argBest, ← ih]
      by_cases q : lt ((a :: r).getD (k + 1) d₀) ((a :: r).getD (argBest (fun i j => lt ((a :: r).getD i d₀) ((a :: r).getD j d₀)) k) d₀) = true
      · rw [if_pos q, if_pos q]
      · rw [if_neg q, if_neg q]
theorem argBest_lt (bt : Nat → Nat → Bool) : ∀ k, argBest bt k ≤ k
  | 0 => Nat.le_refl _
  | k + 1 => by unfold argBest; split; exact Nat.le_refl _; exact Nat.le_succ_of_le (argBest_lt bt k)
noncomputable def ltI (a b : Int) : Bool := decide (a < b)
noncomputable def gtI (a b : Int) : Bool := decide (b < a)
noncomputable def ltS (a b : Str) : Bool := decide (a.cps.toList < b.cps.toList)
noncomputable def gtS (a b : Str) : Bool := decide (b.cps.toList < a.cps.toList)
noncomputable def minI (xs : List Int) : Int := best ltI 0 xs
noncomputable def maxI (xs : List Int) : Int := best gtI 0 xs
noncomputable def minS (xs : List Str) : Str := best ltS ⟨#[]⟩ xs
noncomputable def maxS (xs : List Str) : Str := best gtS ⟨#[]⟩ xs
section
variable {c : Cf} {σ : List (Str × NameKind)} {n : Nat} {Γ Γ₁ Γ₂ : Vars} {m : Bool} {d d₁ d₂ : D}
theorem one_arg {h : Heap} {P : Addr → Prop} {vs : List Value} (r : c.Reps h P vs [d]) : ∃ v, vs = [v] ∧ c.Rep h P v d := by
  (obtain ⟨_, _, rfl, a, b⟩ := r.invCons; cases b; exact ⟨_, rfl, a⟩)
theorem two_args {h : Heap} {P : Addr → Prop} {vs : List Value} (r : c.Reps h P vs [d₁, d₂]) : ∃ v w, vs = [v, w] ∧ c.Rep h P v d₁ ∧ c.Rep h P w d₂ := by
  (obtain ⟨_, _, rfl, a, b⟩ := r.invCons; obtain ⟨w, rfl, q⟩ := one_arg b; exact ⟨_, w, rfl, a, q⟩)
theorem call_len {ds : List D} (hsz : ds.length < 2 ^ 62) : CallV c (.builtin "len") [.list ds] (.int ds.length) := fun P A s vs R hf G r => by
  obtain ⟨v, rfl, rv⟩ := one_arg r
  obtain ⟨l, vs, rfl, hl, p, rs⟩ := rv.invList
  have e := rs.length
  exact PySem.Calls.call_len_list hl (by rw [List.size_toArray, e]; lia) ⟨tok_grow, by rw [List.size_toArray, e]; exact .int⟩
theorem call_lens {x : Str} (hsz : x.length < 2 ^ 62) : CallV c (.builtin "len") [.str x] (.int x.length) := fun P A s vs R hf G r => by
  obtain ⟨v, rfl, rv⟩ := one_arg r
  obtain ⟨_, rfl⟩ := rv.invStr
  exact PyProof.Rows.len_str (by lia) ⟨tok_grow, .int⟩
theorem ints_items {h : Heap} {P : Addr → Prop} : ∀ {vs : List Value} {xs : List Int}, c.Reps h P vs (xs.map D.int) → ∃ ps : List (Int × Tok), vs.toArray = intItems ps.toArray ∧ ps.map (·.1) = xs
  | _, [], .nil => ⟨[], by simp [intItems], rfl⟩
  | _, x :: xs, .cons r rs => by
    obtain ⟨ps, e1, e2⟩ := ints_items rs
    obtain ⟨t, rfl⟩ := r.invInt
    refine ⟨(x, t) :: ps, ?_, by simp [e2]⟩
    simp only [intItems, List.map_toArray, List.map_cons] at e1 ⊢
    have := congrArg Array.toList e1
    simp at this
    rw [this]
theorem numAt_of (ps : List (Int × Tok)) (i : Nat) : numAt ps.toArray i = (ps.map (·.1)).getD i 0 := by
  simp [numAt, List.getD_eq_getElem?_getD]
theorem call_sum {xs : List Int} : CallV c (.builtin "sum") [.list (xs.map D.int)] (.int xs.sum) := fun P A s vs R hf G r => by
  obtain ⟨v, rfl, rv⟩ := one_arg r
  obtain ⟨l, vs, rfl, hl, p, rs⟩ := rv.invList
  obtain ⟨ps, e1, e2⟩ := ints_items rs
  rw [e1] at hl
  refine sum_intListG R.handled hl fun h' tk t' k => ⟨grow_mk k, ?_⟩
  rw [preSum_eq]
  have : ((ps.toArray.toList.map (·.1)).take ps.toArray.size).sum = xs.sum := by
    have q : ps.length = xs.length := by rw [← e2]; simp
    simp [e2, q]
  rw [this]; exact .int
theorem call_minI {xs : List Int} (hne : xs ≠ []) : CallV c (.builtin "min") [.list (xs.map D.int)] (.int (minI xs)) := fun P A s vs R hf G r => by
  obtain ⟨v, rfl, rv⟩ := one_arg r
  obtain ⟨l, vs, rfl, hl, p, rs⟩ := rv.invList
  obtain ⟨ps, e1, e2⟩ := ints_items rs
  rw [e1] at hl
  have hlen : ps.length = xs.length := by rw [← e2]; simp
  have hpos : 0 < xs.length := List.length_pos_iff.mpr hne
  refine min_intList R.handled hl (by simpa [hlen] using hpos) fun v h' tk e k => ⟨grow_mk k, ?_⟩
  obtain ⟨t, rfl⟩ := intItems_at e
  have : (fun i j => decide (numAt ps.toArray i < numAt ps.toArray j)) = (fun i j => ltI (xs.getD i 0) (xs.getD j 0)) := by
    funext i j; rw [numAt_of, numAt_of, e2]; rfl
  rw [this, numAt_of, e2]
  have q := argBest_best ltI 0 xs (ps.toArray.size - 1) (by simp [hlen]; lia)
  rw [q]
  have : xs.take (ps.toArray.size - 1 + 1) = xs := by rw [List.take_of_length_le]; simp [hlen]; lia
  rw [this]; exact .int
theorem call_maxI {xs : List Int} (hne : xs ≠ []) : CallV c (.builtin "max") [.list (xs.map D.int)] (.int (maxI xs)) := fun P A s vs R hf G r => by
  obtain ⟨v, rfl, rv⟩ := one_arg r
  obtain ⟨l, vs, rfl, hl, p, rs⟩ := rv.invList
  obtain ⟨ps, e1, e2⟩ := ints_items rs
  rw [e1] at hl
  have hlen : ps.length = xs.length := by rw [← e2]; simp
  have hpos : 0 < xs.length := List.length_pos_iff.mpr hne
  refine max_intList R.handled hl (by simpa [hlen] using hpos) fun v h' tk e k => ⟨grow_mk k, ?_⟩
  obtain ⟨t, rfl⟩ := intItems_at e
  have : (fun i j => decide (numAt ps.toArray i > numAt ps.toArray j)) = (fun i j => gtI (xs.getD i 0) (xs.getD j 0)) := by
    funext i j; rw [numAt_of, numAt_of, e2]; rfl
  rw [this, numAt_of, e2]
  have q := argBest_best gtI 0 xs (ps.toArray.size - 1) (by simp [hlen]; lia)
  rw [q]
  have : xs.take (ps.toArray.size - 1 + 1) = xs := by rw [List.take_of_length_le]; simp [hlen]; lia
  rw [this]; exact .int
theorem call_min2 {a b : Int} : CallV c (.builtin "min") [.int a, .int b] (.int (if b < a then b else a)) := fun P A s vs R hf G r => by
  obtain ⟨v, w, rfl, r1, r2⟩ := two_args r
  (obtain ⟨_, rfl⟩ := r1.invInt; (obtain ⟨_, rfl⟩ := r2.invInt; exact min_two_ints R.handled fun h' tk k => ⟨grow_mk k, by split <;> exact .int⟩))
theorem call_max2 {a b : Int} : CallV c (.builtin "max") [.int a, .int b] (.int (if b > a then b else a)) := fun P A s vs R hf G r => by
  obtain ⟨v, w, rfl, r1, r2⟩ := two_args r
  (obtain ⟨_, rfl⟩ := r1.invInt; (obtain ⟨_, rfl⟩ := r2.invInt; exact max_two_ints R.handled fun h' tk k => ⟨grow_mk k, by split <;> exact .int⟩))
theorem iter_list {A : Around} {E : Value → Shared → Prop} {s : Shared} {l : Addr} {items : Array Value} {Q : Value → Shared → Prop} (hl : s.heap.IsList l items)
    (h : ∀ s₂ : Shared, s₂ = { s with heap := s.heap.push { cls := .type "list_iterator", data := .fields #[.ref l, .int 0 0] } } →
      (s₂.heap.IsListIter s.heap.objs.size l 0 ∧ s₂.heap.IsList l items) → (∀ b ∈ [s.heap.objs.size, l], b < s₂.heap.objs.size) → l ≠ s.heap.objs.size → Q (.ref s.heap.objs.size) s₂) :
    wpAny c.M A (pyIter (.ref l)) Q E s := by
  have hlt : l < s.heap.objs.size := by obtain ⟨_, e, _⟩ := hl; exact Heap.lt_size e
  refine wpAny_pyIter_list hl (h _ rfl ⟨⟨_, Heap.get?_push_size _ rfl, rfl, rfl⟩, hl.push _⟩ (fun b hb => ?_) (Nat.ne_of_lt hlt))
  show b < (s.heap.push _).objs.size
  rw [Heap.size_push]
  rcases List.mem_cons.mp hb with rfl | hb
  · exact Nat.lt_succ_self _
  · rcases List.mem_cons.mp hb with rfl | hb
    · exact Nat.lt_succ_of_lt hlt
    · cases hb
theorem strs_lt {A : Around} {P : Nat → Value → Prop} (val : Nat → Str) (hval : ∀ i v, P i v → ∃ t, v = .str (val i) t) : CmpOf c.prog c.w A .Lt P (fun i j => ltS (val i) (val j)) := fun i j vi vj s Q E hi hj h => by
  obtain ⟨t, rfl⟩ := hval i vi hi
  obtain ⟨u, rfl⟩ := hval j vj hj
  exact richCompare_gives (op := .Lt) (typeIs_str s _ t) (typeIs_str s _ u) F.slot_str_lt F.entry_str_lt (F.args_str_lt_2 _ _) (gives_str_lt _ _ t u) (fun x => nomatch x) h
theorem strs_gt {A : Around} {P : Nat → Value → Prop} (val : Nat → Str) (hval : ∀ i v, P i v → ∃ t, v = .str (val i) t) : CmpOf c.prog c.w A .Gt P (fun i j => gtS (val i) (val j)) := fun i j vi vj s Q E hi hj h => by
  obtain ⟨t, rfl⟩ := hval i vi hi
  obtain ⟨u, rfl⟩ := hval j vj hj
  exact richCompare_gives (op := .Gt) (typeIs_str s _ t) (typeIs_str s _ u) F.slot_str_gt F.entry_str_gt (F.args_str_gt_2 _ _) (gives_str_gt _ _ t u) (fun x => nomatch x) h
theorem strs_val {h : Heap} {P : Addr → Prop} {vs : List Value} {xs : List Str} (rs : c.Reps h P vs (xs.map D.str)) : ∀ i v, vs.toArray[i]? = some v → ∃ t : Tok, v = Value.str (xs.getD i ⟨#[]⟩) t := fun i v e => by
  have hi : i < vs.length := by
    rcases Nat.lt_or_ge i vs.length with q | q
    · exact q
    · simp [List.getElem?_eq_none q] at e
  obtain ⟨t, q⟩ := strs_get rs hi ⟨#[]⟩
  refine ⟨t, ?_⟩
  rw [← q]
  simpa [hi] using e.symm
theorem call_minS {xs : List Str} (hne : xs ≠ []) : CallV c (.builtin "min") [.list (xs.map D.str)] (.str (minS xs)) := fun P A s vs R hf G r => by
  obtain ⟨v, rfl, rv⟩ := one_arg r
  obtain ⟨l, vs, rfl, hl, p, rs⟩ := rv.invList
  have hlen : vs.length = xs.length := by simpa using rs.length
  have hpos : 0 < xs.length := List.length_pos_iff.mpr hne
  refine call_min_walk (iter_list hl fun s₂ e st hfp hlI => ?_)
  subst e
  refine ⟨_, _, _, _, _, _, _, rfl, Walks.list (A := A.in1) R.handled _ l hlI vs.toArray, st, hfp, by simpa [hlen] using hpos, strs_lt (fun i => xs.getD i ⟨#[]⟩) (strs_val rs), fun v h' tk hP hk => ⟨grow_mk (old_kept hk), ?_⟩⟩
  obtain ⟨t, rfl⟩ := strs_val rs _ _ hP
  have q := argBest_best ltS ⟨#[]⟩ xs (vs.toArray.size - 1) (by simp [hlen]; lia)
  rw [q]
  have : xs.take (vs.toArray.size - 1 + 1) = xs := by rw [List.take_of_length_le]; simp [hlen]; lia
  rw [this]; exact .str
theorem call_maxS {xs : List Str} (hne : xs ≠ []) : CallV c (.builtin "max") [.list (xs.map D.str)] (.str (maxS xs)) := fun P A s vs R hf G r => by
  obtain ⟨v, rfl, rv⟩ := one_arg r
  obtain ⟨l, vs, rfl, hl, p, rs⟩ := rv.invList
  have hlen : vs.length = xs.length := by simpa using rs.length
  have hpos : 0 < xs.length := List.length_pos_iff.mpr hne
  refine call_max_walk (iter_list hl fun s₂ e st hfp hlI => ?_)
  subst e
  refine ⟨_, _, _, _, _, _, _, rfl, Walks.list (A := A.in1) R.handled _ l hlI vs.toArray, st, hfp, by simpa [hlen] using hpos, strs_gt (fun i => xs.getD i ⟨#[]⟩) (strs_val rs), fun v h' tk hP hk => ⟨grow_mk (old_kept hk), ?_⟩⟩
  obtain ⟨t, rfl⟩ := strs_val rs _ _ hP
  have q := argBest_best gtS ⟨#[]⟩ xs (vs.toArray.size - 1) (by simp [hlen]; lia)
  rw [q]
  have : xs.take (vs.toArray.size - 1 + 1) = xs := by rw [List.take_of_length_le]; simp [hlen]; lia
  rw [this]; exact .str
theorem cmp_str_lt {x y : Str} : CmpV c .Lt (.str x) (.str y) (ltS x y) := fun P A s v₁ v₂ R G r₁ r₂ => by
  (obtain ⟨_, rfl⟩ := r₁.invStr; (obtain ⟨_, rfl⟩ := r₂.invStr; exact PyProof.Rows.lt_str ⟨.refl s, rfl⟩))
theorem cmp_str_gt {x y : Str} : CmpV c .Gt (.str x) (.str y) (gtS x y) := fun P A s v₁ v₂ R G r₁ r₂ => by
  (obtain ⟨_, rfl⟩ := r₁.invStr; (obtain ⟨_, rfl⟩ := r₂.invStr; exact PySem.P.gt_str ⟨.refl s, rfl⟩))
/-- list(dict) -/
theorem call_keys {kvs : List (Str × D)} (hsz : kvs.length ≤ sizeLine) : CallV c (.type "list") [.dict kvs] (.list (kvs.map fun p => D.str p.1)) := fun P A s vs R hf G r => by
  obtain ⟨v, rfl, rv⟩ := one_arg r
  obtain ⟨l, us, rfl, hl, p, rs⟩ := rv.invDict
  obtain ⟨ep, hx⟩ : ∃ ep, s.heap.DictAt (strKind c.prog c.w) l us ep := let ⟨o, es, ep, q⟩ := hl.1; ⟨ep, o, es, q⟩
  have ek := rs.keys
  have elen : us.length = kvs.length := by have := congrArg List.length ek; simpa using this
  refine kdl_call (kdl_dict hl.2) R.handled hx (by rw [elen]; exact hsz) fun h' tk acc' c' k ho it => ⟨grow_mk k, ?_⟩
  refine .list (vs := acc'.toList) ⟨_, ho, rfl, c', by simp⟩ (hf _ (heap_size_none _)) ?_
  obtain ⟨hs, hv⟩ := it
  have : ∀ (vs : List Value) (us : List (Str × Value)) (kvs : List (Str × D)), us.map (·.1) = kvs.map (·.1) → vs.length = us.length → (∀ (j : Nat) v, vs[j]? = some v → ∃ k x, us[j]? = some (k, x) ∧ (strKind c.prog c.w).is k v = true) →
      c.Reps h' P vs (kvs.map fun p => D.str p.1) := by
    intro vs
    induction vs with
    | nil => intro us kvs e1 e2 _; cases us with
      | nil => cases kvs with
        | nil => exact .nil
        | cons _ _ => simp at e1
      | cons _ _ => simp at e2
    | cons v vs ih => intro us kvs e1 e2 e3; cases us with
      | nil => simp at e2
      | cons u us => cases kvs with
        | nil => simp at e1
        | cons kv kvs =>
          simp only [List.map_cons, List.cons.injEq] at e1
          obtain ⟨k, x, q1, q2⟩ := e3 0 v rfl
          simp at q1
          obtain ⟨tk, rfl⟩ := str_of_is q2
          refine .cons ?_ (ih us kvs e1.2 (by simpa using e2) fun j v q => by simpa using e3 (j + 1) v (by simpa using q))
          have : k = kv.1 := by rw [← e1.1, q1]
          rw [this]; exact .str
  exact this acc'.toList us kvs ek (by simpa using hs) fun j v q => hv j v (by simpa using q)
theorem isi_int {a : Int} : ∀ (P : Addr → Prop) A s v, Rm 0 A → c.Rep s.heap P v (.int a) → wpAny c.M A (PySem.call (.builtin "isinstance") [v, .type "tuple"]) (fun r s' => Grow s s' ∧ r = .bool false) NoE s := fun P A s v R r => by
  (obtain ⟨_, rfl⟩ := r.invInt; exact PySem.IsiPair.int_tuple ⟨tok_grow, rfl⟩)
end
end Mine
end
-- C7
section
open PySem PyProof.Rows PySem.W
set_option Elab.async false
set_option linter.unusedVariables false
namespace Mine
section
variable {c : Cf} {σ : List (Str × NameKind)} {n : Nat} {Γ Γ₁ Γ₂ : Vars} {m : Bool} {d d₁ d₂ : D}
-- methods of texts
theorem mt_str {name : Str} {id : String} {x : Str} (sl : PySem.Slot "str" name id) (ty : typeOf (.builtin id) = pure (.type "method_descriptor")) : MethT c name (.str x) id :=
  ⟨"str", F.plainAttrs_str, sl, ty, fun P s v r => by cases r with | str => exact ⟨typeIs_str _ _ _, fun a e => nomatch e⟩⟩
theorem mt_dict {name : Str} {id : String} {kvs : List (Str × D)} (sl : PySem.Slot "dict" name id) (ty : typeOf (.builtin id) = pure (.type "method_descriptor")) : MethT c name (.dict kvs) id :=
  ⟨"dict", F.plainAttrs_dict, sl, ty, fun P s v r => by
    obtain ⟨l, us, rfl, hl, p, rs⟩ := r.invDict
    refine ⟨hl.1.typeIs, fun a e => ?_⟩
    cases e
    obtain ⟨o, es, ep, ho, q⟩ := hl.1
    exact ⟨o, ho, q.1.2.1⟩⟩
theorem me_upper {x : Str} (h : Builtin.Str.tooLong (Txt.upper x).length = false) : MethV c "str.upper" (.str x) [] (.str (Txt.upper x)) := fun P A s v vs R hf G r rs => by
  cases rs; (obtain ⟨_, rfl⟩ := r.invStr; exact SC.upper h ⟨tok_grow, .str⟩)
theorem me_lower {x : Str} (h : Builtin.Str.tooLong (Txt.lower x).length = false) : MethV c "str.lower" (.str x) [] (.str (Txt.lower x)) := fun P A s v vs R hf G r rs => by
  cases rs; (obtain ⟨_, rfl⟩ := r.invStr; exact SC.lower h ⟨tok_grow, .str⟩)
theorem me_find {x y : Str} : MethV c "str.find" (.str x) [.str y] (.int (Txt.find x y)) := fun P A s v vs R hf G r rs => by
  obtain ⟨w, rfl, q⟩ := one_arg rs
  (obtain ⟨_, rfl⟩ := r.invStr; (obtain ⟨_, rfl⟩ := q.invStr; exact SC.find ⟨tok_grow, .int⟩))
theorem me_startswith {x y : Str} : MethV c "str.startswith" (.str x) [.str y] (.bool (Txt.startswith x y)) := fun P A s v vs R hf G r rs => by
  obtain ⟨w, rfl, q⟩ := one_arg rs
  (obtain ⟨_, rfl⟩ := r.invStr; (obtain ⟨_, rfl⟩ := q.invStr; exact SC.startswith ⟨.refl s, .bool⟩))
theorem me_endswith {x y : Str} : MethV c "str.endswith" (.str x) [.str y] (.bool (Txt.endswith x y)) := fun P A s v vs R hf G r rs => by
  obtain ⟨w, rfl, q⟩ := one_arg rs
  (obtain ⟨_, rfl⟩ := r.invStr; (obtain ⟨_, rfl⟩ := q.invStr; exact SC.endswith ⟨.refl s, .bool⟩))
-- methods of dicts
theorem me_get {kvs : List (Str × D)} {k : Str} : MethV c "dict.get" (.dict kvs) [.str k, d] ((dget kvs k).getD d) := fun P A s v vs R hf G r rs => by
  obtain ⟨w, w', rfl, q, q'⟩ := two_args rs
  obtain ⟨t, rfl⟩ := q.invStr
  obtain ⟨l, us, rfl, hl, p, rs⟩ := r.invDict
  refine call_meetsIn F.slot_dict_get hl.1.typeIs F.entry_dict_get (F.args_dict_get_3 _ _ _) (meets_dict_get_default (PySem.strKind c.prog c.w) l (strKind_is c.prog c.w k t) hl.2 w') ⟨_, hl.1.mapOf, tok_grow, ?_⟩
  cases e : dget kvs k with
  | none => rw [rs.get_none e]; exact q'
  | some d => obtain ⟨v, e', q⟩ := rs.get e; rw [e']; exact q
theorem view_fresh {h : Heap} {o : Obj} : h.get? (h.push o).objs.size = none := by
  cases q : h.get? (h.push o).objs.size with
  | none => rfl
  | some o => exact absurd (Nat.lt_trans (Nat.lt_of_lt_of_eq (Nat.lt_succ_self _) (Heap.size_push ..).symm) (Heap.lt_size q)) (Nat.lt_irrefl _)
theorem me_items {kvs : List (Str × D)} : MethI c "dict.items" (.dict kvs) true (kvs.map fun kv => D.tup [.str kv.1, kv.2]) := fun P A s v R hf G r => by
  obtain ⟨l, us, rfl, hl, p, rs⟩ := r.invDict
  refine call_meetsIn F.slot_dict_items hl.1.typeIs F.entry_dict_items (F.args_dict_items_1 _) (meets_dict_items (strKind c.prog c.w) l hl.2) ⟨⟨_, hl.1⟩, ?_⟩
  obtain ⟨ep, hx⟩ : ∃ ep, s.heap.DictAt (strKind c.prog c.w) l us ep := let ⟨o, es, ep, q⟩ := hl.1; ⟨ep, o, es, q⟩
  refine wpAny_pyIter_items (kvs := us) (ep := ep) (knd := strKind c.prog c.w) ⟨_, Heap.get?_push_size _ rfl, rfl, rfl⟩ (dictAt_at hx fun o e => push_keep _ _ _ _ e) ⟨⟨⟨_, _, rfl⟩, fun b o e => push_keep _ _ b o (push_keep _ _ b o e)⟩, _, [(s.heap.push { cls := .type "dict_items", data := .fields #[.ref l] }).objs.size], rfl, ?_, ?_⟩
  rotate_left
  · intro b hb; obtain rfl := List.mem_singleton.mp hb; exact view_fresh
  have k2 : Keep s.heap ((s.heap.push { cls := .type "dict_items", data := .fields #[.ref l] }).push { cls := .type "dict_itemiterator", data := .fields #[.none, .bool false, .ref l, .int 0 0, .int us.length 0, .int ep 0, .none, .none] }) := fun b o e => push_keep _ _ b o (push_keep _ _ b o e)
  refine .items (i := 0) (kvs := us) (ep := ep) (es := kvs) (ok := .none) (ov := .none) (Heap.get?_push_size _ rfl) (dictAt_at hx fun o e => k2 _ _ e) ⟨p, ?_⟩ ?_ rfl
  · intro hm; have q := List.mem_singleton.mp hm
    obtain ⟨o, e⟩ := hl.dom; rw [q, view_fresh] at e; cases e
  · exact (rs.live.move (fun b o _ e => k2 b o e) fun b q => ⟨q.1, fun hm => by
      obtain rfl := List.mem_singleton.mp hm
      obtain ⟨o, e⟩ := q.2; rw [view_fresh] at e; cases e⟩)
theorem me_values {kvs : List (Str × D)} : MethI c "dict.values" (.dict kvs) false (kvs.map (·.2)) := fun P A s v R hf G r => by
  obtain ⟨l, us, rfl, hl, p, rs⟩ := r.invDict
  refine call_meetsIn F.slot_dict_values hl.1.typeIs F.entry_dict_values (F.args_dict_values_1 _) (meets_dict_values (strKind c.prog c.w) l hl.2) ⟨⟨_, hl.1⟩, ?_⟩
  obtain ⟨ep, hx⟩ : ∃ ep, s.heap.DictAt (strKind c.prog c.w) l us ep := let ⟨o, es, ep, q⟩ := hl.1; ⟨ep, o, es, q⟩
  refine wpAny_pyIter_values (kvs := us) (ep := ep) (knd := strKind c.prog c.w) ⟨_, Heap.get?_push_size _ rfl, rfl, rfl⟩ (dictAt_at hx fun o e => push_keep _ _ _ _ e) ⟨⟨⟨_, _, rfl⟩, fun b o e => push_keep _ _ b o (push_keep _ _ b o e)⟩, _, [(s.heap.push { cls := .type "dict_values", data := .fields #[.ref l] }).objs.size], rfl, ?_, ?_⟩
  rotate_left
  · intro b hb; obtain rfl := List.mem_singleton.mp hb; exact view_fresh
  have k2 : Keep s.heap ((s.heap.push { cls := .type "dict_values", data := .fields #[.ref l] }).push { cls := .type "dict_valueiterator", data := .fields #[.ref l, .int 0 0, .int us.length 0, .int ep 0] }) := fun b o e => push_keep _ _ b o (push_keep _ _ b o e)
  refine .vals (i := 0) (kvs := us) (ep := ep) (es := kvs) ⟨_, Heap.get?_push_size _ rfl, rfl, rfl⟩ (dictAt_at hx fun o e => k2 _ _ e) ⟨p, ?_⟩ ?_ rfl
  · intro hm; have q := List.mem_singleton.mp hm
    obtain ⟨o, e⟩ := hl.dom; rw [q, view_fresh] at e; cases e
  · exact (rs.live.move (fun b o _ e => k2 b o e) fun b q => ⟨q.1, fun hm => by
      obtain rfl := List.mem_singleton.mp hm
      obtain ⟨o, e⟩ := q.2; rw [view_fresh] at e; cases e⟩)
-- range, enumerate
theorem range_small {a b : Int} {k : Nat} (ha : 0 ≤ a ∧ a ≤ 1000) (hb : b = a + k) (hk : k ≤ 1000) : Builtin.Range.small a b 1 = true := by
  unfold Builtin.Range.small
  rw [rangeSize_nat]
  have : (b - a).toNat = k := by lia
  rw [this]
  simp [Builtin.Range.rangeFitsLong]
  lia
theorem it_range {a b : Int} {k : Nat} {P : Addr → Prop} {A : Around} {s s₁ : Shared} {r : Addr} {t u v : Tok} (hr : IsRange s₁.heap r a b 1 t u v) (hsm : Builtin.Range.small a b 1 = true) (hk : (b - a).toNat = k) (g : Grow s s₁) :
    wpAny c.M A (pyIter (.ref r)) (fun it s₂ => Grow s s₂ ∧ ∃ i F, it = .ref i ∧ IterAt c s₂.heap (fun b => P b ∧ b ∉ F) i F false ((List.range k).map fun j => D.int (a + (j : Nat))) ∧ (∀ b ∈ F, s.heap.get? b = none)) NoE s₁ := by
  refine wpAny_pyIter_range hr hsm ⟨g.trans ⟨⟨_, _, rfl⟩, push_keep _ _⟩, _, [s₁.heap.objs.size], rfl, ?_, ?_⟩
  rotate_left
  · intro b hb; obtain rfl := List.mem_singleton.mp hb; exact fresh_back g (heap_size_none _)
  refine .range (x := a) (k := k) ?_ rfl
  rw [rangeSize_nat, hk]
  exact Heap.get?_push_size _ rfl
theorem ci_range1 {b : Int} {k : Nat} (hb : b = k) (hk : k ≤ 1000) : CallI c (.type "range") [.int b] false ((List.range k).map fun j => D.int (j : Nat)) := fun P A s vs R hf G r => by
  obtain ⟨v, rfl, rv⟩ := one_arg r
  obtain ⟨tt, rfl⟩ := rv.invInt
  refine call_range_1 ?_
  have := it_range (c := c) (a := 0) (b := b) (k := k) (P := P) (A := A) (s := s) (IsRange.new s.heap 0 b 1 s.toks tt (s.toks + 1)) (s₁ := { s with heap := s.heap.push _, toks := s.toks + 1 + 1 }) (range_small (k := k) (by lia) (by lia) hk) (by lia) push_grow
  simpa using this
theorem ci_range2 {a b : Int} {k : Nat} (ha : 0 ≤ a ∧ a ≤ 1000) (hb : b = a + k) (hk : k ≤ 1000) : CallI c (.type "range") [.int a, .int b] false ((List.range k).map fun j => D.int (a + (j : Nat))) := fun P A s vs R hf G r => by
  obtain ⟨v, w, rfl, r1, r2⟩ := two_args r
  obtain ⟨ta, rfl⟩ := r1.invInt
  obtain ⟨tb, rfl⟩ := r2.invInt
  refine call_range_2 ?_
  exact it_range (c := c) (a := a) (b := b) (k := k) (P := P) (A := A) (s := s) (IsRange.new s.heap a b 1 ta tb s.toks) (s₁ := { s with heap := s.heap.push _, toks := s.toks + 1 }) (range_small ha hb hk) (by lia) push_grow
theorem ci_enum {ds : List D} : CallI c (.type "enumerate") [.list ds] true ((ds.zipIdx 0).map fun p => D.tup [.int (p.2 : Nat), p.1]) := fun P A s vs R hf G r => by
  obtain ⟨v, rfl, rv⟩ := one_arg r
  obtain ⟨l, us, rfl, hl, p, rs⟩ := rv.invList
  refine call_enumerate_list hl fun h' e1 e2 e3 e4 => wpAny_pyIter_enum e1 ⟨grow_mk e4, _, [s.heap.objs.size + 1, s.heap.objs.size], rfl, ?_, fun b hb => ?_⟩
  · have nf : ∀ b, Dom s.heap b → b ∉ [s.heap.objs.size + 1, s.heap.objs.size] := fun b ⟨o, e⟩ hm => by
      have := Heap.lt_size e
      rcases List.mem_cons.mp hm with rfl | hm
      · exact absurd (Nat.lt_trans (Nat.lt_succ_self _) this) (Nat.lt_irrefl _)
      · obtain rfl := List.mem_singleton.mp hm; exact absurd this (Nat.lt_irrefl _)
    refine .enum (i := 0) (vs := us) (es := ds) e1 e2 (hl.at fun o e => e4 _ _ e) ⟨p, nf _ (let ⟨o, e, _⟩ := hl; ⟨o, e⟩)⟩ (Nat.succ_ne_self _) ?_ rfl
    exact rs.live.move (fun b o _ e => e4 b o e) fun b q => ⟨q.1, nf b q.2⟩
  · rcases List.mem_cons.mp hb with rfl | hm
    · cases q : s.heap.get? (s.heap.objs.size + 1) with
      | none => rfl
      | some o => exact absurd (Nat.lt_trans (Nat.lt_succ_self _) (Heap.lt_size q)) (Nat.lt_irrefl _)
    · obtain rfl := List.mem_singleton.mp hm; exact heap_size_none _
end
end Mine
end
-- C8
section
open PySem PyProof.Rows PySem.W
set_option Elab.async false
set_option linter.unusedVariables false
namespace Mine
section
variable {c : Cf} {σ : List (Str × NameKind)} {n : Nat} {Γ Γ₁ Γ₂ : Vars} {m : Bool} {d d₁ d₂ : D}
theorem compL_mapA {α : Type} {elt tgt iter : Expr} {ifs : List Expr} {scope : Scope} {pos : Pos} {xs : List Str} (g : α → D) {vals : α → List D} {p : α → Bool} {f : α → D} {Γb : Vars} (hxa : accName ∉ xs) (hba : ∀ sl, Γb accName ≠ some sl) (hbx : ∀ x ∈ xs, ∀ sl, Γb x ≠ some sl) :
    ∀ (ds : List α) (out : List D) (Γ : Vars) (Dd : Addr), (∀ d ∈ ds, ∀ Γ', AsnC c σ n Γ' tgt (g d) (updL Γ' xs (vals d))) → (∀ d ∈ ds, Tests c σ n (updL Γb xs (vals d)) ifs (p d)) → (∀ d ∈ ds, p d = true → EvE c σ n (updL Γb xs (vals d)) true elt (f d)) →
      Sup Γb Γ → Γ accName = some (.oa Dd out) → out.length + ds.length ≤ sizeLine →
      ∃ Γ', CompL c σ n Γ (.ListComp elt [⟨tgt, iter, ifs, 0⟩] scope pos) 0 Dd false (ds.map g) Γ' ∧ Γ' accName = some (.oa Dd (out ++ (ds.filter p).map f)) := by
  intro ds
  induction ds with
  | nil => intro out Γ Dd _ _ _ hS hacc _; exact ⟨Γ, CompL.nil turn_one, by simpa using hacc⟩
  | cons d ds ih =>
    intro out Γ Dd hA hT hE hS hacc hsz
    have S₁ : Sup (updL Γb xs (vals d)) (updL Γ xs (vals d)) := hS.updL _ _
    have a₁ : updL Γ xs (vals d) accName = some (.oa Dd out) := by rw [updL_other hxa]; exact hacc
    have keep : Sup Γb (updL Γ xs (vals d)) := fun x sl e => by
      by_cases hx : x ∈ xs
      · exact absurd e (hbx x hx sl)
      · rw [updL_other hx]; exact hS x sl e
    simp only [List.length_cons] at hsz
    rw [List.map_cons]
    cases hp : p d with
    | false =>
      obtain ⟨Γ', h1, h2⟩ := ih out (updL Γ xs (vals d)) Dd (fun d' hd => hA d' (List.mem_cons_of_mem _ hd)) (fun d' hd => hT d' (List.mem_cons_of_mem _ hd)) (fun d' hd => hE d' (List.mem_cons_of_mem _ hd)) keep a₁ (by omega)
      exact ⟨Γ', CompL.cons turn_one (b := false) (hA d List.mem_cons_self Γ) ((hp ▸ hT d List.mem_cons_self).sub S₁) (fun q => by cases q) (fun _ x sl e => e) h1, by simpa [hp] using h2⟩
    | true =>
      obtain ⟨Γ', h1, h2⟩ := ih (out ++ [f d]) (upd (updL Γ xs (vals d)) accName (.oa Dd (out ++ [f d]))) Dd (fun d' hd => hA d' (List.mem_cons_of_mem _ hd)) (fun d' hd => hT d' (List.mem_cons_of_mem _ hd)) (fun d' hd => hE d' (List.mem_cons_of_mem _ hd))
        (fun x sl e => by
          unfold upd
          split
          · rename_i h; subst h; exact absurd e (hba sl)
          · exact keep x sl e) upd_same (by simp; omega)
      exact ⟨Γ', CompL.cons turn_one (b := true) (hA d List.mem_cons_self Γ) ((hp ▸ hT d List.mem_cons_self).sub S₁) (fun _ => Emit.elt a₁ ((hE d List.mem_cons_self hp).sub S₁) (by omega)) (fun q => by cases q) h1, by simpa [hp] using h2⟩
theorem Comp.mapA {α : Type} {elt tgt iter : Expr} {ifs : List Expr} {scope : Scope} {pos : Pos} (xs : List Str) (g : α → D) (vals : α → List D) (p : α → Bool) (f : α → D) (ds : List α) {fin : Slot}
    (T : Takes c (fun a => .oa a []) (fun a => .oa a ((ds.filter p).map f)) fin) (a : EvIt c σ n Γ iter false (ds.map g)) (hxs : xs.all (fun x => scope.names.lookup x == some .local) = true) (H : (scope.names.lookup accName).isNone = true)
    (hA : ∀ d ∈ ds, ∀ Γ', AsnC c (relab scope.names σ) n Γ' tgt (g d) (updL Γ' xs (vals d))) (hT : ∀ d ∈ ds, Tests c (relab scope.names σ) n (updL (seen scope.names Γ) xs (vals d)) ifs (p d))
    (hE : ∀ d ∈ ds, p d = true → EvE c (relab scope.names σ) n (updL (seen scope.names Γ) xs (vals d)) true elt (f d)) (hsz : ds.length ≤ sizeLine) : Comp c σ n Γ elt tgt iter ifs [] scope pos fin := by
  have H' := Option.isNone_iff_eq_none.mp H
  have hxs' : ∀ x ∈ xs, scope.names.lookup x = some .local := fun x hx => by simpa using List.all_eq_true.mp hxs x hx
  have hxa : accName ∉ xs := fun q => by have := hxs' _ q; rw [H'] at this; cases this
  have hba : ∀ sl, seen scope.names Γ accName ≠ some sl := fun sl e => by unfold seen at e; rw [H'] at e; simp at e
  have hbx : ∀ x ∈ xs, ∀ sl, seen scope.names Γ x ≠ some sl := fun x hx sl e => by unfold seen at e; rw [hxs' x hx] at e; simp at e
  have key := fun Dd => compL_mapA (iter := iter) (scope := scope) (pos := pos) g hxa hba hbx ds [] (upd (seen scope.names Γ) accName (.oa Dd [])) Dd hA hT hE (fun x sl e => by
    unfold upd
    split
    · rename_i h; subst h; exact absurd e (hba sl)
    · exact e) upd_same (by simpa using hsz)
  exact ⟨_, _, fun Dd => (key Dd).choose, ds.map g, T, a, fun Dd => (key Dd).choose_spec.1, fun Dd => by simpa using (key Dd).choose_spec.2⟩
theorem filter_yes {α : Type} (ds : List α) : ds.filter (fun _ => true) = ds := List.filter_eq_self.mpr (fun _ _ => rfl)
/-- one name, no test -/
theorem Comp.allA {α : Type} {elt iter : Expr} {scope : Scope} {pos px : Pos} {x : Str} (g f : α → D) (ds : List α) {fin : Slot} (T : Takes c (fun a => .oa a []) (fun a => .oa a (ds.map f)) fin) (a : EvIt c σ n Γ iter false (ds.map g)) (hsz : ds.length ≤ sizeLine)
    (hE : ∀ d ∈ ds, EvE c (relab scope.names σ) n (upd (seen scope.names Γ) x (.fz (g d))) true elt (f d)) (hx : scope.names.lookup x = some .local := by decide +kernel) (H : (scope.names.lookup accName).isNone = true := by decide +kernel) :
    Comp c σ n Γ elt (.Name x px) iter [] [] scope pos fin :=
  Comp.mapA [x] g (fun d => [g d]) (fun _ => true) f ds (by rw [filter_yes]; exact T) a (by simp [hx]) H (fun d _ Γ' => AsnC.name (relab_local hx)) (fun d _ => Tests.nil) (fun d hd _ => hE d hd) hsz
/-- one name, one test -/
theorem Comp.filA {α : Type} {elt iter t : Expr} {scope : Scope} {pos px : Pos} {x : Str} (g : α → D) (p : α → Bool) (f : α → D) (ds : List α) {fin : Slot} (T : Takes c (fun a => .oa a []) (fun a => .oa a ((ds.filter p).map f)) fin) (a : EvIt c σ n Γ iter false (ds.map g)) (hsz : ds.length ≤ sizeLine)
    (hT : ∀ d ∈ ds, EvT c (relab scope.names σ) n (upd (seen scope.names Γ) x (.fz (g d))) t (p d)) (hE : ∀ d ∈ ds, p d = true → EvE c (relab scope.names σ) n (upd (seen scope.names Γ) x (.fz (g d))) true elt (f d))
    (hx : scope.names.lookup x = some .local := by decide +kernel) (H : (scope.names.lookup accName).isNone = true := by decide +kernel) :
    Comp c σ n Γ elt (.Name x px) iter [t] [] scope pos fin :=
  Comp.mapA [x] g (fun d => [g d]) p f ds T a (by simp [hx]) H (fun d _ Γ' => AsnC.name (relab_local hx)) (fun d hd => Tests.one (hT d hd)) hE hsz
theorem seen_at {names : List (Str × NameKind)} {x : Str} {r : Option Slot} (h : names.lookup x = some .free) (e : Γ x = r) : seen names Γ x = r := by unfold seen; rw [if_pos h, e]
/-- a comprehension's value -/
theorem EvE.compA {elt tgt iter : Expr} {ifs : List Expr} {rest : List Comprehension} {scope : Scope} {pos : Pos} {out : List D} (B : Comp c σ n Γ elt tgt iter ifs rest scope pos (.ol out)) (hk : scope.kind = .function := by rfl) (ho : okComp scope.names σ = true := by decide +kernel)
    (hnm : ∀ x ∈ scope.names, x.2 = .local → scope.names.lookup x.1 = some .local := by decide +kernel) (hs : ∀ env x, foldedSetIterable iter env x = pure x := by intro _ _; rfl) : EvE c σ n Γ m (.ListComp elt (⟨tgt, iter, ifs, 0⟩ :: rest) scope pos) (.list out) :=
  EvE.comp B ⟨hk, ho⟩ hnm hs
theorem Ex.compA {elt tgt iter : Expr} {ifs : List Expr} {rest : List Comprehension} {scope : Scope} {cpos py pos : Pos} {y : Str} {out : List D} (B : Comp c σ n Γ elt tgt iter ifs rest scope cpos (.ol out)) (hk : scope.kind = .function := by rfl) (ho : okComp scope.names σ = true := by decide +kernel)
    (hnm : ∀ x ∈ scope.names, x.2 = .local → scope.names.lookup x.1 = some .local := by decide +kernel) (hy : σ.lookup y = some .local ∨ σ.lookup y = some .cell := by decide +kernel) (hs : ∀ env x, foldedSetIterable iter env x = pure x := by intro _ _; rfl) :
    Ex c σ n Γ (.Assign [.Name y py] (.ListComp elt (⟨tgt, iter, ifs, 0⟩ :: rest) scope cpos) pos) (.next (upd Γ y (.fz (.list out)))) := Ex.compF B ⟨hk, ho⟩ hnm hy hs
/-- the same, the list being the variable's own -/
theorem Ex.compO {elt tgt iter : Expr} {ifs : List Expr} {rest : List Comprehension} {scope : Scope} {cpos py pos : Pos} {y : Str} {fin : Slot} (B : Comp c σ n Γ elt tgt iter ifs rest scope cpos fin) (hk : scope.kind = .function := by rfl) (ho : okComp scope.names σ = true := by decide +kernel)
    (hnm : ∀ x ∈ scope.names, x.2 = .local → scope.names.lookup x.1 = some .local := by decide +kernel) (hy : σ.lookup y = some .local ∨ σ.lookup y = some .cell := by decide +kernel) (hs : ∀ env x, foldedSetIterable iter env x = pure x := by intro _ _; rfl) :
    Ex c σ n Γ (.Assign [.Name y py] (.ListComp elt (⟨tgt, iter, ifs, 0⟩ :: rest) scope cpos) pos) (.next (upd Γ y fin)) := Ex.comp B ⟨hk, ho⟩ hnm hy hs
end
end Mine
end
-- C9
section
open PySem PyProof.Rows PySem.W
set_option Elab.async false
set_option linter.unusedVariables false
namespace Mine
section
variable {c : Cf} {σ : List (Str × NameKind)} {n : Nat} {Γ Γ₁ Γ₂ : Vars} {m : Bool} {d d₁ d₂ : D}
theorem cmp_bool_eq {a b : Bool} : CmpV c .Eq (.bool a) (.bool b) (a == b) := fun P A s v₁ v₂ R G r₁ r₂ => by
  (obtain rfl := r₁.invBool; (obtain rfl := r₂.invBool; exact PyProof.Rows.eq_bool ⟨.refl s, rfl⟩))
theorem cmp_bool_ne {a b : Bool} : CmpV c .NotEq (.bool a) (.bool b) (a != b) := fun P A s v₁ v₂ R G r₁ r₂ => by
  (obtain rfl := r₁.invBool; (obtain rfl := r₂.invBool; exact PyProof.Rows.ne_bool ⟨.refl s, rfl⟩))
/-- isinstance(e, tuple) of an int -/
theorem EvE.isi {f T : Str} {np tp pos : Pos} {e : Expr} {a : Int} (hx : σ.lookup f = some .globalImplicit) (hg : nsIn c.K mainGlobals f = some none) (hv : bootBuiltins f = some (.builtin "isinstance")) (hn : f ≠ "__name__")
    (hxT : σ.lookup T = some .globalImplicit) (hgT : nsIn c.K mainGlobals T = some none) (hvT : bootBuiltins T = some (.type "tuple")) (hnT : T ≠ "__name__")
    (hk : keeperOf (.builtin "isinstance") = pure .machine) (x : EvE c σ n Γ m e (.int a)) (hd : (f == ("__debug__" : Str)) = false := by decide +kernel) (hdT : (T == ("__debug__" : Str)) = false := by decide +kernel)
    (he : ∀ env, starEach [e, .Name T tp] env = (false, eval e env) :: starEach [.Name T tp] env := by intro _; rfl) (hplain : ∀ env pos, (backTo pos (starEach [.Name T tp] env)).any (·.1) = false := by intro _ _; rfl) :
    EvE c σ n Γ m (.Call (.Name f np) [e, .Name T tp] [] pos) (.bool false) :=
  fun env U V A s E R I => by
    refine wpAny_Call_NameR (load_blt E I.gk hx hg hv hn ?_ hd)
    have b' : wpAny c.M A (spliced (backTo pos (starEach [e, .Name T tp] env))) (fun vs s' => Grow s s' ∧ ∃ v, vs = [v, .type "tuple"] ∧ c.Rep s'.heap (PM m U V) v (.int a)) NoE s := by
      refine wpAny_items_cons (wpAny_mono (x env U V A s E R I) (fun v s₁ y => ?_) fun _ _ z => z) (he env)
      refine wpAny_items_cons (load_blt E (I.keep y.1.2).gk hxT hgT hvT hnT ?_ hdT) rfl
      exact wpAny_items_nil ⟨y.1, v, rfl, y.2⟩
    rw [he env] at b' ⊢
    refine callWith_of (P := fun _ => True) (by show ((false || (backTo pos (starEach [.Name T tp] env)).any (·.1)) || false) = false; rw [hplain]; rfl) (fun h _ => ⟨.machine, .inr (.inl rfl), Looks.of_pure hk⟩) (Calls.evalArgs_plain ?_)
    refine wpAny_mono b' (fun vs s₁ y => ⟨trivial, ?_⟩) fun _ _ z => z
    obtain ⟨g, v, rfl, r⟩ := y
    exact wpAny_mono (isi_int _ A s₁ v (R.le (Nat.zero_le _)) r) (fun r s₂ z => ⟨g.trans z.1, by rw [z.2]; exact .bool⟩) fun _ _ z => z
theorem Fors.foldQ {α β : Type} {tgt : Expr} {t : Bool} {body : List Stmt} (g : α → D) (Γs : β → Vars) (step : β → α → β) (I : List α → β → Prop)
    (ht : t = true → ∃ es k p, tgt = .Tuple es k p) : ∀ (xs : List α) (b : β), I xs b → (∀ b x r, I (x :: r) b → I r (step b x)) →
    (∀ b x r, x ∈ xs → I (x :: r) b → ∃ Γ₁ Γ₂, Asn c σ n (Γs b) tgt (g x) Γ₁ ∧ Exs c σ n Γ₁ body (.next Γ₂) ∧ (∀ y sl, Γs (step b x) y = some sl → Γ₂ y = some sl)) →
    Fors c σ n (Γs b) tgt t body (xs.map g) (.next (Γs (xs.foldl step b)))
  | [], b, _, _, _ => Fors.nil
  | x :: xs, b, i, k, h => by
    obtain ⟨Γ₁, Γ₂, a, e, s⟩ := h b x xs List.mem_cons_self i
    exact Fors.cons a e (Fors.sub s (Fors.foldQ g Γs step I ht xs (step b x) (k b x xs i) k fun b y r hy => h b y r (List.mem_cons_of_mem _ hy))) ht
end
/-- a table of numbers, as data -/
noncomputable def dT (kvs : List (Str × Int)) : List (Str × D) := kvs.map fun p => (p.1, D.int p.2)
theorem dget_dT (kvs : List (Str × Int)) (k : Str) : dget (dT kvs) k = (dget kvs k).map D.int := by
  unfold dget dT
  induction kvs with
  | nil => rfl
  | cons p r ih =>
    rw [List.map_cons, List.find?_cons, List.find?_cons]
    by_cases h : p.1 = k
    · simp [h]
    · simp only [h, decide_false]; exact ih
theorem put_dT (kvs : List (Str × Int)) (k : Str) (v : Int) : put (dT kvs) k (.int v) = dT (put kvs k v) := by
  unfold put dT
  have : (kvs.map fun p => (p.1, D.int p.2)).any (fun kv => kv.1 = k) = kvs.any (fun kv => kv.1 = k) := by rw [List.any_map]; rfl
  rw [this]
  split
  · rw [List.map_map, List.map_map]
    apply List.map_congr_left
    intro p _
    simp only [Function.comp]
    split <;> rfl
  · rw [List.map_append]; rfl
theorem put_len {α : Type} (kvs : List (Str × α)) (k : Str) (v : α) : (put kvs k v).length ≤ kvs.length + 1 := by
  unfold put; split <;> simp
theorem dT_len (kvs : List (Str × Int)) : (dT kvs).length = kvs.length := by simp [dT]
end Mine
end
-- D1
section
open PySem PySem.W PyProof.Rows
set_option Elab.async false
set_option linter.unusedVariables false
set_option maxRecDepth 100000
namespace Mine
theorem plainAttrs_pat : PlainAttrs "re.Pattern" :=
  ⟨⟨"object.__getattribute__", by rw [typeLookup_type, builtinLookup_eq_fast]; kernel_rfl, by decide +kernel⟩, by rw [typeLookup_type, builtinLookup_eq_fast]; kernel_rfl⟩
theorem slot_search : PySem.Slot "re.Pattern" "search" "re.Pattern.search" :=
  .of (owner := "re.Pattern") (n := "search") (by rw [typeLookup_type, builtinLookup_eq_fast]; kernel_rfl) (by decide +kernel) (by decide +kernel) (by decide +kernel)
    (by first | exact .inl (by decide +kernel) | exact .inr (by decide +kernel)) (by rw [isSubtype_type]; kernel_rfl)
theorem type_search : typeOf (.builtin "re.Pattern.search") = pure (.type "method_descriptor") := by show builtinType _ = _; rw [builtinType_eq_fast]; kernel_rfl
theorem entry_search : entryFor table "re.Pattern.search" = some Builtin.«re.Pattern.search» := entryFor_of_tree (by kernel_rfl)
theorem owner_pat : Manifest.owners.lookup (String.ofList ['n', 'r', 'e', 't', 't', 'a', 'P', '.', 'e', 'r'].reverse) = some Manifest.sig_re_Pattern := by kernel_rfl
theorem args_search (a b : Value) : argsOk "re.Pattern.search" ⟨[a, b], []⟩ := by
  unfold argsOk; rw [signature?_of (id := "re.Pattern.search") (n := ['h', 'c', 'r', 'a', 'e', 's']) (o := ['n', 'r', 'e', 't', 't', 'a', 'P', '.', 'e', 'r']) (by kernel_rfl) owner_pat]; kernel_rfl
theorem noBool_match : typeLookup (.type "re.Match") "__bool__" = pure none := by rw [typeLookup_type, builtinLookup_eq_fast]; kernel_rfl
theorem noLen_match : typeLookup (.type "re.Match") "__len__" = pure none := by rw [typeLookup_type, builtinLookup_eq_fast]; kernel_rfl
noncomputable def ipCode : Array Nat := #[14, 8, 1, 2, 4294967295, 1, 1, 46, 0, 16, 46, 24, 9, 1, 4294967295, 13, 4, 8, 0, 0, 1, 6, 5, 1]
noncomputable def sreM (x : Str) : Sre.M := Sre.forSearch ipCode x.cps 0 0 x.cps.size false
noncomputable def isF : Option Sre.Outcome → Bool | some .failed => true | _ => false
noncomputable def isM : Option Sre.Outcome → Bool | some .matched => true | _ => false
theorem runFor_add : ∀ (a b : Nat) (m : Sre.M), m.runFor (a + b) = (m.runFor a).runFor b
  | 0, b, m => by simp [Sre.M.runFor]
  | a + 1, b, m => by
    rw [Nat.succ_add]
    show (if m.outcome.isSome then m else Sre.M.runFor (a + b) m.step) = Sre.M.runFor b (if m.outcome.isSome then m else Sre.M.runFor a m.step)
    split
    · rename_i h
      cases b with
      | zero => rfl
      | succ b => show m = if m.outcome.isSome then m else _; rw [if_pos h]
    · exact runFor_add a b m.step
section
variable {M : Model} {A : Around} {E : Value → Shared → Prop} {s : Shared}
theorem drive_any {Q : Sre.M → Shared → Prop} : ∀ (k n : Nat) (m : Sre.M), k < n → (m.runFor (4 * (k + 1))).outcome.isSome = true → (∀ m', m'.outcome = (m.runFor (4 * (k + 1))).outcome → Q m' s) → wpAny M A (Builtin.Re.reDrive n m) Q E s := by
  intro k
  induction k with
  | zero =>
    intro n m hk h hQ
    obtain ⟨n, rfl⟩ : ∃ n', n = n' + 1 := ⟨n - 1, by omega⟩
    show wpAny M A (if (m.runFor 4).outcome.isSome then pure (m.runFor 4) else do rule "sre.turn"; Builtin.Re.reDrive n (m.runFor 4)) Q E s
    rw [if_pos h]
    exact wpAny_pure (hQ _ rfl)
  | succ k ih =>
    intro n m hk h hQ
    obtain ⟨n, rfl⟩ : ∃ n', n = n' + 1 := ⟨n - 1, by omega⟩
    show wpAny M A (if (m.runFor 4).outcome.isSome then pure (m.runFor 4) else do rule "sre.turn"; Builtin.Re.reDrive n (m.runFor 4)) Q E s
    have e : m.runFor (4 * (k + 1 + 1)) = (m.runFor 4).runFor (4 * (k + 1)) := by rw [← runFor_add]; congr 1; omega
    rw [e] at h hQ
    by_cases h4 : (m.runFor 4).outcome.isSome
    · rw [if_pos h4]
      refine wpAny_pure (hQ _ ?_)
      have : ∀ j, (m.runFor 4).runFor j = m.runFor 4 := by
        intro j
        cases j with
        | zero => rfl
        | succ j => show (if (m.runFor 4).outcome.isSome then m.runFor 4 else _) = _; rw [if_pos h4]
      rw [this]
    · rw [if_neg h4]
      exact wpAny_bind (wpAny_rule (ih n _ (by omega) h hQ))
theorem named_search (v : Value) : Builtin.Re.reNamed "re.Pattern.search" "search" ["string", "pos", "endpos"] 1 [v] [] = pure [some v, none, none] := by
  rfl
theorem runEnd_any {Q : Option Sre.M → Shared → Prop} {m : Sre.M} (k : Nat) (hk : k < 2 ^ 64) (h : isF (m.runFor (4 * (k + 1))).outcome = true ∧ Q none s ∨ isM (m.runFor (4 * (k + 1))).outcome = true ∧ ∀ m', Q (some m') s) :
    wpAny M A (Builtin.Re.reRunToEnd m) Q E s := by
  have hs : (m.runFor (4 * (k + 1))).outcome.isSome = true := by
    rcases h with ⟨h, _⟩ | ⟨h, _⟩ <;> revert h <;> cases (m.runFor (4 * (k + 1))).outcome <;> simp [isF, isM]
  unfold Builtin.Re.reRunToEnd
  refine wpAny_bind (drive_any k (2 ^ 64) m hk hs fun m' e => ?_)
  refine wpAny_bind ?_
  refine wpAny_forIn_list _ (fun _ _ s' => s' = s) _ (fun x r b s' q => ?_) (fun b s' q => ?_) _ _ rfl
  · subst q
    split
    · exact wpAny_bind (wpAny_rule (wpAny_pure rfl))
    · exact wpAny_pure rfl
  · subst q
    rw [e]
    rcases h with ⟨h, q⟩ | ⟨h, q⟩
    · revert h
      cases (m.runFor (4 * (k + 1))).outcome with
      | none => simp [isF]
      | some o => cases o <;> simp [isF]; exact wpAny_pure q
    · revert h
      cases (m.runFor (4 * (k + 1))).outcome with
      | none => simp [isM]
      | some o => cases o <;> simp [isM]; exact wpAny_pure (q _)
/-- the pattern as it lies in the heap -/
structure PatAt (h : Heap) (p l : Addr) : Prop where
  pat : ∃ o, h.get? p = some o ∧ o.data = .fields #[Value.str (Str.ofString "\\.\\d+$") 285, Value.int 256 312, Value.int 0 0, Value.none, Value.none, Value.ref l, Value.int 0 0]
  code : ∃ o n, h.get? l = some o ∧ o.data = .seq (ipCode.map fun (k : Nat) => Value.int (k : Int) 0) n
theorem code_back : (((ipCode.map fun (k : Nat) => Value.int (k : Int) 0).map Builtin.Re.reRawOf).map (·.toNat)) = ipCode := by decide +kernel
theorem target_search {p l : Addr} {x : Str} {t : Tok} {Q : Builtin.Re.ReTarget → Shared → Prop} (H : PatAt s.heap p l) (hsz : x.length < 2 ^ 60)
    (h : Q ⟨.ref p, .str x t, ipCode, x.cps, 0, 0, 0, x.cps.size⟩ s) : wpAny M A (Builtin.Re.reTarget "re.Pattern.search" "search" ⟨[.ref p, .str x t], []⟩) Q E s := by
  obtain ⟨⟨o, ho, hd⟩, ol, n, hol, hdl⟩ := H
  unfold Builtin.Re.reTarget
  dsimp only
  rw [named_search]
  refine wpAny_bind (wpAny_pure ?_)
  dsimp only
  refine wpAny_bind (wpAny_pure ?_)
  refine wpAny_bind (wpAny_pure ?_)
  refine wpAny_bind (wpAny_fieldsOf ho hd ?_)
  refine wpAny_bind ?_
  unfold Builtin.Re.reTextOf
  refine wpAny_bind (wpAny_pure ?_)
  refine wpAny_pure ?_
  show wpAny M A (do
    Builtin.Re.reNoCollectionInside (.str x t) 0
    let __do_lift ← Builtin.Re.reRawItems (.ref l)
    pure ({ pattern := Value.ref p, string := .str x t, code := Array.map (fun x => x.toNat) __do_lift, text := x.cps, kind := 0, groups := 0, pos := min (Int.toNat 0) x.cps.size, lim := min (Int.toNat (2 ^ 63 - 1)) x.cps.size } : Builtin.Re.ReTarget)) _ _ _
  refine wpAny_bind ?_
  show wpAny M A (pure ()) _ _ _
  refine wpAny_pure ?_
  refine wpAny_bind ?_
  unfold Builtin.Re.reRawItems
  refine wpAny_bind (wpAny_seqItems hol hdl (wpAny_pure (wpAny_pure ?_)))
  have e1 : min (Int.toNat 0) x.cps.size = 0 := by simp
  have e2 : min (Int.toNat (2 ^ 63 - 1)) x.cps.size = x.cps.size := by
    have : x.cps.size < 2 ^ 60 := hsz
    have : (2 ^ 63 - 1 : Int).toNat = 9223372036854775807 := by decide
    rw [this]; omega
  rw [e1, e2, Option.getD_some, code_back]
  exact h
theorem body_search {p l : Addr} {x : Str} {t : Tok} {Q : Fin → Shared → Prop} (H : PatAt s.heap p l) (k : Nat) (hk : k < 2 ^ 64) (hsz : x.length < 2 ^ 60)
    (h : isF ((sreM x).runFor (4 * (k + 1))).outcome = true ∧ Q (.done (.ret .none)) s ∨ isM ((sreM x).runFor (4 * (k + 1))).outcome = true ∧
      ∀ s' a, Grow s s' → (s.heap.get? a = none) → s'.TypeIs (.ref a) "re.Match" → Q (.done (.ret (.ref a))) s') :
    wpAny M A (Builtin.«re.Pattern.search» ⟨[.ref p, .str x t], []⟩) Q E s := by
  unfold Builtin.«re.Pattern.search»
  refine wpAny_bind (target_search H hsz ?_)
  unfold Builtin.Re.reAnswer
  refine wpAny_bind ?_
  refine runEnd_any (m := sreM x) k hk ?_
  rcases h with h | h
  · exact .inl ⟨h.1, wpAny_pure h.2⟩
  · refine .inr ⟨h.1, fun m' => ?_⟩
    have q := h.2
    clear h H
    refine wpAny_bind ?_
    unfold Builtin.Re.reNewMatch
    simp only [List.range_zero, List.any_nil, List.flatMap_nil, Bool.false_eq_true, if_false]
    refine wpAny_bind (wpAny_newTuple ?_)
    refine wpAny_newObj_type (wpAny_pure ?_)
    refine q _ _ ⟨⟨_, _, rfl⟩, fun b o e => push_keep _ _ b o (push_keep _ _ b o e)⟩ ?_ ⟨_, Heap.get?_push_size _ rfl, rfl⟩
    have : s.heap.get? (s.heap.push { cls := .type "tuple", data := .seq ([rawInt m'.start, rawInt m'.handed] : List Value).toArray }).objs.size = none := by
      cases e : s.heap.get? (s.heap.push { cls := .type "tuple", data := .seq ([rawInt m'.start, rawInt m'.handed] : List Value).toArray }).objs.size with
      | none => rfl
      | some o => exact absurd (Nat.lt_trans (Nat.lt_of_lt_of_eq (Nat.lt_succ_self _) (Heap.size_push ..).symm) (Heap.lt_size e)) (Nat.lt_irrefl _)
    exact this
theorem truthy_match {a : Addr} {Q : Bool → Shared → Prop} (h : s.TypeIs (.ref a) "re.Match") (q : Q true s) : wpAny M A (truthy (.ref a)) Q E s := by
  unfold truthy
  refine wpAny_bind (wpAny_callSpecial?_none (name := Str.ofString "__bool__") h noBool_match ?_)
  refine wpAny_bind (wpAny_specialOf (name := Str.ofString "__len__") h noLen_match ?_)
  exact wpAny_pure q
end
section
variable {c : Cf} {σ : List (Str × NameKind)} {n : Nat} {Γ Γ₁ Γ₂ : Vars} {m : Bool} {d d₁ d₂ : D}
/-- what the search answers -/
noncomputable def Hit (x : Str) (b : Bool) : Prop := ∃ k, k < 2 ^ 64 ∧ (b = false ∧ isF ((sreM x).runFor (4 * (k + 1))).outcome = true ∨ b = true ∧ isM ((sreM x).runFor (4 * (k + 1))).outcome = true)
theorem EvT.search {f : Str} {p l : Addr} {e : Expr} {x : Str} {b : Bool} {np ap pos : Pos} (a : EvE c σ n Γ true e (.str x)) (hb : Hit x b) (hsz : x.length < 2 ^ 60)
    (hx : σ.lookup f = some .globalImplicit) (hv : nsIn c.K mainGlobals f = some (some (.ref p))) (H : ∀ h, Gk c.K h → PatAt h p l ∧ ∃ ob, h.get? p = some ob ∧ ob.dict = none ∧ ob.cls = .type "re.Pattern")
    (hd : (f == ("__debug__" : Str)) = false := by decide +kernel)
    (hbase : ∀ env, attributeBase (.Name f np) "search" env (eval (.Name f np) env) = eval (.Name f np) env := by intro _; rfl) (hline : (ap.endLine == pos.line) = true := by rfl)
    (he : ∀ env, starEach [e] env = [(false, eval e env)] := by intro _; rfl)
    (hfew : ∀ env, ((backTo pos (starEach [e] env)).all (fun x => !x.1) && (backToKw pos (keywordEach [] env)).all (fun x => x.1.isSome)
      && decide ([e].length + ([] : List Keyword).length + (if ([] : List Keyword).isEmpty then 0 else 1) < 30)) = true := by intro _; rfl)
    (ht : ∀ env whole, isTrue (.Call (.Attribute (.Name f np) "search" ap) [e] [] pos) env whole = (do let v ← whole; standAt pos; holding [v] (truthy v)) := by intro _ _; rfl) :
    EvT c σ n Γ (.Call (.Attribute (.Name f np) "search" ap) [e] [] pos) b := fun env U V A s E R I => by
  rw [ht]
  refine wpAny_bind ?_
  have G := I.gk
  obtain ⟨PA, ob, hob, hdict, hcls⟩ := H _ G
  refine wpAny_Call_method (T := "re.Pattern") (hbase env) (hfew env) hline plainAttrs_pat slot_search type_search (load_glob E G hx hv ?_ hd)
  refine ⟨⟨ob, hob, hcls⟩, fun b e => by cases e; exact ⟨ob, hob, hdict⟩, ?_⟩
  have b' := EvEs.cons a EvEs.nil (he := he) env U V A s pos E R I
  rw [he] at b' ⊢
  refine Calls.callWith_builtin (by rfl) (Calls.evalArgs_plain ?_)
  refine wpAny_mono b' (fun vs s₁ y => ?_) fun _ _ z => z
  obtain ⟨v, rfl, q⟩ := one_arg y.2
  cases q with
  | @str _ t =>
    have G₁ := G.keep y.1.2
    obtain ⟨PA₁, ob₁, hob₁, hdict₁, hcls₁⟩ := H _ G₁
    refine wpAny_call_entry slot_search ⟨ob₁, hob₁, hcls₁⟩ entry_search ?_ (args_search _ _)
    obtain ⟨k, hk, hb⟩ := hb
    refine body_search PA₁ k hk hsz ?_
    rcases hb with ⟨rfl, hb⟩ | ⟨rfl, hb⟩
    · refine .inl ⟨hb, _, rfl, ?_⟩
      refine wpAny_bind (wpAny_standAt ?_)
      exact wpAny_holding (wpAny_pure ⟨y.1, rfl⟩)
    · refine .inr ⟨hb, fun s₂ am g hn hT => ⟨_, rfl, ?_⟩⟩
      refine wpAny_bind (wpAny_standAt ?_)
      exact wpAny_holding (truthy_match hT ⟨y.1.trans g, rfl⟩)
end
end Mine
end
-- D2
section
open PySem PyProof.Rows PySem.W
set_option Elab.async false
set_option linter.unusedVariables false
namespace Mine
section
variable {c : Cf} {σ : List (Str × NameKind)} {n : Nat} {Γ Γ₁ Γ₂ : Vars} {m : Bool} {d d₁ d₂ : D}
theorem DictsAt.at {h : Heap} {P : Addr → Prop} {bs : List Addr} {dss : List (List (Str × D))} (x : DictsAt c h P bs dss) : ∀ {i : Nat} {ds : List (Str × D)}, dss[i]? = some ds →
    ∃ b kvs, bs[i]? = some b ∧ c.SDict h b kvs ∧ c.RepsK h P kvs ds := by
  induction x with
  | nil => intro i ds e; simp at e
  | cons sd r _ ih =>
    intro i ds e
    cases i with
    | zero => simp at e; subst e; exact ⟨_, _, rfl, sd, r⟩
    | succ i => simp at e; obtain ⟨b, kvs, q⟩ := ih e; exact ⟨b, kvs, by simpa using q.1, q.2⟩
theorem DictsAt.setAt {h h' : Heap} {P : Addr → Prop} {bs : List Addr} {dss : List (List (Str × D))} (x : DictsAt c h P bs dss) : ∀ {i : Nat} {b : Addr} {kvs : List (Str × Value)} {ds : List (Str × D)}, bs.Nodup → bs[i]? = some b → c.SDict h' b kvs → c.RepsK h' P kvs ds →
    (∀ a o, a ≠ b → h.get? a = some o → h'.get? a = some o) → (¬ P b) → DictsAt c h' P bs (dss.set i ds) := by
  induction x with
  | nil => intro i b kvs ds _ e; simp at e
  | @cons b₀ kvs₀ ds₀ bs dss sd r x ih =>
    intro i b kvs ds nd e sd' r' k hp
    obtain ⟨nm, nd⟩ := List.nodup_cons.mp nd
    cases i with
    | zero =>
      simp at e; subst e
      refine .cons sd' r' (x.move (fun a ha o e => k a o (fun q => nm (q ▸ ha)) e) (fun a o p e => k a o (fun q => hp (q ▸ p)) e) fun _ p => p)
    | succ i =>
      simp at e
      have hb : b ∈ bs := List.mem_of_getElem? e
      refine .cons (dictOf_at sd fun o e => k _ o (fun q => nm (q ▸ hb)) e) (r.move (fun a o p e => k a o (fun q => hp (q ▸ p)) e) fun _ p => p) (ih nd e sd' r' k hp)
/-- x[i][k] = e, x a list of dicts of its own -/
theorem Ex.setnest {x : Str} {px tp' tp pos : Pos} {e i k : Expr} {dss : List (List (Str × D))} {ds : List (Str × D)} {j : Int} {key : Str} {dv : D} (hΓ : Γ x = some (.ld dss)) (hx : σ.lookup x = some .local ∨ σ.lookup x = some .cell ∨ σ.lookup x = some .free)
    (a : EvE c σ n Γ true e dv) (bi : EvE c σ n Γ true i (.int j)) (bk : EvE c σ n Γ true k (.str key)) (h0 : 0 ≤ j) (hfit : j < 2 ^ 63) (hg : dss[j.toNat]? = some ds) (hsz : ds.length ≤ sizeLine)
    (hn : (x == ("__classdict__" : Str)) = false := by decide) (hd : (x == ("__debug__" : Str)) = false := by decide)
    (hi : ∀ o v, subscripted i false o v = operate [o, v] (getItem o v) := by intro _ _; rfl)
    (hs : ∀ env : Env, swapsWith e (some (.Subscript (.Subscript (.Name x px) i tp') k tp)) pos.line env = pure false := by intro _; rfl) :
    Ex c σ n Γ (.Assign [.Subscript (.Subscript (.Name x px) i tp') k tp] e pos) (.next (upd Γ x (.ld (dss.set j.toNat (put ds key dv))))) :=
  fun env U V A s E R I => by
    refine wpAny_Assign_Subscript (wpAny_mono (a env U V A s E R I) (fun vv s₁ y => ?_) fun _ _ z => z) (hs env)
    have I' := I.keep y.1.2
    have I'' := I'
    obtain ⟨ρ, os, J⟩ := I'
    obtain ⟨v, hv, r⟩ := J.var x _ hΓ
    refine Subscript_ (wpAny_Name (frame_load E J.fr hx hv ?_ hn) hd)
    refine wpAny_mono (bi env U V A s₁ E R I'') (fun vi s₂ z => ?_) fun _ _ z => z
    have r₂ := r.move (fun b _ o e => z.1.2 b o e) (fun b o _ e => z.1.2 b o e) fun _ p => p
    have I₂ := I''.keep z.1.2
    have rvi := z.2
    generalize hos : os x = osx at r₂
    have hown := J.own x _ hΓ
    have hnd := J.nd x _ hΓ
    rw [hos] at hown hnd
    cases r₂ with
    | @ld l bs _ hl dd =>
      obtain ⟨b, kvs, hb, sd, rk⟩ := dd.at hg
      obtain ⟨t, rfl⟩ := rvi.invInt
      refine tail_any hl.typeIs slot_list_getitem.lookup (wpAny_getItem_list hl h0 hfit (by simp [hb]; rfl) ?_) (hi _ _)
      refine wpAny_mono (bk env U V A s₂ E R I₂) (fun vk s₃ q => ?_) fun _ _ z => z
      cases q.2 with
      | @str _ t' =>
        have k3 := q.1.2
        have sd3 := dictOf_at sd fun o e => k3 _ _ e
        have hbm : b ∈ l :: bs := List.mem_cons_of_mem _ (List.mem_of_getElem? hb)
        refine wpAny_setItem_pairs (knd := strKind c.prog c.w) (k := key) (by simp [PySem.strKind, Value.isStrOf]) sd3.1 (fun h' d' hs' => ?_) (by rw [rk.length]; exact hsz)
        have kk : ∀ b' o, b' ≠ b → s₃.heap.get? b' = some o → h'.get? b' = some o := fun b' o hb e => hs'.extBut b' o hb e
        have hlb : l ≠ b := fun q => (List.nodup_cons.mp hnd).1 (q ▸ List.mem_of_getElem? hb)
        have hp : ¬ Cl U V b := fun p => p.2 (hown b hbm).1
        have rv₃ : c.Rep s₃.heap (Cl U V) vv dv := ((y.2.keep z.1.2).keep k3).mono fun _ p => ⟨p.1, p.2 rfl⟩
        have hmm : SlotRep c h' (Cl U V) (.ref l) (.ld (dss.set j.toNat (put ds key dv))) (os x) := by
          rw [hos]
          refine .ld (hl.at fun o e => kk _ _ hlb (k3 _ _ e)) ?_
          have dd3 : DictsAt c s₃.heap (Cl U V) bs dss := dd.move (fun b _ o e => k3 b o e) (fun b o _ e => k3 b o e) fun _ p => p
          exact dd3.setAt (List.nodup_cons.mp hnd).2 hb ⟨d', sd3.2⟩ (((rk.keep k3).put rv₃).move (fun b' o p e => kk b' o (fun q => hp (q ▸ p)) e) fun _ p => p) kk hp
        have sm : Same s₃ { s₃ with heap := h', toks := s₃.toks } := ⟨h', _, rfl⟩
        refine Left.trans y.1.1 (fun b o _ e => y.1.2 b o e) (fun _ q => .inl q) (mutate_left J (z.1.trans q.1) ⟨h', _, rfl⟩ hΓ (by rw [hos]; exact hbm) kk hv hmm)
end
end Mine
end
-- D3
section
open PySem PyProof.Rows PySem.W
set_option Elab.async false
set_option linter.unusedVariables false
namespace Mine
section
variable {c : Cf} {σ : List (Str × NameKind)} {n : Nat} {Γ Γ₁ Γ₂ : Vars} {m : Bool} {d d₁ d₂ : D}
theorem Inv.shut1 {env : Env} {U V : Addr → Prop} {h h' : Heap} {a : Addr} (I : Inv c env U V Γ h) (hk : Keep h h') (hn : h.get? a = none) (hd : Dom h' a) : Inv c env (fun b => U b ∨ b = a) V Γ h' := by
  obtain ⟨ρ, os, J⟩ := I
  refine ⟨ρ, os, J.shut hk fun b q => ?_⟩
  rcases q with q | rfl
  · exact ⟨.inl q, (J.ud b q).keep hk⟩
  · exact ⟨.inr hn, hd⟩
/-- {k: v} -/
theorem EvE.dict1 {ek ev : Expr} {key : Str} {pos : Pos} (a : EvE c σ n Γ m ek (.str key)) (b : EvE c σ n Γ m ev d) : EvE c σ n Γ m (.Dict [some ek] [ev] pos) (.dict [(key, d)]) := fun env U V A s E R I => by
  have hk0 := push_keep s.heap { cls := .type "dict", data := .dict #[] }
  have hn0 := heap_size_none s.heap
  have hd0 : Dom (s.heap.push { cls := .type "dict", data := .dict #[] }) s.heap.objs.size := ⟨_, Heap.get?_push_size _ rfl⟩
  have I' := I.shut1 hk0 hn0 hd0
  refine wpAny_Dict_walk (knd := strKind c.prog c.w) rfl rfl (by simp) (by simp) ?_
  refine pairTrees_cons_walk (wpAny_mono (a env _ V A { s with heap := s.heap.push { cls := .type "dict", data := .dict #[] } } E R I') (fun vk s₁ x => ?_) fun _ _ z => z)
  refine wpAny_mono (b env _ V A s₁ E R (I'.keep x.1.2)) (fun vv s₂ y => ?_) fun _ _ z => z
  refine pairTrees_nil_walk ?_
  cases x.2 with
  | @str _ t =>
    have g : Keep s.heap s₂.heap := fun b o e => y.1.2 b o (x.1.2 b o (hk0 b o e))
    have sd : c.SDict s₂.heap s.heap.objs.size [] := dictOf_at (newDict_s I.gk) fun o e => y.1.2 _ o (x.1.2 _ o e)
    refine ⟨[(key, vv)], ?_, sd.1, fun h' hm hs => ⟨⟨?_, fun b o e => ?_⟩, ?_⟩⟩
    · exact ⟨by simp [PySem.strKind, Value.isStrOf], rfl, trivial⟩
    · exact (Same.trans (⟨_, _, rfl⟩ : Same s { s with heap := s.heap.push { cls := .type "dict", data := .dict #[] } }) (x.1.1.trans y.1.1)).trans ⟨h', _, rfl⟩
    · refine hs.extBut b o (fun q => ?_) (g b o e)
      rw [q, hn0] at e; cases e
    · refine .dict (kvs := [(key, vv)]) ⟨hm, sd.2⟩ (fresh_pm I m _ hn0) (.cons ?_ .nil)
      exact y.2.move (fun b o p e => hs.extBut b o (fun q => p.1 (.inr q)) e) fun b p => ⟨fun q => p.1 (.inl q), p.2⟩
end
-- a list is unpacked into a row of targets
section
variable {prog : Program} {w : World} {A : Around} {E : Value → Shared → Prop} {s : Shared}
theorem draw_list {it t : Addr} {items : Array Value} (hne : t ≠ it) : ∀ (n i : Nat) (s : Shared) (Q : List Value → Shared → Prop), s.heap.IsListIter it t i → s.heap.IsList t items → i + n ≤ items.size →
    (∀ h', h'.IsListIter it t (i + n) → Heap.SameBut it s.heap h' → Q ((items.toList.drop i).take n) { s with heap := h' }) → wpAny (model prog w) A (draw (.ref it) n) Q E s
  | 0, i, s, Q, hit, _, _, hQ => by
    show wpAny _ _ (pure []) Q E s
    exact wpAny_pure (by simpa using hQ s.heap hit (Heap.SameBut.refl ..))
  | n + 1, i, s, Q, hit, ht, hle, hQ => by
    have hlt : i < items.size := by omega
    show wpAny _ _ (pyNext (.ref it) >>= _) Q E s
    refine wpAny_bind (wpAny_pyNext_list_item hit ht (x := items[i]) (by simp [hlt]) fun h₁ hit₁ hs₁ => ?_)
    refine wpAny_bind (wpAny_holding (draw_list hne n (i + 1) _ _ hit₁ (ht.extBut hs₁.extBut hne) (by omega) fun h₂ hit₂ hs₂ => wpAny_pure ?_))
    have hd : items.toList.drop i = items[i] :: items.toList.drop (i + 1) := by simp [List.drop_eq_getElem_cons, hlt]
    have := hQ h₂ (by rw [show i + (n + 1) = i + 1 + n by omega]; exact hit₂) (hs₁.trans hs₂)
    rw [hd, List.take_succ_cons] at this
    exact this
theorem unpackItems_list {t : Addr} {items : Array Value} {Q : List Value → Shared → Prop} (hh : A.handled = none) (ht : s.heap.IsList t items)
    (hQ : ∀ h', Heap.ExtBut s.heap.objs.size s.heap h' → Q items.toList { s with heap := h' }) : wpAny (model prog w) A (unpackItems (.ref t) items.size none) Q E s := by
  have hlt : t ≠ s.heap.objs.size := by obtain ⟨o, ho, _⟩ := ht; exact Nat.ne_of_lt (Heap.lt_size ho)
  unfold unpackItems
  refine wpAny_bind ?_
  · unfold notIterableAtAll
    refine wpAny_bind (wpAny_specialOf ht.typeIs F.slot_list_iter.lookup ?_)
    refine wpAny_pure ?_
    simp only [Bool.false_eq_true, if_false]
    refine wpAny_bind (wpAny_holding (wpAny_pyIter_list ht ?_))
    refine wpAny_bind (wpAny_holding (draw_list hlt items.size 0 _ _ ⟨_, Heap.get?_push_size _ rfl, rfl, rfl⟩ (ht.push _) (by omega) fun h₁ hit₁ hs₁ => ?_))
    have hall : List.take items.size (List.drop 0 items.toList) = items.toList := by
      rw [List.drop_zero]; exact List.take_of_length_le (by simp)
    rw [hall]
    rw [if_neg (by simp)]
    have ht₁ : h₁.IsList t items := (ht.push _).extBut hs₁.extBut hlt
    refine wpAny_bind (wpAny_holding (wpAny_pyNext_list_end hh hit₁ ht₁ (by simp) fun h₂ he₂ => ?_))
    simp only [Option.isSome_none, Bool.false_eq_true, if_false]
    refine wpAny_pure (hQ h₂ fun b o hb e => he₂ b o hb (hs₁.extBut b o hb (Heap.get?_push_of_some _ e)))
theorem unpack_list {t : Addr} {items : Array Value} {targets : List (Bool × (Value → Sem Unit))} {Q : Unit → Shared → Prop} (hh : A.handled = none) (ht : s.heap.IsList t items)
    (hn : targets.length = items.size) (hstar : targets.findIdx? (·.1) = none)
    (h : ∀ h', Heap.ExtBut s.heap.objs.size s.heap h' → wpAny (model prog w) A (assignInOrder (targets.map (·.2)) items.toList) Q E { s with heap := h' }) :
    wpAny (model prog w) A (unpack (.ref t) targets) Q E s := by
  unfold unpack
  rw [hn, hstar]
  exact wpAny_bind (wpAny_holding (unpackItems_list hh ht h))
end
section
variable {c : Cf} {σ : List (Str × NameKind)} {n : Nat} {Γ Γ₁ Γ₂ : Vars} {m : Bool} {d d₁ d₂ : D}
theorem Asn.tupleL {ts : List Expr} {ds : List D} {k : Nat} {pos : Pos} (b : AsnL c σ n Γ ts ds Γ₁) (hn : ∀ env, (assignEach ts env).length = ds.length := by intro _; rfl)
    (hstar : ∀ env, (assignEach ts env).findIdx? (·.1) = none := by intro _; rfl) : Asn c σ n Γ (.Tuple ts k pos) (.list ds) Γ₁ :=
  fun env U V A s v E R I r => by
    obtain ⟨a, vs, rfl, ht, p, rs⟩ := r.invList
    rw [arm_assign_Tuple]
    refine wpAny_bind (wpAny_standAt (unpack_list R.handled ht (by rw [hn, List.size_toArray, rs.length]) (hstar env) fun h' hx => ?_))
    have kp : Keep s.heap h' := fun b o e => hx b o (Nat.ne_of_lt (Heap.lt_size e)) e
    have g : Grow s { s with heap := h' } := ⟨⟨h', _, rfl⟩, kp⟩
    exact wpAny_mono (b env U V A { s with heap := h' } _ E R (I.keep kp) (by simpa using rs.keep kp)) (fun _ _ l => Left.grow g l) fun _ _ z => z
end
end Mine
end
-- D4
section
open PySem PyProof.Rows PySem.W
set_option Elab.async false
set_option linter.unusedVariables false
set_option maxRecDepth 100000
namespace Mine
theorem fillsI_list : fillsInplaceSlot (.type "list") "add" true = pure false := by
  unfold fillsInplaceSlot
  show (typeLookup (.type "list") (dunderI "add") >>= fun fi => _) = _
  rw [PySem.F.slot_list_iadd.lookup]
  rfl
theorem seqI_list : seqSlot? (.type "list") (dunderI "add") = pure (some (.builtin "list.__iadd__")) := PySem.seqSlot_of F.slot_list_iadd.lookup (by decide +kernel)
section
variable {prog : Program} {w : World} {A : Around} {E : Value → Shared → Prop} {s : Shared}
theorem inplace_list {a b : Addr} {xs ys : Array Value} {Q : Value → Shared → Prop} (ha : s.heap.PlainList a xs) (hb : s.heap.IsList b ys) (hsz : xs.size + ys.size ≤ sizeLine)
    (h : ∀ h', h'.PlainList a (xs ++ ys) → (∀ c o, c ≠ a → s.heap.get? c = some o → h'.get? c = some o) → Q (.ref a) { s with heap := h' }) : wpAny (model prog w) A (inplaceOp .Add (.ref a) (.ref b)) Q E s := by
  obtain ⟨n, hao⟩ := ha
  have hta : s.TypeIs (.ref a) "list" := ⟨_, hao, rfl⟩
  unfold inplaceOp
  refine wpAny_holding ?_
  refine wpAny_bind (wpAny_typeOf hta (wpAny_bind (wpAny_of_eq fillsI_list ?_)))
  show wpAny _ A (if false = true then _ else _) Q E s
  rw [if_neg Bool.false_ne_true]
  refine wpAny_bind (wpAny_binaryOp1_none (nm := "add") hta hb.typeIs noFill_list_add ?_)
  refine wpAny_bind (wpAny_of_eq seqI_list ?_)
  refine wpAny_bind (wpAny_rule ?_)
  refine wpAny_call_entry F.slot_list_iadd hta F.entry_list_iadd ?_ (F.args_list_iadd_2 _ _)
  show wpAny _ A.in1 (Builtin.List.listExtendWith (.ref a) (.ref b) (.ref a)) _ _ _
  unfold Builtin.List.listExtendWith
  obtain ⟨ob, hob, hcb, m, hdb⟩ := id hb
  refine wpAny_bind (wpAny_typeOf hb.typeIs ?_)
  rw [if_pos (by simp)]
  refine wpAny_bind ?_
  unfold Builtin.List.listItems
  refine wpAny_bind (wpAny_seqItems hob hdb (wpAny_pure ?_))
  refine wpAny_bind (wpAny_bind (wpAny_seqItems hao rfl (wpAny_pure ?_)))
  have hno : (!xs.isEmpty && Builtin.List.listTooLong (xs.size + ys.size)) = false := by
    unfold Builtin.List.listTooLong
    rw [Bool.and_eq_false_iff]; right; exact decide_eq_false (by lia)
  rw [hno]
  simp only [Bool.false_eq_true, if_false]
  refine wpAny_bind ?_
  show wpAny _ _ (updateSeq a (· ++ ys)) _ _ _
  refine wpAny_updateSeq hao rfl ?_ (by lia) (by show (xs ++ ys).size ≤ _; rw [Array.size_append]; lia)
  refine wpAny_bind (wpAny_pure (wpAny_pure ⟨_, rfl, h _ ?_ fun c o hc e => (Heap.get?_update_other _ _ (fun q => hc q.symm)).trans e⟩))
  exact ⟨_, Heap.get?_update_self _ hao rfl⟩
end
section
variable {c : Cf} {σ : List (Str × NameKind)} {n : Nat} {Γ Γ₁ Γ₂ : Vars} {m : Bool} {d d₁ d₂ : D}
theorem upd_back {ρ : Str → Option Value} {x : Str} {v : Value} (h : ρ x = some v) : upd ρ x v = ρ := by
  funext y; unfold upd; split
  · rename_i e; rw [e, h]
  · rfl
/-- a variable gets its own value again -/
theorem InvAt.again {env : Env} {U V : Addr → Prop} {h h' : Heap} {ρ : Str → Option Value} {os : Str → List Addr} (I : InvAt c env U V Γ h ρ os) (k : KeepV (FrameAddr env) h h') (F' : FrameAt env h' ρ) : InvAt c env U V Γ h' ρ os := by
  have dm : ∀ a, Dom h a → Dom h' a := fun a ⟨o, e⟩ => by
    by_cases f : FrameAddr env a
    · exact F'.dom f
    · exact ⟨o, k a o f e⟩
  refine ⟨F', fun y sl e => ?_, I.nd, I.own, I.dis, I.vf, I.uv, fun a q => dm a (I.vd a q), fun a q => dm a (I.ud a q), I.gb, I.gk.keepV fun b o g e => k b o (fun f => I.gb b (I.vf b f) g) e⟩
  obtain ⟨v, hv, r⟩ := I.var y sl e
  exact ⟨v, hv, r.move (fun b hb o e' => k b o (I.own y sl e b hb).2 e') (fun b o p e' => k b o (fun f => p.2 (I.vf b f)) e') fun _ p => p⟩
/-- x += e, x a list of its own -/
theorem Ex.auglist {x : Str} {px pos : Pos} {e : Expr} {ds es : List D} (hΓ : Γ x = some (.ol ds)) (hx : σ.lookup x = some .local ∨ σ.lookup x = some .cell) (b : EvE c σ n Γ true e (.list es)) (hsz : ds.length + es.length ≤ sizeLine)
    (hn : (x == ("__classdict__" : Str)) = false := by decide) : Ex c σ n Γ (.AugAssign (.Name x px) .Add e pos) (.next (upd Γ x (.ol (ds ++ es)))) :=
  fun env U V A s E R I => by
    have I' := I
    obtain ⟨ρ, os, J⟩ := I
    obtain ⟨v, hv, r⟩ := J.var x _ hΓ
    refine wpAny_AugAssign_Name (frame_load E J.fr (hx.elim .inl fun q => .inr (.inl q)) hv ?_ hn)
    refine wpAny_mono (b env U V A s E R I') (fun v₂ s₁ y => ?_) fun _ _ z => z
    have J₁ := J.keep y.1.2
    obtain ⟨v', hv', r₁⟩ := J₁.var x _ hΓ
    rw [hv] at hv'; cases hv'
    generalize hsl : Slot.ol ds = sl at r₁
    generalize hos : os x = os' at r₁
    cases r₁ with
    | @ol l vs _ hl rs =>
      cases hsl
      generalize hd2 : D.list es = d2 at y
      cases y.2 with
      | @list l₂ ws _ hl₂ p₂ rs₂ =>
        cases hd2
        refine inplace_list hl hl₂ (by simpa [rs.length, rs₂.length] using hsz) fun h' hl' k => ?_
        have vl : V l := (J.own x _ hΓ l (by rw [hos]; exact List.mem_cons_self)).1
        have hm : l ∈ os x := by rw [hos]; exact List.mem_cons_self
        have r' : SlotRep c h' (Cl U V) (.ref l) (.ol (ds ++ es)) (os x) := by
          rw [hos]
          refine .ol (vs := vs ++ ws) (by simpa using hl') ((rs.append (rs₂.mono fun _ p => ⟨p.1, p.2 rfl⟩)).move (fun b o p e => k b o (fun q => p.2 (q ▸ vl)) e) fun _ p => p)
        have J₂ := J₁.mutate hΓ hm k hv r'
        refine frame_store E J₂.fr hx fun s₃ sm F' kk => ?_
        rw [upd_back hv] at F'
        refine ⟨y.1.1.trans (Same.trans (⟨h', _, rfl⟩ : Same s₁ { s₁ with heap := h' }) sm), fun b o hb e => kk b o (fun f => hb (J.vf b f)) (k b o (fun q => hb (q ▸ vl)) (y.1.2 b o e)), rfl, V, fun _ q => .inl q, ρ, os, J₂.again kk F'⟩
      | _ => cases hd2
    | _ => cases hsl
end
end Mine
end
-- D5
section
open PySem PyProof.Rows PySem.W
set_option Elab.async false
set_option linter.unusedVariables false
set_option maxRecDepth 100000
namespace Mine
section
variable {c : Cf} {σ : List (Str × NameKind)} {n : Nat} {Γ Γ₁ Γ₂ : Vars} {m : Bool} {d d₁ d₂ : D}
/-- the inner loop as what an outer turn does -/
noncomputable abbrev emitIn (e : Expr) (iter2 : Expr) (Dd : Addr) (env : Env) : Sem PUnit := do
  let x ← eval iter2 env
  standAt iter2.pos
  let x ← foldedSetIterable iter2 env x
  let _ ← runOwn (.compStart e 1 (← holding [x] (pyIter x)) (.ref Dd) env) env
theorem turn_two {elt tgt iter tgt2 iter2 : Expr} {ifs ifs2 : List Expr} {scope : Scope} {pos : Pos} {Dd : Addr} :
    TurnIs (.ListComp elt [⟨tgt, iter, ifs, 0⟩, ⟨tgt2, iter2, ifs2, 0⟩] scope pos) 0 Dd tgt ifs (emitIn (.ListComp elt [⟨tgt, iter, ifs, 0⟩, ⟨tgt2, iter2, ifs2, 0⟩] scope pos) iter2 Dd) :=
  ⟨fun _ _ => rfl, fun _ _ => rfl, fun _ _ => rfl, fun _ _ => rfl, iter.pos, fun it env => by
    unfold compTurn
    dsimp only [emitIn]
    simp only [bind_assoc, pure_bind]
    rfl⟩
theorem turn_in {elt tgt iter tgt2 iter2 : Expr} {ifs ifs2 : List Expr} {scope : Scope} {pos : Pos} {Dd : Addr} :
    TurnIs (.ListComp elt [⟨tgt, iter, ifs, 0⟩, ⟨tgt2, iter2, ifs2, 0⟩] scope pos) 1 Dd tgt2 ifs2 (emitElt elt Dd) :=
  ⟨fun _ _ => rfl, fun _ _ => rfl, fun _ _ => rfl, fun _ _ => rfl, iter2.pos, fun it env => by rfl⟩
theorem compStart_in {elt tgt iter tgt2 iter2 : Expr} {ifs ifs2 : List Expr} {scope : Scope} {pos : Pos} {it acc : Value} {env : Env} {A : Around} {R : Result → Shared → Prop} {s : Shared}
    (h0 : codeAny c.M A (.compLoop (.ListComp elt [⟨tgt, iter, ifs, 0⟩, ⟨tgt2, iter2, ifs2, 0⟩] scope pos) 1 it acc env) R s)
    (h : wpAny c.M A (pyIter it) (fun it' s' => codeAny c.M A (.compLoop (.ListComp elt [⟨tgt, iter, ifs, 0⟩, ⟨tgt2, iter2, ifs2, 0⟩] scope pos) 1 it' acc env) R s')
      (notedBy c.M A env fun x s' => R (.error x) s') s) :
    codeAny c.M A (.compStart (.ListComp elt [⟨tgt, iter, ifs, 0⟩, ⟨tgt2, iter2, ifs2, 0⟩] scope pos) 1 it acc env) R s := by
  refine codeAny_of_tree ?_
  show wpAny _ _ ((compStart (.ListComp elt [⟨tgt, iter, ifs, 0⟩, ⟨tgt2, iter2, ifs2, 0⟩] scope pos) 1 it acc env).onRaise (fun x => do noteFrame x env; standAt theWindowsPlace)) _ _ s
  refine wpAny_notedAt ?_
  unfold compStart
  show wpAny _ _ (ask >>= _) _ _ s
  refine wpAny_bind (wpAny_askSetting (wpAny_ite ?_))
  split
  · first
      | exact wpAny_bind (wpAny_pure (wpAny_pure (And.intro rfl h0)))
      | exact wpAny_pure (And.intro rfl h0)
  · refine wpAny_bind (wpAny_rule ?_); show wpAny _ _ (standAt iter2.pos >>= _) _ _ s; exact wpAny_bind (wpAny_standAt (wpAny_bind (wpAny_mono h (fun it' s' h' => wpAny_pure (And.intro rfl h')) fun _ _ x => x)))
theorem Emit.inner {elt tgt iter tgt2 iter2 : Expr} {ifs ifs2 : List Expr} {scope : Scope} {pos : Pos} {Dd : Addr} {out ds : List D} (hΓ : Γ accName = some (.oa Dd out)) (a : EvIt c σ n Γ iter2 false ds)
    (b : CompL c σ n Γ (.ListComp elt [⟨tgt, iter, ifs, 0⟩, ⟨tgt2, iter2, ifs2, 0⟩] scope pos) 1 Dd false ds Γ₁) (hs : ∀ env x, foldedSetIterable iter2 env x = pure x) :
    Emit c σ n Γ Dd (emitIn (.ListComp elt [⟨tgt, iter, ifs, 0⟩, ⟨tgt2, iter2, ifs2, 0⟩] scope pos) iter2 Dd) Γ₁ := fun env U V A s E R I => by
  refine wpAny_bind (wpAny_mono (a env U V A s E R I) (fun v s₁ y => ?_) fun _ _ z => z)
  refine wpAny_bind (wpAny_standAt ?_)
  rw [hs]
  refine wpAny_bind (wpAny_pure ?_)
  refine wpAny_bind (wpAny_holding (wpAny_mono y (fun it s₂ z => ?_) fun _ _ z => z))
  obtain ⟨g, it, F, rfl, x, hf⟩ := z
  have nd : ∀ a, Dom s.heap a → a ∉ F := fun a ⟨o, e⟩ f => by rw [hf a f] at e; cases e
  obtain ⟨ρ, os, J⟩ := I
  have vd : V Dd := by
    obtain ⟨v, hv, r⟩ := J.var accName _ hΓ
    obtain ⟨vs, e, eo, _⟩ := oa_inv r
    exact (J.own accName _ hΓ Dd (by rw [eo]; exact List.mem_cons_self)).1
  have J₂ : InvAt c env (fun a => U a ∨ a ∈ F) V Γ s₂.heap ρ os := J.shut g.2 fun a q => by
    rcases q with q | q
    · exact ⟨.inl q, (J.ud a q).keep g.2⟩
    · exact ⟨.inr (hf a q), x.dom a q⟩
  have x₂ : IterAt c s₂.heap (Cl (fun a => U a ∨ a ∈ F) V) it F false ds := x.move (fun _ _ _ e => e) (fun _ _ _ e => e) fun b p _ => ⟨fun q => q.elim p.1.1 p.2, p.1.2⟩
  have loop := b env U V A s₂ it F E R ⟨ρ, os, J₂⟩ (fun a f u => nd a (J.ud a u) f) (fun a f q => nd a (J.gk.dom q) f) vd x₂
  refine wpAny_bind (wpAny_runOwn ?_)
  rw [Around.mark_none]
  have fin : codeAny c.M A (.compLoop (.ListComp elt [⟨tgt, iter, ifs, 0⟩, ⟨tgt2, iter2, ifs2, 0⟩] scope pos) 1 (.ref it) (.ref Dd) env) (fun r s' => match r with | .ok f => wpAny c.M A (pure ()) (fun _ s' => LeftC c env U V (fun a => a = env.locals ∨ a = Dd) s Γ₁ s') NoE s' | .error e => cameBackBy c.M A env NoE e s') s₂ := by
    refine codeAny_mono loop fun r s' y => ?_
    obtain ⟨rfl, sm, k, V', v', e', I'⟩ := y
    refine wpAny_pure ⟨g.1.trans sm, fun b o hb e => k b o (fun q => ?_) (g.2 b o e), V', v', fun b q => (e' b q).elim .inl fun q => .inr (fresh_back g q), I'⟩
    rcases q with q | q | q
    · exact hb (.inl q)
    · exact hb (.inr q)
    · exact nd b ⟨o, e⟩ q
  exact compStart_in fin (iter_self x₂ fin)
/-- the inner loop, one name, no test -/
theorem compL_in {α : Type} {elt tgt iter iter2 : Expr} {ifs : List Expr} {scope : Scope} {pos py : Pos} {y : Str} (g f : α → D) {Γb : Vars} (hy : σ.lookup y = some .local) (hya : y ≠ accName) (hba : ∀ sl, Γb accName ≠ some sl) (hby : ∀ sl, Γb y ≠ some sl) :
    ∀ (ds : List α) (out : List D) (Γ : Vars) (Dd : Addr), (∀ d ∈ ds, EvE c σ n (upd Γb y (.fz (g d))) true elt (f d)) → Sup Γb Γ → Γ accName = some (.oa Dd out) → out.length + ds.length ≤ sizeLine →
      ∃ Γ', CompL c σ n Γ (.ListComp elt [⟨tgt, iter, ifs, 0⟩, ⟨.Name y py, iter2, [], 0⟩] scope pos) 1 Dd false (ds.map g) Γ' ∧ Γ' accName = some (.oa Dd (out ++ ds.map f)) ∧ Sup Γb Γ' := by
  intro ds
  induction ds with
  | nil => intro out Γ Dd _ hS hacc _; exact ⟨Γ, CompL.nil turn_in, by simpa using hacc, hS⟩
  | cons d ds ih =>
    intro out Γ Dd hE hS hacc hsz
    simp only [List.length_cons] at hsz
    have a₁ : upd Γ y (.fz (g d)) accName = some (.oa Dd out) := upd_ne (fun q => hya q.symm) hacc
    have keep : Sup Γb (upd (upd Γ y (.fz (g d))) accName (.oa Dd (out ++ [f d]))) := fun x sl e => by
      have h1 : x ≠ accName := fun q => hba sl (q ▸ e)
      have h2 : x ≠ y := fun q => hby sl (q ▸ e)
      exact upd_ne h1 (upd_ne h2 (hS x sl e))
    obtain ⟨Γ', h1, h2, h3⟩ := ih (out ++ [f d]) (upd (upd Γ y (.fz (g d))) accName (.oa Dd (out ++ [f d]))) Dd (fun d' hd => hE d' (List.mem_cons_of_mem _ hd)) keep upd_same (by simp; omega)
    refine ⟨Γ', CompL.cons turn_in (b := true) (AsnC.name hy) Tests.nil (fun _ => Emit.elt a₁ ((hE d List.mem_cons_self).sub (hS.upd _ _)) (by omega)) (fun q => by cases q) h1, by simpa using h2, h3⟩
theorem compL_two {α β : Type} {elt iter iter2 : Expr} {scope : Scope} {pos px py : Pos} {x y : Str} (g : α → D) (inner : α → List β) (g2 : β → D) (f : α → β → D) {Γb : Vars}
    (hx : σ.lookup x = some .local) (hy : σ.lookup y = some .local) (hxy : y ≠ x) (hxa : x ≠ accName) (hya : y ≠ accName) (hba : ∀ sl, Γb accName ≠ some sl) (hbx : ∀ sl, Γb x ≠ some sl) (hby : ∀ sl, Γb y ≠ some sl)
    (hs : ∀ env x, foldedSetIterable iter2 env x = pure x) :
    ∀ (ds : List α) (out : List D) (Γ : Vars) (Dd : Addr), (∀ d ∈ ds, EvIt c σ n (upd Γb x (.fz (g d))) iter2 false ((inner d).map g2)) → (∀ d ∈ ds, ∀ e ∈ inner d, EvE c σ n (upd (upd Γb x (.fz (g d))) y (.fz (g2 e))) true elt (f d e)) → Sup Γb Γ →
      Γ accName = some (.oa Dd out) → out.length + (ds.flatMap inner).length ≤ sizeLine →
      ∃ Γ', CompL c σ n Γ (.ListComp elt [⟨.Name x px, iter, [], 0⟩, ⟨.Name y py, iter2, [], 0⟩] scope pos) 0 Dd false (ds.map g) Γ' ∧ Γ' accName = some (.oa Dd (out ++ ds.flatMap fun d => (inner d).map (f d))) := by
  intro ds
  induction ds with
  | nil => intro out Γ Dd _ _ hS hacc _; exact ⟨Γ, CompL.nil turn_two, by simpa using hacc⟩
  | cons d ds ih =>
    intro out Γ Dd hI hE hS hacc hsz
    simp only [List.flatMap_cons, List.length_append] at hsz
    have a₁ : upd Γ x (.fz (g d)) accName = some (.oa Dd out) := upd_ne (fun q => hxa q.symm) hacc
    have hb1 : ∀ sl, upd Γb x (.fz (g d)) accName ≠ some sl := fun sl => by rw [upd_ne (fun q => hxa q.symm) rfl]; exact hba sl
    have hb2 : ∀ sl, upd Γb x (.fz (g d)) y ≠ some sl := fun sl => by rw [upd_ne hxy rfl]; exact hby sl
    obtain ⟨Γ₂, i1, i2, i3⟩ := compL_in (c := c) (σ := σ) (n := n) (elt := elt) (tgt := .Name x px) (iter := iter) (iter2 := iter2) (ifs := []) (scope := scope) (pos := pos) (py := py) g2 (f d) (Γb := upd Γb x (.fz (g d))) hy hya hb1 hb2 (inner d) out (upd Γ x (.fz (g d))) Dd (hE d List.mem_cons_self) (hS.upd _ _) a₁ (by omega)
    have keep : Sup Γb Γ₂ := fun z sl e => i3 z sl (upd_ne (fun q => hbx sl (q ▸ e)) e)
    obtain ⟨Γ', h1, h2⟩ := ih (out ++ (inner d).map (f d)) Γ₂ Dd (fun d' hd => hI d' (List.mem_cons_of_mem _ hd)) (fun d' hd => hE d' (List.mem_cons_of_mem _ hd)) keep i2 (by rw [List.length_append, List.length_map]; omega)
    refine ⟨Γ', CompL.cons turn_two (b := true) (AsnC.name hx) Tests.nil (fun _ => Emit.inner a₁ ?_ i1 hs) (fun q => by cases q) h1, by simpa using h2⟩
    exact fun env U V A s E R I => hI d List.mem_cons_self env U V A s E R (I.sub (hS.upd _ _))
theorem Comp.two {α β : Type} {elt iter iter2 : Expr} {scope : Scope} {pos px py : Pos} {x y : Str} (g : α → D) (inner : α → List β) (g2 : β → D) (f : α → β → D) (ds : List α) {fin : Slot}
    (T : Takes c (fun a => .oa a []) (fun a => .oa a (ds.flatMap fun d => (inner d).map (f d))) fin) (a : EvIt c σ n Γ iter false (ds.map g)) (hsz : (ds.flatMap inner).length ≤ sizeLine)
    (hI : ∀ d ∈ ds, EvIt c (relab scope.names σ) n (upd (seen scope.names Γ) x (.fz (g d))) iter2 false ((inner d).map g2))
    (hE : ∀ d ∈ ds, ∀ e ∈ inner d, EvE c (relab scope.names σ) n (upd (upd (seen scope.names Γ) x (.fz (g d))) y (.fz (g2 e))) true elt (f d e))
    (hx : scope.names.lookup x = some .local := by decide +kernel) (hy : scope.names.lookup y = some .local := by decide +kernel) (hxy : y ≠ x := by decide +kernel) (H : (scope.names.lookup accName).isNone = true := by decide +kernel)
    (hs : ∀ env x, foldedSetIterable iter2 env x = pure x := by intro _ _; rfl) : Comp c σ n Γ elt (.Name x px) iter [] [⟨.Name y py, iter2, [], 0⟩] scope pos fin := by
  have H' := Option.isNone_iff_eq_none.mp H
  have hxa : x ≠ accName := fun q => by rw [← q, hx] at H'; cases H'
  have hya : y ≠ accName := fun q => by rw [← q, hy] at H'; cases H'
  have hb : ∀ z, scope.names.lookup z = some .local → ∀ sl, seen scope.names Γ z ≠ some sl := fun z hz sl e => by unfold seen at e; rw [hz] at e; simp at e
  have hba : ∀ sl, seen scope.names Γ accName ≠ some sl := fun sl e => by unfold seen at e; rw [H'] at e; simp at e
  have key := fun Dd => compL_two (c := c) (σ := relab scope.names σ) (n := n) (elt := elt) (iter := iter) (iter2 := iter2) (scope := scope) (pos := pos) (px := px) (py := py) g inner g2 f (Γb := seen scope.names Γ) (relab_local hx) (relab_local hy) hxy hxa hya hba (hb x hx) (hb y hy) hs ds []
    (upd (seen scope.names Γ) accName (.oa Dd [])) Dd hI hE (fun z sl e => upd_ne (fun q => hba sl (q ▸ e)) e) upd_same (by simpa using hsz)
  refine ⟨_, _, fun Dd => Classical.choose (key Dd), ds.map g, T, a, fun Dd => (Classical.choose_spec (key Dd)).1, fun Dd => by simpa using (Classical.choose_spec (key Dd)).2⟩
end
end Mine
end
-- D6
section
open PySem PyProof.Rows PySem.W
set_option Elab.async false
set_option linter.unusedVariables false
set_option maxRecDepth 100000
namespace Mine
section
variable {c : Cf} {σ : List (Str × NameKind)} {n : Nat} {Γ Γ₁ Γ₂ : Vars} {m : Bool} {d d₁ d₂ : D}
theorem sdict_look {h : Heap} {dx : Addr} {k : Str} {v : Value} (x : c.SDict h dx [(k, v)]) : ∃ o, h.get? dx = some o ∧ lookIn k o = some (some v) ∧ ∀ k', k' ≠ k → lookIn k' o = some none := by
  obtain ⟨⟨o, es, ep, ho, hx, hd, hk, hp, hn⟩, q⟩ := x
  generalize hl : es.toList = l at hp
  cases hp with
  | @cons e _ es' _ h1 h2 r =>
    cases r with
    | nil =>
      obtain ⟨t, ht⟩ := str_of_is h1
      refine ⟨o, ho, ?_, fun k' hk' => ?_⟩
      · unfold lookIn
        rw [hd]
        simp only [hl, List.find?_cons, ht, Value.isStr]
        simp at h2
        simp [h2]
      · unfold lookIn
        rw [hd]
        have : (Value.str k t).isStr k' = false := by simp [Value.isStr]; exact fun e => hk' e.symm
        simp only [hl, List.find?_cons, ht, this]
        simp [DictEntry.refKey, ht]
theorem inst_at {h : Heap} {a dx C : Addr} {v : Value} (ho : h.get? a = some (PySem.W.instObj C dx)) (sd : c.SDict h dx [(selName, v)]) :
    ∃ od, PySem.W.InstAt h a (PySem.W.instObj C dx) C (some od) ∧ lookIn selName od = some (some v) ∧ ∀ k', k' ≠ selName → lookIn k' od = some none := by
  obtain ⟨od, h1, h2, h3⟩ := sdict_look sd
  exact ⟨od, ⟨ho, rfl, rfl, h1⟩, h2, h3⟩
/-- self.comp_select_list -/
theorem EvE.selfattr {x : Str} {xp pos : Pos} {C : Addr} (a : EvE c σ n Γ m (.Name x xp) (.inst C d)) (hg : plainGet c.K C selName = true) (hh : hasDictIn c.K C = true) (ha : findIn c.K (.ref C) selName = some none) (hf : ∀ v d, handedIn v = false → ∀ (h : Heap) P, ¬ c.Rep h P v d) :
    EvE c σ n Γ m (.Attribute (.Name x xp) selName pos) d := fun env U V A s E R I => by
  refine Attribute_name (wpAny_mono (a env U V A s E R I) (fun v s₁ y => ?_) fun _ _ z => z)
  cases y.2 with
  | @inst ad dx _ v _ ho p sd q r =>
    obtain ⟨od, IA, hl, _⟩ := inst_at ho sd
    have hv : handedIn v = true := by
      cases e : handedIn v with
      | true => rfl
      | false => exact absurd r (hf v d e _ _)
    exact get_value (I.keep y.1.2).gk.inn IA (plainGet_of hg).1 (findObj_own hh ha rfl hl) hv ⟨y.1.trans tok_grow, r⟩
/-- o.name(..) of an object of a class -/
theorem EvE.callm {o e : Expr} {r : List Expr} {name : Str} {ap pos : Pos} {C f : Addr} {sel : D} {ds : List D} {k : Nat} (a : EvE c σ n Γ m o (.inst C sel)) (b : EvEs c σ n Γ m (e :: r) ds) (F : FunSpec c f k (.inst C sel :: ds) d)
    (hg : plainGet c.K C name = true) (hf : findIn c.K (.ref C) name = some (some (.ref f))) (ht : typeIn c.K (.ref f) = some (.type "function")) (hk : keepIn c.K (.ref f) = true) (hn : name ≠ selName) (hkn : k ≤ n := by decide)
    (hbase : ∀ env, attributeBase o name env (eval o env) = eval o env := by intro _; rfl) (hline : (ap.endLine == pos.line) = true := by rfl)
    (he : ∀ env, starEach (e :: r) env = (false, eval e env) :: starEach r env := by intro _; rfl) (hplain : ∀ env, (backTo pos (starEach r env)).any (·.1) = false := by intro _; rfl)
    (hfew : ∀ env, ((backTo pos (starEach (e :: r) env)).all (fun x => !x.1) && (backToKw pos (keywordEach [] env)).all (fun x => x.1.isSome)
      && decide ((e :: r).length + ([] : List Keyword).length + (if ([] : List Keyword).isEmpty then 0 else 1) < 30)) = true := by intro _; rfl) :
    EvE c σ n Γ m (.Call (.Attribute o name ap) (e :: r) [] pos) d := fun env U V A s E R I => by
  rw [arm_eval_Call, hbase]
  refine wpAny_bind (wpAny_mono (a env U V A s E R I) (fun v s₁ y => ?_) fun _ _ z => z)
  refine wpAny_bind (wpAny_standAt ?_)
  have I₁ := I.keep y.1.2
  have hform : methodCallForm ((e :: r).length + ([] : List Keyword).length) (backTo pos (starEach (e :: r) env)) (backToKw pos (keywordEach [] env)) = true := hfew env
  have hpos : methodCallPos true o env ap pos = pure pos := by unfold methodCallPos; simp [hline]
  generalize hD : D.inst C sel = dd at y
  cases y.2 with
  | @inst ad dx _ w _ ho p sd q rr =>
    cases hD
    obtain ⟨od, IA, _, hl⟩ := inst_at ho sd
    unfold methodCall
    rw [hform]
    refine wpAny_bind (wpAny_holding (method_fn I₁.gk.inn IA (plainGet_of hg).1 (plainGet_of hg).2 hf ht (by show (lookIn name od).map _ = _; rw [hl _ hn]; rfl) ?_))
    refine wpAny_bind (wpAny_of_eq hpos ?_)
    refine callWith_K I₁.gk.inn hk (wpAny_mono (b env U V A s₁ pos E R I₁) (fun vs s₂ x => ⟨(I₁.keep x.1.2).gk.inn, ?_⟩) fun _ _ z => z) (he env) (hplain env)
    obtain ⟨ρ, os, J⟩ := I₁.keep x.1.2
    have hp : ∀ b, PM m U V b ↔ ¬ (U b ∨ (m = true ∧ V b)) := fun b => by unfold PM; simp only [not_or, not_and]
    have rself : c.Rep s₂.heap (fun b => ¬ (U b ∨ (m = true ∧ V b))) (.ref ad) (.inst C sel) := (y.2.keep x.1.2).mono fun b q => (hp b).mp q
    refine wpAny_mono (F (fun b => U b ∨ (m = true ∧ V b)) A s₂ (.ref ad :: vs) (R.le hkn) J.gk (fun b q => q.elim (J.ud b) fun q => J.vd b q.2) (.cons rself (x.2.mono fun b q => (hp b).mp q))) (fun v s₃ z => ⟨(y.1.trans x.1).trans z.1, z.2.mono fun b q => (hp b).mpr q⟩) fun _ _ z => z
  | _ => cases hD
end
end Mine
end
-- D7
section
open PySem PyProof.Rows PySem.W
set_option Elab.async false
set_option linter.unusedVariables false
set_option maxRecDepth 100000
namespace Mine
section
variable {c : Cf} {σ : List (Str × NameKind)} {n : Nat} {Γ Γ₁ Γ₂ : Vars} {m : Bool} {d d₁ d₂ : D}
theorem set_sel {A : Around} {E : Value → Shared → Prop} {s : Shared} {x C dx : Addr} {v : Value} {Q : Unit → Shared → Prop} (X : c.K.In s.heap) (hx : s.heap.get? x = some (PySem.W.instObj C dx)) (hD : s.heap.get? dx = some PySem.W.emptyDict) (hnd : (dx == sysModules) = false)
    (hs : findIn c.K (.ref C) "__setattr__" = some (some (.builtin "object.__setattr__"))) (hp : plainOver c.K C = true) (ht : takerIn c.K C selName = some none) (hh : hasDictIn c.K C = true)
    (h : ∀ h' tk, (∀ b o, b ≠ dx → s.heap.get? b = some o → h'.get? b = some o) → c.SDict h' dx [(selName, v)] → Q () { s with heap := h', toks := tk }) : wpAny c.M A (setAttr (.ref x) selName v) Q E s := by
  obtain ⟨hp0, g, dr, t, os⟩ := s
  dsimp only at X hx hD h
  have I : PySem.W.InstAt hp0 x (PySem.W.instObj C dx) C (some PySem.W.emptyDict) := ⟨hx, rfl, rfl, hD⟩
  refine set_plain X I hs ?_
  refine osa_open (s := ⟨hp0, g, dr, t + 1, os⟩) X I hp ht fun b => ?_
  obtain ⟨cd, hc, hd'⟩ := any_some hh
  refine wpAny_bind (wpAny_pure (wpAny_bind (wpAny_bind (wpAny_loadPart hx (wpAny_bind ((looks_clsIn X hc).at ?_))))))
  rw [hd']
  refine wpAny_pure (a := some dx) (wpAny_bind (wpAny_pure (wpAny_bind ?_)))
  unfold nsSet
  refine wpAny_bind (wpAny_bind (wpAny_askSetting (wpAny_pure (wpAny_bind (wpAny_mkText (wpAny_bind (wpAny_loadPart hD ?_)))))))
  dsimp only
  rw [aRefKeyMayBeTheName_at]
  have hc0 : (!(#[] : Array DictEntry).any (·.key.isStr selName) && (#[] : Array DictEntry).any (·.refKey)) = false := by simp
  rw [hc0]
  refine wpAny_updatePart hD ?_
  have hput : Obj.putName selName (PyData.keyHash c.w.params selName) (Value.str selName (t + 1)) v PySem.W.emptyDict = { cls := .type "dict", data := .dict #[⟨PyData.keyHash c.w.params selName, .str selName (t + 1), v⟩] 1 } := by
    rw [Obj.putName_eq]; simp [Obj.putNameByArray]
  have D' : (hp0.update dx (Obj.putName selName (PyData.keyHash c.w.params selName) (Value.str selName (t + 1)) v)).get? dx = some { cls := .type "dict", data := .dict #[⟨PyData.keyHash c.w.params selName, .str selName (t + 1), v⟩] 1 } := by
    rw [← hput]
    exact Heap.get?_update_self _ hD (by rw [hput]; rfl)
  refine wpAny_bind (wpAny_lookBehind D' (pastItsLine_dict (by rw [sizeLine_eq]; simp)) ?_)
  refine wpAny_pure (h _ _ (fun b o hb e => (Heap.get?_update_other _ _ (fun q => hb q.symm)).trans e) ⟨⟨_, _, _, D', ⟨rfl, rfl, rfl⟩, rfl, ?_, ?_, ?_⟩, hnd⟩)
  · intro e he
    obtain rfl := by simpa using he
    exact ⟨selName, by simp [PySem.strKind, Value.isStrOf], rfl⟩
  · exact .cons (by simp [PySem.strKind, Value.isStrOf]) rfl .nil
  · simp
/-- a class of one field that its maker stores: the call of the class -/
theorem FunSpec.cls {C fI : Addr} {o : Obj} {fd : FuncData} {p1 p2 p3 p4 : Pos} (hm : makesIn c.K C = true) (hi : findIn c.K (.ref C) "__init__" = some (some (.ref fI))) (hf : typeIn c.K (.ref fI) = some (.type "function"))
    (hs : findIn c.K (.ref C) "__setattr__" = some (some (.builtin "object.__setattr__"))) (hp : plainOver c.K C = true) (ht : takerIn c.K C selName = some none) (hh : hasDictIn c.K C = true)
    (ho : c.K.lookup fI = some o) (hdata : o.data = .func fd) (hcd : codeIn c.K fd.code fd.qualname = true) (hbody : fd.body = .stmts [.Assign [.Attribute (.Name "self" p1) selName p2] (.Name selName p3) p4])
    (hbind : ∀ a b, bindArgs fd ⟨[a, b], []⟩ = pure [((Str.ofString "self"), a), (selName, b)]) (hclo : fd.closure = []) (hnames : fd.scope.names = [(Str.ofString "self", NameKind.local), (selName, NameKind.local)])
    (hco : fd.scope.isCoroutine = false) (hgen : fd.scope.isGenerator = false) (hk : fd.scope.kind = .function) : FunSpec c C 2 [d] (.inst C d) := by
  intro U A s vs R G hU r
  obtain ⟨v, rfl, rv⟩ := one_arg r
  obtain ⟨hp0, g, dr, t, os⟩ := s
  dsimp only at G hU r rv
  refine wpAny_call ?_
  refine make_core (makes_of G.inn hm) (looks_findIn G.inn hi) (fun self => bind_fn G.inn self hf) (.inl rfl) ?_
  have k0 : Keep hp0 ((hp0.push PySem.W.emptyDict).push (PySem.W.instObj C hp0.objs.size)) := fun b o e => push_keep _ _ b o (push_keep _ _ b o e)
  have hx0 : ((hp0.push PySem.W.emptyDict).push (PySem.W.instObj C hp0.objs.size)).get? (hp0.objs.size + 1) = some (PySem.W.instObj C hp0.objs.size) := by
    have := Heap.get?_push_size (hp0.push PySem.W.emptyDict) (o := PySem.W.instObj C hp0.objs.size) rfl
    rwa [Heap.size_push] at this
  have hd0 : ((hp0.push PySem.W.emptyDict).push (PySem.W.instObj C hp0.objs.size)).get? hp0.objs.size = some PySem.W.emptyDict := push_keep _ _ _ _ (Heap.get?_push_size _ rfl)
  have G0 := G.keep k0
  have n0 : hp0.get? hp0.objs.size = none := heap_size_none hp0
  have n1 : hp0.get? (hp0.objs.size + 1) = none := by
    cases e : hp0.get? (hp0.objs.size + 1) with
    | none => rfl
    | some o => exact absurd (Nat.lt_trans (Nat.lt_succ_self _) (Heap.lt_size e)) (Nat.lt_irrefl _)
  generalize hH : (hp0.push PySem.W.emptyDict).push (PySem.W.instObj C hp0.objs.size) = H at k0 hx0 hd0 G0 ⊢
  have hroom : (A.under (.builtin "type.__call__" ⟨.ref C :: [v], []⟩)).depth < recursionLimit := by rw [depth_under_make]; have := R.depth; omega
  generalize hA' : A.under (.builtin "type.__call__" ⟨.ref C :: [v], []⟩) = A' at hroom ⊢
  refine codeAny_call_cells (s := ⟨H, g, dr, t, os⟩) hroom (G0.inn _ _ ho) hdata G0.nolimit (codeRec_of G0.inn hcd) hbody (hbind _ _) hclo (fun y hy => ?_) (fun s₁ J => ?_) hco hgen hk
  · rw [hnames]
    left
    rcases List.mem_cons.mp hy with rfl | hy
    · rfl
    · rcases List.mem_cons.mp hy with rfl | hy
      · show List.lookup selName [(Str.ofString "self", NameKind.local), (selName, NameKind.local)] = some NameKind.local
        decide
      · cases hy
  · generalize henv : callEnvC fd H.objs.size fI = env at J
    have eS : env.scope = fd.scope := by rw [← henv]; rfl
    have ek : ∀ x, env.kindOf x = fd.scope.names.lookup x := fun x => by unfold Env.kindOf; rw [eS]
    have k1 : env.scope.kind = .function := by rw [eS]; exact hk
    have l1 : env.kindOf "self" = some .local := by rw [ek, hnames]; rfl
    have l2 : env.kindOf selName = some .local := by rw [ek, hnames]; decide
    have nodup : (([(Str.ofString "self", Value.ref (hp0.objs.size + 1)), (selName, v)] : List (Str × Value)).map (·.1)).Nodup := by
      show [Str.ofString "self", selName].Nodup
      decide
    have m1 := bindL_at (kd := env.kindOf) [(Str.ofString "self", .ref (hp0.objs.size + 1)), (selName, v)] (fun _ => none) "self" (.ref (hp0.objs.size + 1)) nodup List.mem_cons_self l1
    have m2 := bindL_at (kd := env.kindOf) [(Str.ofString "self", .ref (hp0.objs.size + 1)), (selName, v)] (fun _ => none) selName v nodup (List.mem_cons_of_mem _ List.mem_cons_self) l2
    refine wpAny_execs_cons (plainObj_wpAny_Assign_Attribute ?_ rfl)
    refine wpAny_Name (wpAny_loadName_local k1 l2 J.toInCall.ns m2 ?_) (by decide)
    refine wpAny_Name (wpAny_loadName_local k1 l1 J.toInCall.ns m1 ?_) (by decide)
    have k1' := J.toInCall.keep
    obtain ⟨h1, tk1, es1⟩ := J.toInCall.same
    subst es1
    dsimp only at k1' ⊢
    refine set_sel (G0.keep k1').inn (k1' _ _ hx0) (k1' _ _ hd0) (gk_size G) hs hp ht hh fun h' tk kk sd => wpAny_execs_nil ?_
    refine ⟨rfl, ?_⟩
    have kf : Keep hp0 h' := fun b o e => kk b o (fun q => by rw [q, n0] at e; cases e) (k1' b o (k0 b o e))
    refine ⟨⟨⟨h', _, rfl⟩, kf⟩, .inst (kk _ _ (Nat.ne_of_gt (Nat.lt_succ_self _)) (k1' _ _ hx0)) (fun u => ?_) sd (fun u => ?_) (rv.keep kf)⟩
    · obtain ⟨o, e⟩ := hU _ u; rw [n1] at e; cases e
    · obtain ⟨o, e⟩ := hU _ u; rw [n0] at e; cases e
end
end Mine
end
-- D8
section
open PySem PyProof.Rows PySem.W
set_option Elab.async false
set_option linter.unusedVariables false
set_option maxRecDepth 100000
namespace Mine
section
variable {c : Cf} {σ : List (Str × NameKind)} {n : Nat} {Γ Γ₁ Γ₂ : Vars} {m : Bool} {d d₁ d₂ : D}
/-- items that compare equal, in this model -/
noncomputable def SameIn (c : Cf) (A : Around) (s : Shared) (x y : Value) : Prop := ∀ (E : Value → Shared → Prop) (Q : Bool → Shared → Prop), Q true s → wpAny c.M A (eqBool x y) Q E s
theorem tup_ne_same {A : Around} {E : Value → Shared → Prop} {s : Shared} {l b : Addr} {xs ys : List Value} {Q : Value → Shared → Prop} (hl : s.heap.IsTuple l xs.toArray) (hb : s.heap.IsTuple b ys.toArray) (hu : A.units < cLine)
    (hlen : xs.length = ys.length) (he : ∀ p ∈ xs.zip ys, SameIn c A.in1 s p.1 p.2) (h : Q (.bool false) s) : wpAny c.M A (compareOp .NotEq (.ref l) (.ref b)) Q E s := by
  refine wpAny_richCompare_same_room (op := .NotEq) hl.typeIs hb.typeIs PySem.F.slot_tuple_ne (wpAny_call_entry PySem.F.slot_tuple_ne hl.typeIs PySem.F.entry_tuple_ne ?_ (PySem.F.args_tuple_ne_2 _ _)) hu
  obtain ⟨ol, hol, _, nl, hdl⟩ := id hl
  obtain ⟨ob, hob, _, nb, hdb⟩ := id hb
  show wpAny _ _ (slotArgs "__ne__" 1 ⟨[.ref l, .ref b], []⟩ >>= _) _ _ s
  refine wpAny_bind (wpAny_pure ?_)
  dsimp only
  refine wpAny_bind (wpAny_isInstance (T := "tuple") hb.typeIs AutoSeq1.sub_tuple_tuple ?_)
  simp only [Bool.not_true, Bool.false_eq_true, if_false]
  refine wpAny_bind ?_
  unfold Builtin.Tuple.tupleItemsOf
  refine wpAny_bind (wpAny_seqItems hol hdl (wpAny_pure ?_))
  refine wpAny_bind (wpAny_bind (wpAny_seqItems hob hdb (wpAny_pure ?_)))
  refine wpAny_bind ?_
  refine wpAny_forIn_list _ (fun rest b s' => s' = s ∧ b.1 = none ∧ ∀ p ∈ rest, p ∈ xs.zip ys) _ (fun x r b s' q => ?_) (fun b s' q => ?_) _ _ ⟨rfl, rfl, fun p hp => by simpa using hp⟩
  · obtain ⟨rfl, q2, q3⟩ := q
    refine wpAny_bind (he x (q3 x List.mem_cons_self) _ _ ?_)
    simp only [Bool.not_true, Bool.false_eq_true, if_false]
    exact wpAny_pure ⟨rfl, rfl, fun p hp => q3 p (List.mem_cons_of_mem _ hp)⟩
  · obtain ⟨rfl, q2, _⟩ := q
    obtain ⟨b1, b2⟩ := b
    dsimp only at q2
    subst q2
    dsimp only
    refine wpAny_pure ⟨_, rfl, ?_, ?_⟩
    · exact fun x => nomatch x
    · simpa [Builtin.Tuple.tupleCompareSizes, hlen] using h
theorem dget_of_mem {α : Type} {t : List (Str × α)} (nd : (t.map (·.1)).Nodup) : ∀ {k : Str} {v : α}, (k, v) ∈ t → dget t k = some v := by
  induction t with
  | nil => intro k v h; cases h
  | cons p t ih =>
    intro k v h
    obtain ⟨nm, nd⟩ := List.nodup_cons.mp nd
    rcases List.mem_cons.mp h with rfl | h
    · simp [dget]
    · have hk : p.1 ≠ k := fun e => nm (by show p.1 ∈ _; rw [e]; exact List.mem_map_of_mem (f := (·.1)) h)
      have := ih nd h
      simpa [dget, hk] using this
theorem hits_all {A : Around} {s : Shared} {P P' : Addr → Prop} {kb : List (Str × Value)} {t : List (Str × Int)} (nd : (t.map (·.1)).Nodup) (rb : c.RepsK s.heap P' kb (dT t)) :
    ∀ (t₀ : List (Str × Int)) (ka : List (Str × Value)), c.RepsK s.heap P ka (dT t₀) → (∀ p ∈ t₀, p ∈ t) → KeqHits A s kb ka true := by
  intro t₀
  induction t₀ with
  | nil => intro ka r _; cases r; exact .nil
  | cons p t₀ ih =>
    intro ka r hm
    obtain ⟨k, i⟩ := p
    generalize hD : dT ((k, i) :: t₀) = D' at r
    cases r with
    | nil => cases hD
    | @cons k' v d' vs ds x r =>
      injection hD with h1 h2
      injection h1 with h3 h4
      subst h3 h4 h2
      obtain ⟨y, hy, ry⟩ := rb.get (k := k) (d := .int i) (by rw [dget_dT, dget_of_mem nd (hm _ List.mem_cons_self)]; rfl)
      obtain ⟨t1, rfl⟩ := x.invInt
      obtain ⟨t2, rfl⟩ := ry.invInt
      have e := SeqAt.EqAt.int_int (A := A) (s := s) i t1 i t2
      rw [beq_self_eq_true] at e
      exact .hit (e := true) (b := true) hy e (ih _ r fun p hp => hm p (List.mem_cons_of_mem _ hp))
theorem same_int {A : Around} {s : Shared} {i : Int} {t u : Tok} : SameIn c A s (.int i t) (.int i u) := fun E Q h => by
  have e := SeqAt.EqAt.int_int (A := A) (s := s) i t i u
  rw [beq_self_eq_true] at e
  exact e _ _ E Q h
theorem same_dict {A : Around} {s : Shared} {P P' : Addr → Prop} {v v' : Value} {t : List (Str × Int)} (hu : A.units < cLine) (r : c.Rep s.heap P v (.dict (dT t))) (r' : c.Rep s.heap P' v' (.dict (dT t))) : SameIn c A s v v' := fun E Q h => by
  obtain ⟨a, ka, rfl, sa, _, rka⟩ := r.invDict
  obtain ⟨b, kb, rfl, sb, _, rkb⟩ := r'.invDict
  by_cases hab : a = b
  · subst hab; exact SeqAt.EqAt.same _ _ _ E Q h
  · unfold eqBool
    refine wpAny_holding ?_
    refine wpAny_ite_split (fun e => absurd (by have := eq_of_beq e; injection this) hab) (fun _ => ?_)
    refine wpAny_bind ?_
    have nd : (t.map (·.1)).Nodup := by
      obtain ⟨o, es, ep, _, _, _, _, _, nd⟩ := sb.1
      have := rkb.keys
      rw [this] at nd
      simpa [dT, List.map_map, Function.comp_def] using nd
    have hl : (ka.length == kb.length) = true := by rw [rka.length, rkb.length]; exact beq_self_eq_true _
    refine keq_eq sa.2 sb.2 sa.1 sb.1 hu (fun _ => hits_all nd rkb t ka rka fun p hp => hp) ?_
    rw [hl]
    exact wpAny_truthy_bool h
/-- an entry compared with its like -/
theorem cmp_entry {a b e f : Int} {t : List (Str × Int)} : CmpV c .NotEq (.tup [.int a, .int b, .int e, .int f, .dict (dT t)]) (.tup [.int a, .int b, .int e, .int f, .dict (dT t)]) false := fun P A s v₁ v₂ R G r₁ r₂ => by
  obtain ⟨l, vs, rfl, hl, p, rs⟩ := r₁.invTup
  obtain ⟨l', vs', rfl, hl', p', rs'⟩ := r₂.invTup
  obtain ⟨_, _, rfl, x1, rs⟩ := rs.invCons
  obtain ⟨_, _, rfl, x2, rs⟩ := rs.invCons
  obtain ⟨_, _, rfl, x3, rs⟩ := rs.invCons
  obtain ⟨_, _, rfl, x4, rs⟩ := rs.invCons
  obtain ⟨_, _, rfl, x5, rs⟩ := rs.invCons
  obtain rfl := rs.invNil
  obtain ⟨_, _, rfl, y1, rs'⟩ := rs'.invCons
  obtain ⟨_, _, rfl, y2, rs'⟩ := rs'.invCons
  obtain ⟨_, _, rfl, y3, rs'⟩ := rs'.invCons
  obtain ⟨_, _, rfl, y4, rs'⟩ := rs'.invCons
  obtain ⟨_, _, rfl, y5, rs'⟩ := rs'.invCons
  obtain rfl := rs'.invNil
  obtain ⟨_, rfl⟩ := x1.invInt
  obtain ⟨_, rfl⟩ := x2.invInt
  obtain ⟨_, rfl⟩ := x3.invInt
  obtain ⟨_, rfl⟩ := x4.invInt
  obtain ⟨_, rfl⟩ := y1.invInt
  obtain ⟨_, rfl⟩ := y2.invInt
  obtain ⟨_, rfl⟩ := y3.invInt
  obtain ⟨_, rfl⟩ := y4.invInt
  have hu : A.in1.units < cLine := by have := R.units; show A.units + 1 < _ ; lia
  refine tup_ne_same hl hl' R.unit rfl (fun p hp => ?_) ⟨.refl s, rfl⟩
  simp only [List.zip_cons_cons, List.zip_nil_right, List.mem_cons, List.not_mem_nil, or_false] at hp
  rcases hp with rfl | rfl | rfl | rfl | rfl
  · exact same_int
  · exact same_int
  · exact same_int
  · exact same_int
  · exact same_dict hu x5 y5
end
end Mine
end
-- D9
section
open PySem PyProof.Rows PySem.W
set_option Elab.async false
set_option linter.unusedVariables false
set_option maxRecDepth 100000
namespace Mine
section
variable {c : Cf} {σ : List (Str × NameKind)} {n : Nat} {Γ Γ₁ Γ₂ : Vars} {m : Bool} {d d₁ d₂ : D}
theorem times_new {A : Around} {E : Value → Shared → Prop} {s : Shared} {l : Addr} {v : Value} {x : Int} {u : Tok} {k : Nat} {Q : Value → Shared → Prop} (hx : x = k) (hk : k ≤ 1000) (hl : s.heap.IsList l [v].toArray)
    (h : Q (.ref s.heap.objs.size) { s with heap := s.heap.push { cls := .type "list", data := .seq (List.replicate k v).toArray } }) : wpAny c.M A (binaryOp .Mult (.ref l) (.int x u)) Q E s := by
  obtain ⟨⟨cls, dd, data, sl⟩, ho, hcl, k', hd⟩ := id hl
  simp only at hcl hd
  subst hcl hd
  have hsz : [v].toArray.size * x.toNat = k := by simp [hx]
  refine wpAny_binaryOp_repeat_ref (T := "list") (U := "int") (by decide) ⟨_, ho, rfl⟩ (fun s' => typeIs_int s' x u) noFill_list_mul F.fills_int_mul F.slot_int_rmul repeat_list F.slot_int_index.lookup
    (call_meets F.slot_int_rmul (typeIs_int s x u) F.entry_int_rmul (F.args_int_rmul_2 _ _) (lm_int_rmul_list_any x u l [v].toArray k' dd sl)
      ⟨ho, rfl, ⟨_, ho, rfl⟩, call_meets F.slot_list_mul ⟨_, ho, rfl⟩ F.entry_list_mul (F.args_list_mul_2 _ _)
        (lm_list_mul_any l [v].toArray k' dd sl x u (by simp [Builtin.List.listFitsIndex]; lia) (by rw [hsz]; lia) (by rw [hsz]; simp [Builtin.List.listTooLong, sizeLine]; lia))
        ⟨ho, ?_⟩⟩)
  rw [listMul_foldl_if]
  have e : (List.replicate x.toNat [v].toArray.toList).flatten = List.replicate k v := by rw [hx]; simp
  rw [e]
  exact h
/-- [e] * k as a list of its own, its items flat -/
theorem EvO.times {e1 e2 : Expr} {p1 pos : Pos} {k : Nat} {x : Int} (a : EvE c σ n Γ true e1 d) (hf : d.flat = true) (b : EvE c σ n Γ true e2 (.int x)) (hx : x = k) (hk : k ≤ 1000)
    (he : ∀ env, starEach [e1] env = (false, eval e1 env) :: starEach [] env := by intro _; rfl) : EvO c σ n Γ (.BinOp (.List [e1] p1) .Mult e2 pos) (.oi (List.replicate k d)) := fun env U V A s E R I => by
  have al : EvE c σ n Γ true (.List [e1] p1) (.list [d]) := EvE.list (EvEs.cons a EvEs.nil (he := he))
  refine wpAny_BinOp (ev2 al b E R I fun v₁ v₂ s₂ g I₂ r₁ r₂ => ?_)
  obtain ⟨u, rfl⟩ := r₂.invInt
  obtain ⟨l, vs, rfl, hl, p, rs⟩ := r₁.invList
  obtain ⟨v, _, rfl, rv, rs⟩ := rs.invCons
  cases rs with
  | nil =>
    refine times_new hx hk hl ⟨g.trans ⟨⟨_, _, rfl⟩, push_keep _ _⟩, [s₂.heap.objs.size], .oi (vs := List.replicate k v) ⟨_, Heap.get?_push_size _ rfl, rfl, _, rfl⟩ ?_, by simp, fun a ha => ?_⟩
    · exact Reps_rep (rv.flat hf) k
    · obtain rfl := List.mem_singleton.mp ha
      cases e : s.heap.get? s₂.heap.objs.size with
      | none => rfl
      | some o => have := g.2 _ _ e; rw [heap_size_none] at this; cases this
/-- rows of two numbers and a text, compared -/
theorem cmp_row {a b a' b' : Int} {x x' : Str} : CmpV c .Eq (.tup [.int a, .int b, .str x]) (.tup [.int a', .int b', .str x']) (a == a' && (b == b' && x == x')) := fun P A s v₁ v₂ R G r₁ r₂ => by
  obtain ⟨l, vs, rfl, hl, p, rs⟩ := r₁.invTup
  obtain ⟨l', vs', rfl, hl', p', rs'⟩ := r₂.invTup
  obtain ⟨_, _, rfl, x1, rs⟩ := rs.invCons
  obtain ⟨_, _, rfl, x2, rs⟩ := rs.invCons
  obtain ⟨_, _, rfl, x3, rs⟩ := rs.invCons
  obtain rfl := rs.invNil
  obtain ⟨_, _, rfl, y1, rs'⟩ := rs'.invCons
  obtain ⟨_, _, rfl, y2, rs'⟩ := rs'.invCons
  obtain ⟨_, _, rfl, y3, rs'⟩ := rs'.invCons
  obtain rfl := rs'.invNil
  obtain ⟨t1, rfl⟩ := x1.invInt
  obtain ⟨t2, rfl⟩ := x2.invInt
  obtain ⟨t3, rfl⟩ := x3.invStr
  obtain ⟨u1, rfl⟩ := y1.invInt
  obtain ⟨u2, rfl⟩ := y2.invInt
  obtain ⟨u3, rfl⟩ := y3.invStr
  refine SeqAt.eq_tupleAt hl hl' R.unit (e := fun j => match j with | 0 => a == a' | 1 => b == b' | _ => x == x') (fun j h1 h2 => ?_) ⟨.refl s, ?_⟩
  · match j, h1 with
    | 0, _ => exact SeqAt.EqAt.int_int _ _ _ _
    | 1, _ => exact SeqAt.EqAt.int_int _ _ _ _
    | 2, _ => exact eq_str_at
    | j + 3, h1 => simp at h1; lia
  · simp [List.range, List.range.loop, Bool.and_assoc]
end
end Mine
end
-- D10
section
open PySem PyProof.Rows PySem.W
set_option Elab.async false
set_option linter.unusedVariables false
set_option maxRecDepth 100000
namespace Mine
mutual
/-- data without dicts and instances -/
inductive NoDict : D → Prop
  | none : NoDict .none
  | bool {b : Bool} : NoDict (.bool b)
  | int {i : Int} : NoDict (.int i)
  | str {x : Str} : NoDict (.str x)
  | tup {ds : List D} : NoDicts ds → NoDict (.tup ds)
  | list {ds : List D} : NoDicts ds → NoDict (.list ds)
inductive NoDicts : List D → Prop
  | nil : NoDicts []
  | cons {d : D} {ds : List D} : NoDict d → NoDicts ds → NoDicts (d :: ds)
end
theorem NoDicts.map {α : Type} {f : α → D} (h : ∀ x, NoDict (f x)) : ∀ l : List α, NoDicts (l.map f)
  | [] => .nil
  | x :: l => .cons (h x) (NoDicts.map h l)
section
variable {c : Cf} {h : Heap} {P : Addr → Prop} {a : Addr}
theorem clear_of (ha : ∃ o, h.get? a = some o ∧ o.cls = .type "dict") {b : Addr} {o : Obj} {T : String} (ho : h.get? b = some o) (hc : o.cls = .type T) (hT : (T == "dict") = false) : b ≠ a := fun e => by
  obtain ⟨o', ho', hc'⟩ := ha
  rw [e, ho'] at ho; cases ho
  rw [hc'] at hc; cases hc
  exact absurd hT (by decide)
mutual
theorem NoDict.avoid (ha : ∃ o, h.get? a = some o ∧ o.cls = .type "dict") {v : Value} : ∀ {d : D}, NoDict d → c.Rep h P v d → c.Rep h (fun b => P b ∧ b ≠ a) v d
  | _, .none, r => r.invNone ▸ .none
  | _, .bool, r => r.invBool ▸ .bool
  | _, .int, r => let ⟨_, e⟩ := r.invInt; e ▸ .int
  | _, .str, r => let ⟨_, e⟩ := r.invStr; e ▸ .str
  | _, .tup n, r => by obtain ⟨_, _, rfl, ht, p, r⟩ := r.invTup; exact .tup ht ⟨p, let ⟨_, e, q, _⟩ := ht; clear_of ha e q rfl⟩ (NoDicts.avoid ha n r)
  | _, .list n, r => by obtain ⟨_, _, rfl, ht, p, r⟩ := r.invList; exact .list ht ⟨p, let ⟨_, e, q, _⟩ := ht; clear_of ha e q rfl⟩ (NoDicts.avoid ha n r)
theorem NoDicts.avoid (ha : ∃ o, h.get? a = some o ∧ o.cls = .type "dict") {vs : List Value} : ∀ {ds : List D}, NoDicts ds → c.Reps h P vs ds → c.Reps h (fun b => P b ∧ b ≠ a) vs ds
  | _, .nil, r => r.invNil ▸ .nil
  | _, .cons n ns, r => by obtain ⟨_, _, rfl, r, rs⟩ := r.invCons; exact .cons (NoDict.avoid ha n r) (NoDicts.avoid ha ns rs)
end
end
section
variable {c : Cf} {σ : List (Str × NameKind)} {n : Nat} {Γ Γ₁ Γ₂ : Vars} {m : Bool} {d d₁ d₂ : D}
/-- an owned dict is lent to an expression whose value has no dict in it -/
theorem EvE.lendDict {x : Str} {kvs : List (Str × D)} {e : Expr} (hΓ : Γ x = some (.od kvs)) (a : EvE c σ n (upd Γ x (.fz (.dict kvs))) true e d) (hd : NoDict d) : EvE c σ n Γ true e d := fun env U V A s E R I => by
  obtain ⟨ρ, os, J⟩ := I
  have JF := J.freeze hΓ fun P v as r ha => frz_od (c := c) _ P v as r ha
  obtain ⟨v0, hv0, r0⟩ := J.var x _ hΓ
  generalize hos : os x = osx at r0
  have hown : ∀ b, V b → ¬ (V b ∧ b ∉ os x) → b ∈ os x := fun b hb q => Classical.byContradiction fun hn => q ⟨hb, hn⟩
  cases r0 with
  | @od ad kv _ sd rk =>
    refine wpAny_mono (a env U _ A s E R ⟨_, _, JF⟩) (fun v s₁ y => ⟨y.1, ?_⟩) fun _ _ z => z
    have hc : ∃ o, s₁.heap.get? ad = some o ∧ o.cls = .type "dict" := by
      obtain ⟨o, es, ep, ho, hx, _⟩ := sd.1
      exact ⟨o, y.1.2 _ _ ho, hx.1⟩
    refine (hd.avoid hc y.2).mono fun b p => ⟨p.1.1, fun _ hV => ?_⟩
    have := hown b hV (p.1.2 rfl)
    rw [hos] at this
    exact p.2 (List.mem_singleton.mp this)
end
theorem Fors.chain {c : Cf} {σ : List (Str × NameKind)} {n : Nat} {α β : Type} {tgt : Expr} {t : Bool} {body : List Stmt} (g : α → D) (Γs : β → Vars) (Γe : β → α → Vars) (step : β → α → β) (I : List α → β → Prop)
    (ht : t = true → ∃ es k p, tgt = .Tuple es k p) (hk : ∀ b x r, I (x :: r) b → I r (step b x)) (he : ∀ b x y sl, Γs b y = some sl → Γe b x y = some sl)
    (turn : ∀ b x r, I (x :: r) b → ∃ Γ₁ Γ₂, Asn c σ n (Γs b) tgt (g x) Γ₁ ∧ Exs c σ n Γ₁ body (.next Γ₂) ∧ (∀ y sl, Γe (step b x) x y = some sl → Γ₂ y = some sl)) :
    ∀ (xs : List α) (x0 : α) (b : β), I (x0 :: xs) b → Fors c σ n (Γs b) tgt t body ((x0 :: xs).map g) (.next (Γe (xs.foldl step (step b x0)) (xs.getLastD x0)))
  | [], x0, b, h => by
    obtain ⟨Γ₁, Γ₂, a, e, s⟩ := turn b x0 [] h
    exact Fors.cons a e (Fors.sub s Fors.nil) ht
  | x :: xs, x0, b, h => by
    obtain ⟨Γ₁, Γ₂, a, e, s⟩ := turn b x0 (x :: xs) h
    have := Fors.chain g Γs Γe step I ht hk he turn xs x (step b x0) (hk _ _ _ h)
    refine Fors.cons a e (Fors.sub (fun y sl q => s y sl (he _ _ y sl q)) ?_) ht
    have e2 : (x :: xs).getLastD x0 = xs.getLastD x := by cases xs <;> rfl
    rw [e2]
    exact this
end Mine
end
-- F1
section
open PySem PyProof.Rows PySem.W
set_option Elab.async false
set_option linter.unusedVariables false
set_option maxRecDepth 100000
namespace Mine
/-- a text by its signs -/
noncomputable def tx (l : List Nat) : Str := ⟨l.toArray⟩
theorem tx_app (a b : List Nat) : tx a ++ tx b = tx (a ++ b) := by
  show (⟨a.toArray ++ b.toArray⟩ : Str) = ⟨(a ++ b).toArray⟩
  simp
theorem tx_len (a : List Nat) : (tx a).length = a.length := by show a.toArray.size = _; simp
theorem tx_inj {a b : List Nat} : tx a = tx b ↔ a = b := by
  constructor
  · intro h; have := congrArg (fun s => s.cps.toList) h; simpa [tx] using this
  · rintro rfl; rfl
theorem tx_beq (a b : List Nat) : (tx a == tx b) = (a == b) := by
  by_cases h : a = b
  · subst h; simp
  · have : tx a ≠ tx b := fun q => h (tx_inj.mp q)
    rw [beq_eq_false_iff_ne.mpr h, beq_eq_false_iff_ne.mpr this]
theorem range_pick (l : List Nat) (a : Nat) : ∀ k, a + k ≤ l.length → (List.range k).filterMap (fun i => l[a + i]?) = (l.drop a).take k := by
  intro k
  induction k with
  | zero => intro _; simp
  | succ k ih =>
    intro h
    rw [List.range_succ, List.filterMap_append, ih (by lia), List.take_add_one]
    congr 1
    simp only [List.filterMap_cons, List.filterMap_nil, List.getElem?_drop]
    cases l[a + k]? <;> rfl
theorem sliceRange_nat (a b : Nat) : sliceRange (a : Int) (b : Int) 1 = (List.range (b - a)).map (a + ·) := by
  unfold sliceRange
  simp only [show (1 : Int) > 0 by decide, if_true]
  have : (if (a : Int) < b then ((b : Int) - a + 1 - 1) / 1 else 0).toNat = b - a := by split <;> simp <;> lia
  rw [this]
  apply List.map_congr_left
  intro k _
  lia
theorem slice_tx (l : List Nat) (lo hi : Option Int) (a b : Nat) (hab : a ≤ b) (hb : b ≤ l.length) (h : Builtin.Str.strSliceIndices lo hi 1 l.length = sliceRange (a : Int) (b : Int) 1) : Txt.slice (tx l) lo hi = tx ((l.drop a).take (b - a)) := by
  unfold Txt.slice
  rw [tx_len, h, sliceRange_nat]
  have e : List.filterMap (fun i => (tx l).cps[i]?) ((List.range (b - a)).map (a + ·)) = (l.drop a).take (b - a) := by
    rw [List.filterMap_map]
    rw [← range_pick l a (b - a) (by lia)]
    simp [tx, Function.comp_def]
  rw [e]
  split
  · rename_i q
    simp at q
    have : b - a = l.length := q
    have h0 : a = 0 := by lia
    subst h0
    simp [show b = l.length by lia]
  · rfl
theorem slice_from (l : List Nat) (k : Nat) (hk : k ≤ l.length) : Txt.slice (tx l) (some (k : Int)) none = tx (l.drop k) := by
  rw [slice_tx l _ _ k l.length hk (Nat.le_refl _) ?_]
  · rw [List.take_of_length_le (by simp)]
  · unfold Builtin.Str.strSliceIndices
    simp only [show (1 : Int) > 0 by decide, if_true]
    congr 1
    rw [if_neg (by lia)]; lia
theorem slice_upto (l : List Nat) (k : Nat) (hk : k ≤ l.length) : Txt.slice (tx l) none (some (k : Int)) = tx (l.take k) := by
  rw [slice_tx l _ _ 0 k (Nat.zero_le _) hk ?_]
  · simp
  · unfold Builtin.Str.strSliceIndices
    simp only [show (1 : Int) > 0 by decide, if_true]
    congr 1
    rw [if_neg (by lia)]; lia
theorem slice_but (l : List Nat) (k : Nat) (h1 : 0 < k) (hk : k ≤ l.length) : Txt.slice (tx l) none (some (-(k : Int))) = tx (l.take (l.length - k)) := by
  rw [slice_tx l _ _ 0 (l.length - k) (Nat.zero_le _) (Nat.sub_le _ _) ?_]
  · simp
  · unfold Builtin.Str.strSliceIndices
    simp only [show (1 : Int) > 0 by decide, if_true]
    congr 1
    rw [if_pos (by lia)]; lia
-- does it begin, does it end
noncomputable def begL (x y : List Nat) : Bool := decide (y.length ≤ x.length) && x.take y.length == y
noncomputable def endL (x y : List Nat) : Bool := decide (y.length ≤ x.length) && x.drop (x.length - y.length) == y
theorem sub_tx (x y : List Nat) (i : Nat) : Builtin.Str.subAt (tx x) (tx y) i = ((x.drop i).take y.length == y) := by
  unfold Builtin.Str.subAt
  rw [tx_len]
  have : (tx x).cps.extract i (i + y.length) = ((x.drop i).take y.length).toArray := by
    simp [tx]
  rw [this]
  show (((x.drop i).take y.length).toArray == y.toArray) = _
  simp
theorem starts_tx (x y : List Nat) : Txt.startswith (tx x) (tx y) = begL x y := by
  unfold Txt.startswith begL
  rw [tx_len, tx_len, sub_tx]; simp
theorem ends_tx (x y : List Nat) : Txt.endswith (tx x) (tx y) = endL x y := by
  unfold Txt.endswith endL
  rw [tx_len, tx_len, sub_tx]
  by_cases h : y.length ≤ x.length
  · have : List.take y.length (List.drop (x.length - y.length) x) = List.drop (x.length - y.length) x := List.take_of_length_le (by simp; lia)
    rw [this]; simp
  · simp [h]
-- the first place
noncomputable def findL (c : Nat) : List Nat → Nat → Int
  | [], _ => -1
  | x :: l, i => if x = c then (i : Int) else findL c l (i + 1)
noncomputable def occF (l : List Nat) (c : Nat) (i : Nat) (b : Array Nat × Nat) : Id (ForInStep (Array Nat × Nat)) :=
  if (decide (b.1.size < 1) && decide (b.2 ≤ i) && decide (i + 1 ≤ l.length) && Builtin.Str.subAt (tx l) (tx [c]) i) = true then pure (ForInStep.yield (b.1.push i, i + 1)) else pure (ForInStep.yield (b.1, b.2))
theorem occ_done (l : List Nat) (c j k : Nat) : ∀ (is : List Nat), (forIn is ((#[j] : Array Nat), k) (occF l c) : Id (Array Nat × Nat)) = pure (#[j], k)
  | [] => rfl
  | i :: is => by
    rw [List.forIn_cons]
    have : occF l c i (#[j], k) = pure (ForInStep.yield (#[j], k)) := by unfold occF; simp
    rw [this]
    exact occ_done l c j k is
theorem occ_loop (c : Nat) (l : List Nat) : ∀ (r pre : List Nat), l = pre ++ r →
    (match (((forIn (List.range' pre.length (r.length + 1)) ((#[] : Array Nat), 0) (occF l c) : Id (Array Nat × Nat))).run).1.toList with | i :: _ => (i : Int) | [] => -1) = findL c r pre.length := by
  intro r
  induction r with
  | nil =>
    intro pre h
    rw [show ([] : List Nat).length + 1 = 0 + 1 from rfl, List.range'_succ, List.forIn_cons]
    have : occF l c pre.length (#[], 0) = pure (ForInStep.yield (#[], 0)) := by
      have : ¬ pre.length + 1 ≤ l.length := by rw [h]; simp
      unfold occF; simp [this]
    rw [this]
    rfl
  | cons x r ih =>
    intro pre h
    rw [List.length_cons, List.range'_succ, List.forIn_cons]
    have hs : Builtin.Str.subAt (tx l) (tx [c]) pre.length = (x == c) := by
      rw [sub_tx, h]
      simp
    have hle : pre.length + 1 ≤ l.length := by rw [h]; simp
    by_cases hx : x = c
    · have : occF l c pre.length (#[], 0) = pure (ForInStep.yield (#[pre.length], pre.length + 1)) := by unfold occF; rw [hs]; simp [hle, hx]
      rw [this]
      show (match ((forIn _ ((#[pre.length] : Array Nat), pre.length + 1) (occF l c) : Id (Array Nat × Nat)).run).1.toList with | i :: _ => (i : Int) | [] => -1) = _
      rw [occ_done]
      simp [findL, hx]
    · have : occF l c pre.length (#[], 0) = pure (ForInStep.yield (#[], 0)) := by unfold occF; rw [hs]; simp [hx]
      rw [this]
      have := ih (pre ++ [x]) (by simp [h])
      simp only [List.length_append, List.length_cons, List.length_nil, Nat.zero_add] at this
      simp only [findL, hx, if_false]
      exact this
theorem find_tx (l : List Nat) (c : Nat) : Txt.find (tx l) (tx [c]) = findL c l 0 := by
  have key := occ_loop c l l [] rfl
  unfold Txt.find Builtin.Str.occurrences
  simp only [tx_len, List.length_cons, List.length_nil, Nat.zero_add]
  rw [← List.length_nil (α := Nat), ← key]
  rw [Std.Legacy.Range.forIn_eq_forIn_range']
  simp only [Std.Legacy.Range.size, Nat.add_sub_cancel, Nat.div_one]
  rfl
-- great and small letters
noncomputable def upC (c : Nat) : Nat := if 97 ≤ c ∧ c ≤ 122 then c - 32 else c
noncomputable def loC (c : Nat) : Nat := if 65 ≤ c ∧ c ≤ 90 then c + 32 else c
noncomputable def okC (c : Nat) : Bool := c == 46 || (48 ≤ c && c ≤ 57) || (65 ≤ c && c ≤ 90) || (97 ≤ c && c ≤ 122)
theorem upper_ok : ∀ c, c < 123 → okC c = true → Unicode.upperOf c = [upC c] := by decide +kernel
theorem lower_ok : ∀ c, c < 123 → okC c = true → Unicode.lowerOf c = [loC c] := by decide +kernel
theorem okC_lt {c : Nat} (h : okC c = true) : c < 123 := by unfold okC at h; simp at h; lia
theorem placed_tx (l : List Nat) (g : Nat → Nat → List Nat) (f : Nat → Nat) (h : ∀ i c, l[i]? = some c → g i c = [f c]) : (⟨placed (tx l) g⟩ : Str) = tx (l.map f) := by
  have e : placed (tx l) g = (l.map f).toArray := by
    unfold placed tx
    apply Array.toList_inj.mp
    have : (l.toArray.mapIdx fun i c => (g i c).toArray) = (l.map fun c => #[f c]).toArray := by
      apply Array.ext (by simp)
      intro i h1 h2
      simp only [List.size_toArray, List.length_map] at h2
      have := h i (l[i]) (List.getElem?_eq_getElem h2)
      simp [this]
    rw [this]
    have key : ∀ m : List Nat, (List.map (Array.toList ∘ fun c => #[f c]) m).flatten = List.map f m := by
      intro m
      induction m with
      | nil => rfl
      | cons c m ih => simp only [List.map_cons, List.flatten_cons, ih]; rfl
    simpa using key l
  rw [e]; rfl
theorem upper_tx (l : List Nat) (h : ∀ c ∈ l, okC c = true) : Txt.upper (tx l) = tx (l.map upC) :=
  placed_tx l _ upC fun i c e => upper_ok c (okC_lt (h c (List.mem_of_getElem? e))) (h c (List.mem_of_getElem? e))
theorem lower_tx (l : List Nat) (h : ∀ c ∈ l, okC c = true) : Txt.lower (tx l) = tx (l.map loC) :=
  placed_tx l _ loC fun i c e => by
    have hc := h c (List.mem_of_getElem? e)
    have e' : (tx l).cps[i]? = some c := by simpa [tx] using e
    show Unicode.lowerAt (tx l).cps i = [loC c]
    unfold Unicode.lowerAt
    rw [e']
    have := okC_lt hc
    have : (c == 0x3A3) = false := by simp; lia
    simp only [this, Bool.false_and, Bool.false_eq_true, if_false]
    exact lower_ok c (okC_lt hc) hc
end Mine
end
-- F2
section
open PySem PyProof.Rows PySem.W
set_option Elab.async false
set_option linter.unusedVariables false
set_option maxRecDepth 100000
namespace Mine
theorem getD_mem' {l : List Nat} {i : Nat} (h : i < l.length) : l.getD i 0 ∈ l := by rw [List.getD_eq_getElem?_getD, List.getElem?_eq_getElem h]; exact List.getElem_mem h
/-- the search at a place -/
noncomputable def srAt (l : List Nat) (s : Nat) (seen : Sre.Seen) (f : Bool) : Sre.M :=
  { code := ipCode, text := l.toArray, lim := l.length, start := s, lastStart := l.length, pc := 9, pos := s, handed := s, outermost := f, marks := #[], frames := [{ wait := .nextStart, pc := 9, pos := s, outermost := f }], weight := 1, seen := seen }
theorem op9 (l : List Nat) (s : Nat) (seen : Sre.Seen) (f : Bool) : Sre.ops[(srAt l s seen f).word 0]? = some .LITERAL := rfl
theorem acc9 (c : Nat) (seen : Sre.Seen) : Sre.accepts ipCode 9 c seen = .ok (c == 46, seen) := rfl
theorem sr_no {l : List Nat} {s : Nat} (seen : Sre.Seen) (f : Bool) (h : l.length ≤ s ∨ l.getD s 0 ≠ 46) : ∃ seen', (srAt l s seen f).step = { srAt l s seen' f with answer := some false } := by
  refine ⟨seen.add 16, ?_⟩
  show (srAt l s seen f).exec = _
  unfold Sre.M.exec
  rw [op9]
  dsimp only
  show (if s ≥ l.length then _ else _) = _
  by_cases hs : s ≥ l.length
  · rw [if_pos hs]; rfl
  · rw [if_neg hs]
    have h46 : (l.toArray.getD s 0 == 46) = false := by
      have := h.resolve_left hs
      have e : l.toArray.getD s 0 = l.getD s 0 := by simp
      rw [e]; simpa using this
    show (match Sre.accepts ipCode 9 (l.toArray.getD s 0) _ with | .error why => _ | .ok (false, seen) => _ | .ok (true, seen) => _) = _
    rw [acc9, h46]
    rfl
theorem sr_dot {l : List Nat} {s : Nat} (seen : Sre.Seen) (f : Bool) (h : s < l.length) (h46 : l.getD s 0 = 46) : (srAt l s seen f).step = { srAt l s (seen.add 16) f with pc := 11, pos := s + 1 } := by
  show (srAt l s seen f).exec = _
  unfold Sre.M.exec
  rw [op9]
  dsimp only
  show (if s ≥ l.length then _ else _) = _
  rw [if_neg (by lia)]
  have h46 : (l.toArray.getD s 0 == 46) = true := by
    have e : l.toArray.getD s 0 = l.getD s 0 := by simp
    rw [e]; simpa using h46
  show (match Sre.accepts ipCode 9 (l.toArray.getD s 0) _ with | .error why => _ | .ok (false, seen) => _ | .ok (true, seen) => _) = _
  rw [acc9, h46]
  rfl
theorem acc15 (c : Nat) (seen : Sre.Seen) (h : Sre.isDigit c = false) : ∃ seen', Sre.accepts ipCode 15 c seen = .ok (false, seen') := by
  have e : Sre.accepts ipCode 15 c seen = Sre.inSet ipCode c 24 17 true seen := rfl
  rw [e]
  refine ⟨((seen.add 8).add 55).add 0, ?_⟩
  show (do if ← Sre.category 0 c then pure (true, (seen.add 8).add (55 + 0)) else Sre.inSet ipCode c 23 19 true ((seen.add 8).add (55 + 0))) = _
  have hc : Sre.category 0 c = .ok (Sre.isDigit c) := by
    show (Except.ok (Sre.isDigit c) : Except String Bool).map (· != (0 % 2 == 1)) = _
    cases Sre.isDigit c <;> rfl
  rw [hc, h]
  rfl
theorem sr_dig {l : List Nat} {s : Nat} (seen : Sre.Seen) (f : Bool) (h : s + 1 < l.length → Sre.isDigit (l.getD (s + 1) 0) = false) : ∃ seen', ({ srAt l s seen f with pc := 11, pos := s + 1 } : Sre.M).step = { srAt l s seen' f with pc := 11, pos := s + 1, answer := some false } := by
  have hop : Sre.ops[({ srAt l s seen f with pc := 11, pos := s + 1 } : Sre.M).word 0]? = some .REPEAT_ONE := rfl
  have hst : ({ srAt l s seen f with pc := 11, pos := s + 1 } : Sre.M).step = ({ srAt l s seen f with pc := 11, pos := s + 1 } : Sre.M).exec := rfl
  rw [hst]
  unfold Sre.M.exec
  rw [hop]
  dsimp only
  by_cases hr : (1 : Int) > (l.length : Int) - ((s + 1 : Nat) : Int)
  · exact ⟨seen.add 24, if_pos hr⟩
  · have hlt : s + 1 < l.length := by lia
    have hmin : ∃ k, min 4294967295 ((l.length : Int) - ((s + 1 : Nat) : Int)).toNat = k + 1 := ⟨min 4294967295 ((l.length : Int) - ((s + 1 : Nat) : Int)).toNat - 1, by lia⟩
    obtain ⟨k, hk⟩ := hmin
    have hd : Sre.isDigit (l.toArray.getD (s + 1) 0) = false := by
      have e : l.toArray.getD (s + 1) 0 = l.getD (s + 1) 0 := by simp
      rw [e]; exact h hlt
    obtain ⟨seen', ha⟩ := acc15 (l.toArray.getD (s + 1) 0) ((seen.add 24).add 13) hd
    have hrun : Sre.run ipCode l.toArray 15 (min 4294967295 ((l.length : Int) - ((s + 1 : Nat) : Int)).toNat) (s + 1) 0 ((seen.add 24).add 13) = .ok (0, seen') := by
      rw [hk]
      show (do let (yes, seen) ← Sre.accepts ipCode 15 (l.toArray.getD (s + 1) 0) ((seen.add 24).add 13); if yes then Sre.run ipCode l.toArray 15 k (s + 2) 1 seen else pure (0, seen)) = _
      rw [ha]; rfl
    refine ⟨seen', (if_neg hr).trans ?_⟩
    show (match Sre.run ipCode l.toArray 15 (min 4294967295 ((l.length : Int) - ((s + 1 : Nat) : Int)).toNat) (s + 1) 0 ((seen.add 24).add 13) with | .error why => _ | .ok (n, seen) => _) = _
    rw [hrun]
    rfl
theorem sr_next {l : List Nat} {s : Nat} (seen : Sre.Seen) (f : Bool) (p q : Nat) (h : s < l.length) : ({ srAt l s seen f with pc := p, pos := q, answer := some false } : Sre.M).step = srAt l (s + 1) seen false := by
  show (if s < l.length then _ else _) = _
  rw [if_pos h]
  rfl
theorem sr_last {l : List Nat} {s : Nat} (seen : Sre.Seen) (f : Bool) (p q : Nat) (h : ¬ s < l.length) : isF (({ srAt l s seen f with pc := p, pos := q, answer := some false } : Sre.M).step.step).outcome = true := by
  have e : ({ srAt l s seen f with pc := p, pos := q, answer := some false } : Sre.M).step = { srAt l s seen f with frames := [], weight := 0, answer := some false } := by
    show (if s < l.length then _ else _) = _
    rw [if_neg h]
    rfl
  rw [e]; rfl
theorem runFor_one (n : Nat) (m : Sre.M) (h : m.outcome = none) : m.runFor (n + 1) = m.step.runFor n := by
  show (if m.outcome.isSome then m else _) = _
  rw [h]; rfl
theorem runFor_keep (m : Sre.M) (h : m.outcome.isSome = true) : ∀ n, m.runFor n = m
  | 0 => rfl
  | n + 1 => by show (if m.outcome.isSome then m else _) = _; rw [if_pos h]
theorem isF_some {o : Option Sre.Outcome} (h : isF o = true) : o.isSome = true := by cases o <;> simp [isF] at h ⊢
/-- a text without figures is not hit -/
theorem sr_run {l : List Nat} (h : ∀ c ∈ l, Sre.isDigit c = false) : ∀ (k s : Nat), l.length - s = k → s ≤ l.length → ∀ (seen : Sre.Seen) (f : Bool), ∃ n, n ≤ 3 * k + 4 ∧ isF ((srAt l s seen f).runFor n).outcome = true := by
  intro k
  induction k with
  | zero =>
    intro s hk hs seen f
    obtain ⟨seen', e⟩ := sr_no (l := l) (s := s) seen f (.inl (by lia))
    refine ⟨3, by lia, ?_⟩
    rw [runFor_one _ _ rfl, e, runFor_one _ _ rfl]
    have key := sr_last (l := l) (s := s) seen' f 9 s (by lia)
    rw [runFor_one _ _ (by
      have e : ({ srAt l s seen' f with answer := some false } : Sre.M).step = { srAt l s seen' f with frames := [], weight := 0, answer := some false } := by
        show (if s < l.length then _ else _) = _
        rw [if_neg (by lia)]
        rfl
      rw [e]; rfl)]
    exact key
  | succ k ih =>
    intro s hk hs seen f
    by_cases h46 : l.getD s 0 = 46
    · have e1 := sr_dot (l := l) (s := s) seen f (by lia) h46
      obtain ⟨seen', e2⟩ := sr_dig (l := l) (s := s) (seen.add 16) f fun q => h _ (getD_mem' q)
      have e3 := sr_next (l := l) (s := s) seen' f 11 (s + 1) (by lia)
      obtain ⟨n, hn, q⟩ := ih (s + 1) (by lia) (by lia) seen' false
      refine ⟨n + 3, by lia, ?_⟩
      rw [runFor_one _ _ rfl, e1, runFor_one _ _ rfl, e2, runFor_one _ _ rfl, e3]
      exact q
    · obtain ⟨seen', e1⟩ := sr_no (l := l) (s := s) seen f (.inr h46)
      have e3 := sr_next (l := l) (s := s) seen' f 9 s (by lia)
      obtain ⟨n, hn, q⟩ := ih (s + 1) (by lia) (by lia) seen' false
      refine ⟨n + 2, by lia, ?_⟩
      rw [runFor_one _ _ rfl, e1, runFor_one _ _ rfl]
      exact (congrArg (fun m => isF (Sre.M.runFor n m).outcome) e3).trans q
/-- the places ahead of one are passed -/
theorem sr_pass {l : List Nat} {t : Nat} (ht : t ≤ l.length) (h : ∀ i, i < t → l.getD i 0 = 46 → i + 1 < l.length → Sre.isDigit (l.getD (i + 1) 0) = false) : ∀ (k s : Nat), t - s = k → s ≤ t → ∀ (seen : Sre.Seen) (f : Bool),
    ∃ n seen' f', n ≤ 3 * k ∧ (srAt l s seen f).runFor n = srAt l t seen' f' := by
  intro k
  induction k with
  | zero => intro s hk hs seen f; exact ⟨0, seen, f, Nat.le_refl _, by rw [show s = t by lia]; rfl⟩
  | succ k ih =>
    intro s hk hs seen f
    by_cases h46 : l.getD s 0 = 46
    · have e1 := sr_dot (l := l) (s := s) seen f (by lia) h46
      obtain ⟨seen', e2⟩ := sr_dig (l := l) (s := s) (seen.add 16) f fun q => h s (by lia) h46 q
      have e3 := sr_next (l := l) (s := s) seen' f 11 (s + 1) (by lia)
      obtain ⟨n, se, f', hn, q⟩ := ih (s + 1) (by lia) (by lia) seen' false
      refine ⟨n + 3, se, f', by lia, ?_⟩
      rw [runFor_one _ _ rfl, e1, runFor_one _ _ rfl, e2, runFor_one _ _ rfl, e3]
      exact q
    · obtain ⟨seen', e1⟩ := sr_no (l := l) (s := s) seen f (.inr h46)
      have e3 := sr_next (l := l) (s := s) seen' f 9 s (by lia)
      obtain ⟨n, se, f', hn, q⟩ := ih (s + 1) (by lia) (by lia) seen' false
      refine ⟨n + 2, se, f', by lia, ?_⟩
      rw [runFor_one _ _ rfl, e1, runFor_one _ _ rfl]
      exact (congrArg (fun m => Sre.M.runFor n m) e3).trans q
theorem acc15y (seen : Sre.Seen) : ∃ seen', Sre.accepts ipCode 15 55 seen = .ok (true, seen') := ⟨_, rfl⟩
theorem sr_seven {l : List Nat} {s : Nat} (seen : Sre.Seen) (f : Bool) (hlen : l.length = s + 2) (h7 : l.getD (s + 1) 0 = 55) : isM (({ srAt l s seen f with pc := 11, pos := s + 1 } : Sre.M).runFor 6).outcome = true := by
  have hst : ∃ seen', ({ srAt l s seen f with pc := 11, pos := s + 1 } : Sre.M).step = { srAt l s seen' f with pc := 21, pos := s + 2, handed := s + 2, weight := 2, frames := [{ wait := .giveBack, pc := 11, pos := s + 2, outermost := f, count := 1 }, { wait := .nextStart, pc := 9, pos := s, outermost := f }] } := by
    have hop : Sre.ops[({ srAt l s seen f with pc := 11, pos := s + 1 } : Sre.M).word 0]? = some .REPEAT_ONE := rfl
    have hst : ({ srAt l s seen f with pc := 11, pos := s + 1 } : Sre.M).step = ({ srAt l s seen f with pc := 11, pos := s + 1 } : Sre.M).exec := rfl
    rw [hst]
    unfold Sre.M.exec
    rw [hop]
    dsimp only
    obtain ⟨seen', ha⟩ := acc15y ((seen.add 24).add 13)
    have hk : min 4294967295 ((l.length : Int) - ((s + 1 : Nat) : Int)).toNat = 0 + 1 := by lia
    have hrun : Sre.run ipCode l.toArray 15 (min 4294967295 ((l.length : Int) - ((s + 1 : Nat) : Int)).toNat) (s + 1) 0 ((seen.add 24).add 13) = .ok (1, seen') := by
      rw [hk]
      have e : l.toArray.getD (s + 1) 0 = 55 := by simpa using h7
      show (do let (yes, seen) ← Sre.accepts ipCode 15 (l.toArray.getD (s + 1) 0) ((seen.add 24).add 13); if yes then Sre.run ipCode l.toArray 15 0 (s + 2) 1 seen else pure (0, seen)) = _
      rw [e, ha]; rfl
    refine ⟨seen', (if_neg (show ¬ (1 : Int) > (l.length : Int) - ((s + 1 : Nat) : Int) by lia)).trans ?_⟩
    · show (match Sre.run ipCode l.toArray 15 (min 4294967295 ((l.length : Int) - ((s + 1 : Nat) : Int)).toNat) (s + 1) 0 ((seen.add 24).add 13) with | .error why => _ | .ok (n, seen) => _) = _
      rw [hrun]
      rfl
  obtain ⟨seen', e1⟩ := hst
  rw [runFor_one _ _ rfl, e1]
  have e2 : ∃ se, ({ srAt l s seen' f with pc := 21, pos := s + 2, handed := s + 2, weight := 2, frames := [{ wait := .giveBack, pc := 11, pos := s + 2, outermost := f, count := 1 }, { wait := .nextStart, pc := 9, pos := s, outermost := f }] } : Sre.M).step =
      { srAt l s se f with pc := 23, pos := s + 2, handed := s + 2, weight := 2, frames := [{ wait := .giveBack, pc := 11, pos := s + 2, outermost := f, count := 1 }, { wait := .nextStart, pc := 9, pos := s, outermost := f }] } := by
    refine ⟨(seen'.add 6).add 48, ?_⟩
    show (if (s + 2 == l.length || (s + 2 + 1 == l.length && l.toArray.getD (s + 2) 0 == 10)) = true then _ else _) = _
    rw [if_pos (by simp [hlen])]
    rfl
  obtain ⟨se, e2⟩ := e2
  rw [runFor_one _ _ rfl, e2, runFor_one _ _ rfl]
  have e3 : ({ srAt l s se f with pc := 23, pos := s + 2, handed := s + 2, weight := 2, frames := [{ wait := .giveBack, pc := 11, pos := s + 2, outermost := f, count := 1 }, { wait := .nextStart, pc := 9, pos := s, outermost := f }] } : Sre.M).step =
      { srAt l s (se.add 1) f with pc := 23, pos := s + 2, handed := s + 2, weight := 2, frames := [{ wait := .giveBack, pc := 11, pos := s + 2, outermost := f, count := 1 }, { wait := .nextStart, pc := 9, pos := s, outermost := f }], answer := some true } := by
    show (if (f && ((false && s + 2 != l.length) || (false && s + 2 == s))) = true then _ else _) = _
    rw [if_neg (by simp)]
    rfl
  rw [e3, runFor_one _ _ rfl]
  rfl
theorem sreM_srAt {l : List Nat} (h : 2 ≤ l.length) : sreM (tx l) = srAt l 0 (({} : Sre.Seen).add 14) true := by
  unfold sreM Sre.forSearch
  show (if (decide (0 > l.toArray.size) || decide (l.toArray.size - 0 < 2)) = true then _ else _) = _
  rw [if_neg (by simp; lia)]
  simp [tx]
  rfl
/-- a point and a seven at the end are hit -/
theorem hit_seven {l : List Nat} (h : ∀ c ∈ l, Sre.isDigit c = false) (hl : l.length < 900) (h1 : 0 < l.length) : Hit (tx (l ++ [46, 55])) true := by
  have e := sreM_srAt (l := l ++ [46, 55]) (by simp)
  obtain ⟨n, se, f', hn, q⟩ := sr_pass (l := l ++ [46, 55]) (t := l.length) (by simp) (fun i hi h46 h2 => by
    by_cases hlt : i + 1 < l.length
    · have : (l ++ [46, 55]).getD (i + 1) 0 = l.getD (i + 1) 0 := by simp [List.getElem?_append_left hlt]
      rw [this]; exact h _ (getD_mem' hlt)
    · have : i + 1 = l.length := by lia
      rw [this]; simp; rfl) l.length 0 rfl (Nat.zero_le _) (({} : Sre.Seen).add 14) true
  have e1 := sr_dot (l := l ++ [46, 55]) (s := l.length) se f' (by simp) (by simp)
  have e2 := sr_seven (l := l ++ [46, 55]) (s := l.length) (se.add 16) f' (by simp) (by simp)
  have key : isM ((sreM (tx (l ++ [46, 55]))).runFor (n + 7)).outcome = true := by
    rw [runFor_add, e, q, runFor_one _ _ rfl, e1]
    exact e2
  refine ⟨1000, by lia, .inr ⟨rfl, ?_⟩⟩
  have : (sreM (tx (l ++ [46, 55]))).runFor (4 * (1000 + 1)) = ((sreM (tx (l ++ [46, 55]))).runFor (n + 7)).runFor (4004 - (n + 7)) := by rw [← runFor_add]; congr 1; lia
  rw [this, runFor_keep]
  · exact key
  · revert key
    cases ((sreM (tx (l ++ [46, 55]))).runFor (n + 7)).outcome <;> simp [isM]
theorem hit_no {l : List Nat} (h : ∀ c ∈ l, Sre.isDigit c = false) (hl : l.length < 1000) : Hit (tx l) false := by
  have key : ∃ n, n ≤ 4000 ∧ isF ((sreM (tx l)).runFor n).outcome = true := by
    by_cases h2 : l.length < 2
    · refine ⟨1, by lia, ?_⟩
      have e : sreM (tx l) = { srAt l 0 (({} : Sre.Seen).add 14) true with lastStart := 0, frames := [], weight := 0, outermost := true, answer := some false } := by
        unfold sreM Sre.forSearch
        show (if (decide (0 > l.toArray.size) || decide (l.toArray.size - 0 < 2)) = true then _ else _) = _
        rw [if_pos (by simp; lia)]
        simp [tx]
        rfl
      rw [e]; rfl
    · have e : sreM (tx l) = srAt l 0 (({} : Sre.Seen).add 14) true := by
        unfold sreM Sre.forSearch
        show (if (decide (0 > l.toArray.size) || decide (l.toArray.size - 0 < 2)) = true then _ else _) = _
        rw [if_neg (by simp; lia)]
        simp [tx]
        rfl
      rw [e]
      obtain ⟨n, hn, q⟩ := sr_run h l.length 0 rfl (Nat.zero_le _) (({} : Sre.Seen).add 14) true
      exact ⟨n, by lia, q⟩
  obtain ⟨n, hn, q⟩ := key
  refine ⟨1000, by lia, .inl ⟨rfl, ?_⟩⟩
  have : (sreM (tx l)).runFor (4 * (1000 + 1)) = ((sreM (tx l)).runFor n).runFor (4004 - n) := by rw [← runFor_add]; congr 1; lia
  rw [this, runFor_keep _ (isF_some q)]
  exact q
end Mine
end
-- Hd
section
open PySem PySem.W PyProof.Rows
set_option Elab.async false
set_option maxRecDepth 100000
set_option maxHeartbeats 8000000
open_top hd for PySem.Challenge.rw_pw0015_01
end
-- E0
section
open PySem PySem.W PyProof.Rows
set_option Elab.async false
set_option linter.unusedVariables false
namespace Mine
-- lists of a given length
theorem lstS {α : Type} {vs : List α} {n : Nat} (h : vs.length = n + 1) : ∃ a r, vs = a :: r ∧ r.length = n := by
  cases vs with
  | nil => cases h
  | cons a r => exact ⟨a, r, rfl, Nat.succ.inj h⟩
theorem lst1 {α : Type} {vs : List α} (h : vs.length = 1) : ∃ a, vs = [a] := let ⟨a, _, e, h⟩ := lstS h; ⟨a, List.length_eq_zero_iff.mp h ▸ e⟩
theorem lst2 {α : Type} {vs : List α} (h : vs.length = 2) : ∃ a b, vs = [a, b] := let ⟨a, _, e, h⟩ := lstS h; let ⟨b, q⟩ := lst1 h; ⟨a, b, q ▸ e⟩
theorem lst3 {α : Type} {vs : List α} (h : vs.length = 3) : ∃ a b c, vs = [a, b, c] := let ⟨a, _, e, h⟩ := lstS h; let ⟨b, c, q⟩ := lst2 h; ⟨a, b, c, q ▸ e⟩
theorem lst4 {α : Type} {vs : List α} (h : vs.length = 4) : ∃ a b c d, vs = [a, b, c, d] := let ⟨a, _, e, h⟩ := lstS h; let ⟨b, c, d, q⟩ := lst3 h; ⟨a, b, c, d, q ▸ e⟩
theorem lst5 {α : Type} {vs : List α} (h : vs.length = 5) : ∃ a b c d e, vs = [a, b, c, d, e] := let ⟨a, _, e, h⟩ := lstS h; let ⟨b, c, d, f, q⟩ := lst4 h; ⟨a, b, c, d, f, q ▸ e⟩
theorem lst6 {α : Type} {vs : List α} (h : vs.length = 6) : ∃ a b c d e g, vs = [a, b, c, d, e, g] := let ⟨a, _, e, h⟩ := lstS h; let ⟨b, c, d, f, g, q⟩ := lst5 h; ⟨a, b, c, d, f, g, q ▸ e⟩
theorem lst7 {α : Type} {vs : List α} (h : vs.length = 7) : ∃ a b c d e g i, vs = [a, b, c, d, e, g, i] := let ⟨a, _, e, h⟩ := lstS h; let ⟨b, c, d, f, g, i, q⟩ := lst6 h; ⟨a, b, c, d, f, g, i, q ▸ e⟩
/-- a list of variables -/
noncomputable def vr : List (Str × Slot) → Vars
  | [] => fun _ => none
  | (y, s) :: l => upd (vr l) y s
theorem vr_same {y : Str} {s : Slot} {l : List (Str × Slot)} : vr ((y, s) :: l) y = some s := upd_same
theorem vr_ne {x y : Str} {s : Slot} {r : Option Slot} {l : List (Str × Slot)} (h : x ≠ y) (e : vr l x = r) : vr ((y, s) :: l) x = r := upd_ne h e
theorem args_same {p : Str} {ps : List Str} {d : D} {ds : List D} : args (p :: ps) (d :: ds) p = some (.fz d) := by simp [args]
theorem args_ne {x p : Str} {ps : List Str} {d : D} {ds : List D} {r : Option Slot} (h : x ≠ p) (e : args ps ds x = r) : args (p :: ps) (d :: ds) x = r := by simp [args, h, e]
theorem sub_nil {Γ : Vars} : ∀ x sl, vr [] x = some sl → Γ x = some sl := fun _ _ h => nomatch h
theorem sub_cons {Γ : Vars} {y : Str} {s : Slot} {l : List (Str × Slot)} (h : Γ y = some s) (t : ∀ x sl, vr l x = some sl → Γ x = some sl) : ∀ x sl, vr ((y, s) :: l) x = some sl → Γ x = some sl := fun x sl e => by
  unfold vr upd at e
  split at e
  · rename_i q; subst q; rw [h, e]
  · exact t x sl e
/-- all variables of one list stand in a table: one equation, by reading -/
theorem sub_all {l : List (Str × Slot)} {Γ : Vars} (h : l.map (fun p => Γ p.1) = l.map (fun p => some p.2)) : ∀ x sl, vr l x = some sl → Γ x = some sl := by
  induction l with
  | nil => exact sub_nil
  | cons p l ih =>
    simp only [List.map_cons, List.cons.injEq] at h
    exact sub_cons h.1 (ih h.2)
section
variable {c : Cf} {σ : List (Str × NameKind)} {n : Nat} {Γ Γ₁ Γ₂ : Vars} {m : Bool} {d d₁ d₂ : D}
theorem Fors.fold {α β : Type} {tgt : Expr} {t : Bool} {body : List Stmt} (g : α → D) (Γs : β → Vars) (step : β → α → β)
    (ht : t = true → ∃ es k p, tgt = .Tuple es k p) : ∀ (xs : List α) (b : β), (∀ b x, x ∈ xs → ∃ Γ₁ Γ₂, Asn c σ n (Γs b) tgt (g x) Γ₁ ∧ Exs c σ n Γ₁ body (.next Γ₂) ∧ (∀ y sl, Γs (step b x) y = some sl → Γ₂ y = some sl)) →
    Fors c σ n (Γs b) tgt t body (xs.map g) (.next (Γs (xs.foldl step b)))
  | [], b, _ => Fors.nil
  | x :: xs, b, h => by
    obtain ⟨Γ₁, Γ₂, a, e, s⟩ := h b x List.mem_cons_self
    exact Fors.cons a e (Fors.sub s (Fors.fold g Γs step ht xs (step b x) fun b y hy => h b y (List.mem_cons_of_mem _ hy))) ht
/-- with a predicate that each turn keeps -/
theorem Fors.foldP {α β : Type} {tgt : Expr} {t : Bool} {body : List Stmt} (g : α → D) (Γs : β → Vars) (step : β → α → β) (I : β → Prop)
    (ht : t = true → ∃ es k p, tgt = .Tuple es k p) : ∀ (xs : List α) (b : β), I b → (∀ b x, x ∈ xs → I b → I (step b x)) →
    (∀ b x, x ∈ xs → I b → ∃ Γ₁ Γ₂, Asn c σ n (Γs b) tgt (g x) Γ₁ ∧ Exs c σ n Γ₁ body (.next Γ₂) ∧ (∀ y sl, Γs (step b x) y = some sl → Γ₂ y = some sl)) →
    Fors c σ n (Γs b) tgt t body (xs.map g) (.next (Γs (xs.foldl step b)))
  | [], b, _, _, _ => Fors.nil
  | x :: xs, b, i, k, h => by
    obtain ⟨Γ₁, Γ₂, a, e, s⟩ := h b x List.mem_cons_self i
    exact Fors.cons a e (Fors.sub s (Fors.foldP g Γs step I ht xs (step b x) (k b x List.mem_cons_self i) (fun b y hy => k b y (List.mem_cons_of_mem _ hy)) fun b y hy => h b y (List.mem_cons_of_mem _ hy))) ht
theorem Ex.out {st : Stmt} {o o' : Out} (a : Ex c σ n Γ st o) (h : o = o') : Ex c σ n Γ st o' := h ▸ a
theorem EvE.as {e : Expr} (a : EvE c σ n Γ m e d) (h : d = d₁) : EvE c σ n Γ m e d₁ := h ▸ a
theorem EvT.as {e : Expr} {b b' : Bool} (a : EvT c σ n Γ e b) (h : b = b') : EvT c σ n Γ e b' := h ▸ a
theorem EvIt.as {e : Expr} {t : Bool} {ds ds' : List D} (a : EvIt c σ n Γ e t ds) (h : ds = ds') : EvIt c σ n Γ e t ds' := h ▸ a
theorem EvE.name_ld {x : Str} {pos : Pos} {dss : List (List (Str × D))} (hΓ : Γ x = some (.ld dss)) (hx : σ.lookup x = some .local ∨ σ.lookup x = some .cell ∨ σ.lookup x = some .free)
    (hn : (x == ("__classdict__" : Str)) = false := by decide) (hd : (x == ("__debug__" : Str)) = false := by decide) : EvE c σ n Γ false (.Name x pos) (.list (dss.map D.dict)) :=
  name_own hΓ hx hn hd fun h U V v os ho r =>
    frz_ld (c := c) h (PM false U V) v os (r.move (fun _ _ _ e => e) (fun _ _ _ e => e) fun _ p => cl_false p) fun a ha => ⟨ho a ha, fun q => by cases q⟩
/-- how a slot may be read -/
inductive ReadAs : Slot → Bool → D → Prop
  | fz {d : D} {m : Bool} : ReadAs (.fz d) m d
  | ol {ds : List D} : ReadAs (.ol ds) false (.list ds)
  | oi {ds : List D} : ReadAs (.oi ds) false (.list ds)
  | od {kvs : List (Str × D)} : ReadAs (.od kvs) false (.dict kvs)
  | ld {dss : List (List (Str × D))} : ReadAs (.ld dss) false (.list (dss.map D.dict))
noncomputable def okName (σ : List (Str × NameKind)) (x : Str) : Bool := (σ.lookup x == some .local || (σ.lookup x == some .cell || σ.lookup x == some .free)) && (!(x == ("__classdict__" : Str)) && !(x == ("__debug__" : Str)))
theorem EvE.nameR {x : Str} {pos : Pos} {sl : Slot} (hΓ : Γ x = some sl) (hs : ReadAs sl m d) (hk : okName σ x = true) : EvE c σ n Γ m (.Name x pos) d := by
  simp only [okName, Bool.and_eq_true, Bool.or_eq_true, Bool.not_eq_true', beq_iff_eq] at hk
  obtain ⟨hx, hn, hd⟩ := hk
  have hn' : (x == ("__classdict__" : Str)) = false := by simpa using hn
  have hd' : (x == ("__debug__" : Str)) = false := by simpa using hd
  cases hs with
  | fz => exact EvE.name hΓ hx hn' hd'
  | ol => exact EvE.name_ol hΓ hx hn' hd'
  | oi => exact EvE.name_oi hΓ hx hn' hd'
  | od => exact EvE.name_od hΓ hx hn' hd'
  | ld => exact EvE.name_ld hΓ hx hn' hd'
end
noncomputable def cf (w : World) : Cf := ⟨PySem.Challenge.rw_pw0015_01.row.prog, w, hd.heap_39 w.params⟩
/-- a def of the module's top -/
noncomputable def Top (w : World) (f : Str) (a : Addr) : Prop := nsIn (cf w).K mainGlobals f = some (some (.ref a)) ∧ keepIn (cf w).K (.ref a) = true
/-- a name of the interpreter's -/
noncomputable def Blt (w : World) (f : Str) (v : Value) : Prop := nsIn (cf w).K mainGlobals f = some none ∧ bootBuiltins f = some v ∧ f ≠ "__name__" ∧ keeperOf v = pure .machine
section
variable {w : World}
set_option maxRecDepth 100000
theorem t_is_HDN : Top w "is_HDN" 43 := ⟨by kernel_rfl, by kernel_rfl⟩
theorem t_liberal : Top w "liberal_is_HDN" 50 := ⟨by kernel_rfl, by kernel_rfl⟩
theorem t_udm : Top w "user_domain_match" 57 := ⟨by kernel_rfl, by kernel_rfl⟩
theorem t_reach : Top w "reach" 64 := ⟨by kernel_rfl, by kernel_rfl⟩
theorem t_afs : Top w "add_func_stats" 99 := ⟨by kernel_rfl, by kernel_rfl⟩
theorem t_ac : Top w "add_callers" 106 := ⟨by kernel_rfl, by kernel_rfl⟩
theorem t_cc : Top w "count_calls" 113 := ⟨by kernel_rfl, by kernel_rfl⟩
theorem t_log : Top w "_law_log" 120 := ⟨by kernel_rfl, by kernel_rfl⟩
theorem t_ledgers : Top w "_law_ledgers" 125 := ⟨by kernel_rfl, by kernel_rfl⟩
theorem t_sum : Top w "_law_sum" 130 := ⟨by kernel_rfl, by kernel_rfl⟩
theorem t_bonds : Top w "_law_bonds" 135 := ⟨by kernel_rfl, by kernel_rfl⟩
theorem t_between : Top w "_law_between" 140 := ⟨by kernel_rfl, by kernel_rfl⟩
theorem t_sides : Top w "_law_sides" 145 := ⟨by kernel_rfl, by kernel_rfl⟩
theorem t_entries : Top w "_law_entries" 150 := ⟨by kernel_rfl, by kernel_rfl⟩
theorem t_home : Top w "_law_home" 157 := ⟨by kernel_rfl, by kernel_rfl⟩
theorem t_found : Top w "_law_found" 162 := ⟨by kernel_rfl, by kernel_rfl⟩
theorem t_alone : Top w "_law_alone_told" 167 := ⟨by kernel_rfl, by kernel_rfl⟩
theorem t_round : Top w "_law_round" 172 := ⟨by kernel_rfl, by kernel_rfl⟩
theorem t_step : Top w "_law_step_told" 177 := ⟨by kernel_rfl, by kernel_rfl⟩
theorem t_block : Top w "_law_block_told" 184 := ⟨by kernel_rfl, by kernel_rfl⟩
theorem t_fewest : Top w "_law_fewest" 189 := ⟨by kernel_rfl, by kernel_rfl⟩
theorem b_len : Blt w "len" (.builtin "len") := ⟨by kernel_rfl, by kernel_rfl, by decide +kernel, by kernel_rfl⟩
theorem b_sum : Blt w "sum" (.builtin "sum") := ⟨by kernel_rfl, by kernel_rfl, by decide +kernel, by kernel_rfl⟩
theorem b_min : Blt w "min" (.builtin "min") := ⟨by kernel_rfl, by kernel_rfl, by decide +kernel, by kernel_rfl⟩
theorem b_max : Blt w "max" (.builtin "max") := ⟨by kernel_rfl, by kernel_rfl, by decide +kernel, by kernel_rfl⟩
theorem b_range : Blt w "range" (.type "range") := ⟨by kernel_rfl, by kernel_rfl, by decide +kernel, by kernel_rfl⟩
theorem b_enum : Blt w "enumerate" (.type "enumerate") := ⟨by kernel_rfl, by kernel_rfl, by decide +kernel, by kernel_rfl⟩
theorem b_list : Blt w "list" (.type "list") := ⟨by kernel_rfl, by kernel_rfl, by decide +kernel, by kernel_rfl⟩
end
section
variable {w : World} {σ : List (Str × NameKind)} {n : Nat} {Γ Γ₁ Γ₂ : Vars} {m : Bool} {d d₁ d₂ : D}
theorem EvE.calld {f : Str} {a : Addr} {np pos : Pos} {e : Expr} {r : List Expr} {ds : List D} {k : Nat} (T : Top w f a) (b : EvEs (cf w) σ n Γ m (e :: r) ds) (F : FunSpec (cf w) a k ds d) (hx : σ.lookup f = some .globalImplicit := by decide +kernel) (hkn : k ≤ n := by decide)
    (he : ∀ env, starEach (e :: r) env = (false, eval e env) :: starEach r env := by intro _; rfl) (hplain : ∀ env pos, (backTo pos (starEach r env)).any (·.1) = false := by intro _ _; rfl)
    (hd : (f == ("__debug__" : Str)) = false := by decide +kernel) : EvE (cf w) σ n Γ m (.Call (.Name f np) (e :: r) [] pos) d := EvE.call hx T.1 T.2 b F hkn he hplain hd
theorem EvE.callB {f : Str} {fv : Value} {np pos : Pos} {e : Expr} {r : List Expr} {ds : List D} (B : Blt w f fv) (b : EvEs (cf w) σ n Γ m (e :: r) ds) (F : CallV (cf w) fv ds d) (hx : σ.lookup f = some .globalImplicit := by decide +kernel)
    (he : ∀ env, starEach (e :: r) env = (false, eval e env) :: starEach r env := by intro _; rfl) (hplain : ∀ env pos, (backTo pos (starEach r env)).any (·.1) = false := by intro _ _; rfl)
    (hd : (f == ("__debug__" : Str)) = false := by decide +kernel) : EvE (cf w) σ n Γ m (.Call (.Name f np) (e :: r) [] pos) d := EvE.callb hx B.1 B.2.1 B.2.2.1 B.2.2.2 b F he hplain hd
theorem EvIt.callB {f : Str} {fv : Value} {np pos : Pos} {e : Expr} {r : List Expr} {ds es : List D} {t : Bool} (B : Blt w f fv) (b : EvEs (cf w) σ n Γ true (e :: r) ds) (F : CallI (cf w) fv ds t es) (hx : σ.lookup f = some .globalImplicit := by decide +kernel)
    (he : ∀ env, starEach (e :: r) env = (false, eval e env) :: starEach r env := by intro _; rfl) (hplain : ∀ env pos, (backTo pos (starEach r env)).any (·.1) = false := by intro _ _; rfl)
    (hd : (f == ("__debug__" : Str)) = false := by decide +kernel) : EvIt (cf w) σ n Γ (.Call (.Name f np) (e :: r) [] pos) t es := EvIt.callb hx B.1 B.2.1 B.2.2.1 B.2.2.2 b F he hplain hd
end
end Mine
end
-- E1 to E20
section
set_option linter.unusedVariables false
set_option maxRecDepth 100000
namespace Mine
-- variables
local macro_rules | `(tactic| l_intsC) => `(tactic| first
  | (with_reducible first | exact upd_same | exact vr_same | exact args_same)
  | exact rfl
  | ((with_reducible first | refine upd_ne (by decide +kernel) ?_ | refine vr_ne (by decide +kernel) ?_ | refine args_ne (by decide +kernel) ?_ | refine seen_at (by decide +kernel) ?_); l_intsC))
local macro_rules | `(tactic| k_subL) => `(tactic| first | exact sub_all (by kernel_rfl!) | exact sub_nil | (refine sub_cons (by l_intsC) ?_; k_subL))
-- values
local macro_rules | `(tactic| k_offL) => `(tactic| with_reducible first
  | exact bin_add
  | exact bin_sub
  | exact bin_addb
  | exact inp_int
  | exact un_neg
  | exact cmp_int_eq
  | exact cmp_int_ne
  | exact cmp_int_lt
  | exact cmp_int_gt
  | exact cmp_int_le
  | exact cmp_int_ge
  | exact cmp_str_eq
  | exact cmp_str_ne
  | exact cmp_isnot
  | exact cmp_in_ints
  | exact cmp_notin_strs
  | exact cmp_in_dict
  | exact cmp_bool_eq
  | exact cmp_bool_ne
  | exact tru_bool
  | exact tru_int
  | exact cmp_str_lt
  | exact cmp_str_gt)
-- expressions
local macro_rules | `(tactic| k_places) => `(tactic| first
  | (with_reducible first | exact EvE.int | exact EvE.str | exact EvE.bool)
  | ((with_reducible refine' EvE.nameR ?xa ?xb ?xc); (case xa => l_intsC); (case xb => with_reducible first | exact ReadAs.fz | exact ReadAs.od | exact ReadAs.ol | exact ReadAs.ld | exact ReadAs.oi); (case xc => kernel_rfl))
  | ((with_reducible refine' EvE.bin ?xa ?xb ?xh); (case xa => k_places); (case xb => k_places); (case xh => k_offL))
  | ((with_reducible refine' EvE.un ?xa ?xh); (case xa => k_places); (case xh => k_offL))
  | ((with_reducible refine' EvE.cmp ?xa ?xb ?xh ?xr); (case xa => k_places); (case xb => k_places); (case xh => k_offL); (case xr => rfl))
  | ((with_reducible refine' EvT.cmp ?xa ?xb ?xh ?xr); (case xa => k_places); (case xb => k_places); (case xh => k_offL); (case xr => rfl))
  | ((with_reducible refine' EvT.not ?xa); (case xa => k_places))
  | ((with_reducible refine' EvE.tup ?xa ?xh); (case xa => k_places); (case xh => simp [sizeLine]))
  | ((with_reducible refine' EvE.list ?xa ?xh); (case xa => k_places); (case xh => simp [sizeLine]))
  | with_reducible exact EvEs.nil
  | ((with_reducible refine' EvEs.cons ?xa ?xb ?xh); (case xa => k_places); (case xb => k_places); (case xh => intro _; rfl)))
-- E1
section
variable {w : World}
theorem count_calls_spec {kvs : List (Str × Int)} : FunSpec (cf w) 113 1 [.dict (dT kvs)] (.int ((kvs.map (·.2)).foldl (· + ·) 0)) := by
  refine FunSpec.of_body (ps := ["callers"]) (by rfl) rfl (by kernel_rfl) rfl (fun vs h => ?_) rfl rfl rfl (by decide +kernel) (by decide +kernel) (by decide +kernel) rfl rfl rfl rfl ?_
  · obtain ⟨_, rfl⟩ := lst1 h; rfl
  · dsimp only
    refine Exs.cons (Ex.set (by k_places) (by decide +kernel)) ?_
    refine Exs.cons (Ex.for (EvIt.meth0 (by k_places) (mt_dict F.slot_dict_values F.type_dict_values) me_values)
      (out := .next (vr [("nc", .fz (.int ((kvs.map (·.2)).foldl (· + ·) 0)))])) ?_) (Exs.ret (Ex.ret (by k_places)))
    refine Fors.sub (Γ₁ := vr [("nc", .fz (.int 0))]) (by k_subL) ?_
    have e : (dT kvs).map (·.2) = (kvs.map (·.2)).map D.int := by simp [dT]
    rw [e]
    refine Fors.fold D.int (fun b : Int => vr [("nc", .fz (.int b))]) (· + ·) (by intro h; cases h) _ _ fun b x hx => ⟨_, _, Asn.name (by decide +kernel), Exs.cons (Ex.augname (by l_intsC) (by decide +kernel) (by k_places) (by k_offL)) Exs.nil, by k_subL⟩
/-- a bond: one, other, calls -/
noncomputable abbrev dBond (b : Int × Int × Int) : D := .tup [.int b.1, .int b.2.1, .int b.2.2]
noncomputable abbrev dInts (xs : List Int) : D := .list (xs.map D.int)
noncomputable abbrev dStrs (xs : List Str) : D := .list (xs.map D.str)
noncomputable def crosses (side : List Int) (b : Int × Int × Int) : Bool := side.contains b.1 != side.contains b.2.1
noncomputable def between (bonds : List (Int × Int × Int)) (side : List Int) : Int := ((bonds.filter (crosses side)).map (·.2.2)).sum
theorem between_spec {bonds : List (Int × Int × Int)} {side : List Int} (hsz : bonds.length ≤ 1000) : FunSpec (cf w) 140 1 [.list (bonds.map dBond), dInts side] (.int (between bonds side)) := by
  refine FunSpec.of_body (ps := ["bonds", "side"]) (by rfl) rfl (by kernel_rfl) rfl (fun vs h => ?_) rfl rfl rfl (by decide +kernel) (by decide +kernel) (by decide +kernel) rfl rfl rfl rfl ?_
  · obtain ⟨_, _, rfl⟩ := lst2 h; rfl
  · dsimp only
    refine Exs.ret (Ex.ret ?_)
    have key := call_sum (c := cf w) (xs := (bonds.filter (crosses side)).map (·.2.2))
    rw [List.map_map] at key
    refine EvE.callB b_sum (EvEs.cons ?_ EvEs.nil) key
    refine EvE.compA (Comp.mapA ["one", "other", "calls"] dBond (fun b => [.int b.1, .int b.2.1, .int b.2.2]) (crosses side) (fun b => D.int b.2.2) bonds takes_ol (EvIt.list (by k_places)) (by decide +kernel) (by decide +kernel)
      (fun b _ Γ' => ?_) (fun b _ => ?_) (fun b _ _ => ?_) (by simp only [sizeLine]; lia))
    · exact AsnC.tuple (AsnCL.cons (AsnC.name (by decide +kernel)) (AsnCL.cons (AsnC.name (by decide +kernel)) (AsnCL.cons (AsnC.name (by decide +kernel)) AsnCL.nil)))
    · simp only [updL]
      unfold dInts
      refine' Tests.one (EvT.as ?a ?b)
      case a => k_places
      case b => rfl
    · simp only [updL]
      k_places
noncomputable def sidesOf (first : List Int) (others : List (List Int)) : List (List Int) := others.foldl (fun s b => s ++ s.map (· ++ b)) [first]
theorem pow_split (a k : Nat) (h : a * 2 ^ (k + 1) ≤ 1000) : (a + a) * 2 ^ k ≤ 1000 := by
  rw [Nat.pow_succ] at h
  have : (a + a) * 2 ^ k = a * (2 ^ k * 2) := by rw [Nat.mul_comm (2 ^ k) 2, ← Nat.mul_assoc]; congr 1; lia
  lia
theorem sides_spec {first : List Int} {others : List (List Int)} (h1 : others.length ≤ 5) (h2 : first.length ≤ 100) (h3 : ∀ b ∈ others, b.length ≤ 100) :
    FunSpec (cf w) 145 1 [dInts first, .list (others.map dInts)] (.list ((sidesOf first others).map dInts)) := by
  refine FunSpec.of_body (ps := ["first", "others"]) (by rfl) rfl (by kernel_rfl) rfl (fun vs h => ?_) rfl rfl rfl (by decide +kernel) (by decide +kernel) (by decide +kernel) rfl rfl rfl rfl ?_
  · obtain ⟨_, _, rfl⟩ := lst2 h; rfl
  · dsimp only
    refine Exs.cons (Ex.set (by k_places) (by decide +kernel)) ?_
    refine Exs.cons (Ex.for (EvIt.list (by k_places)) (out := .next (vr [("sides", .fz (.list ((sidesOf first others).map dInts)))])) ?_) (Exs.ret (Ex.ret (by k_places)))
    refine Fors.sub (Γ₁ := vr [("sides", .fz (.list [dInts first]))]) (by k_subL) ?_
    refine Fors.foldQ dInts (fun s : List (List Int) => vr [("sides", .fz (.list (s.map dInts)))]) (fun s b => s ++ s.map (· ++ b))
      (fun r s => s.length * 2 ^ r.length ≤ 1000 ∧ (∀ x ∈ s, x.length + 100 * r.length ≤ 1000) ∧ ∀ b ∈ r, b.length ≤ 100) (by intro h; cases h) _ [first] ⟨?_, ?_, h3⟩ (fun s b r hI => ?_) (fun s b r hb hI => ?_)
    · have : 2 ^ others.length ≤ 2 ^ 5 := Nat.pow_le_pow_right (by lia) h1
      simp; lia
    · intro x hx; simp at hx; subst hx; lia
    · obtain ⟨i1, i2, i3⟩ := hI
      refine ⟨?_, fun x hx => ?_, fun c hc => i3 c (List.mem_cons_of_mem _ hc)⟩
      · simp only [List.length_append, List.length_map]
        exact pow_split _ _ (by simpa using i1)
      · have hb := i3 b List.mem_cons_self
        rcases List.mem_append.mp hx with q | q
        · have := i2 x q; simp at this; lia
        · obtain ⟨y, hy, rfl⟩ := List.mem_map.mp q
          have := i2 y hy; simp at this; simp; lia
    · obtain ⟨i1, i2, i3⟩ := hI
      have hs : s.length ≤ 1000 := by
        have : 1 ≤ 2 ^ (b :: r).length := Nat.one_le_two_pow
        have := Nat.mul_le_mul_left s.length this
        lia
      have hb := i3 b List.mem_cons_self
      refine ⟨_, _, Asn.name (by decide +kernel), Exs.cons (Ex.set (EvE.bin (by k_places) (EvE.compA (Comp.allA dInts (fun y => dInts (y ++ b)) s takes_ol (EvIt.list (by k_places)) (by simp only [sizeLine]; lia) fun y hy => ?_)) (bin_list (by simp [sizeLine]; lia))) (by decide +kernel)) Exs.nil, ?_⟩
      · have e : dInts (y ++ b) = .list (y.map D.int ++ b.map D.int) := by simp [dInts]
        rw [e]
        have := i2 y hy
        refine EvE.bin (d₁ := .list (y.map D.int)) (d₂ := .list (b.map D.int)) (by k_places) (by k_places) (bin_list (by simp at this; simp [sizeLine]; lia))
      · have e : (s ++ s.map (· ++ b)).map dInts = s.map dInts ++ s.map (fun y => dInts (y ++ b)) := by simp [Function.comp_def]
        rw [e]
        k_subL
end
-- E2
section
variable {w : World}
/-- one more count of a key -/
noncomputable def addKey (t : List (Str × Int)) (kv : Str × Int) : List (Str × Int) := match dget t kv.1 with | some v => put t kv.1 (v + kv.2) | none => put t kv.1 kv.2
noncomputable def mergeT (t s : List (Str × Int)) : List (Str × Int) := s.foldl addKey (t.foldl (fun a kv => put a kv.1 kv.2) [])
theorem addKey_len (t : List (Str × Int)) (kv : Str × Int) : (addKey t kv).length ≤ t.length + 1 := by
  unfold addKey; split <;> exact put_len _ _ _
theorem add_callers_spec {t s : List (Str × Int)} (h1 : t.length ≤ 1000) (h2 : s.length ≤ 1000) : FunSpec (cf w) 106 1 [.dict (dT t), .dict (dT s)] (.dict (dT (mergeT t s))) := by
  refine FunSpec.of_body (ps := ["target", "source"]) (by rfl) rfl (by kernel_rfl) rfl (fun vs h => ?_) rfl rfl rfl (by decide +kernel) (by decide +kernel) (by decide +kernel) rfl rfl rfl rfl ?_
  · obtain ⟨_, _, rfl⟩ := lst2 h; rfl
  · dsimp only
    refine Exs.cons (Ex.assign EvO.dict0 (by decide +kernel)) ?_
    refine Exs.cons (Ex.for (EvIt.meth0 (by k_places) (mt_dict F.slot_dict_items F.type_dict_items) me_items)
      (out := .next (vr [("new_callers", .od (dT (t.foldl (fun a kv => put a kv.1 kv.2) []))), ("source", .fz (.dict (dT s)))])) ?_) ?_
    · refine Fors.sub (Γ₁ := vr [("new_callers", .od []), ("source", .fz (.dict (dT s)))]) (by k_subL) ?_
      have e : (dT t).map (fun kv => D.tup [.str kv.1, kv.2]) = t.map (fun kv => D.tup [.str kv.1, .int kv.2]) := by simp [dT]
      rw [e]
      refine Fors.foldQ (fun kv : Str × Int => D.tup [.str kv.1, .int kv.2]) (fun b : List (Str × Int) => vr [("new_callers", .od (dT b)), ("source", .fz (.dict (dT s)))]) (fun (a : List (Str × Int)) (kv : Str × Int) => put a kv.1 kv.2) (fun (r b : List (Str × Int)) => b.length + r.length ≤ 1000) (fun _ => ⟨_, _, _, rfl⟩) t [] (by simpa using h1)
        (fun b x r i => ?_) (fun b x r hx i => ?_)
      · have := put_len b x.1 x.2; simp at i; lia
      · refine ⟨_, _, Asn.tuple (AsnL.cons (Asn.name (by decide +kernel)) (AsnL.cons (Asn.name (by decide +kernel)) AsnL.nil)), Exs.cons (Ex.setitem (by l_intsC) (by decide +kernel) (by k_places) (by k_places) (set_od (by rw [dT_len]; simp [sizeLine]; simp at i; lia))) Exs.nil, ?_⟩
        rw [← put_dT]
        k_subL
    · refine Exs.cons (Ex.for (EvIt.meth0 (by k_places) (mt_dict F.slot_dict_items F.type_dict_items) me_items) (out := .next (vr [("new_callers", .od (dT (mergeT t s)))])) ?_) (Exs.ret (Ex.ret (by k_places)))
      refine Fors.sub (Γ₁ := vr [("new_callers", .od (dT (t.foldl (fun a kv => put a kv.1 kv.2) [])))]) (by k_subL) ?_
      have e : (dT s).map (fun kv => D.tup [.str kv.1, kv.2]) = s.map (fun kv => D.tup [.str kv.1, .int kv.2]) := by simp [dT]
      rw [e]
      have hl : ∀ (l a : List (Str × Int)), (l.foldl (fun a kv => put a kv.1 kv.2) a).length ≤ a.length + l.length := by
        intro l
        induction l with
        | nil => intro a; simp
        | cons x l ih => intro a; have := ih (put a x.1 x.2); have := put_len a x.1 x.2; simp; lia
      refine Fors.foldQ (fun kv : Str × Int => D.tup [.str kv.1, .int kv.2]) (fun b : List (Str × Int) => vr [("new_callers", .od (dT b))]) addKey (fun (r b : List (Str × Int)) => b.length + r.length ≤ 2000) (fun _ => ⟨_, _, _, rfl⟩) s _ ?_ (fun b x r i => ?_) (fun b x r hx i => ?_)
      · have := hl t []; simp at this; lia
      · have := addKey_len b x; simp at i; lia
      · have hb : (dT b).length ≤ sizeLine := by rw [dT_len]; simp [sizeLine]; simp at i; lia
        refine ⟨_, vr [("new_callers", .od (dT (addKey b x)))], Asn.tuple (AsnL.cons (Asn.name (by decide +kernel)) (AsnL.cons (Asn.name (by decide +kernel)) AsnL.nil)), Exs.cons (Ex.ite (by k_places) (fun hb' => ?_) (fun hb' => ?_)) Exs.nil, fun _ _ q => q⟩
        · rw [dget_dT] at hb'
          obtain ⟨v, hv⟩ : ∃ v, dget b x.1 = some v := by
            cases q : dget b x.1 with
            | none => rw [q] at hb'; cases hb'
            | some v => exact ⟨v, rfl⟩
          have hv' : dget (dT b) x.1 = some (.int v) := by rw [dget_dT, hv]; rfl
          have e : dT (addKey b x) = put (dT b) x.1 (.int (v + x.2)) := by rw [put_dT]; unfold addKey; rw [hv]
          rw [e]
          refine Exs.cons (Ex.ite (b := false) (EvT.value (EvE.isi (by decide +kernel) (by kernel_rfl) (by kernel_rfl) (by decide +kernel) (by decide +kernel) (by kernel_rfl) (by kernel_rfl) (by decide +kernel) (by kernel_rfl) (by k_places)) tru_bool) (fun q => nomatch q) (fun _ => ?_)) Exs.nil
          refine Exs.weaken (Exs.cons (Ex.augitem (by l_intsC) (by decide +kernel) (by k_places) (by k_places) inp_int (fun s P v os v₂ r ri A => (get_od hv' s P v os v₂ r ri).choose_spec.choose_spec.2.2 A) (set_od hb)) Exs.nil) (by k_subL)
        · rw [dget_dT] at hb'
          have hv : dget b x.1 = none := by
            cases q : dget b x.1 with
            | none => rfl
            | some v => rw [q] at hb'; cases hb'
          have e : dT (addKey b x) = put (dT b) x.1 (.int x.2) := by rw [put_dT]; unfold addKey; rw [hv]
          rw [e]
          refine Exs.weaken (Exs.cons (Ex.setitem (by l_intsC) (by decide +kernel) (by k_places) (by k_places) (set_od hb)) Exs.nil) (by k_subL)
end
-- E3
section
variable {w : World}
/-- an entry of the books -/
structure En where
  cc : Int
  nc : Int
  tt : Int
  ct : Int
  t : List (Str × Int)
noncomputable abbrev dEn (e : En) : D := .tup [.int e.cc, .int e.nc, .int e.tt, .int e.ct, .dict (dT e.t)]
/-- target, source -/
noncomputable def addEn (a b : En) : En := ⟨b.cc + a.cc, b.nc + a.nc, b.tt + a.tt, b.ct + a.ct, mergeT a.t b.t⟩
theorem afs_spec {a b : En} (h1 : a.t.length ≤ 1000) (h2 : b.t.length ≤ 1000) : FunSpec (cf w) 99 2 [dEn a, dEn b] (dEn (addEn a b)) := by
  refine FunSpec.of_body (ps := ["target", "source"]) (by rfl) rfl (by kernel_rfl) rfl (fun vs h => ?_) rfl rfl rfl (by decide +kernel) (by decide +kernel) (by decide +kernel) rfl rfl rfl rfl ?_
  · obtain ⟨_, _, rfl⟩ := lst2 h; rfl
  · dsimp only
    refine Exs.cons (Ex.assignT (by k_places) (Asn.tuple (AsnL.cons (Asn.name (by decide +kernel)) (AsnL.cons (Asn.name (by decide +kernel)) (AsnL.cons (Asn.name (by decide +kernel)) (AsnL.cons (Asn.name (by decide +kernel)) (AsnL.cons (Asn.name (by decide +kernel)) AsnL.nil))))))) ?_
    refine Exs.cons (Ex.assignT (by k_places) (Asn.tuple (AsnL.cons (Asn.name (by decide +kernel)) (AsnL.cons (Asn.name (by decide +kernel)) (AsnL.cons (Asn.name (by decide +kernel)) (AsnL.cons (Asn.name (by decide +kernel)) (AsnL.cons (Asn.name (by decide +kernel)) AsnL.nil))))))) ?_
    refine Exs.ret (Ex.ret ?_)
    refine EvE.tup (ds := [.int (b.cc + a.cc), .int (b.nc + a.nc), .int (b.tt + a.tt), .int (b.ct + a.ct), .dict (dT (mergeT a.t b.t))]) ?_
    refine EvEs.cons (by k_places) (EvEs.cons (by k_places) (EvEs.cons (by k_places) (EvEs.cons (by k_places) (EvEs.cons ?_ EvEs.nil))))
    exact EvE.calld t_ac (by k_places) (add_callers_spec h1 h2)
/-- one more count of a key, as the sum does it -/
noncomputable def addGet (T t : List (Str × Int)) (k : Str) : List (Str × Int) := put t k ((dget t k).getD 0 + (dget T k).getD 0)
noncomputable def sumT (tables : List (List (Str × Int))) (chosen : List Nat) : List (Str × Int) := chosen.foldl (fun t h => ((tables.getD h []).map (·.1)).foldl (addGet (tables.getD h [])) t) []
noncomputable abbrev dNats (xs : List Nat) : D := .list (xs.map fun k => D.int (k : Nat))
noncomputable def sumEn (tables : List (List (Str × Int))) (ends : List Int) (chosen : List Nat) : En :=
  ⟨chosen.length, ((sumT tables chosen).map fun p => (dget (sumT tables chosen) p.1).getD 0).sum, (chosen.map fun h => ends.getD h 0).sum, (chosen.map fun h => (2 : Int) ^ h).sum, sumT tables chosen⟩
theorem getD_dT (t : List (Str × Int)) (k : Str) (z : Int) : (dget (dT t) k).getD (.int z) = .int ((dget t k).getD z) := by
  rw [dget_dT]; cases dget t k <;> rfl
theorem dget_mem {α : Type} {t : List (Str × α)} {k : Str} (h : k ∈ t.map (·.1)) : ∃ v, dget t k = some v := by
  unfold dget
  cases e : t.find? fun kv => kv.1 = k with
  | some p => exact ⟨_, rfl⟩
  | none =>
    obtain ⟨p, hp, q⟩ := List.mem_map.mp h
    have := List.find?_eq_none.mp e p hp
    simp [q] at this
theorem addGet_len (T t : List (Str × Int)) (k : Str) : (addGet T t k).length ≤ t.length + 1 := put_len _ _ _
theorem foldGet_len (T : List (Str × Int)) : ∀ (ks : List Str) (t : List (Str × Int)), (ks.foldl (addGet T) t).length ≤ t.length + ks.length
  | [], t => by simp
  | k :: ks, t => by have := foldGet_len T ks (addGet T t k); have := addGet_len T t k; simp; lia
theorem getD_mem {α : Type} {l : List α} {i : Nat} {d₀ : α} (h : i < l.length) : l.getD i d₀ ∈ l := by
  rw [List.getD_eq_getElem?_getD, List.getElem?_eq_getElem h]; exact List.getElem_mem h
theorem sum_spec {tables : List (List (Str × Int))} {ends : List Int} {chosen : List Nat} (h1 : ∀ t ∈ tables, t.length ≤ 100) (h2 : chosen.length ≤ 100) (h3 : ∀ k ∈ chosen, k < tables.length ∧ k < ends.length ∧ k < 100) (h4 : ends.length = tables.length) :
    FunSpec (cf w) 130 1 [.list (tables.map fun t => .dict (dT t)), dInts ends, dNats chosen] (dEn (sumEn tables ends chosen)) := by
  refine FunSpec.of_body (ps := ["tables", "ends", "chosen"]) (by rfl) rfl (by kernel_rfl) rfl (fun vs h => ?_) rfl rfl rfl (by decide +kernel) (by decide +kernel) (by decide +kernel) rfl rfl rfl rfl ?_
  · obtain ⟨_, _, _, rfl⟩ := lst3 h; rfl
  · dsimp only
    have tabAt : ∀ k ∈ chosen, (tables.map fun t => D.dict (dT t))[((k : Nat) : Int).toNat]? = some (.dict (dT (tables.getD k []))) := fun k hk => by
      rw [Int.toNat_natCast, List.getElem?_map, List.getD_eq_getElem?_getD, List.getElem?_eq_getElem (h3 k hk).1]; rfl
    have sz : ∀ k ∈ chosen, (tables.getD k []).length ≤ 100 := fun k hk => h1 _ (getD_mem (h3 k hk).1)
    refine Exs.cons (Ex.assign EvO.dict0 (by decide +kernel)) ?_
    refine Exs.cons (Ex.for (EvIt.list (by k_places)) (out := .next (vr [("table", .od (dT (sumT tables chosen))), ("tables", .fz (.list (tables.map fun t => .dict (dT t)))), ("ends", .fz (dInts ends)), ("chosen", .fz (dNats chosen))])) ?_) ?_
    · refine Fors.sub (Γ₁ := vr [("table", .od []), ("tables", .fz (.list (tables.map fun t => .dict (dT t)))), ("ends", .fz (dInts ends)), ("chosen", .fz (dNats chosen))]) (by k_subL) ?_
      refine Fors.foldQ (t := false) (fun k : Nat => D.int k) (fun t : List (Str × Int) => vr [("table", .od (dT t)), ("tables", .fz (.list (tables.map fun t => .dict (dT t)))), ("ends", .fz (dInts ends)), ("chosen", .fz (dNats chosen))])
        (fun t h => ((tables.getD h []).map (·.1)).foldl (addGet (tables.getD h [])) t) (fun r t => t.length + 100 * r.length ≤ 10000 ∧ ∀ k ∈ r, k ∈ chosen) (by intro h; cases h) chosen [] ⟨by simp; lia, fun k hk => hk⟩ (fun t k r i => ?_) (fun t k r hk i => ?_)
      · have q1 := foldGet_len (tables.getD k []) ((tables.getD k []).map (·.1)) t
        have q2 := sz k (i.2 k List.mem_cons_self)
        have i1 := i.1
        simp only [List.length_map, List.length_cons] at i1 q1
        refine ⟨by lia, fun j hj => i.2 j (List.mem_cons_of_mem _ hj)⟩
      · have hs := sz k hk
        refine ⟨_, _, Asn.name (by decide +kernel), Exs.cons (Ex.for (ds := ((tables.getD k []).map (·.1)).map D.str) (EvIt.as (EvIt.dict (EvE.sub' (by k_places) (by k_places) (sub_list (by lia) (by have := (h3 k hk).2.2; lia) (tabAt k hk)))) (by simp [dT]))
          (out := .next (vr [("table", .od (dT (((tables.getD k []).map (·.1)).foldl (addGet (tables.getD k [])) t))), ("tables", .fz (.list (tables.map fun t => .dict (dT t)))), ("ends", .fz (dInts ends)), ("chosen", .fz (dNats chosen)), ("host", .fz (.int k))])) ?_) Exs.nil, by k_subL⟩
        refine Fors.sub (Γ₁ := vr [("table", .od (dT t)), ("tables", .fz (.list (tables.map fun t => .dict (dT t)))), ("ends", .fz (dInts ends)), ("chosen", .fz (dNats chosen)), ("host", .fz (.int k))]) (by k_subL) ?_
        refine Fors.foldQ (t := false) D.str (fun t : List (Str × Int) => vr [("table", .od (dT t)), ("tables", .fz (.list (tables.map fun t => .dict (dT t)))), ("ends", .fz (dInts ends)), ("chosen", .fz (dNats chosen)), ("host", .fz (.int k))])
          (addGet (tables.getD k [])) (fun r t => t.length + r.length ≤ 20000) (by intro h; cases h) ((tables.getD k []).map (·.1)) t (by have q := i.1; simp only [List.length_map, List.length_cons] at q ⊢; lia) (fun t x r i => ?_) (fun t x r hx i => ?_)
        · have := addGet_len (tables.getD k []) t x; simp at i; lia
        · obtain ⟨v, hv⟩ := dget_mem hx
          have hv' : dget (dT (tables.getD k [])) x = some (.int v) := by rw [dget_dT, hv]; rfl
          have e : dT (addGet (tables.getD k []) t x) = put (dT t) x (.int ((dget t x).getD 0 + v)) := by rw [put_dT]; unfold addGet; rw [hv]; rfl
          refine ⟨_, _, Asn.name (by decide +kernel), Exs.cons (Ex.setitem (by l_intsC) (by decide +kernel) (EvE.bin (d₁ := .int ((dget t x).getD 0)) (EvE.flat (EvE.as (EvE.meth (by k_places) (by k_places) (mt_dict F.slot_dict_get F.type_dict_get) me_get) (getD_dT t x 0)) rfl)
            (EvE.sub' (EvE.sub' (by k_places) (by k_places) (sub_list (by lia) (by have := (h3 k hk).2.2; lia) (tabAt k hk))) (by k_places) (sub_dict hv')) bin_add) (by k_places) (set_od (by rw [dT_len]; simp [sizeLine]; simp at i; lia))) Exs.nil, ?_⟩
          rw [e]
          k_subL
    · refine Exs.freeze (x := "table") (by l_intsC) frz_od ?_
      generalize hT : sumT tables chosen = T
      have hlen : T.length ≤ 10000 := by
        rw [← hT]
        have : ∀ (l : List Nat) (t : List (Str × Int)), (∀ k ∈ l, k ∈ chosen) → (l.foldl (fun t h => ((tables.getD h []).map (·.1)).foldl (addGet (tables.getD h [])) t) t).length ≤ t.length + 100 * l.length := by
          intro l
          induction l with
          | nil => intro t _; simp
          | cons k l ih =>
            intro t hk
            have h1 := ih (((tables.getD k []).map (·.1)).foldl (addGet (tables.getD k [])) t) fun j hj => hk j (List.mem_cons_of_mem _ hj)
            have h2 := foldGet_len (tables.getD k []) ((tables.getD k []).map (·.1)) t
            have h3 := sz k (hk k List.mem_cons_self)
            simp only [List.length_map] at h2
            simp only [List.foldl_cons, List.length_cons]
            lia
        have q := this chosen [] fun k hk => hk
        unfold sumT
        simp at q ⊢
        lia
      have e1 := call_sum (c := cf w) (xs := T.map fun p => (dget T p.1).getD 0)
      rw [List.map_map] at e1
      refine Exs.cons (Ex.set (EvE.callB b_sum (EvEs.cons (EvE.compA (Comp.allA (fun p : Str × Int => D.str p.1) (fun p => D.int ((dget T p.1).getD 0)) T takes_ol (EvIt.as (EvIt.dict (by k_places)) (by simp [dT])) (by simp only [sizeLine]; lia) fun p hp => ?_)) EvEs.nil) e1) (by decide +kernel)) ?_
      · obtain ⟨v, hv⟩ := dget_mem (t := T) (k := p.1) (List.mem_map_of_mem hp)
        rw [hv]
        exact EvE.sub' (by k_places) (by k_places) (sub_dict (by rw [dget_dT, hv]; rfl))
      · have e2 := call_sum (c := cf w) (xs := chosen.map fun h => ends.getD h 0)
        rw [List.map_map] at e2
        have e3 := call_sum (c := cf w) (xs := chosen.map fun h => (2 : Int) ^ h)
        rw [List.map_map] at e3
        refine Exs.ret (Ex.ret ?_)
        unfold sumEn
        rw [hT]
        refine EvE.tup (ds := [_, _, _, _, _]) (EvEs.cons ?_ (EvEs.cons (by k_places) (EvEs.cons ?_ (EvEs.cons ?_ (EvEs.cons (by k_places) EvEs.nil)))))
        · have := call_len (c := cf w) (ds := chosen.map fun k => D.int (k : Nat)) (by simp; lia)
          rw [List.length_map] at this
          exact EvE.callB b_len (by k_places) this
        · refine EvE.callB b_sum (EvEs.cons (EvE.compA (Comp.allA (fun k : Nat => D.int k) (fun k => D.int (ends.getD k 0)) chosen takes_ol (EvIt.list (by k_places)) (by simp only [sizeLine]; lia) fun k hk => ?_)) EvEs.nil) e2
          refine EvE.sub' (by k_places) (by k_places) (sub_list (by lia) (by have := (h3 k hk).2.2; lia) ?_)
          rw [Int.toNat_natCast, List.getElem?_map, List.getD_eq_getElem?_getD, List.getElem?_eq_getElem (h3 k hk).2.1]; rfl
        · refine EvE.callB b_sum (EvEs.cons (EvE.compA (Comp.allA (fun k : Nat => D.int k) (fun k => D.int ((2 : Int) ^ k)) chosen takes_ol (EvIt.list (by k_places)) (by simp only [sizeLine]; lia) fun k hk => ?_)) EvEs.nil) e3
          refine EvE.bin (by k_places) (by k_places) (bin_pow (b := (k : Int)) (by lia) ?_)
          have := (h3 k hk).2.2
          have : (Builtin.Int.intBits 2 : Int) = 2 := by decide
          rw [this]; lia
end
-- E4
section
variable {w : World}
theorem EvO.as {c : Cf} {σ : List (Str × NameKind)} {n : Nat} {Γ : Vars} {e : Expr} {sl sl' : Slot} (a : EvO c σ n Γ e sl) (h : sl = sl') : EvO c σ n Γ e sl' := h ▸ a
theorem Fors.sub' {c : Cf} {σ : List (Str × NameKind)} {n : Nat} {Γ Γ₁ Γ' : Vars} {tgt : Expr} {t : Bool} {body : List Stmt} {ds : List D} (hs : ∀ x sl, Γ' x = some sl → Γ₁ x = some sl) (a : Fors c σ n Γ tgt t body ds (.next Γ₁)) : Fors c σ n Γ tgt t body ds (.next Γ') :=
  fun env U V A s it F E R I h1 h2 h3 => codeAny_mono (a env U V A s it F E R I h1 h2 h3) fun r s' y => by
    obtain ⟨f, e, sm, k, y⟩ := y
    obtain ⟨e', V', x', I'⟩ := y
    exact ⟨f, e, sm, k, e', V', x', I'.sub hs⟩
-- the log
noncomputable def labs (size : Nat) : List Str := (["a", "ba", "ca", "da", "ea"] : List Str).take size
noncomputable def sizeOfS (s : List Int) : Nat := if 1 < s.length then 5 else 4
noncomputable abbrev Call := Nat × Nat × Int
noncomputable abbrev dCall (l : Call) : D := .tup [.int (l.1 : Nat), .int (l.2.1 : Nat), .int l.2.2]
noncomputable abbrev dLog (log : List Call) : D := .list (log.map dCall)
noncomputable def drawOf (x : Int) : Nat := (x.fmod 1000000).toNat
noncomputable def callOf (size : Nat) (x : Int) : Call := (drawOf x % size, drawOf x / size % size, 1 + ((drawOf x / size / size % 50 : Nat) : Int))
noncomputable def baseLog : List Call := [(0, 1, 3), (2, 3, 4), (1, 2, 2), (3, 0, 1), (1, 1, 5), (0, 2, 1)]
noncomputable def logOf (s : List Int) : List Call := baseLog ++ (s.take 12).map (callOf (sizeOfS s))
noncomputable def baseD : List D := [.tup [.int 0, .int 1, .int 3], .tup [.int 2, .int 3, .int 4], .tup [.int 1, .int 2, .int 2], .tup [.int 3, .int 0, .int 1], .tup [.int 1, .int 1, .int 5], .tup [.int 0, .int 2, .int 1]]
theorem baseD_eq : baseD = baseLog.map dCall := rfl
theorem sizeOfS_pos (s : List Int) : 4 ≤ sizeOfS s ∧ sizeOfS s ≤ 5 := by unfold sizeOfS; split <;> lia
theorem drawOf_cast (x : Int) : ((drawOf x : Nat) : Int) = x.fmod 1000000 := by
  unfold drawOf
  rw [Int.toNat_of_nonneg]
  exact Int.fmod_nonneg_of_pos x (by decide)
theorem fmod_nat (a b : Nat) : Int.fmod (a : Int) (b : Int) = ((a % b : Nat) : Int) := by
  rw [Int.fmod_eq_emod_of_nonneg _ (Int.natCast_nonneg b)]; rfl
theorem fdiv_nat (a b : Nat) : Int.fdiv (a : Int) (b : Int) = ((a / b : Nat) : Int) := by
  rw [Int.fdiv_eq_ediv_of_nonneg _ (Int.natCast_nonneg b)]; rfl
theorem bin_modn {c : Cf} {a b : Nat} (h : b ≠ 0) : BinV c .Mod (.int (a : Nat)) (.int (b : Nat)) (.int ((a % b : Nat) : Int)) := by
  rw [← fmod_nat]; exact bin_mod (by lia)
theorem bin_divn {c : Cf} {a b : Nat} (h : b ≠ 0) (hb : b < 1000) : BinV c .FloorDiv (.int (a : Nat)) (.int (b : Nat)) (.int ((a / b : Nat) : Int)) := by
  rw [← fdiv_nat]; exact bin_div (by lia) (PyProof.noPylong_small (by simp; lia))
theorem log_spec {s : List Int} (hl : s.length ≤ 63) : FunSpec (cf w) 120 1 [dInts s] (.tup [dStrs (labs (sizeOfS s)), dLog (logOf s)]) := by
  refine FunSpec.of_body (ps := ["script"]) (by rfl) rfl (by kernel_rfl) rfl (fun vs h => ?_) rfl rfl rfl (by decide +kernel) (by decide +kernel) (by decide +kernel) rfl rfl rfl rfl ?_
  · obtain ⟨_, rfl⟩ := lst1 h; rfl
  · dsimp only
    obtain ⟨p4, p5⟩ := sizeOfS_pos s
    generalize hz : sizeOfS s = z at p4 p5
    have hlab : (labs z).length = z := by
      have : z = 4 ∨ z = 5 := by lia
      rcases this with rfl | rfl <;> rfl
    refine Exs.cons (Ex.set (d := dStrs (labs z)) (EvE.as (EvE.slice (d₁ := .list [.str "a", .str "ba", .str "ca", .str "da", .str "ea"]) (hi := some (z : Int)) (by k_places) PartOk.none (PartOk.some (EvE.as (EvE.bin (by k_places) (EvE.cmp (EvE.callB b_len (by k_places) (call_len (by simp; lia))) (by k_places) cmp_int_gt) bin_addb) ?_)) (sli_upto z (by simp [sizeLine]))) ?_) (by decide +kernel)) ?_
    · rw [← hz]; unfold sizeOfS
      congr 1
      rw [List.length_map]
      by_cases h1 : 1 < s.length
      · rw [if_pos h1, if_pos (by simp; lia)]; rfl
      · rw [if_neg h1, if_neg (by simp; lia)]; rfl
    · have e : [D.str "a", D.str "ba", D.str "ca", D.str "da", D.str "ea"] = (["a", "ba", "ca", "da", "ea"] : List Str).map D.str := rfl
      unfold labs; rw [e, ← List.map_take]
    refine Exs.cons (Ex.set (d := .int (z : Nat)) (EvE.as (EvE.callB b_len (by k_places) (call_len (by simp [hlab]; lia))) (by rw [List.length_map, hlab])) (by decide +kernel)) ?_
    with_reducible refine Exs.cons (Ex.assign (EvO.list (ds := baseD) ?_ ?_) ?_ ?_) ?_
    · unfold baseD; k_places
    · simp [baseD, sizeLine]
    · decide +kernel
    · intro _ _ _; rfl
    rw [baseD_eq]
    refine Exs.cons (Ex.for (ds := ((s.take 12).map D.int)) (EvIt.list (EvE.as (EvE.slice (by k_places) PartOk.none (PartOk.some (EvE.as (d := .int 12) (by k_places) rfl)) (sli_upto 12 (by simp [sizeLine]; lia))) (by rw [List.map_take])))
      (out := .next (vr [("log", .ol ((baseLog ++ (s.take 12).map (callOf z)).map dCall)), ("labels", .fz (dStrs (labs z)))])) ?_) ?_
    · have e : ∀ l : List Int, baseLog ++ l.map (callOf z) = l.foldl (fun b x => b ++ [callOf z x]) baseLog := fun l => by
        suffices ∀ b, b ++ l.map (callOf z) = l.foldl (fun b x => b ++ [callOf z x]) b from this _
        induction l with
        | nil => intro b; simp
        | cons x l ih => intro b; simp [← ih]
      rw [e]
      refine Fors.sub (Γ₁ := vr [("log", .ol (baseLog.map dCall)), ("labels", .fz (dStrs (labs z))), ("size", .fz (.int (z : Nat)))]) (by k_subL) ?_
      refine Fors.sub' (Γ₁ := vr [("log", .ol (((s.take 12).foldl (fun b x => b ++ [callOf z x]) baseLog).map dCall)), ("labels", .fz (dStrs (labs z))), ("size", .fz (.int (z : Nat)))]) (by k_subL) ?_
      refine Fors.foldQ (t := false) D.int (fun b : List Call => vr [("log", .ol (b.map dCall)), ("labels", .fz (dStrs (labs z))), ("size", .fz (.int (z : Nat)))]) (fun b x => b ++ [callOf z x])
        (fun r b => b.length + r.length ≤ 100) (by intro h; cases h) (s.take 12) baseLog (by simp [baseLog]; lia) (fun b x r h => by simp at h ⊢; lia) (fun b x r hx h => ?_)
      have hm : ((b ++ [callOf z x]).map dCall) = b.map dCall ++ [D.tup [.int ((drawOf x % z : Nat) : Int), .int ((drawOf x / z % z : Nat) : Int), .int (1 + ((drawOf x / z / z % 50 : Nat) : Int))]] := by simp [callOf]
      rw [hm]
      refine ⟨_, _, Asn.name (by decide +kernel), Exs.cons (Ex.set (d := .int (drawOf x : Nat)) (EvE.as (EvE.bin (by k_places) (by k_places) (bin_mod (by decide))) (by rw [drawOf_cast])) (by decide +kernel)) (Exs.cons (Ex.append (by l_intsC) (by decide +kernel)
        (EvE.tup (EvEs.cons (EvE.bin (by k_places) (by k_places) (bin_modn (by lia))) (EvEs.cons (EvE.bin (EvE.bin (by k_places) (by k_places) (bin_divn (by lia) (by lia))) (by k_places) (bin_modn (by lia)))
          (EvEs.cons (EvE.bin (d₂ := .int ((drawOf x / z / z % 50 : Nat) : Int)) (by k_places) (EvE.bin (d₂ := .int ((50 : Nat) : Int)) (EvE.bin (EvE.bin (by k_places) (by k_places) (bin_divn (by lia) (by lia))) (by k_places) (bin_divn (by lia) (by lia))) (EvE.as (d := .int 50) (by k_places) rfl) (bin_modn (by lia))) bin_add) EvEs.nil)))) (by simp [sizeLine]; simp at h; lia)) Exs.nil), ?_⟩
      k_subL
    · refine Exs.freeze (x := "log") (by l_intsC) frz_ol ?_
      exact Exs.ret (Ex.ret (EvE.as (by k_places) (by unfold logOf; rw [hz])))
end
-- E5
section
variable {w : World}
-- the bonds
theorem EvE.min2 {c : Cf} {a b : Int} : CallV c (.builtin "min") [.int a, .int b] (.int (min a b)) := by
  have : (if b < a then b else a) = min a b := by lia
  exact this ▸ call_min2
theorem EvE.max2 {c : Cf} {a b : Int} : CallV c (.builtin "max") [.int a, .int b] (.int (max a b)) := by
  have : (if b > a then b else a) = max a b := by split <;> lia
  exact this ▸ call_max2
theorem get_oi' {c : Cf} {ds : List D} {k : Int} {d : D} (h0 : 0 ≤ k) (hfit : k < 2 ^ 63) (hg : ds[k.toNat]? = some d) : ∀ (s : Shared) (P : Addr → Prop) v os v₂, SlotRep c s.heap P v (.oi ds) os → c.Rep s.heap P v₂ (.int k) → ∀ A, Rm 0 A →
    wpAny c.M A (getItem v v₂) (fun r s' => Grow s s' ∧ c.Rep s'.heap P r d) NoE s := fun s P v os v₂ r ri =>
  let ⟨_, _, _, _, h⟩ := get_oi h0 hfit hg s P v os v₂ r ri; h
theorem get_od' {c : Cf} {kvs : List (Str × D)} {k : Str} {d : D} (hg : dget kvs k = some d) : ∀ (s : Shared) (P : Addr → Prop) v os v₂, SlotRep c s.heap P v (.od kvs) os → c.Rep s.heap P v₂ (.str k) → ∀ A, Rm 0 A →
    wpAny c.M A (getItem v v₂) (fun r s' => Grow s s' ∧ c.Rep s'.heap P r d) NoE s := fun s P v os v₂ r ri =>
  let ⟨_, _, _, _, h⟩ := get_od hg s P v os v₂ r ri; h
noncomputable def bondIx (l : Call) : Nat := 5 * min l.1 l.2.1 + max l.1 l.2.1
noncomputable def weigh (W : List Int) (l : Call) : List Int := W.set (bondIx l) (W.getD (bondIx l) 0 + l.2.2)
noncomputable def weightsOf (log : List Call) : List Int := log.foldl weigh (List.replicate 25 0)
noncomputable def bondsOf (size : Nat) (log : List Call) : List (Int × Int × Int) := (List.range size).flatMap fun (other : Nat) => (List.range other).map fun (one : Nat) => ((one : Int), (other : Int), (weightsOf log).getD (5 * one + other) 0)
noncomputable def InRange (size : Nat) (log : List Call) : Prop := ∀ l ∈ log, l.1 < size ∧ l.2.1 < size
theorem bondIx_lt {l : Call} {size : Nat} (hs : size ≤ 5) (h : l.1 < size ∧ l.2.1 < size) : bondIx l < 25 := by unfold bondIx; lia
theorem bondIx_cast (l : Call) : (5 : Int) * min (l.1 : Int) (l.2.1 : Int) + max (l.1 : Int) (l.2.1 : Int) = ((bondIx l : Nat) : Int) := by unfold bondIx; lia
theorem weigh_len (log : List Call) : ∀ W : List Int, (log.foldl weigh W).length = W.length := by
  induction log with
  | nil => intro W; rfl
  | cons l log ih => intro W; rw [List.foldl_cons, ih]; unfold weigh; simp
theorem dInts_get {W : List Int} {k : Nat} (h : k < W.length) : (W.map D.int)[((k : Nat) : Int).toNat]? = some (.int (W.getD k 0)) := by
  rw [Int.toNat_natCast, List.getElem?_map, List.getD_eq_getElem?_getD, List.getElem?_eq_getElem h]; rfl
theorem bonds_len (size : Nat) (log : List Call) (h : size ≤ 5) : (bondsOf size log).length ≤ 10 := by
  unfold bondsOf
  simp only [List.length_flatMap, List.length_map, List.length_range]
  have : size = 0 ∨ size = 1 ∨ size = 2 ∨ size = 3 ∨ size = 4 ∨ size = 5 := by lia
  rcases this with rfl | rfl | rfl | rfl | rfl | rfl <;> decide
theorem bonds_spec {size : Nat} {log : List Call} (hs : size ≤ 5) (hl : InRange size log) : FunSpec (cf w) 135 1 [.int (size : Nat), dLog log] (.list ((bondsOf size log).map dBond)) := by
  refine FunSpec.of_body (ps := ["size", "log"]) (by rfl) rfl (by kernel_rfl) rfl (fun vs h => ?_) rfl rfl rfl (by decide +kernel) (by decide +kernel) (by decide +kernel) rfl rfl rfl rfl ?_
  · obtain ⟨_, _, rfl⟩ := lst2 h; rfl
  · dsimp only
    with_reducible refine Exs.cons (Ex.assign (EvO.times (d := .int 0) (k := 25) (x := 25) ?_ ?_ ?_ ?_ ?_ ?_) ?_ ?_) ?_
    · k_places
    · rfl
    · k_places
    · rfl
    · lia
    · intro _; rfl
    · decide +kernel
    · intro _ _ _; rfl
    have e0 : List.replicate 25 (D.int 0) = (List.replicate 25 (0 : Int)).map D.int := by rw [List.map_replicate]
    rw [e0]
    with_reducible refine Exs.cons (Ex.for (t := false) (ds := log.map dCall) (EvIt.list (by k_places)) (out := .next (vr [("weights", .oi ((weightsOf log).map D.int)), ("size", .fz (.int (size : Nat)))])) ?_ ?_) ?_
    · refine Fors.sub (Γ₁ := vr [("weights", .oi ((List.replicate 25 (0 : Int)).map D.int)), ("size", .fz (.int (size : Nat)))]) (by k_subL) ?_
      refine Fors.foldP (t := false) dCall (fun W : List Int => vr [("weights", .oi (W.map D.int)), ("size", .fz (.int (size : Nat)))]) weigh (fun W => W.length = 25) (by intro h; cases h) log _ (by simp) (fun W l hm h => by unfold weigh; simpa using h) (fun W l hm h => ?_)
      have hlt := bondIx_lt hs (hl l hm)
      have e : (weigh W l).map D.int = (W.map D.int).set ((bondIx l : Nat) : Int).toNat (.int (W.getD (bondIx l) 0 + l.2.2)) := by unfold weigh; rw [Int.toNat_natCast, List.map_set]
      rw [e]
      refine ⟨_, _, Asn.tuple (AsnL.cons (Asn.name (by decide +kernel)) (AsnL.cons (Asn.name (by decide +kernel)) (AsnL.cons (Asn.name (by decide +kernel)) AsnL.nil))), Exs.cons (Ex.augitem (di := .int ((bondIx l : Nat) : Int)) (by l_intsC) (by decide +kernel)
        (EvE.as (EvE.bin (EvE.bin (by k_places) (EvE.callB b_min (by k_places) EvE.min2) (bin_mul (.of_left (by decide)))) (EvE.callB b_max (by k_places) EvE.max2) bin_add) (by rw [bondIx_cast])) (by k_places) inp_int
        (get_oi' (by lia) (by lia) (dInts_get (by lia))) (set_oi (by lia) (by simp; lia) (by lia))) Exs.nil, ?_⟩
      k_subL
    · intro _ _; rfl
    · refine Exs.freeze (x := "weights") (by l_intsC) frz_oi ?_
      have hw : (weightsOf log).length = 25 := by unfold weightsOf; rw [weigh_len]; simp
      refine Exs.ret (Ex.ret ?_)
      have hcut : (bondsOf size log).map dBond = (List.range size).flatMap fun (other : Nat) => (List.range other).map fun (one : Nat) => dBond ((one : Int), (other : Int), (weightsOf log).getD (5 * one + other) 0) := by
        unfold bondsOf; simp [List.map_flatMap, Function.comp_def]
      rw [hcut]
      refine EvE.compA (Comp.two (fun j : Nat => D.int j) (fun j : Nat => List.range j) (fun j : Nat => D.int j) (fun (other one : Nat) => dBond ((one : Int), (other : Int), (weightsOf log).getD (5 * one + other) 0)) (List.range size) takes_ol (EvIt.callB b_range (by k_places) (ci_range1 rfl (by lia))) ?_ (fun d hd => ?_) (fun d hd e he => ?_))
      · have : size = 0 ∨ size = 1 ∨ size = 2 ∨ size = 3 ∨ size = 4 ∨ size = 5 := by lia
        rcases this with rfl | rfl | rfl | rfl | rfl | rfl <;> simp [sizeLine, List.range, List.range.loop]
      · have := List.mem_range.mp hd
        exact EvIt.callB b_range (by k_places) (ci_range1 rfl (by lia))
      · have h1 := List.mem_range.mp hd
        have h2 := List.mem_range.mp he
        refine EvE.tup (EvEs.cons (by k_places) (EvEs.cons (by k_places) (EvEs.cons (EvE.sub' (d₂ := .int ((5 * e + d : Nat) : Int)) (by k_places) (EvE.as (EvE.bin (EvE.bin (by k_places) (by k_places) (bin_mul (.of_left (by decide)))) (by k_places) bin_add) (by push_cast; rfl)) (sub_list (by lia) (by lia) (dInts_get (by lia)))) EvEs.nil)))
end
-- E6
section
variable {w : World}
-- the ledgers
noncomputable abbrev Tab := List (Str × Int)
noncomputable abbrev dTabs (ts : List Tab) : D := .list (ts.map fun t => D.dict (dT t))
noncomputable def led1 (te : List Tab × List Int) (here : Nat) (k : Str) (n : Int) : List Tab × List Int := (te.1.set here (addKey (te.1.getD here []) (k, n)), te.2.set here (te.2.getD here 0 + 1))
noncomputable def ledStep (lab : List Str) (te : List Tab × List Int) (l : Call) : List Tab × List Int := led1 (led1 te l.2.1 (lab.getD l.1 "") l.2.2) l.1 (lab.getD l.2.1 "") l.2.2
noncomputable def ledgersOf (lab : List Str) (log : List Call) : List Tab × List Int := log.foldl (ledStep lab) (List.replicate lab.length [], List.replicate lab.length 0)
structure LedOk (n B : Nat) (te : List Tab × List Int) : Prop where
  a : te.1.length = n
  b : te.2.length = n
  c : ∀ t ∈ te.1, t.length ≤ B
theorem addKey_eq (t : Tab) (k : Str) (n : Int) : addKey t (k, n) = put t k ((dget t k).getD 0 + n) := by
  unfold addKey
  cases h : dget t k <;> simp
theorem getD_le {ts : List Tab} {B i : Nat} (h : ∀ t ∈ ts, t.length ≤ B) : (ts.getD i []).length ≤ B := by
  by_cases hi : i < ts.length
  · exact h _ (getD_mem hi)
  · rw [List.getD_eq_getElem?_getD, List.getElem?_eq_none (by lia)]; simp
theorem LedOk.led1 {n B : Nat} {te : List Tab × List Int} (h : LedOk n B te) (here : Nat) (k : Str) (x : Int) : LedOk n (B + 1) (led1 te here k x) := by
  refine ⟨by simp [Mine.led1, h.a], by simp [Mine.led1, h.b], fun t ht => ?_⟩
  rcases List.mem_or_eq_of_mem_set ht with q | q
  · have := h.c t q; lia
  · subst q
    have := addKey_len (te.1.getD here []) (k, x)
    have := getD_le (i := here) h.c
    lia
theorem LedOk.mono {n B B' : Nat} {te : List Tab × List Int} (h : LedOk n B te) (hb : B ≤ B') : LedOk n B' te := ⟨h.a, h.b, fun t ht => Nat.le_trans (h.c t ht) hb⟩
theorem LedOk.step {n B : Nat} {te : List Tab × List Int} (h : LedOk n B te) (lab : List Str) (l : Call) : LedOk n (B + 2) (ledStep lab te l) := (h.led1 _ _ _).led1 _ _ _
theorem tabs_get {ts : List Tab} {k : Nat} (h : k < ts.length) : (ts.map dT)[((k : Nat) : Int).toNat]? = some (dT (ts.getD k [])) := by
  rw [Int.toNat_natCast, List.getElem?_map, List.getD_eq_getElem?_getD, List.getElem?_eq_getElem h]; rfl
theorem strs_at {lab : List Str} {k : Nat} (h : k < lab.length) : (lab.map D.str)[((k : Nat) : Int).toNat]? = some (.str (lab.getD k "")) := by
  rw [Int.toNat_natCast, List.getElem?_map, List.getD_eq_getElem?_getD, List.getElem?_eq_getElem h]; rfl
theorem ledgers_spec {lab : List Str} {log : List Call} (hn : lab.length ≤ 5) (hl : InRange lab.length log) (hlen : log.length ≤ 50) :
    FunSpec (cf w) 125 1 [dStrs lab, dLog log] (.tup [dTabs (ledgersOf lab log).1, dInts (ledgersOf lab log).2]) := by
  refine FunSpec.of_body (ps := ["labels", "log"]) (by rfl) rfl (by kernel_rfl) rfl (fun vs h => ?_) rfl rfl rfl (by decide +kernel) (by decide +kernel) (by decide +kernel) rfl rfl rfl rfl ?_
  · obtain ⟨_, _, rfl⟩ := lst2 h; rfl
  · dsimp only
    have hsz : lab.length ≤ sizeLine := by simp only [sizeLine]; lia
    with_reducible refine Exs.cons (Ex.compO (Comp.dicts (ds := lab.map D.str) (EvIt.list ?_) ?_ ?_ ?_) ?_ ?_ ?_ ?_ ?_) ?_
    · k_places
    · decide +kernel
    · decide +kernel
    · simpa using hsz
    · rfl
    · decide +kernel
    · decide +kernel
    · decide +kernel
    · intro _ _; rfl
    with_reducible refine Exs.cons (Ex.compO (Comp.allA D.str (fun _ => D.int 0) lab takes_oi (EvIt.list ?_) hsz (fun d hd => ?_) ?_ ?_) ?_ ?_ ?_ ?_ ?_) ?_
    · k_places
    · k_places
    · decide +kernel
    · decide +kernel
    · rfl
    · decide +kernel
    · decide +kernel
    · decide +kernel
    · intro _ _; rfl
    generalize hte : ledgersOf lab log = te
    with_reducible refine Exs.cons (Ex.for (t := false) (ds := log.map dCall) (EvIt.list ?_) (out := .next (vr [("tables", .ld (te.1.map dT)), ("ends", .oi (te.2.map D.int))])) ?_ ?_) ?_
    · k_places
    · rw [← hte]
      unfold ledgersOf
      refine Fors.sub (Γ₁ := vr [("tables", .ld ((List.replicate lab.length ([] : Tab)).map dT)), ("ends", .oi ((List.replicate lab.length (0 : Int)).map D.int)), ("labels", .fz (dStrs lab))]) ?_ ?_
      · have e1 : (List.replicate lab.length ([] : Tab)).map dT = List.replicate (lab.map D.str).length [] := by simp [dT]
        have e2 : (List.replicate lab.length (0 : Int)).map D.int = lab.map (fun _ => D.int 0) := by simp [List.map_const']
        rw [e1, e2]
        k_subL
      refine Fors.sub' (Γ₁ := vr [("tables", .ld ((log.foldl (ledStep lab) (List.replicate lab.length [], List.replicate lab.length 0)).1.map dT)), ("ends", .oi ((log.foldl (ledStep lab) (List.replicate lab.length [], List.replicate lab.length 0)).2.map D.int)), ("labels", .fz (dStrs lab))]) (by k_subL) ?_
      refine Fors.foldQ (t := false) dCall (fun te : List Tab × List Int => vr [("tables", .ld (te.1.map dT)), ("ends", .oi (te.2.map D.int)), ("labels", .fz (dStrs lab))]) (ledStep lab)
        (fun r te => LedOk lab.length (200 - 2 * r.length) te ∧ r.length ≤ 50) (by intro h; cases h) log (List.replicate lab.length [], List.replicate lab.length 0) ⟨⟨by simp, by simp, fun t ht => by obtain rfl := (List.mem_replicate.mp ht).2; simp⟩, hlen⟩
        (fun te l r h => ?_) (fun te l r hm h => ?_)
      · obtain ⟨h1, h2⟩ := h
        simp only [List.length_cons] at h1 h2
        exact ⟨(h1.step lab l).mono (by lia), by lia⟩
      · obtain ⟨h1, h2⟩ := h
        simp only [List.length_cons] at h1 h2
        have hr := hl l hm
        have ok : LedOk lab.length 198 te := h1.mono (by lia)
        refine ⟨_, _, Asn.tuple (AsnL.cons (Asn.name (by decide +kernel)) (AsnL.cons (Asn.name (by decide +kernel)) (AsnL.cons (Asn.name (by decide +kernel)) AsnL.nil))),
          Exs.cons (Ex.for (t := false) (ds := [(l.2.1, lab.getD l.1 ""), (l.1, lab.getD l.2.1 "")].map fun p : Nat × Str => D.tup [.int p.1, .str p.2]) (EvIt.list (EvE.list (EvEs.cons (EvE.tup (EvEs.cons (by k_places) (EvEs.cons (EvE.sub' (by k_places) (by k_places) (sub_list (by lia) (by lia) (strs_at hr.1))) EvEs.nil)))
            (EvEs.cons (EvE.tup (EvEs.cons (by k_places) (EvEs.cons (EvE.sub' (by k_places) (by k_places) (sub_list (by lia) (by lia) (strs_at hr.2))) EvEs.nil))) EvEs.nil))))
            (out := .next (vr [("tables", .ld ((ledStep lab te l).1.map dT)), ("ends", .oi ((ledStep lab te l).2.map D.int)), ("labels", .fz (dStrs lab)), ("calls", .fz (.int l.2.2))])) ?_) Exs.nil, ?_⟩
        · refine Fors.sub (Γ₁ := vr [("tables", .ld (te.1.map dT)), ("ends", .oi (te.2.map D.int)), ("labels", .fz (dStrs lab)), ("calls", .fz (.int l.2.2))]) (by k_subL) ?_
          refine Fors.foldQ (t := false) (fun p : Nat × Str => D.tup [.int p.1, .str p.2]) (fun te : List Tab × List Int => vr [("tables", .ld (te.1.map dT)), ("ends", .oi (te.2.map D.int)), ("labels", .fz (dStrs lab)), ("calls", .fz (.int l.2.2))])
            (fun te p => led1 te p.1 p.2 l.2.2) (fun r te => LedOk lab.length (200 - r.length) te ∧ r.length ≤ 10) (by intro h; cases h) [(l.2.1, lab.getD l.1 ""), (l.1, lab.getD l.2.1 "")] te ⟨ok.mono (by simp), by simp⟩ (fun te p r h => ?_) (fun te p r hp h => ?_)
          · have h2 := h.2
            simp only [List.length_cons] at h2
            exact ⟨(h.1.led1 _ _ _).mono (by simp only [List.length_cons]; lia), by lia⟩
          · replace h := h.1
            have hp1 : p.1 < lab.length := by
              rcases List.mem_cons.mp hp with rfl | hp
              · exact hr.2
              · rcases List.mem_cons.mp hp with rfl | hp
                · exact hr.1
                · cases hp
            have sz : (te.1.getD p.1 []).length ≤ 200 := Nat.le_trans (getD_le h.c) (by lia)
            have e1 : (led1 te p.1 p.2 l.2.2).1.map dT = (te.1.map dT).set ((p.1 : Nat) : Int).toNat (put (dT (te.1.getD p.1 [])) p.2 (.int ((dget (te.1.getD p.1 []) p.2).getD 0 + l.2.2))) := by
              unfold led1; rw [Int.toNat_natCast, List.map_set, addKey_eq, put_dT]
            have e2 : (led1 te p.1 p.2 l.2.2).2.map D.int = (te.2.map D.int).set ((p.1 : Nat) : Int).toNat (.int (te.2.getD p.1 0 + 1)) := by unfold led1; rw [Int.toNat_natCast, List.map_set]
            rw [e1, e2]
            have ga := h.a
            have gb := h.b
            have tabAt : (List.map D.dict (List.map dT te.1))[((p.1 : Nat) : Int).toNat]? = some (.dict (dT (te.1.getD p.1 []))) := by
              rw [List.getElem?_map, tabs_get (by lia)]; rfl
            refine ⟨_, _, Asn.tuple (AsnL.cons (Asn.name (by decide +kernel)) (AsnL.cons (Asn.name (by decide +kernel)) AsnL.nil)),
              Exs.cons (Ex.setnest (j := ((p.1 : Nat) : Int)) (key := p.2) (ds := dT (te.1.getD p.1 [])) (by l_intsC) (by decide +kernel)
                (EvE.bin (d₁ := .int ((dget (te.1.getD p.1 []) p.2).getD 0)) (EvE.flat (EvE.as (EvE.meth (EvE.sub' (by k_places) (by k_places) (sub_list (by lia) (by lia) tabAt)) (by k_places) (mt_dict F.slot_dict_get F.type_dict_get) me_get) (getD_dT _ _ 0)) rfl) (by k_places) bin_add)
                (by k_places) (by k_places) (by lia) (by lia) (tabs_get (by lia)) (by rw [dT_len]; simp only [sizeLine]; lia))
              (Exs.cons (Ex.augitem (di := .int ((p.1 : Nat) : Int)) (d₁ := .int (te.2.getD p.1 0)) (d₂ := .int 1) (by l_intsC) (by decide +kernel) (by k_places) (by k_places) inp_int (get_oi' (by lia) (by lia) (dInts_get (by lia))) (set_oi (by lia) (by simp; lia) (by lia))) Exs.nil), ?_⟩
            k_subL
        · k_subL
    · intro _ _; rfl
    · refine Exs.freeze (x := "tables") (by l_intsC) frz_ld ?_
      refine Exs.freeze (x := "ends") (by l_intsC) frz_oi ?_
      refine Exs.ret (Ex.ret (EvE.as (by k_places) ?_))
      simp [List.map_map, Function.comp_def]
end
-- E7
section
variable {w : World}
-- the entries
noncomputable def en0 : En := ⟨0, 0, 0, 0, []⟩
noncomputable def ent1 (es : List En) (i : Nat) (k : Str) (n : Int) : List En := es.set i (addEn (es.getD i en0) ⟨0, n, 1, 0, [(k, n)]⟩)
noncomputable def entStep (lab : List Str) (es : List En) (l : Call) : List En := ent1 (ent1 es l.2.1 (lab.getD l.1 "") l.2.2) l.1 (lab.getD l.2.1 "") l.2.2
noncomputable def entStart (n : Nat) : List En := (List.range n).map fun k => ⟨1, 0, 0, (2 : Int) ^ k, []⟩
noncomputable def entriesOf (lab : List Str) (log : List Call) : List En := log.foldl (entStep lab) (entStart lab.length)
structure EntOk (n B : Nat) (es : List En) : Prop where
  a : es.length = n
  c : ∀ e ∈ es, e.t.length ≤ B
theorem foldPut_len : ∀ (s t : Tab), (s.foldl (fun a kv => put a kv.1 kv.2) t).length ≤ t.length + s.length
  | [], t => by simp
  | kv :: s, t => by have := foldPut_len s (put t kv.1 kv.2); have := put_len t kv.1 kv.2; simp; lia
theorem foldAdd_len : ∀ (s t : Tab), (s.foldl addKey t).length ≤ t.length + s.length
  | [], t => by simp
  | kv :: s, t => by have := foldAdd_len s (addKey t kv); have := addKey_len t kv; simp; lia
theorem mergeT_len (t s : Tab) : (mergeT t s).length ≤ t.length + s.length := by
  have h1 := foldAdd_len s (t.foldl (fun a kv => put a kv.1 kv.2) [])
  have h2 := foldPut_len t []
  simp only [List.length_nil, Nat.zero_add] at h2
  exact Nat.le_trans h1 (Nat.add_le_add_right h2 _)
theorem enD_le {es : List En} {B i : Nat} (h : ∀ e ∈ es, e.t.length ≤ B) : (es.getD i en0).t.length ≤ B := by
  by_cases hi : i < es.length
  · exact h _ (getD_mem hi)
  · rw [List.getD_eq_getElem?_getD, List.getElem?_eq_none (by lia)]; simp [en0]
theorem EntOk.ent1 {n B : Nat} {es : List En} (h : EntOk n B es) (i : Nat) (k : Str) (x : Int) : EntOk n (B + 1) (ent1 es i k x) := by
  refine ⟨by simp [Mine.ent1, h.a], fun t ht => ?_⟩
  rcases List.mem_or_eq_of_mem_set ht with q | q
  · have := h.c t q; lia
  · subst q
    have := mergeT_len (es.getD i en0).t [(k, x)]
    have := enD_le (i := i) h.c
    simp only [addEn, List.length_cons, List.length_nil] at *
    lia
theorem EntOk.mono {n B B' : Nat} {es : List En} (h : EntOk n B es) (hb : B ≤ B') : EntOk n B' es := ⟨h.a, fun t ht => Nat.le_trans (h.c t ht) hb⟩
theorem ens_at {es : List En} {k : Nat} (h : k < es.length) : (es.map dEn)[((k : Nat) : Int).toNat]? = some (dEn (es.getD k en0)) := by
  rw [Int.toNat_natCast, List.getElem?_map, List.getD_eq_getElem?_getD, List.getElem?_eq_getElem h]; rfl
theorem entries_spec {lab : List Str} {log : List Call} (hn : lab.length ≤ 5) (hl : InRange lab.length log) (hlen : log.length ≤ 50) :
    FunSpec (cf w) 150 3 [dStrs lab, dLog log] (.list ((entriesOf lab log).map dEn)) := by
  refine FunSpec.of_body (ps := ["labels", "log"]) (by rfl) rfl (by kernel_rfl) rfl (fun vs h => ?_) rfl rfl rfl (by decide +kernel) (by decide +kernel) (by decide +kernel) rfl rfl rfl rfl ?_
  · obtain ⟨_, _, rfl⟩ := lst2 h; rfl
  · dsimp only
    have hsz : lab.length ≤ sizeLine := by simp only [sizeLine]; lia
    with_reducible refine Exs.cons (Ex.compO (Comp.allA (fun k : Nat => D.int k) (fun k : Nat => dEn ⟨1, 0, 0, (2 : Int) ^ k, []⟩) (List.range lab.length) takes_oi ?_ ?_ (fun d hd => ?_) ?_ ?_) ?_ ?_ ?_ ?_ ?_) ?_
    · exact EvIt.callB b_range (EvEs.cons (EvE.callB b_len (by k_places) (call_len (by simp; lia))) EvEs.nil) (ci_range1 (by simp) (by lia))
    · simpa using hsz
    · have hd' := List.mem_range.mp hd
      refine EvE.as (EvE.tup (EvEs.cons (by k_places) (EvEs.cons (by k_places) (EvEs.cons (by k_places) (EvEs.cons (EvE.bin (by k_places) (by k_places) (bin_pow (b := (d : Int)) (by lia) ?_)) (EvEs.cons EvE.dict0 EvEs.nil)))))) ?_
      · have : (Builtin.Int.intBits 2 : Int) = 2 := by decide
        rw [this]; lia
      · simp [dT]
    · decide +kernel
    · decide +kernel
    · rfl
    · decide +kernel
    · decide +kernel
    · decide +kernel
    · intro _ _; rfl
    have e0 : (List.range lab.length).map (fun k : Nat => dEn ⟨1, 0, 0, (2 : Int) ^ k, []⟩) = (entStart lab.length).map dEn := by unfold entStart; simp [List.map_map, Function.comp_def]
    rw [e0]
    with_reducible refine Exs.cons (Ex.for (t := false) (ds := log.map dCall) (EvIt.list ?_) (out := .next (vr [("entries", .oi ((entriesOf lab log).map dEn))])) ?_ ?_) ?_
    · k_places
    · refine Fors.sub (Γ₁ := vr [("entries", .oi ((entStart lab.length).map dEn)), ("labels", .fz (dStrs lab))]) (by k_subL) ?_
      refine Fors.sub' (Γ₁ := vr [("entries", .oi ((log.foldl (entStep lab) (entStart lab.length)).map dEn)), ("labels", .fz (dStrs lab))]) (by unfold entriesOf; k_subL) ?_
      refine Fors.foldQ (t := false) dCall (fun es : List En => vr [("entries", .oi (es.map dEn)), ("labels", .fz (dStrs lab))]) (entStep lab)
        (fun r es => EntOk lab.length (200 - 2 * r.length) es ∧ r.length ≤ 50) (by intro h; cases h) log (entStart lab.length) ⟨⟨by simp [entStart], fun e he => by
          unfold entStart at he
          obtain ⟨k, _, rfl⟩ := List.mem_map.mp he
          simp⟩, hlen⟩ (fun es l r h => ?_) (fun es l r hm h => ?_)
      · obtain ⟨h1, h2⟩ := h
        simp only [List.length_cons] at h1 h2
        exact ⟨((h1.ent1 _ _ _).ent1 _ _ _).mono (by lia), by lia⟩
      · obtain ⟨h1, h2⟩ := h
        simp only [List.length_cons] at h1 h2
        have hr := hl l hm
        have ok1 : EntOk lab.length 198 es := h1.mono (by lia)
        have ok2 := ok1.ent1 l.2.1 (lab.getD l.1 "") l.2.2
        have ga := ok1.a
        have gb := ok2.a
        have s1 : (es.getD l.2.1 en0).t.length ≤ 1000 := Nat.le_trans (enD_le ok1.c) (by lia)
        have s2 : ((ent1 es l.2.1 (lab.getD l.1 "") l.2.2).getD l.1 en0).t.length ≤ 1000 := Nat.le_trans (enD_le ok2.c) (by lia)
        generalize hG : upd (upd (upd (vr [("entries", .oi (es.map dEn)), ("labels", .fz (dStrs lab))]) "caller" (.fz (.int (l.1 : Nat)))) "callee" (.fz (.int (l.2.1 : Nat)))) "calls" (.fz (.int l.2.2)) = Gm
        refine ⟨Gm, upd (upd Gm "entries" (.oi ((ent1 es l.2.1 (lab.getD l.1 "") l.2.2).map dEn))) "entries" (.oi ((entStep lab es l).map dEn)),
          hG ▸ Asn.tuple (AsnL.cons (Asn.name (by decide +kernel)) (AsnL.cons (Asn.name (by decide +kernel)) (AsnL.cons (Asn.name (by decide +kernel)) AsnL.nil))), Exs.cons (Γ' := upd Gm "entries" (.oi ((ent1 es l.2.1 (lab.getD l.1 "") l.2.2).map dEn))) ?_ (Exs.cons ?_ Exs.nil), ?_⟩
        all_goals subst hG
        · have e : (ent1 es l.2.1 (lab.getD l.1 "") l.2.2).map dEn = (es.map dEn).set ((l.2.1 : Nat) : Int).toNat (dEn (addEn (es.getD l.2.1 en0) ⟨0, l.2.2, 1, 0, [(lab.getD l.1 "", l.2.2)]⟩)) := by unfold ent1; rw [Int.toNat_natCast, List.map_set]
          rw [e]
          refine Ex.setitem (dv := dEn (addEn (es.getD l.2.1 en0) ⟨0, l.2.2, 1, 0, [(lab.getD l.1 "", l.2.2)]⟩)) (di := .int ((l.2.1 : Nat) : Int)) (by l_intsC) (by decide +kernel) ?_ (by k_places) (set_oi (by lia) (by rw [List.length_map]; lia) (by lia))
          refine EvE.calld t_afs (EvEs.cons (EvE.item_own (d₁ := .none) (by l_intsC) (by decide +kernel) (by k_places) (get_oi (by lia) (by lia) (ens_at (by lia)))) (EvEs.cons (EvE.as (d := .tup [.int 0, .int l.2.2, .int 1, .int 0, .dict [(lab.getD l.1 "", .int l.2.2)]]) (EvE.tup ?_) rfl) EvEs.nil)) (afs_spec (b := ⟨0, l.2.2, 1, 0, [(lab.getD l.1 "", l.2.2)]⟩) s1 (by simp))
          refine EvEs.cons (by k_places) (EvEs.cons (by k_places) (EvEs.cons (by k_places) (EvEs.cons (by k_places) (EvEs.cons (EvE.dict1 (EvE.sub' (by k_places) (by k_places) (sub_list (by lia) (by lia) (strs_at hr.1))) (by k_places)) EvEs.nil))))
        · have e : (entStep lab es l).map dEn = ((ent1 es l.2.1 (lab.getD l.1 "") l.2.2).map dEn).set ((l.1 : Nat) : Int).toNat (dEn (addEn ((ent1 es l.2.1 (lab.getD l.1 "") l.2.2).getD l.1 en0) ⟨0, l.2.2, 1, 0, [(lab.getD l.2.1 "", l.2.2)]⟩)) := by unfold entStep ent1; rw [Int.toNat_natCast, List.map_set]
          rw [e]
          refine Ex.setitem (dv := dEn (addEn ((ent1 es l.2.1 (lab.getD l.1 "") l.2.2).getD l.1 en0) ⟨0, l.2.2, 1, 0, [(lab.getD l.2.1 "", l.2.2)]⟩)) (di := .int ((l.1 : Nat) : Int)) (by l_intsC) (by decide +kernel) ?_ (by k_places) (set_oi (by lia) (by rw [List.length_map]; lia) (by lia))
          refine EvE.calld t_afs (EvEs.cons (EvE.item_own (d₁ := .none) (by l_intsC) (by decide +kernel) (by k_places) (get_oi (by lia) (by lia) (ens_at (by lia)))) (EvEs.cons (EvE.as (d := .tup [.int 0, .int l.2.2, .int 1, .int 0, .dict [(lab.getD l.2.1 "", .int l.2.2)]]) (EvE.tup ?_) rfl) EvEs.nil)) (afs_spec (b := ⟨0, l.2.2, 1, 0, [(lab.getD l.2.1 "", l.2.2)]⟩) s2 (by simp))
          refine EvEs.cons (by k_places) (EvEs.cons (by k_places) (EvEs.cons (by k_places) (EvEs.cons (by k_places) (EvEs.cons (EvE.dict1 (EvE.sub' (by k_places) (by k_places) (sub_list (by lia) (by lia) (strs_at hr.2))) (by k_places)) EvEs.nil))))
        · k_subL
    · intro _ _; rfl
    · refine Exs.freeze (x := "entries") (by l_intsC) frz_oi ?_
      exact Exs.ret (Ex.ret (by k_places))
end
-- E8
section
variable {w : World}
-- the pattern in the heap
theorem code_lit : (ipCode.map fun (k : Nat) => Value.int (k : Int) 0) = #[Value.int 14 0, Value.int 8 0, Value.int 1 0, Value.int 2 0, Value.int 4294967295 0, Value.int 1 0, Value.int 1 0, Value.int 46 0, Value.int 0 0, Value.int 16 0, Value.int 46 0, Value.int 24 0, Value.int 9 0, Value.int 1 0, Value.int 4294967295 0, Value.int 13 0, Value.int 4 0, Value.int 8 0, Value.int 0 0, Value.int 0 0, Value.int 1 0, Value.int 6 0, Value.int 5 0, Value.int 1 0] := by simp [ipCode]
theorem pat_at (h : Heap) (G : Gk (cf w).K h) : PatAt h 36 35 ∧ ∃ ob, h.get? 36 = some ob ∧ ob.dict = none ∧ ob.cls = .type "re.Pattern" := by
  have h36 := G.inn 36 _ (by rfl)
  have h35 := G.inn 35 _ (by rfl)
  exact ⟨⟨⟨_, h36, rfl⟩, ⟨_, 0, h35, by rw [code_lit]⟩⟩, _, h36, rfl, rfl⟩
theorem t_pat : nsIn (cf w).K mainGlobals "IPV4_RE" = some (some (.ref 36)) := by kernel_rfl
theorem dot_tx : (Str.ofString ".") = tx [46] := by decide +kernel
theorem nil_tx : (Str.ofString "") = tx [] := by decide +kernel
theorem one_tx (c : Nat) : (⟨#[c]⟩ : Str) = tx [c] := rfl
noncomputable def hdnL (l : List Nat) (b : Bool) : Bool := !b && (!(l == []) && !(l.head? == some 46 || l.getLast? == some 46))
theorem EvT.search' {σ : List (Str × NameKind)} {n : Nat} {Γ : Vars} {e : Expr} {l : List Nat} {b : Bool} {np ap pos : Pos} (a : EvE (cf w) σ n Γ true e (.str (tx l))) (hb : Hit (tx l) b) (hsz : l.length < 1000)
    (hx : σ.lookup (Str.ofString "IPV4_RE") = some .globalImplicit) (hbase : ∀ env, attributeBase (.Name "IPV4_RE" np) "search" env (eval (.Name "IPV4_RE" np) env) = eval (.Name "IPV4_RE" np) env := by intro _; rfl) (hline : (ap.endLine == pos.line) = true := by rfl)
    (he : ∀ env, starEach [e] env = [(false, eval e env)] := by intro _; rfl)
    (hfew : ∀ env, ((backTo pos (starEach [e] env)).all (fun x => !x.1) && (backToKw pos (keywordEach [] env)).all (fun x => x.1.isSome)
      && decide ([e].length + ([] : List Keyword).length + (if ([] : List Keyword).isEmpty then 0 else 1) < 30)) = true := by intro _; rfl)
    (ht : ∀ env whole, isTrue (.Call (.Attribute (.Name "IPV4_RE" np) "search" ap) [e] [] pos) env whole = (do let v ← whole; standAt pos; holding [v] (truthy v)) := by intro _ _; rfl) :
    EvT (cf w) σ n Γ (.Call (.Attribute (.Name "IPV4_RE" np) "search" ap) [e] [] pos) b :=
  EvT.search a hb (by rw [tx_len]; lia) hx t_pat pat_at (by decide +kernel) hbase hline he hfew ht
theorem ends_test {σ : List (Str × NameKind)} {n : Nat} {Γ : Vars} {x : Str} {c z : Nat} {l : List Nat} {p1 p2 p3 p4 p5 q1 q2 q3 q4 q5 q6 pp : Pos} {k : Nat} (hΓ : Γ x = some (.fz (.str (tx (c :: l))))) (hx : σ.lookup x = some .local ∨ σ.lookup x = some .cell ∨ σ.lookup x = some .free)
    (hz : (c :: l).getLast? = some z) (hl : (c :: l).length < 1000) (hn : (x == ("__classdict__" : Str)) = false := by decide +kernel) (hd : (x == ("__debug__" : Str)) = false := by decide +kernel) :
    EvT (cf w) σ n Γ (.BoolOp .Or [.Compare (.Subscript (.Name x p1) (.Constant (.int 0) k p2) p3) [.Eq] [.Constant (.str (Str.ofString ".")) k p4] p5,
      .Compare (.Subscript (.Name x q1) (.UnaryOp .USub (.Constant (.int 1) k q2) q3) q4) [.Eq] [.Constant (.str (Str.ofString ".")) k q5] q6] pp) ((c == 46) || ((z == 46) || false)) := by
  have hzi : (c :: l)[l.length]? = some z := by rw [← hz, List.getLast?_eq_getElem?]; simp
  simp only [List.length_cons] at hl
  have e1 : ((⟨#[c]⟩ : Str) == Str.ofString ".") = (c == 46) := by rw [dot_tx, one_tx, tx_beq]; simp
  have e2 : ((⟨#[z]⟩ : Str) == Str.ofString ".") = (z == 46) := by rw [dot_tx, one_tx, tx_beq]; simp
  have nm : EvE (cf w) σ n Γ false (.Name x p1) (.str (tx (c :: l))) := EvE.name hΓ hx hn hd
  have nm' : EvE (cf w) σ n Γ false (.Name x q1) (.str (tx (c :: l))) := EvE.name hΓ hx hn hd
  have i0 : seqIndex? 0 (tx (c :: l)).length = some 0 := by rw [tx_len]; simp [seqIndex?]
  have i1 : seqIndex? (-1) (tx (c :: l)).length = some l.length := by rw [tx_len]; simp [seqIndex?]; lia
  have c0 : (tx (c :: l)).cps[0]? = some c := by simp [tx]
  have c1 : (tx (c :: l)).cps[l.length]? = some z := by simpa [tx] using hzi
  have g0 : EvE (cf w) σ n Γ false (.Subscript (.Name x p1) (.Constant (.int 0) k p2) p3) (.str ⟨#[c]⟩) := EvE.sub' nm EvE.int (sub_str (by lia) (by lia) i0 c0)
  have g1 : EvE (cf w) σ n Γ false (.Subscript (.Name x q1) (.UnaryOp .USub (.Constant (.int 1) k q2) q3) q4) (.str ⟨#[z]⟩) := EvE.sub' nm' (EvE.un EvE.int un_neg) (sub_str (i := -1) (by lia) (by lia) i1 c1)
  exact EvT.boolop (AllT.or (EvT.as (EvT.cmp g0 EvE.str cmp_str_eq) e1) fun _ => AllT.or (EvT.as (EvT.cmp g1 EvE.str cmp_str_eq) e2) fun _ => AllT.or_nil)
theorem hdn_spec {l : List Nat} {b : Bool} (hb : Hit (tx l) b) (hl : l.length < 1000) : FunSpec (cf w) 43 1 [.str (tx l)] (.bool (hdnL l b)) := by
  refine FunSpec.of_body (ps := ["text"]) (by rfl) rfl (by kernel_rfl) rfl (fun vs h => ?_) rfl rfl rfl (by decide +kernel) (by decide +kernel) (by decide +kernel) rfl rfl rfl rfl ?_
  · obtain ⟨_, rfl⟩ := lst1 h; rfl
  · dsimp only
    cases b with
    | true => exact Exs.ret (Ex.ite (b := true) (EvT.search' (by k_places) hb hl (by decide +kernel)) (fun _ => Exs.ret (Ex.ret (EvE.as (d := .bool false) (by k_places) rfl))) (fun q => by cases q))
    | false =>
      refine Exs.cons (Ex.ite (b := false) (EvT.search' (by k_places) hb hl (by decide +kernel)) (fun q => by cases q) (fun _ => Exs.nil)) ?_
      cases l with
      | nil => exact Exs.ret (Ex.ite (b := true) (EvT.as (by k_places) (by rw [nil_tx]; simp)) (fun _ => Exs.ret (Ex.ret (EvE.as (d := .bool false) (by k_places) (by simp [hdnL])))) (fun q => by cases q))
      | cons c l =>
        refine Exs.cons (Ex.ite (b := false) (EvT.as (by k_places) (by rw [nil_tx, tx_beq]; simp)) (fun q => by cases q) (fun _ => Exs.nil)) ?_
        obtain ⟨z, hz⟩ : ∃ z, (c :: l).getLast? = some z := ⟨(c :: l).getLast (by simp), List.getLast?_eq_some_getLast (by simp)⟩
        have hzi : (c :: l)[l.length]? = some z := by rw [← hz, List.getLast?_eq_getElem?]; simp
        have hfin : hdnL (c :: l) false = !((c == 46) || ((z == 46) || false)) := by simp [hdnL, hz]
        rw [hfin]
        by_cases hq : ((c == 46) || ((z == 46) || false)) = true
        · rw [hq]
          refine Exs.ret (Ex.ite (b := true) (EvT.as (ends_test (by l_intsC) (.inl (by decide +kernel)) hz hl) hq) (fun _ => Exs.ret (Ex.ret (EvE.as (d := .bool false) (by k_places) rfl))) (fun q => by cases q))
        · have hq' := Bool.eq_false_iff.mpr hq
          rw [hq']
          exact Exs.cons (Ex.ite (b := false) (EvT.as (ends_test (by l_intsC) (.inl (by decide +kernel)) hz hl) hq') (fun q => by cases q) (fun _ => Exs.nil)) (Exs.ret (Ex.ret (EvE.as (d := .bool true) (by k_places) rfl)))
theorem lib_spec {l : List Nat} {b : Bool} (hb : Hit (tx l) b) (hl : l.length < 1000) : FunSpec (cf w) 50 1 [.str (tx l)] (.bool (!b)) := by
  refine FunSpec.of_body (ps := ["text"]) (by rfl) rfl (by kernel_rfl) rfl (fun vs h => ?_) rfl rfl rfl (by decide +kernel) (by decide +kernel) (by decide +kernel) rfl rfl rfl rfl ?_
  · obtain ⟨_, rfl⟩ := lst1 h; rfl
  · dsimp only
    cases b with
    | true => exact Exs.ret (Ex.ite (b := true) (EvT.search' (by k_places) hb hl (by decide +kernel)) (fun _ => Exs.ret (Ex.ret (EvE.as (d := .bool false) (by k_places) rfl))) (fun q => by cases q))
    | false => exact Exs.cons (Ex.ite (b := false) (EvT.search' (by k_places) hb hl (by decide +kernel)) (fun q => by cases q) (fun _ => Exs.nil)) (Exs.ret (Ex.ret (EvE.as (d := .bool true) (by k_places) rfl)))
theorem long_ok {n : Nat} (h : n < 1000) : Builtin.Str.tooLong n = false := by
  unfold Builtin.Str.tooLong
  have : (1000 : Nat) ≤ sizeLine := by simp [sizeLine]
  simp; lia
theorem EvE.lowerL {σ : List (Str × NameKind)} {n : Nat} {Γ : Vars} {m : Bool} {o : Expr} {l : List Nat} {ap pos : Pos} (a : EvE (cf w) σ n Γ m o (.str (tx l))) (h : ∀ c ∈ l, okC c = true) (hl : l.length < 1000)
    (hbase : ∀ env, attributeBase o (Str.ofString "lower") env (eval o env) = eval o env := by intro _; rfl) (hline : (ap.endLine == pos.line) = true := by rfl) : EvE (cf w) σ n Γ m (.Call (.Attribute o (Str.ofString "lower") ap) [] [] pos) (.str (tx (l.map loC))) := by
  rw [← lower_tx l h]
  exact EvE.meth0 a (mt_str F.slot_str_lower F.type_str_lower) (me_lower (by rw [lower_tx l h, tx_len]; exact long_ok (by simpa using hl))) hbase hline
theorem EvE.upperL {σ : List (Str × NameKind)} {n : Nat} {Γ : Vars} {m : Bool} {o : Expr} {l : List Nat} {ap pos : Pos} (a : EvE (cf w) σ n Γ m o (.str (tx l))) (h : ∀ c ∈ l, okC c = true) (hl : l.length < 1000)
    (hbase : ∀ env, attributeBase o (Str.ofString "upper") env (eval o env) = eval o env := by intro _; rfl) (hline : (ap.endLine == pos.line) = true := by rfl) : EvE (cf w) σ n Γ m (.Call (.Attribute o (Str.ofString "upper") ap) [] [] pos) (.str (tx (l.map upC))) := by
  rw [← upper_tx l h]
  exact EvE.meth0 a (mt_str F.slot_str_upper F.type_str_upper) (me_upper (by rw [upper_tx l h, tx_len]; exact long_ok (by simpa using hl))) hbase hline
/-- what user_domain_match says of two texts in small letters, by whether the pattern is found in them -/
noncomputable def udmL (A B : List Nat) (ba bb : Bool) : Bool := if !(!ba && (!bb && true)) then A == B else if begL B [46] && (endL A B && true) then true else if !begL B [46] && ((A == B) && true) then true else false
theorem udm_spec {A B : List Nat} {ba bb : Bool} (hA : ∀ c ∈ A, okC c = true) (hB : ∀ c ∈ B, okC c = true) (lA : A.length < 1000) (lB : B.length < 1000) (ha : Hit (tx (A.map loC)) ba) (hb : Hit (tx (B.map loC)) bb) :
    FunSpec (cf w) 57 2 [.str (tx A), .str (tx B)] (.bool (udmL (A.map loC) (B.map loC) ba bb)) := by
  refine FunSpec.of_body (ps := ["A", "B"]) (by rfl) rfl (by kernel_rfl) rfl (fun vs h => ?_) rfl rfl rfl (by decide +kernel) (by decide +kernel) (by decide +kernel) rfl rfl rfl rfl ?_
  · obtain ⟨_, _, rfl⟩ := lst2 h; rfl
  · dsimp only
    refine Exs.cons (Ex.set (EvE.lowerL (by k_places) hA lA) (by decide +kernel)) ?_
    refine Exs.cons (Ex.set (EvE.lowerL (by k_places) hB lB) (by decide +kernel)) ?_
    have lA' : (A.map loC).length < 1000 := by simpa using lA
    have lB' : (B.map loC).length < 1000 := by simpa using lB
    generalize A.map loC = A at *
    generalize B.map loC = B at *
    have eqT : ((tx A == tx B) = (A == B)) := tx_beq A B
    by_cases h1 : (!(!ba && (!bb && true))) = true
    · have e : udmL A B ba bb = (A == B) := by unfold udmL; rw [if_pos h1]
      rw [e]
      refine Exs.ret (Ex.ite (b := true) (EvT.as (EvT.not (EvT.boolop (AllT.and (EvT.value (EvE.calld t_liberal (by k_places) (lib_spec ha lA')) tru_bool) fun _ => AllT.and (EvT.value (EvE.calld t_liberal (by k_places) (lib_spec hb lB')) tru_bool) fun _ => AllT.and_nil))) h1) (fun _ => ?_) (fun q => by cases q))
      by_cases h2 : (A == B) = true
      · rw [h2]
        exact Exs.ret (Ex.ite (b := true) (EvT.as (EvT.cmp (by k_places) (by k_places) cmp_str_eq) (by rw [eqT, h2])) (fun _ => Exs.ret (Ex.ret (by k_places))) (fun q => by cases q))
      · have h2' := Bool.eq_false_iff.mpr h2
        rw [h2']
        exact Exs.cons (Ex.ite (b := false) (EvT.as (EvT.cmp (by k_places) (by k_places) cmp_str_eq) (by rw [eqT, h2'])) (fun q => by cases q) (fun _ => Exs.nil)) (Exs.ret (Ex.ret (by k_places)))
    · have h1' := Bool.eq_false_iff.mpr h1
      have e : udmL A B ba bb = (if begL B [46] && (endL A B && true) then true else if !begL B [46] && ((A == B) && true) then true else false) := by unfold udmL; rw [if_neg h1]
      rw [e]
      refine Exs.cons (Ex.ite (b := false) (EvT.as (EvT.not (EvT.boolop (AllT.and (EvT.value (EvE.calld t_liberal (by k_places) (lib_spec ha lA')) tru_bool) fun _ => AllT.and (EvT.value (EvE.calld t_liberal (by k_places) (lib_spec hb lB')) tru_bool) fun _ => AllT.and_nil))) h1') (fun q => by cases q) (fun _ => Exs.nil)) ?_
      refine Exs.cons (Ex.set (d := .bool (begL B [46])) (EvE.as (EvE.meth (by k_places) (by k_places) (mt_str F.slot_str_startswith F.type_str_startswith) me_startswith) (by rw [dot_tx, starts_tx])) (by decide +kernel)) ?_
      by_cases h2 : (begL B [46] && (endL A B && true)) = true
      · rw [if_pos h2]
        exact Exs.ret (Ex.ite (b := true) (EvT.as (EvT.boolop (AllT.and (EvT.value (by k_places) tru_bool) fun _ => AllT.and (EvT.value (EvE.meth (by k_places) (by k_places) (mt_str F.slot_str_endswith F.type_str_endswith) me_endswith) tru_bool) fun _ => AllT.and_nil)) (by rw [ends_tx, h2])) (fun _ => Exs.ret (Ex.ret (by k_places))) (fun q => by cases q))
      · rw [if_neg h2]
        have h2' := Bool.eq_false_iff.mpr h2
        refine Exs.cons (Ex.ite (b := false) (EvT.as (EvT.boolop (AllT.and (EvT.value (by k_places) tru_bool) fun _ => AllT.and (EvT.value (EvE.meth (by k_places) (by k_places) (mt_str F.slot_str_endswith F.type_str_endswith) me_endswith) tru_bool) fun _ => AllT.and_nil)) (by rw [ends_tx, h2'])) (fun q => by cases q) (fun _ => Exs.nil)) ?_
        by_cases h3 : (!begL B [46] && ((A == B) && true)) = true
        · rw [if_pos h3]
          exact Exs.ret (Ex.ite (b := true) (EvT.as (EvT.boolop (AllT.and (EvT.not (EvT.value (by k_places) tru_bool)) fun _ => AllT.and (EvT.cmp (by k_places) (by k_places) cmp_str_eq) fun _ => AllT.and_nil)) (by rw [eqT, h3])) (fun _ => Exs.ret (Ex.ret (by k_places))) (fun q => by cases q))
        · rw [if_neg h3]
          have h3' := Bool.eq_false_iff.mpr h3
          exact Exs.cons (Ex.ite (b := false) (EvT.as (EvT.boolop (AllT.and (EvT.not (EvT.value (by k_places) tru_bool)) fun _ => AllT.and (EvT.cmp (by k_places) (by k_places) cmp_str_eq) fun _ => AllT.and_nil)) (by rw [eqT, h3'])) (fun q => by cases q) (fun _ => Exs.nil)) (Exs.ret (Ex.ret (by k_places)))
end
-- E9
section
variable {w : World}
noncomputable def localL : List Nat := [108, 111, 99, 97, 108]
theorem local_tx : (Str.ofString "local") = tx localL := by decide +kernel
noncomputable def reachT (t : List Nat) : Bool := decide (0 ≤ findL 46 t 0) || ((t == localL) || false)
noncomputable def reachL (l : List Nat) (b : Bool) : List Nat := if 0 ≤ findL 46 l 0 then (if hdnL l b && (reachT (l.drop ((findL 46 l 0).toNat + 1)) && true) then 46 :: l.drop ((findL 46 l 0).toNat + 1) else l) else l
theorem findL_lt (c : Nat) : ∀ (l : List Nat) (i : Nat), 0 ≤ findL c l i → (findL c l i).toNat < i + l.length
  | [], i, h => by simp [findL] at h
  | x :: l, i, h => by
    unfold findL at h ⊢
    split
    · simp
    · rename_i hx
      rw [if_neg hx] at h
      have := findL_lt c l (i + 1) h
      simp; lia
theorem EvE.findDot {σ : List (Str × NameKind)} {n : Nat} {Γ : Vars} {m : Bool} {o e : Expr} {l : List Nat} {ap pos : Pos} (a : EvE (cf w) σ n Γ m o (.str (tx l))) (b : EvE (cf w) σ n Γ m e (.str (Str.ofString ".")))
    (hbase : ∀ env, attributeBase o (Str.ofString "find") env (eval o env) = eval o env := by intro _; rfl) (hline : (ap.endLine == pos.line) = true := by rfl)
    (he : ∀ env, starEach [e] env = [(false, eval e env)] := by intro _; rfl)
    (hfew : ∀ env, ((backTo pos (starEach [e] env)).all (fun x => !x.1) && (backToKw pos (keywordEach [] env)).all (fun x => x.1.isSome)
      && decide ([e].length + ([] : List Keyword).length + (if ([] : List Keyword).isEmpty then 0 else 1) < 30)) = true := by intro _; rfl) : EvE (cf w) σ n Γ m (.Call (.Attribute o (Str.ofString "find") ap) [e] [] pos) (.int (findL 46 l 0)) := by
  rw [← find_tx, ← dot_tx]
  exact EvE.meth a (EvEs.cons b EvEs.nil (he := he)) (mt_str F.slot_str_find F.type_str_find) me_find hbase hline he (by intro _; rfl) hfew
theorem reach_spec {l : List Nat} {b : Bool} (hb : Hit (tx l) b) (hl : l.length < 1000) : FunSpec (cf w) 64 2 [.str (tx l)] (.str (tx (reachL l b))) := by
  refine FunSpec.of_body (ps := ["h"]) (by rfl) rfl (by kernel_rfl) rfl (fun vs h => ?_) rfl rfl rfl (by decide +kernel) (by decide +kernel) (by decide +kernel) rfl rfl rfl rfl ?_
  · obtain ⟨_, rfl⟩ := lst1 h; rfl
  · dsimp only
    refine Exs.cons (Ex.set (EvE.findDot (by k_places) (by k_places)) (by decide +kernel)) ?_
    unfold reachL
    by_cases h1 : 0 ≤ findL 46 l 0
    · rw [if_pos h1]
      have hlt := findL_lt 46 l 0 h1
      obtain ⟨i, hi⟩ : ∃ i : Nat, findL 46 l 0 = (i : Int) := ⟨(findL 46 l 0).toNat, by lia⟩
      rw [hi] at hlt ⊢
      rw [Int.toNat_natCast] at hlt ⊢
      generalize ht : l.drop (i + 1) = t
      have lt : t.length < 1000 := by rw [← ht]; simp; lia
      have tst : ∀ (b' : Bool), (decide (0 ≤ (i : Int))) = true := fun _ => by simp
      have sl : Txt.slice (tx l) (some ((i : Int) + 1)) none = tx t := by
        have := slice_from l (i + 1) (by lia)
        rw [ht] at this
        push_cast at this
        exact this
      by_cases h2 : (hdnL l b && (reachT t && true)) = true
      · rw [if_pos h2]
        refine Exs.ret (Ex.ite (b := true) (EvT.as (EvT.cmp (by k_places) (by k_places) cmp_int_ge) (by simp)) (fun _ => ?_) (fun q => by cases q))
        refine Exs.cons (Ex.set (EvE.as (EvE.slice (lo := some ((i : Int) + 1)) (by k_places) (PartOk.some (by k_places)) PartOk.none (sli_str (by rw [tx_len]; simp [sizeLine]; lia))) (by rw [sl])) (by decide +kernel)) ?_
        refine Exs.cons (Ex.set (EvE.findDot (by k_places) (by k_places)) (by decide +kernel)) ?_
        refine Exs.ret (Ex.ite (b := true) (EvT.as (EvT.boolop (AllT.and (EvT.value (EvE.calld t_is_HDN (by k_places) (hdn_spec hb hl)) tru_bool) fun _ => AllT.and (EvT.boolop (AllT.or (EvT.cmp (by k_places) (by k_places) cmp_int_ge) fun _ => AllT.or (EvT.cmp (by k_places) (by k_places) cmp_str_eq) fun _ => AllT.or_nil)) fun _ => AllT.and_nil)) ?_) (fun _ => ?_) (fun q => by cases q))
        · rw [local_tx, tx_beq]; exact h2
        · exact Exs.ret (Ex.ret (EvE.as (EvE.bin (by k_places) (by k_places) (bin_str (by rw [dot_tx, tx_len, tx_len]; simp [sizeLine]; lia))) (by rw [dot_tx, tx_app]; rfl)))
      · rw [if_neg h2]
        have h2' := Bool.eq_false_iff.mpr h2
        refine Exs.cons (Γ' := args ["h"] [.str (tx l)]) (Ex.ite (b := true) (EvT.as (EvT.cmp (by k_places) (by k_places) cmp_int_ge) (by simp)) (fun _ => ?_) (fun q => by cases q)) (Exs.ret (Ex.ret (by k_places)))
        refine Exs.weaken (Exs.cons (Ex.set (EvE.as (EvE.slice (lo := some ((i : Int) + 1)) (by k_places) (PartOk.some (by k_places)) PartOk.none (sli_str (by rw [tx_len]; simp [sizeLine]; lia))) (by rw [sl])) (by decide +kernel)) (Exs.cons (Ex.set (EvE.findDot (by k_places) (by k_places)) (by decide +kernel))
          (Exs.cons (Ex.ite (b := false) (EvT.as (EvT.boolop (AllT.and (EvT.value (EvE.calld t_is_HDN (by k_places) (hdn_spec hb hl)) tru_bool) fun _ => AllT.and (EvT.boolop (AllT.or (EvT.cmp (by k_places) (by k_places) cmp_int_ge) fun _ => AllT.or (EvT.cmp (by k_places) (by k_places) cmp_str_eq) fun _ => AllT.or_nil)) fun _ => AllT.and_nil)) ?_) (fun q => by cases q) (fun _ => Exs.nil)) Exs.nil))) ?_
        · rw [local_tx, tx_beq]; exact h2'
        · intro x sl' e
          unfold args at e
          split at e
          · rename_i q; subst q; cases e
            l_intsC
          · simp [args] at e
    · rw [if_neg h1]
      exact Exs.cons (Ex.ite (b := false) (EvT.as (EvT.cmp (by k_places) (by k_places) cmp_int_ge) (by simpa using h1)) (fun q => by cases q) (fun _ => Exs.nil)) (Exs.ret (Ex.ret (by k_places)))
end
-- E10
section
variable {w : World}
theorem Whiles.sub' {c : Cf} {σ : List (Str × NameKind)} {n : Nat} {Γ Γ₁ Γ' : Vars} {test : Expr} {body : List Stmt} (hs : ∀ x sl, Γ' x = some sl → Γ₁ x = some sl) (a : Whiles c σ n Γ test body (.next Γ₁)) : Whiles c σ n Γ test body (.next Γ') :=
  fun env U V A s E R I => codeAny_mono (a env U V A s E R I) fun r s' y => by
    obtain ⟨f, e, l⟩ := y
    exact ⟨f, e, l.weaken hs⟩
noncomputable def reachF (l : List Nat) : List Nat := reachL l false
noncomputable def dotLocal : List Nat := 46 :: localL
theorem dotlocal_tx : (Str.ofString ".local") = tx dotLocal := by decide +kernel
noncomputable def goL (r l : List Nat) : Bool := !(r == dotLocal) && ((r.take 1 == [46]) && (decide (r.length ≤ l.length) && true))
noncomputable def homeL : Nat → List Nat → Option (List Nat)
  | 0, _ => none
  | n + 1, l => if (reachF l).length = 0 then none else if goL (reachF l) l then homeL n ((reachF l).drop 1) else some l
noncomputable def NoFig (l : List Nat) : Prop := (∀ c ∈ l, Sre.isDigit c = false) ∧ l.length < 900
theorem NoFig.hit {l : List Nat} (h : NoFig l) : Hit (tx l) false := hit_no h.1 (by have := h.2; lia)
theorem reachL_mem {l : List Nat} {b : Bool} {c : Nat} (h : c ∈ reachL l b) : c ∈ l ∨ c = 46 := by
  unfold reachL at h
  split at h
  · split at h
    · rcases List.mem_cons.mp h with q | q
      · exact .inr q
      · exact .inl (List.mem_of_mem_drop q)
    · exact .inl h
  · exact .inl h
theorem reachL_len (l : List Nat) (b : Bool) : (reachL l b).length ≤ l.length := by
  unfold reachL
  split
  · rename_i h
    have := findL_lt 46 l 0 h
    split
    · simp; lia
    · exact Nat.le_refl _
  · exact Nat.le_refl _
theorem NoFig.reach {l : List Nat} (h : NoFig l) : NoFig (reachF l) := ⟨fun c hc => by
  rcases reachL_mem hc with q | rfl
  · exact h.1 c q
  · rfl, by have := reachL_len l false; have := h.2; unfold reachF; lia⟩
theorem NoFig.drop {l : List Nat} (h : NoFig l) (k : Nat) : NoFig (l.drop k) := ⟨fun c hc => h.1 c (List.mem_of_mem_drop hc), by have := h.2; simp; lia⟩
theorem home_spec {k : Nat} {l z : List Nat} (hk : homeL k l = some z) (hl : NoFig l) : FunSpec (cf w) 157 3 [.str (tx l)] (.str (tx z)) := by
  refine FunSpec.of_body (ps := ["name"]) (by rfl) rfl (by kernel_rfl) rfl (fun vs h => ?_) rfl rfl rfl (by decide +kernel) (by decide +kernel) (by decide +kernel) rfl rfl rfl rfl ?_
  · obtain ⟨_, rfl⟩ := lst1 h; rfl
  · dsimp only
    refine Exs.cons (Ex.set (EvE.calld t_reach (by k_places) (reach_spec hl.hit (by have := hl.2; lia))) (by decide +kernel)) ?_
    refine Exs.cons (Ex.while (out := .next (vr [("name", .fz (.str (tx z)))])) ?_) (Exs.ret (Ex.ret (by k_places)))
    refine Whiles.sub (Γ₁ := vr [("name", .fz (.str (tx l))), ("rung", .fz (.str (tx (reachL l false))))]) (by k_subL) ?_
    induction k generalizing l with
    | zero => cases hk
    | succ k ih =>
      unfold homeL at hk
      split at hk
      · cases hk
      · rename_i h0
        have hr := hl.reach
        have hlr := hr.2
        have hll := hl.2
        have er : reachL l false = reachF l := rfl
        rw [er]
        have tst : ∀ b, goL (reachF l) l = b → (bne (tx (reachF l)) (Str.ofString ".local") && ((Txt.slice (tx (reachF l)) none (some 1) == Str.ofString ".") && (decide (((tx (reachF l)).length : Int) ≤ ((tx l).length : Int)) && true))) = b := fun b hb => by
          have e1 := slice_upto (reachF l) 1 (by lia)
          have e1' : Txt.slice (tx (reachF l)) none (some 1) = tx ((reachF l).take 1) := e1
          rw [e1', dotlocal_tx, dot_tx, tx_beq, tx_len, tx_len, ← hb]
          unfold goL
          have : bne (tx (reachF l)) (tx dotLocal) = !(reachF l == dotLocal) := by simp only [bne, tx_beq]
          rw [this]
          simp
        split at hk
        · rename_i hgo
          have ee : Txt.slice (tx (reachF l)) (some 1) none = tx ((reachF l).drop 1) := slice_from (reachF l) 1 (by lia)
          refine Whiles.go (Γ₁ := upd (upd (vr [("name", .fz (.str (tx l))), ("rung", .fz (.str (tx (reachF l))))]) "name" (.fz (.str (tx ((reachF l).drop 1))))) "rung" (.fz (.str (tx (reachL ((reachF l).drop 1) false))))) (EvT.as (EvT.boolop (AllT.and (EvT.cmp (by k_places) (by k_places) cmp_str_ne) fun _ => AllT.and (EvT.cmp (EvE.slice (by k_places) PartOk.none (PartOk.some (by k_places)) (sli_str (by rw [tx_len]; simp [sizeLine]; lia))) (by k_places) cmp_str_eq) fun _ =>
            AllT.and (EvT.cmp (EvE.callB b_len (by k_places) (call_lens (by rw [tx_len]; lia))) (EvE.callB b_len (by k_places) (call_lens (by rw [tx_len]; lia))) cmp_int_le) fun _ => AllT.and_nil)) (tst true hgo)) ?_ (Whiles.sub (Γ₁ := vr [("name", .fz (.str (tx ((reachF l).drop 1)))), ("rung", .fz (.str (tx (reachL ((reachF l).drop 1) false))))]) ?_ (ih hk (hr.drop 1)))
          · have hd := hr.drop 1
            refine Exs.cons (Ex.set (EvE.as (EvE.slice (by k_places) (PartOk.some (by k_places)) PartOk.none (sli_str (by rw [tx_len]; simp [sizeLine]; lia))) (by rw [ee])) (by decide +kernel)) (Exs.cons (Ex.set (EvE.calld t_reach (by k_places) (reach_spec hd.hit (by have := hd.2; lia))) (by decide +kernel)) Exs.nil)
          · k_subL
        · rename_i hgo
          cases hk
          refine Whiles.sub' ?_ (Whiles.stop (EvT.as (EvT.boolop (AllT.and (EvT.cmp (by k_places) (by k_places) cmp_str_ne) fun _ => AllT.and (EvT.cmp (EvE.slice (by k_places) PartOk.none (PartOk.some (by k_places)) (sli_str (by rw [tx_len]; simp [sizeLine]; lia))) (by k_places) cmp_str_eq) fun _ =>
            AllT.and (EvT.cmp (EvE.callB b_len (by k_places) (call_lens (by rw [tx_len]; lia))) (EvE.callB b_len (by k_places) (call_lens (by rw [tx_len]; lia))) cmp_int_le) fun _ => AllT.and_nil)) (tst false (Bool.eq_false_iff.mpr hgo))))
          k_subL
end
-- E11
section
variable {w : World}
noncomputable def LowN (l : List Nat) : Prop := (∀ c ∈ l, c = 46 ∨ (97 ≤ c ∧ c ≤ 122)) ∧ l.length < 400 ∧ 5 ≤ l.length
theorem low_ok {c : Nat} (h : c = 46 ∨ (97 ≤ c ∧ c ≤ 122)) : okC c = true := by unfold okC; simp; lia
theorem low_fig {c : Nat} (h : c = 46 ∨ (97 ≤ c ∧ c ≤ 122)) : Sre.isDigit c = false := by unfold Sre.isDigit; simp; lia
theorem low_lo {c : Nat} (h : c = 46 ∨ (97 ≤ c ∧ c ≤ 122)) : loC c = c := by unfold loC; rw [if_neg (by lia)]
theorem low_up {c : Nat} (h : c = 46 ∨ (97 ≤ c ∧ c ≤ 122)) : loC (upC c) = c := by
  unfold loC upC
  rcases h with rfl | h
  · rfl
  · rw [if_pos h, if_pos (by lia)]; lia
theorem up_ok {c : Nat} (h : c = 46 ∨ (97 ≤ c ∧ c ≤ 122)) : okC (upC c) = true := by
  unfold upC okC
  split <;> (simp; lia)
theorem LowN.ok {l : List Nat} (h : LowN l) : ∀ c ∈ l, okC c = true := fun c hc => low_ok (h.1 c hc)
theorem LowN.nofig {l : List Nat} (h : LowN l) : NoFig l := ⟨fun c hc => low_fig (h.1 c hc), by have := h.2.1; lia⟩
theorem LowN.lo {l : List Nat} (h : LowN l) : l.map loC = l := by
  have : ∀ m : List Nat, (∀ c ∈ m, c = 46 ∨ (97 ≤ c ∧ c ≤ 122)) → m.map loC = m := by
    intro m hm
    induction m with
    | nil => rfl
    | cons c m ih => rw [List.map_cons, low_lo (hm c List.mem_cons_self), ih fun d hd => hm d (List.mem_cons_of_mem _ hd)]
  exact this l h.1
theorem map_loup {m : List Nat} (hm : ∀ c ∈ m, c = 46 ∨ (97 ≤ c ∧ c ≤ 122)) : (m.map upC).map loC = m := by
  induction m with
  | nil => rfl
  | cons c m ih => rw [List.map_cons, List.map_cons, low_up (hm c List.mem_cons_self), ih fun d hd => hm d (List.mem_cons_of_mem _ hd)]
theorem map_lo {m : List Nat} (hm : ∀ c ∈ m, c = 46 ∨ (97 ≤ c ∧ c ≤ 122)) : m.map loC = m := by
  induction m with
  | nil => rfl
  | cons c m ih => rw [List.map_cons, low_lo (hm c List.mem_cons_self), ih fun d hd => hm d (List.mem_cons_of_mem _ hd)]
noncomputable def inL (name block : List Nat) : Bool := endL (120 :: 46 :: name) (46 :: block)
noncomputable abbrev dTxs (xs : List (List Nat)) : D := .list (xs.map fun l => D.str (tx l))
theorem xdot_tx : (Str.ofString "X.") = tx [88, 46] := by decide +kernel
theorem udm_in (name block : List Nat) : udmL (120 :: 46 :: name) (46 :: block) false false = inL name block := by
  unfold udmL inL
  have : begL (46 :: block) [46] = true := by simp [begL]
  rw [this]
  cases endL (120 :: 46 :: name) (46 :: block) <;> rfl
theorem found_spec {names : List (List Nat)} {block : List Nat} (hn : ∀ l ∈ names, LowN l) (hb : LowN block) (hlen : names.length ≤ 100) : FunSpec (cf w) 162 3 [dTxs names, .str (tx block)] (.list (names.map fun l => D.bool (inL l block))) := by
  refine FunSpec.of_body (ps := ["names", "block"]) (by rfl) rfl (by kernel_rfl) rfl (fun vs h => ?_) rfl rfl rfl (by decide +kernel) (by decide +kernel) (by decide +kernel) rfl rfl rfl rfl ?_
  · obtain ⟨_, _, rfl⟩ := lst2 h; rfl
  · dsimp only
    have hb2 := hb.2.1
    have hb3 := hb.2.2
    have h1 : ∀ c ∈ block.take 1, okC c = true := fun c hc => hb.ok c (List.mem_of_mem_take hc)
    have s1 : Txt.slice (tx block) none (some 1) = tx (block.take 1) := slice_upto block 1 (by lia)
    have s2 : Txt.slice (tx block) (some 1) none = tx (block.drop 1) := slice_from block 1 (by lia)
    generalize hD : 46 :: (block.take 1).map upC ++ block.drop 1 = Dm
    have hDl : Dm.map loC = 46 :: block := by
      rw [← hD]
      simp only [List.cons_append, List.map_cons, List.map_append]
      rw [map_loup fun c hc => hb.1 c (List.mem_of_mem_take hc), map_lo fun c hc => hb.1 c (List.mem_of_mem_drop hc), List.take_append_drop]
      rfl
    have hDo : ∀ c ∈ Dm, okC c = true := by
      rw [← hD]
      intro c hc
      simp only [List.cons_append, List.mem_cons, List.mem_append] at hc
      rcases hc with rfl | hc | hc
      · rfl
      · obtain ⟨d, hd, rfl⟩ := List.mem_map.mp hc
        exact up_ok (hb.1 d (List.mem_of_mem_take hd))
      · exact hb.ok c (List.mem_of_mem_drop hc)
    have hDn : Dm.length < 1000 := by rw [← hD]; simp; lia
    have hDf : NoFig (46 :: block) := ⟨fun c hc => by
      rcases List.mem_cons.mp hc with rfl | hc
      · rfl
      · exact hb.nofig.1 c hc, by simp; lia⟩
    refine Exs.cons (Ex.set (d := .str (tx Dm)) (EvE.as (EvE.bin (EvE.bin (by k_places) (EvE.upperL (EvE.as (EvE.slice (by k_places) PartOk.none (PartOk.some (by k_places)) (sli_str (by rw [tx_len]; simp [sizeLine]; lia))) (by rw [s1])) h1 (by simp; lia)) (bin_str (by rw [dot_tx, tx_len, tx_len]; simp [sizeLine]; lia)))
      (EvE.as (EvE.slice (by k_places) (PartOk.some (by k_places)) PartOk.none (sli_str (by rw [tx_len]; simp [sizeLine]; lia))) (by rw [s2])) (bin_str (by rw [dot_tx, tx_app, tx_len, tx_len]; simp [sizeLine]; lia))) (by rw [dot_tx, tx_app, tx_app, ← hD]; rfl)) (by decide +kernel)) ?_
    refine Exs.ret (Ex.ret ?_)
    refine EvE.compA (Comp.allA (fun l => D.str (tx l)) (fun l => D.bool (inL l block)) names takes_ol (EvIt.list (by k_places)) (by simp only [sizeLine]; lia) fun l hl => ?_)
    have hn' := hn l hl
    have hn2 := hn'.2.1
    have hAl : ([88, 46] ++ l.map upC).map loC = 120 :: 46 :: l := by
      simp only [List.map_append, List.map_cons, List.map_nil]
      rw [map_loup hn'.1]; rfl
    have key := udm_spec (w := w) (A := [88, 46] ++ l.map upC) (B := Dm) (ba := false) (bb := false) (fun c hc => by
      rcases List.mem_append.mp hc with hc | hc
      · simp at hc; rcases hc with rfl | rfl <;> rfl
      · obtain ⟨d, hd, rfl⟩ := List.mem_map.mp hc; exact up_ok (hn'.1 d hd)) hDo (by simp; lia) hDn (by
      rw [hAl]
      refine NoFig.hit ⟨fun c hc => ?_, by simp; lia⟩
      rcases List.mem_cons.mp hc with rfl | hc
      · rfl
      · rcases List.mem_cons.mp hc with rfl | hc
        · rfl
        · exact hn'.nofig.1 c hc) (by rw [hDl]; exact hDf.hit)
    rw [hAl, hDl, udm_in] at key
    exact EvE.calld t_udm (EvEs.cons (EvE.as (EvE.bin (by k_places) (EvE.upperL (by k_places) hn'.ok (by lia)) (bin_str (by rw [xdot_tx, tx_len, tx_len]; simp [sizeLine]; lia))) (by rw [xdot_tx, tx_app])) (EvEs.cons (by k_places) EvEs.nil)) key
end
-- E12
section
variable {w : World}
/-- one question to user_domain_match: two texts, what is expected, and whether the pattern is found in them -/
structure Ask where
  A : List Nat
  B : List Nat
  r : Bool
  ba : Bool
  bb : Bool
structure Ask.Ok (a : Ask) : Prop where
  oa : ∀ c ∈ a.A, okC c = true
  ob : ∀ c ∈ a.B, okC c = true
  la : a.A.length < 1000
  lb : a.B.length < 1000
  ha : Hit (tx (a.A.map loC)) a.ba
  hb : Hit (tx (a.B.map loC)) a.bb
  ans : udmL (a.A.map loC) (a.B.map loC) a.ba a.bb = a.r
noncomputable abbrev Ask.d (a : Ask) : D := .tup [.str (tx a.A), .str (tx a.B), .bool a.r]
noncomputable def aloneAsks1 (l : List Nat) : List Ask := [⟨l.map upC, l, true, false, false⟩, ⟨l.map upC, [46] ++ l, false, false, false⟩, ⟨[88, 46] ++ l, l, false, false, false⟩, ⟨[88, 46] ++ l ++ [46, 120], [46] ++ l, false, false, false⟩]
noncomputable def aloneAsks2 (l : List Nat) : List Ask := [⟨l ++ [46, 55], l.map upC ++ [46, 55], true, true, true⟩, ⟨[88, 46] ++ l ++ [46, 55], [46] ++ l ++ [46, 55], false, true, true⟩]
noncomputable def comL : List Nat := [99, 111, 109]
theorem com_tx : (Str.ofString "com") = tx comL := by decide +kernel
theorem seven_tx : (Str.ofString ".7") = tx [46, 55] := by decide +kernel
theorem dotx_tx : (Str.ofString ".x") = tx [46, 120] := by decide +kernel
noncomputable def aloneTexts (l : List Nat) : List (List Nat × Bool) := [(l ++ [46], false), (l.take (l.length - 5) ++ comL, false), (l ++ [46, 55], true), (localL, false)]
structure AloneOk (l : List Nat) : Prop where
  low : LowN l
  texts : ∀ t ∈ aloneTexts l, reachL t.1 t.2 = t.1
  asks : ∀ a ∈ aloneAsks1 l ++ aloneAsks2 l, udmL (a.A.map loC) (a.B.map loC) a.ba a.bb = a.r
theorem fig_app {a b : List Nat} (ha : ∀ c ∈ a, Sre.isDigit c = false) (hb : ∀ c ∈ b, Sre.isDigit c = false) : ∀ c ∈ a ++ b, Sre.isDigit c = false := fun c hc => (List.mem_append.mp hc).elim (ha c) (hb c)
theorem ok_app {a b : List Nat} (ha : ∀ c ∈ a, okC c = true) (hb : ∀ c ∈ b, okC c = true) : ∀ c ∈ a ++ b, okC c = true := fun c hc => (List.mem_append.mp hc).elim (ha c) (hb c)
theorem okL (m : List Nat) (h : m.all okC = true) : ∀ c ∈ m, okC c = true := fun c hc => List.all_eq_true.mp h c hc
theorem figL (m : List Nat) (h : m.all (fun c => !Sre.isDigit c) = true) : ∀ c ∈ m, Sre.isDigit c = false := fun c hc => by simpa using List.all_eq_true.mp h c hc
theorem AloneOk.textHit {l : List Nat} (h : AloneOk l) : ∀ t ∈ aloneTexts l, Hit (tx t.1) t.2 ∧ t.1.length < 1000 := by
  have hn := h.low.nofig.1
  have h2 := h.low.2.1
  have h3 := h.low.2.2
  intro t ht
  simp only [aloneTexts, List.mem_cons, List.not_mem_nil, or_false] at ht
  rcases ht with rfl | rfl | rfl | rfl
  · exact ⟨hit_no (fig_app hn (figL [46] rfl)) (by simp; lia), by simp; lia⟩
  · exact ⟨hit_no (fig_app (fun c hc => hn c (List.mem_of_mem_take hc)) (figL comL rfl)) (by simp [comL]; lia), by simp [comL]; lia⟩
  · exact ⟨hit_seven hn (by lia) (by lia), by simp; lia⟩
  · exact ⟨hit_no (figL localL rfl) (by decide), by decide⟩
theorem AloneOk.askOk {l : List Nat} (h : AloneOk l) : ∀ a ∈ aloneAsks1 l ++ aloneAsks2 l, a.Ok := by
  have hn := h.low.nofig.1
  have hk := h.low.ok
  have h2 := h.low.2.1
  have h3 := h.low.2.2
  have hu : ∀ c ∈ l.map upC, okC c = true := fun c hc => by obtain ⟨d, hd, rfl⟩ := List.mem_map.mp hc; exact up_ok (h.low.1 d hd)
  have elo := h.low.lo
  have eup := map_loup h.low.1
  have no : ∀ m : List Nat, (∀ c ∈ m, Sre.isDigit c = false) → m.length < 900 → Hit (tx m) false := fun m q q' => hit_no q (by lia)
  intro a ha
  have hans := h.asks a ha
  simp only [aloneAsks1, aloneAsks2, List.mem_cons, List.mem_append, List.not_mem_nil, or_false] at ha
  have x1 : ([88, 46] : List Nat).map loC = [120, 46] := rfl
  have x2 : ([46, 120] : List Nat).map loC = [46, 120] := rfl
  have x3 : ([46] : List Nat).map loC = [46] := rfl
  have x4 : ([46, 55] : List Nat).map loC = [46, 55] := rfl
  rcases ha with (rfl | rfl | rfl | rfl) | (rfl | rfl)
  · exact ⟨hu, hk, by simp; lia, by dsimp only; lia, by dsimp only; rw [eup]; exact h.low.nofig.hit, by dsimp only; rw [elo]; exact h.low.nofig.hit, hans⟩
  · exact ⟨hu, ok_app (okL [46] rfl) hk, by simp; lia, by simp; lia, by dsimp only; rw [eup]; exact h.low.nofig.hit, by dsimp only; rw [List.map_append, elo, x3]; exact no _ (fig_app (figL [46] rfl) hn) (by simp; lia), hans⟩
  · exact ⟨ok_app (okL [88, 46] rfl) hk, hk, by simp; lia, by dsimp only; lia, by dsimp only; rw [List.map_append, elo, x1]; exact no _ (fig_app (figL [120, 46] rfl) hn) (by simp; lia), by dsimp only; rw [elo]; exact h.low.nofig.hit, hans⟩
  · exact ⟨ok_app (ok_app (okL [88, 46] rfl) hk) (okL [46, 120] rfl), ok_app (okL [46] rfl) hk, by simp; lia, by simp; lia, by dsimp only; rw [List.map_append, List.map_append, elo, x1, x2]; exact no _ (fig_app (fig_app (figL [120, 46] rfl) hn) (figL [46, 120] rfl)) (by simp; lia),
      by dsimp only; rw [List.map_append, elo, x3]; exact no _ (fig_app (figL [46] rfl) hn) (by simp; lia), hans⟩
  · exact ⟨ok_app hk (okL [46, 55] rfl), ok_app hu (okL [46, 55] rfl), by simp; lia, by simp; lia, by dsimp only; rw [List.map_append, elo, x4]; exact hit_seven hn (by lia) (by lia), by dsimp only; rw [List.map_append, eup, x4]; exact hit_seven hn (by lia) (by lia), hans⟩
  · exact ⟨ok_app (ok_app (okL [88, 46] rfl) hk) (okL [46, 55] rfl), ok_app (ok_app (okL [46] rfl) hk) (okL [46, 55] rfl), by simp; lia, by simp; lia, by dsimp only; rw [List.map_append, List.map_append, elo, x1, x4]; exact hit_seven (fig_app (figL [120, 46] rfl) hn) (by simp; lia) (by simp),
      by dsimp only; rw [List.map_append, List.map_append, elo, x3, x4]; exact hit_seven (fig_app (figL [46] rfl) hn) (by simp; lia) (by simp), hans⟩
theorem bin_tx {c : Cf} {a b : List Nat} (h : a.length + b.length < 3000) : BinV c .Add (.str (tx a)) (.str (tx b)) (.str (tx (a ++ b))) := by
  rw [← tx_app]; exact bin_str (by rw [tx_len, tx_len]; simp [sizeLine]; lia)
theorem EvE.strL {σ : List (Str × NameKind)} {n : Nat} {Γ : Vars} {m : Bool} {x : Str} {l : List Nat} {k : Nat} {pos : Pos} (h : x = tx l) : EvE (cf w) σ n Γ m (.Constant (.str x) k pos) (.str (tx l)) := h ▸ EvE.str
theorem alone_spec {l : List Nat} (h : AloneOk l) : FunSpec (cf w) 167 3 [.str (tx l)] (.bool true) := by
  refine FunSpec.of_body (ps := ["block"]) (by rfl) rfl (by kernel_rfl) rfl (fun vs h => ?_) rfl rfl rfl (by decide +kernel) (by decide +kernel) (by decide +kernel) rfl rfl rfl rfl ?_
  · obtain ⟨_, rfl⟩ := lst1 h; rfl
  · dsimp only
    have h2 := h.low.2.1
    have h3 := h.low.2.2
    have hk := h.low.ok
    have s5 : Txt.slice (tx l) none (some (-5)) = tx (l.take (l.length - 5)) := slice_but l 5 (by lia) (by lia)
    refine Exs.cons (Ex.set (d := .list ((aloneTexts l).map fun t => D.str (tx t.1))) (EvE.list (EvEs.cons (EvE.bin (by k_places) (EvE.strL dot_tx) (bin_tx (by simp; lia)))
      (EvEs.cons (EvE.bin (EvE.as (EvE.slice (by k_places) PartOk.none (PartOk.some (EvE.un (by k_places) un_neg)) (sli_str (by rw [tx_len]; simp [sizeLine]; lia))) (by rw [s5])) (EvE.strL com_tx) (bin_tx (by simp [comL]; lia)))
      (EvEs.cons (EvE.bin (by k_places) (EvE.strL seven_tx) (bin_tx (by simp; lia))) (EvEs.cons (EvE.strL local_tx) EvEs.nil)))) (by simp [aloneTexts, sizeLine])) (by decide +kernel)) ?_
    have hre : (aloneTexts l).map (fun t => D.str (tx (reachL t.1 t.2))) = (aloneTexts l).map fun t => D.str (tx t.1) := List.map_congr_left fun t ht => by rw [h.texts t ht]
    have hre2 : ((aloneTexts l).map fun t => D.str (tx t.1)) = ((aloneTexts l).map fun t => tx t.1).map D.str := by rw [List.map_map]; rfl
    have hTL : (aloneTexts l).length = 4 := rfl
    refine Exs.cons (Ex.ite (b := false) (EvT.as (EvT.cmp (d₁ := .list (((aloneTexts l).map fun t => tx t.1).map D.str)) (d₂ := .list (((aloneTexts l).map fun t => tx t.1).map D.str))
      (EvE.as (EvE.compA (Comp.allA (fun t => D.str (tx t.1)) (fun t => D.str (tx (reachL t.1 t.2))) (aloneTexts l) takes_ol (EvIt.list (by k_places)) (by rw [hTL]; simp [sizeLine]) fun t ht => ?_)) (by rw [hre, hre2]))
      (EvE.as (by k_places) (by rw [hre2])) cmp_strs_ne) (by simp)) (fun q => by cases q) (fun _ => Exs.nil)) ?_
    · exact EvE.calld t_reach (by k_places) (reach_spec (h.textHit t ht).1 (h.textHit t ht).2)
    · have xd := xdot_tx
      with_reducible refine Exs.cons (Ex.assign (EvO.list (ds := (aloneAsks1 l).map Ask.d) ?_ ?_) ?_ ?_) ?_
      · refine EvEs.cons (EvE.tup (EvEs.cons (EvE.upperL (by k_places) hk (by lia)) (EvEs.cons (by k_places) (EvEs.cons (by k_places) EvEs.nil)))) (EvEs.cons (EvE.tup (EvEs.cons (EvE.upperL (by k_places) hk (by lia)) (EvEs.cons (EvE.bin (EvE.strL dot_tx) (by k_places) (bin_tx (by simp; lia))) (EvEs.cons (by k_places) EvEs.nil))))
          (EvEs.cons (EvE.tup (EvEs.cons (EvE.bin (EvE.strL xdot_tx) (by k_places) (bin_tx (by simp; lia))) (EvEs.cons (by k_places) (EvEs.cons (by k_places) EvEs.nil))))
          (EvEs.cons (EvE.tup (EvEs.cons (EvE.bin (EvE.bin (EvE.strL xdot_tx) (by k_places) (bin_tx (by simp; lia))) (EvE.strL dotx_tx) (bin_tx (by simp; lia))) (EvEs.cons (EvE.bin (EvE.strL dot_tx) (by k_places) (bin_tx (by simp; lia))) (EvEs.cons (by k_places) EvEs.nil)))) EvEs.nil)))
      · simp [aloneAsks1, sizeLine]
      · decide +kernel
      · intro _ _ _; rfl
      refine Exs.cons (Ex.auglist (es := (aloneAsks2 l).map Ask.d) (by l_intsC) (by decide +kernel) ?_ (by simp [aloneAsks1, aloneAsks2, sizeLine])) ?_
      · exact EvE.list (EvEs.cons (EvE.tup (EvEs.cons (EvE.bin (by k_places) (EvE.strL seven_tx) (bin_tx (by simp; lia))) (EvEs.cons (EvE.bin (EvE.upperL (by k_places) hk (by lia)) (EvE.strL seven_tx) (bin_tx (by simp; lia))) (EvEs.cons (by k_places) EvEs.nil))))
          (EvEs.cons (EvE.tup (EvEs.cons (EvE.bin (EvE.bin (EvE.strL xdot_tx) (by k_places) (bin_tx (by simp; lia))) (EvE.strL seven_tx) (bin_tx (by simp; lia))) (EvEs.cons (EvE.bin (EvE.bin (EvE.strL dot_tx) (by k_places) (bin_tx (by simp; lia))) (EvE.strL seven_tx) (bin_tx (by simp; lia))) (EvEs.cons (by k_places) EvEs.nil)))) EvEs.nil)) (by simp [aloneAsks2, sizeLine])
      refine Exs.freeze (x := "pairs") (by l_intsC) frz_ol ?_
      have hpp : (aloneAsks1 l).map Ask.d ++ (aloneAsks2 l).map Ask.d = (aloneAsks1 l ++ aloneAsks2 l).map Ask.d := by rw [List.map_append]
      rw [hpp]
      have hok := h.askOk
      have hL6 : (aloneAsks1 l ++ aloneAsks2 l).length = 6 := rfl
      generalize aloneAsks1 l ++ aloneAsks2 l = L at hok hL6 ⊢
      refine Exs.ret (Ex.ret (EvE.as (EvE.cmp (d₁ := .list (([] : List Str).map D.str)) (d₂ := .list (([] : List Str).map D.str)) (EvE.as (EvE.compA (Comp.filA Ask.d (fun _ => false) Ask.d L takes_ol (EvIt.list (by k_places)) (by rw [hL6]; simp [sizeLine]) (fun a ha => ?_) (fun a ha q => by cases q))) (by simp))
        (EvE.as (EvE.list EvEs.nil) rfl) cmp_strs_eq) (by simp)))
      have ok := hok a ha
      have key := udm_spec (w := w) ok.oa ok.ob ok.la ok.lb ok.ha ok.hb
      rw [ok.ans] at key
      refine EvT.as (EvT.cmp (EvE.calld t_udm (EvEs.cons (EvE.sub' (d₂ := .int ((0 : Nat) : Int)) (by k_places) (EvE.as (d := .int 0) (by k_places) rfl) (sub_tup (by lia) rfl)) (EvEs.cons (EvE.sub' (d₂ := .int ((1 : Nat) : Int)) (by k_places) (EvE.as (d := .int 1) (by k_places) rfl) (sub_tup (by lia) rfl)) EvEs.nil)) key) (EvE.sub' (d₂ := .int ((2 : Nat) : Int)) (by k_places) (EvE.as (d := .int 2) (by k_places) rfl) (sub_tup (by lia) rfl)) cmp_isnot) (by simp)
end
-- E13
section
variable {w : World}
-- the class TupleComp
theorem rep_handed' {c : Cf} (v : Value) (d : D) (e : handedIn v = false) (h : Heap) (P : Addr → Prop) : ¬ c.Rep h P v d := fun r => by cases r <;> cases e
theorem cls_spec {d : D} : FunSpec (cf w) 88 2 [d] (.inst 88 d) := by
  refine FunSpec.cls (fI := 78) (by kernel_rfl) (by kernel_rfl) (by kernel_rfl) (by kernel_rfl) (by kernel_rfl) (by kernel_rfl) (by kernel_rfl) (by rfl) rfl (by kernel_rfl) rfl (fun a b => rfl) rfl (by decide +kernel) rfl rfl rfl
structure Row where
  n : Int
  b : Int
  x : Str
noncomputable abbrev dRow (r : Row) : D := .tup [.int r.n, .int r.b, .str r.x]
noncomputable abbrev dKeys (way : Int) : D := .inst 88 (.list [.tup [.int 1, .int (-1)], .tup [.int 2, .int way]])
noncomputable def rowCmp (way : Int) (r q : Row) : Int := if r.b < q.b then 1 else if q.b < r.b then -1 else if ltS r.x q.x = true then -way else if gtS r.x q.x = true then way else 0
theorem compare_spec {way : Int} {r q : Row} : FunSpec (cf w) 85 1 [dKeys way, dRow r, dRow q] (.int (rowCmp way r q)) := by
  refine FunSpec.of_body (ps := ["self", "left", "right"]) (by rfl) rfl (by kernel_rfl) rfl (fun vs h => ?_) rfl rfl rfl (by decide +kernel) (by decide +kernel) (by decide +kernel) rfl rfl rfl rfl ?_
  · obtain ⟨_, _, _, rfl⟩ := lst3 h; rfl
  · dsimp only
    have i1 : ∀ {Γ : Vars} {σ : List (Str × NameKind)} {m : Bool} {e e2 : Expr} {r : Row} {pos : Pos}, EvE (cf w) σ 0 Γ m e (dRow r) → EvE (cf w) σ 0 Γ m e2 (.int 1) → (∀ o i, subscripted e2 false o i = operate [o, i] (getItem o i)) → EvE (cf w) σ 0 Γ m (.Subscript e e2 pos) (.int r.b) :=
      fun a b hs => EvE.sub' (d₂ := .int ((1 : Nat) : Int)) a (EvE.as b rfl) (sub_tup (by lia) rfl) hs
    have i2 : ∀ {Γ : Vars} {σ : List (Str × NameKind)} {m : Bool} {e e2 : Expr} {r : Row} {pos : Pos}, EvE (cf w) σ 0 Γ m e (dRow r) → EvE (cf w) σ 0 Γ m e2 (.int 2) → (∀ o i, subscripted e2 false o i = operate [o, i] (getItem o i)) → EvE (cf w) σ 0 Γ m (.Subscript e e2 pos) (.str r.x) :=
      fun a b hs => EvE.sub' (d₂ := .int ((2 : Nat) : Int)) a (EvE.as b rfl) (sub_tup (by lia) rfl) hs
    unfold rowCmp
    by_cases h1 : r.b < q.b
    · rw [if_pos h1]
      refine Exs.ret (Ex.for (t := false) (ds := [.tup [.int 1, .int (-1)], .tup [.int 2, .int way]]) (EvIt.list (EvE.selfattr (by k_places) (by kernel_rfl) (by kernel_rfl) (by kernel_rfl) rep_handed')) ?_)
      refine Fors.ret (Asn.tuple (AsnL.cons (Asn.name (by decide +kernel)) (AsnL.cons (Asn.name (by decide +kernel)) AsnL.nil))) ?_
      refine Exs.cons (Ex.set (i1 (by k_places) (by k_places) (by intro _ _; rfl)) (by decide +kernel)) (Exs.cons (Ex.set (i1 (by k_places) (by k_places) (by intro _ _; rfl)) (by decide +kernel)) ?_)
      exact Exs.ret (Ex.ite (b := true) (EvT.as (EvT.cmp (by k_places) (by k_places) cmp_int_lt) (by simpa using h1)) (fun _ => Exs.ret (Ex.ret (EvE.as (d := .int (-(-1))) (by k_places) rfl))) (fun q => by cases q))
    · rw [if_neg h1]
      by_cases h2 : q.b < r.b
      · rw [if_pos h2]
        refine Exs.ret (Ex.for (t := false) (ds := [.tup [.int 1, .int (-1)], .tup [.int 2, .int way]]) (EvIt.list (EvE.selfattr (by k_places) (by kernel_rfl) (by kernel_rfl) (by kernel_rfl) rep_handed')) ?_)
        refine Fors.ret (Asn.tuple (AsnL.cons (Asn.name (by decide +kernel)) (AsnL.cons (Asn.name (by decide +kernel)) AsnL.nil))) ?_
        refine Exs.cons (Ex.set (i1 (by k_places) (by k_places) (by intro _ _; rfl)) (by decide +kernel)) (Exs.cons (Ex.set (i1 (by k_places) (by k_places) (by intro _ _; rfl)) (by decide +kernel)) ?_)
        refine Exs.cons (Ex.ite (b := false) (EvT.as (EvT.cmp (by k_places) (by k_places) cmp_int_lt) (by simpa using h1)) (fun q => by cases q) (fun _ => Exs.nil)) ?_
        exact Exs.ret (Ex.ite (b := true) (EvT.as (EvT.cmp (by k_places) (by k_places) cmp_int_gt) (by simpa using h2)) (fun _ => Exs.ret (Ex.ret (EvE.as (by k_places) rfl))) (fun q => by cases q))
      · rw [if_neg h2]
        by_cases h3 : ltS r.x q.x = true
        · rw [if_pos h3]
          refine Exs.ret (Ex.for (t := false) (ds := [.tup [.int 1, .int (-1)], .tup [.int 2, .int way]]) (EvIt.list (EvE.selfattr (by k_places) (by kernel_rfl) (by kernel_rfl) (by kernel_rfl) rep_handed')) ?_)
          refine Fors.cons (Asn.tuple (AsnL.cons (Asn.name (by decide +kernel)) (AsnL.cons (Asn.name (by decide +kernel)) AsnL.nil))) (Exs.cons (Ex.set (i1 (by k_places) (by k_places) (by intro _ _; rfl)) (by decide +kernel)) (Exs.cons (Ex.set (i1 (by k_places) (by k_places) (by intro _ _; rfl)) (by decide +kernel))
            (Exs.cons (Ex.ite (b := false) (EvT.as (EvT.cmp (by k_places) (by k_places) cmp_int_lt) (by simpa using h1)) (fun q => by cases q) (fun _ => Exs.nil)) (Exs.cons (Ex.ite (b := false) (EvT.as (EvT.cmp (by k_places) (by k_places) cmp_int_gt) (by simpa using h2)) (fun q => by cases q) (fun _ => Exs.nil)) Exs.nil)))) ?_
          refine Fors.ret (Asn.tuple (AsnL.cons (Asn.name (by decide +kernel)) (AsnL.cons (Asn.name (by decide +kernel)) AsnL.nil))) ?_
          refine Exs.cons (Ex.set (i2 (by k_places) (by k_places) (by intro _ _; rfl)) (by decide +kernel)) (Exs.cons (Ex.set (i2 (by k_places) (by k_places) (by intro _ _; rfl)) (by decide +kernel)) ?_)
          exact Exs.ret (Ex.ite (b := true) (EvT.as (EvT.cmp (by k_places) (by k_places) cmp_str_lt) h3) (fun _ => Exs.ret (Ex.ret (by k_places))) (fun q => by cases q))
        · rw [if_neg h3]
          have h3' := Bool.eq_false_iff.mpr h3
          by_cases h4 : gtS r.x q.x = true
          · rw [if_pos h4]
            refine Exs.ret (Ex.for (t := false) (ds := [.tup [.int 1, .int (-1)], .tup [.int 2, .int way]]) (EvIt.list (EvE.selfattr (by k_places) (by kernel_rfl) (by kernel_rfl) (by kernel_rfl) rep_handed')) ?_)
            refine Fors.cons (Asn.tuple (AsnL.cons (Asn.name (by decide +kernel)) (AsnL.cons (Asn.name (by decide +kernel)) AsnL.nil))) (Exs.cons (Ex.set (i1 (by k_places) (by k_places) (by intro _ _; rfl)) (by decide +kernel)) (Exs.cons (Ex.set (i1 (by k_places) (by k_places) (by intro _ _; rfl)) (by decide +kernel))
              (Exs.cons (Ex.ite (b := false) (EvT.as (EvT.cmp (by k_places) (by k_places) cmp_int_lt) (by simpa using h1)) (fun q => by cases q) (fun _ => Exs.nil)) (Exs.cons (Ex.ite (b := false) (EvT.as (EvT.cmp (by k_places) (by k_places) cmp_int_gt) (by simpa using h2)) (fun q => by cases q) (fun _ => Exs.nil)) Exs.nil)))) ?_
            refine Fors.ret (Asn.tuple (AsnL.cons (Asn.name (by decide +kernel)) (AsnL.cons (Asn.name (by decide +kernel)) AsnL.nil))) ?_
            refine Exs.cons (Ex.set (i2 (by k_places) (by k_places) (by intro _ _; rfl)) (by decide +kernel)) (Exs.cons (Ex.set (i2 (by k_places) (by k_places) (by intro _ _; rfl)) (by decide +kernel)) ?_)
            refine Exs.cons (Ex.ite (b := false) (EvT.as (EvT.cmp (by k_places) (by k_places) cmp_str_lt) h3') (fun q => by cases q) (fun _ => Exs.nil)) ?_
            exact Exs.ret (Ex.ite (b := true) (EvT.as (EvT.cmp (by k_places) (by k_places) cmp_str_gt) h4) (fun _ => Exs.ret (Ex.ret (by k_places))) (fun q => by cases q))
          · rw [if_neg h4]
            have h4' := Bool.eq_false_iff.mpr h4
            refine Exs.cons (Ex.for (t := false) (out := .next (vr [])) (ds := [.tup [.int 1, .int (-1)], .tup [.int 2, .int way]]) (EvIt.list (EvE.selfattr (by k_places) (by kernel_rfl) (by kernel_rfl) (by kernel_rfl) rep_handed')) ?_) (Exs.ret (Ex.ret (by k_places)))
            refine Fors.cons (Asn.tuple (AsnL.cons (Asn.name (by decide +kernel)) (AsnL.cons (Asn.name (by decide +kernel)) AsnL.nil))) (Exs.cons (Ex.set (i1 (by k_places) (by k_places) (by intro _ _; rfl)) (by decide +kernel)) (Exs.cons (Ex.set (i1 (by k_places) (by k_places) (by intro _ _; rfl)) (by decide +kernel))
              (Exs.cons (Ex.ite (b := false) (EvT.as (EvT.cmp (by k_places) (by k_places) cmp_int_lt) (by simpa using h1)) (fun q => by cases q) (fun _ => Exs.nil)) (Exs.cons (Ex.ite (b := false) (EvT.as (EvT.cmp (by k_places) (by k_places) cmp_int_gt) (by simpa using h2)) (fun q => by cases q) (fun _ => Exs.nil)) Exs.nil)))) ?_
            refine Fors.cons (Asn.tuple (AsnL.cons (Asn.name (by decide +kernel)) (AsnL.cons (Asn.name (by decide +kernel)) AsnL.nil))) (Exs.cons (Ex.set (i2 (by k_places) (by k_places) (by intro _ _; rfl)) (by decide +kernel)) (Exs.cons (Ex.set (i2 (by k_places) (by k_places) (by intro _ _; rfl)) (by decide +kernel))
              (Exs.cons (Ex.ite (b := false) (EvT.as (EvT.cmp (by k_places) (by k_places) cmp_str_lt) h3') (fun q => by cases q) (fun _ => Exs.nil)) (Exs.cons (Ex.ite (b := false) (EvT.as (EvT.cmp (by k_places) (by k_places) cmp_str_gt) h4') (fun q => by cases q) (fun _ => Exs.nil)) Exs.nil)))) ?_
            exact Fors.sub sub_nil Fors.nil
end
-- E14
section
variable {w : World}
-- a step is told
noncomputable def rowEq (r q : Row) : Bool := r.n == q.n && (r.b == q.b && r.x == q.x)
noncomputable def mostOf (rows : List Row) : Int := maxI (rows.map Row.b)
noncomputable def likeOf (rows : List Row) : List Str := (rows.filter fun r => r.b == mostOf rows).map Row.x
structure StepOk (way : Int) (rows : List Row) (first : Row) : Prop where
  ne : rows ≠ []
  len : rows.length ≤ 100
  like : likeOf rows ≠ []
  pick : first.x = if 0 < way then minS (likeOf rows) else maxS (likeOf rows)
  left : ∀ r ∈ rows, rowCmp way r first = if rowEq r first = true then 0 else 1
  right : ∀ r ∈ rows, rowCmp way first r = if rowEq r first = true then 0 else -1
theorem row1 {Γ : Vars} {σ : List (Str × NameKind)} {n : Nat} {m : Bool} {e e2 : Expr} {r : Row} {pos : Pos} (a : EvE (cf w) σ n Γ m e (dRow r)) (b : EvE (cf w) σ n Γ m e2 (.int 1)) (hs : ∀ o i, subscripted e2 false o i = operate [o, i] (getItem o i)) : EvE (cf w) σ n Γ m (.Subscript e e2 pos) (.int r.b) :=
  EvE.sub' (d₂ := .int ((1 : Nat) : Int)) a (EvE.as b rfl) (sub_tup (by lia) rfl) hs
theorem row2 {Γ : Vars} {σ : List (Str × NameKind)} {n : Nat} {m : Bool} {e e2 : Expr} {r : Row} {pos : Pos} (a : EvE (cf w) σ n Γ m e (dRow r)) (b : EvE (cf w) σ n Γ m e2 (.int 2)) (hs : ∀ o i, subscripted e2 false o i = operate [o, i] (getItem o i)) : EvE (cf w) σ n Γ m (.Subscript e e2 pos) (.str r.x) :=
  EvE.sub' (d₂ := .int ((2 : Nat) : Int)) a (EvE.as b rfl) (sub_tup (by lia) rfl) hs
theorem EvE.compare {Γ : Vars} {σ : List (Str × NameKind)} {n : Nat} {m : Bool} {o e1 e2 : Expr} {way : Int} {r q : Row} {ap pos : Pos} (a : EvE (cf w) σ (n + 1) Γ m o (dKeys way)) (b1 : EvE (cf w) σ (n + 1) Γ m e1 (dRow r)) (b2 : EvE (cf w) σ (n + 1) Γ m e2 (dRow q))
    (h1 : ∀ env, starEach [e1, e2] env = (false, eval e1 env) :: starEach [e2] env := by intro _; rfl) (h2 : ∀ env, starEach [e2] env = (false, eval e2 env) :: starEach [] env := by intro _; rfl)
    (hbase : ∀ env, attributeBase o (Str.ofString "compare") env (eval o env) = eval o env := by intro _; rfl) (hline : (ap.endLine == pos.line) = true := by rfl)
    (hplain : ∀ env, (backTo pos (starEach [e2] env)).any (·.1) = false := by intro _; rfl)
    (hfew : ∀ env, ((backTo pos (starEach [e1, e2] env)).all (fun x => !x.1) && (backToKw pos (keywordEach [] env)).all (fun x => x.1.isSome)
      && decide ([e1, e2].length + ([] : List Keyword).length + (if ([] : List Keyword).isEmpty then 0 else 1) < 30)) = true := by intro _; rfl) :
    EvE (cf w) σ (n + 1) Γ m (.Call (.Attribute o (Str.ofString "compare") ap) [e1, e2] [] pos) (.int (rowCmp way r q)) :=
  EvE.callm (f := 85) a (EvEs.cons b1 (EvEs.cons b2 EvEs.nil (he := h2)) (he := h1)) (compare_spec) (by kernel_rfl) (by kernel_rfl) (by kernel_rfl) (by kernel_rfl) (by decide +kernel) (by lia) hbase hline h1 hplain hfew
theorem step_spec {way : Int} {rows : List Row} {first : Row} (h : StepOk way rows first) : FunSpec (cf w) 177 2 [.list (rows.map dRow), dRow first, dKeys way, .int way] (.bool true) := by
  refine FunSpec.of_body (ps := ["rows", "first", "keys", "way"]) (by rfl) rfl (by kernel_rfl) rfl (fun vs h => ?_) rfl rfl rfl (by decide +kernel) (by decide +kernel) (by decide +kernel) rfl rfl rfl rfl ?_
  · obtain ⟨_, _, _, _, rfl⟩ := lst4 h; rfl
  · dsimp only
    have hsz : rows.length ≤ sizeLine := by have := h.len; simp only [sizeLine]; lia
    have hne : rows.map Row.b ≠ [] := by simpa using h.ne
    have km := call_maxI (c := cf w) hne
    rw [List.map_map] at km
    refine Exs.cons (Ex.set (EvE.callB b_max (EvEs.cons (EvE.compA (Comp.allA dRow (fun r => D.int r.b) rows takes_ol (EvIt.list (by k_places)) hsz fun r hr => row1 (by k_places) (by k_places) (by intro _ _; rfl))) EvEs.nil) km) (by decide +kernel)) ?_
    have hm : maxI (rows.map Row.b) = mostOf rows := rfl
    rw [hm]
    have hlk : ((rows.filter fun r => r.b == mostOf rows).map fun r => D.str r.x) = (likeOf rows).map D.str := by unfold likeOf; rw [List.map_map]; rfl
    generalize hmost : mostOf rows = most at hlk ⊢
    refine Exs.cons (Ex.compA (out := (likeOf rows).map D.str) (hlk ▸ Comp.filA dRow (fun r => r.b == most) (fun r => D.str r.x) rows takes_ol (EvIt.list (by k_places)) hsz (fun r hr => EvT.cmp (row1 (by k_places) (by k_places) (by intro _ _; rfl)) (by k_places) cmp_int_eq) (fun r hr _ => row2 (by k_places) (by k_places) (by intro _ _; rfl)))) ?_
    have hpk := h.pick
    refine Exs.cons (Ex.ite (b := false) (EvT.as (EvT.cmp (d₂ := .str (if 0 < way then minS (likeOf rows) else maxS (likeOf rows))) (row2 (by k_places) (by k_places) (by intro _ _; rfl)) (EvE.ifexp (b := decide (0 < way)) (EvT.cmp (by k_places) (by k_places) cmp_int_gt)
      (fun q => by rw [if_pos (by simpa using q)]; exact EvE.callB b_min (by k_places) (call_minS h.like)) (fun q => by rw [if_neg (by simpa using q)]; exact EvE.callB b_max (by k_places) (call_maxS h.like))) cmp_str_ne) (by simp [hpk])) (fun q => by cases q) (fun _ => Exs.nil)) ?_
    have c1 : (rows.map fun r => D.int (rowCmp way r first)) = (rows.map fun r => rowCmp way r first).map D.int := by rw [List.map_map]; rfl
    have c2 : (rows.map fun r => D.int (if rowEq r first = true then 0 else 1)) = (rows.map fun r => (if rowEq r first = true then (0 : Int) else 1)).map D.int := by rw [List.map_map]; rfl
    have c3 : (rows.map fun r => D.int (rowCmp way first r)) = (rows.map fun r => rowCmp way first r).map D.int := by rw [List.map_map]; rfl
    have c4 : (rows.map fun r => D.int (if rowEq r first = true then 0 else -1)) = (rows.map fun r => (if rowEq r first = true then (0 : Int) else -1)).map D.int := by rw [List.map_map]; rfl
    have q1 : (rows.map fun r => rowCmp way r first) = rows.map fun r => (if rowEq r first = true then (0 : Int) else 1) := List.map_congr_left h.left
    have q2 : (rows.map fun r => rowCmp way first r) = rows.map fun r => (if rowEq r first = true then (0 : Int) else -1) := List.map_congr_left h.right
    refine Exs.cons (Ex.ite (b := false) (EvT.as (EvT.cmp (d₁ := .list ((rows.map fun r => rowCmp way r first).map D.int)) (d₂ := .list ((rows.map fun r => (if rowEq r first = true then (0 : Int) else 1)).map D.int))
      (c1 ▸ EvE.compA (Comp.allA dRow (fun r => D.int (rowCmp way r first)) rows takes_ol (EvIt.list (by k_places)) hsz fun r hr => EvE.compare (by k_places) (by k_places) (by k_places)))
      (c2 ▸ EvE.compA (Comp.allA dRow (fun r => D.int (if rowEq r first = true then 0 else 1)) rows takes_ol (EvIt.list (by k_places)) hsz fun r hr => EvE.ifexp (b := rowEq r first) (EvT.cmp (by k_places) (by k_places) cmp_row) (fun q => by rw [if_pos q]; k_places) (fun q => by rw [if_neg (by simp [q])]; k_places)))
      cmp_ints_ne) (by simp [q1])) (fun q => by cases q) (fun _ => Exs.nil)) ?_
    refine Exs.ret (Ex.ret (EvE.as (EvE.cmp (d₁ := .list ((rows.map fun r => rowCmp way first r).map D.int)) (d₂ := .list ((rows.map fun r => (if rowEq r first = true then (0 : Int) else -1)).map D.int))
      (c3 ▸ EvE.compA (Comp.allA dRow (fun r => D.int (rowCmp way first r)) rows takes_ol (EvIt.list (by k_places)) hsz fun r hr => EvE.compare (by k_places) (by k_places) (by k_places)))
      (c4 ▸ EvE.compA (Comp.allA dRow (fun r => D.int (if rowEq r first = true then 0 else -1)) rows takes_ol (EvIt.list (by k_places)) hsz fun r hr => EvE.ifexp (b := rowEq r first) (EvT.cmp (by k_places) (by k_places) cmp_row) (fun q => by rw [if_pos q]; k_places) (fun q => by rw [if_neg (by simp [q])]; k_places)))
      cmp_ints_eq) (by simp [q2])))
end
-- E15
section
variable {w : World}
-- a block is told
structure BlockOk (name : List Nat) (home : List (List Nat)) (find : List Bool) (hosts : List Nat) : Prop where
  low : LowN name
  root : reachF name = dotLocal
  len : home.length ≤ 100
  eq : find.length = home.length
  find : ∀ k < home.length, find.getD k false = hosts.contains k
  home : ∀ k < home.length, (home.getD k [] == name) = hosts.contains k
theorem contains_cast (hosts : List Nat) (k : Nat) : (hosts.map fun j => ((j : Nat) : Int)).contains (k : Int) = hosts.contains k := by
  induction hosts with
  | nil => rfl
  | cons a l ih =>
    simp only [List.map_cons, List.contains_cons, ih]
    congr 1
    rw [Bool.eq_iff_iff]; simp; lia
theorem block_spec {name : List Nat} {home : List (List Nat)} {find : List Bool} {hosts : List Nat} {e : En} (h : BlockOk name home find hosts) (he : e.t.length ≤ 1000) :
    FunSpec (cf w) 184 3 [.str (tx name), dTxs home, .list (find.map D.bool), dEn e, dEn e, dNats hosts] (.bool true) := by
  refine FunSpec.of_body (ps := ["name", "home", "find", "entry", "told", "hosts"]) (by rfl) rfl (by kernel_rfl) rfl (fun vs h => ?_) rfl rfl rfl (by decide +kernel) (by decide +kernel) (by decide +kernel) rfl rfl rfl rfl ?_
  · obtain ⟨_, _, _, _, _, _, rfl⟩ := lst6 h; rfl
  · dsimp only
    have hl := h.len
    have hre := reach_spec (w := w) h.low.nofig.hit (by have := h.low.2.1; lia)
    have er : reachL name false = dotLocal := h.root
    rw [er] at hre
    have hk : ((dT e.t).map fun p => D.str p.1) = ((dT e.t).map fun p => p.1).map D.str := by rw [List.map_map]; rfl
    have i4 : ∀ {Γ : Vars} {σ : List (Str × NameKind)} {m : Bool} {x e2 : Expr} {pos : Pos}, EvE (cf w) σ 2 Γ m x (dEn e) → EvE (cf w) σ 2 Γ m e2 (.int 4) → (∀ o i, subscripted e2 false o i = operate [o, i] (getItem o i)) → EvE (cf w) σ 2 Γ m (.Subscript x e2 pos) (.dict (dT e.t)) :=
      fun a b hs => EvE.sub' (d₂ := .int ((4 : Nat) : Int)) a (EvE.as b rfl) (sub_tup (by lia) rfl) hs
    have hks : (dT e.t).length ≤ sizeLine := by rw [dT_len]; simp only [sizeLine]; lia
    refine Exs.cons (Ex.ite (b := false) (EvT.as (EvT.boolop (AllT.or (EvT.cmp (EvE.calld t_reach (by k_places) hre) (EvE.strL dotlocal_tx) cmp_str_ne) fun _ => AllT.or (EvT.cmp (by k_places) (by k_places) cmp_entry) fun _ =>
      AllT.or (EvT.cmp (d₁ := .list (((dT e.t).map fun p => p.1).map D.str)) (d₂ := .list (((dT e.t).map fun p => p.1).map D.str)) (hk ▸ EvE.callB b_list (EvEs.cons (i4 (by k_places) (by k_places) (by intro _ _; rfl)) EvEs.nil) (call_keys hks)) (hk ▸ EvE.callB b_list (EvEs.cons (i4 (by k_places) (by k_places) (by intro _ _; rfl)) EvEs.nil) (call_keys hks)) cmp_strs_ne) fun _ => AllT.or_nil)) (by simp)) (fun q => by cases q) (fun _ => Exs.nil)) ?_
    have hh : dNats hosts = .list ((hosts.map fun j => ((j : Nat) : Int)).map D.int) := by rw [List.map_map]; rfl
    refine Exs.cons (Ex.for (t := false) (ds := (List.range home.length).map fun k : Nat => D.int k) (EvIt.callB b_range (EvEs.cons (EvE.callB b_len (by k_places) (call_len (by simp; lia))) EvEs.nil) (ci_range1 (by simp) (by lia))) (out := .next (vr [])) ?_) (Exs.ret (Ex.ret (by k_places)))
    rw [hh]
    refine Fors.sub (Γ₁ := vr [("name", .fz (.str (tx name))), ("home", .fz (dTxs home)), ("find", .fz (.list (find.map D.bool))), ("hosts", .fz (.list ((hosts.map fun j => ((j : Nat) : Int)).map D.int)))]) (by k_subL) ?_
    refine Fors.sub' (Γ₁ := vr [("name", .fz (.str (tx name))), ("home", .fz (dTxs home)), ("find", .fz (.list (find.map D.bool))), ("hosts", .fz (.list ((hosts.map fun j => ((j : Nat) : Int)).map D.int)))]) sub_nil ?_
    refine Fors.fold (t := false) (fun k : Nat => D.int k) (fun _ : Unit => vr [("name", .fz (.str (tx name))), ("home", .fz (dTxs home)), ("find", .fz (.list (find.map D.bool))), ("hosts", .fz (.list ((hosts.map fun j => ((j : Nat) : Int)).map D.int)))]) (fun u _ => u) (by intro h; cases h) _ () fun _ k hk => ?_
    have hkl := List.mem_range.mp hk
    have fAt : (find.map D.bool)[((k : Nat) : Int).toNat]? = some (.bool (hosts.contains k)) := by
      rw [← h.find k hkl, Int.toNat_natCast, List.getElem?_map, List.getD_eq_getElem?_getD, List.getElem?_eq_getElem (by rw [h.eq]; exact hkl)]; rfl
    have hAt : (home.map fun l => D.str (tx l))[((k : Nat) : Int).toNat]? = some (.str (tx (home.getD k []))) := by
      rw [Int.toNat_natCast, List.getElem?_map, List.getD_eq_getElem?_getD, List.getElem?_eq_getElem hkl]; rfl
    have t1 : ∀ b : Bool, (b != b) = false := by decide
    refine ⟨_, _, Asn.name (by decide +kernel), Exs.cons (Ex.ite (b := false) (EvT.as (EvT.boolop (AllT.or (EvT.cmp (EvE.sub' (by k_places) (by k_places) (sub_list (by lia) (by lia) fAt)) (EvE.cmp (by k_places) (by k_places) cmp_in_ints) cmp_isnot) fun _ =>
      AllT.or (EvT.cmp (EvE.cmp (EvE.sub' (by k_places) (by k_places) (sub_list (by lia) (by lia) hAt)) (by k_places) cmp_str_eq) (EvE.cmp (by k_places) (by k_places) cmp_in_ints) cmp_isnot) fun _ => AllT.or_nil)) ?_) (fun q => by cases q) (fun _ => Exs.nil)) Exs.nil, ?_⟩
    · rw [contains_cast, tx_beq, h.home k hkl, t1]; rfl
    · k_subL
end
-- E16
section
variable {w : World}
-- a round
noncomputable abbrev Nm := List Nat
noncomputable abbrev dBools (bs : List Bool) : D := .list (bs.map D.bool)
noncomputable abbrev dStep (s : List Row × Row) : D := .tup [.list (s.1.map dRow), dRow s.2]
noncomputable def foundRow (names : List Nm) (bl : Nm) : List Bool := names.map fun l => inL l bl
noncomputable def innerF (lab : List Str) (bk : Nm → En) (fnd : List Bool) (bl : Nm) (b : Nm → Int) (k : Nat) : Nm → Int :=
  if fnd.getD k false = true then fun x => if x = bl then b x + (dget (bk bl).t (lab.getD k "")).getD 0 else b x else b
noncomputable def spread (lab : List Str) (bk : Nm → En) (N : Nat) (fnd : List Bool) (left : List Nm) (b : Nm → Int) : Nm → Int := left.foldl (fun b bl => (List.range N).foldl (innerF lab bk fnd bl) b) b
noncomputable def bD (left0 : List Nm) (b : Nm → Int) : List (Str × Int) := left0.map fun x => (tx x, b x)
noncomputable def rowOf (bk : Nm → En) (b : Nm → Int) (bl : Nm) : Row := ⟨(bk bl).cc, b bl, tx bl⟩
noncomputable def pickStep (way : Int) (bk : Nm → En) (b : Nm → Int) (f bl : Nm) : Nm := if rowCmp way (rowOf bk b bl) (rowOf bk b f) < 0 then bl else f
noncomputable def pickB (way : Int) (bk : Nm → En) (b : Nm → Int) (left : List Nm) : Nm := left.foldl (pickStep way bk b) (left.headD [])
structure RSt where
  left : List Nm
  b : Nm → Int
  taken : List Nm
  found : List (List Bool)
  steps : List (List Row × Row)
noncomputable def rStep (way : Int) (lab : List Str) (bk : Nm → En) (names : List Nm) (S : RSt) : RSt :=
  let b := spread lab bk names.length (S.found.getLastD []) S.left S.b
  let f := pickB way bk b S.left
  ⟨S.left.filter (· != f), b, S.taken ++ [f], S.found ++ [foundRow names f], S.steps ++ [(S.left.map (rowOf bk b), rowOf bk b f)]⟩
noncomputable def rLoop (way : Int) (lab : List Str) (bk : Nm → En) (names : List Nm) : Nat → RSt → RSt
  | 0, S => S
  | n + 1, S => if S.left = [] then S else rLoop way lab bk names n (rStep way lab bk names S)
noncomputable def blocksOf (homes : List Nm) : List Nm := ((List.range homes.length).filter fun k => !(homes.take k).contains (homes.getD k [])).map fun k => homes.getD k []
noncomputable def roundOf (way : Int) (lab : List Str) (bk : Nm → En) (names homes : List Nm) (begin : Nat) : RSt :=
  let bs := blocksOf homes
  let t := bs.getD (begin % bs.length) []
  let left := bs.filter (· != t)
  rLoop way lab bk names left.length ⟨left, fun _ => 0, [t], [foundRow names t], []⟩
theorem contains_tx (xs : List Nm) (x : Nm) : (xs.map tx).contains (tx x) = xs.contains x := by
  induction xs with
  | nil => rfl
  | cons a l ih => simp only [List.map_cons, List.contains_cons, ih, tx_beq]
theorem pickB_mem (way : Int) (bk : Nm → En) (b : Nm → Int) {left : List Nm} (h : left ≠ []) : pickB way bk b left ∈ left := by
  have key : ∀ (l : List Nm) (f : Nm), f ∈ left → (∀ x ∈ l, x ∈ left) → l.foldl (pickStep way bk b) f ∈ left := by
    intro l
    induction l with
    | nil => intro f hf _; exact hf
    | cons x l ih =>
      intro f hf hl
      refine ih _ ?_ fun y hy => hl y (List.mem_cons_of_mem _ hy)
      unfold pickStep
      split
      · exact hl x List.mem_cons_self
      · exact hf
  refine key left _ ?_ fun x hx => hx
  cases left with
  | nil => exact absurd rfl h
  | cons a l => exact List.mem_cons_self
theorem filter_ne_lt {left : List Nm} {f : Nm} (h : f ∈ left) : (left.filter (· != f)).length < left.length := by
  rw [List.length_filter_lt_length_iff_exists]
  exact ⟨f, h, by simp⟩
theorem bD_put (left0 : List Nm) (b : Nm → Int) (bl : Nm) (v : Int) (h : bl ∈ left0) : put (dT (bD left0 b)) (tx bl) (.int v) = dT (bD left0 fun x => if x = bl then v else b x) := by
  unfold put
  have ha : (dT (bD left0 b)).any (fun kv => decide (kv.1 = tx bl)) = true := by
    rw [List.any_eq_true]
    exact ⟨(tx bl, .int (b bl)), by unfold dT bD; simp only [List.map_map, List.mem_map]; exact ⟨bl, h, rfl⟩, by simp⟩
  rw [if_pos ha]
  unfold dT bD
  simp only [List.map_map]
  apply List.map_congr_left
  intro x _
  simp only [Function.comp_def, tx_inj]
  split <;> rfl
theorem bD_get (left0 : List Nm) (b : Nm → Int) (bl : Nm) (h : bl ∈ left0) : dget (dT (bD left0 b)) (tx bl) = some (.int (b bl)) := by
  induction left0 with
  | nil => cases h
  | cons a l ih =>
    unfold dget dT bD
    simp only [List.map_cons, List.find?_cons, tx_inj]
    by_cases ha : a = bl
    · subst ha; simp
    · have hl : bl ∈ l := by
        rcases List.mem_cons.mp h with q | q
        · exact absurd q.symm ha
        · exact q
      simp only [ha, decide_false]
      exact ih hl
theorem bD_len (left0 : List Nm) (b : Nm → Int) : (dT (bD left0 b)).length = left0.length := by unfold dT bD; simp
/-- what a round hangs on -/
structure RoundOk (lab : List Str) (bk : Nm → En) (names : List Nm) (hf : Nm → Nm) (bks : List (Str × D)) : Prop where
  ne : names ≠ []
  len : names.length ≤ 50
  lab : lab.length = names.length
  low : ∀ l ∈ names, LowN l
  home : ∀ l ∈ names, ∃ k, homeL k l = some (hf l)
  hlow : ∀ l ∈ names, LowN (hf l)
  book : ∀ l ∈ names, dget bks (tx (hf l)) = some (dEn (bk (hf l)))
theorem blocksOf_mem {homes : List Nm} {x : Nm} (h : x ∈ blocksOf homes) : x ∈ homes := by
  unfold blocksOf at h
  obtain ⟨k, hk, rfl⟩ := List.mem_map.mp h
  have := List.mem_range.mp (List.mem_filter.mp hk).1
  exact getD_mem this
theorem blocksOf_ne {homes : List Nm} (h : homes ≠ []) : blocksOf homes ≠ [] := by
  cases homes with
  | nil => exact absurd rfl h
  | cons a l =>
    have : a ∈ blocksOf (a :: l) := by
      unfold blocksOf
      exact List.mem_map.mpr ⟨0, List.mem_filter.mpr ⟨List.mem_range.mpr (by simp), by simp⟩, by simp⟩
    intro q; rw [q] at this; cases this
theorem blocksOf_len (homes : List Nm) : (blocksOf homes).length ≤ homes.length := by
  unfold blocksOf
  rw [List.length_map]
  exact Nat.le_trans (List.length_filter_le _ _) (by simp)
theorem blocksOf_nodup (homes : List Nm) : (blocksOf homes).Nodup := by
  unfold blocksOf
  refine List.pairwise_map.mpr ((List.Pairwise.filter _ List.pairwise_lt_range).imp_of_mem fun {a b} ha hb hlt => ?_)
  have hb' := List.mem_filter.mp hb
  have hbn := List.mem_range.mp hb'.1
  intro e
  have : homes.getD a [] ∈ homes.take b := by
    have han : a < homes.length := by lia
    rw [List.getD_eq_getElem?_getD, List.getElem?_eq_getElem han]
    rw [List.mem_take_iff_getElem]
    exact ⟨a, by lia, rfl⟩
  have h2 := hb'.2
  rw [e] at this
  simp at h2
  exact h2 (by simpa [List.getD_eq_getElem?_getD] using this)
theorem bD_snoc (t : List Nm) (x : Nm) (hx : x ∉ t) : put (dT (bD t fun _ => 0)) (tx x) (.int 0) = dT (bD (t ++ [x]) fun _ => 0) := by
  unfold put
  rw [if_neg]
  · unfold dT bD; simp
  · intro h
    obtain ⟨p, hp, q⟩ := List.any_eq_true.mp h
    unfold dT bD at hp
    simp only [List.map_map, List.mem_map] at hp
    obtain ⟨y, hy, rfl⟩ := hp
    simp [tx_inj] at q
    exact hx (q ▸ hy)
theorem fold_snoc {α : Type} : ∀ (l t : List α), l.foldl (fun t x => t ++ [x]) t = t ++ l
  | [], t => by simp
  | x :: l, t => by rw [List.foldl_cons, fold_snoc l]; simp
theorem innerF_put (lab : List Str) (bk : Nm → En) (fnd : List Bool) (left0 : List Nm) (bl : Nm) (b : Nm → Int) (k : Nat) (h : fnd.getD k false = true) (hm : bl ∈ left0) :
    put (dT (bD left0 b)) (tx bl) (.int (b bl + (dget (bk bl).t (lab.getD k "")).getD 0)) = dT (bD left0 (innerF lab bk fnd bl b k)) := by
  rw [bD_put _ _ _ _ hm]
  unfold innerF
  rw [if_pos h]
  congr 2
  funext x
  split
  · rename_i e; rw [e]
  · rfl
theorem innerF_no (lab : List Str) (bk : Nm → En) (fnd : List Bool) (bl : Nm) (b : Nm → Int) (k : Nat) (h : fnd.getD k false = false) : innerF lab bk fnd bl b k = b := by unfold innerF; rw [if_neg (by rw [h]; exact Bool.false_ne_true)]
noncomputable abbrev rCtx (lab : List Str) (names : List Nm) (bks : List (Str × D)) (way : Int) (homes : List Nm) : List (Str × Slot) := [("labels", .fz (dStrs lab)), ("names", .fz (dTxs names)), ("books", .fz (.dict bks)), ("keys", .fz (dKeys way)), ("homes", .fz (dTxs homes))]
noncomputable abbrev rVars (left0 : List Nm) (lab : List Str) (names : List Nm) (bks : List (Str × D)) (way : Int) (homes left : List Nm) (b : Nm → Int) (taken : List Nm) (found : List (List Bool)) (steps : List (List Row × Row)) : List (Str × Slot) :=
  ("left", .fz (dTxs left)) :: ("bound", .od (dT (bD left0 b))) :: ("taken", .ol (taken.map fun l => D.str (tx l))) :: ("found", .ol (found.map dBools)) :: ("steps", .ol (steps.map dStep)) :: rCtx lab names bks way homes
structure RInv (left0 : List Nm) (names : List Nm) (S : RSt) : Prop where
  sub : ∀ x ∈ S.left, x ∈ left0
  fne : ∃ f, S.found.getLast? = some f ∧ f.length = names.length
  l1 : S.taken.length + S.left.length ≤ 200
  l2 : S.found.length + S.left.length ≤ 200
  l3 : S.steps.length + S.left.length ≤ 200
theorem RInv.step {left0 names : List Nm} {S : RSt} {way : Int} {lab : List Str} {bk : Nm → En} (h : RInv left0 names S) (hne : S.left ≠ []) : RInv left0 names (rStep way lab bk names S) := by
  have hm := pickB_mem way bk (spread lab bk names.length (S.found.getLastD []) S.left S.b) hne
  have hlt := filter_ne_lt hm
  have h1 := h.l1
  have h2 := h.l2
  have h3 := h.l3
  refine ⟨fun x hx => h.sub x (List.mem_filter.mp hx).1, ⟨_, by simp [rStep]; rfl, by simp [foundRow]⟩, ?_, ?_, ?_⟩
  all_goals (simp only [rStep, List.length_append, List.length_cons, List.length_nil]; lia)
end
-- E17
section
variable {w : World}
theorem Fors.as {c : Cf} {σ : List (Str × NameKind)} {n : Nat} {Γ : Vars} {tgt : Expr} {t : Bool} {body : List Stmt} {ds : List D} {o o' : Out} (a : Fors c σ n Γ tgt t body ds o) (h : o = o') : Fors c σ n Γ tgt t body ds o' := h ▸ a
theorem dTxs_strs (xs : List Nm) : dTxs xs = .list ((xs.map tx).map D.str) := by rw [List.map_map]; rfl
theorem txs_at {xs : List Nm} {k : Nat} (h : k < xs.length) : (xs.map fun l => D.str (tx l))[((k : Nat) : Int).toNat]? = some (.str (tx (xs.getD k []))) := by
  rw [Int.toNat_natCast, List.getElem?_map, List.getD_eq_getElem?_getD, List.getElem?_eq_getElem h]; rfl
theorem bools_at {xs : List Bool} {k : Nat} (h : k < xs.length) : (xs.map D.bool)[((k : Nat) : Int).toNat]? = some (.bool (xs.getD k false)) := by
  rw [Int.toNat_natCast, List.getElem?_map, List.getD_eq_getElem?_getD, List.getElem?_eq_getElem h]; rfl
theorem txs_eq_nil (xs : List Nm) : ((xs.map tx) != ([] : List Str)) = !(xs.isEmpty) := by cases xs <;> simp
theorem round_spec {way : Int} {lab : List Str} {bk : Nm → En} {names : List Nm} {hf : Nm → Nm} {bks : List (Str × D)} {begin : Nat} (h : RoundOk lab bk names hf bks) :
    FunSpec (cf w) 172 4 [dStrs lab, dTxs names, .dict bks, .int (begin : Nat), dKeys way]
      (.tup [dTxs (names.map hf), dTxs (roundOf way lab bk names (names.map hf) begin).taken, .list ((roundOf way lab bk names (names.map hf) begin).found.map dBools), .list ((roundOf way lab bk names (names.map hf) begin).steps.map dStep)]) := by
  refine FunSpec.of_body (ps := ["labels", "names", "books", "begin", "keys"]) (by rfl) rfl (by kernel_rfl) rfl (fun vs h => ?_) rfl rfl rfl (by decide +kernel) (by decide +kernel) (by decide +kernel) rfl rfl rfl rfl ?_
  · obtain ⟨_, _, _, _, _, rfl⟩ := lst5 h; rfl
  · dsimp only
    have hlen := h.len
    have hsz : names.length ≤ sizeLine := by simp only [sizeLine]; lia
    -- homes
    have hout : (names.map fun l => D.str (tx (hf l))) = ((names.map hf).map fun l => D.str (tx l)) := by rw [List.map_map]; rfl
    refine Exs.cons (Ex.compA (out := ((names.map hf).map fun l => D.str (tx l))) (hout ▸ Comp.allA (fun l => D.str (tx l)) (fun l => D.str (tx (hf l))) names takes_ol (EvIt.list (by k_places)) hsz fun l hl => ?_)) ?_
    · obtain ⟨k, hk⟩ := h.home l hl
      exact EvE.calld t_home (by k_places) (home_spec hk (h.low l hl).nofig)
    have hN : (names.map hf).length = names.length := by simp
    have hbook : ∀ x ∈ names.map hf, dget bks (tx x) = some (dEn (bk x)) := fun x hx => by obtain ⟨l, hl, rfl⟩ := List.mem_map.mp hx; exact h.book l hl
    have hlow : ∀ x ∈ names.map hf, LowN x := fun x hx => by obtain ⟨l, hl, rfl⟩ := List.mem_map.mp hx; exact h.hlow l hl
    have hne : names.map hf ≠ [] := by simpa using h.ne
    generalize names.map hf = homes at hN hbook hlow hne ⊢
    -- blocks
    have hb1 : (((List.range homes.length).filter fun k => !((homes.take k).map tx).contains (tx (homes.getD k []))).map fun k => D.str (tx (homes.getD k []))) = (blocksOf homes).map fun l => D.str (tx l) := by
      unfold blocksOf; simp only [contains_tx, List.map_map]; rfl
    refine Exs.cons (Ex.compA (out := (blocksOf homes).map fun l => D.str (tx l)) (hb1 ▸ Comp.filA (fun k : Nat => D.int k) (fun k => !((homes.take k).map tx).contains (tx (homes.getD k []))) (fun k => D.str (tx (homes.getD k []))) (List.range homes.length) takes_ol
      (EvIt.callB b_range (EvEs.cons (EvE.callB b_len (by k_places) (call_len (by simp; lia))) EvEs.nil) (ci_range1 (by simp) (by lia))) (by simp [sizeLine]; lia) (fun k hk => ?_) (fun k hk _ => ?_))) ?_
    · have hk' := List.mem_range.mp hk
      refine EvT.cmp (EvE.sub' (by k_places) (by k_places) (sub_list (by lia) (by lia) (txs_at hk'))) (EvE.as (EvE.slice (by k_places) PartOk.none (PartOk.some (by k_places)) (sli_upto k (by simp [sizeLine]; lia))) ?_) cmp_notin_strs
      rw [← List.map_take, List.map_map]; rfl
    · have hk' := List.mem_range.mp hk
      exact EvE.sub' (by k_places) (by k_places) (sub_list (by lia) (by lia) (txs_at hk'))
    have hBm : ∀ x ∈ blocksOf homes, x ∈ homes := fun x hx => blocksOf_mem hx
    have hBn := blocksOf_ne hne
    have hBl := blocksOf_len homes
    have hBd := blocksOf_nodup homes
    unfold roundOf
    generalize blocksOf homes = bs at hBm hBn hBl hBd ⊢
    have hBp : 0 < bs.length := List.length_pos_iff.mpr hBn
    have hmod := Nat.mod_lt begin hBp
    generalize ht : bs.getD (begin % bs.length) [] = t
    have htm : t ∈ bs := by rw [← ht]; exact getD_mem hmod
    dsimp only
    rw [ht]
    -- taken
    with_reducible refine Exs.cons (Ex.assign (EvO.list (ds := [D.str (tx t)]) (EvEs.cons ?_ EvEs.nil ?_) ?_) ?_ ?_) ?_
    · exact EvE.sub' (d₂ := .int ((begin % bs.length : Nat) : Int)) (by k_places) (EvE.bin (by k_places) (EvE.callB b_len (by k_places) (call_len (by simp; lia))) (by rw [List.length_map]; exact bin_modn (by lia))) (sub_list (by lia) (by lia) (by rw [txs_at hmod, ht]))
    · intro _; rfl
    · simp [sizeLine]
    · decide +kernel
    · intro _ _ _; rfl
    -- left
    have hl1 : ((bs.filter fun x => x != t).map fun l => D.str (tx l)) = ((bs.filter fun x => x != t).map fun l => D.str (tx l)) := rfl
    refine Exs.cons (Ex.compA (out := ((bs.filter fun x => x != t).map fun l => D.str (tx l))) (Comp.filA (fun l => D.str (tx l)) (fun x => x != t) (fun l => D.str (tx l)) bs takes_ol (EvIt.list (by k_places)) (by simp only [sizeLine]; lia)
      (fun x hx => EvT.as (EvT.cmp (by k_places) (EvE.item_own (d₁ := .none) (by l_intsC) (by decide +kernel) (by k_places) (get_ol (k := 0) (d := .str (tx t)) (by lia) (by lia) rfl)) cmp_str_ne) (by simp only [bne, tx_beq])) (fun x hx _ => by k_places))) ?_
    have hLm : ∀ x ∈ bs.filter (fun x => x != t), x ∈ homes := fun x hx => hBm x (List.mem_filter.mp hx).1
    have hLn : (bs.filter fun x => x != t).Nodup := hBd.filter _
    have hLl : (bs.filter fun x => x != t).length ≤ 50 := Nat.le_trans (List.length_filter_le _ _) (by lia)
    generalize bs.filter (fun x => x != t) = left0 at hLm hLl hLn ⊢
    -- found
    have hfs := found_spec (w := w) (names := names) (block := t) h.low (hlow t (hBm t htm)) (by lia)
    have hfr : (names.map fun l => D.bool (inL l t)) = (foundRow names t).map D.bool := by unfold foundRow; rw [List.map_map]; rfl
    rw [hfr] at hfs
    with_reducible refine Exs.cons (Ex.assign (EvO.list (ds := [dBools (foundRow names t)]) (EvEs.cons ?_ EvEs.nil ?_) ?_) ?_ ?_) ?_
    · exact EvE.calld t_found (EvEs.cons (by k_places) (EvEs.cons (EvE.item_own (d₁ := .none) (by l_intsC) (by decide +kernel) (by k_places) (get_ol (k := 0) (d := .str (tx t)) (by lia) (by lia) rfl)) EvEs.nil)) hfs
    · intro _; rfl
    · simp [sizeLine]
    · decide +kernel
    · intro _ _ _; rfl
    -- bound
    with_reducible refine Exs.cons (Ex.assign EvO.dict0 ?_ ?_) ?_
    · decide +kernel
    · intro _ _ _; rfl
    have hl0s : left0.length ≤ sizeLine := by simp only [sizeLine]; lia
    refine Exs.cons (Ex.for (t := false) (ds := left0.map fun l => D.str (tx l)) (EvIt.list (by k_places)) (out := .next (vr (("bound", .od (dT (bD left0 fun _ => 0))) :: ("left", .fz (dTxs left0)) :: ("taken", .ol [D.str (tx t)]) :: ("found", .ol [dBools (foundRow names t)]) :: rCtx lab names bks way homes))) ?_) ?_
    · have e0 : left0.foldl (fun t x => t ++ [x]) [] = left0 := by rw [fold_snoc]; rfl
      refine Fors.sub (Γ₁ := vr (("bound", .od (dT (bD [] fun _ => 0))) :: ("left", .fz (dTxs left0)) :: ("taken", .ol [D.str (tx t)]) :: ("found", .ol [dBools (foundRow names t)]) :: rCtx lab names bks way homes)) (by rw [show (dT (bD [] fun _ => 0)) = [] from rfl]; k_subL) ?_
      refine Fors.as (Fors.foldQ (t := false) (fun l : Nm => D.str (tx l)) (fun t' : List Nm => vr (("bound", .od (dT (bD t' fun _ => 0))) :: ("left", .fz (dTxs left0)) :: ("taken", .ol [D.str (tx t)]) :: ("found", .ol [dBools (foundRow names t)]) :: rCtx lab names bks way homes)) (fun t x => t ++ [x])
        (fun r t' => t' ++ r = left0) (by intro h; cases h) left0 [] (by simp) (fun t' x r h => by simpa using h) (fun t' x r hx h => ?_)) (by rw [e0])
      have hnx : x ∉ t' := fun q => by
        have := hLn; rw [← h] at this
        exact (List.nodup_append.mp this).2.2 x q x List.mem_cons_self rfl
      rw [← bD_snoc t' x hnx]
      refine ⟨_, _, Asn.name (by decide +kernel), Exs.cons (Ex.setitem (by l_intsC) (by decide +kernel) (by k_places) (by k_places) (set_od (by rw [bD_len]; have := congrArg List.length h; simp only [List.length_append] at this; lia))) Exs.nil, ?_⟩
      k_subL
    -- steps
    with_reducible refine Exs.cons (Ex.assign (EvO.list (ds := []) EvEs.nil ?_) ?_ ?_) ?_
    · simp [sizeLine]
    · decide +kernel
    · intro _ _ _; rfl
    have hinv : RInv left0 names ⟨left0, fun _ => 0, [t], [foundRow names t], []⟩ := ⟨fun x hx => hx, ⟨foundRow names t, rfl, by simp [foundRow]⟩, by simp; lia, by simp; lia, by simp; lia⟩
    generalize hS : (⟨left0, fun _ => 0, [t], [foundRow names t], []⟩ : RSt) = S at hinv ⊢
    have hSl : S.left.length ≤ left0.length := by rw [← hS]; exact Nat.le_refl _
    refine Exs.cons (Ex.while (out := .next (vr (rVars left0 lab names bks way homes (rLoop way lab bk names left0.length S).left (rLoop way lab bk names left0.length S).b (rLoop way lab bk names left0.length S).taken (rLoop way lab bk names left0.length S).found (rLoop way lab bk names left0.length S).steps))) ?_) ?_
    · refine Whiles.sub (Γ₁ := vr (rVars left0 lab names bks way homes S.left S.b S.taken S.found S.steps)) (by subst hS; show ∀ x sl, vr (("left", .fz (dTxs left0)) :: ("bound", .od (dT (bD left0 fun _ => 0))) :: ("taken", .ol [D.str (tx t)]) :: ("found", .ol [dBools (foundRow names t)]) :: ("steps", .ol []) :: rCtx lab names bks way homes) x = some sl → _; k_subL) ?_
      clear hS
      generalize left0.length = fuel at hSl
      induction fuel generalizing S with
      | zero =>
        have : S.left = [] := List.length_eq_zero_iff.mp (by lia)
        show Whiles _ _ _ (vr (rVars left0 lab names bks way homes S.left S.b S.taken S.found S.steps)) _ _ (.next (vr (rVars left0 lab names bks way homes S.left S.b S.taken S.found S.steps)))
        refine Whiles.stop (EvT.as (EvT.cmp (d₁ := .list ((S.left.map tx).map D.str)) (d₂ := .list (([] : List Str).map D.str)) (EvE.as (by k_places) (dTxs_strs _)) (EvE.as (EvE.list EvEs.nil) rfl) cmp_strs_ne) (by rw [txs_eq_nil, this]; rfl))
      | succ fuel ih =>
        by_cases hne : S.left = []
        · have e : rLoop way lab bk names (fuel + 1) S = S := by unfold rLoop; rw [if_pos hne]
          rw [e]
          exact Whiles.stop (EvT.as (EvT.cmp (d₁ := .list ((S.left.map tx).map D.str)) (d₂ := .list (([] : List Str).map D.str)) (EvE.as (by k_places) (dTxs_strs _)) (EvE.as (EvE.list EvEs.nil) rfl) cmp_strs_ne) (by rw [txs_eq_nil, hne]; rfl))
        · have e : rLoop way lab bk names (fuel + 1) S = rLoop way lab bk names fuel (rStep way lab bk names S) := by show (if S.left = [] then S else _) = _; rw [if_neg hne]
          rw [e]
          refine Whiles.go (EvT.as (EvT.cmp (d₁ := .list ((S.left.map tx).map D.str)) (d₂ := .list (([] : List Str).map D.str)) (EvE.as (by k_places) (dTxs_strs _)) (EvE.as (EvE.list EvEs.nil) rfl) cmp_strs_ne) (by rw [txs_eq_nil]; simpa using hne)) ?_
            (ih (rStep way lab bk names S) (hinv.step hne) (by have := filter_ne_lt (pickB_mem way bk (spread lab bk names.length (S.found.getLastD []) S.left S.b) hne); show (S.left.filter _).length ≤ _; lia))
          · obtain ⟨fl, hfl, hfn⟩ := hinv.fne
            have hgl : S.found.getLastD [] = fl := by rw [List.getLastD_eq_getLast?, hfl]; rfl
            have l1 := hinv.l1
            have l2 := hinv.l2
            have l3 := hinv.l3
            have hsub := hinv.sub
            have hSs : S.left.length ≤ sizeLine := by simp only [sizeLine]; lia
            have hpm := pickB_mem way bk (spread lab bk names.length (S.found.getLastD []) S.left S.b) hne
            unfold rStep
            rw [hgl] at hpm ⊢
            dsimp only
            generalize hb' : spread lab bk names.length fl S.left S.b = b' at hpm ⊢
            generalize hf' : pickB way bk b' S.left = f at hpm ⊢
            -- the counts
            refine Exs.cons (Ex.for (t := false) (ds := S.left.map fun l => D.str (tx l)) (EvIt.list (by k_places)) (out := .next (vr (rVars left0 lab names bks way homes S.left b' S.taken S.found S.steps))) ?_) ?_
            · refine Fors.as (Fors.foldP (t := false) (fun l : Nm => D.str (tx l)) (fun b : Nm → Int => vr (rVars left0 lab names bks way homes S.left b S.taken S.found S.steps)) (fun b bl => (List.range names.length).foldl (innerF lab bk fl bl) b) (fun _ => True) (by intro h; cases h) S.left S.b trivial (fun _ _ _ _ => trivial) fun b bl hbl _ => ?_) (by rw [← hb']; rfl)
              have hbl0 := hsub bl hbl
              have hbh := hLm bl hbl0
              refine ⟨_, _, Asn.name (by decide +kernel), Exs.cons (Ex.for (t := false) (ds := (List.range names.length).map fun k : Nat => D.int k) (EvIt.callB b_range (EvEs.cons (EvE.callB b_len (by k_places) (call_len (by simp; lia))) EvEs.nil) (ci_range1 (by simp) (by lia)))
                (out := .next (vr (("block", .fz (.str (tx bl))) :: rVars left0 lab names bks way homes S.left ((List.range names.length).foldl (innerF lab bk fl bl) b) S.taken S.found S.steps))) ?_) Exs.nil, by k_subL⟩
              refine Fors.sub (Γ₁ := vr (("block", .fz (.str (tx bl))) :: rVars left0 lab names bks way homes S.left b S.taken S.found S.steps)) (by k_subL) ?_
              refine Fors.fold (t := false) (fun k : Nat => D.int k) (fun b : Nm → Int => vr (("block", .fz (.str (tx bl))) :: rVars left0 lab names bks way homes S.left b S.taken S.found S.steps)) (innerF lab bk fl bl) (by intro h; cases h) (List.range names.length) b fun b k hk => ?_
              have hk' := List.mem_range.mp hk
              have hgt : (S.found.map dBools).getLast? = some (dBools fl) := by rw [List.getLast?_map, hfl]; rfl
              have hfo : ∀ {Γ : Vars} {σ : List (Str × NameKind)}, True := trivial
              cases hc : fl.getD k false with
              | false =>
                refine ⟨_, _, Asn.name (by decide +kernel), Exs.cons (Ex.ite (b := false) (EvT.as (EvT.value (EvE.sub' (EvE.item_own (d₁ := .none) (by l_intsC) (by decide +kernel) (by k_places) (get_ol_last hgt (by rw [List.length_map]; lia))) (by k_places) (sub_list (by lia) (by lia) (bools_at (by lia)))) tru_bool) hc) (fun q => by cases q) (fun _ => Exs.nil)) Exs.nil, ?_⟩
                rw [innerF_no _ _ _ _ _ _ hc]
                k_subL
              | true =>
                refine ⟨_, _, Asn.name (by decide +kernel), Exs.cons (Ex.ite (b := true) (EvT.as (EvT.value (EvE.sub' (EvE.item_own (d₁ := .none) (by l_intsC) (by decide +kernel) (by k_places) (get_ol_last hgt (by rw [List.length_map]; lia))) (by k_places) (sub_list (by lia) (by lia) (bools_at (by lia)))) tru_bool) hc) (fun _ => Exs.cons (Ex.augitem (di := .str (tx bl)) (d₁ := .int (b bl)) (d₂ := .int ((dget (bk bl).t (lab.getD k "")).getD 0)) (by l_intsC) (by decide +kernel) (by k_places)
                  (EvE.flat (EvE.as (EvE.meth (EvE.sub' (d₂ := .int ((4 : Nat) : Int)) (EvE.sub' (by k_places) (by k_places) (sub_dict (hbook bl hbh))) (EvE.as (d := .int 4) (by k_places) rfl) (sub_tup (by lia) rfl)) (EvEs.cons (EvE.sub' (by k_places) (by k_places) (sub_list (by lia) (by lia) (strs_at (by rw [h.lab]; exact hk')))) (EvEs.cons (by k_places) EvEs.nil)) (mt_dict F.slot_dict_get F.type_dict_get) me_get) (getD_dT _ _ 0)) rfl)
                  inp_int (get_od' (bD_get left0 b bl hbl0)) (set_od (by rw [bD_len]; simp only [sizeLine]; lia))) Exs.nil) (fun q => by cases q)) Exs.nil, ?_⟩
                have e2 := innerF_put lab bk fl left0 bl b k hc hbl0
                dsimp only [rVars]
                rw [← e2]
                k_subL
            -- rows
            have hrow : (S.left.map fun bl => dRow (rowOf bk b' bl)) = (S.left.map (rowOf bk b')).map dRow := by rw [List.map_map]; rfl
            refine Exs.cons (Ex.compA (out := (S.left.map (rowOf bk b')).map dRow) (hrow ▸ Comp.allA (fun l => D.str (tx l)) (fun bl => dRow (rowOf bk b' bl)) S.left takes_ol (EvIt.list (by k_places)) hSs fun bl hbl => ?_)) ?_
            · have hbl0 := hsub bl hbl
              refine EvE.tup (EvEs.cons (EvE.sub' (d₂ := .int ((0 : Nat) : Int)) (EvE.sub' (by k_places) (by k_places) (sub_dict (hbook bl (hLm bl hbl0)))) (EvE.as (d := .int 0) (by k_places) rfl) (sub_tup (by lia) rfl)) (EvEs.cons (EvE.item_own (d₁ := .none) (by l_intsC) (by decide +kernel) (by k_places) (get_od (bD_get left0 b' bl hbl0))) (EvEs.cons (EvE.as (d := .str (tx bl)) (by k_places) rfl) EvEs.nil)))
            -- first
            obtain ⟨h0, tl, hl⟩ : ∃ h0 tl, S.left = h0 :: tl := by
              cases q : S.left with
              | nil => exact absurd q hne
              | cons a l => exact ⟨a, l, rfl⟩
            refine Exs.cons (Ex.set (d := dRow (rowOf bk b' h0)) (EvE.sub' (d₂ := .int ((0 : Nat) : Int)) (by k_places) (EvE.as (d := .int 0) (by k_places) rfl) (sub_list (by lia) (by lia) (by rw [hl]; rfl))) (by decide +kernel)) ?_
            have hpick : S.left.foldl (pickStep way bk b') h0 = f := by rw [← hf']; unfold pickB; rw [hl]; rfl
            refine Exs.cons (Ex.for (t := false) (ds := S.left.map fun bl => dRow (rowOf bk b' bl)) (EvIt.list (EvE.as (by k_places) (by rw [hrow]))) (out := .next (vr (("first", .fz (dRow (rowOf bk b' f))) :: ("rows", .fz (.list ((S.left.map (rowOf bk b')).map dRow))) :: rVars left0 lab names bks way homes S.left b' S.taken S.found S.steps))) ?_) ?_
            · refine Fors.sub (Γ₁ := vr (("first", .fz (dRow (rowOf bk b' h0))) :: ("rows", .fz (.list ((S.left.map (rowOf bk b')).map dRow))) :: rVars left0 lab names bks way homes S.left b' S.taken S.found S.steps)) (by k_subL) ?_
              refine Fors.as (Fors.fold (t := false) (fun bl : Nm => dRow (rowOf bk b' bl)) (fun f : Nm => vr (("first", .fz (dRow (rowOf bk b' f))) :: ("rows", .fz (.list ((S.left.map (rowOf bk b')).map dRow))) :: rVars left0 lab names bks way homes S.left b' S.taken S.found S.steps)) (pickStep way bk b') (by intro h; cases h) S.left h0 fun f bl hbl => ?_) (by rw [hpick])
              by_cases hc : rowCmp way (rowOf bk b' bl) (rowOf bk b' f) < 0
              · have e3 : pickStep way bk b' f bl = bl := by unfold pickStep; rw [if_pos hc]
                rw [e3]
                exact ⟨_, _, Asn.name (by decide +kernel), Exs.cons (Ex.ite (b := true) (EvT.as (EvT.cmp (EvE.compare (by k_places) (by k_places) (by k_places)) (by k_places) cmp_int_lt) (by simpa using hc)) (fun _ => Exs.cons (Ex.set (by k_places) (by decide +kernel)) Exs.nil) (fun q => by cases q)) Exs.nil, by k_subL⟩
              · have e3 : pickStep way bk b' f bl = f := by unfold pickStep; rw [if_neg hc]
                rw [e3]
                exact ⟨_, _, Asn.name (by decide +kernel), Exs.cons (Ex.ite (b := false) (EvT.as (EvT.cmp (EvE.compare (by k_places) (by k_places) (by k_places)) (by k_places) cmp_int_lt) (by simpa using hc)) (fun q => by cases q) (fun _ => Exs.nil)) Exs.nil, by k_subL⟩
            -- the step is noted
            have es : (S.steps ++ [(S.left.map (rowOf bk b'), rowOf bk b' f)]).map dStep = S.steps.map dStep ++ [dStep (S.left.map (rowOf bk b'), rowOf bk b' f)] := by rw [List.map_append]; rfl
            have et : (S.taken ++ [f]).map (fun l => D.str (tx l)) = S.taken.map (fun l => D.str (tx l)) ++ [D.str (tx f)] := by rw [List.map_append]; rfl
            have ef : (S.found ++ [foundRow names f]).map dBools = S.found.map dBools ++ [dBools (foundRow names f)] := by rw [List.map_append]; rfl
            have hff := found_spec (w := w) (names := names) (block := f) h.low (hlow f (hLm f (hsub f hpm))) (by lia)
            have hfr' : (names.map fun l => D.bool (inL l f)) = (foundRow names f).map D.bool := by unfold foundRow; rw [List.map_map]; rfl
            rw [hfr'] at hff
            refine Exs.cons (Ex.append (d := dStep (S.left.map (rowOf bk b'), rowOf bk b' f)) (by l_intsC) (by decide +kernel) (by k_places) (by rw [List.length_map]; simp only [sizeLine]; lia)) ?_
            have i2 : ∀ {Γ : Vars} {σ : List (Str × NameKind)} {m : Bool} {x e2 : Expr} {pos : Pos}, EvE (cf w) σ 3 Γ m x (dRow (rowOf bk b' f)) → EvE (cf w) σ 3 Γ m e2 (.int 2) → (∀ o i, subscripted e2 false o i = operate [o, i] (getItem o i)) → EvE (cf w) σ 3 Γ m (.Subscript x e2 pos) (.str (tx f)) := fun a b hs => row2 (r := rowOf bk b' f) a b hs
            refine Exs.cons (Ex.append (d := .str (tx f)) (by l_intsC) (by decide +kernel) (i2 (by k_places) (by k_places) (by intro _ _; rfl)) (by rw [List.length_map]; simp only [sizeLine]; lia)) ?_
            refine Exs.cons (Ex.append (d := dBools (foundRow names f)) (by l_intsC) (by decide +kernel) (EvE.calld t_found (EvEs.cons (by k_places) (EvEs.cons (i2 (by k_places) (by k_places) (by intro _ _; rfl)) EvEs.nil)) hff) (by rw [List.length_map]; simp only [sizeLine]; lia)) ?_
            refine Exs.weaken (Exs.cons (Ex.compA (out := ((S.left.filter fun x => x != f).map fun l => D.str (tx l))) (Comp.filA (fun l => D.str (tx l)) (fun x => x != f) (fun l => D.str (tx l)) S.left takes_ol (EvIt.list (by k_places)) hSs
              (fun x hx => EvT.as (EvT.cmp (by k_places) (row2 (r := rowOf bk b' f) (by k_places) (by k_places) (by intro _ _; rfl)) cmp_str_ne) (by simp only [bne]; show (!(tx x == tx f)) = _; rw [tx_beq])) (fun x hx _ => by k_places))) Exs.nil) ?_
            dsimp only [rVars]
            rw [es, et, ef]
            k_subL
    · generalize rLoop way lab bk names left0.length S = Z
      refine Exs.freeze (x := "taken") (by l_intsC) frz_ol ?_
      refine Exs.freeze (x := "found") (by l_intsC) frz_ol ?_
      refine Exs.freeze (x := "steps") (by l_intsC) frz_ol ?_
      exact Exs.ret (Ex.ret (by k_places))
end
-- E18
section
variable {w : World}
-- the whole of _law_fewest: its model
noncomputable def labL : List Nm := [[97], [98, 97], [99, 97], [100, 97], [101, 97]]
noncomputable def freshL : List Nm := [[115] ++ dotLocal, [116, 115] ++ dotLocal, [117, 115] ++ dotLocal, [118, 115] ++ dotLocal]
theorem labs_tx (n : Nat) (h : n = 4 ∨ n = 5) : labs n = (labL.take n).map tx := by
  rcases h with rfl | rfl <;> decide +kernel
structure FSt where
  names : List Nm
  hs : Nm → List Nat
  ks : List Nm
  counts : List Int
/-- what stays through the rounds -/
structure FEnv where
  N : Nat
  lab : List Str
  T : List Tab
  E : List Int
  bonds : List (Int × Int × Int)
  way : Int
  begin : Nat
noncomputable def bkOf (v : FEnv) (hs : Nm → List Nat) : Nm → En := fun x => sumEn v.T v.E (hs x)
noncomputable def homeF (l : Nm) : Nm := (homeL 20 l).getD []
noncomputable def roundS (v : FEnv) (S : FSt) : RSt := roundOf v.way v.lab (bkOf v S.hs) S.names (S.names.map homeF) v.begin
noncomputable def lastB (v : FEnv) (S : FSt) : Nm := (roundS v S).taken.getLastD []
noncomputable def beforeB (v : FEnv) (S : FSt) : Nm := (roundS v S).taken.dropLast.getLastD []
noncomputable def lastF (v : FEnv) (S : FSt) : List Bool := (roundS v S).found.getLastD []
noncomputable def outerT (v : FEnv) (fl : List Bool) (t : Tab) (ks : List Nat) : Tab := (ks.filter fun k => !(fl.getD k false)).map fun k => (v.lab.getD k "", (dget t (v.lab.getD k "")).getD 0)
noncomputable def cutC (v : FEnv) (S : FSt) : Int := ((outerT v (lastF v S) (bkOf v S.hs (lastB v S)).t (List.range v.N)).map (·.2)).foldl (· + ·) 0
noncomputable def hsNew (v : FEnv) (S : FSt) (fresh : Nm) : Nm → List Nat := fun x => if x = fresh then S.hs (beforeB v S) ++ S.hs (lastB v S) else S.hs x
noncomputable def nameNew (v : FEnv) (S : FSt) (fresh : Nm) (k : Nat) : Nm := if (S.hs (beforeB v S) ++ S.hs (lastB v S)).contains k then (S.names.getD k []).take ((S.names.getD k []).length - 5) ++ fresh else S.names.getD k []
noncomputable def fStep (v : FEnv) (S : FSt) (fresh : Nm) : FSt := ⟨(List.range v.N).map (nameNew v S fresh), hsNew v S fresh, S.ks ++ [fresh], S.counts ++ [cutC v S]⟩
noncomputable def toI (xs : List Nat) : List Int := xs.map fun (k : Nat) => (k : Int)
noncomputable def sidesR (v : FEnv) (S : FSt) : List (List Int) := sidesOf (toI (S.hs (lastB v S))) (((roundS v S).taken.take ((roundS v S).taken.length - 2)).map fun x => toI (S.hs x))
noncomputable def dBooks (v : FEnv) (S : FSt) : List (Str × D) := S.ks.map fun x => (tx x, dEn (bkOf v S.hs x))
noncomputable def dHosts (S : FSt) : List (Str × D) := S.ks.map fun x => (tx x, dNats (S.hs x))
structure FEnvOk (v : FEnv) : Prop where
  N : v.N = 4 ∨ v.N = 5
  lab : v.lab.length = v.N
  nd : v.lab.Nodup
  T : v.T.length = v.N
  E : v.E.length = v.N
  Tl : ∀ t ∈ v.T, t.length ≤ 100
  bl : v.bonds.length ≤ 1000
  way : v.way = 1 ∨ v.way = -1
structure HostOk (v : FEnv) (S : FSt) : Prop where
  nlen : S.names.length = v.N
  host : ∀ x ∈ S.ks, (S.hs x).length ≤ 9 ∧ ∀ k ∈ S.hs x, k < v.N
structure RoundFact (v : FEnv) (S : FSt) (fresh : Nm) : Prop where
  ok : RoundOk v.lab (bkOf v S.hs) S.names homeF (dBooks v S)
  fl : (roundS v S).found.length = (roundS v S).taken.length
  tlen : (roundS v S).taken.length ≤ 7 ∧ 2 ≤ (roundS v S).taken.length
  tk : ∀ x ∈ (roundS v S).taken, x ∈ S.ks
  block : ∀ k < (roundS v S).taken.length, BlockOk ((roundS v S).taken.getD k []) (S.names.map homeF) ((roundS v S).found.getD k []) (S.hs ((roundS v S).taken.getD k []))
  steps : ∀ s ∈ (roundS v S).steps, StepOk v.way s.1 s.2
  flast : (lastF v S).length = v.N
  alone : AloneOk (lastB v S)
  stepc : ∃ rows first, (roundS v S).steps.getLast? = some (rows, first) ∧ first.b = cutC v S
  stl : (roundS v S).steps.length ≤ 100
  sdl : (sidesR v S).length ≤ 1000
  cut : cutC v S = minI ((sidesR v S).map (between v.bonds)) ∧ sidesR v S ≠ []
  fnew : fresh ∉ S.ks
  flow : LowN fresh
  merge : addEn (bkOf v S.hs (beforeB v S)) (bkOf v S.hs (lastB v S)) = sumEn v.T v.E (S.hs (beforeB v S) ++ S.hs (lastB v S))
  post : HostOk v (fStep v S fresh)
noncomputable def Facts (v : FEnv) : List Nm → FSt → Prop
  | [], _ => True
  | f :: r, S => RoundFact v S f ∧ Facts v r (fStep v S f)
noncomputable def fStart (v : FEnv) : FSt := ⟨(labL.take v.N).map (· ++ dotLocal), fun x => ((List.range v.N).filter fun k => (labL.getD k [] ++ dotLocal) == x), (labL.take v.N).map (· ++ dotLocal), []⟩
theorem dget_map {α : Type} (ks : List Nm) (f : Nm → α) (x : Nm) (h : x ∈ ks) : dget (ks.map fun y => (tx y, f y)) (tx x) = some (f x) := by
  induction ks with
  | nil => cases h
  | cons a l ih =>
    unfold dget
    simp only [List.map_cons, List.find?_cons, tx_inj]
    by_cases ha : a = x
    · subst ha; simp
    · have hl : x ∈ l := by
        rcases List.mem_cons.mp h with q | q
        · exact absurd q.symm ha
        · exact q
      simp only [ha, decide_false]
      exact ih hl
theorem put_map {α : Type} (ks : List Nm) (f g : Nm → α) (x : Nm) (h : x ∉ ks) (hg : ∀ y, y ≠ x → g y = f y) : put (ks.map fun y => (tx y, f y)) (tx x) (g x) = (ks ++ [x]).map fun y => (tx y, g y) := by
  unfold put
  rw [if_neg]
  · rw [List.map_append]
    congr 1
    apply List.map_congr_left
    intro y hy
    rw [hg y fun e => h (e ▸ hy)]
  · intro q
    obtain ⟨p, hp, e⟩ := List.any_eq_true.mp q
    obtain ⟨y, hy, rfl⟩ := List.mem_map.mp hp
    simp [tx_inj] at e
    exact h (e ▸ hy)
theorem dNats_toI (xs : List Nat) : dNats xs = dInts (toI xs) := by unfold toI; show D.list _ = D.list _; rw [List.map_map]; rfl
theorem two_last {α : Type} : ∀ (L : List α), 2 ≤ L.length → ∃ p a b, L = p ++ [a, b] := by
  intro L h
  refine ⟨L.take (L.length - 2), L[L.length - 2]'(by lia), L[L.length - 1]'(by lia), ?_⟩
  have h1 : L.drop (L.length - 2) = [L[L.length - 2]'(by lia), L[L.length - 1]'(by lia)] := by
    rw [List.drop_eq_getElem_cons (by lia)]
    congr 1
    rw [List.drop_eq_getElem_cons (by lia)]
    have e : L.length - 2 + 1 = L.length - 1 := by lia
    simp only [e]
    congr 1
    exact List.drop_eq_nil_of_le (by lia)
  rw [← h1, List.take_append_drop]
theorem put_new {α : Type} (l : List (Str × α)) (k : Str) (v : α) (h : ∀ p ∈ l, p.1 ≠ k) : put l k v = l ++ [(k, v)] := by
  unfold put
  rw [if_neg]
  intro q
  obtain ⟨p, hp, e⟩ := List.any_eq_true.mp q
  exact h p hp (by simpa using e)
theorem outerT_snoc (v : FEnv) (fl : List Bool) (t : Tab) (dn : List Nat) (k : Nat) : outerT v fl t (dn ++ [k]) = outerT v fl t dn ++ (if fl.getD k false = true then [] else [(v.lab.getD k "", (dget t (v.lab.getD k "")).getD 0)]) := by
  unfold outerT
  rw [List.filter_append, List.map_append]
  congr 1
  cases h : fl.getD k false
  · simp only [List.filter_cons, h]; rfl
  · simp only [List.filter_cons, h]; rfl
theorem outerT_key (v : FEnv) (fl : List Bool) (t : Tab) (dn : List Nat) (k : Nat) (hnd : v.lab.Nodup) (hd : ∀ j ∈ dn, j < v.lab.length) (hk : k < v.lab.length) (hn : k ∉ dn) : ∀ p ∈ dT (outerT v fl t dn), p.1 ≠ v.lab.getD k "" := by
  intro p hp e
  unfold dT outerT at hp
  simp only [List.map_map, List.mem_map] at hp
  obtain ⟨j, hj, rfl⟩ := hp
  have hj' := (List.mem_filter.mp hj).1
  have h1 := hd j hj'
  simp only [Function.comp_def] at e
  rw [List.getD_eq_getElem?_getD, List.getD_eq_getElem?_getD, List.getElem?_eq_getElem h1, List.getElem?_eq_getElem hk] at e
  simp only [Option.getD_some] at e
  have := (List.getElem_inj hnd).mp e
  exact hn (this ▸ hj')
theorem facts_end {v : FEnv} : ∀ (xs : List Nm) (x0 : Nm) (S : FSt), Facts v (x0 :: xs) S → HostOk v (xs.foldl (fStep v) (fStep v S x0)) ∧ xs.getLastD x0 ∈ (xs.foldl (fStep v) (fStep v S x0)).ks ∧ (xs.foldl (fStep v) (fStep v S x0)).counts ≠ [] ∧
    (xs.foldl (fStep v) (fStep v S x0)).ks.length = S.ks.length + (xs.length + 1)
  | [], x0, S, h => ⟨h.1.post, by simp [fStep], by simp [fStep], by simp [fStep]⟩
  | x :: xs, x0, S, h => by
    have := facts_end xs x (fStep v S x0) h.2
    have e2 : (x :: xs).getLastD x0 = xs.getLastD x := by cases xs <;> rfl
    rw [e2]
    refine ⟨this.1, this.2.1, this.2.2.1, ?_⟩
    have h4 := this.2.2.2
    simp only [List.foldl_cons, List.length_cons]
    rw [h4]
    simp only [fStep, List.length_append, List.length_cons, List.length_nil]
    lia
end
-- E19
section
variable {w : World}
noncomputable abbrev fCtx (v : FEnv) : List (Str × Slot) := [("labels", .fz (dStrs v.lab)), ("bonds", .fz (.list (v.bonds.map dBond))), ("way", .fz (.int v.way)), ("begin", .fz (.int (v.begin : Nat))), ("size", .fz (.int (v.N : Nat))), ("keys", .fz (dKeys v.way)), ("tables", .fz (dTabs v.T)), ("ends", .fz (dInts v.E))]
noncomputable abbrev fVars (v : FEnv) (S : FSt) : List (Str × Slot) := ("names", .fz (dTxs S.names)) :: ("books", .od (dBooks v S)) :: ("hosts", .od (dHosts S)) :: ("counts", .ol (S.counts.map D.int)) :: fCtx v
theorem sum_at {v : FEnv} {S : FSt} {x : Nm} (hv : FEnvOk v) (h : HostOk v S) (hx : x ∈ S.ks) : FunSpec (cf w) 130 1 [dTabs v.T, dInts v.E, dNats (S.hs x)] (dEn (bkOf v S.hs x)) := by
  obtain ⟨h1, h2⟩ := h.host x hx
  have hN := hv.N
  have hT := hv.T
  have hE := hv.E
  exact sum_spec (fun t ht => Nat.le_trans (hv.Tl t ht) (by lia)) (by lia) (fun k hk => by have := h2 k hk; lia) (by lia)
theorem sumEn_len {v : FEnv} (hv : FEnvOk v) {xs : List Nat} (h : xs.length ≤ 9) : (sumEn v.T v.E xs).t.length ≤ 1000 := by
  have key : ∀ (l : List Nat) (t : Tab), (l.foldl (fun t h => ((v.T.getD h []).map (·.1)).foldl (addGet (v.T.getD h [])) t) t).length ≤ t.length + 100 * l.length := by
    intro l
    induction l with
    | nil => intro t; simp
    | cons k l ih =>
      intro t
      have h1 := ih (((v.T.getD k []).map (·.1)).foldl (addGet (v.T.getD k [])) t)
      have h2 := foldGet_len (v.T.getD k []) ((v.T.getD k []).map (·.1)) t
      have h3 := getD_le (i := k) hv.Tl
      simp only [List.length_map] at h2
      simp only [List.foldl_cons, List.length_cons]
      lia
  have := key xs []
  show (sumT v.T xs).length ≤ 1000
  unfold sumT
  simp only [List.length_nil] at this
  lia
noncomputable def nmK (k : Nat) : Nm := labL.getD k [] ++ dotLocal
theorem nmK_inj : ∀ i, i < 5 → ∀ j, j < 5 → nmK i = nmK j → i = j := by decide
theorem hs_start {v : FEnv} (hN : v.N = 4 ∨ v.N = 5) : ∀ k, k < v.N → (fStart v).hs (nmK k) = [k] := by
  unfold fStart
  rcases hN with q | q <;> rw [q] <;> decide
theorem ks_start {v : FEnv} (hN : v.N = 4 ∨ v.N = 5) : (fStart v).ks = (List.range v.N).map nmK := by
  unfold fStart
  rcases hN with q | q <;> rw [q] <;> decide
theorem nm_start {v : FEnv} (hN : v.N = 4 ∨ v.N = 5) : (fStart v).names = (List.range v.N).map nmK := by
  unfold fStart
  rcases hN with q | q <;> rw [q] <;> decide
theorem put_nm {α : Type} (l : List Nat) (f : Nat → α) (k : Nat) (hl : ∀ j ∈ l, j < 5) (hk : k < 5) (hn : k ∉ l) : put (l.map fun j => (tx (nmK j), f j)) (tx (nmK k)) (f k) = (l ++ [k]).map fun j => (tx (nmK j), f j) := by
  unfold put
  rw [if_neg]
  · rw [List.map_append]; rfl
  · intro q
    obtain ⟨p, hp, e⟩ := List.any_eq_true.mp q
    obtain ⟨j, hj, rfl⟩ := List.mem_map.mp hp
    simp [tx_inj] at e
    exact hn (nmK_inj j (hl j hj) k hk e ▸ hj)
set_option maxHeartbeats 4000000 in
theorem fewest_spec {v : FEnv} {log : List Call} (hv : FEnvOk v) (hlab : v.lab = (labL.take v.N).map tx) (hlog : InRange v.N log) (hll : log.length ≤ 50) (hled : ledgersOf v.lab log = (v.T, v.E)) (hent : entriesOf v.lab log = (List.range v.N).map fun k => sumEn v.T v.E [k])
    (h0 : HostOk v (fStart v)) (hF : Facts v (freshL.take (v.N - 1)) (fStart v)) :
    FunSpec (cf w) 189 5 [dStrs v.lab, dLog log, .list (v.bonds.map dBond), .int v.way, .int (v.begin : Nat)] (.int (minI ((freshL.take (v.N - 1)).foldl (fStep v) (fStart v)).counts)) := by
  refine FunSpec.of_body (ps := ["labels", "log", "bonds", "way", "begin"]) (by rfl) rfl (by kernel_rfl) rfl (fun vs h => ?_) rfl rfl rfl (by decide +kernel) (by decide +kernel) (by decide +kernel) rfl rfl rfl rfl ?_
  · obtain ⟨_, _, _, _, _, rfl⟩ := lst5 h; rfl
  · dsimp only
    have hN := hv.N
    have hln := hv.lab
    refine Exs.cons (Ex.set (d := .int (v.N : Nat)) (EvE.as (EvE.callB b_len (by k_places) (call_len (by simp; lia))) (by rw [List.length_map, hln])) (by decide +kernel)) ?_
    refine Exs.cons (Ex.set (d := dKeys v.way) (EvE.call (f := Str.ofString "TupleComp") (a := 88) (by decide +kernel) (by kernel_rfl) (by kernel_rfl) (EvEs.cons (EvE.list (EvEs.cons (EvE.tup (EvEs.cons (by k_places) (EvEs.cons (by k_places) EvEs.nil))) (EvEs.cons (EvE.tup (EvEs.cons (by k_places) (EvEs.cons (by k_places) EvEs.nil))) EvEs.nil))) EvEs.nil) cls_spec (by decide) (hd := by decide +kernel)) (by decide +kernel)) ?_
    have hls := ledgers_spec (w := w) (lab := v.lab) (log := log) (by lia) (by rw [hln]; exact hlog) hll
    rw [hled] at hls
    refine Exs.cons (Ex.assignT (EvE.calld t_ledgers (by k_places) hls) (Asn.tuple (AsnL.cons (Asn.name (by decide +kernel)) (AsnL.cons (Asn.name (by decide +kernel)) AsnL.nil)))) ?_
    -- names
    have hnm : (v.lab.map D.str) = ((labL.take v.N).map fun l => D.str (tx l)) := by rw [hlab, List.map_map]; rfl
    have hLl : (labL.take v.N).length = v.N := by rcases hN with q | q <;> rw [q] <;> rfl
    have hno : ((labL.take v.N).map fun l => D.str (tx (l ++ dotLocal))) = (fStart v).names.map fun l => D.str (tx l) := by unfold fStart; rw [List.map_map]; rfl
    have hLm : ∀ l ∈ labL, l.length < 10 := by decide
    refine Exs.cons (Ex.compA (out := (fStart v).names.map fun l => D.str (tx l)) (hno ▸ Comp.allA (fun l => D.str (tx l)) (fun l => D.str (tx (l ++ dotLocal))) (labL.take v.N) takes_ol (EvIt.list (EvE.as (by k_places) (by show D.list _ = _; rw [hnm]))) (by rw [hLl]; simp only [sizeLine]; lia) fun l hl => ?_)) ?_
    · exact EvE.bin (by k_places) (EvE.strL dotlocal_tx) (bin_tx (by have := hLm l (List.mem_of_mem_take hl); simp [dotLocal, localL]; lia))
    with_reducible refine Exs.cons (Ex.assign EvO.dict0 ?_ ?_) ?_
    · decide +kernel
    · intro _ _ _; rfl
    with_reducible refine Exs.cons (Ex.assign EvO.dict0 ?_ ?_) ?_
    · decide +kernel
    · intro _ _ _; rfl
    have hes := entries_spec (w := w) (lab := v.lab) (log := log) (by lia) (by rw [hln]; exact hlog) hll
    rw [hent] at hes
    have hds : ((((List.range v.N).map fun k => sumEn v.T v.E [k]).map dEn).zipIdx 0).map (fun p => D.tup [.int (p.2 : Nat), p.1]) = (List.range v.N).map fun k : Nat => D.tup [.int k, dEn (sumEn v.T v.E [k])] := by rcases hN with q | q <;> rw [q] <;> rfl
    refine Exs.cons (Ex.for (t := true) (ds := (List.range v.N).map fun k : Nat => D.tup [.int k, dEn (sumEn v.T v.E [k])]) (EvIt.as (EvIt.callB b_enum (EvEs.cons (EvE.calld t_entries (by k_places) hes) EvEs.nil) ci_enum) hds)
      (out := .next (vr (("books", .od (dBooks v (fStart v))) :: ("hosts", .od (dHosts (fStart v))) :: ("names", .fz (dTxs (fStart v).names)) :: fCtx v))) ?_) ?_
    · refine Fors.sub (Γ₁ := vr (("books", .od (([] : List Nat).map fun j => (tx (nmK j), dEn (sumEn v.T v.E [j])))) :: ("hosts", .od (([] : List Nat).map fun j => (tx (nmK j), dNats [j]))) :: ("names", .fz (dTxs (fStart v).names)) :: fCtx v)) (by
        show ∀ x sl, vr (("books", .od []) :: ("hosts", .od []) :: ("names", .fz (dTxs (fStart v).names)) :: fCtx v) x = some sl → _; k_subL) ?_
      have e1 : dBooks v (fStart v) = (List.range v.N).map fun j => (tx (nmK j), dEn (sumEn v.T v.E [j])) := by
        unfold dBooks; rw [ks_start hN, List.map_map]
        apply List.map_congr_left
        intro k hk
        simp only [Function.comp_def, bkOf]
        rw [hs_start hN k (List.mem_range.mp hk)]
      have e2 : dHosts (fStart v) = (List.range v.N).map fun j => (tx (nmK j), dNats [j]) := by
        unfold dHosts; rw [ks_start hN, List.map_map]
        apply List.map_congr_left
        intro k hk
        simp only [Function.comp_def]
        rw [hs_start hN k (List.mem_range.mp hk)]
      refine Fors.as (Fors.foldQ (t := true) (fun k : Nat => D.tup [.int k, dEn (sumEn v.T v.E [k])]) (fun dn : List Nat => vr (("books", .od (dn.map fun j => (tx (nmK j), dEn (sumEn v.T v.E [j])))) :: ("hosts", .od (dn.map fun j => (tx (nmK j), dNats [j]))) :: ("names", .fz (dTxs (fStart v).names)) :: fCtx v)) (fun dn k => dn ++ [k])
        (fun r dn => dn ++ r = List.range v.N) (by intro _; exact ⟨_, _, _, rfl⟩) (List.range v.N) [] (by simp) (fun dn k r h => by simpa using h) (fun dn k r hk h => ?_)) (by rw [fold_snoc, List.nil_append, e1, e2])
      have hk' := List.mem_range.mp hk
      have hdn : ∀ j ∈ dn, j < 5 := fun j hj => by
        have : j ∈ List.range v.N := by rw [← h]; exact List.mem_append_left _ hj
        have := List.mem_range.mp this; lia
      have hnk : k ∉ dn := fun q => by
        have : (List.range v.N).Nodup := List.nodup_range
        rw [← h] at this
        exact (List.nodup_append.mp this).2.2 k q k List.mem_cons_self rfl
      have hdl : dn.length ≤ 5 := by have := congrArg List.length h; simp only [List.length_append, List.length_range] at this; lia
      have nAt : ((fStart v).names.map fun l => D.str (tx l))[((k : Nat) : Int).toNat]? = some (.str (tx (nmK k))) := by
        rw [nm_start hN, txs_at (by simpa using hk')]
        have : ((List.range v.N).map nmK).getD k [] = nmK k := by rw [List.getD_eq_getElem?_getD, List.getElem?_map, List.getElem?_range hk']; rfl
        rw [this]
      rw [← put_nm dn (fun j => dEn (sumEn v.T v.E [j])) k hdn (by lia) hnk, ← put_nm dn (fun j => dNats [j]) k hdn (by lia) hnk]
      refine ⟨_, _, Asn.tuple (AsnL.cons (Asn.name (by decide +kernel)) (AsnL.cons (Asn.name (by decide +kernel)) AsnL.nil)), Exs.cons (Ex.setitem (by l_intsC) (by decide +kernel) (by k_places) (EvE.sub' (by k_places) (by k_places) (sub_list (by lia) (by lia) nAt)) (set_od (by rw [List.length_map]; simp only [sizeLine]; lia)))
        (Exs.cons (Ex.setitem (dv := dNats [k]) (by l_intsC) (by decide +kernel) (EvE.list (EvEs.cons (by k_places) EvEs.nil)) (EvE.sub' (by k_places) (by k_places) (sub_list (by lia) (by lia) nAt)) (set_od (by rw [List.length_map]; simp only [sizeLine]; lia))) Exs.nil), ?_⟩
      k_subL
    with_reducible refine Exs.cons (Ex.assign (EvO.list (ds := []) EvEs.nil ?_) ?_ ?_) ?_
    · simp [sizeLine]
    · decide +kernel
    · intro _ _ _; rfl
    have hfl : (([.str "s.local", .str "ts.local", .str "us.local", .str "vs.local"] : List D).take (v.N - 1)) = (freshL.take (v.N - 1)).map fun l => D.str (tx l) := by
      have : ([.str "s.local", .str "ts.local", .str "us.local", .str "vs.local"] : List D) = freshL.map fun l => D.str (tx l) := by
        show _ = [D.str (tx _), D.str (tx _), D.str (tx _), D.str (tx _)]
        rw [show Str.ofString "s.local" = tx ([115] ++ dotLocal) by decide +kernel, show Str.ofString "ts.local" = tx ([116, 115] ++ dotLocal) by decide +kernel, show Str.ofString "us.local" = tx ([117, 115] ++ dotLocal) by decide +kernel, show Str.ofString "vs.local" = tx ([118, 115] ++ dotLocal) by decide +kernel]
      rw [this, List.map_take]
    obtain ⟨x0, xs, hxs⟩ : ∃ x0 xs, freshL.take (v.N - 1) = x0 :: xs := by rcases hN with q | q <;> rw [q] <;> exact ⟨_, _, rfl⟩
    have hxl : (x0 :: xs).length ≤ 4 := by rw [← hxs]; simp [freshL]; lia
    have hks0 : (fStart v).ks.length ≤ 5 := by rw [ks_start hN]; simp; lia
    rw [hxs] at hF hfl ⊢
    have hstart : ∀ x sl, vr (fVars v (fStart v)) x = some sl → upd (vr (("books", .od (dBooks v (fStart v))) :: ("hosts", .od (dHosts (fStart v))) :: ("names", .fz (dTxs (fStart v).names)) :: fCtx v)) (Str.ofString "counts") (Slot.ol []) x = some sl := by
      show ∀ x sl, vr (("names", .fz (dTxs (fStart v).names)) :: ("books", .od (dBooks v (fStart v))) :: ("hosts", .od (dHosts (fStart v))) :: ("counts", .ol []) :: fCtx v) x = some sl → _
      k_subL
    have hc0 : (fStart v).counts.length = 0 := rfl
    generalize fStart v = S0 at hstart hF h0 hc0 hks0 ⊢
    refine Exs.sub hstart ?_
    refine Exs.cons (Ex.for (t := false) (ds := (x0 :: xs).map fun l => D.str (tx l)) (EvIt.list (EvE.as (EvE.slice (hi := some ((v.N - 1 : Nat) : Int)) (d₁ := .list [.str "s.local", .str "ts.local", .str "us.local", .str "vs.local"]) (by k_places) PartOk.none (PartOk.some (EvE.as (EvE.bin (by k_places) (by k_places) bin_sub) (by congr 1; lia))) (sli_upto (v.N - 1) (by simp [sizeLine]))) (by rw [hfl])))
      (out := .next (vr (("fresh", .fz (.str (tx (xs.getLastD x0)))) :: fVars v (xs.foldl (fStep v) (fStep v S0 x0))))) ?_) ?_
    · refine Fors.chain (t := false) (fun l : Nm => D.str (tx l)) (fun S : FSt => vr (fVars v S)) (fun S f => vr (("fresh", .fz (.str (tx f))) :: fVars v S)) (fStep v)
        (fun r S => Facts v r S ∧ HostOk v S ∧ S.counts.length + r.length ≤ 100 ∧ S.ks.length + r.length ≤ 100) (by intro h; cases h) (fun S f r h => ⟨h.1.2, h.1.1.post, by have := h.2.2.1; simp only [fStep, List.length_append, List.length_cons, List.length_nil] at this ⊢; lia, by have := h.2.2.2; simp only [fStep, List.length_append, List.length_cons, List.length_nil] at this ⊢; lia⟩)
        (fun S f y sl h => ?_) (fun S f r h => ?_) xs x0 S0 ⟨hF, h0, by lia, by lia⟩
      · show vr (("fresh", .fz (.str (tx f))) :: fVars v S) y = some sl
        by_cases hy : y = Str.ofString "fresh"
        · subst hy
          exfalso
          have : vr (fVars v S) (Str.ofString "fresh") = none := by
            unfold fVars fCtx
            simp only [vr, upd]
            repeat (rw [if_neg (by decide +kernel)])
          rw [this] at h; cases h
        · exact vr_ne hy h
      obtain ⟨⟨hR, _⟩, hHo, hcl, hkl⟩ := h
      simp only [List.length_cons] at hcl hkl
      have hlast : lastB v S = (roundS v S).taken.getLastD [] := rfl
      have hbef : beforeB v S = (roundS v S).taken.dropLast.getLastD [] := rfl
      have hlf : lastF v S = (roundS v S).found.getLastD [] := rfl
      have hsi : sidesR v S = sidesOf (toI (S.hs (lastB v S))) (((roundS v S).taken.take ((roundS v S).taken.length - 2)).map fun x => toI (S.hs x)) := rfl
      have hrs := round_spec (w := w) (way := v.way) (begin := v.begin) hR.ok
      have hrs' : roundOf v.way v.lab (bkOf v S.hs) S.names (S.names.map homeF) v.begin = roundS v S := rfl
      rw [hrs'] at hrs
      obtain ⟨htl1, htl2⟩ := hR.tlen
      have htk := hR.tk
      have hfe := hR.fl
      have hblk := hR.block
      have hsteps := hR.steps
      have hstl0 := hR.stl
      have hnlen := hHo.nlen
      obtain ⟨srows, sfirst, hsl, hsb⟩ := hR.stepc
      have hnd : NoDict (.tup [dTxs (S.names.map homeF), dTxs (roundS v S).taken, .list ((roundS v S).found.map dBools), .list ((roundS v S).steps.map dStep)]) :=
        .tup (.cons (.list (NoDicts.map (fun _ => .str) _)) (.cons (.list (NoDicts.map (fun _ => .str) _)) (.cons (.list (NoDicts.map (fun _ => .list (NoDicts.map (fun _ => .bool) _)) _)) (.cons (.list (NoDicts.map (fun _ => .tup (.cons (.list (NoDicts.map (fun _ => .tup (.cons .int (.cons .int (.cons .str .nil)))) _)) (.cons (.tup (.cons .int (.cons .int (.cons .str .nil)))) .nil))) _)) .nil))))
      have hb : (bkOf v S.hs) = (bkOf v S.hs) := rfl
      generalize hRd : roundS v S = R at *
      have hbk : ∀ x ∈ R.taken, dget (dBooks v S) (tx x) = some (dEn (bkOf v S.hs x)) := fun x hx => dget_map _ _ x (htk x hx)
      have hhs : ∀ x ∈ R.taken, dget (dHosts S) (tx x) = some (dNats (S.hs x)) := fun x hx => dget_map _ _ x (htk x hx)
      have hsm : ∀ x ∈ R.taken, (bkOf v S.hs x).t.length ≤ 1000 := fun x hx => sumEn_len hv (hHo.host x (htk x hx)).1
      have hsl2 : sfirst.b = cutC v S := hsb
      -- 1
      refine ⟨_, vr (("fresh", .fz (.str (tx f))) :: fVars v (fStep v S f)), Asn.name (by decide +kernel), Exs.cons (Ex.assignT (EvE.lendDict (x := "books") (by l_intsC) (EvE.calld t_round (by k_places) hrs) hnd) (Asn.tuple (AsnL.cons (Asn.name (by decide +kernel)) (AsnL.cons (Asn.name (by decide +kernel)) (AsnL.cons (Asn.name (by decide +kernel)) (AsnL.cons (Asn.name (by decide +kernel)) AsnL.nil)))))) ?_, fun y sl e => e⟩
      -- 2
      let G1 : List (Str × Slot) := ("fresh", .fz (.str (tx f))) :: ("homes", .fz (dTxs (S.names.map homeF))) :: ("taken", .fz (dTxs R.taken)) :: ("found", .fz (.list (R.found.map dBools))) :: ("steps", .fz (.list (R.steps.map dStep))) :: fVars v S
      refine Exs.sub (Γ' := vr (("fresh", .fz (.str (tx f))) :: ("homes", .fz (dTxs (S.names.map homeF))) :: ("taken", .fz (dTxs R.taken)) :: ("found", .fz (.list (R.found.map dBools))) :: ("steps", .fz (.list (R.steps.map dStep))) :: fVars v S)) (by k_subL) ?_
      refine Exs.cons (Ex.for (t := false) (ds := (List.range R.taken.length).map fun k : Nat => D.int k) (EvIt.callB b_range (EvEs.cons (EvE.callB b_len (by k_places) (call_len (by simp; lia))) EvEs.nil) (ci_range1 (by simp) (by lia)))
        (out := .next (vr (("fresh", .fz (.str (tx f))) :: ("homes", .fz (dTxs (S.names.map homeF))) :: ("taken", .fz (dTxs R.taken)) :: ("found", .fz (.list (R.found.map dBools))) :: ("steps", .fz (.list (R.steps.map dStep))) :: fVars v S))) ?_) ?_
      · refine Fors.fold (t := false) (fun k : Nat => D.int k) (fun _ : Unit => vr (("fresh", .fz (.str (tx f))) :: ("homes", .fz (dTxs (S.names.map homeF))) :: ("taken", .fz (dTxs R.taken)) :: ("found", .fz (.list (R.found.map dBools))) :: ("steps", .fz (.list (R.steps.map dStep))) :: fVars v S)) (fun u _ => u) (by intro h; cases h) _ () fun _ k hk => ?_
        have hkl := List.mem_range.mp hk
        have htm : R.taken.getD k [] ∈ R.taken := getD_mem hkl
        have fAt : (R.found.map dBools)[((k : Nat) : Int).toNat]? = some (dBools (R.found.getD k [])) := by
          rw [Int.toNat_natCast, List.getElem?_map, List.getD_eq_getElem?_getD, List.getElem?_eq_getElem (by lia)]; rfl
        have tk : ∀ {Γ : Vars} {m : Bool} {e1 e2 : Expr} {pos : Pos} {σ : List (Str × NameKind)}, EvE (cf w) σ 4 Γ m e1 (dTxs R.taken) → EvE (cf w) σ 4 Γ m e2 (.int (k : Nat)) → (∀ o i, subscripted e2 false o i = operate [o, i] (getItem o i)) → EvE (cf w) σ 4 Γ m (.Subscript e1 e2 pos) (.str (tx (R.taken.getD k []))) :=
          fun a b hs => EvE.sub' a b (sub_list (by lia) (by lia) (txs_at hkl)) hs
        refine ⟨_, _, Asn.name (by decide +kernel), Exs.cons (Ex.set (EvE.calld t_sum (EvEs.cons (by k_places) (EvEs.cons (by k_places) (EvEs.cons (EvE.item_own (d₁ := .none) (by l_intsC) (by decide +kernel) (tk (by k_places) (by k_places) (by intro _ _; rfl)) (get_od (hhs _ htm))) EvEs.nil))) (sum_at hv hHo (htk _ htm))) (by decide +kernel))
          (Exs.cons (Ex.ite (b := false) (EvT.as (EvT.not (EvT.value (EvE.calld t_block (EvEs.cons (tk (by k_places) (by k_places) (by intro _ _; rfl)) (EvEs.cons (by k_places) (EvEs.cons (EvE.sub' (by k_places) (by k_places) (sub_list (by lia) (by lia) fAt)) (EvEs.cons (EvE.item_own (d₁ := .none) (by l_intsC) (by decide +kernel) (tk (by k_places) (by k_places) (by intro _ _; rfl)) (get_od (hbk _ htm)))
            (EvEs.cons (by k_places) (EvEs.cons (EvE.item_own (d₁ := .none) (by l_intsC) (by decide +kernel) (tk (by k_places) (by k_places) (by intro _ _; rfl)) (get_od (hhs _ htm))) EvEs.nil)))))) (block_spec (hblk k hkl) (hsm _ htm))) tru_bool)) rfl) (fun q => by cases q) (fun _ => Exs.nil)) Exs.nil), ?_⟩
        k_subL
      -- 3
      refine Exs.cons (Ex.for (t := false) (ds := R.steps.map dStep) (EvIt.list (by k_places)) (out := .next (vr (("fresh", .fz (.str (tx f))) :: ("homes", .fz (dTxs (S.names.map homeF))) :: ("taken", .fz (dTxs R.taken)) :: ("found", .fz (.list (R.found.map dBools))) :: ("steps", .fz (.list (R.steps.map dStep))) :: fVars v S))) ?_) ?_
      · refine Fors.fold (t := false) dStep (fun _ : Unit => vr (("fresh", .fz (.str (tx f))) :: ("homes", .fz (dTxs (S.names.map homeF))) :: ("taken", .fz (dTxs R.taken)) :: ("found", .fz (.list (R.found.map dBools))) :: ("steps", .fz (.list (R.steps.map dStep))) :: fVars v S)) (fun u _ => u) (by intro h; cases h) _ () fun _ st hst => ?_
        refine ⟨_, _, Asn.tuple (AsnL.cons (Asn.name (by decide +kernel)) (AsnL.cons (Asn.name (by decide +kernel)) AsnL.nil)), Exs.cons (Ex.ite (b := false) (EvT.as (EvT.not (EvT.value (EvE.calld t_step (by k_places) (step_spec (hsteps st hst))) tru_bool)) rfl) (fun q => by cases q) (fun _ => Exs.nil)) Exs.nil, ?_⟩
        k_subL
      -- 4
      obtain ⟨pre, bb, ll, hp⟩ := two_last R.taken htl2
      have hbe : beforeB v S = bb := by rw [hbef, hp]; simp
      have hla : lastB v S = ll := by rw [hlast, hp]; simp
      have htake : R.taken.take (R.taken.length - 2) = pre := by rw [hp]; simp
      have hdrop : (R.taken.map fun l => D.str (tx l)).drop ((R.taken.map fun l => D.str (tx l)).length - 2) = [.str (tx bb), .str (tx ll)] := by rw [hp]; simp
      have hbbm : bb ∈ R.taken := by rw [hp]; simp
      have hllm : ll ∈ R.taken := by rw [hp]; simp
      refine Exs.cons (Ex.assignT (EvE.as (EvE.slice (lo := some (-((2 : Nat) : Int))) (by k_places) (PartOk.some (EvE.as (d := .int (-2)) (EvE.un (by k_places) un_neg) rfl)) PartOk.none (sli_last 2 (by lia) (by rw [List.length_map]; simp only [sizeLine]; lia))) (by rw [hdrop])) (Asn.tupleL (AsnL.cons (Asn.name (by decide +kernel)) (AsnL.cons (Asn.name (by decide +kernel)) AsnL.nil)))) ?_
      refine Exs.sub (Γ' := vr (("before", .fz (.str (tx bb))) :: ("last", .fz (.str (tx ll))) :: ("fresh", .fz (.str (tx f))) :: ("taken", .fz (dTxs R.taken)) :: ("found", .fz (.list (R.found.map dBools))) :: ("steps", .fz (.list (R.steps.map dStep))) :: fVars v S)) (by k_subL) ?_
      -- 5
      have hfne : R.found ≠ [] := fun q => by rw [q] at hfe; simp at hfe; lia
      have hfl? : (R.found.map dBools).getLast? = some (dBools (lastF v S)) := by
        rw [List.getLast?_map, hlf]
        rw [List.getLast?_eq_some_getLast hfne]
        simp [List.getLastD_eq_getLast?, List.getLast?_eq_some_getLast hfne]
      have hflen := hR.flast
      with_reducible refine Exs.cons (Ex.assign EvO.dict0 ?_ ?_) ?_
      · decide +kernel
      · intro _ _ _; rfl
      generalize hfv : lastF v S = fl at hfl? hflen
      generalize htt : (bkOf v S.hs ll).t = tt
      have hcut : cutC v S = ((outerT v fl tt (List.range v.N)).map (·.2)).foldl (· + ·) 0 := by unfold cutC; rw [hla, hfv, htt]
      refine Exs.cons (Ex.for (t := false) (ds := (List.range v.N).map fun k : Nat => D.int k) (EvIt.callB b_range (EvEs.cons (by k_places) EvEs.nil) (ci_range1 rfl (by lia)))
        (out := .next (vr (("outer", .od (dT (outerT v fl tt (List.range v.N)))) :: ("before", .fz (.str (tx bb))) :: ("last", .fz (.str (tx ll))) :: ("fresh", .fz (.str (tx f))) :: ("taken", .fz (dTxs R.taken)) :: ("found", .fz (.list (R.found.map dBools))) :: ("steps", .fz (.list (R.steps.map dStep))) :: fVars v S))) ?_) ?_
      · refine Fors.sub (Γ₁ := vr (("outer", .od (dT (outerT v fl tt []))) :: ("before", .fz (.str (tx bb))) :: ("last", .fz (.str (tx ll))) :: ("fresh", .fz (.str (tx f))) :: ("taken", .fz (dTxs R.taken)) :: ("found", .fz (.list (R.found.map dBools))) :: ("steps", .fz (.list (R.steps.map dStep))) :: fVars v S)) (by
          show ∀ x sl, vr (("outer", .od []) :: ("before", .fz (.str (tx bb))) :: ("last", .fz (.str (tx ll))) :: ("fresh", .fz (.str (tx f))) :: ("taken", .fz (dTxs R.taken)) :: ("found", .fz (.list (R.found.map dBools))) :: ("steps", .fz (.list (R.steps.map dStep))) :: fVars v S) x = some sl → _; k_subL) ?_
        refine Fors.as (Fors.foldQ (t := false) (fun k : Nat => D.int k) (fun dn : List Nat => vr (("outer", .od (dT (outerT v fl tt dn))) :: ("before", .fz (.str (tx bb))) :: ("last", .fz (.str (tx ll))) :: ("fresh", .fz (.str (tx f))) :: ("taken", .fz (dTxs R.taken)) :: ("found", .fz (.list (R.found.map dBools))) :: ("steps", .fz (.list (R.steps.map dStep))) :: fVars v S)) (fun dn k => dn ++ [k])
          (fun r dn => dn ++ r = List.range v.N) (by intro h; cases h) (List.range v.N) [] (by simp) (fun dn k r h => by simpa using h) (fun dn k r hk h => ?_)) (by rw [fold_snoc, List.nil_append])
        have hk' := List.mem_range.mp hk
        have hdn : ∀ j ∈ dn, j < v.lab.length := fun j hj => by
          have : j ∈ List.range v.N := by rw [← h]; exact List.mem_append_left _ hj
          have := List.mem_range.mp this; lia
        have hnk : k ∉ dn := fun q => by
          have : (List.range v.N).Nodup := List.nodup_range
          rw [← h] at this
          exact (List.nodup_append.mp this).2.2 k q k List.mem_cons_self rfl
        have hdl : dn.length ≤ 5 := by have := congrArg List.length h; simp only [List.length_append, List.length_range] at this; lia
        have hol : (dT (outerT v fl tt dn)).length ≤ 5 := by unfold dT outerT; rw [List.length_map, List.length_map]; exact Nat.le_trans (List.length_filter_le _ _) hdl
        have hkey := outerT_key v fl tt dn k hv.nd hdn (by lia) hnk
        have hsn := outerT_snoc v fl tt dn k
        cases hc : fl.getD k false with
        | true =>
          rw [hc, if_pos rfl, List.append_nil] at hsn
          refine ⟨_, _, Asn.name (by decide +kernel), Exs.cons (Ex.ite (b := false) (EvT.as (EvT.not (EvT.value (EvE.sub' (EvE.sub' (by k_places) (EvE.as (d := .int (-1)) (EvE.un (by k_places) un_neg) rfl) (sub_list_last hfl? (by rw [List.length_map]; lia))) (by k_places) (sub_list (by lia) (by lia) (bools_at (by lia)))) tru_bool)) (by rw [hc]; rfl)) (fun q => by cases q) (fun _ => Exs.nil)) Exs.nil, ?_⟩
          rw [hsn]
          k_subL
        | false =>
          rw [hc, if_neg (by decide)] at hsn
          have hput : put (dT (outerT v fl tt dn)) (v.lab.getD k "") (.int ((dget tt (v.lab.getD k "")).getD 0)) = dT (outerT v fl tt (dn ++ [k])) := by
            rw [put_new _ _ _ hkey, hsn]; unfold dT; rw [List.map_append]; rfl
          refine ⟨_, _, Asn.name (by decide +kernel), Exs.cons (Ex.ite (b := true) (EvT.as (EvT.not (EvT.value (EvE.sub' (EvE.sub' (by k_places) (EvE.as (d := .int (-1)) (EvE.un (by k_places) un_neg) rfl) (sub_list_last hfl? (by rw [List.length_map]; lia))) (by k_places) (sub_list (by lia) (by lia) (bools_at (by lia)))) tru_bool)) (by rw [hc]; rfl)) (fun _ => Exs.cons (Ex.setitem (dv := .int ((dget tt (v.lab.getD k "")).getD 0)) (di := .str (v.lab.getD k "")) (by l_intsC) (by decide +kernel)
            (EvE.flat (EvE.as (EvE.meth (EvE.sub' (d₂ := .int ((4 : Nat) : Int)) (EvE.item_own (d₁ := .none) (by l_intsC) (by decide +kernel) (by k_places) (get_od (hbk ll hllm))) (EvE.as (d := .int 4) (by k_places) rfl) (sub_tup (by lia) rfl)) (EvEs.cons (EvE.sub' (by k_places) (by k_places) (sub_list (by lia) (by lia) (strs_at (by lia)))) (EvEs.cons (by k_places) EvEs.nil)) (mt_dict F.slot_dict_get F.type_dict_get) me_get) (by rw [getD_dT, htt])) rfl)
            (EvE.sub' (by k_places) (by k_places) (sub_list (by lia) (by lia) (strs_at (by lia)))) (set_od (by simp only [sizeLine]; lia))) Exs.nil) (fun q => by cases q)) Exs.nil, ?_⟩
          rw [hput]
          k_subL
      -- 6
      refine Exs.cons (Ex.append (d := .int (cutC v S)) (by l_intsC) (by decide +kernel) (EvE.flat (EvE.as (EvE.calld t_cc (EvEs.cons (by k_places) EvEs.nil) count_calls_spec) (by rw [hcut])) rfl) (by rw [List.length_map]; simp only [sizeLine]; lia)) ?_
      refine Exs.sub (Γ' := vr (("before", .fz (.str (tx bb))) :: ("last", .fz (.str (tx ll))) :: ("fresh", .fz (.str (tx f))) :: ("taken", .fz (dTxs R.taken)) :: ("steps", .fz (.list (R.steps.map dStep))) :: ("names", .fz (dTxs S.names)) :: ("books", .od (dBooks v S)) :: ("hosts", .od (dHosts S)) :: ("counts", .ol (S.counts.map D.int ++ [.int (cutC v S)])) :: fCtx v)) (by k_subL) ?_
      -- 7
      have hal := hR.alone
      rw [hla] at hal
      refine Exs.cons (Ex.ite (b := false) (EvT.as (EvT.not (EvT.value (EvE.calld t_alone (by k_places) (alone_spec hal)) tru_bool)) rfl) (fun q => by cases q) (fun _ => Exs.nil)) ?_
      -- 8
      have hpl : pre.length ≤ 5 := by have := congrArg List.length hp; simp at this; lia
      have hpm : ∀ x ∈ pre, x ∈ R.taken := fun x hx => by rw [hp]; exact List.mem_append_left _ hx
      have hpo : (pre.map fun l => dNats (S.hs l)) = (pre.map fun l => toI (S.hs l)).map dInts := by rw [List.map_map]; exact List.map_congr_left fun l _ => dNats_toI _
      rw [hla, htake] at hsi
      have hsd := sides_spec (w := w) (first := toI (S.hs ll)) (others := pre.map fun l => toI (S.hs l)) (by simpa using hpl) (by have := (hHo.host ll (htk ll hllm)).1; simp [toI]; lia) (fun x hx => by
        obtain ⟨l, hl, rfl⟩ := List.mem_map.mp hx
        have := (hHo.host l (htk l (hpm l hl))).1; simp [toI]; lia)
      rw [← hsi] at hsd
      have htl2' : (R.taken.map fun l => D.str (tx l)).take ((R.taken.map fun l => D.str (tx l)).length - 2) = pre.map fun l => D.str (tx l) := by rw [← List.map_take, List.length_map, htake]
      refine Exs.cons (Ex.set (EvE.calld t_sides (EvEs.cons (EvE.as (EvE.item_own (d₁ := .none) (by l_intsC) (by decide +kernel) (by k_places) (get_od (hhs ll hllm))) (dNats_toI _)) (EvEs.cons (EvE.as (EvE.compA (Comp.allA (fun l => D.str (tx l)) (fun l => dNats (S.hs l)) pre takes_ol
        (EvIt.list (EvE.as (EvE.slice (hi := some (-((2 : Nat) : Int))) (by k_places) PartOk.none (PartOk.some (EvE.as (d := .int (-2)) (EvE.un (by k_places) un_neg) rfl)) (sli_butLast 2 (by lia) (by rw [List.length_map]; simp only [sizeLine]; lia))) (by rw [htl2']))) (by simp only [sizeLine]; lia)
        fun l hl => EvE.item_own (d₁ := .none) (by l_intsC) (by decide +kernel) (by k_places) (get_od (hhs l (hpm l hl))))) (by rw [hpo])) EvEs.nil)) hsd) (by decide +kernel)) ?_
      -- 9
      obtain ⟨hcm, hsne⟩ := hR.cut
      have hsl? : (R.steps.map dStep).getLast? = some (dStep (srows, sfirst)) := by rw [List.getLast?_map, hsl]; rfl
      have hstl : R.steps.length < 2 ^ 60 := by have := hstl0; lia
      have hcl? : (S.counts.map D.int ++ [D.int (cutC v S)]).getLast? = some (.int (cutC v S)) := by simp
      have hmn := call_minI (c := cf w) (xs := (sidesR v S).map (between v.bonds)) (by simpa using hsne)
      rw [List.map_map, ← hcm] at hmn
      have hssz : (sidesR v S).length ≤ sizeLine := by have := hR.sdl; simp only [sizeLine]; lia
      refine Exs.cons (Ex.ite (b := false) (EvT.as (EvT.boolop (AllT.or (EvT.cmp (EvE.sub' (d₂ := .int ((1 : Nat) : Int)) (EvE.sub' (d₂ := .int ((1 : Nat) : Int)) (EvE.sub' (by k_places) (EvE.as (d := .int (-1)) (EvE.un (by k_places) un_neg) rfl) (sub_list_last hsl? (by rw [List.length_map]; lia))) (EvE.as (d := .int 1) (by k_places) rfl) (sub_tup (by lia) rfl)) (EvE.as (d := .int 1) (by k_places) rfl) (sub_tup (by lia) rfl))
        (EvE.item_own (d₁ := .none) (by l_intsC) (by decide +kernel) (EvE.as (d := .int (-1)) (EvE.un (by k_places) un_neg) rfl) (get_ol_last hcl? (by simp; lia))) cmp_int_ne) fun _ =>
        AllT.or (EvT.cmp (EvE.item_own (d₁ := .none) (by l_intsC) (by decide +kernel) (EvE.as (d := .int (-1)) (EvE.un (by k_places) un_neg) rfl) (get_ol_last hcl? (by simp; lia)))
          (EvE.callB b_min (EvEs.cons (EvE.compA (Comp.allA dInts (fun sd => D.int (between v.bonds sd)) (sidesR v S) takes_ol (EvIt.list (by k_places)) hssz fun sd hsd => EvE.calld t_between (by k_places) (between_spec hv.bl))) EvEs.nil) hmn) cmp_int_ne) fun _ => AllT.or_nil)) (by simp [hsl2])) (fun q => by cases q) (fun _ => Exs.nil)) ?_
      -- 10
      have hmrg := hR.merge
      rw [hbe, hla] at hmrg
      have hfn := hR.fnew
      have hbkN : dEn (addEn (bkOf v S.hs bb) (bkOf v S.hs ll)) = dEn (bkOf v (hsNew v S f) f) := by
        rw [hmrg]; unfold bkOf hsNew; rw [if_pos rfl, hbe, hla]
      have hsN : ∀ y, y ≠ f → hsNew v S f y = S.hs y := fun y hy => by unfold hsNew; rw [if_neg hy]
      have hpb : put (dBooks v S) (tx f) (dEn (bkOf v (hsNew v S f) f)) = dBooks v (fStep v S f) := put_map S.ks (fun x => dEn (bkOf v S.hs x)) (fun x => dEn (bkOf v (hsNew v S f) x)) f hfn (fun y hy => by unfold bkOf; rw [hsN y hy])
      have hph : put (dHosts S) (tx f) (dNats (hsNew v S f f)) = dHosts (fStep v S f) := put_map S.ks (fun x => dNats (S.hs x)) (fun x => dNats (hsNew v S f x)) f hfn (fun y hy => by rw [hsN y hy])
      have hkl' : (dBooks v S).length ≤ sizeLine := by unfold dBooks; rw [List.length_map]; simp only [sizeLine]; lia
      have hkl2 : (dHosts S).length ≤ sizeLine := by unfold dHosts; rw [List.length_map]; simp only [sizeLine]; lia
      refine Exs.cons (Ex.setitem (di := .str (tx f)) (dv := dEn (bkOf v (hsNew v S f) f)) (by l_intsC) (by decide +kernel) (EvE.as (EvE.calld t_afs (EvEs.cons (EvE.item_own (d₁ := .none) (by l_intsC) (by decide +kernel) (by k_places) (get_od (hbk bb hbbm))) (EvEs.cons (EvE.item_own (d₁ := .none) (by l_intsC) (by decide +kernel) (by k_places) (get_od (hbk ll hllm))) EvEs.nil)) (afs_spec (hsm bb hbbm) (hsm ll hllm))) hbkN) (by k_places) (set_od hkl')) ?_
      rw [hpb]
      -- 11
      have hhN : hsNew v S f f = S.hs bb ++ S.hs ll := by unfold hsNew; rw [if_pos rfl, hbe, hla]
      have hbl1 := (hHo.host bb (htk bb hbbm)).1
      have hbl2 := (hHo.host ll (htk ll hllm)).1
      refine Exs.cons (Ex.setitem (di := .str (tx f)) (dv := dNats (hsNew v S f f)) (by l_intsC) (by decide +kernel) (EvE.as (EvE.bin (d₁ := dNats (S.hs bb)) (d₂ := dNats (S.hs ll)) (EvE.item_own (d₁ := .none) (by l_intsC) (by decide +kernel) (by k_places) (get_od (hhs bb hbbm))) (EvE.item_own (d₁ := .none) (by l_intsC) (by decide +kernel) (by k_places) (get_od (hhs ll hllm))) (bin_list (by rw [List.length_map, List.length_map]; simp only [sizeLine]; lia))) (by rw [hhN, ← List.map_append])) (by k_places) (set_od hkl2)) ?_
      rw [hph]
      -- 12
      have hlown := hR.ok.low
      have hflow := hR.flow
      have hnn : ((List.range v.N).map fun k => D.str (tx (nameNew v S f k))) = (fStep v S f).names.map fun l => D.str (tx l) := by unfold fStep; rw [List.map_map]; rfl
      have hgh : dget (dHosts (fStep v S f)) (tx f) = some (dNats (hsNew v S f f)) := dget_map (S.ks ++ [f]) (fun x => dNats (hsNew v S f x)) f (by simp)
      have hcs : (fStep v S f).counts.map D.int = S.counts.map D.int ++ [D.int (cutC v S)] := by unfold fStep; rw [List.map_append]; rfl
      refine Exs.weaken (Exs.cons (Ex.compA (out := (fStep v S f).names.map fun l => D.str (tx l)) (hnn ▸ Comp.allA (fun k : Nat => D.int k) (fun k => D.str (tx (nameNew v S f k))) (List.range v.N) takes_ol (EvIt.callB b_range (EvEs.cons (by k_places) EvEs.nil) (ci_range1 rfl (by lia))) (by simp only [List.length_range, sizeLine]; lia) fun k hk => ?_)) Exs.nil) ?_
      · have hk' := List.mem_range.mp hk
        have nAt := txs_at (xs := S.names) (k := k) (by lia)
        have hlk : LowN (S.names.getD k []) := hlown _ (getD_mem (by lia))
        have hl5 := hlk.2.2
        have hl4 := hlk.2.1
        have hf4 := hflow.2.1
        have s5 : Txt.slice (tx (S.names.getD k [])) none (some (-5)) = tx ((S.names.getD k []).take ((S.names.getD k []).length - 5)) := slice_but _ 5 (by lia) (by lia)
        have hq : (hsNew v S f f).contains k = (S.hs (beforeB v S) ++ S.hs (lastB v S)).contains k := by rw [hhN, hbe, hla]
        refine EvE.ifexp (b := (hsNew v S f f).contains k) (EvT.as (EvT.cmp (by k_places) (EvE.as (EvE.item_own (d₁ := .none) (by l_intsC) (by decide +kernel) (by k_places) (get_od hgh)) (dNats_toI _)) cmp_in_ints) (by unfold toI; exact contains_cast _ _)) (fun q => ?_) (fun q => ?_)
        · have e : nameNew v S f k = (S.names.getD k []).take ((S.names.getD k []).length - 5) ++ f := by unfold nameNew; rw [← hq, if_pos q]
          rw [e]
          exact EvE.bin (EvE.as (EvE.slice (lo := none) (hi := some (-5)) (EvE.sub' (by k_places) (by k_places) (sub_list (by lia) (by lia) nAt)) PartOk.none (PartOk.some (EvE.un (by k_places) un_neg)) (sli_str (by rw [tx_len]; simp only [sizeLine]; lia))) (by rw [s5])) (by k_places) (bin_tx (by rw [List.length_take]; lia))
        · have e : nameNew v S f k = S.names.getD k [] := by unfold nameNew; rw [← hq, if_neg (by rw [q]; decide)]
          rw [e]
          exact EvE.sub' (by k_places) (by k_places) (sub_list (by lia) (by lia) nAt)
      · dsimp only [fVars]
        rw [hcs]
        k_subL
    · obtain ⟨hHo, hfm, hcne, hkl⟩ := facts_end xs x0 S0 hF
      simp only [List.length_cons] at hxl
      rw [List.foldl_cons]
      generalize xs.foldl (fStep v) (fStep v S0 x0) = Z at hHo hfm hcne hkl ⊢
      generalize xs.getLastD x0 = f at hfm ⊢
      refine Exs.freeze (x := "books") (by l_intsC) frz_od ?_
      refine Exs.freeze (x := "hosts") (by l_intsC) frz_od ?_
      have hgb : ∀ x ∈ Z.ks, dget (dBooks v Z) (tx x) = some (dEn (bkOf v Z.hs x)) := fun x hx => dget_map _ _ x hx
      have hgh : ∀ x ∈ Z.ks, dget (dHosts Z) (tx x) = some (dNats (Z.hs x)) := fun x hx => dget_map _ _ x hx
      have hks : (dT (bkOf v Z.hs f).t).length ≤ sizeLine := by rw [dT_len]; have := sumEn_len hv (hHo.host f hfm).1; show (sumEn v.T v.E (Z.hs f)).t.length ≤ _; simp only [sizeLine]; lia
      have hk : ((dT (bkOf v Z.hs f).t).map fun p => D.str p.1) = ((dT (bkOf v Z.hs f).t).map fun p => p.1).map D.str := by rw [List.map_map]; rfl
      have i4 : ∀ {Γ : Vars} {σ : List (Str × NameKind)} {m : Bool} {x e2 : Expr} {pos : Pos} {e : En}, EvE (cf w) σ 4 Γ m x (dEn e) → EvE (cf w) σ 4 Γ m e2 (.int 4) → (∀ o i, subscripted e2 false o i = operate [o, i] (getItem o i)) → EvE (cf w) σ 4 Γ m (.Subscript x e2 pos) (.dict (dT e.t)) :=
        fun a b hs => EvE.sub' (d₂ := .int ((4 : Nat) : Int)) a (EvE.as b rfl) (sub_tup (by lia) rfl) hs
      refine Exs.cons (Ex.set (EvE.calld t_sum (EvEs.cons (by k_places) (EvEs.cons (by k_places) (EvEs.cons (EvE.sub' (by k_places) (by k_places) (sub_dict (hgh f hfm))) EvEs.nil))) (sum_at hv hHo hfm)) (by decide +kernel)) ?_
      refine Exs.cons (Ex.ite (b := false) (EvT.as (EvT.boolop (AllT.or (EvT.cmp (EvE.sub' (by k_places) (by k_places) (sub_dict (hgb f hfm))) (by k_places) cmp_entry) fun _ =>
        AllT.or (EvT.cmp (d₁ := .list (((dT (bkOf v Z.hs f).t).map fun p => p.1).map D.str)) (d₂ := .list (((dT (bkOf v Z.hs f).t).map fun p => p.1).map D.str))
          (EvE.as (EvE.callB b_list (EvEs.cons (i4 (EvE.sub' (by k_places) (by k_places) (sub_dict (hgb f hfm))) (by k_places) (by intro _ _; rfl)) EvEs.nil) (call_keys hks)) (by rw [hk]))
          (EvE.as (EvE.callB b_list (EvEs.cons (i4 (by k_places) (by k_places) (by intro _ _; rfl)) EvEs.nil) (call_keys hks)) (by rw [hk])) cmp_strs_ne) fun _ => AllT.or_nil)) (by simp)) (fun q => by cases q) (fun _ => Exs.nil)) ?_
      have hbkk : (dBooks v Z).map (fun kv => D.str kv.1) = Z.ks.map fun x => D.str (tx x) := by unfold dBooks; rw [List.map_map]; rfl
      refine Exs.cons (Ex.ite (b := false) (EvT.as (EvT.cmp (d₁ := .list (([] : List Str).map D.str)) (d₂ := .list (([] : List Str).map D.str)) (EvE.as (EvE.compA (Comp.filA (fun l => D.str (tx l)) (fun _ => false) (fun l => D.str (tx l)) Z.ks takes_ol (EvIt.as (EvIt.dict (by k_places)) hbkk) (by simp only [sizeLine]; lia)
        (fun x hx => EvT.cmp (EvE.sub' (by k_places) (by k_places) (sub_dict (hgb x hx))) (EvE.calld t_sum (EvEs.cons (by k_places) (EvEs.cons (by k_places) (EvEs.cons (EvE.sub' (by k_places) (by k_places) (sub_dict (hgh x hx))) EvEs.nil))) (sum_at hv hHo hx)) cmp_entry) (fun x hx q => by cases q))) (by simp))
        (EvE.as (EvE.list EvEs.nil) rfl) cmp_strs_ne) (by simp)) (fun q => by cases q) (fun _ => Exs.nil)) ?_
      exact Exs.ret (Ex.ret (EvE.callB b_min (by k_places) (call_minI hcne)))
end
-- E20
section
variable {w : World}
-- law
noncomputable def totalOf (s : List Int) : Nat := ((s.take 60).map drawOf).sum
noncomputable def envOf (s : List Int) : FEnv :=
  let N := sizeOfS s
  let L := ledgersOf (labs N) (logOf s)
  ⟨N, labs N, L.1, L.2, bondsOf N (logOf s), 1 - 2 * ((totalOf s % 2 : Nat) : Int), totalOf s / 2⟩
noncomputable def allSides (N : Nat) : List (List Int) := sidesOf [0] ((List.range (N - 1)).map fun j => [((1 + j : Nat) : Int)])
noncomputable def leastOf (v : FEnv) : Int := minI (((allSides v.N).filter fun sd => decide (sd.length < v.N)).map (between v.bonds))
structure LawOk (s : List Int) : Prop where
  env : FEnvOk (envOf s)
  log : InRange (envOf s).N (logOf s)
  ent : entriesOf (envOf s).lab (logOf s) = (List.range (envOf s).N).map fun k => sumEn (envOf s).T (envOf s).E [k]
  host : HostOk (envOf s) (fStart (envOf s))
  facts : Facts (envOf s) (freshL.take ((envOf s).N - 1)) (fStart (envOf s))
  least : minI ((freshL.take ((envOf s).N - 1)).foldl (fStep (envOf s)) (fStart (envOf s))).counts = leastOf (envOf s)
theorem t_law : Top w "law" 194 := ⟨by kernel_rfl, by kernel_rfl⟩
theorem logOf_len (s : List Int) : (logOf s).length ≤ 50 := by unfold logOf baseLog; simp; lia
theorem sum_cast (l : List Nat) : (l.map fun (k : Nat) => (k : Int)).sum = ((l.sum : Nat) : Int) := by
  induction l with
  | nil => rfl
  | cons a l ih => simp only [List.map_cons, List.sum_cons, ih]; push_cast; rfl
theorem env_led (s : List Int) : ledgersOf (envOf s).lab (logOf s) = ((envOf s).T, (envOf s).E) := by
  unfold envOf
  dsimp only
theorem env_lab (s : List Int) : (envOf s).lab = (labL.take (envOf s).N).map tx := by
  have p := sizeOfS_pos s
  have : (envOf s).lab = labs (sizeOfS s) := rfl
  have h2 : (envOf s).N = sizeOfS s := rfl
  rw [this, h2]
  exact labs_tx _ (by lia)
set_option maxHeartbeats 4000000 in
theorem law_spec {s : List Int} (hl : s.length ≤ 63) (h : LawOk s) : FunSpec (cf w) 194 6 [dInts s] (.bool true) := by
  refine FunSpec.of_body (ps := ["script"]) (by rfl) rfl (by kernel_rfl) rfl (fun vs h => ?_) rfl rfl rfl (by decide +kernel) (by decide +kernel) (by decide +kernel) rfl rfl rfl rfl ?_
  · obtain ⟨_, rfl⟩ := lst1 h; rfl
  · dsimp only
    have p45 := sizeOfS_pos s
    have hls := log_spec (w := w) hl
    have hfs := fewest_spec (w := w) (v := envOf s) (log := logOf s) h.env (env_lab s) h.log (logOf_len s) (env_led s) h.ent h.host h.facts
    rw [h.least] at hfs
    have hbs := bonds_spec (w := w) (size := sizeOfS s) (log := logOf s) (by lia) h.log
    have hle : leastOf (envOf s) = minI (((allSides (sizeOfS s)).filter fun sd => decide (sd.length < sizeOfS s)).map (between (bondsOf (sizeOfS s) (logOf s)))) := rfl
    have e1 : (envOf s).lab = labs (sizeOfS s) := rfl
    have e2 : (envOf s).bonds = bondsOf (sizeOfS s) (logOf s) := rfl
    have e3 : (envOf s).way = 1 - 2 * ((totalOf s % 2 : Nat) : Int) := rfl
    have e4 : (envOf s).begin = totalOf s / 2 := rfl
    have hbl : (bondsOf (sizeOfS s) (logOf s)).length ≤ 1000 := Nat.le_trans (bonds_len _ _ (by lia)) (by lia)
    rw [e1, e2, e3, e4] at hfs
    have hlab : (labs (sizeOfS s)).length = sizeOfS s := by
      have : sizeOfS s = 4 ∨ sizeOfS s = 5 := by lia
      rcases this with q | q <;> rw [q] <;> rfl
    generalize leastOf (envOf s) = least at hfs hle
    generalize hz : sizeOfS s = z at *
    -- total
    have ht1 : ((s.take 60).map fun x => D.int (x.fmod 1000000)) = ((s.take 60).map fun x => x.fmod 1000000).map D.int := by rw [List.map_map]; rfl
    have ht2 : ((s.take 60).map fun x => x.fmod 1000000).sum = ((totalOf s : Nat) : Int) := by
      unfold totalOf
      rw [← sum_cast, List.map_map]
      congr 1
      exact List.map_congr_left fun x _ => (drawOf_cast x).symm
    refine Exs.cons (Ex.set (d := .int ((totalOf s : Nat) : Int)) (EvE.as (EvE.callB b_sum (EvEs.cons (EvE.as (EvE.compA (Comp.allA D.int (fun x => D.int (x.fmod 1000000)) (s.take 60) takes_ol (EvIt.list (EvE.as (EvE.slice (by k_places) PartOk.none (PartOk.some (EvE.as (d := .int 60) (by k_places) rfl)) (sli_upto 60 (by rw [List.length_map]; simp only [sizeLine]; lia))) (by rw [List.map_take]))) (by simp [sizeLine]; lia)
      fun x hx => EvE.bin (by k_places) (by k_places) (bin_mod (by decide)))) (by rw [ht1])) EvEs.nil) call_sum) (by rw [ht2])) (by decide +kernel)) ?_
    generalize totalOf s = tot at hfs ⊢
    refine Exs.cons (Ex.assignT (EvE.calld t_log (by k_places) hls) (Asn.tuple (AsnL.cons (Asn.name (by decide +kernel)) (AsnL.cons (Asn.name (by decide +kernel)) AsnL.nil)))) ?_
    have hlen : ∀ {Γ : Vars} {m : Bool} {np pos : Pos} {e : Expr} {σ : List (Str × NameKind)}, EvE (cf w) σ 5 Γ m e (dStrs (labs z)) → σ.lookup (Str.ofString "len") = some .globalImplicit → (∀ env, starEach [e] env = (false, eval e env) :: starEach [] env) → EvE (cf w) σ 5 Γ m (.Call (.Name (Str.ofString "len") np) [e] [] pos) (.int (z : Nat)) :=
      fun a hx he => EvE.as (EvE.callB b_len (EvEs.cons a EvEs.nil (he := he)) (call_len (by rw [List.length_map, hlab]; lia)) hx he) (by rw [List.length_map, hlab])
    refine Exs.cons (Ex.set (EvE.calld t_bonds (EvEs.cons (hlen (by k_places) (by decide +kernel) (by intro _; rfl)) (EvEs.cons (by k_places) EvEs.nil)) hbs) (by decide +kernel)) ?_
    -- sides
    have hsd := sides_spec (w := w) (first := [0]) (others := (List.range (z - 1)).map fun j => [((1 + j : Nat) : Int)]) (by simp; lia) (by simp) (fun b hb => by obtain ⟨j, _, rfl⟩ := List.mem_map.mp hb; simp)
    have hot : ((List.range (z - 1)).map fun j => D.list [.int ((1 + j : Nat) : Int)]) = ((List.range (z - 1)).map fun j => [((1 + j : Nat) : Int)]).map dInts := by rw [List.map_map]; rfl
    have hrg : ((List.range (z - 1)).map fun j : Nat => D.int (1 + (j : Nat))) = (List.range (z - 1)).map fun j : Nat => D.int ((1 + j : Nat) : Int) := List.map_congr_left fun j _ => by push_cast; rfl
    refine Exs.cons (Ex.set (EvE.calld t_sides (EvEs.cons (EvE.as (d := .list [.int 0]) (by k_places) rfl) (EvEs.cons (EvE.as (EvE.compA (Comp.allA (fun j : Nat => D.int ((1 + j : Nat) : Int)) (fun j => D.list [.int ((1 + j : Nat) : Int)]) (List.range (z - 1)) takes_ol
      (EvIt.as (EvIt.callB b_range (EvEs.cons (by k_places) (EvEs.cons (hlen (by k_places) (by decide +kernel) (by intro _; rfl)) EvEs.nil)) (ci_range2 (a := 1) (k := z - 1) (by lia) (by lia) (by lia))) hrg) (by simp [sizeLine]; lia) fun j hj => EvE.list (EvEs.cons (by k_places) EvEs.nil))) (by rw [hot])) EvEs.nil)) hsd) (by decide +kernel)) ?_
    have hsides : sidesOf [0] ((List.range (z - 1)).map fun j => [((1 + j : Nat) : Int)]) = allSides z := rfl
    rw [hsides]
    have hz45 : z = 4 ∨ z = 5 := by lia
    have hne : ((allSides z).filter fun sd => decide (sd.length < z)) ≠ [] := by rcases hz45 with q | q <;> rw [q] <;> decide
    have hsl : (allSides z).length ≤ sizeLine := by
      have : (allSides z).length ≤ 16 := by rcases hz45 with q | q <;> rw [q] <;> decide
      simp only [sizeLine]; lia
    have hsi : ∀ sd ∈ allSides z, sd.length ≤ 100 := by
      have : ∀ sd ∈ allSides z, sd.length ≤ 5 := by rcases hz45 with q | q <;> rw [q] <;> decide
      intro sd h; have := this sd h; lia
    have hmn := call_minI (c := cf w) (xs := ((allSides z).filter fun sd => decide (sd.length < z)).map (between (bondsOf z (logOf s)))) (by simpa using hne)
    rw [List.map_map, ← hle] at hmn
    generalize allSides z = sides at hmn hsl hsi ⊢
    refine Exs.cons (Ex.set (EvE.callB b_min (EvEs.cons (EvE.compA (Comp.filA dInts (fun sd => decide (sd.length < z)) (fun sd => D.int (between (bondsOf z (logOf s)) sd)) sides takes_ol (EvIt.list (by k_places)) hsl
      (fun sd hsd => EvT.as (EvT.cmp (EvE.callB b_len (by k_places) (call_len (by rw [List.length_map]; have := hsi sd hsd; lia))) (hlen (by k_places) (by decide +kernel) (by intro _; rfl)) cmp_int_lt) (by rw [List.length_map]; simp)) (fun sd hsd _ => EvE.calld t_between (by k_places) (between_spec hbl)))) EvEs.nil) hmn) (by decide +kernel)) ?_
    refine Exs.ret (Ex.ret (EvE.as (EvE.cmp (EvE.calld t_fewest (EvEs.cons (by k_places) (EvEs.cons (by k_places) (EvEs.cons (by k_places) (EvEs.cons (EvE.bin (by k_places) (EvE.bin (by k_places) (EvE.bin (d₂ := .int ((2 : Nat) : Int)) (by k_places) (EvE.as (d := .int 2) (by k_places) rfl) (bin_modn (by lia))) (bin_mul (.of_left (by decide)))) bin_sub)
      (EvEs.cons (EvE.bin (d₂ := .int ((2 : Nat) : Int)) (by k_places) (EvE.as (d := .int 2) (by k_places) rfl) (bin_divn (by lia) (by lia))) EvEs.nil))))) hfs) (by k_places) cmp_int_eq) (by simp)))
end
end Mine
end
-- P1
section
open PySem PySem.W PyProof.Rows
set_option Elab.async false
set_option linter.unusedVariables false
namespace Mine
-- tables
noncomputable def akT : Tab → Str × Int → Tab
  | [], kv => [kv]
  | (k, v) :: t, kv => if k = kv.1 then (k, v + kv.2) :: t else (k, v) :: akT t kv
noncomputable def foldT (t l : Tab) : Tab := l.foldl akT t
noncomputable def keysT (t : Tab) : List Str := t.map (·.1)
noncomputable def valT (t : Tab) (k : Str) : Int := (dget t k).getD 0
noncomputable def totT (t : Tab) : Int := (t.map (·.2)).sum
theorem dget_cons (a : Str) (v : Int) (t : Tab) (k : Str) : dget ((a, v) :: t) k = if a = k then some v else dget t k := by
  unfold dget
  rw [List.find?_cons]
  by_cases h : a = k <;> simp [h]
theorem valT_cons (a : Str) (v : Int) (t : Tab) (k : Str) : valT ((a, v) :: t) k = if a = k then v else valT t k := by
  unfold valT
  rw [dget_cons]
  split <;> rfl
theorem put_cons {a k : Str} {v x : Int} {t : Tab} (h : ((a, v) :: t).map (·.1) |>.Nodup) : put ((a, v) :: t) k x = if a = k then (a, x) :: t else (a, v) :: put t k x := by
  unfold put
  simp only [List.any_cons, List.map_cons]
  by_cases ha : a = k
  · subst ha
    simp only [decide_true, Bool.true_or, if_true]
    congr 1
    have hn : ∀ p ∈ t, p.1 ≠ a := fun p hp e => (List.nodup_cons.mp h).1 (List.mem_map.mpr ⟨p, hp, e⟩)
    have : t.map (fun kv => if kv.1 = a then (kv.1, x) else kv) = t.map id := List.map_congr_left fun p hp => by rw [if_neg (hn p hp)]; rfl
    rw [this, List.map_id]
  · simp only [ha, decide_false, Bool.false_or, if_false]
    split <;> rfl
theorem ak_eq : ∀ {t : Tab} (kv : Str × Int), (keysT t).Nodup → addKey t kv = akT t kv
  | [], kv, _ => rfl
  | (a, v) :: t, (k, x), h => by
    have ih := ak_eq (t := t) (k, x) (List.nodup_cons.mp h).2
    rw [addKey_eq] at ih ⊢
    unfold akT
    rw [put_cons h, dget_cons]
    dsimp only
    split
    · rfl
    · rw [ih]
theorem ak_keys : ∀ (t : Tab) (kv : Str × Int), keysT (akT t kv) = if kv.1 ∈ keysT t then keysT t else keysT t ++ [kv.1]
  | [], kv => by simp [akT, keysT]
  | (a, v) :: t, kv => by
    have ih := ak_keys t kv
    unfold akT
    by_cases h : a = kv.1
    · rw [if_pos h]; simp [keysT, h]
    · rw [if_neg h]
      have e : keysT ((a, v) :: akT t kv) = a :: keysT (akT t kv) := rfl
      have e2 : keysT ((a, v) :: t) = a :: keysT t := rfl
      rw [e, ih, e2]
      have : kv.1 ∈ a :: keysT t ↔ kv.1 ∈ keysT t := by simp [Ne.symm h]
      by_cases q : kv.1 ∈ keysT t
      · rw [if_pos q, if_pos (this.mpr q)]
      · rw [if_neg q, if_neg fun z => q (this.mp z)]; rfl
theorem ak_nodup {t : Tab} (kv : Str × Int) (h : (keysT t).Nodup) : (keysT (akT t kv)).Nodup := by
  rw [ak_keys]
  split
  · exact h
  · rename_i q
    exact List.nodup_append.mpr ⟨h, by simp, fun a ha b hb e => by obtain rfl := List.mem_singleton.mp hb; subst e; exact q ha⟩
theorem ak_mem {t : Tab} {kv : Str × Int} {k : Str} (h : k ∈ keysT t) : k ∈ keysT (akT t kv) := by
  rw [ak_keys]
  split
  · exact h
  · exact List.mem_append_left _ h
theorem fold_nodup : ∀ (l : Tab) {t : Tab}, (keysT t).Nodup → (keysT (foldT t l)).Nodup
  | [], _, h => h
  | kv :: l, _, h => fold_nodup l (ak_nodup kv h)
theorem fold_eq : ∀ (l : Tab) {t : Tab}, (keysT t).Nodup → l.foldl addKey t = foldT t l
  | [], _, _ => rfl
  | kv :: l, t, h => by
    rw [List.foldl_cons, ak_eq kv h]
    exact fold_eq l (ak_nodup kv h)
theorem ak_twice : ∀ (t : Tab) (k : Str) (v x : Int), akT (akT t (k, v)) (k, x) = akT t (k, v + x)
  | [], k, v, x => by simp [akT]
  | (a, z) :: t, k, v, x => by
    have ih := ak_twice t k v x
    by_cases h : a = k
    · simp [akT, h, Int.add_assoc]
    · simp [akT, h, ih]
theorem ak_comm : ∀ (t : Tab) (p : Str × Int) (k : Str) (x : Int), k ∈ keysT t → akT (akT t p) (k, x) = akT (akT t (k, x)) p
  | [], p, k, x, h => by cases h
  | (a, z) :: t, (b, y), k, x, h => by
    by_cases h1 : a = k <;> by_cases h2 : a = b
    · subst h1; subst h2; simp [akT]; lia
    · simp [akT, h1, h2]
      rw [← h1]; simp [h2, akT]
    · simp [akT, h1, h2]
      rw [← h2]; simp [h1, akT]
    · simp only [akT, h1, h2, if_false]
      congr 1
      refine ak_comm t (b, y) k x ?_
      rcases List.mem_cons.mp h with q | q
      · exact absurd q.symm h1
      · exact q
theorem fold_ak_in : ∀ (n : Tab) {s : Tab} (k : Str) (x : Int), k ∈ keysT s → akT (foldT s n) (k, x) = foldT (akT s (k, x)) n
  | [], _, _, _, _ => rfl
  | p :: n, s, k, x, h => by
    have := fold_ak_in n (s := akT s p) k x (ak_mem h)
    show akT (foldT (akT s p) n) (k, x) = foldT (akT (akT s (k, x)) p) n
    rw [this, ak_comm s p k x h]
theorem ak_has (t : Tab) (k : Str) (v : Int) : k ∈ keysT (akT t (k, v)) := by
  rw [ak_keys]
  split
  · assumption
  · simp
theorem fold_ak : ∀ (n t : Tab) (kv : Str × Int), foldT t (akT n kv) = akT (foldT t n) kv
  | [], t, kv => rfl
  | (a, v) :: n, t, (k, x) => by
    by_cases h : a = k
    · subst h
      have e : akT ((a, v) :: n) (a, x) = (a, v + x) :: n := by simp [akT]
      rw [e]
      show foldT (akT t (a, v + x)) n = akT (foldT (akT t (a, v)) n) (a, x)
      rw [fold_ak_in n a x (ak_has t a v), ak_twice]
    · have e : akT ((a, v) :: n) (k, x) = (a, v) :: akT n (k, x) := by simp [akT, h]
      rw [e]
      exact fold_ak n (akT t (a, v)) (k, x)
theorem fold_fold : ∀ (l t n : Tab), foldT t (foldT n l) = foldT (foldT t n) l
  | [], _, _ => rfl
  | kv :: l, t, n => by
    show foldT t (foldT (akT n kv) l) = foldT (akT (foldT t n) kv) l
    rw [fold_fold l t (akT n kv), fold_ak]
theorem fold_app (t a b : Tab) : foldT t (a ++ b) = foldT (foldT t a) b := List.foldl_append
theorem ak_val : ∀ (t : Tab) (kv : Str × Int) (k : Str), valT (akT t kv) k = valT t k + if kv.1 = k then kv.2 else 0
  | [], (a, x), k => by
    show valT [(a, x)] k = _
    rw [valT_cons]
    have : valT [] k = 0 := rfl
    rw [this]; simp
  | (b, v) :: t, (a, x), k => by
    have ih := ak_val t (a, x) k
    by_cases h : b = a
    · subst h
      have e : akT ((b, v) :: t) (b, x) = (b, v + x) :: t := by simp [akT]
      rw [e, valT_cons, valT_cons]
      by_cases q : b = k <;> simp [q]
    · have e : akT ((b, v) :: t) (a, x) = (b, v) :: akT t (a, x) := by simp [akT, h]
      rw [e, valT_cons, valT_cons, ih]
      dsimp only
      by_cases q : b = k
      · subst q; simp [Ne.symm h]
      · simp [q]
theorem ak_tot : ∀ (t : Tab) (kv : Str × Int), totT (akT t kv) = totT t + kv.2
  | [], (a, x) => by simp [akT, totT]
  | (b, v) :: t, (a, x) => by
    have ih := ak_tot t (a, x)
    unfold totT at ih ⊢
    by_cases h : b = a
    · simp [akT, h]; lia
    · simp only [akT, h, if_false, List.map_cons, List.sum_cons, ih]; lia
theorem fold_tot : ∀ (l t : Tab), totT (foldT t l) = totT t + totT l
  | [], t => by simp [foldT, totT]
  | kv :: l, t => by
    have := fold_tot l (akT t kv)
    show totT (foldT (akT t kv) l) = _
    rw [this, ak_tot]
    simp only [totT, List.map_cons, List.sum_cons]; lia
theorem val_none {t : Tab} {k : Str} (h : k ∉ keysT t) : valT t k = 0 := by
  induction t with
  | nil => rfl
  | cons p t ih =>
    obtain ⟨a, v⟩ := p
    rw [valT_cons, if_neg fun e => h (by subst e; exact List.mem_cons_self), ih fun q => h (List.mem_cons_of_mem _ q)]
theorem fold_val : ∀ (l t : Tab) (k : Str), (keysT l).Nodup → valT (foldT t l) k = valT t k + valT l k
  | [], t, k, _ => by
    have : valT [] k = 0 := rfl
    rw [this]; simp [foldT]
  | (a, x) :: l, t, k, h => by
    have hn := List.nodup_cons.mp h
    have := fold_val l (akT t (a, x)) k hn.2
    show valT (foldT (akT t (a, x)) l) k = _
    rw [this, ak_val, valT_cons]
    dsimp only
    by_cases q : a = k
    · subst q
      rw [val_none (t := l) hn.1]; simp
    · simp [q]
theorem vals_self : ∀ {t : Tab}, (keysT t).Nodup → t.map (fun p => (p.1, valT t p.1)) = t
  | [], _ => rfl
  | (a, v) :: t, h => by
    have hn := List.nodup_cons.mp h
    simp only [List.map_cons, valT_cons, if_true]
    congr 1
    have : t.map (fun p => (p.1, if a = p.1 then v else valT t p.1)) = t.map fun p => (p.1, valT t p.1) := List.map_congr_left fun p hp => by
      rw [if_neg]; intro e; exact hn.1 (e ▸ List.mem_map.mpr ⟨p, hp, rfl⟩)
    rw [this, vals_self hn.2]
theorem tot_self {t : Tab} (h : (keysT t).Nodup) : (t.map fun p => (dget t p.1).getD 0).sum = totT t := by
  have := congrArg (fun l : Tab => (l.map (·.2)).sum) (vals_self h)
  simp only [List.map_map] at this
  exact this
theorem copy_from : ∀ (l : Tab) (t : Tab), (keysT (t ++ l)).Nodup → l.foldl (fun a kv => put a kv.1 kv.2) t = t ++ l
  | [], t, _ => by simp
  | (a, v) :: l, t, h => by
    rw [List.foldl_cons]
    have hn : ∀ p ∈ t, p.1 ≠ a := by
      intro p hp e
      have h' : (keysT t ++ keysT ((a, v) :: l)).Nodup := by simpa [keysT] using h
      exact (List.nodup_append.mp h').2.2 p.1 (List.mem_map_of_mem hp) a List.mem_cons_self e
    rw [put_new t a v hn, copy_from l (t ++ [(a, v)]) (by simpa using h)]
    simp
theorem merge_fold {t : Tab} (s : Tab) (h : (keysT t).Nodup) : mergeT t s = foldT t s := by
  unfold mergeT
  rw [copy_from t [] (by simpa using h)]
  exact fold_eq s h
theorem foldGet {T : Tab} : ∀ (ks : List Str) {t : Tab}, (keysT t).Nodup → ks.foldl (addGet T) t = foldT t (ks.map fun k => (k, valT T k))
  | [], _, _ => rfl
  | k :: ks, t, h => by
    have e : addGet T t k = akT t (k, valT T k) := by rw [← ak_eq _ h, addKey_eq]; rfl
    rw [List.foldl_cons, e]
    exact foldGet ks (ak_nodup _ h)
theorem foldGet_self {T t : Tab} (hT : (keysT T).Nodup) (ht : (keysT t).Nodup) : (T.map (·.1)).foldl (addGet T) t = foldT t T := by
  rw [foldGet _ ht, List.map_map]
  congr 1
  exact vals_self hT
/-- tables with no key twice -/
noncomputable def NdT (T : List Tab) : Prop := ∀ i, (keysT (T.getD i [])).Nodup
theorem sumT_from {T : List Tab} (hT : NdT T) : ∀ (h : List Nat) {t : Tab}, (keysT t).Nodup →
    h.foldl (fun t h => ((T.getD h []).map (·.1)).foldl (addGet (T.getD h [])) t) t = foldT t (h.flatMap fun i => T.getD i [])
  | [], _, _ => rfl
  | i :: h, t, n => by
    rw [List.foldl_cons, foldGet_self (hT i) n, sumT_from hT h (fold_nodup _ n), List.flatMap_cons, fold_app]
theorem sumT_eq {T : List Tab} (hT : NdT T) (h : List Nat) : sumT T h = foldT [] (h.flatMap fun i => T.getD i []) := sumT_from hT h List.nodup_nil
theorem sumT_nodup {T : List Tab} (hT : NdT T) (h : List Nat) : (keysT (sumT T h)).Nodup := by rw [sumT_eq hT]; exact fold_nodup _ List.nodup_nil
theorem sumT_app {T : List Tab} (hT : NdT T) (a b : List Nat) : sumT T (a ++ b) = foldT (sumT T a) (sumT T b) := by
  rw [sumT_eq hT b, fold_fold, sumT_eq hT, List.flatMap_append, fold_app, sumT_eq hT a]; rfl
theorem sumT_one {T : List Tab} (hT : NdT T) (i : Nat) : sumT T [i] = T.getD i [] := by
  have h := sumT_from hT [i] (t := []) List.nodup_nil
  have e : ∀ t : Tab, (keysT t).Nodup → foldT [] t = t := fun t ht => by
    have := copy_from t [] (by simpa using ht)
    have h2 := merge_fold t (t := []) List.nodup_nil
    clear this h2
    have key : ∀ (l t : Tab), (keysT (t ++ l)).Nodup → foldT t l = t ++ l := by
      intro l
      induction l with
      | nil => intro t _; simp [foldT]
      | cons p l ih =>
        intro t h
        obtain ⟨a, v⟩ := p
        show foldT (akT t (a, v)) l = _
        have h' : (keysT t ++ keysT ((a, v) :: l)).Nodup := by simpa [keysT] using h
        have ha : a ∉ keysT t := fun q => (List.nodup_append.mp h').2.2 a q a List.mem_cons_self rfl
        have : akT t (a, v) = t ++ [(a, v)] := by
          clear ih h h'
          induction t with
          | nil => rfl
          | cons p t ih =>
            obtain ⟨b, z⟩ := p
            have hb : b ≠ a := fun e => ha (by subst e; exact List.mem_cons_self)
            simp only [akT, hb, if_false, List.cons_append]
            rw [ih fun q => ha (List.mem_cons_of_mem _ q)]
        rw [this, ih (t ++ [(a, v)]) (by simpa using h)]
        simp
    simpa using key t [] (by simpa using ht)
  unfold sumT
  rw [h]
  simp only [List.flatMap_cons, List.flatMap_nil, List.append_nil]
  exact e _ (hT i)
theorem sumT_val {T : List Tab} (hT : NdT T) (k : Str) : ∀ h : List Nat, valT (sumT T h) k = (h.map fun i => valT (T.getD i []) k).sum
  | [] => rfl
  | i :: h => by
    have := sumT_app hT [i] h
    rw [List.singleton_append] at this
    rw [this, fold_val _ _ _ (sumT_nodup hT h), sumT_one hT, sumT_val hT k h]; rfl
theorem sumEn_app {T : List Tab} {E : List Int} (hT : NdT T) (a b : List Nat) : addEn (sumEn T E a) (sumEn T E b) = sumEn T E (a ++ b) := by
  have h1 := sumT_nodup hT a
  have h2 := sumT_nodup hT b
  have h3 := sumT_nodup hT (a ++ b)
  unfold addEn sumEn
  dsimp only
  rw [tot_self h1, tot_self h2, tot_self h3, merge_fold _ h1, ← sumT_app hT, sumT_app hT a b, fold_tot]
  have e1 : ((b.length : Nat) : Int) + (a.length : Nat) = (((a ++ b).length : Nat) : Int) := by rw [List.length_append]; push_cast; lia
  rw [e1, List.map_append, List.map_append, List.sum_append, List.sum_append]
  congr 1 <;> lia
end Mine
end
-- P2
section
open PySem PySem.W PyProof.Rows
set_option Elab.async false
set_option linter.unusedVariables false
namespace Mine
-- the ledgers, as numbers
theorem getD_set {α : Type} (l : List α) (i k : Nat) (v d : α) : (l.set i v).getD k d = if i = k ∧ i < l.length then v else l.getD k d := by
  simp only [List.getD_eq_getElem?_getD, List.getElem?_set]
  by_cases h : i = k
  · subst h
    by_cases q : i < l.length
    · simp [q]
    · simp [q]
  · simp [h]
structure LedV (n : Nat) (te : List Tab × List Int) : Prop where
  a : te.1.length = n
  b : te.2.length = n
  nd : NdT te.1
theorem LedV.led1 {n : Nat} {te : List Tab × List Int} (h : LedV n te) (i : Nat) (k : Str) (x : Int) : LedV n (led1 te i k x) := by
  refine ⟨by simp [Mine.led1, h.a], by simp [Mine.led1, h.b], fun j => ?_⟩
  show (keysT ((te.1.set i _).getD j [])).Nodup
  rw [getD_set]
  split
  · rw [ak_eq _ (h.nd i)]; exact ak_nodup _ (h.nd i)
  · exact h.nd j
theorem led1_val {n : Nat} {te : List Tab × List Int} (h : LedV n te) {i : Nat} (hi : i < n) (k : Str) (x : Int) (a : Nat) (b : Str) : valT ((led1 te i k x).1.getD a []) b = valT (te.1.getD a []) b + if i = a ∧ k = b then x else 0 := by
  show valT ((te.1.set i _).getD a []) b = _
  rw [getD_set]
  have := h.a
  by_cases q : i = a
  · subst q
    rw [if_pos ⟨rfl, by lia⟩, ak_eq _ (h.nd i), ak_val]
    simp
  · rw [if_neg fun z => q z.1]
    simp [q]
theorem lab_inj {lab : List Str} (hn : lab.Nodup) {i j : Nat} (hi : i < lab.length) (hj : j < lab.length) : lab.getD i "" = lab.getD j "" ↔ i = j := by
  rw [List.getD_eq_getElem?_getD, List.getD_eq_getElem?_getD, List.getElem?_eq_getElem hi, List.getElem?_eq_getElem hj]
  exact ⟨fun e => (List.getElem_inj hn).mp e, fun e => by subst e; rfl⟩
/-- calls between two hosts -/
noncomputable def wOf (lab : List Str) (te : List Tab × List Int) (h k : Nat) : Int := valT (te.1.getD h []) (lab.getD k "")
theorem ledStep_val {lab : List Str} (hn : lab.Nodup) {te : List Tab × List Int} (h : LedV lab.length te) {l : Call} (hl : l.1 < lab.length ∧ l.2.1 < lab.length) {a b : Nat} (hb : b < lab.length) :
    wOf lab (ledStep lab te l) a b = wOf lab te a b + (if l.2.1 = a ∧ l.1 = b then l.2.2 else 0) + (if l.1 = a ∧ l.2.1 = b then l.2.2 else 0) := by
  unfold wOf ledStep
  rw [led1_val (h.led1 _ _ _) hl.1, led1_val h hl.2]
  simp only [lab_inj hn hl.1 hb, lab_inj hn hl.2 hb]
structure WOk (lab : List Str) (te : List Tab × List Int) (W : List Int) : Prop where
  v : LedV lab.length te
  sym : ∀ a < lab.length, ∀ b < lab.length, wOf lab te a b = wOf lab te b a
  pos : ∀ a < lab.length, ∀ b < lab.length, 0 ≤ wOf lab te a b
  wl : W.length = 25
  w : ∀ a < lab.length, ∀ b < a, W.getD (5 * b + a) 0 = wOf lab te b a
theorem WOk.step {lab : List Str} (hn : lab.Nodup) (h5 : lab.length ≤ 5) {te : List Tab × List Int} {W : List Int} (h : WOk lab te W) {l : Call} (hl : l.1 < lab.length ∧ l.2.1 < lab.length) (hp : 0 ≤ l.2.2) : WOk lab (ledStep lab te l) (weigh W l) := by
  refine ⟨(h.v.led1 _ _ _).led1 _ _ _, fun a ha b hb => ?_, fun a ha b hb => ?_, by simp [weigh, h.wl], fun a ha b hb => ?_⟩
  · rw [ledStep_val hn h.v hl hb, ledStep_val hn h.v hl ha, h.sym a ha b hb]
    have e1 : (l.2.1 = b ∧ l.1 = a) ↔ (l.1 = a ∧ l.2.1 = b) := And.comm
    have e2 : (l.1 = b ∧ l.2.1 = a) ↔ (l.2.1 = a ∧ l.1 = b) := And.comm
    simp only [e1, e2]
    lia
  · rw [ledStep_val hn h.v hl hb]
    have := h.pos a ha b hb
    split <;> split <;> lia
  · rw [ledStep_val hn h.v hl ha, ← h.w a ha b hb]
    unfold weigh
    rw [getD_set, h.wl]
    have hlt := bondIx_lt h5 hl
    by_cases q : bondIx l = 5 * b + a
    · rw [if_pos ⟨q, hlt⟩, q]
      unfold bondIx at q
      by_cases c : l.2.1 = b ∧ l.1 = a
      · rw [if_pos c, if_neg (by lia)]; lia
      · rw [if_neg c, if_pos (by lia)]; lia
    · rw [if_neg fun z => q z.1, if_neg, if_neg]
      · lia
      · intro c; apply q; unfold bondIx; lia
      · intro c; apply q; unfold bondIx; lia
theorem wok_fold {lab : List Str} (hn : lab.Nodup) (h5 : lab.length ≤ 5) : ∀ (log : List Call) {te : List Tab × List Int} {W : List Int}, WOk lab te W → InRange lab.length log → (∀ l ∈ log, 0 ≤ l.2.2) → WOk lab (log.foldl (ledStep lab) te) (log.foldl weigh W)
  | [], _, _, h, _, _ => h
  | l :: log, _, _, h, hr, hp => wok_fold hn h5 log (h.step hn h5 (hr l List.mem_cons_self) (hp l List.mem_cons_self)) (fun x hx => hr x (List.mem_cons_of_mem _ hx)) fun x hx => hp x (List.mem_cons_of_mem _ hx)
theorem rep_getD {α : Type} (n i : Nat) (d : α) : (List.replicate n d).getD i d = d := by
  rw [List.getD_eq_getElem?_getD, List.getElem?_replicate]
  split <;> rfl
theorem ledV_start (n : Nat) : LedV n (List.replicate n [], List.replicate n 0) := ⟨by simp, by simp, fun i => by
  show (keysT ((List.replicate n ([] : Tab)).getD i [])).Nodup
  rw [rep_getD]; exact List.nodup_nil⟩
theorem wok_ledgers {lab : List Str} (hn : lab.Nodup) (h5 : lab.length ≤ 5) {log : List Call} (hr : InRange lab.length log) (hp : ∀ l ∈ log, 0 ≤ l.2.2) : WOk lab (ledgersOf lab log) (weightsOf log) := by
  have z : ∀ a b, wOf lab (List.replicate lab.length [], List.replicate lab.length 0) a b = 0 := fun a b => by
    unfold wOf
    dsimp only
    rw [rep_getD]; rfl
  refine wok_fold hn h5 log ⟨ledV_start _, fun a _ b _ => by rw [z, z], fun a _ b _ => by rw [z]; lia, by simp, fun a ha b hb => ?_⟩ hr hp
  rw [z, rep_getD]
-- the entries
noncomputable def rowEn (te : List Tab × List Int) (k : Nat) : En := ⟨1, totT (te.1.getD k []), te.2.getD k 0, (2 : Int) ^ k, te.1.getD k []⟩
structure EntR (n : Nat) (te : List Tab × List Int) (es : List En) : Prop where
  v : LedV n te
  l : es.length = n
  e : ∀ k < n, es.getD k en0 = rowEn te k
theorem EntR.one {n : Nat} {te : List Tab × List Int} {es : List En} (h : EntR n te es) {i : Nat} (hi : i < n) (k : Str) (x : Int) : EntR n (led1 te i k x) (ent1 es i k x) := by
  refine ⟨h.v.led1 _ _ _, by simp [ent1, h.l], fun j hj => ?_⟩
  show (es.set i _).getD j en0 = _
  have ha := h.v.a
  have hb := h.v.b
  have hl := h.l
  rw [getD_set]
  by_cases q : i = j
  · subst q
    rw [if_pos ⟨rfl, by lia⟩, h.e i hi]
    unfold rowEn addEn
    have e1 : (led1 te i k x).1.getD i [] = akT (te.1.getD i []) (k, x) := by
      show (te.1.set i _).getD i [] = _
      rw [getD_set, if_pos ⟨rfl, by lia⟩, ak_eq _ (h.v.nd i)]
    have e2 : (led1 te i k x).2.getD i 0 = te.2.getD i 0 + 1 := by
      show (te.2.set i _).getD i 0 = _
      rw [getD_set, if_pos ⟨rfl, by lia⟩]
    rw [e1, e2]
    dsimp only
    rw [ak_tot, merge_fold _ (h.v.nd i)]
    have e3 : foldT (te.1.getD i []) [(k, x)] = akT (te.1.getD i []) (k, x) := rfl
    rw [e3]
    congr 1 <;> lia
  · rw [if_neg fun z => q z.1, h.e j hj]
    unfold rowEn
    have e1 : (led1 te i k x).1.getD j [] = te.1.getD j [] := by
      show (te.1.set i _).getD j [] = _
      rw [getD_set, if_neg fun z => q z.1]
    have e2 : (led1 te i k x).2.getD j 0 = te.2.getD j 0 := by
      show (te.2.set i _).getD j 0 = _
      rw [getD_set, if_neg fun z => q z.1]
    rw [e1, e2]
theorem entR_fold {lab : List Str} : ∀ (log : List Call) {te : List Tab × List Int} {es : List En}, EntR lab.length te es → InRange lab.length log → EntR lab.length (log.foldl (ledStep lab) te) (log.foldl (entStep lab) es)
  | [], _, _, h, _ => h
  | l :: log, _, _, h, hr => entR_fold log ((h.one (hr l List.mem_cons_self).2 _ _).one (hr l List.mem_cons_self).1 _ _) fun x hx => hr x (List.mem_cons_of_mem _ hx)
theorem ent_ok {lab : List Str} {log : List Call} (hr : InRange lab.length log) : entriesOf lab log = (List.range lab.length).map fun k => sumEn (ledgersOf lab log).1 (ledgersOf lab log).2 [k] := by
  have R : EntR lab.length (ledgersOf lab log) (entriesOf lab log) := entR_fold log ⟨ledV_start _, by simp [entStart], fun k hk => by
    unfold entStart rowEn
    dsimp only
    rw [rep_getD, rep_getD, List.getD_eq_getElem?_getD, List.getElem?_map, List.getElem?_range hk]
    rfl⟩ hr
  apply List.ext_getElem?
  intro k
  by_cases hk : k < lab.length
  · have e := R.e k hk
    have hl := R.l
    rw [List.getD_eq_getElem?_getD] at e
    rw [List.getElem?_map, List.getElem?_range hk]
    rw [List.getElem?_eq_getElem (by lia)] at e ⊢
    simp only [Option.getD_some] at e
    rw [e, Option.map_some]
    congr 1
    unfold rowEn sumEn
    have nd := sumT_nodup R.v.nd [k]
    rw [tot_self nd, sumT_one R.v.nd]
    simp
  · rw [List.getElem?_eq_none (by rw [R.l]; lia), List.getElem?_eq_none (by simp; lia)]
end Mine
end
-- P3
section
open PySem PySem.W PyProof.Rows
set_option Elab.async false
set_option linter.unusedVariables false
namespace Mine
-- sums
theorem sum_add {α : Type} (l : List α) (f g : α → Int) : (l.map fun x => f x + g x).sum = (l.map f).sum + (l.map g).sum := by
  induction l with
  | nil => rfl
  | cons a l ih => simp only [List.map_cons, List.sum_cons, ih]; lia
theorem sum_le {α : Type} (l : List α) (f g : α → Int) (h : ∀ x ∈ l, f x ≤ g x) : (l.map f).sum ≤ (l.map g).sum := by
  induction l with
  | nil => exact Int.le_refl _
  | cons a l ih =>
    have h1 := h a List.mem_cons_self
    have h2 := ih fun x hx => h x (List.mem_cons_of_mem _ hx)
    simp only [List.map_cons, List.sum_cons]; lia
theorem sum_eq {α : Type} (l : List α) (f g : α → Int) (h : ∀ x ∈ l, f x = g x) : (l.map f).sum = (l.map g).sum := by
  rw [List.map_congr_left h]
theorem sum_zero {α : Type} (l : List α) : (l.map fun _ => (0 : Int)).sum = 0 := by
  induction l with
  | nil => rfl
  | cons a l ih => simp only [List.map_cons, List.sum_cons, ih]; rfl
theorem sum_swap {α β : Type} (m : List β) (f : α → β → Int) : ∀ l : List α, (l.map fun x => (m.map fun y => f x y).sum).sum = (m.map fun y => (l.map fun x => f x y).sum).sum
  | [] => by simp only [List.map_nil, List.sum_nil]; exact (sum_zero m).symm
  | a :: l => by
    simp only [List.map_cons, List.sum_cons]
    rw [sum_swap m f l, sum_add]
theorem sum_filter {α : Type} (p : α → Bool) (f : α → Int) : ∀ l : List α, ((l.filter p).map f).sum = (l.map fun x => if p x = true then f x else 0).sum
  | [] => rfl
  | a :: l => by
    rw [List.filter_cons]
    by_cases h : p a = true
    · rw [if_pos h]; simp only [List.map_cons, List.sum_cons, h, if_true, sum_filter p f l]
    · rw [if_neg h]; simp only [List.map_cons, List.sum_cons, h, sum_filter p f l]
      simp
theorem sum_flat {α β : Type} (g : α → List β) (f : β → Int) : ∀ l : List α, ((l.flatMap g).map f).sum = (l.map fun x => ((g x).map f).sum).sum
  | [] => rfl
  | a :: l => by simp only [List.flatMap_cons, List.map_append, List.sum_append, List.map_cons, List.sum_cons, sum_flat g f l]
theorem sum_perm {α : Type} (f : α → Int) {l m : List α} (h : l.Perm m) : (l.map f).sum = (m.map f).sum := by
  induction h with
  | nil => rfl
  | cons x _ ih => simp only [List.map_cons, List.sum_cons, ih]
  | swap x y l => simp only [List.map_cons, List.sum_cons]; lia
  | trans _ _ a b => rw [a, b]
theorem foldl_sum : ∀ (l : List Int) (a : Int), l.foldl (· + ·) a = a + l.sum
  | [], a => by simp
  | x :: l, a => by rw [List.foldl_cons, foldl_sum l]; simp only [List.sum_cons]; lia
noncomputable def s2 (n : Nat) (f : Nat → Nat → Int) : Int := ((List.range n).map fun h => ((List.range n).map fun k => f h k).sum).sum
theorem s2_add (n : Nat) (f g : Nat → Nat → Int) : s2 n f + s2 n g = s2 n fun h k => f h k + g h k := by
  unfold s2
  rw [← sum_add]
  exact sum_eq _ _ _ fun h _ => (sum_add _ _ _).symm
theorem s2_le {n : Nat} {f g : Nat → Nat → Int} (h : ∀ a < n, ∀ b < n, f a b ≤ g a b) : s2 n f ≤ s2 n g :=
  sum_le _ _ _ fun a ha => sum_le _ _ _ fun b hb => h a (List.mem_range.mp ha) b (List.mem_range.mp hb)
theorem s2_eq {n : Nat} {f g : Nat → Nat → Int} (h : ∀ a < n, ∀ b < n, f a b = g a b) : s2 n f = s2 n g :=
  sum_eq _ _ _ fun a ha => sum_eq _ _ _ fun b hb => h a (List.mem_range.mp ha) b (List.mem_range.mp hb)
theorem s2_swap (n : Nat) (f : Nat → Nat → Int) : s2 n f = s2 n fun a b => f b a := sum_swap _ _ _
theorem s2_succ (n : Nat) (f : Nat → Nat → Int) : s2 (n + 1) f = s2 n f + ((List.range n).map fun h => f h n + f n h).sum + f n n := by
  unfold s2
  rw [List.range_succ, List.map_append, List.sum_append]
  have e : ((List.range n).map fun h => ((List.range n ++ [n]).map fun k => f h k).sum) = (List.range n).map fun h => ((List.range n).map fun k => f h k).sum + f h n := List.map_congr_left fun h _ => by
    rw [List.map_append, List.sum_append]; simp
  rw [e, sum_add, sum_add]
  have e2 : ([n].map fun h => ((List.range n ++ [n]).map fun k => f h k).sum).sum = ((List.range n).map fun k => f n k).sum + f n n := by
    rw [List.map_cons, List.map_nil, List.map_append, List.sum_cons, List.sum_append]; simp
  rw [e2]
  have key : ∀ a b c d : Int, a + b + (c + d) = a + (b + c) + d := by lia
  exact key _ _ _ _
/-- weights -/
structure Wt (n : Nat) (W : Nat → Nat → Int) : Prop where
  sym : ∀ a < n, ∀ b < n, W a b = W b a
  pos : ∀ a < n, ∀ b < n, 0 ≤ W a b
/-- what runs from one set of hosts to another -/
noncomputable def xs (n : Nat) (W : Nat → Nat → Int) (A B : Nat → Bool) : Int := s2 n fun h k => if (A h && B k) = true then W h k else 0
theorem xs_congr {n : Nat} {W : Nat → Nat → Int} {A A' B B' : Nat → Bool} (ha : ∀ h < n, A h = A' h) (hb : ∀ h < n, B h = B' h) : xs n W A B = xs n W A' B' :=
  s2_eq fun a x b y => by rw [ha a x, hb b y]
theorem xs_sym {n : Nat} {W : Nat → Nat → Int} (w : Wt n W) (A B : Nat → Bool) : xs n W A B = xs n W B A := by
  unfold xs
  rw [s2_swap]
  refine s2_eq fun a ha b hb => ?_
  rw [w.sym a ha b hb, Bool.and_comm]
theorem xs_left {n : Nat} {W : Nat → Nat → Int} {A A1 A2 : Nat → Bool} (B : Nat → Bool) (h : ∀ x < n, A x = (A1 x || A2 x)) (d : ∀ x < n, (A1 x && A2 x) = false) : xs n W A B = xs n W A1 B + xs n W A2 B := by
  unfold xs
  rw [s2_add]
  refine s2_eq fun a ha b hb => ?_
  have := h a ha
  have := d a ha
  cases h1 : A1 a <;> cases h2 : A2 a <;> cases h3 : B b <;> simp_all
theorem xs_mono {n : Nat} {W : Nat → Nat → Int} (w : Wt n W) {A A' B B' : Nat → Bool} (ha : ∀ h < n, A h = true → A' h = true) (hb : ∀ h < n, B h = true → B' h = true) : xs n W A B ≤ xs n W A' B' := by
  refine s2_le fun a x b y => ?_
  have p := w.pos a x b y
  have := ha a x
  have := hb b y
  cases h1 : A a <;> cases h2 : B b <;> cases h3 : A' a <;> cases h4 : B' b <;> simp_all
theorem xs_right {n : Nat} {W : Nat → Nat → Int} {B B1 B2 : Nat → Bool} (A : Nat → Bool) (h : ∀ x < n, B x = (B1 x || B2 x)) (d : ∀ x < n, (B1 x && B2 x) = false) : xs n W A B = xs n W A B1 + xs n W A B2 := by
  unfold xs
  rw [s2_add]
  refine s2_eq fun a ha b hb => ?_
  have := h b hb
  have := d b hb
  cases h1 : B1 b <;> cases h2 : B2 b <;> cases h3 : A a <;> simp_all
/-- the cut of a side -/
noncomputable def cutX (n : Nat) (W : Nat → Nat → Int) (c : Nat → Bool) : Int := xs n W c fun h => !c h
theorem cutX_not {n : Nat} {W : Nat → Nat → Int} (w : Wt n W) (c : Nat → Bool) : cutX n W (fun h => !c h) = cutX n W c := by
  unfold cutX
  rw [xs_sym w]
  exact xs_congr (fun h _ => by simp) (fun h _ => rfl)
theorem cutX_congr {n : Nat} {W : Nat → Nat → Int} {c d : Nat → Bool} (h : ∀ x < n, c x = d x) : cutX n W c = cutX n W d := xs_congr h fun x hx => by rw [h x hx]
theorem pairs_cut {W : Nat → Nat → Int} (c : Nat → Bool) : ∀ {n : Nat}, Wt n W → ((List.range n).map fun other => ((List.range other).map fun one => if (c one != c other) = true then W one other else 0).sum).sum = cutX n W c
  | 0, _ => rfl
  | n + 1, w => by
    have ih := pairs_cut c (n := n) ⟨fun a ha b hb => w.sym a (by lia) b (by lia), fun a ha b hb => w.pos a (by lia) b (by lia)⟩
    have e : cutX (n + 1) W c = cutX n W c + ((List.range n).map fun h => (if (c h && !c n) = true then W h n else 0) + (if (c n && !c h) = true then W n h else 0)).sum + (if (c n && !c n) = true then W n n else 0) := s2_succ n _
    rw [e, ← ih, List.range_succ, List.map_append, List.sum_append]
    have z : (if (c n && !c n) = true then W n n else 0) = 0 := by cases c n <;> rfl
    rw [z]
    simp only [List.map_cons, List.map_nil, List.sum_cons, List.sum_nil]
    have : ((List.range n).map fun one => if (c one != c n) = true then W one n else 0).sum = ((List.range n).map fun h => (if (c h && !c n) = true then W h n else 0) + (if (c n && !c h) = true then W n h else 0)).sum := sum_eq _ _ _ fun h hh => by
      rw [w.sym n (by lia) h (by have := List.mem_range.mp hh; lia)]
      cases c h <;> cases c n <;> simp
    lia
theorem between_cut {n : Nat} {W : Nat → Nat → Int} {log : List Call} (w : Wt n W) (hw : ∀ a < n, ∀ b < a, (weightsOf log).getD (5 * b + a) 0 = W b a) (side : List Int) {c : Nat → Bool} (hc : ∀ k < n, side.contains ((k : Nat) : Int) = c k) : between (bondsOf n log) side = cutX n W c := by
  unfold between bondsOf
  rw [sum_filter, sum_flat, ← pairs_cut c w]
  refine sum_eq _ _ _ fun a ha => ?_
  rw [List.map_map]
  refine sum_eq _ _ _ fun b hb => ?_
  have ha' := List.mem_range.mp ha
  have hb' := List.mem_range.mp hb
  show (if (side.contains ((b : Nat) : Int) != side.contains ((a : Nat) : Int)) = true then (weightsOf log).getD (5 * b + a) 0 else 0) = _
  rw [hc b (by lia), hc a ha', hw a ha' b hb']
-- the best of a list
structure LtOk {α : Type} (lt : α → α → Bool) : Prop where
  tr : ∀ a b c, lt a b = true → lt b c = true → lt a c = true
  ir : ∀ a, lt a a = false
  wk : ∀ a b c, lt a c = true → lt a b = true ∨ lt b c = true
theorem bestOf_spec {α : Type} {lt : α → α → Bool} (o : LtOk lt) : ∀ (l : List α) (a : α), bestOf lt a l ∈ a :: l ∧ ∀ y ∈ a :: l, lt y (bestOf lt a l) = false
  | [], a => ⟨List.mem_cons_self, fun y hy => by obtain rfl := List.mem_singleton.mp hy; exact o.ir y⟩
  | b :: l, a => by
    have ih := bestOf_spec o l (if lt b a then b else a)
    refine ⟨?_, fun y hy => ?_⟩
    · show bestOf lt (if lt b a then b else a) l ∈ _
      rcases List.mem_cons.mp ih.1 with q | q
      · rw [q]; split <;> simp
      · exact List.mem_cons_of_mem _ (List.mem_cons_of_mem _ q)
    · show lt y (bestOf lt (if lt b a then b else a) l) = false
      by_cases hl : y ∈ l
      · exact ih.2 y (List.mem_cons_of_mem _ hl)
      have h0 := ih.2 _ List.mem_cons_self
      by_cases hba : lt b a = true
      · rw [if_pos hba] at h0 ⊢
        rcases List.mem_cons.mp hy with rfl | hy
        · cases hz : lt y (bestOf lt b l) with
          | false => rfl
          | true => rw [o.tr b y _ hba hz] at h0; cases h0
        · rcases List.mem_cons.mp hy with rfl | hy
          · exact h0
          · exact absurd hy hl
      · rw [if_neg hba] at h0 ⊢
        rcases List.mem_cons.mp hy with rfl | hy
        · exact h0
        · rcases List.mem_cons.mp hy with rfl | hy
          · cases hz : lt y (bestOf lt a l) with
            | false => rfl
            | true =>
              rcases o.wk y a _ hz with q | q
              · exact absurd q hba
              · rw [h0] at q; cases q
          · exact absurd hy hl
theorem best_spec {α : Type} {lt : α → α → Bool} (o : LtOk lt) (d : α) {l : List α} (h : l ≠ []) : best lt d l ∈ l ∧ ∀ y ∈ l, lt y (best lt d l) = false := by
  cases l with
  | nil => exact absurd rfl h
  | cons a r => exact bestOf_spec o r a
theorem ltI_ok : LtOk ltI := ⟨fun a b c h1 h2 => by simp only [ltI, decide_eq_true_eq] at *; lia, fun a => by simp [ltI], fun a b c h => by simp only [ltI, decide_eq_true_eq] at *; lia⟩
theorem gtI_ok : LtOk gtI := ⟨fun a b c h1 h2 => by simp only [gtI, decide_eq_true_eq] at *; lia, fun a => by simp [gtI], fun a b c h => by simp only [gtI, decide_eq_true_eq] at *; lia⟩
theorem ltS_ok : LtOk ltS := ⟨fun a b c h1 h2 => by simp only [ltS, decide_eq_true_eq] at *; exact List.lt_trans h1 h2, fun a => by simp [ltS, List.lt_irrefl], fun a b c h => by
  simp only [ltS, decide_eq_true_eq] at *
  by_cases q : a.cps.toList < b.cps.toList
  · exact .inl q
  · right
    have q' : b.cps.toList ≤ a.cps.toList := List.not_lt.mp q
    exact List.lt_of_le_of_lt q' h⟩
theorem gtS_ok : LtOk gtS := ⟨fun a b c h1 h2 => ltS_ok.tr c b a h2 h1, fun a => ltS_ok.ir a, fun a b c h => (ltS_ok.wk c b a h).symm⟩
theorem minI_mem {l : List Int} (h : l ≠ []) : minI l ∈ l := (best_spec ltI_ok 0 h).1
theorem minI_le {l : List Int} {x : Int} (h : x ∈ l) : minI l ≤ x := by
  have := (best_spec ltI_ok 0 (l := l) (by intro e; subst e; cases h)).2 x h
  simp only [ltI, decide_eq_false_iff_not] at this
  exact Int.not_lt.mp this
theorem maxI_mem {l : List Int} (h : l ≠ []) : maxI l ∈ l := (best_spec gtI_ok 0 h).1
theorem maxI_ge {l : List Int} {x : Int} (h : x ∈ l) : x ≤ maxI l := by
  have := (best_spec gtI_ok 0 (l := l) (by intro e; subst e; cases h)).2 x h
  simp only [gtI, decide_eq_false_iff_not] at this
  exact Int.not_lt.mp this
theorem minI_is {l : List Int} {x : Int} (hm : x ∈ l) (hl : ∀ y ∈ l, x ≤ y) : minI l = x := by
  have h1 := minI_le hm
  have h2 := hl _ (minI_mem (l := l) (by intro e; subst e; cases hm))
  lia
theorem maxI_is {l : List Int} {x : Int} (hm : x ∈ l) (hl : ∀ y ∈ l, y ≤ x) : maxI l = x := by
  have h1 := maxI_ge hm
  have h2 := hl _ (maxI_mem (l := l) (by intro e; subst e; cases hm))
  lia
theorem ltS_tri {a b : Str} (h1 : ltS a b = false) (h2 : ltS b a = false) : a = b := by
  simp only [ltS, decide_eq_false_iff_not] at h1 h2
  have : a.cps.toList = b.cps.toList := List.le_antisymm (List.not_lt.mp h2) (List.not_lt.mp h1)
  cases a; cases b
  congr 1
  exact Array.toList_inj.mp this
theorem minS_is {l : List Str} {x : Str} (hm : x ∈ l) (hl : ∀ y ∈ l, ltS y x = false) : minS l = x := by
  have h := best_spec ltS_ok ⟨#[]⟩ (l := l) (by intro e; subst e; cases hm)
  exact ltS_tri (hl _ h.1) (h.2 x hm)
theorem maxS_is {l : List Str} {x : Str} (hm : x ∈ l) (hl : ∀ y ∈ l, ltS x y = false) : maxS l = x := by
  have h := best_spec gtS_ok ⟨#[]⟩ (l := l) (by intro e; subst e; cases hm)
  exact ltS_tri (h.2 x hm) (hl _ h.1)
end Mine
end
-- P4
section
open PySem PySem.W PyProof.Rows
set_option Elab.async false
set_option linter.unusedVariables false
set_option maxRecDepth 100000
namespace Mine
-- names
noncomputable def baseN (k : Nat) : Nm := labL.getD k [] ++ dotLocal
noncomputable def nmC (k : Nat) (m : List Nat) : Nm := m.foldl (fun n i => n.take (n.length - 5) ++ freshL.getD i []) (baseN k)
noncomputable def blC (k : Nat) (m : List Nat) : Nm := match m.getLast? with | none => baseN k | some i => freshL.getD i []
noncomputable def chL : Nat → List (List Nat)
  | 0 => [[]]
  | r + 1 => chL r ++ (chL r).map (· ++ [r])
noncomputable def blL : List Nm := (List.range 5).map baseN ++ freshL.take 3
theorem chL_sub {r q : Nat} (h : r ≤ q) : ∀ {m : List Nat}, m ∈ chL r → m ∈ chL q := by
  induction h with
  | refl => exact id
  | step _ ih => exact fun hm => List.mem_append_left _ (ih hm)
noncomputable def lowB (l : List Nat) : Bool := l.all (fun c => c == 46 || (Nat.ble 97 c && Nat.ble c 122)) && (Nat.blt l.length 400 && Nat.ble 5 l.length)
theorem lowB_ok {l : List Nat} (h : lowB l = true) : LowN l := by
  simp only [lowB, Bool.and_eq_true, List.all_eq_true, Bool.or_eq_true, beq_iff_eq, Nat.ble_eq, Nat.blt_eq] at h
  exact ⟨h.1, h.2.1, h.2.2⟩
theorem names_all : ∀ k ∈ List.range 5, ∀ m ∈ chL 3, lowB (nmC k m) = true ∧ homeL 20 (nmC k m) = some (blC k m) ∧ blC k m ∈ blL ∧ ∀ b ∈ blL, inL (nmC k m) b = (blC k m == b) := by decide +kernel
theorem blocks_all : ∀ b ∈ blL, lowB b = true ∧ reachF b = dotLocal ∧ (∀ t ∈ aloneTexts b, reachL t.1 t.2 = t.1) ∧ (∀ a ∈ aloneAsks1 b ++ aloneAsks2 b, udmL (a.A.map loC) (a.B.map loC) a.ba a.bb = a.r) := by decide +kernel
theorem fresh_all : ∀ f ∈ freshL, lowB f = true := by decide +kernel
theorem labs_nodup : (["a", "ba", "ca", "da", "ea"] : List Str).Nodup := by decide +kernel
theorem base_inj : ∀ j ∈ List.range 5, ∀ k ∈ List.range 5, baseN j = baseN k → j = k := by decide +kernel
theorem fresh_new : ∀ r ∈ List.range 4, freshL.getD r [] ∉ (List.range 5).map baseN ++ freshL.take r := by decide +kernel
end Mine
end
-- P5
section
open PySem PySem.W PyProof.Rows
set_option Elab.async false
set_option linter.unusedVariables false
set_option maxRecDepth 100000
namespace Mine
-- the order of rows
noncomputable def ordS (way : Int) : Str → Str → Bool := if way = 1 then ltS else gtS
theorem ordS_ok (way : Int) : LtOk (ordS way) := by
  unfold ordS
  split
  · exact ltS_ok
  · exact gtS_ok
theorem rowCmp_neg {way : Int} (hw : way = 1 ∨ way = -1) (r q : Row) : rowCmp way r q < 0 ↔ q.b < r.b ∨ (r.b = q.b ∧ ordS way r.x q.x = true) := by
  have ir : ∀ a, ltS a a = false := ltS_ok.ir
  have as : ∀ a b, ltS a b = true → ltS b a = false := fun a b h => by
    cases q : ltS b a with
    | false => rfl
    | true => have := ltS_ok.tr a b a h q; rw [ltS_ok.ir a] at this; cases this
  have e : ∀ a b, gtS a b = ltS b a := fun _ _ => rfl
  unfold rowCmp
  by_cases h1 : r.b < q.b
  · rw [if_pos h1]; constructor
    · intro h; lia
    · intro h; lia
  · rw [if_neg h1]
    by_cases h2 : q.b < r.b
    · rw [if_pos h2]; constructor
      · intro h; lia
      · intro h; lia
    · rw [if_neg h2]
      have h3 : r.b = q.b := by lia
      rcases hw with rfl | rfl
      · have : ordS 1 r.x q.x = ltS r.x q.x := rfl
        rw [this]
        by_cases h4 : ltS r.x q.x = true
        · rw [if_pos h4]; simp [h3, h4]
        · rw [if_neg h4]
          constructor
          · intro h; split at h <;> lia
          · intro h; rcases h with h | h
            · lia
            · exact absurd h.2 h4
      · have : ordS (-1) r.x q.x = ltS q.x r.x := rfl
        rw [this]
        by_cases h4 : ltS r.x q.x = true
        · rw [if_pos h4]
          constructor
          · intro h; lia
          · intro h; rcases h with h | h
            · lia
            · rw [as _ _ h4] at h; cases h.2
        · rw [if_neg h4, e]
          by_cases h5 : ltS q.x r.x = true
          · rw [if_pos h5]; simp [h3, h5]
          · rw [if_neg h5]; simp [h3, h5]
noncomputable def ltR (way : Int) (r q : Row) : Bool := decide (rowCmp way r q < 0)
theorem ltR_iff {way : Int} (hw : way = 1 ∨ way = -1) (r q : Row) : ltR way r q = true ↔ q.b < r.b ∨ (r.b = q.b ∧ ordS way r.x q.x = true) := by
  unfold ltR
  rw [decide_eq_true_eq]
  exact rowCmp_neg hw r q
theorem ltR_ok {way : Int} (hw : way = 1 ∨ way = -1) : LtOk (ltR way) := by
  have o := ordS_ok way
  refine ⟨fun a b c h1 h2 => ?_, fun a => ?_, fun a b c h => ?_⟩
  · rw [ltR_iff hw] at *
    rcases h1 with h1 | h1 <;> rcases h2 with h2 | h2
    · left; lia
    · left; lia
    · left; lia
    · right; exact ⟨by lia, o.tr _ _ _ h1.2 h2.2⟩
  · cases h : ltR way a a with
    | false => rfl
    | true =>
      rw [ltR_iff hw] at h
      rcases h with h | h
      · lia
      · rw [o.ir] at h; cases h.2
  · rw [ltR_iff hw] at *
    rw [ltR_iff hw]
    rcases h with h | h
    · by_cases q : b.b < a.b
      · exact .inl (.inl q)
      · right; left; lia
    · by_cases q : b.b < a.b
      · exact .inl (.inl q)
      · by_cases q2 : a.b < b.b
        · right; left; lia
        · have q3 : a.b = b.b := by lia
          rcases o.wk a.x b.x c.x h.2 with z | z
          · exact .inl (.inr ⟨q3, z⟩)
          · exact .inr (.inr ⟨by lia, z⟩)
theorem pickB_spec {way : Int} (hw : way = 1 ∨ way = -1) (bk : Nm → En) (b : Nm → Int) {left : List Nm} (h : left ≠ []) : ∀ r ∈ left, ltR way (rowOf bk b r) (rowOf bk b (pickB way bk b left)) = false := by
  have o := ltR_ok hw
  have o' : LtOk (fun x y : Nm => ltR way (rowOf bk b x) (rowOf bk b y)) := ⟨fun x y z => o.tr _ _ _, fun x => o.ir _, fun x y z => o.wk _ _ _⟩
  have key : ∀ (l : List Nm) (f : Nm), l.foldl (pickStep way bk b) f = bestOf (fun x y : Nm => ltR way (rowOf bk b x) (rowOf bk b y)) f l := by
    intro l
    induction l with
    | nil => intro f; rfl
    | cons x l ih =>
      intro f
      rw [List.foldl_cons, ih]
      show _ = bestOf _ (if _ then _ else _) l
      congr 1
      unfold pickStep ltR
      by_cases q : rowCmp way (rowOf bk b x) (rowOf bk b f) < 0 <;> simp [q]
  unfold pickB
  rw [key]
  intro r hr
  exact (bestOf_spec o' left (left.headD [])).2 r (List.mem_cons_of_mem _ hr)
theorem rowCmp_self (way : Int) (r : Row) : rowCmp way r r = 0 := by
  have e : ∀ a b, gtS a b = ltS b a := fun _ _ => rfl
  unfold rowCmp
  rw [if_neg (by lia), if_neg (by lia), e, ltS_ok.ir]; rfl
theorem rowCmp_other {way : Int} (hw : way = 1 ∨ way = -1) {r f : Row} (hn : ltR way r f = false) (hx : r.x ≠ f.x) : rowCmp way r f = 1 ∧ rowCmp way f r = -1 := by
  have e : ∀ a b, gtS a b = ltS b a := fun _ _ => rfl
  have hb : r.b ≤ f.b := by
    by_cases q : f.b < r.b
    · rw [(ltR_iff hw r f).mpr (.inl q)] at hn; cases hn
    · lia
  unfold rowCmp
  by_cases h1 : r.b < f.b
  · rw [if_pos h1, if_neg (by lia), if_pos h1]; exact ⟨rfl, rfl⟩
  · have h3 : r.b = f.b := by lia
    have ho : ordS way r.x f.x = false := by
      cases q : ordS way r.x f.x with
      | false => rfl
      | true => rw [(ltR_iff hw r f).mpr (.inr ⟨h3, q⟩)] at hn; cases hn
    have n1 : ¬ r.b < f.b := h1
    have n2 : ¬ f.b < r.b := by lia
    simp only [n1, n2, if_false, e]
    rcases hw with rfl | rfl
    · have ho' : ltS r.x f.x = false := ho
      have : ltS f.x r.x = true := by
        cases q : ltS f.x r.x with
        | true => rfl
        | false => exact absurd (ltS_tri ho' q) hx
      rw [ho', this]; exact ⟨rfl, rfl⟩
    · have ho' : ltS f.x r.x = false := ho
      have : ltS r.x f.x = true := by
        cases q : ltS r.x f.x with
        | true => rfl
        | false => exact absurd (ltS_tri q ho') hx
      rw [ho', this]; exact ⟨rfl, rfl⟩
theorem stepOk_of {way : Int} (hw : way = 1 ∨ way = -1) (bk : Nm → En) (b : Nm → Int) {left : List Nm} {f : Nm} (hlen : left.length ≤ 100) (hf : f ∈ left) (hbest : ∀ r ∈ left, ltR way (rowOf bk b r) (rowOf bk b f) = false) : StepOk way (left.map (rowOf bk b)) (rowOf bk b f) := by
  have hle : ∀ r ∈ left, b r ≤ b f := fun r hr => by
    by_cases q : b f < b r
    · have := hbest r hr
      rw [(ltR_iff hw _ _).mpr (.inl q)] at this; cases this
    · lia
  have hmost : mostOf (left.map (rowOf bk b)) = b f := by
    unfold mostOf
    refine maxI_is ?_ ?_
    · rw [List.map_map]; exact List.mem_map.mpr ⟨f, hf, rfl⟩
    · intro y hy
      rw [List.map_map] at hy
      obtain ⟨r, hr, rfl⟩ := List.mem_map.mp hy
      exact hle r hr
  have hin : tx f ∈ likeOf (left.map (rowOf bk b)) := by
    unfold likeOf
    rw [hmost]
    exact List.mem_map.mpr ⟨rowOf bk b f, List.mem_filter.mpr ⟨List.mem_map_of_mem hf, by simp [rowOf]⟩, rfl⟩
  have hlk : ∀ y ∈ likeOf (left.map (rowOf bk b)), ∃ r ∈ left, y = tx r ∧ b r = b f := fun y hy => by
    unfold likeOf at hy
    rw [hmost] at hy
    obtain ⟨q, hq, rfl⟩ := List.mem_map.mp hy
    obtain ⟨hq1, hq2⟩ := List.mem_filter.mp hq
    obtain ⟨r, hr, rfl⟩ := List.mem_map.mp hq1
    exact ⟨r, hr, rfl, by simpa [rowOf] using hq2⟩
  have hord : ∀ y ∈ likeOf (left.map (rowOf bk b)), ordS way y (tx f) = false := fun y hy => by
    obtain ⟨r, hr, rfl, e⟩ := hlk y hy
    cases q : ordS way (tx r) (tx f) with
    | false => rfl
    | true =>
      have := hbest r hr
      rw [(ltR_iff hw _ _).mpr (.inr ⟨e, q⟩)] at this; cases this
  have hcase : ∀ r ∈ left, (r = f ∧ rowEq (rowOf bk b r) (rowOf bk b f) = true) ∨ (tx r ≠ tx f ∧ rowEq (rowOf bk b r) (rowOf bk b f) = false) := fun r hr => by
    by_cases q : r = f
    · subst q; left; exact ⟨rfl, by simp [rowEq]⟩
    · right
      have : tx r ≠ tx f := fun e => q (by simpa [tx_inj] using e)
      exact ⟨this, by simp [rowEq, rowOf, this]⟩
  have hne : left.map (rowOf bk b) ≠ [] := List.ne_nil_of_mem (List.mem_map_of_mem hf)
  refine ⟨hne, by simpa using hlen, List.ne_nil_of_mem hin, ?_, fun r hr => ?_, fun r hr => ?_⟩
  · show tx f = _
    rcases hw with rfl | rfl
    · rw [if_pos (by decide)]
      exact (minS_is hin fun y hy => hord y hy).symm
    · rw [if_neg (by decide)]
      exact (maxS_is hin fun y hy => hord y hy).symm
  · obtain ⟨q, hq, rfl⟩ := List.mem_map.mp hr
    rcases hcase q hq with ⟨rfl, h2⟩ | ⟨h1, h2⟩
    · rw [if_pos h2, rowCmp_self]
    · rw [if_neg (by rw [h2]; exact Bool.false_ne_true), (rowCmp_other hw (hbest q hq) h1).1]
  · obtain ⟨q, hq, rfl⟩ := List.mem_map.mp hr
    rcases hcase q hq with ⟨rfl, h2⟩ | ⟨h1, h2⟩
    · rw [if_pos h2, rowCmp_self]
    · rw [if_neg (by rw [h2]; exact Bool.false_ne_true), (rowCmp_other hw (hbest q hq) h1).2]
end Mine
end
-- P6
section
open PySem PySem.W PyProof.Rows
set_option Elab.async false
set_option linter.unusedVariables false
set_option maxRecDepth 100000
namespace Mine
-- a round, as sums
noncomputable def pB (home : Nat → Nm) (x : Nm) : Nat → Bool := fun h => home h == x
noncomputable def pT (home : Nat → Nm) (T : List Nm) : Nat → Bool := fun h => T.contains (home h)
structure Rd (lab : List Str) (bk : Nm → En) (names : List Nm) (home : Nat → Nm) (n : Nat) (W : Nat → Nat → Int) (bs : List Nm) : Prop where
  w : Wt n W
  nl : names.length = n
  fnd : ∀ b ∈ bs, ∀ k < n, (foundRow names b).getD k false = (home k == b)
  nd : bs.Nodup
  hom : ∀ k < n, home k ∈ bs
  val : ∀ b ∈ bs, ∀ k < n, (dget (bk b).t (lab.getD k "")).getD 0 = ((List.range n).map fun i => if (home i == b) = true then W i k else 0).sum
  len : bs.length ≤ 50
section
variable {lab : List Str} {bk : Nm → En} {names : List Nm} {home : Nat → Nm} {n : Nat} {W : Nat → Nat → Int} {bs : List Nm}
theorem inner_sum (fnd : List Bool) (bl x : Nm) : ∀ (l : List Nat) (b : Nm → Int), (l.foldl (innerF lab bk fnd bl) b) x = if x = bl then b x + (l.map fun k => if fnd.getD k false = true then (dget (bk bl).t (lab.getD k "")).getD 0 else 0).sum else b x
  | [], b => by simp
  | k :: l, b => by
    rw [List.foldl_cons, inner_sum fnd bl x l]
    unfold innerF
    by_cases q : x = bl
    · subst q
      simp only [if_true, List.map_cons, List.sum_cons]
      split
      · simp only [if_true]; lia
      · lia
    · simp only [q, if_false]
      split
      · simp [q]
      · rfl
theorem Rd.amount (r : Rd lab bk names home n W bs) {z x : Nm} (hz : z ∈ bs) (hx : x ∈ bs) : ((List.range n).map fun k => if (foundRow names z).getD k false = true then (dget (bk x).t (lab.getD k "")).getD 0 else 0).sum = xs n W (pB home z) (pB home x) := by
  rw [xs_sym r.w]
  unfold xs
  rw [s2_swap]
  refine sum_eq _ _ _ fun k hk => ?_
  have hk' := List.mem_range.mp hk
  rw [r.fnd z hz k hk', r.val x hx k hk']
  unfold pB
  by_cases q : (home k == z) = true
  · rw [if_pos q]
    refine sum_eq _ _ _ fun i _ => ?_
    dsimp only
    rw [q, Bool.and_true]
  · rw [if_neg q]
    have : (home k == z) = false := by simpa using q
    simp only [this, Bool.and_false, Bool.false_eq_true, if_false]
    exact (sum_zero _).symm
theorem Rd.spread (r : Rd lab bk names home n W bs) {z : Nm} (hz : z ∈ bs) : ∀ (L : List Nm) (b : Nm → Int), L.Nodup → (∀ x ∈ L, x ∈ bs) → ∀ x, Mine.spread lab bk n (foundRow names z) L b x = if x ∈ L then b x + xs n W (pB home z) (pB home x) else b x
  | [], b, _, _, x => by simp [Mine.spread]
  | a :: L, b, nd, hs, x => by
    have hn := List.nodup_cons.mp nd
    have ih := Rd.spread r hz L ((List.range n).foldl (innerF lab bk (foundRow names z) a) b) hn.2 (fun y hy => hs y (List.mem_cons_of_mem _ hy)) x
    show Mine.spread lab bk n (foundRow names z) L ((List.range n).foldl (innerF lab bk (foundRow names z) a) b) x = _
    rw [ih, inner_sum, r.amount hz (hs a List.mem_cons_self)]
    by_cases q : x = a
    · subst q
      rw [if_neg hn.1, if_pos rfl, if_pos List.mem_cons_self]
    · rw [if_neg q]
      have : x ∈ a :: L ↔ x ∈ L := by simp [q]
      by_cases q2 : x ∈ L
      · rw [if_pos q2, if_pos (this.mpr q2)]
      · rw [if_neg q2, if_neg fun z => q2 (this.mp z)]
variable (home n W) in
noncomputable def bX (T : List Nm) (x : Nm) : Int := xs n W (pT home T) (pB home x)
variable (home n W) in
noncomputable def bN (C : Nm → Bool) (T : List Nm) (x : Nm) : Int := xs n W (fun h => pT home T h && (C (home h) != C x)) (pB home x)
variable (home n W) in
noncomputable def cT (C : Nm → Bool) (T : List Nm) : Int := xs n W (fun h => pT home T h && C (home h)) (fun h => pT home T h && !C (home h))
theorem pT_snoc (T : List Nm) (z : Nm) (h : Nat) : pT home (T ++ [z]) h = (pT home T h || pB home z h) := by
  unfold pT pB
  rw [List.contains_append]
  simp only [List.contains_cons, List.contains_nil, Bool.or_false]
theorem pT_apart {T : List Nm} {z : Nm} (hz : z ∉ T) (h : Nat) : (pT home T h && pB home z h) = false := by
  unfold pT pB
  cases q : (home h == z) with
  | false => simp
  | true =>
    have : home h = z := by simpa using q
    simp [this, hz]
theorem bX_snoc {T : List Nm} {z : Nm} (hz : z ∉ T) (x : Nm) : bX home n W (T ++ [z]) x = bX home n W T x + xs n W (pB home z) (pB home x) :=
  xs_left _ (fun h _ => pT_snoc T z h) fun h _ => pT_apart hz h
theorem pB_eq {z : Nm} {h : Nat} (q : pB home z h = true) : home h = z := by simpa [pB] using q
theorem bN_snoc {C : Nm → Bool} {T : List Nm} {z : Nm} (hz : z ∉ T) {x : Nm} (hc : C x ≠ C z) : bN home n W C (T ++ [z]) x = bN home n W C T x + xs n W (pB home z) (pB home x) := by
  refine xs_left _ (fun h _ => ?_) fun h _ => ?_
  · rw [pT_snoc]
    cases q : pB home z h with
    | false => simp
    | true =>
      rw [pB_eq q]
      have : (C z != C x) = true := by simpa using Ne.symm hc
      simp [this]
  · have := pT_apart (home := home) hz h
    cases q : pB home z h <;> simp_all
theorem cT_snoc (w : Wt n W) (C : Nm → Bool) {T : List Nm} {z : Nm} (hz : z ∉ T) : cT home n W C (T ++ [z]) = cT home n W C T + bN home n W C T z := by
  unfold cT bN
  cases c : C z with
  | true =>
    have e1 := xs_left (n := n) (W := W) (A := fun h => pT home (T ++ [z]) h && C (home h)) (A1 := fun h => pT home T h && C (home h)) (A2 := pB home z) (fun h => pT home (T ++ [z]) h && !C (home h)) (fun h _ => by
      rw [pT_snoc]
      cases q : pB home z h with
      | false => simp
      | true => rw [pB_eq q, c]; simp) (fun h _ => by
      have := pT_apart (home := home) hz h
      cases q : pB home z h <;> simp_all)
    have e2 : ∀ h < n, (pT home (T ++ [z]) h && !C (home h)) = (pT home T h && !C (home h)) := fun h _ => by
      rw [pT_snoc]
      cases q : pB home z h with
      | false => simp
      | true => rw [pB_eq q, c]; simp
    have e3 : ∀ h < n, (pT home T h && !C (home h)) = (pT home T h && (C (home h) != true)) := fun h _ => by cases C (home h) <;> rfl
    rw [e1, xs_congr (A := fun h => pT home T h && C (home h)) (A' := fun h => pT home T h && C (home h)) (fun _ _ => rfl) e2, xs_congr (A := pB home z) (A' := pB home z) (fun _ _ => rfl) e2, xs_congr (A := pB home z) (A' := pB home z) (fun _ _ => rfl) e3, xs_sym w (pB home z)]
  | false =>
    have e1 := xs_right (n := n) (W := W) (B := fun h => pT home (T ++ [z]) h && !C (home h)) (B1 := fun h => pT home T h && !C (home h)) (B2 := pB home z) (fun h => pT home (T ++ [z]) h && C (home h)) (fun h _ => by
      rw [pT_snoc]
      cases q : pB home z h with
      | false => simp
      | true => rw [pB_eq q, c]; simp) (fun h _ => by
      have := pT_apart (home := home) hz h
      cases q : pB home z h <;> simp_all)
    have e2 : ∀ h < n, (pT home (T ++ [z]) h && C (home h)) = (pT home T h && C (home h)) := fun h _ => by
      rw [pT_snoc]
      cases q : pB home z h with
      | false => simp
      | true => rw [pB_eq q, c]; simp
    have e3 : ∀ h < n, (pT home T h && C (home h)) = (pT home T h && (C (home h) != false)) := fun h _ => by cases C (home h) <;> rfl
    rw [e1, xs_congr e2 (B := fun h => pT home T h && !C (home h)) (B' := fun h => pT home T h && !C (home h)) (fun _ _ => rfl), xs_congr e2 (B := pB home z) (B' := pB home z) (fun _ _ => rfl), xs_congr e3 (B := pB home z) (B' := pB home z) (fun _ _ => rfl)]
theorem bN_nonneg (w : Wt n W) (C : Nm → Bool) (T : List Nm) (x : Nm) : 0 ≤ bN home n W C T x := by
  have := xs_mono w (A := fun _ => false) (A' := fun h => pT home T h && (C (home h) != C x)) (B := pB home x) (B' := pB home x) (fun _ _ q => by cases q) (fun _ _ q => q)
  have e : xs n W (fun _ => false) (pB home x) = 0 := by
    unfold xs s2
    simp only [Bool.false_and, Bool.false_eq_true, if_false]
    rw [sum_eq _ _ (fun _ => (0 : Int)) fun _ _ => sum_zero _]
    exact sum_zero _
  rw [e] at this
  exact this
variable (home n W) in
/-- what the phase has made of its bound -/
noncomputable def Phase (C : Nm → Bool) (pre : List Nm) (z u : Nm) : Prop := C u ≠ C z → bX home n W (pre ++ [z]) u ≤ cT home n W C (pre ++ [z]) + bN home n W C (pre ++ [z]) u
theorem phase_start (w : Wt n W) (C : Nm → Bool) (z u : Nm) : Phase home n W C [] z u := fun hc => by
  rw [cT_snoc w C (by simp), bN_snoc (by simp) hc, bX_snoc (by simp)]
  have e1 : bX home n W [] u = 0 := by
    unfold bX xs s2 pT
    simp only [List.contains_nil, Bool.false_and, Bool.false_eq_true, if_false]
    rw [sum_eq _ _ (fun _ => (0 : Int)) fun _ _ => sum_zero _]
    exact sum_zero _
  have e2 : cT home n W C [] = 0 := by
    unfold cT xs s2 pT
    simp only [List.contains_nil, Bool.false_and, Bool.false_eq_true, if_false]
    rw [sum_eq _ _ (fun _ => (0 : Int)) fun _ _ => sum_zero _]
    exact sum_zero _
  have := bN_nonneg (home := home) w C [] z
  have := bN_nonneg (home := home) w C [] u
  lia
theorem phase_step (w : Wt n W) {C : Nm → Bool} {pre : List Nm} {z f u : Nm} (hf : f ∉ pre ++ [z]) (h1 : Phase home n W C pre z f) (h2 : Phase home n W C pre z u) (hmax : bX home n W (pre ++ [z]) u ≤ bX home n W (pre ++ [z]) f) : Phase home n W C (pre ++ [z]) f u := fun hc => by
  have n1 := bN_nonneg (home := home) w C (pre ++ [z]) f
  have n2 := bN_nonneg (home := home) w C (pre ++ [z]) u
  rw [cT_snoc w C hf, bN_snoc hf hc, bX_snoc hf]
  by_cases q : C f = C z
  · have := h2 (q ▸ hc)
    lia
  · have := h1 q
    lia
end
end Mine
end
-- P7
section
open PySem PySem.W PyProof.Rows
set_option Elab.async false
set_option linter.unusedVariables false
set_option maxRecDepth 100000
namespace Mine
-- a round: what holds at its end
section
variable {lab : List Str} {bk : Nm → En} {names : List Nm} {home : Nat → Nm} {n : Nat} {W : Nat → Nat → Int} {bs : List Nm} {way : Int}
variable (names bs way home n W) in
structure RI (R : RSt) (pre : List Nm) (z : Nm) : Prop where
  tk : R.taken = pre ++ [z]
  perm : (R.taken ++ R.left).Perm bs
  fnd : R.found = R.taken.map (foundRow names)
  b : ∀ u ∈ R.left, R.b u = bX home n W pre u
  phase : ∀ C, ∀ u ∈ R.left, Phase home n W C pre z u
  steps : ∀ s ∈ R.steps, StepOk way s.1 s.2
  slen : R.steps.length = pre.length
  last : pre ≠ [] → (∃ rows first, R.steps.getLast? = some (rows, first) ∧ first.b = bX home n W pre z) ∧ ∀ C, Phase home n W C pre.dropLast (pre.getLastD []) z
theorem last_snoc {α : Type} (l : List α) (x d : α) : (l ++ [x]).getLastD d = x := List.getLastD_concat ..
theorem RI.step (hw : way = 1 ∨ way = -1) (r : Rd lab bk names home n W bs) {R : RSt} {pre : List Nm} {z : Nm} (h : RI names home n W bs way R pre z) (hne : R.left ≠ []) :
    ∃ f, RI names home n W bs way (rStep way lab bk names R) (pre ++ [z]) f ∧ (rStep way lab bk names R).left.length < R.left.length := by
  have hnd : (R.taken ++ R.left).Nodup := h.perm.nodup_iff.mpr r.nd
  obtain ⟨nt, nl, dis⟩ := List.nodup_append.mp hnd
  have hin : ∀ x ∈ R.left, x ∈ bs := fun x hx => h.perm.mem_iff.mp (List.mem_append_right _ hx)
  have hzb : z ∈ bs := h.perm.mem_iff.mp (List.mem_append_left _ (by rw [h.tk]; simp))
  have hzt : z ∉ pre := by
    rw [h.tk] at nt
    exact fun q => (List.nodup_append.mp nt).2.2 z q z (by simp) rfl
  have hlast : R.found.getLastD [] = foundRow names z := by rw [h.fnd, h.tk, List.map_append]; exact last_snoc _ _ _
  have hb' : ∀ u ∈ R.left, spread lab bk names.length (R.found.getLastD []) R.left R.b u = bX home n W (pre ++ [z]) u := fun u hu => by
    rw [hlast, r.nl, r.spread hzb R.left R.b nl hin u, if_pos hu, h.b u hu, bX_snoc hzt]
  have hfm := pickB_mem way bk (spread lab bk names.length (R.found.getLastD []) R.left R.b) hne
  have hfb := pickB_spec hw bk (spread lab bk names.length (R.found.getLastD []) R.left R.b) hne
  refine ⟨pickB way bk (spread lab bk names.length (R.found.getLastD []) R.left R.b) R.left, ?_, filter_ne_lt hfm⟩
  unfold rStep
  dsimp only
  generalize hb : spread lab bk names.length (R.found.getLastD []) R.left R.b = b' at hb' hfm hfb ⊢
  generalize hf : pickB way bk b' R.left = f at hfm hfb ⊢
  have hft : f ∉ pre ++ [z] := fun q => dis f (by rw [h.tk]; exact q) f hfm rfl
  have hmax : ∀ u ∈ R.left, bX home n W (pre ++ [z]) u ≤ bX home n W (pre ++ [z]) f := fun u hu => by
    rw [← hb' u hu, ← hb' f hfm]
    by_cases q : b' f < b' u
    · have := hfb u hu
      rw [(ltR_iff hw _ _).mpr (.inl q)] at this; cases this
    · lia
  have hbl : R.left.length ≤ 100 := by
    have := h.perm.length_eq
    have := r.len
    rw [List.length_append] at *
    lia
  refine ⟨by dsimp only; rw [h.tk], ?_, by dsimp only; rw [h.fnd, List.map_append]; rfl, fun u hu => ?_, fun C u hu => ?_, fun s hs => ?_, by simp [h.slen], fun _ => ⟨⟨R.left.map (rowOf bk b'), rowOf bk b' f, by dsimp only; rw [List.getLast?_append]; rfl, ?_⟩, fun C => ?_⟩⟩
  · dsimp only
    have p1 : R.left.Perm (f :: R.left.filter (· != f)) := by
      rw [← nl.erase_eq_filter f]
      exact List.perm_cons_erase hfm
    refine List.Perm.trans ?_ h.perm
    rw [List.append_assoc]
    exact List.Perm.append_left _ p1.symm
  · exact hb' u (List.mem_filter.mp hu).1
  · have hu' := (List.mem_filter.mp hu).1
    exact phase_step r.w hft (h.phase C f hfm) (h.phase C u hu') (hmax u hu')
  · rcases List.mem_append.mp hs with q | q
    · exact h.steps s q
    · obtain rfl := List.mem_singleton.mp q
      exact stepOk_of hw bk b' hbl hfm hfb
  · exact hb' f hfm
  · rw [List.dropLast_concat, last_snoc]
    exact h.phase C f hfm
theorem RI.loop (hw : way = 1 ∨ way = -1) (r : Rd lab bk names home n W bs) : ∀ (m : Nat) {R : RSt} {pre : List Nm} {z : Nm}, RI names home n W bs way R pre z → R.left.length ≤ m →
    ∃ pre' z', RI names home n W bs way (rLoop way lab bk names m R) pre' z' ∧ (rLoop way lab bk names m R).left = []
  | 0, R, pre, z, h, hl => ⟨pre, z, h, List.length_eq_zero_iff.mp (Nat.le_zero.mp hl)⟩
  | m + 1, R, pre, z, h, hl => by
    unfold rLoop
    by_cases q : R.left = []
    · rw [if_pos q]; exact ⟨pre, z, h, q⟩
    · rw [if_neg q]
      obtain ⟨f, h1, h2⟩ := h.step hw r q
      exact RI.loop hw r m h1 (by lia)
theorem round_inv (hw : way = 1 ∨ way = -1) {homes : List Nm} (r : Rd lab bk names home n W (blocksOf homes)) (hne : homes ≠ []) (begin : Nat) :
    ∃ pre z, RI names home n W (blocksOf homes) way (roundOf way lab bk names homes begin) pre z ∧ (roundOf way lab bk names homes begin).left = [] := by
  unfold roundOf
  dsimp only
  have hb := blocksOf_ne hne
  have hpos : 0 < (blocksOf homes).length := List.length_pos_iff.mpr hb
  have htm : (blocksOf homes).getD (begin % (blocksOf homes).length) [] ∈ blocksOf homes := getD_mem (Nat.mod_lt _ hpos)
  generalize (blocksOf homes).getD (begin % (blocksOf homes).length) [] = t at htm ⊢
  generalize blocksOf homes = bs at r htm ⊢
  refine RI.loop hw r _ (pre := []) (z := t) ⟨rfl, ?_, rfl, fun u _ => ?_, fun C u _ => phase_start r.w C t u, fun s hs => (by cases hs), rfl, fun q => absurd rfl q⟩ (Nat.le_refl _)
  · dsimp only
    rw [← r.nd.erase_eq_filter t]
    exact (List.perm_cons_erase htm).symm
  · unfold bX xs s2 pT
    simp only [List.contains_nil, Bool.false_and, Bool.false_eq_true, if_false]
    rw [sum_eq _ _ (fun _ => (0 : Int)) fun _ _ => sum_zero _]
    exact (sum_zero _).symm
/-- the end of a round -/
structure RDone (R : RSt) (names : List Nm) (home : Nat → Nm) (n : Nat) (W : Nat → Nat → Int) (bs : List Nm) (way : Int) (p : List Nm) (y z : Nm) : Prop where
  tk : R.taken = p ++ [y, z]
  perm : (p ++ [y, z]).Perm bs
  fnd : R.found = R.taken.map (foundRow names)
  steps : ∀ s ∈ R.steps, StepOk way s.1 s.2
  slen : R.steps.length + 1 = bs.length
  step : ∃ rows first, R.steps.getLast? = some (rows, first) ∧ first.b = cutX n W (pB home z)
  cut : ∀ C : Nm → Bool, C z ≠ C y → cutX n W (pB home z) ≤ cutX n W fun h => C (home h)
theorem round_done (hw : way = 1 ∨ way = -1) {homes : List Nm} (r : Rd lab bk names home n W (blocksOf homes)) (hne : homes ≠ []) (h2 : 2 ≤ (blocksOf homes).length) (begin : Nat) :
    ∃ p y z, RDone (roundOf way lab bk names homes begin) names home n W (blocksOf homes) way p y z := by
  obtain ⟨pre, z, h, hl⟩ := round_inv hw r hne begin
  generalize roundOf way lab bk names homes begin = R at h hl ⊢
  have hp := h.perm
  rw [hl, List.append_nil, h.tk] at hp
  have hlen := hp.length_eq
  rw [List.length_append] at hlen
  have hpne : pre ≠ [] := by
    intro q
    subst q
    simp at hlen
    lia
  obtain ⟨p, y, rfl⟩ : ∃ p y, pre = p ++ [y] := ⟨pre.dropLast, pre.getLast hpne, (List.dropLast_concat_getLast hpne).symm⟩
  obtain ⟨hs, hph⟩ := h.last hpne
  rw [List.dropLast_concat, last_snoc] at hph
  have hnd : (p ++ [y] ++ [z]).Nodup := hp.nodup_iff.mpr r.nd
  have hzn : z ∉ p ++ [y] := fun q => (List.nodup_append.mp hnd).2.2 z q z (by simp) rfl
  have hall : ∀ k < n, pT home (p ++ [y]) k = !pB home z k := fun k hk => by
    have hm := hp.mem_iff.mpr (r.hom k hk)
    have ha := pT_apart (home := home) hzn k
    have hs := pT_snoc (home := home) (p ++ [y]) z k
    have ht : pT home (p ++ [y] ++ [z]) k = true := by unfold pT; simpa using hm
    rw [ht] at hs
    clear hm
    revert ha hs
    cases pT home (p ++ [y]) k <;> cases pB home z k <;> intro a b <;> first | rfl | (cases a; done) | (cases b; done)
  have ebx : bX home n W (p ++ [y]) z = cutX n W (pB home z) := by
    unfold bX cutX
    rw [xs_sym r.w]
    exact xs_congr (fun _ _ => rfl) hall
  refine ⟨p, y, z, ⟨by rw [h.tk]; simp, by simpa using hp, h.fnd, h.steps, by rw [h.slen, ← hlen]; simp, ?_, fun C hc => ?_⟩⟩
  · rw [← ebx]; exact hs
  · have hx := hph C hc
    rw [ebx, ← cT_snoc r.w C hzn] at hx
    refine Int.le_trans hx (Int.le_of_eq ?_)
    unfold cT cutX
    have ht : ∀ k < n, pT home (p ++ [y] ++ [z]) k = true := fun k hk => by
      have hm := hp.mem_iff.mpr (r.hom k hk)
      unfold pT; simpa using hm
    exact xs_congr (fun k hk => by rw [ht k hk]; rfl) fun k hk => by rw [ht k hk]; rfl
end
end Mine
end
-- P8
section
open PySem PySem.W PyProof.Rows
set_option Elab.async false
set_option linter.unusedVariables false
set_option maxRecDepth 100000
namespace Mine
-- the state between rounds
theorem not_take_idx (x : Nm) : ∀ l : List Nm, x ∉ l.take (l.idxOf x)
  | [] => by simp
  | a :: l => by
    rw [List.idxOf_cons]
    by_cases q : (a == x) = true
    · simp [q]
    · have q' : (a == x) = false := by simpa using q
      rw [q']
      simp only [cond_false, List.take_succ_cons]
      intro h
      rcases List.mem_cons.mp h with e | e
      · subst e; simp at q
      · exact not_take_idx x l e
theorem mem_blocksOf {homes : List Nm} {x : Nm} : x ∈ blocksOf homes ↔ x ∈ homes := by
  refine ⟨blocksOf_mem, fun h => ?_⟩
  have hlt : homes.idxOf x < homes.length := List.idxOf_lt_length_of_mem h
  unfold blocksOf
  refine List.mem_map.mpr ⟨homes.idxOf x, List.mem_filter.mpr ⟨List.mem_range.mpr hlt, ?_⟩, ?_⟩
  · have e : homes.getD (homes.idxOf x) [] = x := by
      rw [List.getD_eq_getElem?_getD, List.getElem?_eq_getElem hlt]
      exact List.getElem_idxOf hlt
    rw [e]
    cases q : (homes.take (homes.idxOf x)).contains x with
    | false => rfl
    | true =>
      exact absurd (List.contains_iff_mem.mp q) (not_take_idx x homes)
  · rw [List.getD_eq_getElem?_getD, List.getElem?_eq_getElem hlt]
    exact List.getElem_idxOf hlt
theorem chL_lt : ∀ {r : Nat} {m : List Nat}, m ∈ chL r → ∀ i ∈ m, i < r
  | 0, m, h, i, hi => by
    obtain rfl := List.mem_singleton.mp h
    cases hi
  | r + 1, m, h, i, hi => by
    rcases List.mem_append.mp h with q | q
    · have := chL_lt q i hi; lia
    · obtain ⟨m', hm', rfl⟩ := List.mem_map.mp q
      rcases List.mem_append.mp hi with z | z
      · have := chL_lt hm' i z; lia
      · obtain rfl := List.mem_singleton.mp z; lia
noncomputable def wV (v : FEnv) (h k : Nat) : Int := valT (v.T.getD h []) (v.lab.getD k "")
structure VOk (v : FEnv) : Prop where
  ok : FEnvOk v
  nd : NdT v.T
  w : Wt v.N (wV v)
  bond : ∀ (side : List Int) (c : Nat → Bool), (∀ k < v.N, side.contains ((k : Nat) : Int) = c k) → between v.bonds side = cutX v.N (wV v) c
noncomputable def ProperS (n : Nat) (c : Nat → Bool) : Prop := (∃ a < n, c a = true) ∧ ∃ b < n, c b = false
structure StInv (v : FEnv) (r : Nat) (S : FSt) (ch : Nat → List Nat) : Prop where
  chm : ∀ k < v.N, ch k ∈ chL r
  names : S.names = (List.range v.N).map fun k => nmC k (ch k)
  hs : ∀ k < v.N, (S.hs (blC k (ch k))).Perm ((List.range v.N).filter fun j => blC j (ch j) == blC k (ch k))
  ks : S.ks = (List.range v.N).map baseN ++ freshL.take r
  host : HostOk v S
  num : (blocksOf ((List.range v.N).map fun k => blC k (ch k))).length + r = v.N
  cin : ∀ x ∈ S.counts, ∃ c, ProperS v.N c ∧ x = cutX v.N (wV v) c
  cout : ∀ c, ProperS v.N c → (∀ a < v.N, ∀ b < v.N, blC a (ch a) = blC b (ch b) → c a = c b) ∨ ∃ x ∈ S.counts, x ≤ cutX v.N (wV v) c
section
variable {v : FEnv} {r : Nat} {S : FSt} {ch : Nat → List Nat}
theorem StInv.nm (V : VOk v) (h : StInv v r S ch) (hr : r ≤ 3) {k : Nat} (hk : k < v.N) : LowN (nmC k (ch k)) ∧ homeL 20 (nmC k (ch k)) = some (blC k (ch k)) ∧ blC k (ch k) ∈ blL ∧ ∀ b ∈ blL, inL (nmC k (ch k)) b = (blC k (ch k) == b) := by
  have hN := V.ok.N
  obtain ⟨h1, h2, h3, h4⟩ := names_all k (List.mem_range.mpr (by lia)) (ch k) (chL_sub hr (h.chm k hk))
  exact ⟨lowB_ok h1, h2, h3, h4⟩
theorem StInv.homes (V : VOk v) (h : StInv v r S ch) (hr : r ≤ 3) : S.names.map homeF = (List.range v.N).map fun k => blC k (ch k) := by
  rw [h.names, List.map_map]
  refine List.map_congr_left fun k hk => ?_
  show (homeL 20 (nmC k (ch k))).getD [] = _
  rw [(h.nm V hr (List.mem_range.mp hk)).2.1]; rfl
theorem StInv.bl_ks (h : StInv v r S ch) (hr : r ≤ 4) {k : Nat} (hk : k < v.N) : blC k (ch k) ∈ S.ks := by
  rw [h.ks]
  unfold blC
  cases q : (ch k).getLast? with
  | none => exact List.mem_append_left _ (List.mem_map_of_mem (List.mem_range.mpr hk))
  | some i =>
    have hi := chL_lt (h.chm k hk) i (List.mem_of_getLast? q)
    refine List.mem_append_right _ ?_
    have h4 : freshL.length = 4 := rfl
    show freshL.getD i [] ∈ _
    rw [List.getD_eq_getElem?_getD, List.getElem?_eq_getElem (by lia)]
    exact List.mem_take_iff_getElem.mpr ⟨i, by lia, rfl⟩
theorem StInv.bs (V : VOk v) (h : StInv v r S ch) {b : Nm} : b ∈ blocksOf ((List.range v.N).map fun k => blC k (ch k)) ↔ ∃ k < v.N, blC k (ch k) = b := by
  rw [mem_blocksOf]
  simp only [List.mem_map, List.mem_range]
theorem StInv.con (V : VOk v) (h : StInv v r S ch) {b : Nm} (hb : b ∈ blocksOf ((List.range v.N).map fun k => blC k (ch k))) {k : Nat} (hk : k < v.N) : (S.hs b).contains k = (blC k (ch k) == b) := by
  obtain ⟨j, hj, rfl⟩ := (h.bs V).mp hb
  have := (h.hs j hj).mem_iff (a := k)
  rw [List.mem_filter] at this
  rw [Bool.eq_iff_iff, List.contains_iff_mem, this]
  simp [hk]
theorem range_getD {α : Type} {n k : Nat} (f : Nat → α) (d : α) (hk : k < n) : ((List.range n).map f).getD k d = f k := by
  rw [List.getD_eq_getElem?_getD, List.getElem?_map, List.getElem?_range hk]; rfl
theorem StInv.rd (V : VOk v) (h : StInv v r S ch) (hr : r ≤ 3) : Rd v.lab (bkOf v S.hs) S.names (fun k => blC k (ch k)) v.N (wV v) (blocksOf ((List.range v.N).map fun k => blC k (ch k))) := by
  have hN := V.ok.N
  refine ⟨V.w, h.host.nlen, fun b hb k hk => ?_, blocksOf_nodup _, fun k hk => (h.bs V).mpr ⟨k, hk, rfl⟩, fun b hb k hk => ?_, ?_⟩
  · unfold foundRow
    rw [h.names, List.map_map, range_getD _ _ hk]
    obtain ⟨j, hj, rfl⟩ := (h.bs V).mp hb
    exact (h.nm V hr hk).2.2.2 _ (h.nm V hr hj).2.2.1
  · obtain ⟨j, hj, rfl⟩ := (h.bs V).mp hb
    show valT (sumT v.T (S.hs _)) _ = _
    rw [sumT_val V.nd, sum_perm _ (h.hs j hj), sum_filter]
    rfl
  · refine Nat.le_trans (blocksOf_len _) ?_
    simp; lia
theorem StInv.roundOk (V : VOk v) (h : StInv v r S ch) (hr : r ≤ 3) : RoundOk v.lab (bkOf v S.hs) S.names homeF (dBooks v S) := by
  have hN := V.ok.N
  have hl := h.host.nlen
  have key : ∀ l ∈ S.names, ∃ k < v.N, l = nmC k (ch k) ∧ homeF l = blC k (ch k) := fun l hl => by
    rw [h.names] at hl
    obtain ⟨k, hk, rfl⟩ := List.mem_map.mp hl
    have hk' := List.mem_range.mp hk
    refine ⟨k, hk', rfl, ?_⟩
    show (homeL 20 (nmC k (ch k))).getD [] = _
    rw [(h.nm V hr hk').2.1]; rfl
  refine ⟨fun q => by rw [q] at hl; simp at hl; lia, by lia, by rw [V.ok.lab, hl], fun l hl => ?_, fun l hl => ?_, fun l hl => ?_, fun l hl => ?_⟩
  · obtain ⟨k, hk, rfl, _⟩ := key l hl
    exact (h.nm V hr hk).1
  · obtain ⟨k, hk, rfl, e⟩ := key l hl
    exact ⟨20, by rw [e]; exact (h.nm V hr hk).2.1⟩
  · obtain ⟨k, hk, rfl, e⟩ := key l hl
    rw [e]
    exact lowB_ok (blocks_all _ (h.nm V hr hk).2.2.1).1
  · obtain ⟨k, hk, rfl, e⟩ := key l hl
    rw [e]
    exact dget_map S.ks (fun x => dEn (bkOf v S.hs x)) _ (h.bl_ks (by lia) hk)
end
-- sides of a round
theorem sides_app (o : List (List Int)) : ∀ (s : List (List Int)), ∀ sd ∈ o.foldl (fun s b => s ++ s.map (· ++ b)) s, ∃ f ∈ s, ∃ sub : List (List Int), sub.Sublist o ∧ sd = f ++ sub.flatten := by
  induction o with
  | nil => intro s sd h; exact ⟨sd, h, [], List.nil_sublist _, by simp⟩
  | cons b o ih =>
    intro s sd h
    obtain ⟨f, hf, sub, hs, rfl⟩ := ih _ sd h
    rcases List.mem_append.mp hf with q | q
    · exact ⟨f, q, sub, hs.cons b, rfl⟩
    · obtain ⟨g, hg, rfl⟩ := List.mem_map.mp q
      exact ⟨g, hg, b :: sub, hs.cons_cons b, by simp⟩
theorem sides_first (o : List (List Int)) : ∀ (s : List (List Int)) (f : List Int), f ∈ s → f ∈ o.foldl (fun s b => s ++ s.map (· ++ b)) s := by
  induction o with
  | nil => intro s f h; exact h
  | cons b o ih => intro s f h; exact ih _ f (List.mem_append_left _ h)
theorem sides_len (o : List (List Int)) : ∀ (s : List (List Int)), (o.foldl (fun s b => s ++ s.map (· ++ b)) s).length = s.length * 2 ^ o.length := by
  induction o with
  | nil => intro s; simp
  | cons b o ih =>
    intro s
    rw [List.foldl_cons, ih, List.length_append, List.length_map, List.length_cons, Nat.pow_succ]
    rw [show 2 ^ o.length * 2 = 2 * 2 ^ o.length by lia, ← Nat.mul_assoc]
    congr 1; lia
end Mine
end
-- P9
section
open PySem PySem.W PyProof.Rows
set_option Elab.async false
set_option linter.unusedVariables false
set_option maxRecDepth 100000
namespace Mine
-- one round and what it leaves
section
variable {v : FEnv} {r : Nat} {S : FSt} {ch : Nat → List Nat}
theorem toI_contains (xs : List Nat) (k : Nat) : (toI xs).contains ((k : Nat) : Int) = xs.contains k := contains_cast xs k
theorem getLastD_map {α β : Type} (f : α → β) (l : List α) (x : α) (d : β) : ((l ++ [x]).map f).getLastD d = f x := by
  rw [List.map_append]; exact last_snoc _ _ _
variable (v S) in
/-- the parts of a round -/
structure Parts (ch : Nat → List Nat) (p : List Nm) (y z : Nm) : Prop where
  tk : (roundS v S).taken = p ++ [y, z]
  perm : (p ++ [y, z]).Perm (blocksOf ((List.range v.N).map fun k => blC k (ch k)))
  fnd : (roundS v S).found = (roundS v S).taken.map (foundRow S.names)
  steps : ∀ s ∈ (roundS v S).steps, StepOk v.way s.1 s.2
  slen : (roundS v S).steps.length + 1 = (blocksOf ((List.range v.N).map fun k => blC k (ch k))).length
  step : ∃ rows first, (roundS v S).steps.getLast? = some (rows, first) ∧ first.b = cutX v.N (wV v) (pB (fun k => blC k (ch k)) z)
  cut : ∀ C : Nm → Bool, C z ≠ C y → cutX v.N (wV v) (pB (fun k => blC k (ch k)) z) ≤ cutX v.N (wV v) fun h => C (blC h (ch h))
theorem StInv.parts (V : VOk v) (h : StInv v r S ch) (hr : r ≤ 3) (hn : r + 1 < v.N) : ∃ p y z, Parts v S ch p y z := by
  have hne : ((List.range v.N).map fun k => blC k (ch k)) ≠ [] := by
    intro q
    have := congrArg List.length q
    simp at this
    lia
  have h2 := h.num
  obtain ⟨p, y, z, D⟩ := round_done V.ok.way (h.rd V hr) hne (by lia) v.begin
  have e : roundS v S = roundOf v.way v.lab (bkOf v S.hs) S.names ((List.range v.N).map fun k => blC k (ch k)) v.begin := by
    unfold roundS
    rw [h.homes V hr]
  rw [← e] at D
  exact ⟨p, y, z, D.tk, D.perm, D.fnd, D.steps, D.slen, D.step, D.cut⟩
variable {p : List Nm} {y z : Nm}
theorem Parts.last (P : Parts v S ch p y z) : lastB v S = z := by
  unfold lastB
  rw [P.tk]
  have : p ++ [y, z] = (p ++ [y]) ++ [z] := by simp
  rw [this]; exact last_snoc _ _ _
theorem Parts.before (P : Parts v S ch p y z) : beforeB v S = y := by
  unfold beforeB
  rw [P.tk]
  have : p ++ [y, z] = (p ++ [y]) ++ [z] := by simp
  rw [this, List.dropLast_concat]; exact last_snoc _ _ _
theorem Parts.lastF (P : Parts v S ch p y z) : Mine.lastF v S = foundRow S.names z := by
  unfold Mine.lastF
  rw [P.fnd, P.tk]
  have : p ++ [y, z] = (p ++ [y]) ++ [z] := by simp
  rw [this]; exact getLastD_map _ _ _ _
theorem Parts.zb (P : Parts v S ch p y z) : z ∈ blocksOf ((List.range v.N).map fun k => blC k (ch k)) := P.perm.mem_iff.mp (by simp)
theorem Parts.yb (P : Parts v S ch p y z) : y ∈ blocksOf ((List.range v.N).map fun k => blC k (ch k)) := P.perm.mem_iff.mp (by simp)
theorem Parts.nd (P : Parts v S ch p y z) : (p ++ [y, z]).Nodup := P.perm.nodup_iff.mpr (blocksOf_nodup _)
theorem Parts.yz (P : Parts v S ch p y z) : y ≠ z ∧ y ∉ p ∧ z ∉ p := by
  have h := List.nodup_append.mp P.nd
  refine ⟨fun e => ?_, fun q => h.2.2 y q y (by simp) rfl, fun q => h.2.2 z q z (by simp) rfl⟩
  have := h.2.1
  simp [e] at this
theorem Parts.cutC (P : Parts v S ch p y z) (V : VOk v) (h : StInv v r S ch) (hr : r ≤ 3) : Mine.cutC v S = cutX v.N (wV v) (pB (fun k => blC k (ch k)) z) := by
  unfold Mine.cutC outerT
  rw [P.lastF, P.last, foldl_sum, List.map_map, sum_filter, Int.zero_add]
  unfold cutX xs
  rw [s2_swap]
  refine sum_eq _ _ _ fun k hk => ?_
  have hk' := List.mem_range.mp hk
  have R := h.rd V hr
  have e1 := R.fnd z P.zb k hk'
  have e2 := R.val z P.zb k hk'
  rw [e1]
  dsimp only [Function.comp_def]
  rw [e2]
  unfold pB
  dsimp only
  by_cases q : (blC k (ch k) == z) = true
  · simp only [q, Bool.not_true, Bool.and_false, Bool.false_eq_true, if_false]
    exact (sum_zero _).symm
  · have q' : (blC k (ch k) == z) = false := by simpa using q
    simp only [q', Bool.not_false, Bool.and_true, if_true]
theorem Parts.merged (P : Parts v S ch p y z) (V : VOk v) (h : StInv v r S ch) {k : Nat} (hk : k < v.N) : (S.hs y ++ S.hs z).contains k = (blC k (ch k) == y || blC k (ch k) == z) := by
  rw [List.contains_append, h.con V P.yb hk, h.con V P.zb hk]
theorem perm_or {α : Type} (p q : α → Bool) : ∀ (l : List α), (∀ x ∈ l, (p x && q x) = false) → (l.filter p ++ l.filter q).Perm (l.filter fun x => p x || q x)
  | [], _ => .nil
  | a :: l, h => by
    have ih := perm_or p q l fun x hx => h x (List.mem_cons_of_mem _ hx)
    have ha := h a List.mem_cons_self
    simp only [List.filter_cons]
    cases hp : p a <;> cases hq : q a
    · simpa using ih
    · simp only [Bool.false_or, if_true]
      exact List.perm_middle.trans (ih.cons a)
    · simp only [Bool.true_or, if_true, List.cons_append]
      exact ih.cons a
    · rw [hp, hq] at ha; cases ha
theorem Parts.hperm (P : Parts v S ch p y z) (V : VOk v) (h : StInv v r S ch) : (S.hs y ++ S.hs z).Perm ((List.range v.N).filter fun j => (blC j (ch j) == y || blC j (ch j) == z)) := by
  obtain ⟨a, ha, ea⟩ := (h.bs V).mp P.yb
  obtain ⟨b, hb, eb⟩ := (h.bs V).mp P.zb
  have p1 := h.hs a ha
  have p2 := h.hs b hb
  rw [ea] at p1
  rw [eb] at p2
  refine (p1.append p2).trans (perm_or _ _ _ fun x _ => ?_)
  cases q : (blC x (ch x) == y) with
  | false => rfl
  | true =>
    have e : blC x (ch x) = y := by simpa using q
    rw [e]
    have := P.yz.1
    simpa using this
end
end Mine
end
-- P10
section
open PySem PySem.W PyProof.Rows
set_option Elab.async false
set_option linter.unusedVariables false
set_option maxRecDepth 100000
namespace Mine
section
variable {v : FEnv} {r : Nat} {S : FSt} {ch : Nat → List Nat} {p : List Nm} {y z : Nm}
theorem StInv.in_ks (V : VOk v) (h : StInv v r S ch) (hr : r ≤ 3) {b : Nm} (hb : b ∈ blocksOf ((List.range v.N).map fun k => blC k (ch k))) : b ∈ S.ks ∧ b ∈ blL := by
  obtain ⟨k, hk, rfl⟩ := (h.bs V).mp hb
  exact ⟨h.bl_ks (by lia) hk, (h.nm V hr hk).2.2.1⟩
theorem StInv.fresh_no (V : VOk v) (h : StInv v r S ch) (hr : r ≤ 3) : freshL.getD r [] ∉ S.ks := by
  have hN := V.ok.N
  rw [h.ks]
  intro q
  refine fresh_new r (List.mem_range.mpr (by lia)) ?_
  rcases List.mem_append.mp q with q | q
  · obtain ⟨k, hk, e⟩ := List.mem_map.mp q
    exact List.mem_append_left _ (List.mem_map.mpr ⟨k, List.mem_range.mpr (by have := List.mem_range.mp hk; lia), e⟩)
  · exact List.mem_append_right _ q
theorem Parts.post (P : Parts v S ch p y z) (V : VOk v) (h : StInv v r S ch) (fresh : Nm) : HostOk v (fStep v S fresh) := by
  have hN := V.ok.N
  refine ⟨by simp [fStep], fun x hx => ?_⟩
  show (hsNew v S fresh x).length ≤ 9 ∧ ∀ k ∈ hsNew v S fresh x, k < v.N
  unfold hsNew
  by_cases q : x = fresh
  · rw [if_pos q, P.before, P.last]
    have hp := P.hperm V h
    refine ⟨?_, fun k hk => ?_⟩
    · rw [hp.length_eq]
      refine Nat.le_trans (List.length_filter_le _ _) ?_
      simp; lia
    · exact List.mem_range.mp (List.mem_filter.mp (hp.mem_iff.mp hk)).1
  · rw [if_neg q]
    refine h.host.host x ?_
    rcases List.mem_append.mp hx with z | z
    · exact z
    · exact absurd (List.mem_singleton.mp z) q
theorem Parts.block (P : Parts v S ch p y z) (V : VOk v) (h : StInv v r S ch) (hr : r ≤ 3) : ∀ k < (roundS v S).taken.length, BlockOk ((roundS v S).taken.getD k []) (S.names.map homeF) ((roundS v S).found.getD k []) (S.hs ((roundS v S).taken.getD k [])) := fun k hk => by
  have hN := V.ok.N
  have hm : (roundS v S).taken.getD k [] ∈ (roundS v S).taken := getD_mem hk
  have hf : (roundS v S).found.getD k [] = foundRow S.names ((roundS v S).taken.getD k []) := by
    rw [P.fnd, List.getD_eq_getElem?_getD, List.getElem?_map, List.getD_eq_getElem?_getD, List.getElem?_eq_getElem hk]; rfl
  rw [hf]
  generalize (roundS v S).taken.getD k [] = b at hm ⊢
  rw [P.tk] at hm
  have hb := P.perm.mem_iff.mp hm
  have R := h.rd V hr
  obtain ⟨h1, h2, _⟩ := blocks_all b (h.in_ks V hr hb).2
  rw [h.homes V hr]
  refine ⟨lowB_ok h1, h2, by simp; lia, by unfold foundRow; simp [h.host.nlen], fun j hj => ?_, fun j hj => ?_⟩
  · rw [List.length_map, List.length_range] at hj
    rw [R.fnd b hb j hj, h.con V hb hj]
  · rw [List.length_map, List.length_range] at hj
    rw [range_getD _ _ hj, h.con V hb hj]
theorem Parts.sides (P : Parts v S ch p y z) : sidesR v S = sidesOf (toI (S.hs z)) (p.map fun x => toI (S.hs x)) := by
  unfold sidesR
  rw [P.last, P.tk]
  congr 2
  have : (p ++ [y, z]).length - 2 = p.length := by simp
  rw [this, List.take_left]
theorem Parts.cutMin (P : Parts v S ch p y z) (V : VOk v) (h : StInv v r S ch) (hr : r ≤ 3) : Mine.cutC v S = minI ((sidesR v S).map (between v.bonds)) ∧ sidesR v S ≠ [] := by
  have hz : between v.bonds (toI (S.hs z)) = cutX v.N (wV v) (pB (fun k => blC k (ch k)) z) := V.bond _ _ fun k hk => by rw [toI_contains, h.con V P.zb hk]; rfl
  have hmem : toI (S.hs z) ∈ sidesR v S := by rw [P.sides]; exact sides_first _ _ _ (by simp)
  refine ⟨?_, List.ne_nil_of_mem hmem⟩
  rw [P.cutC V h hr]
  refine (minI_is (List.mem_map.mpr ⟨_, hmem, hz⟩) fun w hw => ?_).symm
  obtain ⟨sd, hsd, rfl⟩ := List.mem_map.mp hw
  rw [P.sides] at hsd
  obtain ⟨f, hf, sub, hsub, rfl⟩ := sides_app _ _ sd hsd
  obtain rfl := List.mem_singleton.mp hf
  obtain ⟨q, hq, rfl⟩ := List.sublist_map_iff.mp hsub
  have hqp : ∀ x ∈ q, x ∈ p := fun x hx => hq.subset hx
  have e : between v.bonds (toI (S.hs z) ++ (q.map fun x => toI (S.hs x)).flatten) = cutX v.N (wV v) fun k => ((blC k (ch k) == z) || q.contains (blC k (ch k))) := V.bond _ _ fun k hk => by
    rw [List.contains_append, toI_contains, h.con V P.zb hk]
    congr 1
    rw [Bool.eq_iff_iff, List.contains_iff_mem, List.contains_iff_mem, List.mem_flatten]
    constructor
    · rintro ⟨l, hl, hkl⟩
      obtain ⟨x, hx, rfl⟩ := List.mem_map.mp hl
      have hxb : x ∈ blocksOf ((List.range v.N).map fun k => blC k (ch k)) := P.perm.mem_iff.mp (List.mem_append_left _ (hqp x hx))
      have h1 : (toI (S.hs x)).contains ((k : Nat) : Int) = true := List.contains_iff_mem.mpr hkl
      rw [toI_contains, h.con V hxb hk] at h1
      have : blC k (ch k) = x := by simpa using h1
      rw [this]; exact hx
    · intro hm
      refine ⟨_, List.mem_map.mpr ⟨_, hm, rfl⟩, ?_⟩
      have hxb : blC k (ch k) ∈ blocksOf ((List.range v.N).map fun k => blC k (ch k)) := (h.bs V).mpr ⟨k, hk, rfl⟩
      rw [← List.contains_iff_mem, toI_contains, h.con V hxb hk]
      simp
  rw [e]
  refine P.cut (fun x => (x == z) || q.contains x) ?_
  have h1 : y ≠ z := P.yz.1
  have h2 : y ∉ q := fun m => P.yz.2.1 (hqp y m)
  simp [h1, h2]
theorem StInv.fact (V : VOk v) (h : StInv v r S ch) (hr : r ≤ 3) (P : Parts v S ch p y z) : RoundFact v S (freshL.getD r []) := by
  have hN := V.ok.N
  have hlen : (roundS v S).taken.length = (blocksOf ((List.range v.N).map fun k => blC k (ch k))).length := by rw [P.tk]; exact P.perm.length_eq
  have h2 : 2 ≤ (roundS v S).taken.length := by rw [P.tk]; simp
  have hnum := h.num
  have hsl := P.slen
  obtain ⟨g1, g2, g3, g4⟩ := blocks_all z (h.in_ks V hr P.zb).2
  refine ⟨h.roundOk V hr, by rw [P.fnd, List.length_map], ⟨by lia, h2⟩, fun x hx => ?_, P.block V h hr, P.steps, ?_, ?_, ?_, by lia, ?_, P.cutMin V h hr, h.fresh_no V hr, ?_, ?_, P.post V h _⟩
  · rw [P.tk] at hx
    exact (h.in_ks V hr (P.perm.mem_iff.mp hx)).1
  · rw [P.lastF]; unfold foundRow; simp [h.host.nlen]
  · rw [P.last]
    exact ⟨lowB_ok g1, g3, g4⟩
  · rw [P.cutC V h hr]; exact P.step
  · rw [P.sides]
    unfold sidesOf
    rw [sides_len, List.length_map]
    have : p.length ≤ 3 := by
      have := congrArg List.length P.tk
      simp at this
      lia
    have h8 : 2 ^ p.length ≤ 2 ^ 3 := Nat.pow_le_pow_right (by decide) this
    simp only [List.length_cons, List.length_nil]
    lia
  · have h4 : freshL.length = 4 := rfl
    refine lowB_ok (fresh_all _ (getD_mem (by lia)))
  · rw [P.before, P.last]
    exact sumEn_app V.nd _ _
end
end Mine
end
-- P11
section
open PySem PySem.W PyProof.Rows
set_option Elab.async false
set_option linter.unusedVariables false
set_option maxRecDepth 100000
namespace Mine
section
variable {v : FEnv} {r : Nat} {S : FSt} {ch : Nat → List Nat} {p : List Nm} {y z : Nm}
noncomputable def chNext (S : FSt) (y z : Nm) (r : Nat) (ch : Nat → List Nat) (k : Nat) : List Nat := if (S.hs y ++ S.hs z).contains k = true then ch k ++ [r] else ch k
theorem blC_snoc (k : Nat) (m : List Nat) (r : Nat) : blC k (m ++ [r]) = freshL.getD r [] := by
  unfold blC
  rw [List.getLast?_append]; rfl
theorem nmC_snoc (k : Nat) (m : List Nat) (r : Nat) : nmC k (m ++ [r]) = (nmC k m).take ((nmC k m).length - 5) ++ freshL.getD r [] := by
  unfold nmC
  rw [List.foldl_append]; rfl
theorem Parts.blNext (P : Parts v S ch p y z) (V : VOk v) (h : StInv v r S ch) {k : Nat} (hk : k < v.N) : blC k (chNext S y z r ch k) = if blC k (ch k) = y ∨ blC k (ch k) = z then freshL.getD r [] else blC k (ch k) := by
  unfold chNext
  rw [P.merged V h hk]
  by_cases q : blC k (ch k) = y ∨ blC k (ch k) = z
  · rw [if_pos q, if_pos (by simpa using q), blC_snoc]
  · rw [if_neg q, if_neg (by simpa using q)]
theorem StInv.next (V : VOk v) (h : StInv v r S ch) (hr : r ≤ 3) (hn : r + 1 < v.N) (P : Parts v S ch p y z) : StInv v (r + 1) (fStep v S (freshL.getD r [])) (chNext S y z r ch) := by
  have hN := V.ok.N
  have hfr := h.fresh_no V hr
  have hnf : ∀ k < v.N, blC k (ch k) ≠ freshL.getD r [] := fun k hk e => hfr (e ▸ h.bl_ks (by lia) hk)
  have bN : ∀ k < v.N, blC k (chNext S y z r ch k) = if blC k (ch k) = y ∨ blC k (ch k) = z then freshL.getD r [] else blC k (ch k) := fun k hk => P.blNext V h hk
  obtain ⟨ka, hka, ea⟩ := (h.bs V).mp P.yb
  obtain ⟨kb, hkb, eb⟩ := (h.bs V).mp P.zb
  refine ⟨fun k hk => ?_, ?_, fun k hk => ?_, ?_, P.post V h _, ?_, fun x hx => ?_, fun c hc => ?_⟩
  · unfold chNext
    split
    · exact List.mem_append_right _ (List.mem_map_of_mem (h.chm k hk))
    · exact List.mem_append_left _ (h.chm k hk)
  · show (List.range v.N).map (nameNew v S (freshL.getD r [])) = _
    refine List.map_congr_left fun k hk => ?_
    have hk' := List.mem_range.mp hk
    unfold nameNew chNext
    rw [P.before, P.last]
    have e : S.names.getD k [] = nmC k (ch k) := by rw [h.names, range_getD _ _ hk']
    rw [e]
    split
    · rw [nmC_snoc]
    · rfl
  · show (hsNew v S (freshL.getD r []) _).Perm _
    unfold hsNew
    rw [P.before, P.last, bN k hk]
    by_cases q : blC k (ch k) = y ∨ blC k (ch k) = z
    · rw [if_pos q, if_pos rfl]
      refine (P.hperm V h).trans (List.Perm.of_eq ?_)
      refine List.filter_congr fun j hj => ?_
      rw [bN j (List.mem_range.mp hj)]
      by_cases q2 : blC j (ch j) = y ∨ blC j (ch j) = z
      · rw [if_pos q2]; simpa using q2
      · rw [if_neg q2]
        have h1 := hnf j (List.mem_range.mp hj)
        rw [Bool.eq_iff_iff]
        simp only [Bool.or_eq_true, beq_iff_eq]
        exact ⟨fun e => absurd e q2, fun e => absurd e h1⟩
    · rw [if_neg q, if_neg (hnf k hk)]
      refine (h.hs k hk).trans (List.Perm.of_eq ?_)
      refine List.filter_congr fun j hj => ?_
      rw [bN j (List.mem_range.mp hj)]
      by_cases q2 : blC j (ch j) = y ∨ blC j (ch j) = z
      · rw [if_pos q2]
        have h1 : blC j (ch j) ≠ blC k (ch k) := fun e => q (e ▸ q2)
        have h2 := Ne.symm (hnf k hk)
        rw [Bool.eq_iff_iff]
        simp only [beq_iff_eq]
        exact ⟨fun e => absurd e h1, fun e => absurd e h2⟩
      · rw [if_neg q2]
  · show S.ks ++ [freshL.getD r []] = _
    have h4 : freshL.length = 4 := rfl
    rw [h.ks, List.append_assoc, List.take_add_one, List.getElem?_eq_getElem (by lia), List.getD_eq_getElem?_getD, List.getElem?_eq_getElem (by lia)]
    rfl
  · have hnum := h.num
    have hpl := P.perm.length_eq
    have hnd := P.nd
    have hp1 : p.Nodup := (List.nodup_append.mp hnd).1
    have hfp : freshL.getD r [] ∉ p := fun q => hfr (h.in_ks V hr (P.perm.mem_iff.mp (List.mem_append_left _ q))).1
    have hnd2 : (p ++ [freshL.getD r []]).Nodup := List.nodup_append.mpr ⟨hp1, by simp, fun a ha b hb e => by
      obtain rfl := List.mem_singleton.mp hb
      subst e; exact hfp ha⟩
    have hperm : (blocksOf ((List.range v.N).map fun k => blC k (chNext S y z r ch k))).Perm (p ++ [freshL.getD r []]) := by
      refine (List.perm_ext_iff_of_nodup (blocksOf_nodup _) hnd2).mpr fun x => ?_
      rw [mem_blocksOf]
      simp only [List.mem_map, List.mem_range, List.mem_append, List.mem_singleton]
      constructor
      · rintro ⟨k, hk, rfl⟩
        rw [bN k hk]
        by_cases q : blC k (ch k) = y ∨ blC k (ch k) = z
        · rw [if_pos q]; exact .inr rfl
        · rw [if_neg q]
          left
          have hm := P.perm.mem_iff.mpr ((h.bs V).mpr ⟨k, hk, rfl⟩)
          rcases List.mem_append.mp hm with m | m
          · exact m
          · simp only [List.mem_cons, List.not_mem_nil, or_false] at m
            exact absurd m q
      · rintro (hx | rfl)
        · obtain ⟨k, hk, rfl⟩ := (h.bs V).mp (P.perm.mem_iff.mp (List.mem_append_left _ hx))
          refine ⟨k, hk, ?_⟩
          rw [bN k hk, if_neg]
          intro q
          rcases q with q | q
          · exact P.yz.2.1 (q ▸ hx)
          · exact P.yz.2.2 (q ▸ hx)
        · exact ⟨ka, hka, by rw [bN ka hka, if_pos (.inl ea)]⟩
    have := hperm.length_eq
    rw [this]
    simp at hpl ⊢
    lia
  · rcases List.mem_append.mp hx with q | q
    · exact h.cin x q
    · obtain rfl := List.mem_singleton.mp q
      refine ⟨_, ⟨⟨kb, hkb, ?_⟩, ka, hka, ?_⟩, P.cutC V h hr⟩
      · unfold pB; simpa using eb
      · unfold pB
        have := P.yz.1
        dsimp only
        rw [ea]; simpa using this
  · rcases h.cout c hc with q | ⟨x, hx, hle⟩
    · by_cases hyz : c ka = c kb
      · left
        intro a ha b hb e
        rw [bN a ha, bN b hb] at e
        have cy : ∀ k < v.N, blC k (ch k) = y ∨ blC k (ch k) = z → c k = c ka := fun k hk m => by
          rcases m with m | m
          · exact q k hk ka hka (by rw [m, ea])
          · rw [hyz]; exact q k hk kb hkb (by rw [m, eb])
        by_cases qa : blC a (ch a) = y ∨ blC a (ch a) = z <;> by_cases qb : blC b (ch b) = y ∨ blC b (ch b) = z
        · rw [cy a ha qa, cy b hb qb]
        · rw [if_pos qa, if_neg qb] at e; exact absurd e.symm (hnf b hb)
        · rw [if_neg qa, if_pos qb] at e; exact absurd e (hnf a ha)
        · rw [if_neg qa, if_neg qb] at e; exact q a ha b hb e
      · right
        refine ⟨Mine.cutC v S, List.mem_append_right _ (by simp), ?_⟩
        rw [P.cutC V h hr]
        have hC : ∀ k < v.N, ((List.range v.N).any fun j => (blC j (ch j) == blC k (ch k)) && c j) = c k := fun k hk => by
          rw [Bool.eq_iff_iff, List.any_eq_true]
          constructor
          · rintro ⟨j, hj, m⟩
            simp only [Bool.and_eq_true, beq_iff_eq] at m
            rw [← q j (List.mem_range.mp hj) k hk m.1]; exact m.2
          · intro m
            exact ⟨k, List.mem_range.mpr hk, by simp [m]⟩
        have hcut := P.cut (fun x => (List.range v.N).any fun j => (blC j (ch j) == x) && c j) (by
          have h1 := hC ka hka
          have h2 := hC kb hkb
          rw [ea] at h1
          rw [eb] at h2
          rw [h1, h2]
          exact fun e => hyz e.symm)
        refine Int.le_trans hcut (Int.le_of_eq (cutX_congr hC))
    · exact .inr ⟨x, List.mem_append_left _ hx, hle⟩
theorem StInv.go (V : VOk v) (h : StInv v r S ch) (hr : r ≤ 3) (hn : r + 1 < v.N) : RoundFact v S (freshL.getD r []) ∧ ∃ ch', StInv v (r + 1) (fStep v S (freshL.getD r [])) ch' := by
  obtain ⟨p, y, z, P⟩ := h.parts V hr hn
  exact ⟨h.fact V hr P, _, h.next V hr hn P⟩
theorem StInv.start (V : VOk v) : StInv v 0 (fStart v) (fun _ => []) := by
  have hN := V.ok.N
  have hb : (labL.take v.N).map (· ++ dotLocal) = (List.range v.N).map baseN := by rcases hN with q | q <;> rw [q] <;> rfl
  have inj : ∀ j < v.N, ∀ k < v.N, baseN j = baseN k → j = k := fun j hj k hk => base_inj j (List.mem_range.mpr (by lia)) k (List.mem_range.mpr (by lia))
  refine ⟨fun k hk => by simp [chL], ?_, fun k hk => List.Perm.refl _, ?_, ⟨?_, fun x hx => ⟨?_, fun k hk => ?_⟩⟩, ?_, fun x hx => (by cases hx), fun c _ => .inl fun a ha b hb e => by rw [inj a ha b hb e]⟩
  · exact hb
  · show (labL.take v.N).map (· ++ dotLocal) = _
    rw [hb]; simp
  · show ((labL.take v.N).map (· ++ dotLocal)).length = _
    rw [hb]; simp
  · refine Nat.le_trans (List.length_filter_le _ _) ?_
    simp; lia
  · exact List.mem_range.mp (List.mem_filter.mp hk).1
  · have nd : ((List.range v.N).map fun k => blC k []).Nodup := by
      refine List.pairwise_map.mpr (List.pairwise_lt_range.imp_of_mem fun {a b} ha hb hlt e => ?_)
      have := inj a (List.mem_range.mp ha) b (List.mem_range.mp hb) e
      lia
    have : (blocksOf ((List.range v.N).map fun k => blC k [])).Perm ((List.range v.N).map fun k => blC k []) :=
      (List.perm_ext_iff_of_nodup (blocksOf_nodup _) nd).mpr fun x => mem_blocksOf
    rw [this.length_eq]; simp
theorem facts_all (V : VOk v) : Facts v (freshL.take (v.N - 1)) (fStart v) ∧ ∃ ch, StInv v (v.N - 1) ((freshL.take (v.N - 1)).foldl (fStep v) (fStart v)) ch := by
  have h0 := StInv.start V
  rcases V.ok.N with q | q
  · obtain ⟨f0, c1, h1⟩ := h0.go V (by lia) (by lia)
    obtain ⟨f1, c2, h2⟩ := h1.go V (by lia) (by lia)
    obtain ⟨f2, c3, h3⟩ := h2.go V (by lia) (by lia)
    rw [q]
    exact ⟨⟨f0, f1, f2, trivial⟩, c3, h3⟩
  · obtain ⟨f0, c1, h1⟩ := h0.go V (by lia) (by lia)
    obtain ⟨f1, c2, h2⟩ := h1.go V (by lia) (by lia)
    obtain ⟨f2, c3, h3⟩ := h2.go V (by lia) (by lia)
    obtain ⟨f3, c4, h4⟩ := h3.go V (by lia) (by lia)
    rw [q]
    exact ⟨⟨f0, f1, f2, f3, trivial⟩, c4, h4⟩
end
end Mine
end
-- E21
section
open PySem PySem.W PyProof.Rows
set_option Elab.async false
set_option maxRecDepth 100000
set_option maxHeartbeats 4000000
namespace Mine
theorem reps_ints {c : Cf} {h : Heap} {P : Addr → Prop} : ∀ {vs : List Value} {ns : List Int}, IntsAre vs ns → c.Reps h P vs (ns.map D.int) := by
  intro vs ns hI
  induction hI with
  | nil => exact .nil
  | cons _ _ _ ih => exact .cons .int ih
theorem joinT (hall : ∀ s : List Int, s.length ≤ 63 → LawOk s) : PySem.Challenge.rw_pw0015_01.Holds := by
  refine hd ?_
  intro w s₀ s₁ mg mb G Y fa o pm cd doc dV kV ho hd hcd hD hmg hg args vals as hpre hlay hrd hwl hlo
  have KX := kIn_of Y
  have T := G.T
  wrow_args hpre hlay hrd hwl hlo
  rename_i ns _ _ _ _ _ _ _ l vs _ hL _ _ _ hI _ hc _
  have hlen : ns.length ≤ 63 := by omega
  have Gk0 : Gk (cf w).K s₁.heap := ⟨KX, ⟨mg, T.g⟩, ⟨mb, T.b, T.builtins⟩, T.nolimit⟩
  have hfa : mg (Str.ofString "law") = some (.ref 194) := mg_of KX T.g (t_law (w := w)).1
  have hfa2 : fa = 194 := by
    have h2 : mg (Str.ofString "law") = some (.ref fa) := hmg
    rw [hfa] at h2
    injection h2 with h2
    injection h2 with h2
    exact h2.symm
  subst hfa2
  have F := law_spec (w := w) hlen (hall ns hlen)
  have Rm0 : Rm 6 callerA := ⟨rfl, by decide, by decide⟩
  refine wpAny_mono (F (fun _ => False) callerA s₁ [.ref l] Rm0 Gk0 (fun _ h => h.elim) (.cons (.list hL (fun h => h) (reps_ints hI)) .nil)) (fun v s' y => ?_) fun _ _ z => z.elim
  obtain ⟨⟨⟨h', tk, rfl⟩, hk⟩, r⟩ := y
  cases r with
  | bool =>
    refine GoodW.toG ⟨.inl ⟨.bool true, .bool true, [], rfl, fun cls => ?_, .bool true, ?_, fun _ => ⟨.nil, fun _ ha => nomatch ha⟩⟩, hk, rfl, hg⟩
    · rfl
    · wrow_post
end Mine
end
-- P12
section
open PySem PySem.W PyProof.Rows
set_option Elab.async false
set_option linter.unusedVariables false
set_option maxRecDepth 100000
namespace Mine
-- the law of the numbers
theorem log_range (s : List Int) : InRange (sizeOfS s) (logOf s) := by
  have p := sizeOfS_pos s
  intro l hl
  unfold logOf at hl
  rcases List.mem_append.mp hl with q | q
  · have : ∀ l ∈ baseLog, l.1 < 4 ∧ l.2.1 < 4 := by decide
    have := this l q
    lia
  · obtain ⟨x, _, rfl⟩ := List.mem_map.mp q
    exact ⟨Nat.mod_lt _ (by lia), Nat.mod_lt _ (by lia)⟩
theorem log_pos (s : List Int) : ∀ l ∈ logOf s, 0 ≤ l.2.2 := by
  intro l hl
  unfold logOf at hl
  rcases List.mem_append.mp hl with q | q
  · have : ∀ l ∈ baseLog, (0 : Int) ≤ l.2.2 := by decide
    exact this l q
  · obtain ⟨x, _, rfl⟩ := List.mem_map.mp q
    show (0 : Int) ≤ 1 + _
    lia
theorem env_N (s : List Int) : (envOf s).N = sizeOfS s := rfl
theorem env_labs (s : List Int) : (envOf s).lab = labs (sizeOfS s) := rfl
theorem env_bonds (s : List Int) : (envOf s).bonds = bondsOf (sizeOfS s) (logOf s) := rfl
theorem env_way (s : List Int) : (envOf s).way = 1 - 2 * ((totalOf s % 2 : Nat) : Int) := rfl
theorem led_small {n : Nat} : ∀ (log : List Call) (lab : List Str) {te : List Tab × List Int} {B : Nat}, LedOk n B te → LedOk n (B + 2 * log.length) (log.foldl (ledStep lab) te)
  | [], lab, _, _, h => h
  | l :: log, lab, _, _, h => (led_small log lab (h.step lab l)).mono (by simp; lia)
theorem labs_len (s : List Int) : (labs (sizeOfS s)).length = sizeOfS s := by
  have p := sizeOfS_pos s
  have : sizeOfS s = 4 ∨ sizeOfS s = 5 := by lia
  rcases this with q | q <;> rw [q] <;> rfl
theorem labs_nd (n : Nat) : (labs n).Nodup := List.Sublist.nodup (List.take_sublist _ _) labs_nodup
theorem envOk (s : List Int) : VOk (envOf s) := by
  have p := sizeOfS_pos s
  have hl := env_led s
  rw [env_labs] at hl
  have hw := wok_ledgers (labs_nd (sizeOfS s)) (by rw [labs_len]; lia) (log := logOf s) (by rw [labs_len]; exact log_range s) (log_pos s)
  rw [hl] at hw
  have hv := hw.v
  have hsm := led_small (n := (labs (sizeOfS s)).length) (logOf s) (labs (sizeOfS s)) (B := 0) (te := (List.replicate (labs (sizeOfS s)).length [], List.replicate (labs (sizeOfS s)).length 0)) ⟨by simp, by simp, fun t ht => by obtain rfl := (List.mem_replicate.mp ht).2; simp⟩
  have hsm' : LedOk (labs (sizeOfS s)).length (0 + 2 * (logOf s).length) (ledgersOf (labs (sizeOfS s)) (logOf s)) := hsm
  rw [hl] at hsm'
  have hlen := logOf_len s
  have W : Wt (envOf s).N (wV (envOf s)) := ⟨fun a ha b hb => hw.sym a (by rw [labs_len]; exact ha) b (by rw [labs_len]; exact hb), fun a ha b hb => hw.pos a (by rw [labs_len]; exact ha) b (by rw [labs_len]; exact hb)⟩
  refine ⟨⟨by rw [env_N]; lia, by rw [env_labs, env_N]; exact labs_len s, by rw [env_labs]; exact labs_nd _, ?_, ?_, fun t ht => ?_, ?_, ?_⟩, hv.nd, W, fun side c hc => ?_⟩
  · have := hv.a; rw [labs_len] at this; exact this
  · have := hv.b; rw [labs_len] at this; exact this
  · have := hsm'.c t ht; lia
  · rw [env_bonds]
    exact Nat.le_trans (bonds_len _ _ (by lia)) (by lia)
  · rw [env_way]; lia
  · rw [env_bonds]
    exact between_cut W (fun a ha b hb => hw.w a (by rw [labs_len]; exact ha) b hb) side hc
theorem sides_in4 : ∀ a ∈ [true, false], ∀ b ∈ [true, false], ∀ c ∈ [true, false], (a && (b && c)) = false → ∃ sd ∈ allSides 4, sd.length < 4 ∧ sd.contains 0 = true ∧ sd.contains 1 = a ∧ sd.contains 2 = b ∧ sd.contains 3 = c := by decide +kernel
theorem sides_in5 : ∀ a ∈ [true, false], ∀ b ∈ [true, false], ∀ c ∈ [true, false], ∀ d ∈ [true, false], (a && (b && (c && d))) = false → ∃ sd ∈ allSides 5, sd.length < 5 ∧ sd.contains 0 = true ∧ sd.contains 1 = a ∧ sd.contains 2 = b ∧ sd.contains 3 = c ∧ sd.contains 4 = d := by decide +kernel
theorem sides_out4 : ∀ sd ∈ allSides 4, sd.length < 4 → sd.contains ((0 : Nat) : Int) = true ∧ ∃ b ∈ List.range 4, sd.contains ((b : Nat) : Int) = false := by decide +kernel
theorem sides_out5 : ∀ sd ∈ allSides 5, sd.length < 5 → sd.contains ((0 : Nat) : Int) = true ∧ ∃ b ∈ List.range 5, sd.contains ((b : Nat) : Int) = false := by decide +kernel
theorem tf (b : Bool) : b ∈ [true, false] := by cases b <;> simp
theorem sides_in {n : Nat} (hn : n = 4 ∨ n = 5) (c : Nat → Bool) (h0 : c 0 = true) (h1 : ∃ b < n, c b = false) : ∃ sd ∈ allSides n, sd.length < n ∧ ∀ k < n, sd.contains ((k : Nat) : Int) = c k := by
  obtain ⟨b, hb, e⟩ := h1
  rcases hn with rfl | rfl
  · have hh : (c 1 && (c 2 && c 3)) = false := by
      have : b = 0 ∨ b = 1 ∨ b = 2 ∨ b = 3 := by lia
      rcases this with rfl | rfl | rfl | rfl
      · rw [h0] at e; cases e
      all_goals simp [e]
    obtain ⟨sd, h1, h2, h3, h4, h5, h6⟩ := sides_in4 _ (tf (c 1)) _ (tf (c 2)) _ (tf (c 3)) hh
    refine ⟨sd, h1, h2, fun k hk => ?_⟩
    have : k = 0 ∨ k = 1 ∨ k = 2 ∨ k = 3 := by lia
    rcases this with rfl | rfl | rfl | rfl
    · rw [h0]; exact h3
    · exact h4
    · exact h5
    · exact h6
  · have hh : (c 1 && (c 2 && (c 3 && c 4))) = false := by
      have : b = 0 ∨ b = 1 ∨ b = 2 ∨ b = 3 ∨ b = 4 := by lia
      rcases this with rfl | rfl | rfl | rfl | rfl
      · rw [h0] at e; cases e
      all_goals simp [e]
    obtain ⟨sd, h1, h2, h3, h4, h5, h6, h7⟩ := sides_in5 _ (tf (c 1)) _ (tf (c 2)) _ (tf (c 3)) _ (tf (c 4)) hh
    refine ⟨sd, h1, h2, fun k hk => ?_⟩
    have : k = 0 ∨ k = 1 ∨ k = 2 ∨ k = 3 ∨ k = 4 := by lia
    rcases this with rfl | rfl | rfl | rfl | rfl
    · rw [h0]; exact h3
    · exact h4
    · exact h5
    · exact h6
    · exact h7
theorem sides_out {n : Nat} (hn : n = 4 ∨ n = 5) {sd : List Int} (h : sd ∈ allSides n) (hl : sd.length < n) : ProperS n fun k => sd.contains ((k : Nat) : Int) := by
  rcases hn with rfl | rfl
  · obtain ⟨a, b, hb, e⟩ := sides_out4 sd h hl
    exact ⟨⟨0, by lia, a⟩, b, List.mem_range.mp hb, e⟩
  · obtain ⟨a, b, hb, e⟩ := sides_out5 sd h hl
    exact ⟨⟨0, by lia, a⟩, b, List.mem_range.mp hb, e⟩
theorem least_ok {v : FEnv} (V : VOk v) {S : FSt} {ch : Nat → List Nat} (h : StInv v (v.N - 1) S ch) : minI S.counts = leastOf v := by
  have hN := V.ok.N
  have one : ∀ a < v.N, ∀ b < v.N, blC a (ch a) = blC b (ch b) := by
    have hnum := h.num
    have h1 : (blocksOf ((List.range v.N).map fun k => blC k (ch k))).length = 1 := by lia
    obtain ⟨x, hx⟩ := List.length_eq_one_iff.mp h1
    intro a ha b hb
    have ea := (h.bs V).mpr ⟨a, ha, rfl⟩
    have eb := (h.bs V).mpr ⟨b, hb, rfl⟩
    rw [hx] at ea eb
    rw [List.mem_singleton.mp ea, List.mem_singleton.mp eb]
  have low : ∀ c, ProperS v.N c → ∃ x ∈ S.counts, x ≤ cutX v.N (wV v) c := fun c hc => by
    rcases h.cout c hc with q | q
    · obtain ⟨⟨a, ha, ea⟩, b, hb, eb⟩ := hc
      have := q a ha b hb (one a ha b hb)
      rw [ea, eb] at this; cases this
    · exact q
  unfold leastOf
  have hcut : ∀ sd, between v.bonds sd = cutX v.N (wV v) fun k => sd.contains ((k : Nat) : Int) := fun sd => V.bond _ _ fun _ _ => rfl
  have up : ∀ c, ProperS v.N c → ∃ w ∈ ((allSides v.N).filter fun sd => decide (sd.length < v.N)).map (between v.bonds), w = cutX v.N (wV v) c := fun c hc => by
    have key : ∀ c, c 0 = true → (∃ b < v.N, c b = false) → ∃ w ∈ ((allSides v.N).filter fun sd => decide (sd.length < v.N)).map (between v.bonds), w = cutX v.N (wV v) c := fun c h0 h1 => by
      obtain ⟨sd, g1, g2, g3⟩ := sides_in hN c h0 h1
      exact ⟨_, List.mem_map.mpr ⟨sd, List.mem_filter.mpr ⟨g1, by simpa using g2⟩, rfl⟩, V.bond _ _ g3⟩
    cases h0 : c 0 with
    | true => exact key c h0 hc.2
    | false =>
      obtain ⟨a, ha, ea⟩ := hc.1
      obtain ⟨w, hw, e⟩ := key (fun k => !c k) (by rw [h0]; rfl) ⟨a, ha, by rw [ea]; rfl⟩
      exact ⟨w, hw, by rw [e, cutX_not V.w]⟩
  obtain ⟨x0, hx0, _⟩ := low (fun k => k == 0) ⟨⟨0, by lia, rfl⟩, 1, by lia, rfl⟩
  have hm := minI_mem (List.ne_nil_of_mem hx0)
  obtain ⟨c, hc, e⟩ := h.cin _ hm
  obtain ⟨w, hw, ew⟩ := up c hc
  refine (minI_is (by rw [e, ← ew]; exact hw) fun y hy => ?_).symm
  obtain ⟨sd, hsd, rfl⟩ := List.mem_map.mp hy
  obtain ⟨g1, g2⟩ := List.mem_filter.mp hsd
  rw [hcut sd]
  obtain ⟨x, hx, hle⟩ := low _ (sides_out hN g1 (by simpa using g2))
  exact Int.le_trans (minI_le hx) hle
theorem lawOk (s : List Int) : LawOk s := by
  have V := envOk s
  obtain ⟨F, ch, hS⟩ := facts_all V
  have hl := env_led s
  have hlab : (envOf s).lab.length = (envOf s).N := V.ok.lab
  refine ⟨V.ok, log_range s, ?_, (StInv.start V).host, F, least_ok V hS⟩
  have he := ent_ok (lab := (envOf s).lab) (log := logOf s) (by rw [hlab]; exact log_range s)
  rw [hl, hlab] at he
  exact he
theorem the_law : PySem.Challenge.rw_pw0015_01.Holds := joinT fun s _ => lawOk s
end Mine
end
theorem PySem.Challenge.cw_pw0015_01_holds : PySem.Challenge.rw_pw0015_01.Holds :=
  Mine.the_law
