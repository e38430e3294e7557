import PyProof.Rows.All
import PyProof.Rows.StrCase
import Wide.All
import OpenK.AllK
import Wide.FinOn
import PySem.Challenge.RW_pu0020_01
open PySem PySem.W PyProof.Rows
set_option Elab.async false

section
open PySem PySem.W PyProof.Rows
set_option Elab.async false
set_option maxRecDepth 100000
namespace Mine
/-- what a run of the law never changes -/
structure Cx where
  prog : Program
  w : World
  g : Array GenState
  d : Drawn
  os : OsState

/-- t ends, raises nothing, and leaves a heap at which Q holds -/
structure W {α : Type} (c : Cx) (A : Around) (t : Sem α) (h : Heap) (Q : α → Heap → Prop) : Prop where
  run : ∀ tk (E : Value → Shared → Prop), wpAny (model c.prog c.w) A t (fun a s' => ∃ h' tk', s' = ⟨h', c.g, c.d, tk', c.os⟩ ∧ Q a h') E ⟨h, c.g, c.d, tk + 1, c.os⟩

structure WC (c : Cx) (A : Around) (t : Code) (h : Heap) (Q : Flow → Heap → Prop) : Prop where
  run : ∀ tk, codeAny (model c.prog c.w) A t (fun r s' => ∃ f h' tk', r = .ok f ∧ s' = ⟨h', c.g, c.d, tk', c.os⟩ ∧ Q f h') ⟨h, c.g, c.d, tk + 1, c.os⟩

section
variable {α β : Type} {c : Cx} {A : Around} {h : Heap}

theorem W.go {m : Sem α} {P : α → Heap → Prop} (hW : W c A m h P) {Q : α → Shared → Prop} {E : Value → Shared → Prop} {tk : Nat}
    (k : ∀ a h' tk', P a h' → Q a ⟨h', c.g, c.d, tk' + 1, c.os⟩) : wpAny (model c.prog c.w) A m Q E ⟨h, c.g, c.d, tk + 1, c.os⟩ :=
  wpAny_mono (wpAny_toks_of (n := 1) (show 1 ≤ tk + 1 by omega) (hW.run tk E)) (by
    rintro a s ⟨hn, h', tk', rfl, hp⟩
    obtain ⟨j, rfl⟩ : ∃ j, tk' = j + 1 := ⟨tk' - 1, by have : 1 ≤ tk' := hn; omega⟩
    exact k a h' j hp) (fun _ _ e => e.2)

theorem WC.go {m : Code} {P : Flow → Heap → Prop} (hW : WC c A m h P) {R : Result → Shared → Prop} {tk : Nat}
    (k : ∀ f h' tk', P f h' → R (.ok f) ⟨h', c.g, c.d, tk' + 1, c.os⟩) : codeAny (model c.prog c.w) A m R ⟨h, c.g, c.d, tk + 1, c.os⟩ :=
  codeAny_mono (codeAny_toks_of (n := 1) (show 1 ≤ tk + 1 by omega) (hW.run tk)) (by
    rintro r s ⟨hn, f, h', tk', rfl, rfl, hp⟩
    obtain ⟨j, rfl⟩ : ∃ j, tk' = j + 1 := ⟨tk' - 1, by have : 1 ≤ tk' := hn; omega⟩
    exact k f h' j hp)

theorem W.mono {m : Sem α} {P Q : α → Heap → Prop} (hW : W c A m h P) (k : ∀ a h', P a h' → Q a h') : W c A m h Q :=
  .mk fun _ _ => hW.go fun a h' tk' hp => ⟨h', _, rfl, k a h' hp⟩
theorem WC.mono {m : Code} {P Q : Flow → Heap → Prop} (hW : WC c A m h P) (k : ∀ a h', P a h' → Q a h') : WC c A m h Q :=
  .mk fun _ => hW.go fun a h' tk' hp => ⟨a, h', _, rfl, rfl, k a h' hp⟩

theorem W.pure {a : α} {Q : α → Heap → Prop} (hq : Q a h) : W c A (pure a) h Q := .mk fun _ _ => wpAny_pure ⟨_, _, rfl, hq⟩
theorem W.bind {m : Sem α} {f : α → Sem β} {Q : β → Heap → Prop} (hm : W c A m h (fun a h' => W c A (f a) h' Q)) : W c A (m >>= f) h Q :=
  .mk fun _ E => wpAny_bind (hm.go fun _ _ tk' hf => hf.run tk' E)
theorem W.holding {vs : List Value} {m : Sem α} {Q : α → Heap → Prop} (hm : W c A m h Q) : W c A (holding vs m) h Q := .mk fun tk E => wpAny_holding (hm.run tk E)
theorem W.of_eq {m m' : Sem α} {Q : α → Heap → Prop} (e : m = m') (hm : W c A m' h Q) : W c A m h Q := e ▸ hm
theorem W.standAt {pos : Pos} {Q : Unit → Heap → Prop} (hq : Q () h) : W c A (standAt pos) h Q := .mk fun _ _ => wpAny_standAt ⟨_, _, rfl, hq⟩
theorem W.point {Q : Unit → Heap → Prop} (hq : Q () h) : W c A point h Q := .mk fun _ _ => wpAny_point ⟨_, _, rfl, hq⟩
theorem W.in1 {m : Sem α} {Q : α → Heap → Prop} (hm : W c A.in1 m h Q) : W c A m h Q := .mk fun tk E => wpAny_of_in1 (hm.run tk E)
end

/-- every object stays -/
def Keep (h h' : Heap) : Prop := ∀ b o, h.get? b = some o → h'.get? b = some o
theorem Keep.refl (h : Heap) : Keep h h := fun _ _ e => e
theorem Keep.trans {h h' h'' : Heap} (a : Keep h h') (b : Keep h' h'') : Keep h h'' := fun x o e => b x o (a x o e)
theorem Keep.push (h : Heap) (o : Obj) : Keep h (h.push o) := fun _ _ e => Heap.get?_push_of_some o e
theorem Keep.list {h h' : Heap} (k : Keep h h') {a : Addr} {vs : Array Value} (x : h.IsList a vs) : h'.IsList a vs :=
  let ⟨o, ho, r⟩ := x; ⟨o, k _ _ ho, r⟩
theorem Keep.tup {h h' : Heap} (k : Keep h h') {a : Addr} {vs : Array Value} (x : h.IsTuple a vs) : h'.IsTuple a vs :=
  x.at fun _ e => k _ _ e
theorem fresh_none {h : Heap} {a : Addr} (ha : h.objs.size ≤ a) : h.get? a = none := by
  cases e : h.get? a with
  | none => rfl
  | some o => exact absurd (Heap.lt_size e) (Nat.not_lt.mpr ha)

/-- a name of the frame holds v -/
def Var (env : Env) (h : Heap) (x : Str) (v : Value) : Prop :=
  (env.kindOf x = some .local ∧ ∃ m, h.Ns env.locals m ∧ m x = some v) ∨
  ((env.kindOf x = some .cell ∨ env.kindOf x = some .free) ∧ ∃ k, env.cells.lookup x = some k ∧ h.IsCell k (some v))

theorem Keep.var {h h' : Heap} (k : Keep h h') {env : Env} {x : Str} {v : Value} (y : Var env h x v) : Var env h' x v := by
  rcases y with ⟨a, m, b, d⟩ | ⟨a, z, b, d⟩
  · exact .inl ⟨a, m, b.keeps k, d⟩
  · exact .inr ⟨a, z, b, d.keeps k⟩

/-- the frame: its locals, its cells, all younger than the heap hb -/
structure Frm (hb : Heap) (env : Env) (h : Heap) : Prop where
  kind : env.scope.kind = .function
  glob : env.globals = mainGlobals
  bins : env.builtins = builtinsNs
  keep : Keep hb h
  ns : ∃ m, h.Ns env.locals m
  cell : ∀ x k, env.cells.lookup x = some k → ∃ v, h.IsCell k v
  inj : ∀ x y k, env.cells.lookup x = some k → env.cells.lookup y = some k → x = y
  nsNew : hb.get? env.locals = none
  cellNew : ∀ x k, env.cells.lookup x = some k → hb.get? k = none

theorem Keep.frm {hb h h' : Heap} (k : Keep h h') {env : Env} (F : Frm hb env h) : Frm hb env h' :=
  ⟨F.kind, F.glob, F.bins, F.keep.trans k, let ⟨m, a⟩ := F.ns; ⟨m, a.keeps k⟩, fun x z e => let ⟨v, a⟩ := F.cell x z e; ⟨v, a.keeps k⟩, F.inj, F.nsNew, F.cellNew⟩

/-- all but dicts and cells stays -/
def Obj.hard (o : Obj) : Prop := (∀ es n, o.data ≠ .dict es n) ∧ ∀ v, o.data ≠ .cell v
def KeepH (h h' : Heap) : Prop := ∀ b o, Obj.hard o → h.get? b = some o → h'.get? b = some o
theorem Keep.hard {h h' : Heap} (k : Keep h h') : KeepH h h' := fun b o _ e => k b o e
theorem KeepH.refl (h : Heap) : KeepH h h := fun _ _ _ e => e
theorem KeepH.trans {h h' h'' : Heap} (a : KeepH h h') (b : KeepH h' h'') : KeepH h h'' := fun x o ho e => b x o ho (a x o ho e)
theorem KeepH.list {h h' : Heap} (k : KeepH h h') {a : Addr} {vs : Array Value} (x : h.IsList a vs) : h'.IsList a vs := by
  obtain ⟨o, ho, hc, n, hd⟩ := x
  exact ⟨o, k _ _ ⟨fun _ _ => by rw [hd]; simp, fun _ => by rw [hd]; simp⟩ ho, hc, n, hd⟩

section
variable {c : Cx} {A : Around} {h hb : Heap} {env : Env} {x : Str} {v : Value}

theorem ev_name {pos : Pos} {Q : Value → Heap → Prop} (F : Frm hb env h) (y : Var env h x v) (hq : Q v h) (hd : (x == ("__debug__" : Str)) = false := by decide) (hn : (x == ("__classdict__" : Str)) = false := by decide) :
    W c A (eval (.Name x pos) env) h Q := by
  refine .mk fun tk E => ?_
  rcases y with ⟨a, m, b, d⟩ | ⟨a | a, z, b, d⟩
  · exact wpAny_Name (wpAny_loadName_local F.kind a b d ⟨_, _, rfl, hq⟩) hd
  · exact wpAny_Name (wpAny_loadName_cell F.kind a b d ⟨_, _, rfl, hq⟩) hd
  · exact wpAny_Name (wpAny_loadName_free F.kind a b d ⟨_, _, rfl, hq⟩ hn) hd

/-- a global name of the text, or a built-in one -/
def Glob (h : Heap) (x : Str) (v : Value) : Prop := ∃ mg, h.Ns mainGlobals mg ∧ (mg x = some v ∨ (mg x = none ∧ ∃ mb, h.Ns builtinsNs mb ∧ mb x = some v))
theorem Keep.glob {h h' : Heap} (k : Keep h h') {x : Str} {v : Value} (y : Glob h x v) : Glob h' x v := by
  obtain ⟨mg, a, b | ⟨b, mb, d, e⟩⟩ := y
  · exact ⟨mg, a.keeps k, .inl b⟩
  · exact ⟨mg, a.keeps k, .inr ⟨b, mb, d.keeps k, e⟩⟩

theorem ev_glob {pos : Pos} {Q : Value → Heap → Prop} (F : Frm hb env h) (y : Glob hb x v) (hx : env.kindOf x = some .globalImplicit) (hq : Q v h) (hd : (x == ("__debug__" : Str)) = false := by decide) :
    W c A (eval (.Name x pos) env) h Q := by
  refine .mk fun tk E => ?_
  obtain ⟨mg, a, b | ⟨b, mb, d, e⟩⟩ := F.keep.glob y
  · exact Calls.Name_function_global F.kind hx (Calls.loadGlobal_global (by rw [F.glob]; exact a) b ⟨_, _, rfl, hq⟩) hd
  · exact Calls.Name_function_global F.kind hx (Calls.loadGlobal_builtin (by rw [F.glob]; exact a) b (by rw [F.bins]; exact d) e ⟨_, _, rfl, hq⟩) hd

theorem Ns_ne_cell {h : Heap} {a k : Addr} {m v} (n : h.Ns a m) (z : h.IsCell k v) : k ≠ a := by
  obtain ⟨o, es, ep, ho, hd, _⟩ := n
  obtain ⟨o', ho', hd'⟩ := z
  rintro rfl
  rw [ho] at ho'; cases ho'; rw [hd] at hd'; cases hd'

theorem Ns_unique {h : Heap} {a : Addr} {m m' : Str → Option Value} (x : h.Ns a m) (y : h.Ns a m') : m = m' := by
  obtain ⟨o, es, ep, ho, hd, _, hf⟩ := x
  obtain ⟨o', es', ep', ho', hd', _, hf'⟩ := y
  rw [ho] at ho'; cases ho'; rw [hd] at hd'; cases hd'
  funext n; rw [← hf n, hf' n]

/-- the names but x hold what they held -/
def Upd (env : Env) (h h' : Heap) (x : Str) : Prop := ∀ y u, y ≠ x → Var env h y u → Var env h' y u
theorem Upd.var {env : Env} {h h' : Heap} {x y : Str} {u : Value} (U : Upd env h h' x) (hy : y ≠ x) (z : Var env h y u) : Var env h' y u := U y u hy z

theorem st_name {Q : Unit → Heap → Prop} (F : Frm hb env h) (hx : env.kindOf x = some .local ∨ (env.kindOf x = some .cell ∧ (env.cells.lookup x).isSome = true))
    (hq : ∀ h', Frm hb env h' → Var env h' x v → Upd env h h' x → KeepH h h' → Q () h') :
    W c A (storeName env x v) h Q := by
  refine .mk fun tk E => ?_
  obtain ⟨m₀, hm₀⟩ := F.ns
  rcases hx with hx | ⟨hx, hc⟩
  · refine wpAny_storeName_local hx hm₀ (fun h' hn' hs' => ⟨_, _, rfl, hq h' ?_ ?_ ?_ ?_⟩) (by rw [F.kind]; rfl)
    · refine ⟨F.kind, F.glob, F.bins, fun b o e => hs'.extBut b o ?_ (F.keep b o e), ⟨_, hn'⟩, fun y k e => ?_, F.inj, F.nsNew, F.cellNew⟩
      · rintro rfl; rw [F.nsNew] at e; cases e
      · obtain ⟨u, z⟩ := F.cell y k e; exact ⟨u, z.sameBut hs' (Ns_ne_cell hm₀ z)⟩
    · exact .inl ⟨hx, _, hn', by simp⟩
    · intro y u hy z
      rcases z with ⟨a, m, b, d⟩ | ⟨a, k, b, d⟩
      · refine .inl ⟨a, _, hn', ?_⟩
        rw [if_neg hy, Ns_unique hm₀ b]; exact d
      · exact .inr ⟨a, k, b, d.sameBut hs' (Ns_ne_cell hm₀ d)⟩
    · intro b o ho e
      refine hs'.extBut b o ?_ e
      rintro rfl
      obtain ⟨o', es, ep, ho', hd, _⟩ := hm₀
      rw [ho'] at e; cases e; exact ho.1 _ _ hd
  · obtain ⟨k, hk⟩ := Option.isSome_iff_exists.mp hc
    obtain ⟨v₀, hv₀⟩ := F.cell x k hk
    refine wpAny_storeName_cell F.kind hx hk hv₀ fun h' hc' hs' => ⟨_, _, rfl, hq h' ?_ ?_ ?_ ?_⟩
    · refine ⟨F.kind, F.glob, F.bins, fun b o e => hs'.extBut b o ?_ (F.keep b o e), ⟨_, hm₀.sameBut hs' (Ne.symm (Ns_ne_cell hm₀ hv₀))⟩, fun y k' e => ?_, F.inj, F.nsNew, F.cellNew⟩
      · rintro rfl; rw [F.cellNew x b hk] at e; cases e
      · by_cases hkk : k' = k
        · subst hkk; exact ⟨_, hc'⟩
        · obtain ⟨u, z⟩ := F.cell y k' e; exact ⟨u, z.sameBut hs' hkk⟩
    · exact .inr ⟨.inl hx, k, hk, hc'⟩
    · intro y u hy z
      rcases z with ⟨a, m, b, d⟩ | ⟨a, k', b, d⟩
      · exact .inl ⟨a, m, b.sameBut hs' (Ne.symm (Ns_ne_cell hm₀ hv₀)), d⟩
      · exact .inr ⟨a, k', b, d.sameBut hs' (by rintro rfl; exact hy (F.inj y x k' b hk))⟩
    · intro b o ho e
      refine hs'.extBut b o ?_ e
      rintro rfl
      obtain ⟨o', ho', hd⟩ := hv₀
      rw [ho'] at e; cases e; exact ho.2 _ hd
end

open PySem PySem.W PyProof.Rows
section
variable {c : Cx} {A : Around} {h : Heap} {env : Env}

/-! expressions -/
theorem ev_int {i : Int} {k : Nat} {pos : Pos} {Q : Value → Heap → Prop} (hq : ∀ t, Q (.int i t) h) : W c A (eval (.Constant (.int i) k pos) env) h Q :=
  .mk fun _ _ => wpAny_Constant_int ⟨_, _, rfl, hq _⟩
theorem ev_str {x : Str} {k : Nat} {pos : Pos} {Q : Value → Heap → Prop} (hq : ∀ t, Q (.str x t) h) : W c A (eval (.Constant (.str x) k pos) env) h Q :=
  .mk fun _ _ => Calls.Constant_str ⟨_, _, rfl, hq _⟩
theorem ev_float {x : UInt64} {k : Nat} {pos : Pos} {Q : Value → Heap → Prop} (hq : ∀ t, t ≠ 0 → Q (.float x t) h) : W c A (eval (.Constant (.float x) k pos) env) h Q :=
  .mk fun _ _ => fun _ _ _ => ⟨_, _, rfl, hq _ (Nat.succ_ne_zero _)⟩
theorem ev_bool {b : Bool} {k : Nat} {pos : Pos} {Q : Value → Heap → Prop} (hq : Q (.bool b) h) : W c A (eval (.Constant (.bool b) k pos) env) h Q :=
  .mk fun _ _ => fun _ _ _ => ⟨_, _, rfl, hq⟩
theorem ev_bin {l r : Expr} {op : Operator} {pos : Pos} {Q : Value → Heap → Prop} (hl : W c A (eval l env) h (fun a h₁ => W c A (eval r env) h₁ (fun b h₂ => W c A (binaryOp op a b) h₂ Q))) :
    W c A (eval (.BinOp l op r pos) env) h Q :=
  .mk fun _ E => wpAny_BinOp (hl.go fun _ _ _ hr => hr.go fun _ _ t2 ho => ho.run t2 E)
theorem ev_cmp {l r : Expr} {op : CmpOp} {pos : Pos} {Q : Value → Heap → Prop} (hl : W c A (eval l env) h (fun a h₁ => W c A (eval r env) h₁ (fun b h₂ => W c A (compareOp op a b) h₂ Q)))
    (hm : behindInMarks op r = false := by with_unfolding_all rfl) : W c A (eval (.Compare l [op] [r] pos) env) h Q :=
  .mk fun _ E => wpAny_Compare1 (hl.go fun _ _ _ hr => hr.go fun _ _ t2 ho => ho.run t2 E) hm
theorem tr_cmp {l r : Expr} {op : CmpOp} {pos : Pos} {whole : Sem Value} {Q : Bool → Heap → Prop}
    (hl : W c A (eval l env) h (fun a h₁ => W c A (eval r env) h₁ (fun b h₂ => W c A (compareOp op a b) h₂ (fun v h₃ => W c A (truthy v) h₃ Q))))
    (hm : behindInMarks op r = false := by with_unfolding_all rfl) : W c A (isTrue (.Compare l [op] [r] pos) env whole) h Q :=
  .mk fun _ E => wpAny_isTrue_Compare1 (hl.go fun _ _ _ hr => hr.go fun _ _ _ ho => ho.go fun _ _ t3 ht => ht.run t3 E) hm
theorem tr_bool {b : Bool} {Q : Bool → Heap → Prop} (hq : Q b h) : W c A (truthy (.bool b)) h Q := .mk fun _ _ => wpAny_truthy_bool ⟨_, _, rfl, hq⟩
theorem tr_val {e : Expr} {whole : Sem Value} {Q : Bool → Heap → Prop} (hw : W c A whole h (fun v h₁ => W c A (truthy v) h₁ Q))
    (he : isTrue e env whole = (do let v ← whole; standAt e.pos; holding [v] (truthy v)) := by rfl) : W c A (isTrue e env whole) h Q :=
  .mk fun _ E => wpAny_isTrue_value (hw.go fun _ _ t1 ht => ht.run t1 E) he
theorem tr_not {x : Expr} {pos : Pos} {whole : Sem Value} {Q : Bool → Heap → Prop} (hx : W c A (isTrue x env (eval x env)) h (fun b h₁ => Q (!b) h₁)) :
    W c A (isTrue (.UnaryOp .Not x pos) env whole) h Q :=
  .mk fun _ _ => wpAny_isTrue_Not (hx.go fun _ _ _ hq => ⟨_, _, rfl, hq⟩)
theorem tr_boolop {op : BoolOp} {vs : List Expr} {pos : Pos} {whole : Sem Value} {Q : Bool → Heap → Prop} (hx : W c A (allTrue op vs env) h Q) : W c A (isTrue (.BoolOp op vs pos) env whole) h Q :=
  .mk fun tk E => wpAny_isTrue_BoolOp (hx.run tk E)
theorem at_and_nil {Q : Bool → Heap → Prop} (hq : Q true h) : W c A (allTrue .And [] env) h Q := .mk fun _ _ => wpAny_allTrue_And_nil ⟨_, _, rfl, hq⟩
theorem at_or_nil {Q : Bool → Heap → Prop} (hq : Q false h) : W c A (allTrue .Or [] env) h Q := .mk fun _ _ => wpAny_allTrue_Or_nil ⟨_, _, rfl, hq⟩
theorem at_and {x : Expr} {rest : List Expr} {Q : Bool → Heap → Prop} (hx : W c A (isTrue x env (eval x env)) h (fun b h₁ => if b then W c A (allTrue .And rest env) h₁ Q else Q false h₁)) :
    W c A (allTrue .And (x :: rest) env) h Q :=
  .mk fun _ E => wpAny_allTrue_And_cons (hx.go fun b h₁ t1 hb => by cases b <;> simp only [Bool.false_eq_true, if_true, if_false] at hb ⊢; exact ⟨_, _, rfl, hb⟩; exact hb.run t1 E)
theorem at_or {x : Expr} {rest : List Expr} {Q : Bool → Heap → Prop} (hx : W c A (isTrue x env (eval x env)) h (fun b h₁ => if b then Q true h₁ else W c A (allTrue .Or rest env) h₁ Q)) :
    W c A (allTrue .Or (x :: rest) env) h Q :=
  .mk fun _ E => wpAny_allTrue_Or_cons (hx.go fun b h₁ t1 hb => by cases b <;> simp only [Bool.false_eq_true, if_true, if_false] at hb ⊢; exact hb.run t1 E; exact ⟨_, _, rfl, hb⟩)
theorem ev_ifexp {test body orelse : Expr} {pos : Pos} {Q : Value → Heap → Prop} (hx : W c A (isTrue test env (eval test env)) h (fun b h₁ => if b then W c A (eval body env) h₁ Q else W c A (eval orelse env) h₁ Q)) :
    W c A (eval (.IfExp test body orelse pos) env) h Q :=
  .mk fun _ E => wpAny_IfExp (hx.go fun b h₁ t1 hb => by cases b <;> simp only [Bool.false_eq_true, if_true, if_false] at hb ⊢ <;> exact hb.run t1 E)

theorem sp_nil {Q : List Value → Heap → Prop} (hq : Q [] h) : W c A (spliced []) h Q := .mk fun _ _ => Calls.spliced_nil ⟨_, _, rfl, hq⟩
theorem sp_cons {x : Sem Value} {rest : List (Bool × Sem Value)} {Q : List Value → Heap → Prop} (hx : W c A x h (fun v h₁ => W c A (spliced rest) h₁ (fun vs h₂ => Q (v :: vs) h₂))) :
    W c A (spliced ((false, x) :: rest)) h Q :=
  .mk fun _ _ => Calls.spliced_cons (hx.go fun _ _ _ hr => hr.go fun _ _ _ hq => ⟨_, _, rfl, hq⟩)

/-- a new object -/
theorem list_new (h : Heap) (vs : Array Value) : (h.push { cls := .type "list", data := .seq vs }).IsList h.objs.size vs := ⟨_, Heap.get?_push_size _ rfl, rfl, 0, rfl⟩

theorem ev_list {elts : List Expr} {pos : Pos} {Q : Value → Heap → Prop}
    (hx : W c A (spliced (backTo pos (starEach elts env))) h (fun vs h₁ => vs.length ≤ sizeLine ∧ ∀ h' a, Keep h₁ h' → h₁.get? a = none → h'.IsList a vs.toArray → Q (.ref a) h')) :
    W c A (eval (.List elts pos) env) h Q :=
  .mk fun _ _ => wpAny_List (hx.go fun _ h₁ _ hq => ⟨hq.1, _, _, rfl, hq.2 _ _ (Keep.push h₁ _) (fresh_none (Nat.le_refl _)) (list_new _ _)⟩)

theorem ev_tuple {elts : List Expr} {k : Nat} {pos : Pos} {Q : Value → Heap → Prop}
    (hx : W c A (spliced (backTo pos (starEach elts env))) h (fun vs h₁ => vs.length ≤ sizeLine ∧ ∀ h' a, Keep h₁ h' → h₁.get? a = none → h'.IsTuple a vs.toArray → Q (.ref a) h')) :
    W c A (eval (.Tuple elts k pos) env) h Q :=
  .mk fun _ _ => wpAny_Tuple (hx.go fun vs h₁ _ hq => ⟨hq.1, _, _, rfl, hq.2 _ _ (Keep.push h₁ _) (fresh_none (Nat.le_refl _)) ⟨_, Heap.get?_push_size _ rfl, rfl, 0, rfl⟩⟩)

theorem ev_sub {value slice : Expr} {pos : Pos} {Q : Value → Heap → Prop} (hx : W c A (eval value env) h (fun o h₁ => W c A (eval slice env) h₁ (fun i h₂ => W c A (subscriptTail value slice o i) h₂ Q))) :
    W c A (eval (.Subscript value slice pos) env) h Q :=
  .mk fun _ E => Subscript_ (hx.go fun _ _ _ h1 => h1.go fun _ _ t2 h2 => h2.run t2 E)

theorem sub_list {value slice : Expr} {l : Addr} {vs : Array Value} {k : Int} {t : Tok} {v : Value} {Q : Value → Heap → Prop} (hl : h.IsList l vs) (h0 : 0 ≤ k) (hhi : k < 2 ^ 63) (hx : vs[k.toNat]? = some v) (hq : Q v h)
    (hs : subscripted slice false (.ref l) (.int k t) = operate [.ref l, .int k t] (getItem (.ref l) (.int k t)) := by with_unfolding_all rfl) : W c A (subscriptTail value slice (.ref l) (.int k t)) h Q :=
  .mk fun _ _ => tail_any (T := "list") hl.typeIs slot_list_getitem.lookup (wpAny_getItem_list hl h0 hhi hx ⟨_, _, rfl, hq⟩) hs
theorem sub_list_neg {value slice : Expr} {l : Addr} {vs : Array Value} {k : Int} {t : Tok} {v : Value} {Q : Value → Heap → Prop} (hl : h.IsList l vs) (h0 : k < 0) (h1 : -(vs.size : Int) ≤ k) (hf : -(2 ^ 63) ≤ k)
    (hx : vs[(k + vs.size).toNat]? = some v) (hq : Q v h)
    (hs : subscripted slice false (.ref l) (.int k t) = operate [.ref l, .int k t] (getItem (.ref l) (.int k t)) := by with_unfolding_all rfl) : W c A (subscriptTail value slice (.ref l) (.int k t)) h Q :=
  .mk fun _ _ => tail_any (T := "list") hl.typeIs slot_list_getitem.lookup (wpAny_getItem_list_neg hl h0 h1 hf hx ⟨_, _, rfl, hq⟩) hs

/-! ops -/
variable {a b : Int} {t u : Tok} {Q : Value → Heap → Prop} {x y : UInt64} {p q : Str}
theorem op_add (hq : ∀ t', Q (.int (a + b) t') h) : W c A (binaryOp .Add (.int a t) (.int b u)) h Q := .mk fun _ _ => add_int ⟨_, _, rfl, hq _⟩
theorem op_sub (hq : ∀ t', Q (.int (a - b) t') h) : W c A (binaryOp .Sub (.int a t) (.int b u)) h Q := .mk fun _ _ => sub_int' ⟨_, _, rfl, hq _⟩
theorem op_mul (hm : IntMulOk a b) (hq : ∀ t', Q (.int (a * b) t') h) : W c A (binaryOp .Mult (.int a t) (.int b u)) h Q := .mk fun _ _ => PyProof.Rows.mul_int ⟨_, _, rfl, hq _⟩ hm
theorem op_mod (hb : b ≠ 0) (hq : ∀ t', Q (.int (a.fmod b) t') h) : W c A (binaryOp .Mod (.int a t) (.int b u)) h Q := .mk fun _ _ => mod_int' hb ⟨_, _, rfl, hq _⟩
theorem op_pow (hn : 0 ≤ b) (hsz : (Builtin.Int.intBits a : Int) * b ≤ 2 ^ 27) (hq : ∀ t', Q (.int (a ^ b.toNat) t') h) : W c A (binaryOp .Pow (.int a t) (.int b u)) h Q := .mk fun _ _ => pow_int hn hsz ⟨_, _, rfl, hq _⟩
theorem op_addf (hq : ∀ t', Q (.float (Float64.add x y) t') h) : W c A (binaryOp .Add (.float x t) (.float y u)) h Q := .mk fun _ _ => add_float ⟨_, _, rfl, hq _⟩
theorem op_subf (hq : ∀ t', Q (.float (Float64.sub x y) t') h) : W c A (binaryOp .Sub (.float x t) (.float y u)) h Q := .mk fun _ _ => sub_float ⟨_, _, rfl, hq _⟩
theorem op_mulf (hq : ∀ t', Q (.float (Float64.mul x y) t') h) : W c A (binaryOp .Mult (.float x t) (.float y u)) h Q := .mk fun _ _ => mul_float ⟨_, _, rfl, hq _⟩
theorem op_divf (hz : ¬ Float64.isZero y = true) (hq : ∀ t', t' ≠ 0 → Q (.float (Float64.div x y) t') h) : W c A (binaryOp .Div (.float x t) (.float y u)) h Q := .mk fun _ _ => AutoFloatOps.truediv_1 hz (show _ from ⟨_, _, rfl, hq _ (Nat.succ_ne_zero _)⟩)
theorem op_modf (hz : ¬ Float64.isZero y = true) (hq : ∀ t', t' ≠ 0 → Q (.float (Float64.divmod x y).snd t') h) : W c A (binaryOp .Mod (.float x t) (.float y u)) h Q := .mk fun _ _ => AutoFloatOps.mod_1 hz (show _ from ⟨_, _, rfl, hq _ (Nat.succ_ne_zero _)⟩)
theorem op_div (hb : b ≠ 0) (hi : ¬Float64.isInf (Float64.ofFrac (decide (a < 0) != decide (b < 0)) a.natAbs b.natAbs) = true) (hq : ∀ t', t' ≠ 0 → Q (.float (Float64.ofFrac (decide (a < 0) != decide (b < 0)) a.natAbs b.natAbs) t') h) :
    W c A (binaryOp .Div (.int a t) (.int b u)) h Q := .mk fun _ _ => AutoIntOps.truediv_2 (by simpa using hb) hi (show _ from ⟨_, _, rfl, hq _ (Nat.succ_ne_zero _)⟩)
theorem op_mulif (hf : a.natAbs < 2 ^ 1023) (hq : ∀ t', Q (.float (Float64.mul (Float64.ofInt a) x) t') h) : W c A (binaryOp .Mult (.int a t) (.float x u)) h Q := .mk fun _ _ => mul_if_fits hf ⟨_, _, rfl, hq _⟩
theorem op_subfi (hf : a.natAbs < 2 ^ 1023) (hq : ∀ t', Q (.float (Float64.sub x (Float64.ofInt a)) t') h) : W c A (binaryOp .Sub (.float x t) (.int a u)) h Q := .mk fun _ _ => sub_fi_fits hf ⟨_, _, rfl, hq _⟩
theorem op_subif (hf : a.natAbs < 2 ^ 1023) (hq : ∀ t', Q (.float (Float64.sub (Float64.ofInt a) x) t') h) : W c A (binaryOp .Sub (.int a t) (.float x u)) h Q := .mk fun _ _ => sub_if_fits hf ⟨_, _, rfl, hq _⟩
theorem op_adds (hsz : p.length + q.length ≤ sizeLine) (hq : ∀ t', Q (.str (p ++ q) t') h) : W c A (binaryOp .Add (.str p t) (.str q u)) h Q := .mk fun _ _ => SB.add (fun t' _ => ⟨_, _, rfl, hq t'⟩) hsz
theorem cm_eqs (hq : Q (.bool (p.cps.toList == q.cps.toList)) h) : W c A (compareOp .Eq (.str p t) (.str q u)) h Q := .mk fun _ _ => P.eq_str ⟨_, _, rfl, hq⟩
theorem cm_nes (hq : Q (.bool (p.cps.toList != q.cps.toList)) h) : W c A (compareOp .NotEq (.str p t) (.str q u)) h Q := .mk fun _ _ => P.ne_str ⟨_, _, rfl, hq⟩
theorem cm_eqf (hq : Q (.bool (Float64.cmp x y == some Ordering.eq)) h) : W c A (compareOp .Eq (.float x t) (.float y u)) h Q := .mk fun _ _ => AutoFloatOps.eq_0 ⟨_, _, rfl, hq⟩
theorem cm_nef (hq : Q (.bool (Float64.cmp x y != some Ordering.eq)) h) : W c A (compareOp .NotEq (.float x t) (.float y u)) h Q := .mk fun _ _ => AutoFloatOps.ne_0 ⟨_, _, rfl, hq⟩
theorem cm_lef (hq : Q (.bool (Float64.cmp x y == some Ordering.lt || Float64.cmp x y == some Ordering.eq)) h) : W c A (compareOp .LtE (.float x t) (.float y u)) h Q := .mk fun _ _ => AutoFloatOps.le_0 ⟨_, _, rfl, hq⟩
theorem cm_ge (hq : Q (.bool (decide (a ≥ b))) h) : W c A (compareOp .GtE (.int a t) (.int b u)) h Q := .mk fun _ _ => PyProof.Rows.ge_int ⟨_, _, rfl, hq⟩
end

open PySem PySem.W PyProof.Rows
theorem Keep.pl {h h' : Heap} (k : Keep h h') {a : Addr} {vs : Array Value} (x : h.PlainList a vs) : h'.PlainList a vs := x.at fun o e => k _ o e
theorem KeepH.pl {h h' : Heap} (k : KeepH h h') {a : Addr} {vs : Array Value} (x : h.PlainList a vs) : h'.PlainList a vs :=
  x.at fun o e => by
    obtain ⟨n, e'⟩ := x
    rw [e'] at e; cases e
    exact k _ _ ⟨fun _ _ => by simp, fun _ => by simp⟩ e'
theorem pl_new (h : Heap) (vs : Array Value) : (h.push { cls := .type "list", data := .seq vs }).PlainList h.objs.size vs := ⟨0, Heap.get?_push_size _ rfl⟩

section
variable {c : Cx} {A : Around} {h hb : Heap} {env : Env}

/-! statements -/
theorem ex_nil {Q : Flow → Heap → Prop} (hq : Q .next h) : W c A (execs [] env) h Q := .mk fun _ _ => wpAny_execs_nil ⟨_, _, rfl, hq⟩
theorem ex_cons {st : Stmt} {rest : List Stmt} {Q : Flow → Heap → Prop} (hx : W c A (exec st env) h (fun f h' => match f with | .next => W c A (execs rest env) h' Q | f => Q f h')) : W c A (execs (st :: rest) env) h Q :=
  .mk fun _ E => wpAny_execs_cons (hx.go fun f h' t' hf => by cases f <;> first | exact hf.run t' E | exact ⟨_, _, rfl, hf⟩)
theorem ex_if {test : Expr} {body orelse : List Stmt} {pos : Pos} {Q : Flow → Heap → Prop}
    (hx : W c A (isTrue test env (eval test env)) h (fun b h₁ => if b then W c A (execs body env) h₁ Q else W c A (execs orelse env) h₁ Q)) : W c A (exec (.If test body orelse pos) env) h Q :=
  .mk fun _ E => wpAny_If (hx.go fun b h₁ t1 hb => by cases b <;> simp only [Bool.false_eq_true, if_true, if_false] at hb ⊢ <;> exact hb.run t1 E)
theorem ex_ret {e : Expr} {pos : Pos} {Q : Flow → Heap → Prop} (hx : W c A (eval e env) h (fun v h' => Q (.ret v) h')) : W c A (exec (.Return (some e) pos) env) h Q :=
  .mk fun _ _ => wpAny_Return_some (hx.go fun _ _ _ hq => ⟨_, _, rfl, hq⟩)
theorem ex_set {x : Str} {value : Expr} {pos' pos : Pos} {Q : Flow → Heap → Prop} (hx : W c A (eval value env) h (fun v h₁ => W c A (storeName env x v) h₁ (fun _ h₂ => Q .next h₂)))
    (hs : swapsWith value (some (.Name x pos')) pos.line env = pure false := by rfl) : W c A (exec (.Assign [.Name x pos'] value pos) env) h Q :=
  .mk fun _ _ => wpAny_Assign_Name (hx.go fun _ _ _ h1 => W.go h1 fun _ _ _ hq => ⟨_, _, rfl, hq⟩) hs

/-! calls -/
theorem ev_call {func : Expr} {args : List Expr} {pos : Pos} {Q : Value → Heap → Prop} (hx : W c A (eval func env) h (fun f h₁ => W c A (callWith pos f [] (backTo pos (starEach args env)) []) h₁ Q))
    (he : eval (.Call func args [] pos) env = (do callWith pos (← eval func env) [] (backTo pos (starEach args env)) (backToKw pos (keywordEach [] env))) := by rfl) :
    W c A (eval (.Call func args [] pos) env) h Q := .mk fun _ E => Call_ (hx.go fun _ _ t1 h1 => h1.run t1 E) he
theorem ar_nil {pos : Pos} {Q : List Value → Heap → Prop} (hq : Q [] h) : W c A (spliced (backTo pos (starEach [] env))) h Q := .mk fun _ _ => args_nil ⟨_, _, rfl, hq⟩
theorem ar_cons {e : Expr} {rest : List Expr} {pos : Pos} {Q : List Value → Heap → Prop} (hx : W c A (eval e env) h (fun v h₁ => W c A (spliced (backTo pos (starEach rest env))) h₁ (fun vs h₂ => Q (v :: vs) h₂)))
    (he : starEach (e :: rest) env = (false, eval e env) :: starEach rest env := by rfl) : W c A (spliced (backTo pos (starEach (e :: rest) env))) h Q :=
  .mk fun _ _ => args_cons (hx.go fun _ _ _ h1 => h1.go fun _ _ _ hq => ⟨_, _, rfl, hq⟩) he
theorem cw_fn {pos : Pos} {f : Addr} {o : Obj} {fd : FuncData} {e : Expr} {rest : List Expr} {Q : Value → Heap → Prop} (hdat : o.data = .func fd)
    (hx : W c A (spliced (backTo pos (starEach (e :: rest) env))) h (fun vs h₁ => h₁.get? f = some o ∧ W c A (call (.ref f) vs) h₁ Q))
    (he : starEach (e :: rest) env = (false, eval e env) :: starEach rest env := by rfl) : W c A (callWith pos (.ref f) [] (backTo pos (starEach (e :: rest) env)) []) h Q :=
  .mk fun _ E => callWith_def hdat (hx.go fun _ _ t1 h1 => ⟨h1.1, h1.2.run t1 E⟩) he
theorem cw_bi {pos : Pos} {id : String} {first : List Value} {e : Expr} {rest : List Expr} {Q : Value → Heap → Prop}
    (hx : W c A (spliced (backTo pos (starEach (e :: rest) env))) h (fun vs h₁ => W c A (call (.builtin id) (first ++ vs)) h₁ Q))
    (he : starEach (e :: rest) env = (false, eval e env) :: starEach rest env := by rfl) (hplain : (backTo pos (starEach rest env)).any (·.1) = false := by rfl) :
    W c A (callWith pos (.builtin id) first (backTo pos (starEach (e :: rest) env)) []) h Q :=
  .mk fun _ E => callWith_method1 (hx.go fun _ _ t1 h1 => h1.run t1 E) he hplain
theorem cw_bi0 {pos : Pos} {id : String} {first : List Value} {Q : Value → Heap → Prop} (hx : W c A (call (.builtin id) first) h Q) :
    W c A (callWith pos (.builtin id) first (backTo pos (starEach [] env)) []) h Q := .mk fun tk E => callWith_method0 (hx.run tk E)
theorem cw_ty {pos : Pos} {T : String} {e : Expr} {rest : List Expr} {Q : Value → Heap → Prop}
    (hx : W c A (spliced (backTo pos (starEach (e :: rest) env))) h (fun vs h₁ => W c A (call (.type T) vs) h₁ Q))
    (he : starEach (e :: rest) env = (false, eval e env) :: starEach rest env := by rfl) (hplain : (backTo pos (starEach rest env)).any (·.1) = false := by rfl) :
    W c A (callWith pos (.type T) [] (backTo pos (starEach (e :: rest) env)) []) h Q :=
  .mk fun _ E => PyProof.Rows.callWith_type1 (hx.go fun _ _ t1 h1 => h1.run t1 E) he hplain

/-- a method of a built-in type -/
theorem ev_meth {o : Expr} {name : Str} {apos pos : Pos} {args : List Expr} {pl : Sem Bool} {Q : Value → Heap → Prop}
    (hx : W c A (eval o env) h (fun ov h₁ => W c A (getMethod ov name pl) h₁ (fun fx h₂ => W c A (callWith pos fx.1 fx.2 (backTo pos (starEach args env)) []) h₂ Q)))
    (he : eval (.Call (.Attribute o name apos) args [] pos) env = (do
      let ov ← eval o env
      standAt apos.atName
      let (f, first) ← holding [ov] (getMethod ov name pl)
      callWith pos f first (backTo pos (starEach args env)) []) := by rfl) : W c A (eval (.Call (.Attribute o name apos) args [] pos) env) h Q :=
  .mk fun _ E => MethodCall_ (pl := pl) (hx.go fun _ _ _ h1 => h1.go fun _ _ t2 h2 => h2.run t2 E) he
theorem gm_str {x : Str} {t : Tok} {name : Str} {id : String} {pl : Sem Bool} {Q : Value × List Value → Heap → Prop} (slot : Slot "str" name id) (hty : typeOf (.builtin id) = pure (.type "method_descriptor"))
    (hq : Q (.builtin id, [.str x t]) h) : W c A (getMethod (.str x t) name pl) h Q :=
  .mk fun _ _ => getMethod_builtin (typeIs_str _ _ _) F.plainAttrs_str slot hty (fun _ e => nomatch e) ⟨_, _, rfl, hq⟩
theorem gm_list {l : Addr} {vs : Array Value} {name : Str} {id : String} {pl : Sem Bool} {Q : Value × List Value → Heap → Prop} (hl : h.PlainList l vs) (slot : Slot "list" name id) (hty : typeOf (.builtin id) = pure (.type "method_descriptor"))
    (hq : Q (.builtin id, [.ref l]) h) : W c A (getMethod (.ref l) name pl) h Q :=
  .mk fun _ _ => getMethod_builtin (T := "list") hl.isList.typeIs F.plainAttrs_list slot hty (fun a e => by cases e; exact let ⟨n, e'⟩ := hl; ⟨_, e', rfl⟩) ⟨_, _, rfl, hq⟩

/-- room for n more frames -/
structure Room (n : Nat) (A : Around) : Prop where
  hand : A.handled = none
  depth : A.depth + n < recursionLimit
  units : A.units + 20 * n < cLine
theorem Room.deeper {n : Nat} {A : Around} (r : Room (n + 1) A) (env : Env) : Room n (A.deeper env) :=
  ⟨r.hand, by have := r.depth; show A.depth + 1 + n < _; omega, by have := r.units; show A.units + 3 + 20 * n < _; omega⟩
theorem Room.less {n m : Nat} {A : Around} (r : Room n A) (hm : m ≤ n) : Room m A := ⟨r.hand, by have := r.depth; omega, by have := r.units; omega⟩
theorem Room.in1 {n : Nat} {A : Around} (r : Room (n + 1) A) : Room n A.in1 := ⟨r.hand, by have := r.depth; show A.depth + n < _; omega, by have := r.units; show A.units + 1 + 20 * n < _; omega⟩

/-- the def of the text -/
def FnIs (h : Heap) (a : Addr) (nm : Str) (params : Arguments) (body : List Stmt) (scope : Scope) : Prop :=
  ∃ o pm cd doc, h.get? a = some o ∧ o.data = .func (Calls.docDef nm params body scope pm cd doc) ∧ h.CodeRec cd nm
theorem Keep.fn {h h' : Heap} (k : Keep h h') {a nm params body scope} (x : FnIs h a nm params body scope) : FnIs h' a nm params body scope :=
  let ⟨o, pm, cd, doc, e, d, r⟩ := x; ⟨o, pm, cd, doc, k _ _ e, d, r.keeps k⟩

theorem fn_call {n : Nat} {a : Addr} {nm : Str} {params : Arguments} {body : List Stmt} {scope : Scope} {args : List Value} {binds : List (Str × Value)} {Q : Value → Heap → Prop}
    (hf : FnIs h a nm params body scope) (hlim : h.NoLimit) (R : Room (n + 1) A)
    (hbind : ∀ pm cd doc, bindArgs (Calls.docDef nm params body scope pm cd doc) ⟨args, []⟩ = pure binds)
    (hloc : ∀ x ∈ binds, scope.names.lookup x.1 = some .local)
    (hbody : ∀ A' env h₁, Room n A' → Frm h env h₁ → (∀ x, env.kindOf x = scope.names.lookup x) → h₁.Ns env.locals (fun x => binds.reverse.lookup x) →
      W c A' (execs body env) h₁ (fun f h' => Q (match f with | .ret v => v | _ => .none) h'))
    (hcell : ∀ x ∈ scope.names, x.2 ≠ .cell) (hco : scope.isCoroutine = false := by rfl) (hgen : scope.isGenerator = false := by rfl) (hk : scope.kind = .function := by rfl) :
    W c A (call (.ref a) args) h Q := by
  obtain ⟨o, pm, cd, doc, ho, hd, hcd⟩ := hf
  refine .mk fun tk E => ?_
  refine wpAny_call (call_plain_ret (by have := R.depth; omega) ho hd hlim hcd (hbind pm cd doc) hloc (fun h₁ F => ?_) hco hgen hk hcell)
  have et : tk + 1 + binds.length = (tk + binds.length) + 1 := by omega
  show wpAny _ _ _ _ _ ⟨h₁, c.g, c.d, tk + 1 + binds.length, c.os⟩
  rw [et]
  refine W.go (hbody _ _ h₁ (R.deeper _) ⟨hk, rfl, rfl, F.keep, ⟨_, F.ns⟩, fun x k e => (by cases e), fun x y k e => (by cases e), fresh_none (Nat.le_refl _), fun x k e => (by cases e)⟩ (fun _ => rfl) F.ns) fun f h' t' hq => ⟨_, _, rfl, hq⟩

theorem var_of_ns {env : Env} {h : Heap} {m : Str → Option Value} {x : Str} {v : Value} (hk : env.kindOf x = some .local) (hn : h.Ns env.locals m) (hv : m x = some v) : Var env h x v := .inl ⟨hk, m, hn, hv⟩

/-! slices -/
theorem ev_slo {e : Expr} {p : Pos} {Q : Value → Heap → Prop} (hx : W c A (eval e env) h (fun v h₁ => ∃ i t, v = .int i t ∧ ∀ h' a, Keep h₁ h' → h'.IsSlice a (some (i, t)) none none → Q (.ref a) h')) :
    W c A (eval (.Slice (some e) none none p) env) h Q := by
  refine .mk fun tk E => ?_
  refine wpAny_Slice ?_
  rw [evalPart_some, evalPart_none]
  refine hx.go fun v h₁ t1 h1 => ?_
  obtain ⟨i, t, rfl, hq⟩ := h1
  exact wpAny_pure (wpAny_pure ⟨_, _, rfl, hq _ _ (Keep.push h₁ _) ⟨_, Heap.get?_push_size _ rfl, rfl, rfl⟩⟩)
theorem ev_sup {e : Expr} {p : Pos} {Q : Value → Heap → Prop} (hx : W c A (eval e env) h (fun v h₁ => ∃ i t, v = .int i t ∧ ∀ h' a, Keep h₁ h' → h'.IsSlice a none (some (i, t)) none → Q (.ref a) h')) :
    W c A (eval (.Slice none (some e) none p) env) h Q := by
  refine .mk fun tk E => ?_
  refine wpAny_Slice ?_
  rw [evalPart_some, evalPart_none]
  refine wpAny_pure (hx.go fun v h₁ t1 h1 => ?_)
  obtain ⟨i, t, rfl, hq⟩ := h1
  exact wpAny_pure ⟨_, _, rfl, hq _ _ (Keep.push h₁ _) ⟨_, Heap.get?_push_size _ rfl, rfl, rfl⟩⟩
theorem Keep.slice {h h' : Heap} (k : Keep h h') {a l u s} (x : h.IsSlice a l u s) : h'.IsSlice a l u s := let ⟨o, e, r⟩ := x; ⟨o, k _ _ e, r⟩
theorem sub_strs {value slice : Expr} {x : Str} {t : Tok} {a : Addr} {l u : Option (Int × Tok)} {Q : Value → Heap → Prop} (hs : h.IsSlice a l u none) (hsz : x.length ≤ sizeLine)
    (hq : ∀ t', Q (.str (Txt.slice x (l.map (·.1)) (u.map (·.1))) t') h)
    (hsub : subscripted slice false (.str x t) (.ref a) = operate [.ref a, .str x t] (getItem (.str x t) (.ref a)) := by with_unfolding_all rfl) : W c A (subscriptTail value slice (.str x t) (.ref a)) h Q :=
  .mk fun _ _ => tail_any (T := "str") (typeIs_str _ _ _) F.slot_str_getitem.lookup (wpAny_getItem_str_slice hs rfl
    (post_val_or_str ⟨Nat.le_trans (Txt.slice_le x _ _) hsz, fun t' _ => ⟨_, _, rfl, hq t'⟩⟩)) hsub
theorem sub_lists {value slice : Expr} {b : Addr} {vs : Array Value} {a : Addr} {l u : Option (Int × Tok)} {Q : Value → Heap → Prop} (hl : h.IsList b vs) (hs : h.IsSlice a l u none) (hsz : vs.size ≤ sizeLine)
    (hq : ∀ h' d, Keep h h' → h.get? d = none → h'.PlainList d (slicePick vs (l.map (·.1)) (u.map (·.1)) none) → Q (.ref d) h')
    (hsub : subscripted slice false (.ref b) (.ref a) = operate [.ref a, .ref b] (getItem (.ref b) (.ref a)) := by with_unfolding_all rfl) : W c A (subscriptTail value slice (.ref b) (.ref a)) h Q := by
  refine .mk fun _ _ => ?_
  have hp : ∀ p : Option (Int × Tok), IsPart (partValue p) (p.map (·.1)) := fun p => by cases p with
    | none => exact .none
    | some q => exact .int _ _
  obtain ⟨os, hos, hcs, hds⟩ := hs
  exact tail_any (T := "list") hl.typeIs slot_list_getitem.lookup (wpAny_getItem_list_slice (vl := partValue l) (vu := partValue u) (vs := .none) (st := none) hl ⟨os, hos, hcs, hds⟩ (hp l) (hp u) .none (by simp)
    ⟨_, _, rfl, hq _ _ (Keep.push _ _) (fresh_none (Nat.le_refl _)) (pl_new _ _)⟩ hsz) hsub
theorem sub_str {value slice : Expr} {x : Str} {t : Tok} {i : Int} {u : Tok} {k : Nat} {Q : Value → Heap → Prop} (hr : (decide (i < -(2 ^ 63 : Int)) || decide (i ≥ 2 ^ 63)) = false)
    (hc : (seqIndex? i x.length).bind (x.cps[·]?) = some k) (hq : ∀ t', Q (.str ⟨#[k]⟩ t') h)
    (hsub : subscripted slice false (.str x t) (.int i u) = operate [.str x t, .int i u] (getItem (.str x t) (.int i u)) := by with_unfolding_all rfl) : W c A (subscriptTail value slice (.str x t) (.int i u)) h Q :=
  .mk fun _ _ => tail_any (T := "str") (typeIs_str _ _ _) F.slot_str_getitem.lookup (P.getItem_str hr hc ⟨_, _, rfl, hq _⟩) hsub

/-! methods of str -/
variable {x y : Str} {t u : Tok} {Q : Value → Heap → Prop}
theorem ca_find (hq : ∀ t', Q (.int (Txt.find x y) t') h) : W c A (call (.builtin "str.find") [.str x t, .str y u]) h Q := .mk fun _ _ => SC.find ⟨_, _, rfl, hq _⟩
theorem ca_starts (hq : Q (.bool (Txt.startswith x y)) h) : W c A (call (.builtin "str.startswith") [.str x t, .str y u]) h Q := .mk fun _ _ => SC.startswith ⟨_, _, rfl, hq⟩
theorem ca_ends (hq : Q (.bool (Txt.endswith x y)) h) : W c A (call (.builtin "str.endswith") [.str x t, .str y u]) h Q := .mk fun _ _ => SC.endswith ⟨_, _, rfl, hq⟩
theorem ca_lower (hf : x.length ≤ 5592405) (hq : ∀ t', Q (.str (Txt.lower x) t') h) : W c A (call (.builtin "str.lower") [.str x t]) h Q := .mk fun _ _ => SCL.lower hf fun _ => ⟨_, _, rfl, hq _⟩
theorem ca_upper (hf : x.length ≤ 5592405) (hq : ∀ t', Q (.str (Txt.upper x) t') h) : W c A (call (.builtin "str.upper") [.str x t]) h Q := .mk fun _ _ => SCL.upper hf fun _ => ⟨_, _, rfl, hq _⟩
end

open PySem PySem.W PyProof.Rows
def reCode : Array Nat := #[14, 8, 1, 2, 4294967295, 1, 1, 46, 0, 16, 46, 24, 9, 1, 4294967295, 13, 4, 8, 0, 0, 1, 6, 5, 1]
def reM (x : Str) : Sre.M := Sre.forSearch reCode x.cps 0 0 x.cps.size false
/-- does the pattern stand in it -/
def reHit (x : Str) : Option Bool := match ((reM x).runFor 400).outcome with
  | some .matched => some true
  | some .failed => some false
  | _ => none

theorem runFor_succ (m : Sre.M) (n : Nat) : m.runFor (n + 1) = if m.outcome.isSome = true then m else m.step.runFor n := rfl
theorem runFor_done {m : Sre.M} (hm : m.outcome.isSome = true) (n : Nat) : m.runFor n = m := by
  cases n with
  | zero => rfl
  | succ n => rw [runFor_succ, if_pos hm]
theorem runFor_add (b a : Nat) (m : Sre.M) : m.runFor (a + b) = (m.runFor a).runFor b := by
  induction a generalizing m with
  | zero => rw [Nat.zero_add]; rfl
  | succ a ih =>
    rw [show a + 1 + b = (a + b) + 1 by omega, runFor_succ, runFor_succ]
    by_cases hm : m.outcome.isSome = true
    · rw [if_pos hm, if_pos hm, runFor_done hm]
    · rw [if_neg hm, if_neg hm, ih]
theorem reDrive_succ (k : Nat) (m : Sre.M) : Builtin.Re.reDrive (k + 1) m = if (m.runFor 4).outcome.isSome = true then pure (m.runFor 4) else (do rule "sre.turn"; Builtin.Re.reDrive k (m.runFor 4)) := rfl

section
variable {c : Cx} {A : Around} {h : Heap}
theorem W.rule {tag : String} {Q : Unit → Heap → Prop} (hq : Q () h) : W c A (rule tag) h Q := .mk fun _ _ => wpAny_rule ⟨_, _, rfl, hq⟩

theorem re_drive {Q : Sre.M → Heap → Prop} (n k : Nat) (m : Sre.M) (hk : n < k) (ho : (m.runFor (4 * n)).outcome.isSome = true) (hq : Q (m.runFor (4 * n)) h) : W c A (Builtin.Re.reDrive k m) h Q := by
  induction n generalizing k m with
  | zero =>
    obtain ⟨k, rfl⟩ : ∃ j, k = j + 1 := ⟨k - 1, by omega⟩
    have ho' : m.outcome.isSome = true := ho
    have hq' : Q m h := hq
    rw [reDrive_succ, runFor_done ho', if_pos ho']
    exact W.pure hq'
  | succ n ih =>
    obtain ⟨k, rfl⟩ : ∃ j, k = j + 1 := ⟨k - 1, by omega⟩
    rw [show 4 * (n + 1) = 4 + 4 * n by omega, runFor_add] at ho hq
    rw [reDrive_succ]
    by_cases hm : (m.runFor 4).outcome.isSome = true
    · rw [runFor_done hm] at hq
      rw [if_pos hm]
      exact W.pure hq
    · rw [if_neg hm]
      exact W.bind (W.rule (ih k _ (by omega) ho hq))

theorem forIn_rules {Q : PUnit → Heap → Prop} (f : Nat → PUnit → Sem (ForInStep PUnit)) (hf : ∀ i u (Q : ForInStep PUnit → Heap → Prop), Q (.yield ⟨⟩) h → W c A (f i u) h Q) :
    ∀ (l : List Nat), Q ⟨⟩ h → W c A (forIn l PUnit.unit f) h Q
  | [], hq => by rw [List.forIn_nil]; exact W.pure hq
  | i :: l, hq => by
    rw [List.forIn_cons]
    refine W.bind (hf i _ _ ?_)
    exact forIn_rules f hf l hq

theorem re_end {x : Str} {b : Bool} {Q : Option Sre.M → Heap → Prop} (hx : reHit x = some b) (hq : ∀ r, r.isSome = b → Q r h) : W c A (Builtin.Re.reRunToEnd (reM x)) h Q := by
  unfold Builtin.Re.reRunToEnd
  refine W.bind (re_drive 100 (2 ^ 64) _ (by decide) ?_ ?_)
  · show ((reM x).runFor 400).outcome.isSome = true
    unfold reHit at hx
    split at hx <;> simp_all
  · show W c A (do
      for i in List.range Sre.names.size do
        if ((reM x).runFor 400).seen.has i then rule (Sre.names.getD i "")
      match ((reM x).runFor 400).outcome with
      | some .matched => pure (some ((reM x).runFor 400))
      | some .failed => pure none
      | some (.stuck why) => unsupported s!"_sre:{why}"
      | none => unsupported "internal:sre:no-outcome") h Q
    unfold reHit at hx
    generalize (reM x).runFor 400 = m at hx ⊢
    refine W.bind (forIn_rules _ (fun i u Q' hQ' => ?_) _ ?_)
    · by_cases hs : m.seen.has i = true
      · rw [if_pos hs]; exact W.bind (W.rule (W.pure hQ'))
      · rw [if_neg hs]; exact W.pure hQ'
    · split at hx
      · rename_i e; rw [e]; cases hx; exact W.pure (hq _ rfl)
      · rename_i e; rw [e]; cases hx; exact W.pure (hq _ rfl)
      · cases hx
end

open PySem PySem.W PyProof.Rows
open Builtin.Re

theorem slot_search : Slot "re.Pattern" "search" "re.Pattern.search" :=
  .of (owner := "re.Pattern") (n := "search") (by rw [typeLookup_type, builtinLookup_eq_fast]; kernel_rfl) (by decide +kernel) (by decide +kernel) (by decide +kernel)
    (by first | exact .inl (by decide +kernel) | exact .inr (by decide +kernel)) (by rw [isSubtype_type]; kernel_rfl)
theorem type_search : typeOf (.builtin "re.Pattern.search") = pure (.type "method_descriptor") := by show builtinType _ = _; rw [builtinType_eq_fast]; kernel_rfl
theorem entry_search : entryFor table "re.Pattern.search" = some Builtin.«re.Pattern.search» := entryFor_of_tree (by kernel_rfl)
theorem args_search (a b : Value) : argsOk "re.Pattern.search" ⟨[a, b], []⟩ := by unfold argsOk; kernel_rfl
theorem plainAttrs_pattern : PlainAttrs "re.Pattern" :=
  ⟨⟨"object.__getattribute__", by rw [typeLookup_type, builtinLookup_eq_fast]; kernel_rfl, by decide +kernel⟩, by rw [typeLookup_type, builtinLookup_eq_fast]; kernel_rfl⟩
theorem match_bool : typeLookup (.type "re.Match") "__bool__" = pure none := by rw [typeLookup_type, builtinLookup_eq_fast]; kernel_rfl
theorem match_len : typeLookup (.type "re.Match") "__len__" = pure none := by rw [typeLookup_type, builtinLookup_eq_fast]; kernel_rfl

/-- the compiled pattern -/
def PatIs (h : Heap) (a : Addr) : Prop := ∃ o vs tp ot its n, h.get? a = some o ∧ o.cls = .type "re.Pattern" ∧ o.dict = none ∧ o.data = .fields vs ∧ reRawNat (vs.getD 2 .none) = 0 ∧ reRawNat (vs.getD 6 .none) = 0 ∧
  vs.getD 5 .none = .ref tp ∧ h.get? tp = some ot ∧ ot.data = .seq its n ∧ (its.map reRawOf).map (·.toNat) = reCode
theorem Keep.pat {h h' : Heap} (k : Keep h h') {a : Addr} (x : PatIs h a) : PatIs h' a := by
  obtain ⟨o, vs, tp, ot, its, n, a1, a2, a3, a4, a5, a6, a7, a8, a9, a10⟩ := x
  exact ⟨o, vs, tp, ot, its, n, k _ _ a1, a2, a3, a4, a5, a6, a7, k _ _ a8, a9, a10⟩

section
variable {c : Cx} {A : Around} {h : Heap}

theorem gm_pat {a : Addr} {pl : Sem Bool} {Q : Value × List Value → Heap → Prop} (hp : PatIs h a) (hq : Q (.builtin "re.Pattern.search", [.ref a]) h) : W c A (getMethod (.ref a) "search" pl) h Q := by
  obtain ⟨o, vs, tp, ot, its, n, a1, a2, a3, _⟩ := hp
  exact .mk fun _ _ => getMethod_builtin (T := "re.Pattern") ⟨o, a1, a2⟩ plainAttrs_pattern slot_search type_search (fun b e => by cases e; exact ⟨o, a1, a3⟩) ⟨_, _, rfl, hq⟩

theorem ca_search {a : Addr} {x : Str} {t : Tok} {b : Bool} {Q : Value → Heap → Prop} (hp : PatIs h a) (hx : reHit x = some b) (hlen : x.cps.size ≤ 1000) (h0 : b = false → Q .none h)
    (h1 : b = true → ∀ h' r, Keep h h' → (∃ o, h'.get? r = some o ∧ o.cls = .type "re.Match") → Q (.ref r) h') : W c A (call (.builtin "re.Pattern.search") [.ref a, .str x t]) h Q := by
  obtain ⟨o, vs, tp, ot, its, n, a1, a2, a3, a4, a5, a6, a7, a8, a9, a10⟩ := hp
  refine .mk fun tk E => ?_
  refine wpAny_call_entry slot_search ⟨o, a1, a2⟩ entry_search ?_ (args_search _ _)
  unfold Builtin.«re.Pattern.search»
  refine wpAny_bind ?_
  unfold reTarget
  refine wpAny_bind (wpAny_of_eq (show reNamed "re.Pattern.search" "search" ["string", "pos", "endpos"] 1 [.str x t] [] = pure [some (.str x t), none, none] from by rfl) ?_)
  refine wpAny_bind (wpAny_pure (wpAny_bind (wpAny_pure (wpAny_bind (wpAny_fieldsOf a1 a4 (wpAny_bind (wpAny_of_eq (show reTextOf (.str x t) = pure (x.cps, 0) from rfl) ?_)))))))
  dsimp only
  rw [a6]
  simp only [beq_self_eq_true, Bool.true_and, Bool.and_true, show ((0 : Nat) == 1) = false from rfl, Bool.false_eq_true, if_false]
  refine wpAny_bind (wpAny_of_eq (show reNoCollectionInside (.str x t) 0 = pure () from rfl) ?_)
  rw [a7]
  unfold reRawItems
  refine wpAny_bind (wpAny_bind (wpAny_seqItems a8 a9 (wpAny_pure (wpAny_pure ?_))))
  dsimp only [Option.getD]
  rw [a10, a5]
  have e0 : min (Int.toNat 0) x.cps.size = 0 := by simp
  by_cases hbig : x.cps.size ≤ 2 ^ 63 - 1
  · have e1 : min (Int.toNat (2 ^ 63 - 1)) x.cps.size = x.cps.size := by
      rw [show Int.toNat (2 ^ 63 - 1) = 2 ^ 63 - 1 by decide]; omega
    rw [e0, e1]
    unfold reAnswer
    refine wpAny_bind (W.go (re_end (x := x) (A := A.in1) (c := c) hx (Q := fun r h' => h' = h ∧ r.isSome = b) fun r hr => ⟨rfl, hr⟩) fun r h' t' hr => ?_)
    obtain ⟨rfl, hr⟩ := hr
    cases r with
    | none => exact wpAny_pure ⟨_, rfl, _, _, rfl, h0 hr.symm⟩
    | some m =>
      refine wpAny_bind ?_
      unfold reNewMatch
      simp only [List.range_zero, List.flatMap_nil, List.any_nil, Bool.false_eq_true, if_false]
      refine wpAny_bind (wpAny_newTuple (wpAny_newObj_type (wpAny_pure ⟨_, rfl, _, _, rfl, h1 hr.symm _ _ ((Keep.push _ _).trans (Keep.push _ _)) ⟨_, Heap.get?_push_size _ rfl, rfl⟩⟩)))
  · exact absurd hlen (by omega)
theorem tr_match {r : Addr} {Q : Bool → Heap → Prop} (hr : ∃ o, h.get? r = some o ∧ o.cls = .type "re.Match") (hq : Q true h) : W c A (truthy (.ref r)) h Q := by
  refine .mk fun tk E => ?_
  have hT : Shared.TypeIs ⟨h, c.g, c.d, tk, c.os⟩ (.ref r) "re.Match" := hr
  unfold truthy
  refine wpAny_bind ?_
  unfold callSpecial?
  refine wpAny_bind (wpAny_specialOf hT match_bool (wpAny_pure ?_))
  refine wpAny_bind (wpAny_specialOf hT match_len ?_)
  exact wpAny_pure ⟨_, _, rfl, hq⟩
theorem tr_none {Q : Bool → Heap → Prop} (hq : Q false h) : W c A (truthy .none) h Q := .mk fun _ _ => fun _ _ _ => ⟨_, _, rfl, hq⟩
end

open PySem PySem.W PyProof.Rows
/-! the text's defs -/
def prg : List Stmt := PySem.Challenge.pw_pu0020_01.main.body
def fnm (i : Nat) : Str := match prg[i]? with | some (.FunctionDef n ..) => n | _ => Str.empty
def fpr (i : Nat) : Arguments := match prg[i]? with | some (.FunctionDef _ a ..) => a | _ => default
def fbd (i : Nat) : List Stmt := match prg[i]? with | some (.FunctionDef _ _ b ..) => b | _ => []
def fsc (i : Nat) : Scope := match prg[i]? with | some (.FunctionDef _ _ _ _ _ _ s ..) => s | _ => default

/-- what stands at the top -/
structure Gd (h : Heap) : Prop where
  lim : h.NoLimit
  g_hls : Glob h "rgb_to_hls" (.ref 38)
  g_hsv : Glob h "rgb_to_hsv" (.ref 45)
  g_re : Glob h "IPV4_RE" (.ref 50)
  g_hdn : Glob h "is_HDN" (.ref 57)
  g_lib : Glob h "liberal_is_HDN" (.ref 64)
  g_udm : Glob h "user_domain_match" (.ref 71)
  g_reach : Glob h "reach" (.ref 78)
  g_tail : Glob h "_law_tail" (.ref 85)
  g_up : Glob h "_law_up" (.ref 92)
  g_alone : Glob h "_law_alone" (.ref 97)
  g_len : Glob h "len" (.builtin "len")
  g_range : Glob h "range" (.type "range")
  g_max : Glob h "max" (.builtin "max")
  g_min : Glob h "min" (.builtin "min")
  g_int : Glob h "int" (.type "int")
  g_set : Glob h "set" (.type "set")
  f_hls : FnIs h 38 (fnm 2) (fpr 2) (fbd 2) (fsc 2)
  f_hsv : FnIs h 45 (fnm 3) (fpr 3) (fbd 3) (fsc 3)
  f_hdn : FnIs h 57 (fnm 6) (fpr 6) (fbd 6) (fsc 6)
  f_lib : FnIs h 64 (fnm 7) (fpr 7) (fbd 7) (fsc 7)
  f_udm : FnIs h 71 (fnm 8) (fpr 8) (fbd 8) (fsc 8)
  f_reach : FnIs h 78 (fnm 9) (fpr 9) (fbd 9) (fsc 9)
  f_tail : FnIs h 85 (fnm 11) (fpr 11) (fbd 11) (fsc 11)
  f_up : FnIs h 92 (fnm 12) (fpr 12) (fbd 12) (fsc 12)
  f_alone : FnIs h 97 (fnm 13) (fpr 13) (fbd 13) (fsc 13)
  pat : PatIs h 50
  nb : NoneBooked h

theorem Keep.gd {h h' : Heap} (k : Keep h h') (G : Gd h) : Gd h' :=
  ⟨G.lim.keeps k, k.glob G.g_hls, k.glob G.g_hsv, k.glob G.g_re, k.glob G.g_hdn, k.glob G.g_lib, k.glob G.g_udm, k.glob G.g_reach, k.glob G.g_tail, k.glob G.g_up, k.glob G.g_alone, k.glob G.g_len, k.glob G.g_range,
    k.glob G.g_max, k.glob G.g_min, k.glob G.g_int, k.glob G.g_set, k.fn G.f_hls, k.fn G.f_hsv, k.fn G.f_hdn, k.fn G.f_lib, k.fn G.f_udm, k.fn G.f_reach, k.fn G.f_tail, k.fn G.f_up, k.fn G.f_alone, k.pat G.pat, let ⟨m, a, b⟩ := G.nb; ⟨m, a.keeps k, b⟩⟩

section
variable {c : Cx} {A : Around} {h : Heap}


def eqS (x y : Str) : Bool := x.cps.toList == y.cps.toList
def at0 (x : Str) : Option Nat := (seqIndex? 0 x.length).bind (x.cps[·]?)
def atM (x : Str) : Option Nat := (seqIndex? (-1) x.length).bind (x.cps[·]?)
/-- what a host name must be for the walk -/
def okH (x : Str) : Bool := (reHit x).isSome && decide (x.cps.size ≤ 1000) && (at0 x).isSome && (atM x).isSome
def libF (x : Str) : Bool := !(reHit x).getD true
def hdnF (x : Str) : Bool := libF x && !eqS x "" && !(eqS ⟨#[(at0 x).getD 0]⟩ "." || eqS ⟨#[(atM x).getD 0]⟩ ".")

theorem lib_c {n : Nat} {x : Str} {t : Tok} (G : Gd h) (R : Room (n + 1) A) (hx : (reHit x).isSome = true) (hlen : x.cps.size ≤ 1000) :
    W c A (call (.ref 64) [.str x t]) h (fun v h' => Keep h h' ∧ v = .bool (libF x)) := by
  refine fn_call (binds := [(("text" : Str), .str x t)]) G.f_lib G.lim R (fun _ _ _ => by kernel_rfl) (locs (by kernel_rfl)) ?_ (by decide +kernel)
  intro A' env h₁ R' F hk ns
  have v : Var env h₁ "text" (.str x t) := var_of_ns ((hk _).trans (by kernel_rfl)) ns rfl
  obtain ⟨b, hb⟩ := Option.isSome_iff_exists.mp hx
  have key : libF x = !b := by unfold libF; rw [hb]; rfl
  rw [key]
  refine ex_cons (ex_if (tr_val (ev_meth (ev_glob F G.g_re ((hk _).trans (by kernel_rfl)) (gm_pat (F.keep.pat G.pat) (cw_bi (ar_cons (ev_name F v (ar_nil (ca_search (F.keep.pat G.pat) hb hlen ?_ ?_)))))))))) 
  · rintro rfl
    exact tr_none (ex_nil (ex_cons (ex_ret (ev_bool ⟨F.keep, rfl⟩))))
  · rintro rfl h' r k hr
    exact tr_match hr (ex_cons (ex_ret (ev_bool ⟨F.keep.trans k, rfl⟩)))
end

open PySem PySem.W PyProof.Rows
section
variable {c : Cx} {A : Around} {h : Heap} {env : Env}
theorem ev_unary {op : UnaryOp} {x : Expr} {pos : Pos} {Q : Value → Heap → Prop} (hx : W c A (eval x env) h (fun v h₁ => W c A (unaryOp op v) h₁ Q)) : W c A (eval (.UnaryOp op x pos) env) h Q :=
  .mk fun _ E => wpAny_UnaryOp (hx.go fun _ _ t1 h1 => h1.run t1 E)
theorem op_neg {a : Int} {t : Tok} {Q : Value → Heap → Prop} (hq : ∀ t', Q (.int (-a) t') h) : W c A (unaryOp .USub (.int a t)) h Q := .mk fun _ _ => neg_int ⟨_, _, rfl, hq _⟩

theorem hdn_c {n : Nat} {x : Str} {t : Tok} (G : Gd h) (R : Room (n + 1) A) (ho : okH x = true) :
    W c A (call (.ref 57) [.str x t]) h (fun v h' => Keep h h' ∧ v = .bool (hdnF x)) := by
  simp only [okH, Bool.and_eq_true, decide_eq_true_eq] at ho
  obtain ⟨⟨⟨hx, hlen⟩, h0⟩, hM⟩ := ho
  refine fn_call (binds := [(("text" : Str), .str x t)]) G.f_hdn G.lim R (fun _ _ _ => by kernel_rfl) (locs (by kernel_rfl)) ?_ (by decide +kernel)
  intro A' env h₁ R' F hk ns
  have v : Var env h₁ "text" (.str x t) := var_of_ns ((hk _).trans (by kernel_rfl)) ns rfl
  obtain ⟨b, hb⟩ := Option.isSome_iff_exists.mp hx
  obtain ⟨k0, e0⟩ := Option.isSome_iff_exists.mp h0
  obtain ⟨kM, eM⟩ := Option.isSome_iff_exists.mp hM
  have key : hdnF x = (!b && !eqS x "" && !(eqS ⟨#[k0]⟩ "." || eqS ⟨#[kM]⟩ ".")) := by unfold hdnF libF; rw [hb, e0, eM]; rfl
  rw [key]
  refine ex_cons (ex_if (tr_val (ev_meth (ev_glob F G.g_re ((hk _).trans (by kernel_rfl)) (gm_pat (F.keep.pat G.pat) (cw_bi (ar_cons (ev_name F v (ar_nil (ca_search (F.keep.pat G.pat) hb hlen ?_ ?_))))))))))
  · rintro rfl
    refine tr_none (ex_nil (ex_cons (ex_if (tr_cmp (ev_name F v (ev_str fun t' => cm_eqs (tr_bool ?_)))))))
    show if eqS x "" = true then _ else _
    by_cases h1 : eqS x "" = true
    · rw [if_pos h1, h1]
      exact ex_cons (ex_ret (ev_bool ⟨F.keep, rfl⟩))
    · rw [if_neg h1, Bool.eq_false_iff.mpr h1]
      refine ex_nil (ex_cons (ex_if (tr_boolop (at_or (tr_cmp (ev_sub (ev_name F v (ev_int fun t1 => sub_str (by decide) e0 fun t2 => ev_str fun t3 => cm_eqs (tr_bool ?_)))))))))
      show if eqS ⟨#[k0]⟩ "." = true then _ else _
      by_cases h2 : eqS ⟨#[k0]⟩ "." = true
      · rw [if_pos h2, h2]
        exact ex_cons (ex_ret (ev_bool ⟨F.keep, rfl⟩))
      · rw [if_neg h2, Bool.eq_false_iff.mpr h2]
        refine at_or (tr_cmp (ev_sub (ev_name F v (ev_unary (ev_int fun t1 => op_neg fun t1' => sub_str (by decide) eM fun t2 => ev_str fun t3 => cm_eqs (tr_bool ?_))))))
        show if eqS ⟨#[kM]⟩ "." = true then _ else _
        by_cases h3 : eqS ⟨#[kM]⟩ "." = true
        · rw [if_pos h3, h3]
          exact ex_cons (ex_ret (ev_bool ⟨F.keep, rfl⟩))
        · rw [if_neg h3, Bool.eq_false_iff.mpr h3]
          exact at_or_nil (ex_nil (ex_cons (ex_ret (ev_bool ⟨F.keep, rfl⟩))))
  · rintro rfl h' r k hr
    exact tr_match hr (ex_cons (ex_ret (ev_bool ⟨F.keep.trans k, rfl⟩)))
end

open PySem PySem.W PyProof.Rows
section
variable {c : Cx} {A : Around} {h : Heap} {env : Env}

theorem ev_def {hb : Heap} {x : Str} {f : Addr} {nm : Str} {pr : Arguments} {bd : List Stmt} {sc : Scope} {p pos : Pos} {e : Expr} {rest : List Expr} {Q : Value → Heap → Prop} (F : Frm hb env h) (hg : Glob hb x (.ref f))
    (hf : FnIs hb f nm pr bd sc) (hx : env.kindOf x = some .globalImplicit)
    (ha : W c A (spliced (backTo pos (starEach (e :: rest) env))) h (fun vs h₁ => Keep h h₁ ∧ W c A (call (.ref f) vs) h₁ Q))
    (he : starEach (e :: rest) env = (false, eval e env) :: starEach rest env := by rfl) (hd : (x == ("__debug__" : Str)) = false := by decide) :
    W c A (eval (.Call (.Name x p) (e :: rest) [] pos) env) h Q := by
  obtain ⟨o, pm, cd, doc, ho, hdat, _⟩ := hf
  refine ev_call (ev_glob F hg hx (cw_fn hdat (ha.mono fun vs h₁ hv => ⟨hv.1 _ _ (F.keep _ _ ho), hv.2⟩) he) hd)

def udmF (a b : Str) : Bool :=
  if libF (Txt.lower a) && libF (Txt.lower b) then
    (Txt.startswith (Txt.lower b) "." && Txt.endswith (Txt.lower a) (Txt.lower b)) || (!Txt.startswith (Txt.lower b) "." && eqS (Txt.lower a) (Txt.lower b))
  else eqS (Txt.lower a) (Txt.lower b)
def okL (x : Str) : Bool := decide (x.length ≤ 1000) && (reHit (Txt.lower x)).isSome && decide ((Txt.lower x).cps.size ≤ 1000)

theorem udm_c {n : Nat} {x y : Str} {t u : Tok} (G : Gd h) (R : Room (n + 2) A) (hx : okL x = true) (hy : okL y = true) :
    W c A (call (.ref 71) [.str x t, .str y u]) h (fun v h' => Keep h h' ∧ v = .bool (udmF x y)) := by
  simp only [okL, Bool.and_eq_true, decide_eq_true_eq] at hx hy
  obtain ⟨⟨hx1, hx2⟩, hx3⟩ := hx
  obtain ⟨⟨hy1, hy2⟩, hy3⟩ := hy
  refine fn_call (binds := [(("A" : Str), .str x t), (("B" : Str), .str y u)]) G.f_udm G.lim R (fun _ _ _ => by kernel_rfl) (locs (by kernel_rfl)) ?_ (by decide +kernel)
  intro A' env h₁ R' F hk ns
  have vA : Var env h₁ "A" (.str x t) := var_of_ns ((hk _).trans (by kernel_rfl)) ns rfl
  have vB : Var env h₁ "B" (.str y u) := var_of_ns ((hk _).trans (by kernel_rfl)) ns rfl
  refine ex_cons (ex_set (ev_meth (ev_name F vA (gm_str PySem.F.slot_str_lower PySem.F.type_str_lower (cw_bi0 (ca_lower (by omega) fun t1 => st_name F (.inl ((hk _).trans (by kernel_rfl))) fun h2 F2 vA2 U2 K2 => ?_))))))
  have vB2 := U2.var (by decide +kernel) vB
  refine ex_cons (ex_set (ev_meth (ev_name F2 vB2 (gm_str PySem.F.slot_str_lower PySem.F.type_str_lower (cw_bi0 (ca_lower (by omega) fun t2 => st_name F2 (.inl ((hk _).trans (by kernel_rfl))) fun h3 F3 vB3 U3 K3 => ?_))))))
  have vA3 := U3.var (by decide +kernel) vA2
  refine ex_cons (ex_if (tr_not (tr_boolop (at_and (tr_val (ev_def F3 G.g_lib G.f_lib ((hk _).trans (by kernel_rfl)) (ar_cons (ev_name F3 vA3 (ar_nil ⟨.refl _, ?_⟩)))))))))
  refine W.mono (lib_c (F3.keep.gd G) R' hx2 hx3) ?_
  rintro _ h4 ⟨k4, rfl⟩
  have F4 := k4.frm F3
  have fin : ∀ h', Frm h env h' → Var env h' "A" (.str (Txt.lower x) t1) → Var env h' "B" (.str (Txt.lower y) t2) → ∀ v : Value, v = .bool (eqS (Txt.lower x) (Txt.lower y)) → (libF (Txt.lower x) && libF (Txt.lower y)) = false →
      Keep h h' ∧ v = .bool (udmF x y) := fun h' F' _ _ v e e' => ⟨F'.keep, by rw [e, udmF, if_neg (by rw [e']; decide)]⟩
  have no : ∀ h', Frm h env h' → Var env h' "A" (.str (Txt.lower x) t1) → Var env h' "B" (.str (Txt.lower y) t2) → (libF (Txt.lower x) && libF (Txt.lower y)) = false →
      W c A' (execs (match (fbd 8)[2]? with | some (PySem.Stmt.If _ b _ _) => b | _ => []) env) h' (fun f h'' => ∃ v, f = .ret v ∧ Keep h h'' ∧ v = .bool (udmF x y)) := by
    intro h' F' a b e
    refine ex_cons (ex_if (tr_cmp (ev_name F' a (ev_name F' b (cm_eqs (tr_bool ?_))))))
    show if eqS (Txt.lower x) (Txt.lower y) = true then _ else _
    by_cases h1 : eqS (Txt.lower x) (Txt.lower y) = true
    · rw [if_pos h1]
      exact ex_cons (ex_ret (ev_bool ⟨_, rfl, fin h' F' a b _ (by rw [h1]) e⟩))
    · rw [if_neg h1]
      exact ex_nil (ex_cons (ex_ret (ev_bool ⟨_, rfl, fin h' F' a b _ (by rw [Bool.eq_false_iff.mpr h1]) e⟩)))
  have vA4 := k4.var vA3
  have vB4 := k4.var vB3
  by_cases hl : libF (Txt.lower x) = true
  · rw [hl]
    refine tr_bool ?_
    show W _ _ _ _ _
    refine at_and (tr_val (ev_def F4 G.g_lib G.f_lib ((hk _).trans (by kernel_rfl)) (ar_cons (ev_name F4 vB4 (ar_nil ⟨.refl _, ?_⟩)))))
    refine W.mono (lib_c (F4.keep.gd G) R' hy2 hy3) ?_
    rintro _ h5 ⟨k5, rfl⟩
    have F5 := k5.frm F4
    have vA5 := k5.var vA4
    have vB5 := k5.var vB4
    refine tr_bool ?_
    by_cases hm : libF (Txt.lower y) = true
    · rw [hm]
      refine at_and_nil ?_
      have e : udmF x y = ((Txt.startswith (Txt.lower y) "." && Txt.endswith (Txt.lower x) (Txt.lower y)) || (!Txt.startswith (Txt.lower y) "." && eqS (Txt.lower x) (Txt.lower y))) := by
        rw [udmF, if_pos (by rw [hl, hm]; rfl)]
      rw [e]
      refine ex_nil (ex_cons (ex_set (ev_meth (ev_name F5 vB5 (gm_str PySem.F.slot_str_startswith PySem.F.type_str_startswith (cw_bi (ar_cons (ev_str fun t3 => ar_nil (ca_starts (st_name F5 (.inl ((hk _).trans (by kernel_rfl))) fun h6 F6 v6 U6 K6 => ?_))))))))))
      have vA6 := U6.var (by decide +kernel) vA5
      have vB6 := U6.var (by decide +kernel) vB5
      refine ex_cons (ex_if (tr_boolop (at_and (tr_val (ev_name F6 v6 (tr_bool ?_))))))
      by_cases hs : Txt.startswith (Txt.lower y) "." = true
      · rw [hs] at v6 ⊢
        refine at_and (tr_val (ev_meth (ev_name F6 vA6 (gm_str PySem.F.slot_str_endswith PySem.F.type_str_endswith (cw_bi (ar_cons (ev_name F6 vB6 (ar_nil (ca_ends (tr_bool ?_))))))))))
        by_cases he : Txt.endswith (Txt.lower x) (Txt.lower y) = true
        · rw [he]
          exact at_and_nil (ex_cons (ex_ret (ev_bool ⟨F6.keep, rfl⟩)))
        · rw [Bool.eq_false_iff.mpr he]
          refine ex_nil (ex_cons (ex_if (tr_boolop (at_and (tr_not (tr_val (ev_name F6 v6 (tr_bool ?_))))))))
          exact ex_nil (ex_cons (ex_ret (ev_bool ⟨F6.keep, rfl⟩)))
      · rw [Bool.eq_false_iff.mpr hs] at v6 ⊢
        refine ex_nil (ex_cons (ex_if (tr_boolop (at_and (tr_not (tr_val (ev_name F6 v6 (tr_bool ?_))))))))
        refine at_and (tr_cmp (ev_name F6 vA6 (ev_name F6 vB6 (cm_eqs (tr_bool ?_)))))
        show if eqS (Txt.lower x) (Txt.lower y) = true then _ else _
        by_cases he : eqS (Txt.lower x) (Txt.lower y) = true
        · rw [he]
          exact at_and_nil (ex_cons (ex_ret (ev_bool ⟨F6.keep, rfl⟩)))
        · rw [Bool.eq_false_iff.mpr he]
          exact ex_nil (ex_cons (ex_ret (ev_bool ⟨F6.keep, rfl⟩)))
    · rw [Bool.eq_false_iff.mpr hm]
      exact (no h5 F5 vA5 vB5 (by rw [hl, Bool.eq_false_iff.mpr hm]; rfl)).mono (by rintro _ h' ⟨v, rfl, hk, e⟩; exact ⟨hk, e⟩)
  · rw [Bool.eq_false_iff.mpr hl]
    exact tr_bool ((no h4 F4 vA4 vB4 (by rw [Bool.eq_false_iff.mpr hl]; rfl)).mono (by rintro _ h' ⟨v, rfl, hk, e⟩; exact ⟨hk, e⟩))
end

open PySem PySem.W PyProof.Rows
section
variable {c : Cx} {A : Around} {h : Heap} {env : Env}

def reachF (x : Str) : Str :=
  if Txt.find x "." ≥ 0 then
    (if hdnF x && (decide (Txt.find (Txt.slice x (some (Txt.find x "." + 1)) none) "." ≥ 0) || eqS (Txt.slice x (some (Txt.find x "." + 1)) none) "local") then
      Str.ofString "." ++ Txt.slice x (some (Txt.find x "." + 1)) none else x)
  else x

theorem reach_c {n : Nat} {x : Str} {t : Tok} (G : Gd h) (R : Room (n + 2) A) (ho : okH x = true) :
    W c A (call (.ref 78) [.str x t]) h (fun v h' => Keep h h' ∧ ∃ t', v = .str (reachF x) t') := by
  have hlen : x.length ≤ 1000 := by
    simp only [okH, Bool.and_eq_true, decide_eq_true_eq] at ho
    exact ho.1.1.2
  have hsz : sizeLine = 2 ^ 24 := rfl
  refine fn_call (binds := [(("h" : Str), .str x t)]) G.f_reach G.lim R (fun _ _ _ => by kernel_rfl) (locs (by kernel_rfl)) ?_ (by decide +kernel)
  intro A' env h₁ R' F hk ns
  have v : Var env h₁ "h" (.str x t) := var_of_ns ((hk _).trans (by kernel_rfl)) ns rfl
  refine ex_cons (ex_set (ev_meth (ev_name F v (gm_str PySem.F.slot_str_find PySem.F.type_str_find (cw_bi (ar_cons (ev_str fun t1 => ar_nil (ca_find fun t2 => st_name F (.inl ((hk _).trans (by kernel_rfl))) fun h2 F2 vi2 U2 K2 => ?_))))))))
  have vh2 := U2.var (by decide +kernel) v
  refine ex_cons (ex_if (tr_cmp (ev_name F2 vi2 (ev_int fun t3 => cm_ge (tr_bool ?_)))))
  unfold reachF
  by_cases hi : Txt.find x "." ≥ 0
  · rw [if_pos (decide_eq_true hi), if_pos hi]
    refine ex_cons (ex_set (ev_sub (ev_name F2 vh2 (ev_slo (ev_bin (ev_name F2 vi2 (ev_int fun t4 => op_add fun t5 => ⟨_, _, rfl, fun h3 a3 k3 s3 => ?_⟩))))))) 
    refine sub_strs s3 (by omega) fun t6 => ?_
    refine st_name (k3.frm F2) (.inl ((hk _).trans (by kernel_rfl))) fun h4 F4 vb4 U4 K4 => ?_
    have vh4 := U4.var (by decide +kernel) (k3.var vh2)
    simp only [Option.map] at vb4
    have hlb : (Txt.slice x (some (Txt.find x "." + 1)) none).length ≤ 1000 := Nat.le_trans (Txt.slice_le _ _ _) hlen
    generalize Txt.slice x (some (Txt.find x "." + 1)) none = b at vb4 hlb ⊢
    refine ex_cons (ex_set (ev_meth (ev_name F4 vb4 (gm_str PySem.F.slot_str_find PySem.F.type_str_find (cw_bi (ar_cons (ev_str fun t1 => ar_nil (ca_find fun t2 => st_name F4 (.inl ((hk _).trans (by kernel_rfl))) fun h5 F5 vi5 U5 K5 => ?_))))))))
    have vh5 := U5.var (by decide +kernel) vh4
    have vb5 := U5.var (by decide +kernel) vb4
    refine ex_cons (ex_if (tr_boolop (at_and (tr_val (ev_def F5 G.g_hdn G.f_hdn ((hk _).trans (by kernel_rfl)) (ar_cons (ev_name F5 vh5 (ar_nil ⟨.refl _, ?_⟩))))))))
    refine W.mono (hdn_c (F5.keep.gd G) R' ho) ?_
    rintro _ h6 ⟨k6, rfl⟩
    have F6 := k6.frm F5
    have vh6 := k6.var vh5
    have vb6 := k6.var vb5
    have vi6 := k6.var vi5
    refine tr_bool ?_
    by_cases hd : hdnF x = true
    · rw [hd]
      refine at_and (tr_boolop (at_or (tr_cmp (ev_name F6 vi6 (ev_int fun t3 => cm_ge (tr_bool ?_))))))
      have yes : W c A' (execs (match (match (fbd 9)[1]? with | some (PySem.Stmt.If _ b _ _) => b | _ => [])[2]? with | some (PySem.Stmt.If _ b _ _) => b | _ => []) env) h6
          (fun f h'' => ∃ v, f = .ret v ∧ Keep h h'' ∧ ∃ t', v = .str (Str.ofString "." ++ b) t') :=
        ex_cons (ex_ret (ev_bin (ev_str fun t7 => ev_name F6 vb6 (op_adds (by rw [show (Str.ofString ".").length = 1 from by decide]; omega) fun t8 => ⟨_, rfl, F6.keep, _, rfl⟩))))
      by_cases hj : Txt.find b "." ≥ 0
      · rw [if_pos (decide_eq_true hj), decide_eq_true hj]
        refine at_and_nil ?_
        exact yes.mono (by rintro _ h' ⟨v, rfl, hk, e⟩; exact ⟨hk, e⟩)
      · rw [if_neg (by simpa using hj), decide_eq_false hj]
        refine at_or (tr_cmp (ev_name F6 vb6 (ev_str fun t7 => cm_eqs (tr_bool ?_))))
        show if eqS b "local" = true then _ else _
        by_cases hl : eqS b "local" = true
        · rw [if_pos hl, hl]
          refine at_and_nil ?_
          exact yes.mono (by rintro _ h' ⟨v, rfl, hk, e⟩; exact ⟨hk, e⟩)
        · rw [if_neg hl, Bool.eq_false_iff.mpr hl]
          refine at_or_nil (ex_nil (ex_nil (ex_cons (ex_ret (ev_name F6 vh6 ⟨F6.keep, _, rfl⟩)))))
    · rw [Bool.eq_false_iff.mpr hd]
      refine ex_nil (ex_nil (ex_cons (ex_ret (ev_name F6 vh6 ⟨F6.keep, _, rfl⟩))))
  · rw [if_neg (by simpa using hi), if_neg hi]
    exact ex_nil (ex_cons (ex_ret (ev_name F2 vh2 ⟨F2.keep, _, rfl⟩)))
end

open PySem PySem.W PyProof.Rows
section
variable {c : Cx} {A : Around} {h : Heap} {env : Env}

theorem op_fdiv {a b : Int} {t u : Tok} {Q : Value → Heap → Prop} (hb : b ≠ 0) (hs : b.natAbs < 1073741824) (hq : ∀ t', Q (.int (a.fdiv b) t') h) : W c A (binaryOp .FloorDiv (.int a t) (.int b u)) h Q :=
  .mk fun _ _ => floordiv_int hb ⟨_, _, rfl, hq _⟩ (.inl (PyProof.noPylong_small hs))

theorem op_addl {l b : Addr} {vs ws : List Value} {Q : Value → Heap → Prop} (hl : h.IsList l vs.toArray) (hb : h.IsList b ws.toArray) (hsz : vs.length + ws.length ≤ sizeLine)
    (hq : ∀ h' d, Keep h h' → h.get? d = none → h'.PlainList d (vs ++ ws).toArray → Q (.ref d) h') : W c A (binaryOp .Add (.ref l) (.ref b)) h Q := by
  refine .mk fun tk E => ?_
  obtain ⟨⟨cls, dd, data, sl⟩, ho, hc, n, hd⟩ := id hl
  obtain ⟨⟨cls2, dd2, data2, sl2⟩, ho2, hc2, n2, hd2⟩ := id hb
  simp only at hc hd hc2 hd2
  subst hc hd hc2 hd2
  have e : vs.toArray ++ ws.toArray = (vs ++ ws).toArray := by simp
  refine concat_meets ⟨_, ho, rfl⟩ ⟨_, ho2, rfl⟩ noFill_list_add seq_list_add PySem.F.slot_list_add PySem.F.entry_list_add (PySem.F.args_list_add_2 _ _) (list_addW l b vs.toArray ws.toArray n n2 dd dd2 sl sl2 (by simpa using hsz)) ⟨ho, ho2, ?_⟩
  rw [e]
  exact ⟨_, _, rfl, hq _ _ (Keep.push _ _) (fresh_none (Nat.le_refl _)) (pl_new _ _)⟩

/-- a written list -/
theorem ev_listP {elts : List Expr} {pos : Pos} {Q : Value → Heap → Prop}
    (hx : W c A (spliced (backTo pos (starEach elts env))) h (fun vs h₁ => vs.length ≤ sizeLine ∧ ∀ h' a, Keep h₁ h' → h₁.get? a = none → h'.PlainList a vs.toArray → Q (.ref a) h')) :
    W c A (eval (.List elts pos) env) h Q :=
  .mk fun _ _ => wpAny_List (hx.go fun _ h₁ _ hq => ⟨hq.1, _, _, rfl, hq.2 _ _ (Keep.push h₁ _) (fresh_none (Nat.le_refl _)) (pl_new _ _)⟩)

def rowS (k : Int) : Str := if k = 0 then "a" else if k = 1 then "Ba" else "local"
def lastS (k : Int) : Str := if k = 0 then "local" else "7"
def tailF (n : Int) : List Str := [rowS ((n.fdiv 4).fmod 3), rowS ((n.fdiv 12).fmod 3)].take (n.fmod 4).toNat ++ [lastS ((n.fmod 4).fdiv 3)]

theorem fmod_lt (a : Int) {b : Int} (hb : 0 < b) : 0 ≤ a.fmod b ∧ a.fmod b < b := ⟨Int.fmod_nonneg_of_pos a hb, Int.fmod_lt_of_pos a hb⟩
theorem row_at {k : Int} (h0 : 0 ≤ k) (h1 : k < 3) (t1 t2 t3 : Tok) : ∃ t, [Value.str "a" t1, .str "Ba" t2, .str "local" t3].toArray[k.toNat]? = some (.str (rowS k) t) := by
  have : k = 0 ∨ k = 1 ∨ k = 2 := by omega
  rcases this with rfl | rfl | rfl
  · exact ⟨_, rfl⟩
  · exact ⟨_, rfl⟩
  · exact ⟨_, rfl⟩
theorem last_at {k : Int} (h0 : 0 ≤ k) (h1 : k < 2) (t1 t2 : Tok) : ∃ t, [Value.str "local" t1, .str "7" t2].toArray[k.toNat]? = some (.str (lastS k) t) := by
  have : k = 0 ∨ k = 1 := by omega
  rcases this with rfl | rfl
  · exact ⟨_, rfl⟩
  · exact ⟨_, rfl⟩

theorem tail_c {n : Nat} {x : Int} {t : Tok} (G : Gd h) (R : Room (n + 1) A) :
    W c A (call (.ref 85) [.int x t]) h (fun v h' => Keep h h' ∧ ∃ a vs, v = .ref a ∧ h.get? a = none ∧ h'.PlainList a vs.toArray ∧ StrsAre vs (tailF x)) := by
  have hsz : sizeLine = 2 ^ 24 := rfl
  refine fn_call (binds := [(("n" : Str), .int x t)]) G.f_tail G.lim R (fun _ _ _ => by kernel_rfl) (locs (by kernel_rfl)) ?_ (by decide +kernel)
  intro A' env h₁ R' F hk ns
  have v : Var env h₁ "n" (.int x t) := var_of_ns ((hk _).trans (by kernel_rfl)) ns rfl
  refine ex_cons (ex_set (ev_listP (ar_cons (ev_str fun t1 => ar_cons (ev_str fun t2 => ar_cons (ev_str fun t3 => ar_nil ⟨by simp [hsz], fun h2 a2 k2 _ p2 => ?_⟩))))))
  refine st_name (k2.frm F) (.inl ((hk _).trans (by kernel_rfl))) fun h3 F3 vr3 U3 K3 => ?_
  have vn3 := U3.var (by decide +kernel) (k2.var v)
  have p3 := (K3.pl p2).isList
  have b1 := fmod_lt (x.fdiv 4) (b := 3) (by omega)
  have b2 := fmod_lt (x.fdiv 12) (b := 3) (by omega)
  have b3 := fmod_lt x (b := 4) (by omega)
  obtain ⟨u1, e1⟩ := row_at b1.1 b1.2 t1 t2 t3
  obtain ⟨u2, e2⟩ := row_at b2.1 b2.2 t1 t2 t3
  have b4 : 0 ≤ (x.fmod 4).fdiv 3 ∧ (x.fmod 4).fdiv 3 < 2 := by
    rw [Int.fdiv_eq_ediv_of_nonneg _ (by omega)]; omega
  refine ex_cons (ex_ret (ev_bin (ev_sub (ev_listP (ar_cons (ev_sub (ev_name F3 vr3 (ev_bin (ev_bin (ev_name F3 vn3 (ev_int fun _ => op_fdiv (by decide) (by decide) fun _ => ev_int fun _ => op_mod (by decide) fun _ => ?_)))))))))))
  refine sub_list p3 b1.1 (by omega) e1 ?_
  refine ar_cons (ev_sub (ev_name F3 vr3 (ev_bin (ev_bin (ev_name F3 vn3 (ev_int fun _ => op_fdiv (by decide) (by decide) fun _ => ev_int fun _ => op_mod (by decide) fun _ => ?_))))))
  refine sub_list p3 b2.1 (by omega) e2 (ar_nil ⟨by simp [hsz], fun h4 a4 k4 _ p4 => ?_⟩)
  refine ev_sup (ev_bin (ev_name (k4.frm F3) (k4.var vn3) (ev_int fun _ => op_mod (by decide) fun _ => ⟨_, _, rfl, fun h5 a5 k5 s5 => ?_⟩)))
  refine sub_lists (k5.pl p4).isList s5 (by simp [hsz]) fun h6 a6 k6 _ p6 => ?_
  have F6 := k6.frm (k5.frm (k4.frm F3))
  have vn6 := k6.var (k5.var (k4.var vn3))
  refine ev_listP (ar_cons (ev_sub (ev_listP (ar_cons (ev_str fun t7 => ar_cons (ev_str fun t8 => ar_nil ⟨by simp [hsz], fun h7 a7 k7 _ p7 => ?_⟩))))))
  obtain ⟨u3, e3⟩ := last_at b4.1 b4.2 t7 t8
  refine ev_bin (ev_bin (ev_name (k7.frm F6) (k7.var vn6) (ev_int fun _ => op_mod (by decide) fun _ => ev_int fun _ => op_fdiv (by decide) (by decide) fun _ => ?_)))
  refine sub_list p7.isList b4.1 (by omega) e3 (ar_nil ⟨by simp [hsz], fun h8 a8 k8 _ p8 => ?_⟩)
  have q6 := k8.pl (k7.pl p6)
  have hS : ∃ vs, slicePick [Value.str (rowS ((x.fdiv 4).fmod 3)) u1, Value.str (rowS ((x.fdiv 12).fmod 3)) u2].toArray none (some (x.fmod 4)) none = vs.toArray ∧
      StrsAre vs ([rowS ((x.fdiv 4).fmod 3), rowS ((x.fdiv 12).fmod 3)].take (x.fmod 4).toNat) := by
    generalize x.fmod 4 = k at b3 ⊢
    generalize rowS ((x.fdiv 4).fmod 3) = r1
    generalize rowS ((x.fdiv 12).fmod 3) = r2
    have : k = 0 ∨ k = 1 ∨ k = 2 ∨ k = 3 := by omega
    rcases this with rfl | rfl | rfl | rfl
    · exact ⟨[], rfl, .nil⟩
    · exact ⟨[_], rfl, .cons _ _ .nil⟩
    · exact ⟨[_, _], rfl, .cons _ _ (.cons _ _ .nil)⟩
    · exact ⟨[.str r1 u1, .str r2 u2], by kernel_rfl, .cons _ _ (.cons _ _ .nil)⟩
  obtain ⟨vs, es, hS⟩ := hS
  simp only [Option.map] at q6
  rw [es] at q6
  have hl := hS.length
  have hl2 : vs.length ≤ 2 := by rw [hl, List.length_take]; simp; omega
  refine op_addl q6.isList p8.isList (by simp; omega) fun h9 a9 k9 n9 p9 => ?_
  have kk : Keep h h9 := F6.keep.trans (k7.trans (k8.trans k9))
  refine ⟨kk, a9, _, rfl, ?_, p9, hS.append' (.cons _ _ .nil)⟩
  cases e : h.get? a9 with
  | none => rfl
  | some o => rw [(F6.keep.trans (k7.trans k8)) _ _ e] at n9; cases n9
end

open PySem PySem.W PyProof.Rows
/-- an iterator that stands at I and reads the objects fp -/
structure Iter (c : Cx) (A : Around) (h₁ : Heap) (I : Addr) (n : Nat) (P : Nat → Value → Prop) (St : Nat → Heap → Prop) : Prop where
  fresh : h₁.get? I = none
  fp : ∃ fp, Walks c.prog c.w A I fp [I] n P St ∧ ∀ b ∈ fp, b = I ∨ ∃ o, h₁.get? b = some o
  live : ∀ i h, St i h → ∃ o vs, h.get? I = some o ∧ o.data = .fields vs
  letgo : ∀ i h target v Q, St i h → Q () h → W c A (letOwnedTupleGo target (.ref I) v) h Q

section
variable {c : Cx} {A : Around} {h : Heap} {env : Env}

theorem letgo_of {I : Addr} {o : Obj} {n : String} {vs : Array Value} (ho : h.get? I = some o) (hc : o.cls = .type n) (hd : o.data = .fields vs)
    (hn : ["enumerate", "zip", "dict_itemiterator", "dict_reverseitemiterator", "odict_iterator", "itertools.zip_longest", "itertools.pairwise"].contains n = false) {target : Expr} {v : Value} {Q : Unit → Heap → Prop} (hq : Q () h) :
    W c A (letOwnedTupleGo target (.ref I) v) h Q := by
  have two : W c A (match (Value.ref I, v) with
      | (.ref r, .ref a) => do
        let o ← load r
        match o.cls, o.data with
        | .type n, .fields vs =>
          if ["enumerate", "zip", "dict_itemiterator", "dict_reverseitemiterator", "odict_iterator", "itertools.zip_longest", "itertools.pairwise"].contains n && vs[0]? == some (rawInt a) then
            rule "for.unpacks-the-owned-tuple"
            updateField r 0 .none
        | _, _ => pure ()
      | _ => pure ()) h Q := by
    cases v with
    | ref a =>
      refine .mk fun tk E => wpAny_bind (wpAny_load ho ?_)
      rw [hc, hd]
      dsimp only
      rw [hn]
      exact wpAny_pure ⟨_, _, rfl, hq⟩
    | _ => exact W.pure hq
  unfold letOwnedTupleGo
  cases target <;> first | exact two | exact W.pure hq

theorem it_list {l : Addr} {vs : List Value} {Q : Value → Heap → Prop} (hh : A.handled = none) (hl : h.IsList l vs.toArray)
    (hq : ∀ I h' St, Keep h h' → Iter c A h I vs.length (fun i v => vs[i]? = some v) St → St 0 h' → Q (.ref I) h') : W c A (pyIter (.ref l)) h Q := by
  refine .mk fun tk E => wpAny_pyIter_list hl ⟨_, _, rfl, ?_⟩
  have hlt : l < h.objs.size := Heap.lt_size hl.choose_spec.1
  refine hq _ _ (fun i h => h.IsListIter _ l i ∧ h.IsList l vs.toArray) (Keep.push _ _) ⟨fresh_none (Nat.le_refl _), ⟨[h.objs.size, l], ?_, ?_⟩, ?_, ?_⟩ ⟨⟨_, Heap.get?_push_size _ rfl, rfl, rfl⟩, (Keep.push _ _).list hl⟩
  · have := Walks.list (prog := c.prog) (w := c.w) (A := A) hh h.objs.size l (Nat.ne_of_lt hlt) vs.toArray
    simpa using this
  · intro b hb
    simp only [List.mem_cons, List.not_mem_nil, or_false] at hb
    rcases hb with rfl | rfl
    · exact .inl rfl
    · exact .inr ⟨_, hl.choose_spec.1⟩
  · rintro i h' ⟨⟨o, ho, _, hd⟩, _⟩; exact ⟨o, _, ho, hd⟩
  · rintro i h' target v Q ⟨⟨o, ho, hc, hd⟩, _⟩ hq; exact letgo_of ho hc hd (by decide) hq

theorem range_size {n : Nat} (hn : n ≤ 1000) : Builtin.Range.rangeSize 0 (n : Int) 1 = n := by
  unfold Builtin.Range.rangeSize
  split <;> (try split) <;> simp at * <;> omega

theorem range_small {n : Nat} (hn : n ≤ 1000) : Builtin.Range.small 0 (n : Int) 1 = true := by
  unfold Builtin.Range.small
  rw [range_size hn]
  unfold Builtin.Range.rangeFitsLong
  simp
  omega

theorem it_range {r : Addr} {n : Nat} {t u v : Tok} {Q : Value → Heap → Prop} (hh : A.handled = none) (hr : IsRange h r 0 n 1 t u v) (hn : n ≤ 1000)
    (hq : ∀ I h' St, Keep h h' → Iter c A h I n (fun i v => ∃ t, v = .int (i : Int) t) St → St 0 h' → Q (.ref I) h') : W c A (pyIter (.ref r)) h Q := by
  refine .mk fun tk E => wpAny_pyIter_range hr (range_small hn) ⟨_, _, rfl, ?_⟩
  have Wk := Walks.range (prog := c.prog) (w := c.w) (A := A) hh h.objs.size 0 1 n
  simp only [Int.zero_add, Int.mul_one] at Wk
  refine hq _ _ _ (Keep.push _ _) ⟨fresh_none (Nat.le_refl _), ⟨[h.objs.size], Wk, ?_⟩, ?_, ?_⟩ ?_
  · intro b hb; simp only [List.mem_cons, List.not_mem_nil, or_false] at hb; exact .inl hb
  · intro i h' st; exact ⟨_, _, st, rfl⟩
  · intro i h' target v Q st hq; exact letgo_of st rfl rfl (by decide) hq
  · show IsRangeIter _ _ _ _ _
    rw [range_size hn]
    simpa using Heap.get?_push_size _ rfl

theorem ca_range {n : Nat} {t : Tok} {Q : Value → Heap → Prop} (hq : ∀ h' r t1 t2, Keep h h' → IsRange h' r 0 n 1 t1 t t2 → Q (.ref r) h') : W c A (call (.type "range") [.int n t]) h Q :=
  .mk fun _ _ => call_range_1 ⟨_, _, rfl, hq _ _ _ _ (Keep.push _ _) (IsRange.new ..)⟩

/-! the while and the for statement -/
theorem ex_while {test : Expr} {body orelse : List Stmt} {pos : Pos} {Q : Flow → Heap → Prop} (J : Nat → Heap → Prop)
    (turn : ∀ n h, J n h → W c A (isTrue test env (eval test env)) h (fun b h₁ => if b then W c A (execs body env) h₁ (fun f h₂ => match f with | .next | .cont => ∃ m, m < n ∧ J m h₂ | .brk => Q .next h₂ | .ret v => Q (.ret v) h₂)
      else W c A (execs orelse env) h₁ Q)) (n : Nat) (hJ : J n h) : W c A (exec (.While test body orelse pos) env) h Q := by
  refine .mk fun tk E => wpAny_While ?_
  refine codeAny_loop (A := A) rfl (fun n s => ∃ h' tk', s = ⟨h', c.g, c.d, tk' + 1, c.os⟩ ∧ J n h') (fun n s hI => ?_) n ⟨_, _, rfl, hJ⟩
  obtain ⟨h', tk', rfl, hJ'⟩ := hI
  show wpAny _ _ ((whileTurn test body orelse env).onRaise (fun x => do noteFrame x env; theTreesLotGoes x)) _ _ _
  refine wpAny_onRaise ?_
  unfold whileTurn
  refine wpAny_bind ((turn n h' hJ').go fun b h₁ t1 h1 => ?_)
  cases b with
  | true =>
    simp only [if_true] at h1 ⊢
    refine wpAny_bind (W.go h1 fun f h₂ t2 h2 => ?_)
    cases f with
    | next => obtain ⟨m, hm, hj⟩ := h2; exact wpAny_pure ⟨rfl, m, hm, _, _, rfl, hj⟩
    | cont => obtain ⟨m, hm, hj⟩ := h2; exact wpAny_pure ⟨rfl, m, hm, _, _, rfl, hj⟩
    | brk => exact wpAny_pure ⟨_, _, rfl, h2⟩
    | ret v => exact wpAny_pure ⟨_, _, rfl, h2⟩
  | false =>
    simp only [Bool.false_eq_true, if_false] at h1 ⊢
    exact wpAny_bind (W.go h1 fun f h₂ t2 h2 => wpAny_pure ⟨_, _, rfl, h2⟩)

/-- one step of an iterator -/
theorem wk_item {I : Addr} {fp wr : List Addr} {n : Nat} {P : Nat → Value → Prop} {St : Nat → Heap → Prop} (Wk : Walks c.prog c.w A I fp wr n P St) (i : Nat) {h : Heap} {tk : Nat} {Q : Option Value → Shared → Prop} {E : Value → Shared → Prop}
    (hi : i < n) (st : St i h) (hQ : ∀ v h' tk', P i v → St (i + 1) h' → (∀ b o, b ∉ wr → h.get? b = some o → h'.get? b = some o) → Q (some v) ⟨h', c.g, c.d, tk' + 1, c.os⟩) :
    wpAny (model c.prog c.w) A (pyNext (.ref I)) Q E ⟨h, c.g, c.d, tk + 1, c.os⟩ :=
  wpAny_mono (wpAny_toks_of (n := 1) (show 1 ≤ tk + 1 by omega) (Wk.item i ⟨h, c.g, c.d, tk + 1, c.os⟩ (fun r s' => 1 ≤ s'.toks → Q r s') E hi st fun v h' tk' hp hs hk hn => by
    obtain ⟨j, rfl⟩ : ∃ j, tk' = j + 1 := ⟨tk' - 1, by have : 1 ≤ tk' := hn; omega⟩
    exact hQ v h' j hp hs hk)) (fun _ _ x => x.2 x.1) (fun _ _ x => x.2)
theorem wk_done {I : Addr} {fp wr : List Addr} {n : Nat} {P : Nat → Value → Prop} {St : Nat → Heap → Prop} (Wk : Walks c.prog c.w A I fp wr n P St) {h : Heap} {tk : Nat} {Q : Option Value → Shared → Prop} {E : Value → Shared → Prop}
    (st : St n h) (hQ : ∀ h' tk', (∀ b o, b ∉ wr → h.get? b = some o → h'.get? b = some o) → Q none ⟨h', c.g, c.d, tk' + 1, c.os⟩) :
    wpAny (model c.prog c.w) A (pyNext (.ref I)) Q E ⟨h, c.g, c.d, tk + 1, c.os⟩ :=
  wpAny_mono (wpAny_toks_of (n := 1) (show 1 ≤ tk + 1 by omega) (Wk.done ⟨h, c.g, c.d, tk + 1, c.os⟩ (fun r s' => 1 ≤ s'.toks → Q r s') E st fun h' tk' hk hn => by
    obtain ⟨j, rfl⟩ : ∃ j, tk' = j + 1 := ⟨tk' - 1, by have : 1 ≤ tk' := hn; omega⟩
    exact hQ h' j hk)) (fun _ _ x => x.2 x.1) (fun _ _ x => x.2)
end

open PySem PySem.W PyProof.Rows
/-! the environment of a comprehension -/
def clFrom (env : Env) : List (Str × NameKind) → List (Str × Addr) → List (Str × Addr)
  | [], acc => acc
  | (n, k) :: r, acc => if k == .free then clFrom env r ((n, (env.cells.lookup n).getD 0) :: acc) else clFrom env r acc

theorem clFrom_forIn (env : Env) (f : Str × NameKind → List (Str × Addr) → Sem (ForInStep (List (Str × Addr))))
    (hf : ∀ name kind cs, f (name, kind) cs = if kind == .free then (do let a ← cellOf env name; pure (.yield ((name, a) :: cs))) else pure (.yield cs)) :
    ∀ (names : List (Str × NameKind)) (acc : List (Str × Addr)), (∀ x ∈ names, x.2 = .free → (env.cells.lookup x.1).isSome = true) → forIn names acc f = (pure (clFrom env names acc) : Sem _)
  | [], acc, _ => by rw [List.forIn_nil]; rfl
  | (n, k) :: r, acc, hn => by
    rw [List.forIn_cons, hf]
    have ih := clFrom_forIn env f hf r
    have hr : ∀ x ∈ r, x.2 = .free → (env.cells.lookup x.1).isSome = true := fun x hx => hn x (List.mem_cons_of_mem _ hx)
    unfold clFrom
    by_cases hk : (k == NameKind.free) = true
    · rw [if_pos hk, if_pos hk]
      obtain ⟨a, ha⟩ := Option.isSome_iff_exists.mp (hn (n, k) List.mem_cons_self (by simpa using hk))
      have e : cellOf env n = pure a := by unfold cellOf; rw [ha]
      rw [e, ha]
      exact ih _ hr
    · rw [if_neg hk, if_neg hk]
      exact ih _ hr
theorem closureFor_eq {scope : Scope} {env : Env} (hn : ∀ x ∈ scope.names, x.2 = .free → (env.cells.lookup x.1).isSome = true) : closureFor scope env = pure (clFrom env scope.names []) := by
  unfold closureFor
  show (forIn scope.names _ _ >>= _) = _
  rw [clFrom_forIn env _ (fun name kind cs => by cases hk : kind == NameKind.free <;> simp [hk]) _ _ hn]
  rfl
theorem clFrom_sound (env : Env) : ∀ (names : List (Str × NameKind)) (acc : List (Str × Addr)), (∀ x ∈ names, x.2 = .free → (env.cells.lookup x.1).isSome = true) →
    (∀ x k, acc.lookup x = some k → env.cells.lookup x = some k) → ∀ x k, (clFrom env names acc).lookup x = some k → env.cells.lookup x = some k
  | [], _, _, ha => ha
  | (n, kd) :: r, acc, hn, ha => by
    have hr : ∀ x ∈ r, x.2 = .free → (env.cells.lookup x.1).isSome = true := fun x hx => hn x (List.mem_cons_of_mem _ hx)
    unfold clFrom
    by_cases hk : (kd == NameKind.free) = true
    · rw [if_pos hk]
      refine clFrom_sound env r _ hr fun x k e => ?_
      obtain ⟨a, ha'⟩ := Option.isSome_iff_exists.mp (hn (n, kd) List.mem_cons_self (by simpa using hk))
      have ha'' : env.cells.lookup n = some a := ha'
      rw [List.lookup_cons] at e
      cases hb : x == n with
      | true => rw [hb] at e; rw [beq_iff_eq.mp hb, ha'']; rw [ha''] at e; exact e
      | false => rw [hb] at e; exact ha x k e
    · rw [if_neg hk]; exact clFrom_sound env r _ hr ha
theorem clFrom_some (env : Env) {x : Str} : ∀ (names : List (Str × NameKind)) (acc : List (Str × Addr)), ((x, NameKind.free) ∈ names ∨ (acc.lookup x).isSome = true) → ((clFrom env names acc).lookup x).isSome = true
  | [], _, h => by
    rcases h with h | h
    · cases h
    · exact h
  | (n, kd) :: r, acc, h => by
    unfold clFrom
    by_cases hk : (kd == NameKind.free) = true
    · rw [if_pos hk]
      refine clFrom_some env r _ ?_
      rcases h with h | h
      · rcases List.mem_cons.mp h with e | h
        · cases e; right; simp
        · exact .inl h
      · right
        rw [List.lookup_cons]
        cases x == n with
        | true => rfl
        | false => exact h
    · rw [if_neg hk]
      refine clFrom_some env r _ ?_
      rcases h with h | h
      · rcases List.mem_cons.mp h with e | h
        · cases e; exact absurd rfl hk
        · exact .inl h
      · exact .inr h

theorem cellsFrom_append : ∀ (names : List (Str × NameKind)) (n : Nat) (acc : List (Str × Addr)), cellsFrom n names acc = cellsFrom n names [] ++ acc
  | [], _, _ => rfl
  | (x, k) :: r, n, acc => by
    unfold cellsFrom
    by_cases hk : (k == NameKind.cell) = true
    · rw [if_pos hk, if_pos hk, cellsFrom_append r (n + 1) ((x, n) :: acc), cellsFrom_append r (n + 1) [(x, n)]]; simp
    · rw [if_neg hk, if_neg hk, cellsFrom_append r n acc]
theorem cellsFrom_mem : ∀ (names : List (Str × NameKind)) (n : Nat) (acc : List (Str × Addr)) (x : Str) (k : Addr), (x, k) ∈ cellsFrom n names acc → (x, NameKind.cell) ∈ names ∨ (x, k) ∈ acc
  | [], _, _, _, _, h => .inr h
  | (y, kd) :: r, n, acc, x, k, h => by
    unfold cellsFrom at h
    by_cases hk : (kd == NameKind.cell) = true
    · rw [if_pos hk] at h
      rcases cellsFrom_mem r _ _ x k h with h | h
      · exact .inl (List.mem_cons_of_mem _ h)
      · rcases List.mem_cons.mp h with e | h
        · cases e; left; rw [show kd = NameKind.cell by simpa using hk]; exact List.mem_cons_self
        · exact .inr h
    · rw [if_neg hk] at h
      rcases cellsFrom_mem r _ _ x k h with h | h
      · exact .inl (List.mem_cons_of_mem _ h)
      · exact .inr h
theorem cellsFrom_some {x : Str} : ∀ (names : List (Str × NameKind)) (n : Nat) (acc : List (Str × Addr)), ((x, NameKind.cell) ∈ names ∨ (acc.lookup x).isSome = true) → ((cellsFrom n names acc).lookup x).isSome = true
  | [], _, _, h => by
    rcases h with h | h
    · cases h
    · exact h
  | (y, kd) :: r, n, acc, h => by
    unfold cellsFrom
    by_cases hk : (kd == NameKind.cell) = true
    · rw [if_pos hk]
      refine cellsFrom_some r _ _ ?_
      rcases h with h | h
      · rcases List.mem_cons.mp h with e | h
        · cases e; right; simp
        · exact .inl h
      · right
        rw [List.lookup_cons]
        cases x == y with
        | true => rfl
        | false => exact h
    · rw [if_neg hk]
      refine cellsFrom_some r _ _ ?_
      rcases h with h | h
      · rcases List.mem_cons.mp h with e | h
        · cases e; exact absurd rfl hk
        · exact .inl h
      · exact .inr h

/-- what a comprehension's environment knows -/
structure CEnv (env : Env) (scope : Scope) (cenv : Env) : Prop where
  loc : ∀ x, scope.names.lookup x = some .local → cenv.kindOf x = some .local
  cel : ∀ x, scope.names.lookup x = some .cell → cenv.kindOf x = some .cell ∧ (cenv.cells.lookup x).isSome = true
  glo : ∀ x, scope.names.lookup x = some .globalImplicit → cenv.kindOf x = some .globalImplicit
  fre : ∀ x v h, scope.names.lookup x = some .free → Var env h x v → Var cenv h x v
  frk : ∀ x, scope.names.lookup x = some .free → (cenv.kindOf x = some .cell ∨ cenv.kindOf x = some .free) ∧ (cenv.cells.lookup x).isSome = true

theorem lookup_relabel {env : Env} : ∀ {names : List (Str × NameKind)} {x : Str} {k : NameKind}, names.lookup x = some k →
    (names.map fun (n, k) => if (k == NameKind.free && env.scope.kind == .function && env.kindOf n == some .cell) then (n, NameKind.cell) else (n, k)).lookup x =
      some (if (k == NameKind.free && env.scope.kind == .function && env.kindOf x == some .cell) then .cell else k)
  | [], _, _, h => by simp at h
  | (n, kd) :: r, x, k, h => by
    have ih := @lookup_relabel env r x k
    show List.lookup x ((if (kd == NameKind.free && env.scope.kind == .function && env.kindOf n == some .cell) = true then (n, NameKind.cell) else (n, kd)) :: _) = _
    cases hx : x == n with
    | true =>
      simp only [List.lookup_cons, hx] at h
      cases h
      have := beq_iff_eq.mp hx
      subst this
      by_cases hc : (kd == NameKind.free && env.scope.kind == .function && env.kindOf x == some .cell) = true
      · rw [if_pos hc, if_pos hc]; simp
      · rw [if_neg hc, if_neg hc]; simp
    | false =>
      simp only [List.lookup_cons, hx] at h
      by_cases hc : (kd == NameKind.free && env.scope.kind == .function && env.kindOf n == some .cell) = true
      · rw [if_pos hc]; simp only [List.lookup_cons, hx]; exact ih h
      · rw [if_neg hc]; simp only [List.lookup_cons, hx]; exact ih h

open PySem PySem.W PyProof.Rows
section
variable {c : Cx} {A : Around} {h hb : Heap} {env : Env}

/-- only what the names x of cenv hold may turn -/
def OnlyC (scope : Scope) (cenv : Env) (h h' : Heap) : Prop :=
  ∀ b o, b ≠ cenv.locals → (∀ x k, scope.names.lookup x = some .cell → cenv.cells.lookup x = some k → b ≠ k) → h.get? b = some o → h'.get? b = some o

theorem mem_lookup_iff {names : List (Str × NameKind)} (hnd : ∀ x ∈ names, names.lookup x.1 = some x.2) {x : Str} {k : NameKind} : names.lookup x = some k ↔ (x, k) ∈ names :=
  ⟨fun e => mem_of_lookup e, fun m => hnd _ m⟩

theorem lookup_append_none {l l' : List (Str × Addr)} {x : Str} (h : l.lookup x = none) : (l ++ l').lookup x = l'.lookup x := by
  induction l with
  | nil => rfl
  | cons p r ih =>
    obtain ⟨n, k⟩ := p
    rw [List.cons_append, List.lookup_cons]
    rw [List.lookup_cons] at h
    cases hx : x == n with
    | true => rw [hx] at h; cases h
    | false => rw [hx] at h; exact ih h
theorem lookup_append_some {l l' : List (Str × Addr)} {x : Str} {k : Addr} (h : l.lookup x = some k) : (l ++ l').lookup x = some k := by
  induction l with
  | nil => cases h
  | cons p r ih =>
    obtain ⟨n, k'⟩ := p
    rw [List.cons_append, List.lookup_cons]
    rw [List.lookup_cons] at h
    cases hx : x == n with
    | true => rw [hx] at h; exact h
    | false => rw [hx] at h; exact ih h

/-- a new environment for a comprehension -/
theorem nfe {scope : Scope} {Q : Env → Heap → Prop} (F : Frm hb env h) (hnd : ∀ x ∈ scope.names, scope.names.lookup x.1 = some x.2)
    (hfree : ∀ x ∈ scope.names, x.2 = .free → (env.kindOf x.1 = some .cell ∨ env.kindOf x.1 = some .free) ∧ (env.cells.lookup x.1).isSome = true) (hkind : scope.kind = .function)
    (hq : ∀ h' ce, Keep h h' → h.get? ce.locals = none → (∀ x k, scope.names.lookup x = some .cell → ce.cells.lookup x = some k → h.get? k = none) →
      Frm hb { ce with scope := relabel scope env } h' → CEnv env scope { ce with scope := relabel scope env } → Q ce h') :
    W c A (newFunctionEnv scope env.globals (clFrom env scope.names []) [] env.qual none .none (some env)) h Q := by
  refine .mk fun tk E => ?_
  simp only [newFunctionEnv, Option.isSome_some, if_true]
  refine wpAny_bind (wpAny_alloc ?_)
  refine wpAny_bind (wpAny_layCells _ (fun name kind cells => by cases hkc : kind == NameKind.cell <;> simp [hkc]) _ _ _ _ ?_)
  rw [List.forIn_nil]
  refine wpAny_bind (wpAny_pure (wpAny_pure ⟨_, _, rfl, ?_⟩))
  show Q { scope := scope, locals := h.objs.size, globals := env.globals, cells := cellsFrom (h.push { cls := .type "dict", data := .dict #[] }).objs.size scope.names (clFrom env scope.names []), qual := env.qual, func := none, code := env.code, frame := env.frame, builtins := env.builtins }
    (pushCells (h.push { cls := .type "dict", data := .dict #[] }) scope.names)
  have hsz : (h.push { cls := .type "dict", data := .dict #[] }).objs.size = h.objs.size + 1 := Heap.size_push ..
  rw [hsz]
  have ok := cellsFrom_ok scope.names (h.push { cls := .type "dict", data := .dict #[] }) (h.objs.size + 1) [] ⟨fun _ _ hm => (nomatch hm), List.Pairwise.nil⟩ (by rw [hsz]; exact Nat.le_refl _)
  rw [hsz] at ok
  have K1 : Keep h (pushCells (h.push { cls := .type "dict", data := .dict #[] }) scope.names) := fun b o e => pushCells_keeps _ _ b o (Heap.get?_push_of_some _ e)
  have hcl : ∀ x k, (clFrom env scope.names []).lookup x = some k → env.cells.lookup x = some k :=
    clFrom_sound env scope.names [] (fun x hx hf => (hfree x hx hf).2) (fun _ _ e => by cases e)
  -- a cell of the comprehension is its own or the frame's
  have parts : ∀ x k, (cellsFrom (h.objs.size + 1) scope.names (clFrom env scope.names [])).lookup x = some k →
      ((x, k) ∈ cellsFrom (h.objs.size + 1) scope.names [] ∧ scope.names.lookup x = some .cell) ∨ ((cellsFrom (h.objs.size + 1) scope.names []).lookup x = none ∧ env.cells.lookup x = some k) := by
    intro x k e
    rw [cellsFrom_append] at e
    cases q : (cellsFrom (h.objs.size + 1) scope.names []).lookup x with
    | some k' =>
      rw [lookup_append_some q] at e
      cases e
      refine .inl ⟨mem_of_lookup q, ?_⟩
      rcases cellsFrom_mem _ _ _ _ _ (mem_of_lookup q) with m | m
      · exact hnd _ m
      · cases m
    | none => rw [lookup_append_none q] at e; exact .inr ⟨rfl, hcl x k e⟩
  have own : ∀ x k, scope.names.lookup x = some .cell → (cellsFrom (h.objs.size + 1) scope.names (clFrom env scope.names [])).lookup x = some k → (x, k) ∈ cellsFrom (h.objs.size + 1) scope.names [] := by
    intro x k hx e
    rcases parts x k e with m | m
    · exact m.1
    · exfalso
      have := cellsFrom_some (x := x) scope.names (h.objs.size + 1) [] (.inl (mem_of_lookup hx))
      rw [m.1] at this; cases this
  have fkind : ∀ x, scope.names.lookup x = some .free → List.lookup x (relabel scope env).names = some .cell ∨ List.lookup x (relabel scope env).names = some .free := by
    intro x hx
    have e : List.lookup x (relabel scope env).names = some (if (NameKind.free == NameKind.free && env.scope.kind == .function && env.kindOf x == some .cell) then .cell else NameKind.free) := by
      unfold relabel; exact lookup_relabel hx
    by_cases hc : (NameKind.free == NameKind.free && env.scope.kind == .function && env.kindOf x == some .cell) = true
    · rw [if_pos hc] at e; exact .inl e
    · rw [if_neg hc] at e; exact .inr e
  have fkey : ∀ x, scope.names.lookup x = some .free → (cellsFrom (h.objs.size + 1) scope.names (clFrom env scope.names [])).lookup x = env.cells.lookup x := by
    intro x hx
    have h1 := clFrom_some env (x := x) scope.names [] (.inl (mem_of_lookup hx))
    obtain ⟨k, hk⟩ := Option.isSome_iff_exists.mp h1
    rw [cellsFrom_append]
    have hno : (cellsFrom (h.objs.size + 1) scope.names []).lookup x = none := by
      cases q : (cellsFrom (h.objs.size + 1) scope.names []).lookup x with
      | none => rfl
      | some k' =>
        rcases cellsFrom_mem _ _ _ _ _ (mem_of_lookup q) with m | m
        · have := hnd _ m; rw [hx] at this; cases this
        · cases m
    rw [lookup_append_none hno, hk, hcl x k hk]
  refine hq _ _ K1 (fresh_none (Nat.le_refl _)) (fun x k hx e => ?_) ⟨?_, F.glob, F.bins, F.keep.trans K1, ⟨_, (Heap.Ns.new h (.type "dict")).keeps (pushCells_keeps _ _)⟩, ?_, ?_, ?_, ?_⟩ ⟨?_, ?_, ?_, ?_, ?_⟩
  · exact fresh_none (Nat.le_of_succ_le (ok.empty x k (own x k hx e)).2)
  · exact hkind
  · intro x k e
    rcases parts x k e with m | m
    · exact ⟨_, (ok.empty x k m.1).1⟩
    · obtain ⟨v, hv⟩ := F.cell x k m.2; exact ⟨v, hv.keeps K1⟩
  · intro x y k ex ey
    rcases parts x k ex with mx | mx <;> rcases parts y k ey with my | my
    · exact name_of_addr ok.apart mx.1 my.1
    · exfalso
      obtain ⟨v, hv⟩ := F.cell y k my.2
      exact absurd hv.lt (Nat.not_lt.mpr (Nat.le_of_succ_le (ok.empty x k mx.1).2))
    · exfalso
      obtain ⟨v, hv⟩ := F.cell x k mx.2
      exact absurd hv.lt (Nat.not_lt.mpr (Nat.le_of_succ_le (ok.empty y k my.1).2))
    · exact F.inj x y k mx.2 my.2
  · cases e : hb.get? h.objs.size with
    | none => rfl
    | some o => exact absurd (Heap.lt_size (F.keep _ _ e)) (Nat.lt_irrefl _)
  · intro x k e
    rcases parts x k e with m | m
    · cases e' : hb.get? k with
      | none => rfl
      | some o => exact absurd (Heap.lt_size (F.keep _ _ e')) (Nat.not_lt.mpr (Nat.le_of_succ_le (ok.empty x k m.1).2))
    · exact F.cellNew x k m.2
  · intro x hx
    show List.lookup x (relabel scope env).names = _
    unfold relabel
    exact (lookup_relabel hx).trans (by rfl)
  · intro x hx
    refine ⟨?_, ?_⟩
    · show List.lookup x (relabel scope env).names = _
      unfold relabel
      exact (lookup_relabel hx).trans (by rfl)
    · show ((cellsFrom (h.objs.size + 1) scope.names (clFrom env scope.names [])).lookup x).isSome = true
      exact cellsFrom_some _ _ _ (.inl (mem_of_lookup hx))
  · intro x hx
    show List.lookup x (relabel scope env).names = _
    unfold relabel
    exact (lookup_relabel hx).trans (by rfl)
  · intro x v h'' hx hv
    obtain ⟨hk, hs⟩ := hfree _ (mem_of_lookup hx) rfl
    rcases hv with ⟨a, _⟩ | ⟨a, z, b, d⟩
    · rcases hk with hk | hk <;> rw [hk] at a <;> cases a
    · refine .inr ⟨?_, z, (fkey x hx).trans b, d⟩
      exact fkind x hx
  · intro x hx
    obtain ⟨hk, hs⟩ := hfree _ (mem_of_lookup hx) rfl
    refine ⟨fkind x hx, ?_⟩
    show ((cellsFrom (h.objs.size + 1) scope.names (clFrom env scope.names [])).lookup x).isSome = true
    rw [fkey x hx]; exact hs
end

open PySem PySem.W PyProof.Rows
section
variable {c : Cx} {A : Around} {h hb : Heap} {env : Env}

def tests (ifs : List Expr) (env : Env) : Sem Bool :=
  forIn ifs true fun c r => if r = true then do let ok ← isTrue c env (eval c env); pure (ForInStep.yield ok) else pure (ForInStep.yield r)
theorem te_nil {Q : Bool → Heap → Prop} (hq : Q true h) : W c A (tests [] env) h Q := .mk fun _ _ => wpAny_tests_nil ⟨_, _, rfl, hq⟩
theorem te_one {e : Expr} {Q : Bool → Heap → Prop} (hq : W c A (isTrue e env (eval e env)) h Q) : W c A (tests [e] env) h Q := .mk fun tk E => wpAny_tests_one (hq.run tk E)

/-- an item stays what it is while its own object stays -/
def Stab (R : Nat → Value → Heap → Prop) : Prop := ∀ i y h h', R i y h → (∀ T, y = .ref T → ∀ o, h.get? T = some o → h'.get? T = some o) → R i y h'

theorem Paired.imp {α β : Type} {F G : α → β → Prop} (hFG : ∀ a b, F a b → G a b) : ∀ {l₁ : List α} {l₂ : List β}, Paired F l₁ l₂ → Paired G l₁ l₂
  | _, _, .nil => .nil
  | _, _, .cons a r => .cons (hFG _ _ a) (Paired.imp hFG r)

theorem comp_loop {elt target iter : Expr} {ifs : List Expr} {scope : Scope} {pos : Pos} {cenv : Env} {I D : Addr} {h₁ : Heap} {n : Nat} {P : Nat → Value → Prop} {St : Nat → Heap → Prop} {p : Nat → Bool} {R : Nat → Value → Heap → Prop}
    (hR : Stab R) (kb : Keep hb h₁) (It : Iter c A h₁ I n P St) (hst : St 0 h) (k1 : Keep h₁ h) (F : Frm hb cenv h) (hD : h.PlainList D #[]) (hDn : h₁.get? D = none) (hn : n ≤ 1000)
    (hC : h₁.get? cenv.locals = none) (hCc : ∀ x k, scope.names.lookup x = some .cell → cenv.cells.lookup x = some k → h₁.get? k = none)
    (hDC : D ≠ cenv.locals) (hDc : ∀ x k, cenv.cells.lookup x = some k → D ≠ k) (hDI : D ≠ I) (hIC : I ≠ cenv.locals) (hIc : ∀ x k, cenv.cells.lookup x = some k → I ≠ k)
    (turn : ∀ i v hh, i < n → P i v → Keep h₁ hh → Frm hb cenv hh → W c A (assign target cenv v) hh (fun _ h₂ => Frm hb cenv h₂ ∧ OnlyC scope cenv hh h₂ ∧
      W c A (tests ifs cenv) h₂ (fun ok h₃ => Keep h₂ h₃ ∧ ok = p i ∧ (ok = true → W c A (eval elt cenv) h₃ (fun y h₄ => Keep h₃ h₄ ∧ R i y h₄ ∧ ∀ T, y = .ref T → h₃.get? T = none ∨ ∃ o, h₁.get? T = some o))))) :
    WC c A (.compLoop (.ListComp elt [⟨target, iter, ifs, 0⟩] scope pos) 0 (.ref I) (.ref D) cenv) h
      (fun f h' => f = .next ∧ ∃ ys, Keep h₁ h' ∧ Frm hb cenv h' ∧ h'.PlainList D ys.toArray ∧ Paired (fun i y => R i y h' ∧ ∀ T, y = .ref T → T ≠ cenv.locals) ((List.range n).filter p) ys) := by
  obtain ⟨hIf, ⟨fp, Wk, hfp⟩, hlive, hlet⟩ := It
  let Safe : Value → Prop := fun y => ∀ T, y = .ref T → T ≠ I ∧ T ≠ D ∧ T ≠ cenv.locals ∧ ∀ x k, scope.names.lookup x = some .cell → cenv.cells.lookup x = some k → T ≠ k
  let Inv : Nat → Heap → Prop := fun i h' => ∃ ys, Keep h₁ h' ∧ Frm hb cenv h' ∧ h'.PlainList D ys.toArray ∧ Paired (fun i y => R i y h' ∧ Safe y) ((List.range i).filter p) ys ∧ St i h'
  refine .mk fun tk => ?_
  refine codeAny_loop (A := A) rfl (fun k s => ∃ i h' tk', s = ⟨h', c.g, c.d, tk' + 1, c.os⟩ ∧ i ≤ n ∧ k = n + 1 - i ∧ Inv i h') (fun k s hI => ?_) (n + 1) ⟨0, _, _, rfl, Nat.zero_le _, rfl, [], k1, F, by simpa using hD, by simpa using Paired.nil, hst⟩
  obtain ⟨i, h', tk', rfl, hi, rfl, ys, ki, Fi, Di, Pi, sti⟩ := hI
  show wpAny _ A ((compTurn (.ListComp elt [⟨target, iter, ifs, 0⟩] scope pos) 0 (.ref I) (.ref D) cenv).onRaise (fun x => do noteFrame x cenv; theTreesLotGoes x)) _ _ _
  refine wpAny_onRaise ?_
  rw [compTurn_list]
  refine wpAny_bind (wpAny_standAt (wpAny_bind ?_))
  have hIw : I ∈ fp := Wk.sub I (by simp)
  by_cases hlt : i < n
  · refine wk_item Wk i hlt sti fun v h₃ t3 hP hst₃ hk₃ => ?_
    dsimp only
    have k3 : ∀ b o, b ≠ I → h'.get? b = some o → h₃.get? b = some o := fun b o hb e => hk₃ b o (by simpa using hb) e
    have kk3 : Keep h₁ h₃ := fun b o e => k3 b o (by rintro rfl; rw [hIf] at e; cases e) (ki b o e)
    have F3 : Frm hb cenv h₃ := by
      refine ⟨Fi.kind, Fi.glob, Fi.bins, fun b o e => ?_, ?_, fun x k e => ?_, Fi.inj, Fi.nsNew, Fi.cellNew⟩
      · exact k3 b o (by rintro rfl; have := kb b o e; rw [hIf] at this; cases this) (Fi.keep b o e)
      · obtain ⟨m, hm⟩ := Fi.ns
        exact ⟨m, hm.at' fun o e => k3 _ o (Ne.symm hIC) e⟩
      · obtain ⟨u, o, ho, hd⟩ := Fi.cell x k e
        exact ⟨u, o, k3 _ o (Ne.symm (hIc x k e)) ho, hd⟩
    have D3 : h₃.PlainList D ys.toArray := Di.at fun o e => k3 _ o hDI e
    refine wpAny_bind (W.go (hlet (i + 1) h₃ target v (fun _ hh => hh = h₃) hst₃ rfl) fun _ h₃' t3' e3 => ?_)
    subst e3
    refine wpAny_bind (W.go (turn i v h₃' hlt hP kk3 F3) fun _ h₄ t4 h4 => ?_)
    obtain ⟨F4, O4, T4⟩ := h4
    have o4 : ∀ b o, b ≠ cenv.locals → (∀ x k, scope.names.lookup x = some .cell → cenv.cells.lookup x = some k → b ≠ k) → h₃'.get? b = some o → h₄.get? b = some o := O4
    have kk4 : Keep h₁ h₄ := fun b o e => o4 b o (by rintro rfl; rw [hC] at e; cases e) (fun x k hx hk => by rintro rfl; rw [hCc x b hx hk] at e; cases e) (kk3 b o e)
    have D4 : h₄.PlainList D ys.toArray := D3.at fun o e => o4 _ o hDC (fun x k _ hk => hDc x k hk) e
    have st4 : St (i + 1) h₄ := Wk.frame _ _ _ hst₃ fun b hb o e => by
      rcases hfp b hb with rfl | ⟨o', e'⟩
      · exact o4 b o hIC (fun x k _ hk => hIc x k hk) e
      · exact o4 b o (by rintro rfl; rw [hC] at e'; cases e') (fun x k hx hk => by rintro rfl; rw [hCc x b hx hk] at e'; cases e') e
    have up4 : ∀ y, Safe y → ∀ T, y = .ref T → ∀ o, h'.get? T = some o → h₄.get? T = some o := fun y hy T hT o e =>
      o4 T o (hy T hT).2.2.1 (hy T hT).2.2.2 (k3 T o (hy T hT).1 e)
    refine wpAny_bind (W.go (show W c A (tests ifs cenv) h₄ _ from T4) fun ok h₅ t5 h5 => ?_)
    obtain ⟨k5, hok, E5⟩ := h5
    have hrange : (List.range (i + 1)).filter p = (List.range i).filter p ++ (if p i then [i] else []) := by
      rw [List.range_succ, List.filter_append]
      cases hp : p i <;> simp [hp]
    cases ok with
    | false =>
      refine wpAny_pure ⟨rfl, n + 1 - (i + 1), by omega, i + 1, h₅, _, rfl, hlt, rfl, ys, kk4.trans k5, k5.frm F4, k5.pl D4, ?_, Wk.frame _ _ _ st4 fun b _ o e => k5 b o e⟩
      rw [hrange, ← hok]
      simp only [Bool.false_eq_true, if_false, List.append_nil]
      exact Paired.imp (fun j y hj => ⟨hR j y _ _ hj.1 fun T hT o e => k5 T o (up4 y hj.2 T hT o e), hj.2⟩) Pi
    | true =>
      refine wpAny_bind (wpAny_bind (W.go (E5 rfl) fun y h₆ t6 h6 => ?_))
      obtain ⟨k6, hRy, hT⟩ := h6
      have hSy : Safe y := by
        intro T e
        have hex : ∀ b, (∃ o, h₅.get? b = some o) → h₁.get? b = none → T ≠ b := by
          rintro b ⟨o, ho⟩ hb1 rfl
          rcases hT T e with h0 | ⟨o', h0⟩
          · rw [ho] at h0; cases h0
          · rw [hb1] at h0; cases h0
        have F5 := k5.frm F4
        refine ⟨hex I ?_ hIf, hex D ?_ hDn, hex _ ?_ hC, fun x k hx hk => hex k ?_ (hCc x k hx hk)⟩
        · obtain ⟨o, _, ho, _⟩ := hlive (i + 1) h₅ (Wk.frame _ _ _ st4 fun b _ o e => k5 b o e); exact ⟨o, ho⟩
        · obtain ⟨m, e⟩ := k5.pl D4; exact ⟨_, e⟩
        · obtain ⟨m, o, es, ep, e, _⟩ := F5.ns; exact ⟨o, e⟩
        · obtain ⟨u, o, e, _⟩ := F5.cell x k hk; exact ⟨o, e⟩
      have lys : ys.length ≤ 1000 := by
        have e1 := Pi.length
        have e2 : ((List.range i).filter p).length ≤ (List.range i).length := List.length_filter_le _ _
        rw [List.length_range] at e2
        omega
      have hsz : sizeLine = 2 ^ 24 := rfl
      refine wpAny_bind (wpAny_list_append_plain (hsz := by simp; omega) (k6.pl (k5.pl D4)) fun h₇ hl7 hs7 => ?_)
      have k7 : ∀ b o, b ≠ D → h₆.get? b = some o → h₇.get? b = some o := fun b o hb e => hs7.extBut b o hb e
      have F6 := k6.frm (k5.frm F4)
      refine wpAny_pure (wpAny_pure ⟨rfl, n + 1 - (i + 1), by omega, i + 1, h₇, _, rfl, hlt, rfl, ys ++ [y], ?_, ?_, ?_, ?_, ?_⟩)
      · exact fun b o e => k7 b o (by rintro rfl; rw [hDn] at e; cases e) (k6 b o (k5 b o (kk4 b o e)))
      · refine ⟨F6.kind, F6.glob, F6.bins, fun b o e => k7 b o ?_ (F6.keep b o e), ?_, fun x k e => ?_, F6.inj, F6.nsNew, F6.cellNew⟩
        · rintro rfl; have := kb b o e; rw [hDn] at this; cases this
        · obtain ⟨m, hm⟩ := F6.ns
          exact ⟨m, hm.at' fun o e => k7 _ o (Ne.symm hDC) e⟩
        · obtain ⟨u, o, ho, hd⟩ := F6.cell x k e
          exact ⟨u, o, k7 _ o (Ne.symm (hDc x k e)) ho, hd⟩
      · simpa using hl7
      · rw [hrange, ← hok]
        simp only [if_true]
        refine Paired.snoc (Paired.imp (fun j z hj => ⟨hR j z _ _ hj.1 fun T hT o e => k7 T o (hj.2 T hT).2.1 (k6 T o (k5 T o (up4 z hj.2 T hT o e))), hj.2⟩) Pi) ⟨hR i y _ _ hRy fun T hT o e => k7 T o (hSy T hT).2.1 e, hSy⟩
      · refine Wk.frame _ _ _ st4 fun b hb o e => k7 b o ?_ (k6 b o (k5 b o e))
        rcases hfp b hb with rfl | ⟨o', e'⟩
        · exact Ne.symm hDI
        · rintro rfl; rw [hDn] at e'; cases e'
  · have e : i = n := by omega
    subst e
    refine wk_done Wk sti fun h₃ t3 hk₃ => ?_
    have k3 : ∀ b o, b ≠ I → h'.get? b = some o → h₃.get? b = some o := fun b o hb e => hk₃ b o (by simpa using hb) e
    refine wpAny_pure ⟨_, _, _, rfl, rfl, rfl, ys, ?_, ?_, Di.at fun o e => k3 _ o hDI e, ?_⟩
    · exact fun b o e => k3 b o (by rintro rfl; rw [hIf] at e; cases e) (ki b o e)
    · refine ⟨Fi.kind, Fi.glob, Fi.bins, fun b o e => ?_, ?_, fun x k e => ?_, Fi.inj, Fi.nsNew, Fi.cellNew⟩
      · exact k3 b o (by rintro rfl; have := kb b o e; rw [hIf] at this; cases this) (Fi.keep b o e)
      · obtain ⟨m, hm⟩ := Fi.ns
        exact ⟨m, hm.at' fun o e => k3 _ o (Ne.symm hIC) e⟩
      · obtain ⟨u, o, ho, hd⟩ := Fi.cell x k e
        exact ⟨u, o, k3 _ o (Ne.symm (hIc x k e)) ho, hd⟩
    · exact Paired.imp (fun j y hj => ⟨hR j y _ _ hj.1 fun T hT o e => k3 T o (hj.2 T hT).1 e, fun T hT => (hj.2 T hT).2.2.1⟩) Pi
end

open PySem PySem.W PyProof.Rows
section
variable {c : Cx} {A : Around} {h hb : Heap} {env : Env}

theorem st_only {x : Str} {v : Value} {Q : Unit → Heap → Prop} (F : Frm hb env h) (hx : env.kindOf x = some .local ∨ (env.kindOf x = some .cell ∧ (env.cells.lookup x).isSome = true))
    (hq : ∀ h', Frm hb env h' → Var env h' x v → Upd env h h' x → (∀ b o, (env.kindOf x = some .local → b ≠ env.locals) → (env.kindOf x = some .cell → env.cells.lookup x ≠ some b) → h.get? b = some o → h'.get? b = some o) → Q () h') :
    W c A (storeName env x v) h Q := by
  refine .mk fun tk E => ?_
  obtain ⟨m₀, hm₀⟩ := F.ns
  rcases hx with hx | ⟨hx, hc⟩
  · refine wpAny_storeName_local hx hm₀ (fun h' hn' hs' => ⟨_, _, rfl, hq h' ?_ ?_ ?_ ?_⟩) (by rw [F.kind]; rfl)
    · refine ⟨F.kind, F.glob, F.bins, fun b o e => hs'.extBut b o ?_ (F.keep b o e), ⟨_, hn'⟩, fun y k e => ?_, F.inj, F.nsNew, F.cellNew⟩
      · rintro rfl; rw [F.nsNew] at e; cases e
      · obtain ⟨u, z⟩ := F.cell y k e; exact ⟨u, z.sameBut hs' (Ns_ne_cell hm₀ z)⟩
    · exact .inl ⟨hx, _, hn', by simp⟩
    · intro y u hy z
      rcases z with ⟨a, m, b, d⟩ | ⟨a, k, b, d⟩
      · refine .inl ⟨a, _, hn', ?_⟩
        rw [if_neg hy, Ns_unique hm₀ b]; exact d
      · exact .inr ⟨a, k, b, d.sameBut hs' (Ns_ne_cell hm₀ d)⟩
    · intro b o h1 _ e
      exact hs'.extBut b o (h1 hx) e
  · obtain ⟨k, hk⟩ := Option.isSome_iff_exists.mp hc
    obtain ⟨v₀, hv₀⟩ := F.cell x k hk
    refine wpAny_storeName_cell F.kind hx hk hv₀ fun h' hc' hs' => ⟨_, _, rfl, hq h' ?_ ?_ ?_ ?_⟩
    · refine ⟨F.kind, F.glob, F.bins, fun b o e => hs'.extBut b o ?_ (F.keep b o e), ⟨_, hm₀.sameBut hs' (Ne.symm (Ns_ne_cell hm₀ hv₀))⟩, fun y k' e => ?_, F.inj, F.nsNew, F.cellNew⟩
      · rintro rfl; rw [F.cellNew x b hk] at e; cases e
      · by_cases hkk : k' = k
        · subst hkk; exact ⟨_, hc'⟩
        · obtain ⟨u, z⟩ := F.cell y k' e; exact ⟨u, z.sameBut hs' hkk⟩
    · exact .inr ⟨.inl hx, k, hk, hc'⟩
    · intro y u hy z
      rcases z with ⟨a, m, b, d⟩ | ⟨a, k', b, d⟩
      · exact .inl ⟨a, m, b.sameBut hs' (Ne.symm (Ns_ne_cell hm₀ hv₀)), d⟩
      · exact .inr ⟨a, k', b, d.sameBut hs' (by rintro rfl; exact hy (F.inj y x k' b hk))⟩
    · intro b o _ h2 e
      exact hs'.extBut b o (by rintro rfl; exact h2 hx hk) e

theorem W.bindName {x : Str} {v : Value} {Q : Unit → Heap → Prop} (hx : W c A (storeName env x v) h Q) : W c A (bindName env x v) h Q :=
  .mk fun tk E => wpAny_bindName (hx.run tk E)

/-- a loop's own name takes its item -/
theorem as_name {scope : Scope} {cenv : Env} {x : Str} {px : Pos} {v : Value} {Q : Unit → Heap → Prop} (CE : CEnv env scope cenv) (F : Frm hb cenv h) (hx : scope.names.lookup x = some .local ∨ scope.names.lookup x = some .cell)
    (hq : ∀ h', Frm hb cenv h' → OnlyC scope cenv h h' → Var cenv h' x v → Upd cenv h h' x → Q () h') : W c A (assign (.Name x px) cenv v) h Q := by
  have key : W c A (storeName cenv x v) h Q := by
    refine st_only F ?_ fun h' F' V' U' O' => hq h' F' (fun b o hb hc e => O' b o (fun _ => hb) (fun hk hl => ?_) e) V' U'
    · rcases hx with hx | hx
      · exact .inl (CE.loc x hx)
      · exact .inr (CE.cel x hx)
    · rcases hx with hx | hx
      · rw [CE.loc x hx] at hk; cases hk
      · exact hc x b hx hl rfl
  exact .mk fun tk E => wpAny_assign_Name (key.run tk E)

/-- all that a comprehension asks of its scope (by computation) -/
def scOk (scope : Scope) : Bool := (scope.names.all fun x => scope.names.lookup x.1 == some x.2) && scope.kind == .function
theorem scOk_nd {scope : Scope} (hs : scOk scope = true) : ∀ x ∈ scope.names, scope.names.lookup x.1 = some x.2 := by
  simp only [scOk, Bool.and_eq_true, List.all_eq_true] at hs
  intro x hx; simpa using hs.1 x hx
theorem scOk_kind {scope : Scope} (hs : scOk scope = true) : scope.kind = .function := by
  simp only [scOk, Bool.and_eq_true] at hs
  simpa using hs.2

/-- the names that it takes from outside -/
def FreeOk (env : Env) (scope : Scope) : Prop := ∀ x ∈ scope.names, x.2 = .free → (env.kindOf x.1 = some .cell ∨ env.kindOf x.1 = some .free) ∧ (env.cells.lookup x.1).isSome = true

/-- what a comprehension does: its items, its tests -/
def CompDo (c : Cx) (A : Around) (hb : Heap) (env : Env) (scope : Scope) (elt target : Expr) (ifs : List Expr) (h₁ h₂ : Heap) (it : Value) (n : Nat) (p : Nat → Bool) (R : Nat → Value → Heap → Prop) : Prop :=
  ∃ I P St, it = .ref I ∧ Keep h₁ h₂ ∧ Iter c A h₁ I n P St ∧ St 0 h₂ ∧ n ≤ 1000 ∧ Stab R ∧
    ∀ cenv, CEnv env scope cenv → ∀ i v hh, i < n → P i v → Keep h₁ hh → Frm hb cenv hh → W c A (assign target cenv v) hh (fun _ h₂ => Frm hb cenv h₂ ∧ OnlyC scope cenv hh h₂ ∧
      W c A (tests ifs cenv) h₂ (fun ok h₃ => Keep h₂ h₃ ∧ ok = p i ∧ (ok = true → W c A (eval elt cenv) h₃ (fun y h₄ => Keep h₃ h₄ ∧ R i y h₄ ∧ ∀ T, y = .ref T → h₃.get? T = none ∨ ∃ o, h₁.get? T = some o))))

theorem comp_mid {elt target iter : Expr} {ifs : List Expr} {scope : Scope} {pos : Pos} {h₁ h₂ : Heap} {it : Value} {n : Nat} {p : Nat → Bool} {R : Nat → Value → Heap → Prop} (hsc : scOk scope = true) (hfr : FreeOk env scope)
    (F : Frm hb env h₁) (hdo : CompDo c A hb env scope elt target ifs h₁ h₂ it n p R) {Q : Value → Env → Heap → Prop}
    (hq : ∀ D ce h', Keep h₁ h' → h₁.get? D = none → h₁.get? ce.locals = none → D ≠ ce.locals → (∃ m, h'.Ns ce.locals m) → (∃ ys, h'.PlainList D ys.toArray ∧ Paired (fun i y => R i y h' ∧ ∀ T, y = .ref T → T ≠ ce.locals) ((List.range n).filter p) ys) → Q (.ref D) ce h')
    {E : Value → Shared → Prop} {tk : Nat} {RR : Value → Addr → Result → Shared → Prop} (hRR : ∀ v ce h' tk', Q v ce h' → RR v ce.locals (.ok .next) ⟨h', c.g, c.d, tk' + 1, c.os⟩) :
    wpAny (model c.prog c.w) A (newList []) (fun acc s₃ => wpAny (model c.prog c.w) A (newFunctionEnv scope env.globals (clFrom env scope.names []) [] env.qual none .none (some env)) (fun cenv s₄ =>
      codeAny (model c.prog c.w) A (.compStart (.ListComp elt [⟨target, iter, ifs, 0⟩] scope pos) 0 it acc { cenv with scope := relabel scope env }) (RR acc cenv.locals) s₄) E s₃) E ⟨h₂, c.g, c.d, tk + 1, c.os⟩ := by
  obtain ⟨I, P, St, rfl, k2, It, hst, hn, hR, turn⟩ := hdo
  refine wpAny_newObj_type ?_
  dsimp only
  generalize hH3 : h₂.push { cls := .type "list", data := .seq ([] : List Value).toArray } = H3
  have kD : Keep h₂ H3 := hH3 ▸ Keep.push _ _
  have F3 := kD.frm (k2.frm F)
  have hD3 : H3.PlainList h₂.objs.size #[] := hH3 ▸ pl_new _ _
  have hDn2 : h₂.get? h₂.objs.size = none := fresh_none (Nat.le_refl _)
  have up : ∀ b, h₂.get? b = none → h₁.get? b = none := fun b e => by
    cases q : h₁.get? b with
    | none => rfl
    | some o => rw [k2 b o q] at e; cases e
  refine W.go (nfe F3 (scOk_nd hsc) hfr (scOk_kind hsc) (Q := fun ce h₄ => Keep H3 h₄ ∧ H3.get? ce.locals = none ∧
    (∀ x k, scope.names.lookup x = some .cell → ce.cells.lookup x = some k → H3.get? k = none) ∧ Frm hb { ce with scope := relabel scope env } h₄ ∧ CEnv env scope { ce with scope := relabel scope env })
    fun h' ce a1 a2 a3 a4 a5 => ⟨a1, a2, a3, a4, a5⟩) fun ce h₄ t4 h4 => ?_
  obtain ⟨k4, hC4, hc4, F4, CE⟩ := h4
  have up3 : ∀ b, H3.get? b = none → h₁.get? b = none := fun b e => by
    cases q : h₁.get? b with
    | none => rfl
    | some o => rw [kD b o (k2 b o q)] at e; cases e
  obtain ⟨oI, vI, hoI, hdI⟩ := It.live 0 h₂ hst
  obtain ⟨mD, hoD⟩ := hD3
  have hDC : h₂.objs.size ≠ ce.locals := by rintro e; rw [← e, hoD] at hC4; cases hC4
  have hIC : I ≠ ce.locals := by rintro e; rw [← e, kD _ _ hoI] at hC4; cases hC4
  have hDI : h₂.objs.size ≠ I := by rintro e; rw [← e, hDn2] at hoI; cases hoI
  have hst4 : St 0 h₄ := by
    obtain ⟨fp, Wk, _⟩ := It.fp
    exact Wk.frame _ _ _ hst fun b _ o e => k4 b o (kD b o e)
  have loop : WC c A (.compLoop (.ListComp elt [⟨target, iter, ifs, 0⟩] scope pos) 0 (.ref I) (.ref h₂.objs.size) { ce with scope := relabel scope env }) h₄ (fun f h' => f = .next ∧ Q (.ref h₂.objs.size) ce h') := by
    refine WC.mono (comp_loop hR F.keep It hst4 (k2.trans (kD.trans k4)) F4 ⟨mD, k4 _ _ hoD⟩ (up _ hDn2) hn (up3 _ hC4) (fun x k hx hk => up3 _ (hc4 x k hx hk)) hDC ?_ hDI hIC ?_ (turn _ CE)) ?_
    · rintro x k e rfl
      obtain ⟨u, o, ho, hd⟩ := F4.cell x _ e
      rw [k4 _ _ hoD] at ho; cases ho; cases hd
    · rintro x k e rfl
      obtain ⟨u, o, ho, hd⟩ := F4.cell x _ e
      rw [k4 _ _ (kD _ _ hoI)] at ho; cases ho; rw [hdI] at hd; cases hd
    · rintro f h' ⟨rfl, ys, ki, Fi, Di, Pi⟩
      exact ⟨rfl, hq _ ce h' ki (up _ hDn2) (up3 _ hC4) hDC Fi.ns ⟨ys, Di, Pi⟩⟩
  have fin : ∀ tk', codeAny (model c.prog c.w) A (.compLoop (.ListComp elt [⟨target, iter, ifs, 0⟩] scope pos) 0 (.ref I) (.ref h₂.objs.size) { ce with scope := relabel scope env }) (RR (.ref h₂.objs.size) ce.locals) ⟨h₄, c.g, c.d, tk' + 1, c.os⟩ :=
    fun tk' => loop.go fun f h' t' hf => by obtain ⟨rfl, hf⟩ := hf; exact hRR _ _ _ _ hf
  refine codeAny_compStart_list (fin _) ?_
  obtain ⟨fp, Wk, _⟩ := It.fp
  exact Wk.self 0 _ _ _ hst4 (fin _)

theorem ev_comp {elt target iter : Expr} {ifs : List Expr} {scope : Scope} {pos : Pos} {Q : Value → Heap → Prop} (F : Frm hb env h) (hsc : scOk scope = true) (hfr : FreeOk env scope)
    (hx : W c A (eval iter env) h (fun v h₁ => Keep h h₁ ∧ W c A (pyIter v) h₁ (fun it h₂ => ∃ n p R, CompDo c A hb env scope elt target ifs h₁ h₂ it n p R ∧
      ∀ D ys h', Keep h₁ h' → h₁.get? D = none → h'.PlainList D ys.toArray → Paired (fun i y => R i y h') ((List.range n).filter p) ys → Q (.ref D) h')))
    (hs : ∀ x, foldedSetIterable iter env x = pure x := by intro _; rfl) :
    W c A (eval (.ListComp elt [⟨target, iter, ifs, 0⟩] scope pos) env) h Q := by
  refine .mk fun tk E => ?_
  rw [eval_ListComp]
  refine wpAny_comprehension_free (use := none) rfl hs (closureFor_eq fun x hx hf => (hfr x hx hf).2) (scOk_kind hsc) (fun x hx hl => by rw [scOk_nd hsc x hx, hl]) ?_
  refine hx.go fun v h₁ t1 hv => W.go hv.2 fun it h₂ t2 h2 => ?_
  obtain ⟨n, p, R, hdo, fin⟩ := h2
  have hR : Stab R := by obtain ⟨_, _, _, _, _, _, _, _, hR, _⟩ := hdo; exact hR
  refine comp_mid hsc hfr (hv.1.frm F) hdo (Q := fun v ce h' => (∃ m, h'.Ns ce.locals m) ∧ ∀ h'', Heap.SameBut ce.locals h' h'' → Q v h'') ?_ (RR := compPost (model c.prog c.w) A E none _) (fun v ce h' tk' hq => ?_)
  · rintro D ce h' k hD hC hDC hns ⟨ys, Dl, Pr⟩
    refine ⟨hns, fun h'' hs'' => fin D ys h'' (fun b o e => hs''.extBut b o (by rintro rfl; rw [hC] at e; cases e) (k b o e)) hD (Dl.extBut hs''.extBut hDC) ?_⟩
    exact Paired.imp (fun i y hy => hR i y _ _ hy.1 fun T hT o e => hs''.extBut T o (hy.2 T hT) e) Pr
  · obtain ⟨⟨m, hm⟩, hq⟩ := hq
    exact ⟨m, hm, fun h'' hs'' => ⟨_, _, rfl, hq h'' hs''⟩⟩

/-- y = [..], where the store is exchanged with the letting go of the loop's names -/
theorem ex_comp {elt target iter : Expr} {ifs : List Expr} {scope : Scope} {pos spos py : Pos} {y : Str} {Q : Flow → Heap → Prop} (F : Frm hb env h) (hsc : scOk scope = true) (hfr : FreeOk env scope) (hy : env.kindOf y = some .local)
    (hsw : swapsWith (.ListComp elt [⟨target, iter, ifs, 0⟩] scope pos) (some (.Name y py)) spos.line env = pure true)
    (hx : W c A (eval iter env) h (fun v h₁ => Keep h h₁ ∧ W c A (pyIter v) h₁ (fun it h₂ => ∃ n p R, CompDo c A hb env scope elt target ifs h₁ h₂ it n p R ∧ (∀ i y h T, R i y h → y = .ref T → ∃ o, h.get? T = some o ∧ Obj.hard o) ∧
      ∀ D ys h', Frm hb env h' → Var env h' y (.ref D) → Upd env h₁ h' y → KeepH h₁ h' → h₁.get? D = none → h'.PlainList D ys.toArray → Paired (fun i y => R i y h') ((List.range n).filter p) ys → Q .next h')))
    (hs : ∀ x, foldedSetIterable iter env x = pure x := by intro _; rfl) :
    W c A (exec (.Assign [.Name y py] (.ListComp elt [⟨target, iter, ifs, 0⟩] scope pos) spos) env) h Q := by
  refine .mk fun tk E => ?_
  rw [exec_Assign_Name_used _ _ _ _ hsw]
  refine wpAny_bind (wpAny_standAt (wpAny_bind ?_))
  show wpAny _ A (do let _ ← comprehension (.ListComp elt [⟨target, iter, ifs, 0⟩] scope pos) scope env _ (newList []) false (eval iter env) (some (assign (.Name y py) env))) _ _ _
  refine wpAny_bind (wpAny_mono (wpAny_comprehension_free (use := some (assign (.Name y py) env)) (Q := fun _ s' => ∃ h' tk', s' = ⟨h', c.g, c.d, tk', c.os⟩ ∧ Q .next h') rfl hs (closureFor_eq fun x hx hf => (hfr x hx hf).2) (scOk_kind hsc) (fun x hx hl => by rw [scOk_nd hsc x hx, hl]) ?_) (fun _ s' hq => wpAny_pure (wpAny_pure hq)) fun _ _ e => e)
  refine hx.go fun v h₁ t1 hv => W.go hv.2 fun it h₂ t2 h2 => ?_
  obtain ⟨n, p, R, hdo, hard, fin⟩ := h2
  have hR : Stab R := by obtain ⟨_, _, _, _, _, _, _, _, hR, _⟩ := hdo; exact hR
  have F1 := hv.1.frm F
  refine comp_mid hsc hfr F1 hdo (Q := fun v ce h0 => ∃ D, v = .ref D ∧ Keep h₁ h0 ∧ h₁.get? D = none ∧ h₁.get? ce.locals = none ∧ D ≠ ce.locals ∧ (∃ m, h0.Ns ce.locals m) ∧
    (∃ ys, h0.PlainList D ys.toArray ∧ Paired (fun i y => R i y h0 ∧ ∀ T, y = .ref T → T ≠ ce.locals) ((List.range n).filter p) ys)) (fun D ce h' a1 a2 a3 a4 a5 a6 => ⟨D, rfl, a1, a2, a3, a4, a5, a6⟩) (RR := compPost (model c.prog c.w) A E (some (assign (.Name y py) env)) _) (fun v ce h0 tk' hq => ?_)
  obtain ⟨D, rfl, k0, hD, hC, hDC, ⟨m, hns⟩, ys, Dl, Pr⟩ := hq
  have F0 := k0.frm F1
  obtain ⟨mL, hL1⟩ := F1.ns
  have hLC : env.locals ≠ ce.locals := by rintro e; obtain ⟨o, _, _, ho, _⟩ := hL1; rw [e, hC] at ho; cases ho
  have hDL : D ≠ env.locals := by rintro rfl; obtain ⟨o, _, _, ho, _⟩ := hL1; rw [hD] at ho; cases ho
  have hcC : ∀ x k, env.cells.lookup x = some k → k ≠ ce.locals := by
    rintro x k e rfl
    obtain ⟨u, o, ho, _⟩ := F1.cell x _ e
    rw [hC] at ho; cases ho
  show wpAny _ A (assign (.Name y py) env (.ref D)) _ _ _
  refine wpAny_assign_Name (W.go (st_only (x := y) (v := .ref D) F0 (.inl hy) (Q := fun _ h3 => Frm hb env h3 ∧ Var env h3 y (.ref D) ∧ Upd env h0 h3 y ∧ ∀ b o, b ≠ env.locals → h0.get? b = some o → h3.get? b = some o)
    fun h' F' V' U' O' => ⟨F', V', U', fun b o hb e => O' b o (fun _ => hb) (fun hk => by rw [hy] at hk; cases hk) e⟩) fun _ h3 t3 h3' => ?_)
  obtain ⟨F3, V3, U3, O3⟩ := h3'
  refine ⟨m, hns.at' fun o e => O3 _ o (Ne.symm hLC) e, fun h4 hs4 => ⟨_, _, rfl, ?_⟩⟩
  have k4 : ∀ b o, b ≠ ce.locals → h3.get? b = some o → h4.get? b = some o := fun b o hb e => hs4.extBut b o hb e
  have V4 : ∀ z u, Var env h3 z u → Var env h4 z u := by
    rintro z u (⟨a, mm, b, d⟩ | ⟨a, k, b, o, ho, hd⟩)
    · exact .inl ⟨a, mm, b.at' fun o e => k4 _ o hLC e, d⟩
    · exact .inr ⟨a, k, b, o, k4 _ o (hcC z k b) ho, hd⟩
  refine fin D ys h4 ⟨F3.kind, F3.glob, F3.bins, fun b o e => k4 b o ?_ (F3.keep b o e), ?_, fun x k e => ?_, F3.inj, F3.nsNew, F3.cellNew⟩ (V4 _ _ V3) (fun z u hz hv => V4 _ _ (U3 z u hz (k0.var hv))) ?_ hD ?_ ?_
  · rintro rfl; have := F1.keep _ o e; rw [hC] at this; cases this
  · obtain ⟨mm, hm⟩ := F3.ns; exact ⟨mm, hm.at' fun o e => k4 _ o hLC e⟩
  · obtain ⟨u, o, ho, hd⟩ := F3.cell x k e; exact ⟨u, o, k4 _ o (hcC x k e) ho, hd⟩
  · intro b o hard e
    refine k4 b o (by rintro rfl; rw [hC] at e; cases e) (O3 b o ?_ (k0 b o e))
    rintro rfl
    obtain ⟨o', _, _, ho', hd', _⟩ := hL1
    rw [e] at ho'; cases ho'; exact hard.1 _ _ hd'
  · exact Dl.at fun o e => k4 _ o hDC (O3 _ o hDL e)
  · refine Paired.imp (fun i z hz => hR i z _ _ hz.1 fun T hT o e => k4 T o (hz.2 T hT) (O3 T o ?_ e)) Pr
    rintro rfl
    obtain ⟨o1, e1, hh⟩ := hard i z h0 _ hz.1 hT
    obtain ⟨o', _, _, ho', hd', _⟩ := hL1
    rw [k0 _ _ ho'] at e1; cases e1; exact hh.1 _ _ hd'
end

open PySem PySem.W PyProof.Rows
section
variable {c : Cx} {A : Around} {h hb : Heap} {env : Env}

/-- all but the one list stays -/
def KeepB (l : Addr) (h h' : Heap) : Prop := ∀ b o, b ≠ l → h.get? b = some o → h'.get? b = some o
theorem pl_ne_ns {h : Heap} {l a : Addr} {vs : Array Value} {m} (p : h.PlainList l vs) (n : h.Ns a m) : a ≠ l := by
  rintro rfl
  obtain ⟨k, e⟩ := p
  obtain ⟨o, es, ep, ho, hd, _⟩ := n
  rw [e] at ho; cases ho; cases hd
theorem pl_ne_cell {h : Heap} {l a : Addr} {vs : Array Value} {v} (p : h.PlainList l vs) (n : h.IsCell a v) : a ≠ l := by
  rintro rfl
  obtain ⟨k, e⟩ := p
  obtain ⟨o, ho, hd⟩ := n
  rw [e] at ho; cases ho; cases hd
theorem KeepB.var {h h' : Heap} {l : Addr} {vs : Array Value} (k : KeepB l h h') (p : h.PlainList l vs) {x : Str} {v : Value} (y : Var env h x v) : Var env h' x v := by
  rcases y with ⟨a, m, b, d⟩ | ⟨a, z, b, o, ho, hd⟩
  · exact .inl ⟨a, m, b.at' fun o e => k _ o (pl_ne_ns p b) e, d⟩
  · exact .inr ⟨a, z, b, o, k _ o (pl_ne_cell p ⟨o, ho, hd⟩) ho, hd⟩
theorem KeepB.frm {h h' : Heap} {l : Addr} {vs : Array Value} (k : KeepB l h h') (p : h.PlainList l vs) (hn : hb.get? l = none) (F : Frm hb env h) : Frm hb env h' := by
  refine ⟨F.kind, F.glob, F.bins, fun b o e => k b o ?_ (F.keep b o e), ?_, fun x z e => ?_, F.inj, F.nsNew, F.cellNew⟩
  · rintro rfl; rw [hn] at e; cases e
  · obtain ⟨m, hm⟩ := F.ns; exact ⟨m, hm.at' fun o e => k _ o (pl_ne_ns p hm) e⟩
  · obtain ⟨u, o, ho, hd⟩ := F.cell x z e; exact ⟨u, o, k _ o (pl_ne_cell p ⟨o, ho, hd⟩) ho, hd⟩
theorem KeepB.pl {h h' : Heap} {l a : Addr} {ws : Array Value} (k : KeepB l h h') (hne : a ≠ l) (q : h.PlainList a ws) : h'.PlainList a ws := q.at fun o e => k _ o hne e

theorem ca_append {l : Addr} {vs : List Value} {x : Value} {Q : Value → Heap → Prop} (hl : h.PlainList l vs.toArray) (hsz : vs.length ≤ 1000)
    (hq : ∀ h', h'.PlainList l (vs ++ [x]).toArray → KeepB l h h' → Q .none h') : W c A (call (.builtin "list.append") [.ref l, x]) h Q :=
  .mk fun _ _ => wpAny_list_append_plain (hsz := by have : sizeLine = 2 ^ 24 := rfl; simp; omega) hl fun h' hl' hs' => ⟨_, _, rfl, hq h' (by simpa using hl') fun b o hb e => hs'.extBut b o hb e⟩

theorem ex_expr {e : Expr} {pos : Pos} {Q : Flow → Heap → Prop} (hx : W c A (eval e env) h (fun v h' => v = .none ∧ Q .next h'))
    (hi : interactive env = false) (hs : swapsWith e none pos.line env = pure false := by rfl) : W c A (exec (.Expr e pos) env) h Q :=
  .mk fun _ _ => wpAny_Expr (hx.go fun v h' t' hv => by obtain ⟨rfl, hq⟩ := hv; exact ⟨_, _, rfl, hq⟩) hi hs
theorem inter_of {env : Env} (F : Frm hb env h) : interactive env = false := by
  unfold interactive; rw [F.kind]; rfl

def ladder : Nat → Str → List Str
  | 0, _ => []
  | k + 1, x => if eqS (reachF x) x then [] else reachF x :: ladder k (Txt.slice (reachF x) (some 1) none)
def okUp : Nat → Str → Bool
  | 0, _ => false
  | k + 1, x => okH x && decide ((reachF x).length ≤ 1000) && (eqS (reachF x) x || okUp k (Txt.slice (reachF x) (some 1) none))

theorem up_c {n N : Nat} {x : Str} {t : Tok} (G : Gd h) (R : Room (n + 3) A) (ho : okUp N x = true) (hN : N ≤ 100) :
    W c A (call (.ref 92) [.str x t]) h (fun v h' => Keep h h' ∧ ∃ a vs, v = .ref a ∧ h.get? a = none ∧ h'.PlainList a vs.toArray ∧ StrsAre vs (ladder N x)) := by
  have hsz : sizeLine = 2 ^ 24 := rfl
  have okH_of : ∀ N x, okUp N x = true → okH x = true ∧ (reachF x).length ≤ 1000 := by
    intro N x hN
    cases N with
    | zero => cases hN
    | succ N => simp only [okUp, Bool.and_eq_true, decide_eq_true_eq] at hN; exact hN.1
  refine fn_call (binds := [(("host" : Str), .str x t)]) G.f_up G.lim R (fun _ _ _ => by kernel_rfl) (locs (by kernel_rfl)) ?_ (by decide +kernel)
  intro A' env h₁ R' F hk ns
  have v : Var env h₁ "host" (.str x t) := var_of_ns ((hk _).trans (by kernel_rfl)) ns rfl
  refine ex_cons (ex_set (ev_listP (ar_nil ⟨by simp, fun h2 a2 k2 n2 p2 => ?_⟩)))
  refine st_name (k2.frm F) (.inl ((hk _).trans (by kernel_rfl))) fun h3 F3 vu3 U3 K3 => ?_
  have p3 := K3.pl p2
  have vh3 := U3.var (by decide +kernel) (k2.var v)
  have hn2 : h.get? a2 = none := by
    cases e : h.get? a2 with
    | none => rfl
    | some o => rw [F.keep _ _ e] at n2; cases n2
  refine ex_cons (ex_set (ev_name F3 vh3 (st_name F3 (.inl ((hk _).trans (by kernel_rfl))) fun h4 F4 vn4 U4 K4 => ?_)))
  have p4 := K4.pl p3
  have vu4 := U4.var (by decide +kernel) vu3
  refine ex_cons (ex_set (ev_def F4 G.g_reach G.f_reach ((hk _).trans (by kernel_rfl)) (ar_cons (ev_name F4 vn4 (ar_nil ⟨.refl _, ?_⟩)))))
  refine W.mono (reach_c (F4.keep.gd G) R' (okH_of _ _ ho).1) ?_
  rintro _ h5 ⟨k5, t5, rfl⟩
  refine st_name (k5.frm F4) (.inl ((hk _).trans (by kernel_rfl))) fun h6 F6 vs6 U6 K6 => ?_
  have p6 := K6.pl (k5.pl p4)
  have vu6 := U6.var (by decide +kernel) (k5.var vu4)
  have vn6 := U6.var (by decide +kernel) (k5.var vn4)
  refine ex_cons (ex_while (fun m h' => ∃ nm tn ts done vs, Frm h env h' ∧ Var env h' "up" (.ref a2) ∧ Var env h' "name" (.str nm tn) ∧ Var env h' "step" (.str (reachF nm) ts) ∧ h'.PlainList a2 vs.toArray ∧ StrsAre vs done ∧
    done ++ ladder m nm = ladder N x ∧ okUp m nm = true ∧ done.length + m = N) ?_ N ⟨x, _, _, [], [], F6, vu6, vn6, vs6, p6, .nil, rfl, ho, by simp⟩)
  rintro m h' ⟨nm, tn, ts, done, vs, F', vu, vn, vst, p', hS, hl, hok, hlen⟩
  obtain ⟨ok1, ok2⟩ := okH_of _ _ hok
  obtain ⟨m, rfl⟩ : ∃ j, m = j + 1 := by cases m with | zero => cases hok | succ j => exact ⟨j, rfl⟩
  refine tr_cmp (ev_name F' vst (ev_name F' vn (cm_nes (tr_bool ?_))))
  have e : ((reachF nm).cps.toList != nm.cps.toList) = !eqS (reachF nm) nm := rfl
  rw [e]
  by_cases he : eqS (reachF nm) nm = true
  · rw [he]
    refine ex_nil (ex_cons (ex_ret (ev_name F' vu ?_)))
    refine ⟨F'.keep, a2, vs, rfl, hn2, p', ?_⟩
    rw [ladder, if_pos he, List.append_nil] at hl
    rw [← hl]; exact hS
  · rw [Bool.eq_false_iff.mpr he]
    simp only [Bool.not_false, if_true]
    have hvl : vs.length ≤ 1000 := by rw [hS.length]; omega
    refine ex_cons (ex_expr (ev_meth (ev_name F' vu (gm_list p' PySem.F.slot_list_append PySem.F.type_list_append (cw_bi (ar_cons (ev_name F' vst (ar_nil (ca_append p' hvl fun h7 p7 k7 => ⟨rfl, ?_⟩)))))))) (inter_of F'))
    have F7 := k7.frm p' hn2 F'
    have vu7 := k7.var p' vu
    have vst7 := k7.var p' vst
    refine ex_cons (ex_set (ev_sub (ev_name F7 vst7 (ev_slo (ev_int fun t8 => ⟨_, _, rfl, fun h8 a8 k8 s8 => ?_⟩)))))
    refine sub_strs s8 (by omega) fun t9 => ?_
    refine st_name (k8.frm F7) (.inl ((hk _).trans (by kernel_rfl))) fun h9 F9 vn9 U9 K9 => ?_
    have vu9 := U9.var (by decide +kernel) (k8.var vu7)
    have p9 := K9.pl (k8.pl p7)
    simp only [Option.map] at vn9
    have hok' : okUp m (Txt.slice (reachF nm) (some 1) none) = true := by
      simp only [okUp, Bool.and_eq_true, Bool.or_eq_true] at hok
      rcases hok.2 with q | q
      · exact absurd q he
      · exact q
    refine ex_cons (ex_set (ev_def F9 G.g_reach G.f_reach ((hk _).trans (by kernel_rfl)) (ar_cons (ev_name F9 vn9 (ar_nil ⟨.refl _, ?_⟩)))))
    refine W.mono (reach_c (F9.keep.gd G) R' (okH_of _ _ hok').1) ?_
    rintro _ h10 ⟨k10, t10, rfl⟩
    refine st_name (k10.frm F9) (.inl ((hk _).trans (by kernel_rfl))) fun h11 F11 vs11 U11 K11 => ?_
    refine ex_nil ⟨m, by omega, _, _, _, done ++ [reachF nm], _, F11, U11.var (by decide +kernel) (k10.var vu9), U11.var (by decide +kernel) (k10.var vn9), vs11, K11.pl (k10.pl p9), hS.append' (.cons _ _ .nil), ?_, hok', by simp; omega⟩
    rw [ladder, if_neg he] at hl
    rw [List.append_assoc]; exact hl
end

open PySem PySem.W PyProof.Rows
section
variable {c : Cx} {A : Around} {h hb : Heap} {env : Env}

def gtF (x y : UInt64) : Bool := Float64.cmp x y == some Ordering.gt
def ltF (x y : UInt64) : Bool := Float64.cmp x y == some Ordering.lt
def max3 (a b c : UInt64) : UInt64 := if gtF b a then (if gtF c b then c else b) else (if gtF c a then c else a)
def min3 (a b c : UInt64) : UInt64 := if ltF b a then (if ltF c b then c else b) else (if ltF c a then c else a)
def min2 (a b : UInt64) : UInt64 := if ltF b a then b else a

def flItems (xs : Array (UInt64 × Tok)) : Array Value := xs.map fun p => .float p.1 p.2
def flAt (xs : Array (UInt64 × Tok)) (i : Nat) : UInt64 := (xs[i]?.map (·.1)).getD 0
theorem flItems_at {xs : Array (UInt64 × Tok)} {i : Nat} {v : Value} (h : (flItems xs)[i]? = some v) : ∃ t, v = .float (flAt xs i) t := by
  unfold flItems at h
  rw [Array.getElem?_map] at h
  unfold flAt
  cases e : xs[i]? with
  | none => rw [e] at h; cases h
  | some p => rw [e] at h; cases h; exact ⟨p.2, rfl⟩

theorem cmpOf_gt {prog : Program} {w : World} {A : Around} {P : Nat → Value → Prop} (val : Nat → UInt64) (hval : ∀ i v, P i v → ∃ t, v = .float (val i) t) :
    CmpOf prog w A .Gt P (fun i j => gtF (val i) (val j)) := fun i j vi vj s Q E hi hj h => by
  obtain ⟨t, rfl⟩ := hval i vi hi
  obtain ⟨u, rfl⟩ := hval j vj hj
  exact richCompare_gives (op := .Gt) (typeIs_float s _ t) (typeIs_float s _ u) PySem.F.slot_float_gt PySem.F.entry_float_gt (PySem.F.args_float_gt_2 _ _) (AutoFloatG4.float___gt___float_float_0 _ t _ u) (fun x => nomatch x) h
theorem cmpOf_lt {prog : Program} {w : World} {A : Around} {P : Nat → Value → Prop} (val : Nat → UInt64) (hval : ∀ i v, P i v → ∃ t, v = .float (val i) t) :
    CmpOf prog w A .Lt P (fun i j => ltF (val i) (val j)) := fun i j vi vj s Q E hi hj h => by
  obtain ⟨t, rfl⟩ := hval i vi hi
  obtain ⟨u, rfl⟩ := hval j vj hj
  exact richCompare_gives (op := .Lt) (typeIs_float s _ t) (typeIs_float s _ u) PySem.F.slot_float_lt PySem.F.entry_float_lt (PySem.F.args_float_lt_2 _ _) (AutoFloatG5.float___lt___float_float_0 _ t _ u) (fun x => nomatch x) h

/-- the tuple of a built-in's arguments, walked -/
theorem walk_tup {w : World} {prog : Program} {A : Around} {E : Value → Shared → Prop} {s : Shared} {items : Array Value} {op : CmpOp} {bt : Nat → Nat → Bool} {Q : Value → Shared → Prop} (hh : A.handled = none) (hn : 0 < items.size)
    (hc : CmpOf prog w A op (fun i v => items[i]? = some v) bt)
    (hq : ∀ v h' tk, items[argBest bt (items.size - 1)]? = some v → Keep s.heap h' → Q v { s with heap := h', toks := tk }) :
    wpAny (model prog w) A (pyIter (.ref s.heap.objs.size)) (fun it s₂ => ∃ I fp wr n P St bt, it = .ref I ∧ Walks prog w A I fp wr n P St ∧ St 0 s₂.heap ∧ (∀ b ∈ fp, b < s₂.heap.objs.size) ∧ 0 < n ∧ CmpOf prog w A op P bt ∧
      ∀ v h' tk, P (argBest bt (n - 1)) v → (∀ b o, b ∉ wr → s₂.heap.get? b = some o → h'.get? b = some o) → Q v { s₂ with heap := h', toks := tk }) E
      { s with heap := s.heap.push { cls := .type "tuple", data := .seq items } } := by
  have hT : (s.heap.push { cls := .type "tuple", data := .seq items }).IsTuple s.heap.objs.size items := ⟨_, Heap.get?_push_size _ rfl, rfl, 0, rfl⟩
  refine wpAny_pyIter_tuple hT ?_
  have hsz : (s.heap.push { cls := .type "tuple", data := .seq items }).objs.size = s.heap.objs.size + 1 := Heap.size_push ..
  refine ⟨_, [_, s.heap.objs.size], [_], _, _, _, _, rfl, Walks.tuple (A := A) hh _ s.heap.objs.size (by rw [hsz]; exact Nat.ne_of_lt (Nat.lt_succ_self _)) items,
    ⟨⟨_, Heap.get?_push_size _ rfl, rfl, rfl⟩, hT.push _⟩, fun d hd => ?_, hn, hc, fun v h' tk hP hk => ?_⟩
  · show d < ((s.heap.push _).push _).objs.size
    rw [Heap.size_push, hsz]
    rcases List.mem_cons.mp hd with rfl | hd
    · rw [hsz]; exact Nat.lt_succ_self _
    · rcases List.mem_cons.mp hd with rfl | hd
      · exact Nat.lt_succ_of_lt (Nat.lt_succ_self _)
      · cases hd
  · refine hq v h' tk hP fun d o e => hk d o (fun hm => ?_) (Heap.get?_push_of_some _ (Heap.get?_push_of_some _ e))
    rcases List.mem_cons.mp hm with e1 | hm
    · have := Heap.lt_size e; rw [e1, hsz] at this; exact Nat.lt_irrefl _ (Nat.lt_of_succ_lt this)
    · cases hm

variable {x y z : UInt64} {t u v : Tok} {Q : Value → Heap → Prop}
theorem ca_max3 (hh : A.handled = none) (hq : ∀ h' t', Keep h h' → Q (.float (max3 x y z) t') h') : W c A (call (.builtin "max") [.float x t, .float y u, .float z v]) h Q := by
  refine .mk fun tk E => call_max_three ?_
  refine walk_tup (A := A.in1) (s := ⟨h, c.g, c.d, tk + 1, c.os⟩) (Q := fun a s' => ∃ h' tk', s' = ⟨h', c.g, c.d, tk', c.os⟩ ∧ Q a h') (items := #[.float x t, .float y u, .float z v]) hh (by simp) (cmpOf_gt (flAt #[(x, t), (y, u), (z, v)]) fun _ _ e => flItems_at (by simpa [flItems] using e)) fun r h' tk' hr k => ⟨_, _, rfl, ?_⟩
  have hs : (#[.float x t, .float y u, .float z v] : Array Value).size - 1 = 2 := by simp
  rw [hs] at hr
  obtain ⟨t', rfl⟩ := flItems_at (xs := #[(x, t), (y, u), (z, v)]) (by simpa [flItems] using hr)
  have e : flAt #[(x, t), (y, u), (z, v)] (argBest (fun i j => gtF (flAt #[(x, t), (y, u), (z, v)] i) (flAt #[(x, t), (y, u), (z, v)] j)) 2) = max3 x y z := by
    unfold max3
    cases h1 : gtF y x <;> cases h2 : gtF z y <;> cases h3 : gtF z x <;> simp [argBest, flAt, h1, h2, h3]
  rw [e]
  exact hq h' t' k
theorem ca_min3 (hh : A.handled = none) (hq : ∀ h' t', Keep h h' → Q (.float (min3 x y z) t') h') : W c A (call (.builtin "min") [.float x t, .float y u, .float z v]) h Q := by
  refine .mk fun tk E => call_min_three ?_
  refine walk_tup (A := A.in1) (s := ⟨h, c.g, c.d, tk + 1, c.os⟩) (Q := fun a s' => ∃ h' tk', s' = ⟨h', c.g, c.d, tk', c.os⟩ ∧ Q a h') (items := #[.float x t, .float y u, .float z v]) hh (by simp) (cmpOf_lt (flAt #[(x, t), (y, u), (z, v)]) fun _ _ e => flItems_at (by simpa [flItems] using e)) fun r h' tk' hr k => ⟨_, _, rfl, ?_⟩
  have hs : (#[.float x t, .float y u, .float z v] : Array Value).size - 1 = 2 := by simp
  rw [hs] at hr
  obtain ⟨t', rfl⟩ := flItems_at (xs := #[(x, t), (y, u), (z, v)]) (by simpa [flItems] using hr)
  have e : flAt #[(x, t), (y, u), (z, v)] (argBest (fun i j => ltF (flAt #[(x, t), (y, u), (z, v)] i) (flAt #[(x, t), (y, u), (z, v)] j)) 2) = min3 x y z := by
    unfold min3
    cases h1 : ltF y x <;> cases h2 : ltF z y <;> cases h3 : ltF z x <;> simp [argBest, flAt, h1, h2, h3]
  rw [e]
  exact hq h' t' k
theorem ca_min2 (hh : A.handled = none) (hq : ∀ h' t', Keep h h' → Q (.float (min2 x y) t') h') : W c A (call (.builtin "min") [.float x t, .float y u]) h Q := by
  refine .mk fun tk E => call_min_two ?_
  refine walk_tup (A := A.in1) (s := ⟨h, c.g, c.d, tk + 1, c.os⟩) (Q := fun a s' => ∃ h' tk', s' = ⟨h', c.g, c.d, tk', c.os⟩ ∧ Q a h') (items := #[.float x t, .float y u]) hh (by simp) (cmpOf_lt (flAt #[(x, t), (y, u)]) fun _ _ e => flItems_at (by simpa [flItems] using e)) fun r h' tk' hr k => ⟨_, _, rfl, ?_⟩
  have hs : (#[.float x t, .float y u] : Array Value).size - 1 = 1 := by simp
  rw [hs] at hr
  obtain ⟨t', rfl⟩ := flItems_at (xs := #[(x, t), (y, u)]) (by simpa [flItems] using hr)
  have e : flAt #[(x, t), (y, u)] (argBest (fun i j => ltF (flAt #[(x, t), (y, u)] i) (flAt #[(x, t), (y, u)] j)) 1) = min2 x y := by
    unfold min2
    cases h1 : ltF y x <;> simp [argBest, flAt, h1]
  rw [e]
  exact hq h' t' k
theorem ca_min2i {a b : Int} {t u : Tok} (hh : A.handled = none) (hq : ∀ h' t', Keep h h' → Q (.int (if b < a then b else a) t') h') : W c A (call (.builtin "min") [.int a t, .int b u]) h Q :=
  .mk fun _ _ => min_two_ints hh fun h' tk k => ⟨_, _, rfl, by
    by_cases hlt : b < a
    · have := hq h' u k; rw [if_pos hlt] at this ⊢; exact this
    · have := hq h' t k; rw [if_neg hlt] at this ⊢; exact this⟩
end

end Mine
end

section
open PySem PySem.W PyProof.Rows
set_option Elab.async false
set_option maxRecDepth 100000
namespace Mine
local macro_rules | `(tactic| walk_at "mfrm") => `(tactic| first | with_reducible assumption | exact Keep.frm (by with_reducible assumption) (by walk_at "mfrm"))
local macro_rules | `(tactic| walk_at "mvar") => `(tactic| first | with_reducible assumption | exact Upd.var (by with_reducible assumption) (by decide +kernel) (by walk_at "mvar") | exact Keep.var (by with_reducible assumption) (by walk_at "mvar"))
local macro_rules | `(tactic| walk_at "mkind") => `(tactic| exact (‹∀ x, Env.kindOf _ x = _› _).trans (by kernel_rfl))
local macro_rules | `(tactic| walk_at "mset") => `(tactic| (refine st_name (by walk_at "mfrm") (.inl (by walk_at "mkind")) ?_; intro hN FN vN UN KN))
local macro_rules | `(tactic| walk_at "mev") => `(tactic| repeat (first
  | with_reducible refine ev_name (by walk_at "mfrm") (by walk_at "mvar") ?_
  | with_reducible refine ev_bin ?_
  | with_reducible refine ev_cmp ?_
  | with_reducible refine tr_cmp ?_
  | (with_reducible refine ev_float ?_; intro tN zN)
  | (with_reducible refine ev_int ?_; intro tN)
  | (with_reducible refine op_subf ?_; intro tN)
  | (with_reducible refine op_addf ?_; intro tN)
  | (with_reducible refine op_mulf ?_; intro tN)
  | with_reducible refine cm_eqf ?_
  | with_reducible refine cm_lef ?_
  | with_reducible refine tr_bool ?_))
def eqF (x y : UInt64) : Bool := Float64.cmp x y == some Ordering.eq
def leF (x y : UInt64) : Bool := Float64.cmp x y == some Ordering.lt || Float64.cmp x y == some Ordering.eq
abbrev f0 : UInt64 := 0
abbrev f05 : UInt64 := 4602678819172646912
abbrev f1 : UInt64 := 4607182418800017408
abbrev f2 : UInt64 := 4611686018427387904
abbrev f4 : UInt64 := 4616189618054758400
abbrev f6 : UInt64 := 4618441417868443648

def hueF (mx rg r g b : UInt64) : UInt64 :=
  let rc := Float64.div (Float64.sub mx r) rg
  let gc := Float64.div (Float64.sub mx g) rg
  let bc := Float64.div (Float64.sub mx b) rg
  let h := if eqF r mx then Float64.sub bc gc else if eqF g mx then Float64.sub (Float64.add f2 rc) bc else Float64.sub (Float64.add f4 gc) rc
  (Float64.divmod (Float64.div h f6) f1).snd
def hlsF (r g b : UInt64) : UInt64 × UInt64 × UInt64 :=
  let mx := max3 r g b
  let mn := min3 r g b
  let sm := Float64.add mx mn
  let rg := Float64.sub mx mn
  let l := Float64.div sm f2
  if eqF mn mx then (f0, l, f0) else (hueF mx rg r g b, l, if leF l f05 then Float64.div rg sm else Float64.div rg (Float64.sub (Float64.sub f2 mx) mn))
def okHls (r g b : UInt64) : Bool :=
  let mx := max3 r g b
  let mn := min3 r g b
  let sm := Float64.add mx mn
  let rg := Float64.sub mx mn
  let l := Float64.div sm f2
  eqF mn mx || (!Float64.isZero rg && (if leF l f05 then !Float64.isZero sm else !Float64.isZero (Float64.sub (Float64.sub f2 mx) mn)))
def hsvF (r g b : UInt64) : UInt64 × UInt64 × UInt64 :=
  let mx := max3 r g b
  let mn := min3 r g b
  let rg := Float64.sub mx mn
  if eqF mn mx then (f0, f0, mx) else (hueF mx rg r g b, Float64.div rg mx, mx)
def okHsv (r g b : UInt64) : Bool :=
  let mx := max3 r g b
  let mn := min3 r g b
  let rg := Float64.sub mx mn
  eqF mn mx || (!Float64.isZero rg && !Float64.isZero mx)

theorem nz2 : ¬ Float64.isZero f2 = true := by decide +kernel
theorem nz6 : ¬ Float64.isZero f6 = true := by decide +kernel
theorem nz1 : ¬ Float64.isZero f1 = true := by decide +kernel

section
variable {c : Cx} {A : Around} {h hb : Heap} {env : Env}

theorem fresh_base {a : Addr} (F : Frm hb env h) (n : h.get? a = none) : hb.get? a = none := by
  cases e : hb.get? a with
  | none => rfl
  | some o => rw [F.keep _ _ e] at n; cases n

theorem hls_c {n : Nat} {r g b : UInt64} {t u w : Tok} (G : Gd h) (R : Room (n + 1) A) (ho : okHls r g b = true) :
    W c A (call (.ref 38) [.float r t, .float g u, .float b w]) h (fun v h' => Keep h h' ∧ ∃ a t1 t2 t3, v = .ref a ∧ h.get? a = none ∧ (t1 ≠ 0 ∧ t2 ≠ 0 ∧ t3 ≠ 0) ∧
      h'.IsTuple a [Value.float (hlsF r g b).1 t1, .float (hlsF r g b).2.1 t2, .float (hlsF r g b).2.2 t3].toArray) := by
  have hsz : sizeLine = 2 ^ 24 := rfl
  generalize hp : hlsF r g b = p
  unfold hlsF at hp
  unfold okHls at ho
  dsimp only at hp ho
  refine fn_call (binds := [(("r" : Str), .float r t), (("g" : Str), .float g u), (("b" : Str), .float b w)]) G.f_hls G.lim R (fun _ _ _ => by kernel_rfl) (locs (by kernel_rfl)) ?_ (by decide +kernel)
  intro A' env h₁ R' F hk ns
  have vr : Var env h₁ "r" (.float r t) := var_of_ns ((hk _).trans (by kernel_rfl)) ns rfl
  have vg : Var env h₁ "g" (.float g u) := var_of_ns ((hk _).trans (by kernel_rfl)) ns rfl
  have vb : Var env h₁ "b" (.float b w) := var_of_ns ((hk _).trans (by kernel_rfl)) ns rfl
  refine ex_cons (ex_set (ev_call (ev_glob F G.g_max ((hk _).trans (by kernel_rfl)) (cw_bi (ar_cons (ev_name F vr (ar_cons (ev_name F vg (ar_cons (ev_name F vb (ar_nil (ca_max3 R'.hand fun h2 tm k2 => ?_))))))))))))
  walk_at "mset"
  refine ex_cons (ex_set (ev_call (ev_glob (by walk_at "mfrm") G.g_min (by walk_at "mkind") (cw_bi (ar_cons ?_)))))
  walk_at "mev"
  refine ar_cons ?_
  walk_at "mev"
  refine ar_cons ?_
  walk_at "mev"
  refine ar_nil (ca_min3 R'.hand fun h3 tm k3 => ?_)
  walk_at "mset"
  refine ex_cons (ex_set ?_)
  walk_at "mev"
  walk_at "mset"
  refine ex_cons (ex_set ?_)
  walk_at "mev"
  walk_at "mset"
  refine ex_cons (ex_set ?_)
  walk_at "mev"
  refine op_divf nz2 fun t5 zt5 => ?_
  walk_at "mset"
  refine ex_cons (ex_if ?_)
  walk_at "mev"
  generalize max3 r g b = mx at *
  generalize min3 r g b = mn at *
  by_cases h1 : eqF mn mx = true
  · rw [if_pos h1] at hp
    subst hp
    refine ite_pos h1 ?_
    refine ex_cons (ex_ret (ev_tuple (ar_cons ?_)))
    walk_at "mev"
    refine ar_cons ?_
    walk_at "mev"
    refine ar_cons ?_
    walk_at "mev"
    exact ar_nil ⟨by simp [hsz], fun h' a k n p => ⟨(Frm.keep (by walk_at "mfrm")).trans k, a, _, _, _, rfl, fresh_base (by walk_at "mfrm") n, ⟨by assumption, by assumption, by assumption⟩, p⟩⟩
  · rw [if_neg h1] at hp
    refine ite_neg h1 ?_
    rw [Bool.eq_false_iff.mpr h1, Bool.false_or, Bool.and_eq_true] at ho
    obtain ⟨ho1, ho2⟩ := ho
    have hz1 : ¬ Float64.isZero (Float64.sub mx mn) = true := by simpa using ho1
    refine ex_nil ?_
    have rest2 : ∀ (h' : Heap) (hv sv lv : UInt64) (th ts tl : Tok), ts ≠ 0 → tl ≠ 0 → Frm h env h' → Var env h' "h" (.float hv th) → Var env h' "l" (.float lv tl) → Var env h' "s" (.float sv ts) →
        W c A' (execs ((fbd 2).drop 11) env) h' (fun f h'' => ∃ a t1 t2 t3, f = .ret (.ref a) ∧ Keep h h'' ∧ h.get? a = none ∧ (t1 ≠ 0 ∧ t2 ≠ 0 ∧ t3 ≠ 0) ∧ h''.IsTuple a [Value.float (Float64.divmod (Float64.div hv f6) f1).snd t1, .float lv t2, .float sv t3].toArray) := by
      intro h' hv sv lv th ts tl z1 z2 F' v1 v2 v3
      refine ex_cons (ex_set ?_)
      walk_at "mev"
      refine op_divf nz6 fun t6 zt6 => ?_
      walk_at "mev"
      refine op_modf nz1 fun t7 zt7 => ?_
      walk_at "mset"
      refine ex_cons (ex_ret (ev_tuple (ar_cons ?_)))
      walk_at "mev"
      refine ar_cons ?_
      walk_at "mev"
      refine ar_cons ?_
      walk_at "mev"
      exact ar_nil ⟨by simp [hsz], fun h'' a k n p => ⟨a, _, _, _, rfl, (Frm.keep (by walk_at "mfrm")).trans k, fresh_base (by walk_at "mfrm") n, ⟨by assumption, by assumption, by assumption⟩, p⟩⟩
    have rest1 : ∀ (h' : Heap) (sv lv : UInt64) (ts tl tx ty tr tg tb : Tok), ts ≠ 0 → tl ≠ 0 → Frm h env h' → Var env h' "l" (.float lv tl) → Var env h' "s" (.float sv ts) → Var env h' "maxc" (.float mx tx) → Var env h' "rangec" (.float (Float64.sub mx mn) ty) →
        Var env h' "r" (.float r tr) → Var env h' "g" (.float g tg) → Var env h' "b" (.float b tb) →
        W c A' (execs ((fbd 2).drop 7) env) h' (fun f h'' => ∃ a t1 t2 t3, f = .ret (.ref a) ∧ Keep h h'' ∧ h.get? a = none ∧ (t1 ≠ 0 ∧ t2 ≠ 0 ∧ t3 ≠ 0) ∧ h''.IsTuple a [Value.float (hueF mx (Float64.sub mx mn) r g b) t1, .float lv t2, .float sv t3].toArray) := by
      generalize hq : hueF mx (Float64.sub mx mn) r g b = q
      unfold hueF at hq
      dsimp only at hq
      intro h' sv lv ts tl tx ty tr tg tb z1 z2 F' v1 v2 v3 v4 v5 v6 v7
      refine ex_cons (ex_set ?_)
      walk_at "mev"
      refine op_divf hz1 fun t6 zt6 => ?_
      walk_at "mset"
      refine ex_cons (ex_set ?_)
      walk_at "mev"
      refine op_divf hz1 fun t7 zt7 => ?_
      walk_at "mset"
      refine ex_cons (ex_set ?_)
      walk_at "mev"
      refine op_divf hz1 fun t8 zt8 => ?_
      walk_at "mset"
      refine ex_cons (ex_if ?_)
      walk_at "mev"
      by_cases h2 : eqF r mx = true
      · rw [if_pos h2] at hq
        subst hq
        refine ite_pos h2 ?_
        refine ex_cons (ex_set ?_)
        walk_at "mev"
        walk_at "mset"
        refine ex_nil ?_
        exact rest2 _ _ _ _ _ _ _ z1 z2 (by walk_at "mfrm") (by walk_at "mvar") (by walk_at "mvar") (by walk_at "mvar")
      · rw [if_neg h2] at hq
        refine ite_neg h2 ?_
        refine ex_cons (ex_if ?_)
        walk_at "mev"
        by_cases h3 : eqF g mx = true
        · rw [if_pos h3] at hq
          subst hq
          refine ite_pos h3 ?_
          refine ex_cons (ex_set ?_)
          walk_at "mev"
          walk_at "mset"
          refine ex_nil (ex_nil ?_)
          exact rest2 _ _ _ _ _ _ _ z1 z2 (by walk_at "mfrm") (by walk_at "mvar") (by walk_at "mvar") (by walk_at "mvar")
        · rw [if_neg h3] at hq
          subst hq
          refine ite_neg h3 ?_
          refine ex_cons (ex_set ?_)
          walk_at "mev"
          walk_at "mset"
          refine ex_nil (ex_nil ?_)
          exact rest2 _ _ _ _ _ _ _ z1 z2 (by walk_at "mfrm") (by walk_at "mvar") (by walk_at "mvar") (by walk_at "mvar")
    refine ex_cons (ex_if ?_)
    walk_at "mev"
    by_cases h2 : leF (Float64.div (Float64.add mx mn) f2) f05 = true
    · refine ite_pos h2 ?_
      rw [if_pos h2] at ho2 hp
      subst hp
      refine ex_cons (ex_set ?_)
      walk_at "mev"
      refine op_divf (by simpa using ho2) fun t6 zt6 => ?_
      walk_at "mset"
      refine ex_nil ?_
      refine (rest1 _ _ _ _ _ _ _ _ _ _ zt6 zt5 (by walk_at "mfrm") (by walk_at "mvar") (by walk_at "mvar") (by walk_at "mvar") (by walk_at "mvar") (by walk_at "mvar") (by walk_at "mvar") (by walk_at "mvar")).mono ?_
      rintro f h'' ⟨a, t1, t2, t3, rfl, k, n, z, p⟩
      exact ⟨k, a, t1, t2, t3, rfl, n, z, p⟩
    · refine ite_neg h2 ?_
      rw [if_neg h2] at ho2 hp
      subst hp
      refine ex_cons (ex_set ?_)
      walk_at "mev"
      refine op_divf (show ¬ Float64.isZero (Float64.sub (Float64.sub f2 mx) mn) = true by simpa using ho2) fun t6 zt6 => ?_
      walk_at "mset"
      refine ex_nil ?_
      refine (rest1 _ _ _ _ _ _ _ _ _ _ zt6 zt5 (by walk_at "mfrm") (by walk_at "mvar") (by walk_at "mvar") (by walk_at "mvar") (by walk_at "mvar") (by walk_at "mvar") (by walk_at "mvar") (by walk_at "mvar")).mono ?_
      rintro f h'' ⟨a, t1, t2, t3, rfl, k, n, z, p⟩
      exact ⟨k, a, t1, t2, t3, rfl, n, z, p⟩
end

open PySem PySem.W PyProof.Rows
section
variable {c : Cx} {A : Around} {h hb : Heap} {env : Env}

theorem hsv_c {n : Nat} {r g b : UInt64} {t u w : Tok} (G : Gd h) (R : Room (n + 1) A) (ho : okHsv r g b = true) :
    W c A (call (.ref 45) [.float r t, .float g u, .float b w]) h (fun v h' => Keep h h' ∧ ∃ a t1 t2 t3, v = .ref a ∧ h.get? a = none ∧
      h'.IsTuple a [Value.float (hsvF r g b).1 t1, .float (hsvF r g b).2.1 t2, .float (hsvF r g b).2.2 t3].toArray) := by
  have hsz : sizeLine = 2 ^ 24 := rfl
  generalize hp : hsvF r g b = p
  unfold hsvF at hp
  unfold okHsv at ho
  dsimp only at hp ho
  refine fn_call (binds := [(("r" : Str), .float r t), (("g" : Str), .float g u), (("b" : Str), .float b w)]) G.f_hsv G.lim R (fun _ _ _ => by kernel_rfl) (locs (by kernel_rfl)) ?_ (by decide +kernel)
  intro A' env h₁ R' F hk ns
  have vr : Var env h₁ "r" (.float r t) := var_of_ns ((hk _).trans (by kernel_rfl)) ns rfl
  have vg : Var env h₁ "g" (.float g u) := var_of_ns ((hk _).trans (by kernel_rfl)) ns rfl
  have vb : Var env h₁ "b" (.float b w) := var_of_ns ((hk _).trans (by kernel_rfl)) ns rfl
  refine ex_cons (ex_set (ev_call (ev_glob F G.g_max ((hk _).trans (by kernel_rfl)) (cw_bi (ar_cons (ev_name F vr (ar_cons (ev_name F vg (ar_cons (ev_name F vb (ar_nil (ca_max3 R'.hand fun h2 tm k2 => ?_))))))))))))
  walk_at "mset"
  refine ex_cons (ex_set (ev_call (ev_glob (by walk_at "mfrm") G.g_min (by walk_at "mkind") (cw_bi (ar_cons ?_)))))
  walk_at "mev"
  refine ar_cons ?_
  walk_at "mev"
  refine ar_cons ?_
  walk_at "mev"
  refine ar_nil (ca_min3 R'.hand fun h3 tm k3 => ?_)
  walk_at "mset"
  refine ex_cons (ex_set ?_)
  walk_at "mev"
  walk_at "mset"
  refine ex_cons (ex_set ?_)
  walk_at "mev"
  walk_at "mset"
  refine ex_cons (ex_if ?_)
  walk_at "mev"
  generalize max3 r g b = mx at *
  generalize min3 r g b = mn at *
  by_cases h1 : eqF mn mx = true
  · rw [if_pos h1] at hp
    subst hp
    refine ite_pos h1 ?_
    refine ex_cons (ex_ret (ev_tuple (ar_cons ?_)))
    walk_at "mev"
    refine ar_cons ?_
    walk_at "mev"
    refine ar_cons ?_
    walk_at "mev"
    exact ar_nil ⟨by simp [hsz], fun h' a k n p => ⟨(Frm.keep (by walk_at "mfrm")).trans k, a, _, _, _, rfl, fresh_base (by walk_at "mfrm") n, p⟩⟩
  · rw [if_neg h1] at hp
    refine ite_neg h1 ?_
    rw [Bool.eq_false_iff.mpr h1, Bool.false_or, Bool.and_eq_true] at ho
    obtain ⟨ho1, ho2⟩ := ho
    have hz1 : ¬ Float64.isZero (Float64.sub mx mn) = true := by simpa using ho1
    refine ex_nil ?_
    have rest2 : ∀ (h' : Heap) (hv sv lv : UInt64) (th ts tl : Tok), Frm h env h' → Var env h' "h" (.float hv th) → Var env h' "s" (.float lv tl) → Var env h' "v" (.float sv ts) →
        W c A' (execs ((fbd 3).drop 10) env) h' (fun f h'' => ∃ a t1 t2 t3, f = .ret (.ref a) ∧ Keep h h'' ∧ h.get? a = none ∧ h''.IsTuple a [Value.float (Float64.divmod (Float64.div hv f6) f1).snd t1, .float lv t2, .float sv t3].toArray) := by
      intro h' hv sv lv th ts tl F' v1 v2 v3
      refine ex_cons (ex_set ?_)
      walk_at "mev"
      refine op_divf nz6 fun t6 zt6 => ?_
      walk_at "mev"
      refine op_modf nz1 fun t7 zt7 => ?_
      walk_at "mset"
      refine ex_cons (ex_ret (ev_tuple (ar_cons ?_)))
      walk_at "mev"
      refine ar_cons ?_
      walk_at "mev"
      refine ar_cons ?_
      walk_at "mev"
      exact ar_nil ⟨by simp [hsz], fun h'' a k n p => ⟨a, _, _, _, rfl, (Frm.keep (by walk_at "mfrm")).trans k, fresh_base (by walk_at "mfrm") n, p⟩⟩
    have rest1 : ∀ (h' : Heap) (sv lv : UInt64) (ts tl tx ty tr tg tb : Tok), Frm h env h' → Var env h' "s" (.float lv tl) → Var env h' "v" (.float sv ts) → Var env h' "maxc" (.float mx tx) → Var env h' "rangec" (.float (Float64.sub mx mn) ty) →
        Var env h' "r" (.float r tr) → Var env h' "g" (.float g tg) → Var env h' "b" (.float b tb) →
        W c A' (execs ((fbd 3).drop 6) env) h' (fun f h'' => ∃ a t1 t2 t3, f = .ret (.ref a) ∧ Keep h h'' ∧ h.get? a = none ∧ h''.IsTuple a [Value.float (hueF mx (Float64.sub mx mn) r g b) t1, .float lv t2, .float sv t3].toArray) := by
      generalize hq : hueF mx (Float64.sub mx mn) r g b = q
      unfold hueF at hq
      dsimp only at hq
      intro h' sv lv ts tl tx ty tr tg tb F' v1 v2 v3 v4 v5 v6 v7
      refine ex_cons (ex_set ?_)
      walk_at "mev"
      refine op_divf hz1 fun t6 zt6 => ?_
      walk_at "mset"
      refine ex_cons (ex_set ?_)
      walk_at "mev"
      refine op_divf hz1 fun t7 zt7 => ?_
      walk_at "mset"
      refine ex_cons (ex_set ?_)
      walk_at "mev"
      refine op_divf hz1 fun t8 zt8 => ?_
      walk_at "mset"
      refine ex_cons (ex_if ?_)
      walk_at "mev"
      by_cases h2 : eqF r mx = true
      · rw [if_pos h2] at hq
        subst hq
        refine ite_pos h2 ?_
        refine ex_cons (ex_set ?_)
        walk_at "mev"
        walk_at "mset"
        refine ex_nil ?_
        exact rest2 _ _ _ _ _ _ _ (by walk_at "mfrm") (by walk_at "mvar") (by walk_at "mvar") (by walk_at "mvar")
      · rw [if_neg h2] at hq
        refine ite_neg h2 ?_
        refine ex_cons (ex_if ?_)
        walk_at "mev"
        by_cases h3 : eqF g mx = true
        · rw [if_pos h3] at hq
          subst hq
          refine ite_pos h3 ?_
          refine ex_cons (ex_set ?_)
          walk_at "mev"
          walk_at "mset"
          refine ex_nil (ex_nil ?_)
          exact rest2 _ _ _ _ _ _ _ (by walk_at "mfrm") (by walk_at "mvar") (by walk_at "mvar") (by walk_at "mvar")
        · rw [if_neg h3] at hq
          subst hq
          refine ite_neg h3 ?_
          refine ex_cons (ex_set ?_)
          walk_at "mev"
          walk_at "mset"
          refine ex_nil (ex_nil ?_)
          exact rest2 _ _ _ _ _ _ _ (by walk_at "mfrm") (by walk_at "mvar") (by walk_at "mvar") (by walk_at "mvar")
    subst hp
    refine ex_cons (ex_set ?_)
    walk_at "mev"
    refine op_divf (by simpa using ho2) fun t6 zt6 => ?_
    walk_at "mset"
    refine (rest1 _ _ _ _ _ _ _ _ _ _ (by walk_at "mfrm") (by walk_at "mvar") (by walk_at "mvar") (by walk_at "mvar") (by walk_at "mvar") (by walk_at "mvar") (by walk_at "mvar") (by walk_at "mvar")).mono ?_
    rintro f h'' ⟨a, t1, t2, t3, rfl, k, n, p⟩
    exact ⟨k, a, t1, t2, t3, rfl, n, p⟩
end

end Mine
end

section
open PySem PySem.W PyProof.Rows
set_option Elab.async false
set_option maxRecDepth 100000
namespace Mine
/-- the unlike ones, as a set meets them -/
def ddS (σ : List Str) (v : Str) : List Str := if σ.any (· == v) then σ else σ ++ [v]
def dd (ss : List Str) : List Str := ss.foldl ddS []
theorem dd_snoc (ss : List Str) (v : Str) : dd (ss ++ [v]) = ddS (dd ss) v := by unfold dd; rw [List.foldl_append]; rfl
theorem ddS_any (σ : List Str) (v k : Str) : (ddS σ v).any (· == k) = (σ.any (· == k) || decide (k = v)) := by
  unfold ddS
  by_cases h : σ.any (· == v) = true
  · rw [if_pos h]
    by_cases e : k = v
    · subst e; rw [h]; simp
    · simp [e]
  · rw [if_neg h, List.any_append]
    by_cases e : k = v
    · subst e; simp
    · have hb : (v == k) = false := by simpa [beq_iff_eq] using (fun h' : v = k => e h'.symm)
      simp [hb, e]
theorem ddS_length (σ : List Str) (v : Str) : (ddS σ v).length = if σ.any (· == v) then σ.length else σ.length + 1 := by
  unfold ddS; split <;> simp
theorem dd_le (ss : List Str) : (dd ss).length ≤ ss.length := by
  suffices h : ∀ (ss σ : List Str), (ss.foldl ddS σ).length ≤ σ.length + ss.length by simpa [dd] using h ss []
  intro ss
  induction ss with
  | nil => intro σ; simp
  | cons s r ih =>
    intro σ
    rw [List.foldl_cons]
    have := ih (ddS σ s)
    rw [ddS_length] at this
    split at this <;> simp <;> omega

section
variable {c : Cx} {A : Around} {h hb : Heap} {env : Env}

theorem set_loop {S I : Addr} {fp : List Addr} {n : Nat} {P : Nat → Value → Prop} {St : Nat → Heap → Prop} (Wk : Walks c.prog c.w A.in1 I fp [I] n P St) (hSf : S ∉ fp) (val : Nat → Str)
    (hval : ∀ i v, P i v → ∃ t, v = .str (val i) t) (hn : n + 1 < scanBound) : ∀ (k i : Nat) (h : Heap), n - i = k → i ≤ n → St i h →
      h.SetOf (strKind c.prog c.w) S (fun k' => (dd ((List.range i).map val)).any (· == k')) (dd ((List.range i).map val)).length →
      WC c A (.builtin "set.update.loop" ⟨[.ref S, .ref I], []⟩) h (fun f h' => f = .ret .none ∧ (∀ b o, b ≠ S → b ≠ I → h.get? b = some o → h'.get? b = some o) ∧
        h'.SetOf (strKind c.prog c.w) S (fun k' => (dd ((List.range n).map val)).any (· == k')) (dd ((List.range n).map val)).length) := by
  have hSI : S ≠ I := fun e => hSf (e ▸ Wk.sub I (by simp))
  intro k
  induction k with
  | zero =>
    intro i h hk hi hst hS
    have e : i = n := by omega
    subst e
    refine .mk fun tk => codeAny_builtin PyProof.Rows.F.entry_set_update_loop ?_
    rw [Around.under_plainId PyProof.Rows.F.plain_set_update_loop _]
    show wpAny _ A.in1 (pyNext (.ref I) >>= _) _ _ _
    refine wpAny_bind (wk_done Wk hst fun h' tk' hk' => ?_)
    show wpAny _ A.in1 (ret Value.none) _ _ _
    refine wpAny_pure ⟨_, _, _, rfl, rfl, rfl, fun b o _ hb e => hk' b o (by simpa using hb) e, ?_⟩
    obtain ⟨o, es, ep, t, ho, rest⟩ := hS
    exact ⟨o, es, ep, t, hk' S _ (by simpa using hSI) ho, rest⟩
  | succ k ih =>
    intro i h hk hi hst hS
    have hlt : i < n := by omega
    refine .mk fun tk => codeAny_builtin PyProof.Rows.F.entry_set_update_loop ?_
    rw [Around.under_plainId PyProof.Rows.F.plain_set_update_loop _]
    show wpAny _ A.in1 (pyNext (.ref I) >>= _) _ _ _
    refine wpAny_bind (wk_item Wk i hlt hst fun v h₁ tk₁ hP hst₁ hk₁ => ?_)
    obtain ⟨t, rfl⟩ := hval i v hP
    have hS₁ : h₁.SetOf (strKind c.prog c.w) S (fun k' => (dd ((List.range i).map val)).any (· == k')) (dd ((List.range i).map val)).length := by
      obtain ⟨o, es, ep, tb, ho, rest⟩ := hS
      exact ⟨o, es, ep, tb, hk₁ S _ (by simpa using hSI) ho, rest⟩
    show wpAny _ A.in1 (holding [Value.str (val i) t] (setAdd S (.str (val i) t)) >>= _) _ _ _
    refine wpAny_bind (wpAny_holding ?_)
    unfold setAdd
    refine wpAny_holding ?_
    refine wpAny_bind ((strKind c.prog c.w).pyHash (k := val i) (strKind_is _ _ _ _) ?_)
    have hroom : (dd ((List.range i).map val)).length + 1 < scanBound := by have := dd_le ((List.range i).map val); simp at this; omega
    refine wpAny_setAddHashed_of (knd := strKind c.prog c.w) (strKind_is _ _ _ _) rfl hS₁ hroom fun h' hsb hS2 => ?_
    have er : (List.range (i + 1)).map val = (List.range i).map val ++ [val i] := by rw [List.range_succ, List.map_append]; rfl
    have hSi : h'.SetOf (strKind c.prog c.w) S (fun k' => (dd ((List.range (i + 1)).map val)).any (· == k')) (dd ((List.range (i + 1)).map val)).length :=
      PyProof.Rows.SetOf_congr hS2 (fun k' => by rw [er, dd_snoc, ddS_any]) (by rw [er, dd_snoc, ddS_length])
    have st' : St (i + 1) h' := Wk.frame _ _ _ hst₁ fun b hb o e => by
      rw [hsb.2 b (fun h : b = S => hSf (by rw [← h]; exact hb))]; exact e
    refine wpAny_pure ⟨plainId_quiet PyProof.Rows.F.plain_set_update_loop _, WC.go (ih (i + 1) h' (by omega) hlt st' hSi) fun f h'' tk'' hf => ?_⟩
    obtain ⟨rfl, k2, S2⟩ := hf
    exact ⟨_, _, _, rfl, rfl, rfl, fun b o hbS hbI e => k2 b o hbS hbI (by rw [hsb.2 b hbS]; exact hk₁ b o (by simpa using hbI) e), S2⟩

set_option maxHeartbeats 3200000 in
theorem ca_set {l : Addr} {vs : List Value} {ss : List Str} {Q : Value → Heap → Prop} (hh : A.handled = none) (hl : h.IsList l vs.toArray) (hi : StrsAre vs ss) (hn : ss.length + 1 < scanBound)
    (hq : ∀ h' a, Keep h h' → h'.SetOf (strKind c.prog c.w) a (fun k' => (dd ss).any (· == k')) (dd ss).length → Q (.ref a) h') : W c A (call (.type "set") [.ref l]) h Q := by
  obtain ⟨cc, tl, hmro⟩ := PySem.F.called_set.mro
  have hmade := PySem.F.called_set.made
  have hsub := PySem.F.called_set.sub
  have hlen := hi.length
  refine .mk fun tk E => wpAny_call (codeAny_of_tree ?_)
  show wpAny _ _ (callAny (.type "set") _) _ _ _
  refine wpAny_pure ⟨Code.quiet_builtin _ (by decide +kernel), codeAny_builtin PySem.F.entry_type_call ?_⟩
  rw [Around.under_plain (weight_type_call_type "set" [.ref l] []) rfl]
  have h1 := PySem.F.called_set.notType
  have h2 := PySem.F.called_set.canCreate
  have hct := PySem.F.typeCall_set_1 (.ref l)
  repeat (any_goals (first | assumption | wp_step))
  refine codeAny_mono (code_set_new_1 (.ref l) (E := E) (Q₁ := fun obj s₁ => ∃ led : Bool, obj = .ref h.objs.size ∧ s₁ = ⟨h.push { cls := .type "set", dict := none, data := .set #[] 0 (.fresh 0 0 led) }, c.g, c.d, tk + 1, c.os⟩) fun led => ⟨led, rfl, rfl⟩) fun r s₁ hr => ?_
  cases r with
  | error e => exact hr
  | ok fl =>
    cases fl with
    | ret obj =>
      obtain ⟨led, rfl, rfl⟩ := hr
      have hS : (h.push { cls := .type "set", dict := none, data := .set #[] 0 (.fresh 0 0 led) }).get? h.objs.size = some { cls := .type "set", dict := none, data := .set #[] 0 (.fresh 0 0 led) } := Heap.get?_push_size _ rfl
      have hT : Shared.TypeIs ⟨h.push { cls := .type "set", dict := none, data := .set #[] 0 (.fresh 0 0 led) }, c.g, c.d, tk + 1, c.os⟩ (.ref h.objs.size) "set" := ⟨_, hS, rfl⟩
      have hli := PySem.F.called_set.init.lookup
      have hbi := PySem.F.called_set.init.bind (.ref h.objs.size)
      repeat (any_goals (first | assumption | wp_step))
      refine codeAny_mono (codeAny_call_builtin (R := wants (fun r s₂ => r = .none ∧ ∃ h' tk, s₂ = ⟨h', c.g, c.d, tk, c.os⟩ ∧
          h'.SetOf (strKind c.prog c.w) h.objs.size (fun k' => (dd ss).any (· == k')) (dd ss).length ∧ Keep h h') E) PySem.F.called_set.init.plain PySem.F.entry_set_init (check_set_init_1 hT ?_)) fun r₂ s₂ hr₂ => ?_
      · obtain ⟨ol, hol, hcl, nl, hdl⟩ := hl
        obtain ⟨ocls, odict, odata, oslots⟩ := ol
        simp only at hcl hdl
        subst hcl; subst hdl
        have hol' : (h.push { cls := .type "set", dict := none, data := .set #[] 0 (.fresh 0 0 led) }).get? l = some { cls := .type "list", dict := odict, data := .seq vs.toArray nl, slots := oslots } := Heap.get?_push_of_some _ hol
        have hsls := PySem.F.sub_list_set
        have hslf := PySem.F.sub_list_frozenset
        have hne : (Value.type "list" == Value.type "dict") = false := by decide
        have hl1 : (h.push { cls := .type "set", dict := none, data := .set #[] 0 (.fresh 0 0 led) }).IsList l vs.toArray := ⟨_, hol', rfl, nl, rfl⟩
        unfold Builtin.«set.__init__» noKeywords Builtin.Frozenset.updateFrom
        generalize hPI : pyIter = PI
        wp_walk
        subst hPI
        refine wpAny_pyIter_list hl1 ?_
        refine wpAny_bind (wpAny_runValue ?_)
        have hlS : l < h.objs.size := Heap.lt_size hol
        have hh3 : A.in1.in1.in1.handled = none := by simp [hh]
        have hneI : l ≠ (h.push { cls := .type "set", dict := none, data := .set #[] 0 (.fresh 0 0 led) }).objs.size := by
          rw [Heap.size_push]; exact Nat.ne_of_lt (Nat.lt_succ_of_lt hlS)
        have hSf : h.objs.size ∉ [(h.push { cls := .type "set", dict := none, data := .set #[] 0 (.fresh 0 0 led) }).objs.size, l] := by
          rw [Heap.size_push]; simp only [List.mem_cons, List.not_mem_nil, or_false, not_or]
          exact ⟨Nat.ne_of_lt (Nat.lt_succ_self _), Nat.ne_of_gt hlS⟩
        have hval : ∀ (i : Nat) (v : Value), vs.toArray[i]? = some v → ∃ t, v = .str (ss.getD i Str.empty) t := by
          intro i v hv
          obtain ⟨y, t, rfl, hy⟩ := StrsAre.item hi i v (by simpa using hv)
          exact ⟨t, by rw [List.getD_eq_getElem?_getD, hy]; rfl⟩
        have er : (List.range vs.toArray.size).map (fun i => ss.getD i Str.empty) = ss := by
          apply List.ext_getElem?
          intro i
          simp only [List.size_toArray, List.getElem?_map, hlen]
          by_cases hlt : i < ss.length
          · simp [hlt]
          · simp [hlt]
        have L := set_loop (c := c) (A := A.in1.in1) (Walks.list hh3 _ l hneI vs.toArray) hSf (fun i => ss.getD i Str.empty) hval (by simp only [List.size_toArray]; omega) (vs.toArray.size - 0) 0 ((h.push { cls := .type "set", dict := none, data := .set #[] 0 (.fresh 0 0 led) }).push { cls := .type "list_iterator", data := .fields #[.ref l, .int 0 0] }) (by omega) (Nat.zero_le _)
          ⟨⟨_, Heap.get?_push_size _ rfl, rfl, rfl⟩, (hl1.push _)⟩ ?hS0
        · rw [er] at L
          refine L.go fun f h' tk' hf => ?_
          obtain ⟨rfl, k', S'⟩ := hf
          show wpAny _ _ _ _ _ _
          refine wpAny_pure ?_
          show wpAny _ _ (ret Value.none) _ _ _
          refine wpAny_pure ⟨rfl, h', _, rfl, S', fun b o e => ?_⟩
          have hb := Heap.lt_size e
          exact k' b o (Nat.ne_of_lt hb) (by rw [Heap.size_push]; exact Nat.ne_of_lt (Nat.lt_succ_of_lt hb)) (Heap.get?_push_of_some _ (Heap.get?_push_of_some _ e))
        · have hget : ((h.push { cls := .type "set", dict := none, data := .set #[] 0 (.fresh 0 0 led) }).push { cls := .type "list_iterator", data := .fields #[.ref l, .int 0 0] }).get? h.objs.size
              = some { cls := .type "set", dict := none, data := .set #[] 0 (.fresh 0 0 led) } := Heap.get?_push_of_some _ hS
          exact PyProof.Rows.SetOf_congr ((PyProof.Rows.setObjOf_fresh (knd := strKind c.prog c.w) led).setOf hget (by unfold scanBound; omega)) (fun _ => rfl) rfl
      · cases r₂ with
        | error e => exact hr₂
        | ok fl₂ =>
          cases fl₂ with
          | ret r =>
            obtain ⟨rfl, h', tk', rfl, hS', hk'⟩ := hr₂
            repeat (any_goals (first | assumption | wp_step))
            exact ⟨_, _, rfl, hq _ _ hk' hS'⟩
          | _ => exact hr₂.elim
    | _ => exact hr.elim

theorem ca_lenset {a : Addr} {S : Str → Bool} {n : Nat} {Q : Value → Heap → Prop} (hS : h.SetOf (strKind c.prog c.w) a S n) (hq : ∀ t, Q (.int n t) h) : W c A (call (.builtin "len") [.ref a]) h Q := by
  obtain ⟨o, es, ep, t, ho, hex, hd, _, _, hb, hf, hn⟩ := hS
  refine .mk fun tk E => call_len_set ho hex hd hf (by unfold scanBound at hb; omega) ⟨_, _, rfl, ?_⟩
  rw [hn]; exact hq _
theorem ca_len {l : Addr} {vs : List Value} {Q : Value → Heap → Prop} (hl : h.IsList l vs.toArray) (hsz : vs.length ≤ 1000) (hq : ∀ t, Q (.int vs.length t) h) : W c A (call (.builtin "len") [.ref l]) h Q := by
  refine .mk fun tk E => PyProof.Rows.len_list hl (by simp; omega) ⟨_, _, rfl, ?_⟩
  simpa using hq _
end

open PySem PySem.W PyProof.Rows
section
variable {c : Cx} {A : Around} {h hb : Heap} {env : Env}

/-! unpacking -/
theorem dr_iter {h₁ : Heap} {I : Addr} {n : Nat} {P : Nat → Value → Prop} {St : Nat → Heap → Prop} (It : Iter c A h₁ I n P St) : ∀ (k i : Nat) (h : Heap), i + k = n → St i h →
    W c A (draw (.ref I) k) h (fun vs h' => St n h' ∧ (∀ b o, b ≠ I → h.get? b = some o → h'.get? b = some o) ∧ vs.length = k ∧ ∀ j v, vs[j]? = some v → P (i + j) v)
  | 0, i, h, e, st => by
    have e' : i = n := by omega
    subst e'
    exact W.pure ⟨st, fun _ _ _ x => x, rfl, fun j v hv => by simp at hv⟩
  | k + 1, i, h, e, st => by
    obtain ⟨fp, Wk, _⟩ := It.fp
    refine .mk fun tk E => ?_
    show wpAny _ _ (pyNext (.ref I) >>= _) _ _ _
    refine wpAny_bind (wk_item Wk i (by omega) st fun v h₁ t1 hP st1 hk1 => ?_)
    refine wpAny_bind (wpAny_holding (W.go (dr_iter It k (i + 1) h₁ (by omega) st1) fun vs h2 t2 hv => wpAny_pure ⟨_, _, rfl, hv.1, fun b o hb e => hv.2.1 b o hb (hk1 b o (by simpa using hb) e), by simp [hv.2.2.1], fun j u hj => ?_⟩))
    cases j with
    | zero => simp at hj; subst hj; exact hP
    | succ j => rw [show i + (j + 1) = i + 1 + j by omega]; exact hv.2.2.2 j u (by simpa using hj)

theorem un_items {v : Value} {n : Nat} {P : Nat → Value → Prop} {Q : List Value → Heap → Prop} (h0 : W c A (notIterableAtAll v) h (fun b h' => b = false ∧ h' = h))
    (h1 : W c A (pyIter v) h (fun it h' => ∃ I St, it = .ref I ∧ Keep h h' ∧ Iter c A h I n P St ∧ St 0 h'))
    (hq : ∀ vs h', Keep h h' → vs.length = n → (∀ j v, vs[j]? = some v → P j v) → Q vs h') : W c A (unpackItems v n none) h Q := by
  unfold unpackItems
  refine W.bind (h0.mono ?_)
  rintro _ hx ⟨rfl, ex⟩
  rw [ex]
  simp only [Bool.false_eq_true, if_false]
  refine W.bind (W.holding (h1.mono ?_))
  rintro _ h' ⟨I, St, rfl, k1, It, st⟩
  refine W.bind (W.holding ((dr_iter It n 0 h' (by omega) st).mono ?_))
  rintro vs h2 ⟨st2, k2, hl, hv⟩
  have kk : Keep h h2 := fun b o e => k2 b o (by rintro rfl; rw [It.fresh] at e; cases e) (k1 b o e)
  rw [if_neg (by omega)]
  obtain ⟨fp, Wk, _⟩ := It.fp
  refine .mk fun tk E => wpAny_bind (wpAny_holding (wk_done Wk st2 fun h3 t3 k3 => ?_))
  simp only [Option.isSome_none, Bool.false_eq_true, if_false]
  refine wpAny_pure ⟨_, _, rfl, hq vs h3 (fun b o e => k3 b o (by simp only [List.mem_cons, List.not_mem_nil, or_false]; rintro rfl; rw [It.fresh] at e; cases e) (kk b o e)) hl fun j v hj => by simpa using hv j v hj⟩

theorem ni_of {v : Value} {T : String} {id : String} (hT : ∀ tk, Shared.TypeIs ⟨h, c.g, c.d, tk, c.os⟩ v T) (slot : Slot T "__iter__" id) : W c A (notIterableAtAll v) h (fun b h' => b = false ∧ h' = h) := by
  refine .mk fun tk E => ?_
  unfold notIterableAtAll
  exact wpAny_bind (wpAny_specialOf (hT tk) slot.lookup (wpAny_pure ⟨_, _, rfl, rfl, rfl⟩))

theorem list_eq_of {vs ws : List Value} {n : Nat} (hl : vs.length = n) (hw : ws.length = n) (hv : ∀ (j : Nat) (v : Value), vs[j]? = some v → ws[j]? = some v) : vs = ws := by
  apply List.ext_getElem?
  intro j
  cases e : vs[j]? with
  | some v => rw [hv j v e]
  | none => rw [List.getElem?_eq_none_iff] at e; rw [eq_comm, List.getElem?_eq_none_iff]; omega

theorem it_tup {l : Addr} {vs : List Value} {Q : Value → Heap → Prop} (hh : A.handled = none) (hl : h.IsTuple l vs.toArray)
    (hq : ∀ I h' St, Keep h h' → Iter c A h I vs.length (fun i v => vs[i]? = some v) St → St 0 h' → Q (.ref I) h') : W c A (pyIter (.ref l)) h Q := by
  refine .mk fun tk E => wpAny_pyIter_tuple hl ⟨_, _, rfl, ?_⟩
  have hlt : l < h.objs.size := Heap.lt_size hl.choose_spec.1
  refine hq _ _ (fun i h => h.IsTupleIter _ l i ∧ h.IsTuple l vs.toArray) (Keep.push _ _) ⟨fresh_none (Nat.le_refl _), ⟨[h.objs.size, l], ?_, ?_⟩, ?_, ?_⟩ ⟨⟨_, Heap.get?_push_size _ rfl, rfl, rfl⟩, (Keep.push _ _).tup hl⟩
  · have := Walks.tuple (prog := c.prog) (w := c.w) (A := A) hh h.objs.size l (Nat.ne_of_lt hlt) vs.toArray
    simpa using this
  · intro b hb
    simp only [List.mem_cons, List.not_mem_nil, or_false] at hb
    rcases hb with rfl | rfl
    · exact .inl rfl
    · exact .inr ⟨_, hl.choose_spec.1⟩
  · rintro i h' ⟨⟨o, ho, _, hd⟩, _⟩; exact ⟨o, _, ho, hd⟩
  · rintro i h' target v Q ⟨⟨o, ho, hc, hd⟩, _⟩ hq; exact letgo_of ho hc hd (by decide) hq

theorem as_list {l : Addr} {vs : List Value} {elts : List Expr} {k : Nat} {pos : Pos} {Q : Unit → Heap → Prop} (hh : A.handled = none) (hl : h.IsList l vs.toArray)
    (hn : (assignEach elts env).length = vs.length) (hstar : (assignEach elts env).findIdx? (·.1) = none)
    (hq : ∀ h', Keep h h' → W c A (assignInOrder ((assignEach elts env).map (·.2)) vs) h' Q) : W c A (assign (.Tuple elts k pos) env (.ref l)) h Q := by
  rw [arm_assign_Tuple]
  refine W.bind (W.standAt ?_)
  unfold unpack
  rw [hn, hstar]
  refine W.bind (W.holding (un_items (P := fun i v => vs[i]? = some v) (ni_of (fun tk => hl.typeIs) PySem.F.slot_list_iter) (it_list hh hl fun I h' St k It st => ⟨I, St, rfl, k, It, st⟩) fun ws h' k hw hv => ?_))
  rw [list_eq_of hw rfl hv]
  exact hq h' k
theorem as_tup {l : Addr} {vs : List Value} {elts : List Expr} {k : Nat} {pos : Pos} {Q : Unit → Heap → Prop} (hh : A.handled = none) (hl : h.IsTuple l vs.toArray)
    (hn : (assignEach elts env).length = vs.length) (hstar : (assignEach elts env).findIdx? (·.1) = none)
    (hq : ∀ h', Keep h h' → W c A (assignInOrder ((assignEach elts env).map (·.2)) vs) h' Q) : W c A (assign (.Tuple elts k pos) env (.ref l)) h Q := by
  rw [arm_assign_Tuple]
  refine W.bind (W.standAt ?_)
  unfold unpack
  rw [hn, hstar]
  refine W.bind (W.holding (un_items (P := fun i v => vs[i]? = some v) (ni_of (fun tk => hl.typeIs) PySem.F.slot_tuple_iter) (it_tup hh hl fun I h' St k It st => ⟨I, St, rfl, k, It, st⟩) fun ws h' k hw hv => ?_))
  rw [list_eq_of hw rfl hv]
  exact hq h' k
theorem ao_nil {Q : Unit → Heap → Prop} (hq : Q () h) : W c A (assignInOrder ((assignEach [] env).map (·.2)) []) h Q := W.pure hq
theorem ao_cons {x : Str} {px : Pos} {rest : List Expr} {v : Value} {vs : List Value} {Q : Unit → Heap → Prop} (hx : W c A (storeName env x v) h (fun _ h₁ => W c A (assignInOrder ((assignEach rest env).map (·.2)) vs) h₁ Q)) :
    W c A (assignInOrder ((assignEach (.Name x px :: rest) env).map (·.2)) (v :: vs)) h Q := by
  show W c A (do holding vs (assign (.Name x px) env v); assignInOrder ((assignEach rest env).map (·.2)) vs) h Q
  exact W.bind (W.holding (.mk fun tk E => wpAny_assign_Name (hx.run tk E)))
theorem ao_name {x : Str} {px : Pos} {rest : List Expr} {v : Value} {vs : List Value} {Q : Unit → Heap → Prop} (hx : W c A (assign (.Name x px) env v) h (fun _ h₁ => W c A (assignInOrder ((assignEach rest env).map (·.2)) vs) h₁ Q)) :
    W c A (assignInOrder ((assignEach (.Name x px :: rest) env).map (·.2)) (v :: vs)) h Q := by
  show W c A (do holding vs (assign (.Name x px) env v); assignInOrder ((assignEach rest env).map (·.2)) vs) h Q
  exact W.bind (W.holding hx)

/-- a, b, c = .. -/
theorem ex_setT {elts : List Expr} {k : Nat} {px pos : Pos} {value : Expr} {Q : Flow → Heap → Prop} (hx : W c A (eval value env) h (fun v h₁ => W c A (assign (.Tuple elts k px) env v) h₁ (fun _ h₂ => Q .next h₂)))
    (hs : swapsWith value (some (.Tuple elts k px)) pos.line env = pure false) (hw : swappedStores [.Tuple elts k px] value env = pure none) : W c A (exec (.Assign [.Tuple elts k px] value pos) env) h Q := by
  have e : exec (.Assign [.Tuple elts k px] value pos) env = (do
      standAt pos
      if ← swapsWith value (some (.Tuple elts k px)) pos.line env then do
        evalThenUse value env fun v => assignAll v ((assignEach [.Tuple elts k px] env).map (·.2))
        pure .next
      else do
        let v ← eval value env
        assignStores env v (← swappedStores [.Tuple elts k px] value env) ((assignEach [.Tuple elts k px] env).map (·.2))) := rfl
  rw [e, hs, hw]
  refine W.bind (W.standAt (W.bind (W.pure ?_)))
  simp only [Bool.false_eq_true, if_false]
  refine W.bind (hx.mono fun v h₁ h1 => W.bind (W.pure ?_))
  show W c A (do assign (.Tuple elts k px) env v; pure .next) h₁ Q
  exact W.bind (h1.mono fun _ h₂ h2 => W.pure h2)
end

open PySem PySem.W PyProof.Rows
mutual
/-- v reads as d; its lists stand at addresses that are ok -/
inductive Dat (ok : Addr → Prop) (h : Heap) : Value → PyData → Prop
  | int (i t) : Dat ok h (.int i t) (.int i)
  | str (x t) : Dat ok h (.str x t) (.str x)
  | bool (b) : Dat ok h (.bool b) (.bool b)
  | list {a vs ds} : ok a → h.PlainList a vs.toArray → DatAll ok h vs ds → Dat ok h (.ref a) (.list ds)
inductive DatAll (ok : Addr → Prop) (h : Heap) : List Value → List PyData → Prop
  | nil : DatAll ok h [] []
  | cons {v vs d ds} : Dat ok h v d → DatAll ok h vs ds → DatAll ok h (v :: vs) (d :: ds)
end

section
variable {ok ok' : Addr → Prop} {h h' : Heap}
mutual
theorem Dat.tr (hk : ∀ a vs, ok a → h.PlainList a vs → ok' a ∧ h'.PlainList a vs) {v : Value} {d : PyData} : Dat ok h v d → Dat ok' h' v d
  | .int i t => .int i t
  | .str x t => .str x t
  | .bool b => .bool b
  | .list a p r => .list (hk _ _ a p).1 (hk _ _ a p).2 (DatAll.tr hk r)
theorem DatAll.tr (hk : ∀ a vs, ok a → h.PlainList a vs → ok' a ∧ h'.PlainList a vs) {vs : List Value} {ds : List PyData} : DatAll ok h vs ds → DatAll ok' h' vs ds
  | .nil => .nil
  | .cons a r => .cons (Dat.tr hk a) (DatAll.tr hk r)
end
mutual
theorem Dat.reads {v : Value} {d : PyData} : Dat ok h v d → ∃ as, Reads h v d as
  | .int i t => ⟨_, .int i t⟩
  | .str x t => ⟨_, .str x t⟩
  | .bool b => ⟨_, .bool b⟩
  | .list a ⟨n, e⟩ r => let ⟨_, q⟩ := DatAll.reads r; ⟨_, .list e rfl rfl q⟩
theorem DatAll.reads {vs : List Value} {ds : List PyData} : DatAll ok h vs ds → ∃ as, ReadsAll h vs ds as
  | .nil => ⟨_, .nil⟩
  | .cons a r => let ⟨_, p⟩ := Dat.reads a; let ⟨_, q⟩ := DatAll.reads r; ⟨_, .cons p q⟩
end

theorem Dat.list_inv {v : Value} {ds : List PyData} (x : Dat ok h v (.list ds)) : ∃ a vs, v = .ref a ∧ ok a ∧ h.PlainList a vs.toArray ∧ DatAll ok h vs ds := by
  cases x with | list a p r => exact ⟨_, _, rfl, a, p, r⟩
theorem Dat.int_inv {v : Value} {i : Int} (x : Dat ok h v (.int i)) : ∃ t, v = .int i t := by cases x; exact ⟨_, rfl⟩
theorem Dat.str_inv {v : Value} {i : Str} (x : Dat ok h v (.str i)) : ∃ t, v = .str i t := by cases x; exact ⟨_, rfl⟩
theorem Dat.bool_inv {v : Value} {i : Bool} (x : Dat ok h v (.bool i)) : v = .bool i := by cases x; rfl
theorem DatAll.length {vs : List Value} {ds : List PyData} : DatAll ok h vs ds → vs.length = ds.length
  | .nil => rfl
  | .cons _ r => by simp [DatAll.length r]
theorem DatAll.at {vs : List Value} {ds : List PyData} : DatAll ok h vs ds → ∀ (i : Nat) (d : PyData), ds[i]? = some d → ∃ v, vs[i]? = some v ∧ Dat ok h v d
  | .nil, i, d, e => by simp at e
  | .cons a r, 0, d, e => by simp at e; subst e; exact ⟨_, rfl, a⟩
  | .cons a r, i + 1, d, e => by simpa using DatAll.at r i d (by simpa using e)
theorem DatAll.val {vs : List Value} {ds : List PyData} : DatAll ok h vs ds → ∀ (i : Nat) (v : Value), vs[i]? = some v → ∃ d, ds[i]? = some d ∧ Dat ok h v d
  | .nil, i, d, e => by simp at e
  | .cons a r, 0, d, e => by simp at e; subst e; exact ⟨_, rfl, a⟩
  | .cons a r, i + 1, d, e => by simpa using DatAll.val r i d (by simpa using e)
theorem DatAll.append {vs ws : List Value} {ds es : List PyData} : DatAll ok h vs ds → DatAll ok h ws es → DatAll ok h (vs ++ ws) (ds ++ es)
  | .nil, y => y
  | .cons a r, y => .cons a (DatAll.append r y)
theorem DatAll.strs {vs : List Value} : ∀ {ss : List Str}, DatAll ok h vs (ss.map .str) → StrsAre vs ss
  | [], x => by cases x; exact .nil
  | s :: ss, x => by cases x with | cons a r => obtain ⟨t, rfl⟩ := a.str_inv; exact .cons _ _ (DatAll.strs r)
theorem DatAll.of_strs {vs : List Value} {ss : List Str} : StrsAre vs ss → DatAll ok h vs (ss.map .str)
  | .nil => .nil
  | .cons _ _ r => .cons (.str _ _) (DatAll.of_strs r)
theorem DatAll.of_paired {α : Type} {f : α → PyData} {l : List α} {vs : List Value} : Paired (fun i y => Dat ok h y (f i)) l vs → DatAll ok h vs (l.map f)
  | .nil => .nil
  | .cons a r => .cons a (DatAll.of_paired r)

def scal : PyData → Bool
  | .int _ | .str _ | .bool _ => true
  | _ => false
def flat : PyData → Bool
  | .list ds => ds.all scal
  | d => scal d
theorem DatAll.scal {vs : List Value} {ds : List PyData} (hs : ds.all scal = true) : DatAll ok h vs ds → DatAll ok' h' vs ds
  | .nil => .nil
  | .cons a r => by
    simp only [List.all_cons, Bool.and_eq_true] at hs
    refine .cons ?_ (DatAll.scal hs.2 r)
    cases a with
    | int => exact .int _ _
    | str => exact .str _ _
    | bool => exact .bool _
    | list => cases hs.1
theorem flat_stab {f : Nat → PyData} (hf : ∀ i, flat (f i) = true) : Stab (fun i y h => Dat ok h y (f i)) := by
  intro i y h h' x hk
  have hf' := hf i
  show Dat ok h' y (f i)
  generalize f i = d at x hf' ⊢
  cases x with
  | int => exact .int _ _
  | str => exact .str _ _
  | bool => exact .bool _
  | list a p r => exact .list a (p.at fun o e => hk _ rfl o e) (DatAll.scal hf' r)
theorem Dat.hard {y : Value} {d : PyData} (x : Dat ok h y d) (T : Addr) (e : y = .ref T) : ∃ o, h.get? T = some o ∧ Obj.hard o := by
  cases x with
  | int => cases e
  | str => cases e
  | bool => cases e
  | list a p r => cases e; obtain ⟨n, e⟩ := p; exact ⟨_, e, fun _ _ => by simp, fun _ => by simp⟩
end

/-- all but iterators stays -/
def KeepN (h h' : Heap) : Prop := ∀ b o, (∀ vs, o.data ≠ .fields vs) → h.get? b = some o → h'.get? b = some o
/-- lists and the like stay, but for those at L -/
def KH (L : List Addr) (h h' : Heap) : Prop := ∀ b o, Obj.hard o → b ∉ L → h.get? b = some o → h'.get? b = some o

section
variable {h h' h'' hb : Heap} {env : Env} {ok : Addr → Prop} {L : List Addr}
theorem KeepN.pl (k : KeepN h h') {a : Addr} {vs : Array Value} (x : h.PlainList a vs) : h'.PlainList a vs := by
  obtain ⟨n, e⟩ := x; exact ⟨n, k _ _ (fun _ => by simp) e⟩
theorem KeepN.var (k : KeepN h h') {x : Str} {v : Value} (y : Var env h x v) : Var env h' x v := by
  rcases y with ⟨a, m, b, d⟩ | ⟨a, z, b, o, ho, hd⟩
  · refine .inl ⟨a, m, ?_, d⟩
    obtain ⟨o, es, ep, ho, hd, r⟩ := b
    exact ⟨o, es, ep, k _ o (fun _ => by rw [hd]; simp) ho, hd, r⟩
  · exact .inr ⟨a, z, b, o, k _ o (fun _ => by rw [hd]; simp) ho, hd⟩
theorem KeepN.dat (k : KeepN h h') {v : Value} {d : PyData} (x : Dat ok h v d) : Dat ok h' v d := x.tr fun _ _ a p => ⟨a, k.pl p⟩
theorem Keep.dat (k : Keep h h') {v : Value} {d : PyData} (x : Dat ok h v d) : Dat ok h' v d := x.tr fun _ _ a p => ⟨a, k.pl p⟩
theorem KeepH.dat (k : KeepH h h') {v : Value} {d : PyData} (x : Dat ok h v d) : Dat ok h' v d := x.tr fun _ _ a p => ⟨a, k.pl p⟩
theorem KeepB.dat {l : Addr} (k : KeepB l h h') (hl : ∀ a, ok a → a ≠ l) {v : Value} {d : PyData} (x : Dat ok h v d) : Dat ok h' v d := x.tr fun _ _ a p => ⟨a, k.pl (hl _ a) p⟩
theorem Dat.apart {l : Addr} (hl : h.get? l = none) {v : Value} {d : PyData} (x : Dat ok h v d) : Dat (fun a => ok a ∧ a ≠ l) h v d :=
  x.tr fun a vs o p => ⟨⟨o, by rintro rfl; obtain ⟨n, e⟩ := p; rw [hl] at e; cases e⟩, p⟩
theorem Dat.weak {ok' : Addr → Prop} (ho : ∀ a, ok a → ok' a) {v : Value} {d : PyData} (x : Dat ok h v d) : Dat ok' h v d := x.tr fun a _ o p => ⟨ho a o, p⟩
theorem DatAll.keep (k : Keep h h') {v : List Value} {d : List PyData} (x : DatAll ok h v d) : DatAll ok h' v d := x.tr fun _ _ a p => ⟨a, k.pl p⟩
theorem DatAll.keepH (k : KeepH h h') {v : List Value} {d : List PyData} (x : DatAll ok h v d) : DatAll ok h' v d := x.tr fun _ _ a p => ⟨a, k.pl p⟩
theorem DatAll.keepN (k : KeepN h h') {v : List Value} {d : List PyData} (x : DatAll ok h v d) : DatAll ok h' v d := x.tr fun _ _ a p => ⟨a, k.pl p⟩
theorem DatAll.keepB {l : Addr} (k : KeepB l h h') (hl : ∀ a, ok a → a ≠ l) {v : List Value} {d : List PyData} (x : DatAll ok h v d) : DatAll ok h' v d := x.tr fun _ _ a p => ⟨a, k.pl (hl _ a) p⟩
theorem DatAll.weak {ok' : Addr → Prop} (ho : ∀ a, ok a → ok' a) {v : List Value} {d : List PyData} (x : DatAll ok h v d) : DatAll ok' h v d := x.tr fun a _ o p => ⟨ho a o, p⟩
theorem pl_fresh_ne {a l : Addr} {vs : Array Value} (p : h.PlainList l vs) (e : h.get? a = none) : a ≠ l := by
  rintro rfl; obtain ⟨n, e'⟩ := p; rw [e] at e'; cases e'
theorem Keep.kh (k : Keep h h') : KH L h h' := fun b o _ _ e => k b o e
theorem KeepH.kh (k : KeepH h h') : KH L h h' := fun b o a _ e => k b o a e
theorem KeepB.kh {l : Addr} (k : KeepB l h h') (hl : l ∈ L) : KH L h h' := fun b o _ n e => k b o (fun e' => n (e' ▸ hl)) e
theorem KH.refl : KH L h h := fun _ _ _ _ e => e
theorem KH.trans (a : KH L h h') (b : KH L h' h'') : KH L h h'' := fun x o ho hn e => b x o ho hn (a x o ho hn e)
end

/-- an iterator that reads its own object and the lists at rd alone -/
structure IterR (c : Cx) (A : Around) (h₁ : Heap) (I : Addr) (rd : List Addr) (n : Nat) (P : Nat → Value → Prop) (St : Nat → Heap → Prop) : Prop where
  fresh : h₁.get? I = none
  fp : ∃ fp, Walks c.prog c.w A I fp [I] n P St ∧ ∀ b ∈ fp, b = I ∨ b ∈ rd
  live : ∀ i h, St i h → ∃ o vs, h.get? I = some o ∧ o.data = .fields vs
  rdh : ∀ i h, St i h → ∀ b ∈ rd, ∃ vs, h.IsList b vs
  letgo : ∀ i h target v Q, St i h → Q () h → W c A (letOwnedTupleGo target (.ref I) v) h Q

section
variable {c : Cx} {A : Around} {h hb : Heap} {env : Env}

theorem itr_list {l : Addr} {vs : List Value} {Q : Value → Heap → Prop} (hh : A.handled = none) (hl : h.IsList l vs.toArray)
    (hq : ∀ I h' St, Keep h h' → IterR c A h I [l] vs.length (fun i v => vs[i]? = some v) St → St 0 h' → Q (.ref I) h') : W c A (pyIter (.ref l)) h Q := by
  refine .mk fun tk E => wpAny_pyIter_list hl ⟨_, _, rfl, ?_⟩
  have hlt : l < h.objs.size := Heap.lt_size hl.choose_spec.1
  refine hq _ _ (fun i h => h.IsListIter _ l i ∧ h.IsList l vs.toArray) (Keep.push _ _) ⟨fresh_none (Nat.le_refl _), ⟨[h.objs.size, l], ?_, ?_⟩, ?_, ?_, ?_⟩ ⟨⟨_, Heap.get?_push_size _ rfl, rfl, rfl⟩, (Keep.push _ _).list hl⟩
  · have := Walks.list (prog := c.prog) (w := c.w) (A := A) hh h.objs.size l (Nat.ne_of_lt hlt) vs.toArray
    simpa using this
  · intro b hb; simpa using hb
  · rintro i h' ⟨⟨o, ho, _, hd⟩, _⟩; exact ⟨o, _, ho, hd⟩
  · rintro i h' ⟨_, q⟩ b hb; simp only [List.mem_cons, List.not_mem_nil, or_false] at hb; subst hb; exact ⟨_, q⟩
  · rintro i h' target v Q ⟨⟨o, ho, hc, hd⟩, _⟩ hq; exact letgo_of ho hc hd (by decide) hq

theorem range2_size {a n : Nat} (hn : a + n ≤ 1000) : Builtin.Range.rangeSize (a : Int) ((a + n : Nat) : Int) 1 = n := by
  unfold Builtin.Range.rangeSize
  split <;> (try split) <;> simp at * <;> omega
theorem range2_small {a n : Nat} (hn : a + n ≤ 1000) : Builtin.Range.small (a : Int) ((a + n : Nat) : Int) 1 = true := by
  unfold Builtin.Range.small
  rw [range2_size hn]
  unfold Builtin.Range.rangeFitsLong
  simp
  omega

theorem itr_range {r : Addr} {a n : Nat} {t u v : Tok} {Q : Value → Heap → Prop} (hh : A.handled = none) (hr : IsRange h r (a : Int) ((a + n : Nat) : Int) 1 t u v) (hn : a + n ≤ 1000)
    (hq : ∀ I h' St, Keep h h' → IterR c A h I [] n (fun i v => ∃ t, v = .int ((a + i : Nat) : Int) t) St → St 0 h' → Q (.ref I) h') : W c A (pyIter (.ref r)) h Q := by
  refine .mk fun tk E => wpAny_pyIter_range hr (range2_small hn) ⟨_, _, rfl, ?_⟩
  have Wk := Walks.range (prog := c.prog) (w := c.w) (A := A) hh h.objs.size (a : Int) 1 n
  simp only [Int.mul_one] at Wk
  refine hq _ _ _ (Keep.push _ _) ⟨fresh_none (Nat.le_refl _), ⟨[h.objs.size], (by simpa using Wk), ?_⟩, ?_, ?_, ?_⟩ ?_
  · intro b hb; simp only [List.mem_cons, List.not_mem_nil, or_false] at hb; exact .inl hb
  · intro i h' st; exact ⟨_, _, st, rfl⟩
  · intro i h' _ b hb; cases hb
  · intro i h' target v Q st hq; exact letgo_of st rfl rfl (by decide) hq
  · show IsRangeIter _ _ _ _ _
    rw [range2_size hn]
    simpa using Heap.get?_push_size _ rfl
theorem IterR.iter {h₁ : Heap} {I : Addr} {rd : List Addr} {n : Nat} {P : Nat → Value → Prop} {St : Nat → Heap → Prop} (x : IterR c A h₁ I rd n P St) (hr : ∀ b ∈ rd, ∃ o, h₁.get? b = some o) : Iter c A h₁ I n P St :=
  ⟨x.fresh, let ⟨fp, w, q⟩ := x.fp; ⟨fp, w, fun b hb => (q b hb).imp id (hr b)⟩, x.live, x.letgo⟩
theorem it_range2 {r : Addr} {a n : Nat} {t u v : Tok} {Q : Value → Heap → Prop} (hh : A.handled = none) (hr : IsRange h r (a : Int) ((a + n : Nat) : Int) 1 t u v) (hn : a + n ≤ 1000)
    (hq : ∀ I h' St, Keep h h' → Iter c A h I n (fun i v => ∃ t, v = .int ((a + i : Nat) : Int) t) St → St 0 h' → Q (.ref I) h') : W c A (pyIter (.ref r)) h Q :=
  itr_range hh hr hn fun I h' St k It st => hq I h' St k (It.iter fun b hb => by cases hb) st
theorem ca_range2 {a b : Int} {t u : Tok} {Q : Value → Heap → Prop} (hq : ∀ h' r t2, Keep h h' → IsRange h' r a b 1 t u t2 → Q (.ref r) h') : W c A (call (.type "range") [.int a t, .int b u]) h Q :=
  .mk fun _ _ => call_range_2 ⟨_, _, rfl, hq _ _ _ (Keep.push _ _) (IsRange.new ..)⟩

/-- the for statement -/
theorem ex_for2 {target iter : Expr} {body : List Stmt} {pos : Pos} {Q : Flow → Heap → Prop} {L rd : List Addr} (F : Frm hb env h)
    (hx : W c A (eval iter env) h (fun v h₁ => Keep h h₁ ∧ W c A (pyIter v) h₁ (fun it h₂ => ∃ I n P St, ∃ J : Nat → Heap → Prop, it = .ref I ∧ IterR c A h₁ I rd n P St ∧ Keep h₁ h₂ ∧ St 0 h₂ ∧ (∀ b ∈ L, ∃ o, h₁.get? b = some o) ∧ (∀ b ∈ rd, b ∉ L) ∧ J 0 h₂ ∧
      (∀ i v h₃ h', i < n → P i v → J i h' → KeepN h' h₃ → KeepB I h' h₃ → Frm hb env h₃ → W c A (assign target env v) h₃ (fun _ h₄ => W c A (execs body env) h₄ (fun f h₅ => match f with
        | .next | .cont => J (i + 1) h₅ ∧ Frm hb env h₅ ∧ KH L h₃ h₅
        | .brk => Q .next h₅
        | .ret v => Q (.ret v) h₅))) ∧
      (∀ h₃ h', J n h' → KeepN h' h₃ → KeepB I h' h₃ → Frm hb env h₃ → Q .next h₃))))
    (hs : ∀ x, foldedSetIterable iter env x = pure x := by intro _; rfl) :
    W c A (exec (.For target iter body [] pos) env) h Q := by
  refine .mk fun tk E => wpAny_For (hx.go fun v h₁ t1 h1 => W.go h1.2 fun it h₂ t2 h2 => ?_) hs
  have F1 := h1.1.frm F
  obtain ⟨I, n, P, St, J, rfl, ⟨hfr, ⟨fp, Wk, hfp⟩, hlive, hrd, hlet⟩, k12, hst, hL, hrL, hJ, turn, fin⟩ := h2
  have hIL : I ∉ L := fun hm => by obtain ⟨o, e⟩ := hL I hm; rw [hfr] at e; cases e
  refine codeAny_forLoop_any (fun k s => ∃ i h' tk', s = ⟨h', c.g, c.d, tk' + 1, c.os⟩ ∧ i ≤ n ∧ k = n + 1 - i ∧ St i h' ∧ J i h' ∧ Frm hb env h') (fun k s hI => ?_) (n + 1) ⟨0, _, _, rfl, Nat.zero_le _, rfl, hst, hJ, k12.frm F1⟩
  obtain ⟨i, h', tk', rfl, hi, rfl, hst', hJ', F'⟩ := hI
  have next : ∀ h₃, (∀ b o, b ≠ I → h'.get? b = some o → h₃.get? b = some o) → KeepN h' h₃ ∧ Frm hb env h₃ := by
    intro h₃ k
    obtain ⟨oI, vI, eI, dI⟩ := hlive i h' hst'
    have kn : KeepN h' h₃ := fun b o ho e => k b o (by rintro rfl; rw [eI] at e; cases e; exact ho _ dI) e
    refine ⟨kn, F'.kind, F'.glob, F'.bins, fun b o e => k b o (by rintro rfl; have := F1.keep b o e; rw [hfr] at this; cases this) (F'.keep b o e), ?_, fun x z e => ?_, F'.inj, F'.nsNew, F'.cellNew⟩
    · obtain ⟨m, o, es, ep, ho, hd, r⟩ := F'.ns
      exact ⟨m, o, es, ep, kn _ o (fun _ => by rw [hd]; simp) ho, hd, r⟩
    · obtain ⟨u, o, ho, hd⟩ := F'.cell x z e
      exact ⟨u, o, kn _ o (fun _ => by rw [hd]; simp) ho, hd⟩
  by_cases hlt : i < n
  · refine wk_item Wk i hlt hst' fun v h₃ t3 hP hst₃ hk₃ => ?_
    refine W.go (hlet (i + 1) h₃ target v (fun _ h => h = h₃) hst₃ rfl) fun _ h₃' t3' e3 => ?_
    subst e3
    have N := next h₃' fun b o hb e => hk₃ b o (by simpa using hb) e
    refine W.go (turn i v h₃' h' hlt hP hJ' N.1 (fun b o hb e => hk₃ b o (by simpa using hb) e) N.2) fun _ h₄ t4 h4 => W.go h4 fun f h₅ t5 h5 => ?_
    have st : KH L h₃' h₅ → St (i + 1) h₅ := fun hk => Wk.frame _ _ _ hst₃ fun b hb o e => by
      rcases hfp b hb with rfl | hbr
      · obtain ⟨oI, vI, eI, dI⟩ := hlive (i + 1) h₃' hst₃
        rw [eI] at e; cases e
        exact hk _ _ ⟨fun _ _ => by rw [dI]; simp, fun _ => by rw [dI]; simp⟩ hIL eI
      · obtain ⟨vs, ol, el, _, nl, dl⟩ := hrd (i + 1) h₃' hst₃ b hbr
        rw [el] at e; cases e
        exact hk _ _ ⟨fun _ _ => by rw [dl]; simp, fun _ => by rw [dl]; simp⟩ (hrL b hbr) el
    cases f with
    | next => exact ⟨n + 1 - (i + 1), by omega, i + 1, _, _, rfl, hlt, rfl, st h5.2.2, h5.1, h5.2.1⟩
    | cont => exact ⟨n + 1 - (i + 1), by omega, i + 1, _, _, rfl, hlt, rfl, st h5.2.2, h5.1, h5.2.1⟩
    | brk => exact ⟨_, _, rfl, h5⟩
    | ret v => exact ⟨_, _, rfl, h5⟩
  · have e : i = n := by omega
    subst e
    refine wk_done Wk hst' fun h₃ t3 hk₃ => ?_
    have N := next h₃ fun b o hb e => hk₃ b o (by simpa using hb) e
    exact wpAny_execs_nil ⟨_, _, rfl, fin h₃ h' hJ' N.1 (fun b o hb e => hk₃ b o (by simpa using hb) e) N.2⟩

/-- a call of a def that has cells -/
theorem fn_callC {n : Nat} {a : Addr} {nm : Str} {params : Arguments} {body : List Stmt} {scope : Scope} {args : List Value} {binds : List (Str × Value)} {Q : Value → Heap → Prop}
    (hf : FnIs h a nm params body scope) (hlim : h.NoLimit) (R : Room (n + 1) A)
    (hbind : ∀ pm cd doc, bindArgs (Calls.docDef nm params body scope pm cd doc) ⟨args, []⟩ = pure binds)
    (hkind : ∀ x ∈ binds, scope.names.lookup x.1 = some .local ∨ scope.names.lookup x.1 = some .cell)
    (hbody : ∀ A' env h₁, Room n A' → Frm h env h₁ → (∀ x, env.kindOf x = scope.names.lookup x) → (∀ x, scope.names.lookup x = some .cell → (env.cells.lookup x).isSome = true) →
      (∀ x v, scope.names.lookup x = some .local → bindL (fun x => scope.names.lookup x) binds (fun _ => none) x = some v → Var env h₁ x v) →
      (∀ x v, scope.names.lookup x = some .cell → bindC (fun x => scope.names.lookup x) binds (fun _ => none) x = some v → Var env h₁ x v) →
      W c A' (execs body env) h₁ (fun f h' => Q (match f with | .ret v => v | _ => .none) h'))
    (hco : scope.isCoroutine = false := by rfl) (hgen : scope.isGenerator = false := by rfl) (hk : scope.kind = .function := by rfl) :
    W c A (call (.ref a) args) h Q := by
  obtain ⟨o, pm, cd, doc, ho, hd, hcd⟩ := hf
  refine .mk fun tk E => ?_
  refine wpAny_call (codeAny_call_function (by have := R.depth; show A.depth < _; omega) ho hd hco hgen rfl hcd ?_)
  rw [hbind pm cd doc]
  refine wpAny_pure (wpAny_with_toks (n := 1) (show 1 ≤ tk + 1 by omega) (wpAny_newFunctionEnv_cells hk (fun x hx => ?_) fun env he s₁ X hn => ?_))
  · rcases hkind x hx with hl | hl
    · exact .inl hl
    · exact .inr ⟨hl, cellsFrom_some _ _ _ (.inl (mem_of_lookup hl))⟩
  · subst he
    refine ⟨hlim.keeps X.toInCall.keep, codeAny_func ?_⟩
    obtain ⟨h₁, tk₁, rfl⟩ := X.toInCall.same
    obtain ⟨j, rfl⟩ : ∃ j, tk₁ = j + 1 := ⟨tk₁ - 1, by have : 1 ≤ tk₁ := hn; omega⟩
    refine wpAny_mono (W.go (c := c) (hbody _ _ h₁ (R.deeper _) ⟨hk, rfl, rfl, X.toInCall.keep, ⟨_, X.toInCall.ns⟩, fun x k e => ⟨_, X.cell x k e⟩, fun x y k ex ey => name_of_addr X.apart (mem_of_lookup ex) (mem_of_lookup ey),
      fresh_none X.toInCall.fresh, fun x k e => fresh_none (Nat.le_trans X.toInCall.fresh (Nat.le_of_lt (X.above x k (mem_of_lookup e))))⟩ (fun _ => rfl) (fun x hx => cellsFrom_some _ _ _ (.inl (mem_of_lookup hx))) ?_ ?_) (E := fun _ _ => False) (Q := fun f s' => wants (fun a s' => ∃ h' tk', s' = ⟨h', c.g, c.d, tk', c.os⟩ ∧ Q a h') E (.ok (.ret (match f with | .ret v => v | _ => .none))) s') fun f h' t' hq => ⟨_, _, rfl, hq⟩) (fun _ _ x => x) (fun _ _ x => x.elim)
    · intro x v hx hv
      exact .inl ⟨hx, _, X.toInCall.ns, hv⟩
    · intro x v hx hv
      obtain ⟨k, hk'⟩ := Option.isSome_iff_exists.mp (cellsFrom_some (x := x) scope.names (h.objs.size + 1) [] (.inl (mem_of_lookup hx)))
      refine .inr ⟨.inl hx, k, hk', ?_⟩
      have := X.cell x k hk'
      rw [← hv]; exact this
end

open PySem PySem.W PyProof.Rows PySem.SeqAt
section
variable {c : Cx} {A : Around} {h hb : Heap} {env : Env} {ok : Addr → Prop}
variable {a b : Int} {t u : Tok} {Q : Value → Heap → Prop} {x y : UInt64} {p q : Str}

theorem cm_eqi (hq : Q (.bool (a == b)) h) : W c A (compareOp .Eq (.int a t) (.int b u)) h Q := .mk fun _ _ => PyProof.Rows.eq_int ⟨_, _, rfl, hq⟩
theorem cm_nei (hq : Q (.bool (a != b)) h) : W c A (compareOp .NotEq (.int a t) (.int b u)) h Q := .mk fun _ _ => PyProof.Rows.ne_int ⟨_, _, rfl, hq⟩
theorem cm_gti (hq : Q (.bool (decide (b < a))) h) : W c A (compareOp .Gt (.int a t) (.int b u)) h Q := .mk fun _ _ => PyProof.Rows.gt_int ⟨_, _, rfl, hq⟩
theorem cm_in {l : Addr} {vs : List Value} {ys : List Str} (hl : h.IsList l vs.toArray) (hi : StrsAre vs ys) (hq : Q (.bool (ys.any (· == p))) h) : W c A (compareOp .In (.str p t) (.ref l)) h Q :=
  .mk fun _ _ => in_list_strs hl hi ⟨_, _, rfl, hq⟩
theorem cm_notin {l : Addr} {vs : List Value} {ys : List Str} (hl : h.IsList l vs.toArray) (hi : StrsAre vs ys) (hq : Q (.bool (!(ys.any (· == p)))) h) : W c A (compareOp .NotIn (.str p t) (.ref l)) h Q :=
  .mk fun _ _ => notin_list_strs hl hi ⟨_, _, rfl, hq⟩
theorem cm_isnotb {i j : Bool} (hq : Q (.bool (!(i == j))) h) : W c A (compareOp .IsNot (.bool i) (.bool j)) h Q :=
  .mk fun _ _ => wpAny_isNot_plain rfl ⟨_, _, rfl, by cases i <;> cases j <;> exact hq⟩

/-- a list of bools -/
inductive BoolsAre : List Value → List Bool → Prop
  | nil : BoolsAre [] []
  | cons {vs bs} (b) : BoolsAre vs bs → BoolsAre (.bool b :: vs) (b :: bs)
theorem DatAll.bools {h : Heap} {vs : List Value} : ∀ {bs : List Bool}, DatAll ok h vs (bs.map .bool) → BoolsAre vs bs
  | [], x => by cases x; exact .nil
  | s :: ss, x => by cases x with | cons a r => obtain rfl := a.bool_inv; exact .cons _ (DatAll.bools r)
theorem DatAll.of_bools {h : Heap} {vs : List Value} {bs : List Bool} : BoolsAre vs bs → DatAll ok h vs (bs.map .bool)
  | .nil => .nil
  | .cons _ r => .cons (.bool _) (DatAll.of_bools r)
theorem BoolsAre.eqAt {s : Shared} {k : Bool} {vs : List Value} {bs : List Bool} : BoolsAre vs bs → ∀ y, y ∈ vs → EqAt A s y (.bool k) (isBoolOf k y)
  | .nil, _, hy => nomatch hy
  | .cons b r, y, hy => by
    rcases List.mem_cons.mp hy with rfl | hy
    · exact EqAt.bool_bool b k
    · exact BoolsAre.eqAt r y hy
theorem BoolsAre.count {k : Bool} {vs : List Value} {bs : List Bool} : BoolsAre vs bs → vs.countP (isBoolOf k) = bs.countP (· == k)
  | .nil => rfl
  | .cons b r => by rw [List.countP_cons, List.countP_cons, BoolsAre.count r]; rfl
theorem BoolsAre.any {k : Bool} {vs : List Value} {bs : List Bool} : BoolsAre vs bs → vs.any (isBoolOf k) = bs.any (· == k)
  | .nil => rfl
  | .cons b r => by rw [List.any_cons, List.any_cons, BoolsAre.any r]; rfl
theorem BoolsAre.length {vs : List Value} {bs : List Bool} : BoolsAre vs bs → vs.length = bs.length
  | .nil => rfl
  | .cons b r => by simp [BoolsAre.length r]

theorem cm_inb {l : Addr} {vs : List Value} {bs : List Bool} {k : Bool} (hl : h.IsList l vs.toArray) (hi : BoolsAre vs bs) (hq : Q (.bool (bs.any (· == k))) h) : W c A (compareOp .In (.bool k) (.ref l)) h Q :=
  .mk fun _ _ => in_listAt (isBoolOf k) hl (fun y hy => hi.eqAt y (by simpa using hy)) ⟨_, _, rfl, by rw [← Array.any_toList, show vs.toArray.toList = vs from rfl, hi.any]; exact hq⟩
theorem ca_countb {l : Addr} {vs : List Value} {bs : List Bool} {k : Bool} (hl : h.IsList l vs.toArray) (hi : BoolsAre vs bs) (hq : ∀ t, Q (.int (bs.countP (· == k) : Nat) t) h) :
    W c A (call (.builtin "list.count") [.ref l, .bool k]) h Q := by
  obtain ⟨⟨cls, dd, data, sl⟩, ho, hc, n, hd⟩ := id hl
  simp only at hc hd
  subst hc hd
  refine .mk fun tk E => call_meets PySem.F.slot_list_count ⟨_, ho, rfl⟩ PySem.F.entry_list_count (PySem.F.args_list_count_2 _ _) (list_countAt l vs.toArray n dd sl (.bool k) (isBoolOf k)) ⟨ho, fun y hy => hi.eqAt y (by simpa using hy), _, _, rfl, ?_⟩
  rw [show vs.toArray.toList = vs from rfl, hi.count]
  exact hq _

def isIntOf (k : Int) : Value → Bool
  | .int b _ => b == k
  | _ => false
/-- a list of ints -/
inductive IntsR : List Value → List Int → Prop
  | nil : IntsR [] []
  | cons {vs bs} (b t) : IntsR vs bs → IntsR (.int b t :: vs) (b :: bs)
theorem IntsR.eqAt {s : Shared} {k : Int} {u : Tok} {vs : List Value} {bs : List Int} : IntsR vs bs → ∀ y, y ∈ vs → EqAt A s y (.int k u) (isIntOf k y)
  | .nil, _, hy => nomatch hy
  | .cons b t r, y, hy => by
    rcases List.mem_cons.mp hy with rfl | hy
    · exact EqAt.int_int b t k u
    · exact IntsR.eqAt r y hy
theorem IntsR.count {k : Int} {vs : List Value} {bs : List Int} : IntsR vs bs → vs.countP (isIntOf k) = bs.countP (· == k)
  | .nil => rfl
  | .cons b t r => by rw [List.countP_cons, List.countP_cons, IntsR.count r]; rfl
theorem IntsR.append {vs ws : List Value} {bs cs : List Int} : IntsR vs bs → IntsR ws cs → IntsR (vs ++ ws) (bs ++ cs)
  | .nil, y => y
  | .cons b t r, y => .cons b t (IntsR.append r y)
theorem IntsR.length {vs : List Value} {bs : List Int} : IntsR vs bs → vs.length = bs.length
  | .nil => rfl
  | .cons b t r => by simp [IntsR.length r]
theorem IntsR.rep (b : Int) (t : Tok) : ∀ n : Nat, IntsR (List.replicate n (.int b t)) (List.replicate n b)
  | 0 => .nil
  | n + 1 => .cons b t (IntsR.rep b t n)
theorem DatAll.of_ints {h : Heap} {vs : List Value} {bs : List Int} : IntsR vs bs → DatAll ok h vs (bs.map .int)
  | .nil => .nil
  | .cons _ _ r => .cons (.int _ _) (DatAll.of_ints r)
theorem DatAll.ints {h : Heap} {vs : List Value} : ∀ {bs : List Int}, DatAll ok h vs (bs.map .int) → IntsR vs bs
  | [], x => by cases x; exact .nil
  | s :: ss, x => by cases x with | cons a r => obtain ⟨t, rfl⟩ := a.int_inv; exact .cons _ _ (DatAll.ints r)
theorem ca_counti {l : Addr} {vs : List Value} {bs : List Int} {k : Int} {u : Tok} (hl : h.IsList l vs.toArray) (hi : IntsR vs bs) (hq : ∀ t, Q (.int (bs.countP (· == k) : Nat) t) h) :
    W c A (call (.builtin "list.count") [.ref l, .int k u]) h Q := by
  obtain ⟨⟨cls, dd, data, sl⟩, ho, hc, n, hd⟩ := id hl
  simp only at hc hd
  subst hc hd
  refine .mk fun tk E => call_meets PySem.F.slot_list_count ⟨_, ho, rfl⟩ PySem.F.entry_list_count (PySem.F.args_list_count_2 _ _) (list_countAt l vs.toArray n dd sl (.int k u) (isIntOf k)) ⟨ho, fun y hy => hi.eqAt y (by simpa using hy), _, _, rfl, ?_⟩
  rw [show vs.toArray.toList = vs from rfl, hi.count]
  exact hq _

/-- where the first true one stands -/
theorem ca_index3 {l : Addr} {b0 b1 b2 : Bool} (hl : h.IsList l [Value.bool b0, .bool b1, .bool b2].toArray) (hex : (b0 || b1 || b2) = true) (hq : ∀ t, Q (.int (if b0 then 0 else if b1 then 1 else 2) t) h) :
    W c A (call (.builtin "list.index") [.ref l, .bool true]) h Q := by
  obtain ⟨⟨cls, dd, data, sl⟩, ho, hc, n, hd⟩ := id hl
  simp only at hc hd
  subst hc hd
  have hb : BoolsAre [Value.bool b0, .bool b1, .bool b2] [b0, b1, b2] := .cons _ (.cons _ (.cons _ .nil))
  have key : ∀ j : Nat, (hj : j < 3) → isBoolOf true ([Value.bool b0, .bool b1, .bool b2].toArray[j]'(by simpa using hj)) = true → (∀ m (hm : m < 3), m < j → isBoolOf true ([Value.bool b0, .bool b1, .bool b2].toArray[m]'(by simpa using hm)) = false) →
      (∀ t, Q (.int (j : Int) t) h) → W c A (call (.builtin "list.index") [.ref l, .bool true]) h Q := by
    intro j hj hit hno hq
    refine .mk fun tk E => call_meets PySem.F.slot_list_index ⟨_, ho, rfl⟩ PySem.F.entry_list_index (PySem.F.args_list_index_2 _ _)
      (list_indexAt l [Value.bool b0, .bool b1, .bool b2].toArray n dd sl (.bool true) (isBoolOf true) j (by simpa using hj) (by omega) hit (fun m hm hlt => hno m (by simpa using hm) hlt)) ⟨ho, fun y hy => hb.eqAt y (by simpa using hy), _, _, rfl, hq _⟩
  cases b0 with
  | true => exact key 0 (by omega) rfl (fun m hm hlt => by omega) (by simpa using hq)
  | false =>
    cases b1 with
    | true => exact key 1 (by omega) rfl (fun m hm hlt => by have : m = 0 := by omega
                                                             subst this; rfl) (by simpa using hq)
    | false =>
      cases b2 with
      | true => exact key 2 (by omega) rfl (fun m hm hlt => by have : m = 0 ∨ m = 1 := by omega
                                                               rcases this with rfl | rfl <;> rfl) (by simpa using hq)
      | false => cases hex

theorem is_float {M : Model} {E : Value → Shared → Prop} {s : Shared} {R : Bool → Shared → Prop} (hb : NoneBooked s.heap) (ht : t ≠ 0) (hu : u ≠ 0) (hq : ∀ b, R b s) : wpAny M A (isSame (.float x t) (.float y u)) R E s := by
  show wpAny M A (isSame.created (x == y && !Float64.isNaN x) t u) R E s
  unfold isSame.created
  have h0 : (t == 0 || u == 0) = false := by simp [ht, hu]
  rw [if_neg (by rw [h0]; decide)]
  refine wpAny_ite_split (fun _ => wpAny_pure (hq _)) (fun _ => ?_)
  refine wpAny_ite_split (fun _ => wpAny_pure (hq _)) (fun _ => ?_)
  refine wpAny_bind (wpAny_sharingNotTold_none hb ?_)
  simp only [Bool.false_eq_true, if_false]
  refine wpAny_bind (wpAny_sharingNotTold_none hb ?_)
  simp only [Bool.false_eq_true, if_false]
  exact wpAny_bind (wpAny_rule (wpAny_bind (wpAny_askSetting (wpAny_pure (hq _)))))
theorem eqAt_float {s : Shared} (hb : NoneBooked s.heap) (ht : t ≠ 0) (hu : u ≠ 0) (he : eqF x y = true) : EqAt A s (.float x t) (.float y u) true := fun prog w E Q hq => by
  unfold eqBool
  refine wpAny_holding ?_
  refine wpAny_ite_split (fun hab => ?_) (fun _ => ?_)
  · exact wpAny_bind (wpAny_rule (wpAny_pure hq))
  · refine wpAny_bind (is_float hb ht hu fun b => ?_)
    refine wpAny_ite_split (fun _ => wpAny_pure hq) (fun _ => ?_)
    refine wpAny_bind (richCompare_gives (op := .Eq) (typeIs_float s x t) (typeIs_float s y u) PySem.F.slot_float_eq PySem.F.entry_float_eq (PySem.F.args_float_eq_2 _ _) (AutoFloatG5.float___eq___float_float_0 x t y u) (fun x => nomatch x) ?_)
    have : wpAny (model prog w) A (truthOfDropped (.bool (eqF x y))) Q E s := by rw [he]; exact wpAny_truthy_bool hq
    exact this
/-- two equal tuples of three floats -/
theorem cm_tup3 {l m : Addr} {x0 x1 x2 y0 y1 y2 : UInt64} {t0 t1 t2 u0 u1 u2 : Tok} (hb : NoneBooked h) (hl : h.IsTuple l [Value.float x0 t0, .float x1 t1, .float x2 t2].toArray) (hm : h.IsTuple m [Value.float y0 u0, .float y1 u1, .float y2 u2].toArray)
    (hu : A.units < cLine) (zt : t0 ≠ 0 ∧ t1 ≠ 0 ∧ t2 ≠ 0) (zu : u0 ≠ 0 ∧ u1 ≠ 0 ∧ u2 ≠ 0) (e0 : eqF x0 y0 = true) (e1 : eqF x1 y1 = true) (e2 : eqF x2 y2 = true) (hq : Q (.bool true) h) : W c A (compareOp .Eq (.ref l) (.ref m)) h Q := by
  refine .mk fun tk E => eq_tupleAt (e := fun _ => true) hl hm hu (fun j h1 h2 => ?_) ⟨_, _, rfl, show Q (.bool true) h from hq⟩
  have : j = 0 ∨ j = 1 ∨ j = 2 := by simp at h1; omega
  rcases this with rfl | rfl | rfl
  · exact eqAt_float hb zt.1 zu.1 e0
  · exact eqAt_float hb zt.2.1 zu.2.1 e1
  · exact eqAt_float hb zt.2.2 zu.2.2 e2

/-- the same data on both sides -/
theorem cm_nesame {v w : Value} {d : PyData} {ok' : Addr → Prop} (hv : Dat ok h v d) (hw : Dat ok' h w d) (hd : shaped d = true) (hu : A.units + 64 < cLine) (hq : Q (.bool false) h) : W c A (compareOp .NotEq v w) h Q := by
  obtain ⟨as, r1⟩ := hv.reads
  obtain ⟨bs, r2⟩ := hw.reads
  refine .mk fun tk E => ne_dataH r1 r2 hd hd hu ⟨_, _, rfl, ?_⟩
  rw [eqv_refl d (canLay_of_shaped hd)]; exact hq

theorem rep_fold (v : Value) : ∀ (n : Nat) (acc : Array Value), List.foldl (fun x1 x2 => x1 ++ x2) acc (List.replicate n #[v]) = acc ++ (List.replicate n v).toArray
  | 0, acc => by simp
  | n + 1, acc => by
    rw [List.replicate_succ, List.foldl_cons, rep_fold v n, Array.append_assoc, List.replicate_succ]
    congr 1
    apply Array.toList_inj.mp
    simp
theorem mul_any {prog : Program} {w : World} {E : Value → Shared → Prop} {s : Shared} {l : Addr} {items : Array Value} {k : Nat} {x : Int} {u : Tok} {R : Value → Shared → Prop}
    (hl : s.heap.get? l = some { cls := .type "list", dict := none, data := .seq items k, slots := #[] })
    (f0 : ¬(!Builtin.List.listFitsIndex x) = true) (f1 : ¬ items.size * x.toNat > (2 ^ 63 - 1) / 8) (f2 : ¬ Builtin.List.listTooLong (items.size * x.toNat) = true)
    (hr : R (.ref s.heap.objs.size) { s with heap := s.heap.push { cls := .type "list", data := .seq (List.foldl (fun x1 x2 => x1 ++ x2) #[] (List.replicate (if items.isEmpty = true then 0 else x.toNat) items)) } }) :
    wpAny (model prog w) A (binaryOp .Mult (.ref l) (.int x u)) R E s :=
  wpAny_binaryOp_repeat_ref (T := "list") (U := "int") (by decide) ⟨_, hl, rfl⟩ (fun s' => typeIs_int s' x u) noFill_list_mul PySem.F.fills_int_mul PySem.F.slot_int_rmul repeat_list PySem.F.slot_int_index.lookup
    (call_meets PySem.F.slot_int_rmul (typeIs_int s x u) PySem.F.entry_int_rmul (PySem.F.args_int_rmul_2 _ _) (int___rmul___int_list x u l items k)
      ⟨hl, rfl, ⟨_, hl, rfl⟩, call_meets PySem.F.slot_list_mul ⟨_, hl, rfl⟩ PySem.F.entry_list_mul (PySem.F.args_list_mul_2 _ _) (AutoListH.list___mul___list_int_3 l items k x u f0 f1 f2) ⟨hl, hr⟩⟩)
theorem op_mul1 {l : Addr} {v : Value} {n : Nat} (hl : h.PlainList l [v].toArray) (hn : n ≤ 1000) (hq : ∀ h' d, Keep h h' → h.get? d = none → h'.PlainList d (List.replicate n v).toArray → Q (.ref d) h') :
    W c A (binaryOp .Mult (.ref l) (.int (n : Int) u)) h Q := by
  obtain ⟨k, hl⟩ := hl
  have e : List.foldl (fun x1 x2 => x1 ++ x2) #[] (List.replicate (if ([v].toArray).isEmpty = true then 0 else (n : Int).toNat) [v].toArray) = (List.replicate n v).toArray := by
    have := rep_fold v n #[]
    simpa using this
  have f0 : ¬(!Builtin.List.listFitsIndex (n : Int)) = true := by
    unfold Builtin.List.listFitsIndex
    have : decide (-(2 ^ 63 : Int) ≤ (n : Int)) = true := decide_eq_true (by omega)
    have : decide ((n : Int) < 2 ^ 63) = true := decide_eq_true (by omega)
    simp_all
  have f1 : ¬ [v].toArray.size * (n : Int).toNat > (2 ^ 63 - 1) / 8 := by
    have : [v].toArray.size * (n : Int).toNat = n := by simp
    omega
  have f2 : ¬ Builtin.List.listTooLong ([v].toArray.size * (n : Int).toNat) = true := by
    have : [v].toArray.size * (n : Int).toNat = n := by simp
    have e : sizeLine = 2 ^ 24 := rfl
    unfold Builtin.List.listTooLong
    rw [this, e]; simp; omega
  refine .mk fun tk E => mul_any hl f0 f1 f2 ?_
  rw [e]
  exact ⟨_, _, rfl, hq _ _ (Keep.push _ _) (fresh_none (Nat.le_refl _)) (pl_new _ _)⟩

theorem op_muls {n : Int} (hok : MulOk p n) (hq : ∀ t', Q (.str (Txt.mul p n) t') h) : W c A (binaryOp .Mult (.str p t) (.int n u)) h Q := .mk fun _ _ => SB.mul hok fun t' _ => ⟨_, _, rfl, hq t'⟩

theorem strs_values : ∀ {vs : List Value} {ss : List Str}, StrsAre vs ss → ∃ l, vs = strValues l ∧ l.map (·.1) = ss
  | _, _, .nil => ⟨[], rfl, rfl⟩
  | _, _, .cons n t r => let ⟨l, e, f⟩ := strs_values r; ⟨(n, t) :: l, by rw [e]; rfl, by rw [← f]; rfl⟩
theorem ca_join {l : Addr} {vs : List Value} {ss : List Str} (hl : h.IsList l vs.toArray) (hs : StrsAre vs ss) (hok : JoinOk p ss = true) (hq : ∀ t', Q (.str (Txt.join p ss) t') h) :
    W c A (call (.builtin "str.join") [.str p t, .ref l]) h Q := by
  obtain ⟨k, rfl, e⟩ := strs_values hs
  exact .mk fun _ _ => SC.join hl e hok fun t' _ => ⟨_, _, rfl, hq t'⟩

def truncF (x : UInt64) : Option Int := match Float64.decode x with
  | .fin s m e => some (Float64.truncOf s m e)
  | _ => none
theorem ca_intf {i : Int} (hd : truncF x = some i) (hq : ∀ t', Q (.int i t') h) : W c A (call (.type "int") [.float x t]) h Q := by
  unfold truncF at hd
  split at hd
  · rename_i s m e he
    cases hd
    exact .mk fun _ _ => call_int_float he ⟨_, _, rfl, hq _⟩
  · cases hd

theorem sub_tup {value slice : Expr} {l : Addr} {vs : Array Value} {k : Int} {v : Value} (hl : h.IsTuple l vs) (h0 : 0 ≤ k) (hhi : k < 2 ^ 63) (hx : vs[k.toNat]? = some v) (hq : Q v h)
    (hs : subscripted slice false (.ref l) (.int k t) = operate [.ref l, .int k t] (getItem (.ref l) (.int k t)) := by with_unfolding_all rfl) : W c A (subscriptTail value slice (.ref l) (.int k t)) h Q :=
  .mk fun _ _ => tail_any (T := "tuple") hl.typeIs PySem.F.slot_tuple_getitem.lookup (PyProof.Rows.getItem_tuple hl (by omega) hhi (j := k.toNat) (by
    have hlt : k.toNat < vs.size := by
      rcases Nat.lt_or_ge k.toNat vs.size with q | q
      · exact q
      · rw [Array.getElem?_eq_none q] at hx; cases hx
    unfold seqIndex?
    rw [if_neg (show ¬ k < 0 by omega)]
    first | rw [if_pos (by omega)] | simp; omega) hx ⟨_, _, rfl, hq⟩) hs
end

open PySem PySem.W PyProof.Rows
section
variable {c : Cx} {A : Around} {h hb : Heap} {env : Env}

theorem Iter.imp {h₁ : Heap} {I : Addr} {n : Nat} {P P' : Nat → Value → Prop} {St : Nat → Heap → Prop} (x : Iter c A h₁ I n P St) (hp : ∀ i v, i < n → P i v → P' i v) : Iter c A h₁ I n P' St := by
  obtain ⟨a, ⟨fp, w, q⟩, b, d⟩ := x
  exact ⟨a, ⟨fp, ⟨w.sub, w.frame, fun i s Q E hi st hQ => w.item i s Q E hi st fun v h' tk hP => hQ v h' tk (hp i v hi hP), w.done, w.self⟩, q⟩, b, d⟩
theorem IterR.imp {h₁ : Heap} {I : Addr} {rd : List Addr} {n : Nat} {P P' : Nat → Value → Prop} {St : Nat → Heap → Prop} (x : IterR c A h₁ I rd n P St) (hp : ∀ i v, i < n → P i v → P' i v) : IterR c A h₁ I rd n P' St := by
  obtain ⟨a, ⟨fp, w, q⟩, b, d, e⟩ := x
  exact ⟨a, ⟨fp, ⟨w.sub, w.frame, fun i s Q E hi st hQ => w.item i s Q E hi st fun v h' tk hP => hQ v h' tk (hp i v hi hP), w.done, w.self⟩, q⟩, b, d, e⟩

/-- what an iterator over the things xs gives -/
def Gives1 {α : Type} (ok : Addr → Prop) (h₁ : Heap) (xs : List α) (e : α → PyData) (i : Nat) (v : Value) : Prop := ∃ x, xs[i]? = some x ∧ Dat ok h₁ v (e x)

theorem it_dat {α : Type} {ok : Addr → Prop} {v : Value} {xs : List α} {e : α → PyData} {Q : Value → Heap → Prop} (hh : A.handled = none) (d : Dat ok h v (.list (xs.map e)))
    (hq : ∀ I h' St, Keep h h' → Iter c A h I xs.length (Gives1 ok h xs e) St → St 0 h' → Q (.ref I) h') : W c A (pyIter v) h Q := by
  obtain ⟨a, vs, rfl, _, p, r⟩ := d.list_inv
  have hl := r.length
  rw [List.length_map] at hl
  refine it_list hh p.isList fun I h' St k It st => hq I h' St k ?_ st
  rw [← hl]
  refine It.imp fun i v hi hv => ?_
  obtain ⟨d, e1, e2⟩ := r.val i v hv
  rw [List.getElem?_map] at e1
  cases e3 : xs[i]? with
  | none => rw [e3] at e1; cases e1
  | some x => rw [e3] at e1; cases e1; exact ⟨x, e3, e2⟩
theorem itr_dat {α : Type} {ok : Addr → Prop} {v : Value} {xs : List α} {e : α → PyData} {Q : Value → Heap → Prop} (hh : A.handled = none) (d : Dat ok h v (.list (xs.map e)))
    (hq : ∀ I h' St a, v = .ref a → ok a → Keep h h' → IterR c A h I [a] xs.length (Gives1 ok h xs e) St → St 0 h' → Q (.ref I) h') : W c A (pyIter v) h Q := by
  obtain ⟨a, vs, rfl, oka, p, r⟩ := d.list_inv
  have hl := r.length
  rw [List.length_map] at hl
  refine itr_list hh p.isList fun I h' St k It st => hq I h' St a rfl oka k ?_ st
  rw [← hl]
  refine It.imp fun i v hi hv => ?_
  obtain ⟨d, e1, e2⟩ := r.val i v hv
  rw [List.getElem?_map] at e1
  cases e3 : xs[i]? with
  | none => rw [e3] at e1; cases e1
  | some x => rw [e3] at e1; cases e1; exact ⟨x, e3, e2⟩
theorem it_nats {ok : Addr → Prop} {r : Addr} {a n : Nat} {t u v : Tok} {Q : Value → Heap → Prop} (hh : A.handled = none) (hr : IsRange h r (a : Int) ((a + n : Nat) : Int) 1 t u v) (hn : a + n ≤ 1000)
    (hq : ∀ I h' St, Keep h h' → Iter c A h I (List.range' a n).length (Gives1 ok h (List.range' a n) (fun x => .int (x : Int))) St → St 0 h' → Q (.ref I) h') : W c A (pyIter (.ref r)) h Q := by
  refine it_range2 hh hr hn fun I h' St k It st => hq I h' St k ?_ st
  rw [List.length_range']
  refine It.imp fun i v hi hv => ?_
  obtain ⟨t, rfl⟩ := hv
  exact ⟨a + i, by simp [hi], .int _ _⟩
theorem itr_nats {ok : Addr → Prop} {r : Addr} {a n : Nat} {t u v : Tok} {Q : Value → Heap → Prop} (hh : A.handled = none) (hr : IsRange h r (a : Int) ((a + n : Nat) : Int) 1 t u v) (hn : a + n ≤ 1000)
    (hq : ∀ I h' St, Keep h h' → IterR c A h I [] (List.range' a n).length (Gives1 ok h (List.range' a n) (fun x => .int (x : Int))) St → St 0 h' → Q (.ref I) h') : W c A (pyIter (.ref r)) h Q := by
  refine itr_range hh hr hn fun I h' St k It st => hq I h' St k ?_ st
  rw [List.length_range']
  refine It.imp fun i v hi hv => ?_
  obtain ⟨t, rfl⟩ := hv
  exact ⟨a + i, by simp [hi], .int _ _⟩

/-- what a comprehension over the things xs does for each of them -/
def EachDo {α : Type} (c : Cx) (A : Around) (hb : Heap) (env : Env) (scope : Scope) (elt target : Expr) (ifs : List Expr) (h₁ : Heap) (ok0 : Addr → Prop) (xs : List α) (e : α → PyData) (f : α → Bool) (okp : Addr → Prop) (g : α → PyData) : Prop :=
  ∀ cenv, CEnv env scope cenv → ∀ x v hh, x ∈ xs → Dat ok0 h₁ v (e x) → Keep h₁ hh → Frm hb cenv hh → W c A (assign target cenv v) hh (fun _ h₂ => Frm hb cenv h₂ ∧ OnlyC scope cenv hh h₂ ∧
    W c A (tests ifs cenv) h₂ (fun ok h₃ => Keep h₂ h₃ ∧ ok = f x ∧ (ok = true → W c A (eval elt cenv) h₃ (fun y h₄ => Keep h₃ h₄ ∧ Dat okp h₄ y (g x) ∧ ∀ T, y = .ref T → h₃.get? T = none ∨ ∃ o, h₁.get? T = some o))))

def OfIter {α : Type} (c : Cx) (A : Around) (h₁ h₂ : Heap) (it : Value) (ok0 : Addr → Prop) (xs : List α) (e : α → PyData) : Prop :=
  ∃ I St, it = .ref I ∧ Keep h₁ h₂ ∧ Iter c A h₁ I xs.length (Gives1 ok0 h₁ xs e) St ∧ St 0 h₂ ∧ xs.length ≤ 1000

def giv {α : Type} (xs : List α) (g : α → PyData) (i : Nat) : PyData := match xs[i]? with | some x => g x | none => .int 0
def fiv {α : Type} (xs : List α) (f : α → Bool) (i : Nat) : Bool := match xs[i]? with | some x => f x | none => false

theorem giv_list {α : Type} (f : α → Bool) (g : α → PyData) (xs : List α) : ((List.range xs.length).filter (fiv xs f)).map (giv xs g) = (xs.filter f).map g := by
  induction xs with
  | nil => rfl
  | cons x xs ih =>
    rw [List.length_cons, List.range_succ_eq_map, List.filter_cons, List.filter_map, List.filter_cons]
    have e1 : fiv (x :: xs) f ∘ Nat.succ = fiv xs f := by funext i; simp [fiv]
    have e2 : fiv (x :: xs) f 0 = f x := rfl
    rw [e1, e2]
    have e3 : (List.map Nat.succ (List.filter (fiv xs f) (List.range xs.length))).map (giv (x :: xs) g) = (xs.filter f).map g := by
      rw [List.map_map, ← ih]
      apply List.map_congr_left
      intro i _
      simp [giv]
    cases f x with
    | true => simp only [if_true, List.map_cons]; rw [e3]; rfl
    | false => simpa using e3

theorem compdo_of {α : Type} {elt target : Expr} {ifs : List Expr} {scope : Scope} {h₁ h₂ : Heap} {it : Value} {ok0 okp : Addr → Prop} {xs : List α} {e g : α → PyData} {f : α → Bool} (hg : ∀ x, flat (g x) = true)
    (hi : OfIter c A h₁ h₂ it ok0 xs e) (hd : EachDo c A hb env scope elt target ifs h₁ ok0 xs e f okp g) :
    CompDo c A hb env scope elt target ifs h₁ h₂ it xs.length (fiv xs f) (fun i y h => Dat okp h y (giv xs g i)) := by
  obtain ⟨I, St, rfl, k2, It, st, hn⟩ := hi
  refine ⟨I, _, St, rfl, k2, It, st, hn, flat_stab (fun i => ?_), fun cenv CE i v hh hi hP k F => ?_⟩
  · unfold giv; split
    · exact hg _
    · rfl
  · obtain ⟨x, e1, d1⟩ := hP
    refine (hd cenv CE x v hh (List.mem_of_getElem? e1) d1 k F).mono ?_
    rintro _ h3 ⟨a1, a2, a3⟩
    refine ⟨a1, a2, a3.mono ?_⟩
    rintro ok h4 ⟨b1, b2, b3⟩
    refine ⟨b1, ?_, fun hok => (b3 hok).mono ?_⟩
    · rw [b2]; unfold fiv; rw [e1]
    · rintro y h5 ⟨d1, d2, d3⟩
      refine ⟨d1, ?_, d3⟩
      show Dat okp h5 y (giv xs g i)
      unfold giv; rw [e1]; exact d2

theorem ev_compL {α : Type} {elt target iter : Expr} {ifs : List Expr} {scope : Scope} {pos : Pos} {Q : Value → Heap → Prop} (okp : Addr → Prop) (xs : List α) (e : α → PyData) (f : α → Bool) (g : α → PyData) (F : Frm hb env h) (hsc : scOk scope = true) (hfr : FreeOk env scope) (hg : ∀ x, flat (g x) = true)
    (hx : W c A (eval iter env) h (fun v h₁ => Keep h h₁ ∧ W c A (pyIter v) h₁ (fun it h₂ => ∃ ok0, OfIter c A h₁ h₂ it ok0 xs e ∧ EachDo c A hb env scope elt target ifs h₁ ok0 xs e f okp g ∧
      ∀ D ys h', Keep h₁ h' → h₁.get? D = none → h'.PlainList D ys.toArray → DatAll okp h' ys ((xs.filter f).map g) → Q (.ref D) h')))
    (hs : ∀ x, foldedSetIterable iter env x = pure x := by intro _; rfl) :
    W c A (eval (.ListComp elt [⟨target, iter, ifs, 0⟩] scope pos) env) h Q := by
  refine ev_comp F hsc hfr (hx.mono fun v h₁ h1 => ⟨h1.1, h1.2.mono fun it h₂ h2 => ?_⟩) hs
  obtain ⟨ok0, a1, a2, a3⟩ := h2
  refine ⟨_, _, _, compdo_of hg a1 a2, fun D ys h' k n p r => a3 D ys h' k n p ?_⟩
  rw [← giv_list]
  exact DatAll.of_paired r

theorem ex_compL {α : Type} {elt target iter : Expr} {ifs : List Expr} {scope : Scope} {pos spos py : Pos} {y : Str} {Q : Flow → Heap → Prop} (okp : Addr → Prop) (xs : List α) (e : α → PyData) (f : α → Bool) (g : α → PyData) (F : Frm hb env h) (hsc : scOk scope = true) (hfr : FreeOk env scope) (hg : ∀ x, flat (g x) = true) (hy : env.kindOf y = some .local)
    (hsw : swapsWith (.ListComp elt [⟨target, iter, ifs, 0⟩] scope pos) (some (.Name y py)) spos.line env = pure true)
    (hx : W c A (eval iter env) h (fun v h₁ => Keep h h₁ ∧ W c A (pyIter v) h₁ (fun it h₂ => ∃ ok0, OfIter c A h₁ h₂ it ok0 xs e ∧ EachDo c A hb env scope elt target ifs h₁ ok0 xs e f okp g ∧
      ∀ D ys h', Frm hb env h' → Var env h' y (.ref D) → Upd env h₁ h' y → KeepH h₁ h' → h₁.get? D = none → h'.PlainList D ys.toArray → DatAll okp h' ys ((xs.filter f).map g) → Q .next h')))
    (hs : ∀ x, foldedSetIterable iter env x = pure x := by intro _; rfl) :
    W c A (exec (.Assign [.Name y py] (.ListComp elt [⟨target, iter, ifs, 0⟩] scope pos) spos) env) h Q := by
  refine ex_comp F hsc hfr hy hsw (hx.mono fun v h₁ h1 => ⟨h1.1, h1.2.mono fun it h₂ h2 => ?_⟩) hs
  obtain ⟨ok0, a1, a2, a3⟩ := h2
  refine ⟨_, _, _, compdo_of hg a1 a2, fun i z h T d e => d.hard T e, fun D ys h' F' V' U' k n p r => a3 D ys h' F' V' U' k n p ?_⟩
  rw [← giv_list]
  exact DatAll.of_paired r

/-- the free names of a comprehension in a def, by computation -/
def freeIn (outer inner : Scope) : Bool := inner.names.all fun x => x.2 != .free || outer.names.lookup x.1 == some .cell
theorem free_def {sc scope : Scope} (hk : ∀ x, env.kindOf x = sc.names.lookup x) (hc : ∀ x, sc.names.lookup x = some .cell → (env.cells.lookup x).isSome = true) (hf : freeIn sc scope = true) : FreeOk env scope := by
  intro x hx hfr
  have h1 := List.all_eq_true.mp hf x hx
  rw [hfr] at h1
  have h2 : sc.names.lookup x.1 = some .cell := by simpa using h1
  exact ⟨.inl ((hk _).trans h2), hc _ h2⟩
/-- and of one in another comprehension -/
def freeIn2 (outer inner : Scope) : Bool := inner.names.all fun x => x.2 != .free || outer.names.lookup x.1 == some .cell || outer.names.lookup x.1 == some .free
theorem free_comp {sc scope : Scope} {cenv : Env} (CE : CEnv env sc cenv) (hf : freeIn2 sc scope = true) : FreeOk cenv scope := by
  intro x hx hfr
  have h1 := List.all_eq_true.mp hf x hx
  rw [hfr] at h1
  have h2 : sc.names.lookup x.1 = some .cell ∨ sc.names.lookup x.1 = some .free := by simpa using h1
  rcases h2 with h2 | h2
  · have := CE.cel _ h2; exact ⟨.inl this.1, this.2⟩
  · exact CE.frk _ h2
theorem free_none {scope : Scope} (hf : (scope.names.all fun x => x.2 != .free) = true) : FreeOk env scope := by
  intro x hx hfr
  have h1 := List.all_eq_true.mp hf x hx
  rw [hfr] at h1; cases h1
end

open PySem PySem.W PyProof.Rows
section
variable {c : Cx} {A : Around} {h h' hb : Heap} {env : Env} {ok : Addr → Prop}

theorem KeepH.tup (k : KeepH h h') {a : Addr} {vs : Array Value} (x : h.IsTuple a vs) : h'.IsTuple a vs := by
  obtain ⟨o, ho, hc, n, hd⟩ := x
  exact ⟨o, k _ _ ⟨fun _ _ => by rw [hd]; simp, fun _ => by rw [hd]; simp⟩ ho, hc, n, hd⟩
theorem OnlyC.kh {scope : Scope} {cenv : Env} (F : Frm hb cenv h) (O : OnlyC scope cenv h h') : KeepH h h' := by
  intro b o ho e
  refine O b o ?_ ?_ e
  · rintro rfl
    obtain ⟨m, o', es, ep, e', hd, _⟩ := F.ns
    rw [e] at e'; cases e'; exact ho.1 _ _ hd
  · rintro x k _ hk rfl
    obtain ⟨u, o', e', hd⟩ := F.cell x b hk
    rw [e] at e'; cases e'; exact ho.2 _ hd
theorem as_nameK {scope : Scope} {cenv : Env} {x : Str} {px : Pos} {v : Value} {Q : Unit → Heap → Prop} (CE : CEnv env scope cenv) (F : Frm hb cenv h) (hx : scope.names.lookup x = some .local ∨ scope.names.lookup x = some .cell)
    (hq : ∀ h', Frm hb cenv h' → OnlyC scope cenv h h' → Var cenv h' x v → Upd cenv h h' x → KeepH h h' → Q () h') : W c A (assign (.Name x px) cenv v) h Q :=
  as_name CE F hx fun h' F' O' V' U' => hq h' F' O' V' U' (O'.kh F)

theorem sub_dat {value slice : Expr} {a : Addr} {ds : List PyData} {di : PyData} {i : Nat} {t : Tok} {Q : Value → Heap → Prop} (d : Dat ok h (.ref a) (.list ds)) (hi : ds[i]? = some di) (hb : i < 1000) (hq : ∀ w, Dat ok h w di → Q w h)
    (hs : subscripted slice false (.ref a) (.int (i : Int) t) = operate [.ref a, .int (i : Int) t] (getItem (.ref a) (.int (i : Int) t)) := by with_unfolding_all rfl) : W c A (subscriptTail value slice (.ref a) (.int (i : Int) t)) h Q := by
  obtain ⟨b, vs, e, _, p, r⟩ := d.list_inv
  cases e
  obtain ⟨v, e1, dv⟩ := r.at i di hi
  exact sub_list p.isList (by omega) (by omega) (by simpa using e1) (hq v dv) hs

def fdivI (a b : Int) : UInt64 := Float64.ofFrac (decide (a < 0) != decide (b < 0)) a.natAbs b.natAbs
def finI (a b : Int) : Bool := !Float64.isInf (fdivI a b)
def minI (a b : Int) : Int := if b < a then b else a
/-- that _law_alone says True -/
def aloneOk (sh com p q r : Int) : Bool :=
  let t := hlsF (fdivI p 4) (fdivI q 4) (fdivI r 4)
  finI p 4 && finI q 4 && finI r 4 && finI sh 8 && okHls (fdivI p 4) (fdivI q 4) (fdivI r 4) && eqF t.2.1 (fdivI sh 8) &&
  (if sh != 2 * com then
    let ix : Int := if decide (com < p) then 0 else if decide (com < q) then 1 else 2
    (decide (com < p) || decide (com < q) || decide (com < r)) && finI ix 3 && minI sh (8 - sh) != 0 && finI (sh - 2 * com) (minI sh (8 - sh)) && eqF t.1 (fdivI ix 3) && eqF t.2.2 (fdivI (sh - 2 * com) (minI sh (8 - sh)))
  else eqF t.1 f0 && eqF t.2.2 f0)
end

end Mine
end

section
open PySem PySem.W PyProof.Rows
set_option Elab.async false
set_option maxRecDepth 100000
namespace Mine
local macro_rules | `(tactic| walk_at "mfrm") => `(tactic| first | with_reducible assumption | exact Keep.frm (by with_reducible assumption) (by walk_at "mfrm"))
local macro_rules | `(tactic| walk_at "mvar") => `(tactic| first | with_reducible assumption | exact Upd.var (by with_reducible assumption) (by decide +kernel) (by walk_at "mvar") | exact Keep.var (by with_reducible assumption) (by walk_at "mvar") | exact KeepN.var (by with_reducible assumption) (by walk_at "mvar"))
local macro_rules | `(tactic| walk_at "mdat") => `(tactic| first | with_reducible assumption | exact Keep.dat (by with_reducible assumption) (by walk_at "mdat") | exact KeepH.dat (by with_reducible assumption) (by walk_at "mdat") | exact KeepN.dat (by with_reducible assumption) (by walk_at "mdat"))
local macro_rules | `(tactic| walk_at "mpl") => `(tactic| first | with_reducible assumption | exact Keep.pl (by with_reducible assumption) (by walk_at "mpl") | exact KeepH.pl (by with_reducible assumption) (by walk_at "mpl") | exact KeepN.pl (by with_reducible assumption) (by walk_at "mpl"))
local macro_rules | `(tactic| walk_at "mtup") => `(tactic| first | with_reducible assumption | exact Keep.tup (by with_reducible assumption) (by walk_at "mtup") | exact KeepH.tup (by with_reducible assumption) (by walk_at "mtup"))
local macro_rules | `(tactic| walk_at "mkind") => `(tactic| exact (‹∀ x, Env.kindOf _ x = _› _).trans (by kernel_rfl))
local macro_rules | `(tactic| walk_at "mset") => `(tactic| (refine st_name (by walk_at "mfrm") (.inl (by walk_at "mkind")) ?_; intro hN FN vN UN KN))
local macro_rules | `(tactic| walk_at "msetc") => `(tactic| (refine st_name (by walk_at "mfrm") (.inr ⟨(by walk_at "mkind"), (‹∀ x, List.lookup x _ = some NameKind.cell → (List.lookup x _).isSome = true› _ (by kernel_rfl))⟩) ?_; intro hN FN vN UN KN))
local macro_rules | `(tactic| walk_at "mev") => `(tactic| repeat (first
  | with_reducible refine ev_name (by walk_at "mfrm") (by walk_at "mvar") ?_
  | with_reducible refine ev_bin ?_
  | with_reducible refine ev_cmp ?_
  | with_reducible refine tr_cmp ?_
  | with_reducible refine ev_sub ?_
  | (with_reducible refine ev_float ?_; intro tN zN)
  | (with_reducible refine ev_int ?_; intro tN)
  | (with_reducible refine op_sub ?_; intro tN)
  | (with_reducible refine op_add ?_; intro tN)
  | with_reducible refine cm_eqi ?_
  | with_reducible refine cm_nei ?_
  | with_reducible refine tr_bool ?_))
section
variable {c : Cx} {A : Around} {h hb : Heap} {env : Env}

theorem fin_of {a b : Int} (h : finI a b = true) : ¬ Float64.isInf (fdivI a b) = true := by simpa [finI] using h
theorem nz_of {a : Int} (h : (a != 0) = true) : a ≠ 0 := by simpa using h
def eS : Str → PyData := .str
def eLS (s : List Str) : PyData := .list (s.map .str)
def eLI (s : List Int) : PyData := .list (s.map .int)

set_option maxHeartbeats 4000000 in
theorem alone_c {n : Nat} {v3 vn vu : Value} {ok1 ok2 ok3 : Addr → Prop} {i j k : Nat} {U : List (List Str)} {N : List (List Int)} {Si Sj Sk : List Str} {Ni Nj : List Int} {p q r : Int} (G : Gd h) (R : Room (n + 2) A)
    (d3 : Dat ok1 h v3 (eLI [(i : Int), (j : Int), (k : Int)])) (dn : Dat ok2 h vn (.list (N.map eLI))) (du : Dat ok3 h vu (.list (U.map eLS)))
    (bi : i < 1000) (bj : j < 1000) (bk : k < 1000)
    (hi : U[i]? = some Si) (hj : U[j]? = some Sj) (hk : U[k]? = some Sk) (hNi : N[i]? = some Ni) (hNj : N[j]? = some Nj) (hp : Ni[j]? = some p) (hq : Nj[k]? = some q) (hr : Ni[k]? = some r)
    (li : Si.length ≤ 100) (lj : Sj.length ≤ 100) (lk : Sk.length ≤ 100)
    (ho : aloneOk ((((Si ++ Sj) ++ Sk).length : Int) - ((dd ((Si ++ Sj) ++ Sk)).length : Int)) ((Si.filter fun x => Sj.any (· == x) && Sk.any (· == x)).length : Int) p q r = true) :
    W c A (call (.ref 97) [v3, vn, vu]) h (fun v h' => Keep h h' ∧ v = .bool true) := by
  have hsz : sizeLine = 2 ^ 24 := rfl
  obtain ⟨a3, vs3, rfl, _, p3, r3⟩ := d3.list_inv
  obtain ⟨an, vsn, rfl, _, pn, rn⟩ := id dn.list_inv
  obtain ⟨au, vsu, rfl, _, pu, ru⟩ := id du.list_inv
  have e3 : ∃ t1 t2 t3, vs3 = [.int i t1, .int j t2, .int k t3] := by
    have := DatAll.ints r3
    cases this with | cons _ t1 r1 => cases r1 with | cons _ t2 r2 => cases r2 with | cons _ t3 r4 => cases r4; exact ⟨t1, t2, t3, rfl⟩
  obtain ⟨t1, t2, t3, rfl⟩ := e3
  refine fn_callC (binds := [(("three" : Str), .ref a3), (("near" : Str), .ref an), (("ups" : Str), .ref au)]) G.f_alone G.lim R (fun _ _ _ => by kernel_rfl) (by
    intro x hx
    rcases List.mem_cons.mp hx with rfl | hx
    · exact .inl (by kernel_rfl)
    · rcases List.mem_cons.mp hx with rfl | hx
      · exact .inl (by kernel_rfl)
      · rcases List.mem_cons.mp hx with rfl | hx
        · exact .inr (by kernel_rfl)
        · cases hx) ?_
  intro A' env h₁ R' F hk0 hc vL vC
  have w3 : Var env h₁ "three" (.ref a3) := vL _ _ (by kernel_rfl) (by kernel_rfl)
  have wn : Var env h₁ "near" (.ref an) := vL _ _ (by kernel_rfl) (by kernel_rfl)
  have wu : Var env h₁ "ups" (.ref au) := vC _ _ (by kernel_rfl) (by kernel_rfl)
  have dn1 := F.keep.dat dn
  have du1 := F.keep.dat du
  have p31 := F.keep.pl p3
  have hUi : (U.map eLS)[i]? = some (eLS Si) := by rw [List.getElem?_map, hi]; rfl
  have hUj : (U.map eLS)[j]? = some (eLS Sj) := by rw [List.getElem?_map, hj]; rfl
  have hUk : (U.map eLS)[k]? = some (eLS Sk) := by rw [List.getElem?_map, hk]; rfl
  have hNi' : (N.map eLI)[i]? = some (eLI Ni) := by rw [List.getElem?_map, hNi]; rfl
  have hNj' : (N.map eLI)[j]? = some (eLI Nj) := by rw [List.getElem?_map, hNj]; rfl
  have hp' : (Ni.map PyData.int)[j]? = some (.int p) := by rw [List.getElem?_map, hp]; rfl
  have hq' : (Nj.map PyData.int)[k]? = some (.int q) := by rw [List.getElem?_map, hq]; rfl
  have hr' : (Ni.map PyData.int)[k]? = some (.int r) := by rw [List.getElem?_map, hr]; rfl
  -- i, j, k = three
  refine ex_cons (ex_setT (ev_name F w3 (as_list R'.hand p31.isList rfl rfl fun h2 k2 => ao_cons ?_)) rfl rfl)
  walk_at "mset"
  refine ao_cons ?_
  walk_at "msetc"
  refine ao_cons ?_
  walk_at "msetc"
  refine ao_nil ?_
  -- every
  refine ex_cons (ex_set ?_)
  walk_at "mev"
  refine sub_dat (by walk_at "mdat") hUi bi fun w1 dw1 => ?_
  walk_at "mev"
  refine sub_dat (by walk_at "mdat") hUj bj fun w2 dw2 => ?_
  obtain ⟨b1, x1, rfl, _, y1, z1⟩ := dw1.list_inv
  obtain ⟨b2, x2, rfl, _, y2, z2⟩ := dw2.list_inv
  have s1 := z1.strs
  have s2 := z2.strs
  have g1 := s1.length
  have g2 := s2.length
  refine op_addl y1.isList y2.isList (by omega) fun h7 a7 k7 n7 p7 => ?_
  walk_at "mev"
  refine sub_dat (by walk_at "mdat") hUk bk fun w4 dw4 => ?_
  obtain ⟨b4, x4, rfl, _, y4, z4⟩ := dw4.list_inv
  have s4 := z4.strs
  have g4 := s4.length
  refine op_addl p7.isList y4.isList (by rw [List.length_append]; omega) fun h8 a8 k8 n8 p8 => ?_
  have s8 : StrsAre ((x1 ++ x2) ++ x4) ((Si ++ Sj) ++ Sk) := (s1.append' s2).append' s4
  have g8 : ((Si ++ Sj) ++ Sk).length ≤ 300 := by simp only [List.length_append]; omega
  have g8' := s8.length
  walk_at "mset"
  -- shared
  have hev : ((Si ++ Sj) ++ Sk) = ((Si ++ Sj) ++ Sk) := rfl
  refine ex_cons (ex_set ?_)
  refine ev_bin (ev_call (ev_glob (by walk_at "mfrm") G.g_len (by walk_at "mkind") (cw_bi (ar_cons (ev_name (by walk_at "mfrm") (by walk_at "mvar") (ar_nil (ca_len (Heap.PlainList.isList (by walk_at "mpl")) (by omega) fun t8 => ?_)))))))
  refine ev_call (ev_glob (by walk_at "mfrm") G.g_len (by walk_at "mkind") (cw_bi (ar_cons ?_)))
  refine ev_call (ev_glob (by walk_at "mfrm") G.g_set (by walk_at "mkind") (cw_ty (ar_cons ?_)))
  walk_at "mev"
  refine ar_nil (ca_set R'.hand (Heap.PlainList.isList (by walk_at "mpl")) s8 (by unfold scanBound; omega) fun h9 a9 k9 S9 => ?_)
  refine ar_nil (ca_lenset S9 fun t9 => op_sub fun t10 => ?_)
  rw [g8']
  walk_at "mset"
  generalize hsh : (((Si ++ Sj ++ Sk).length : Int) - ((dd (Si ++ Sj ++ Sk)).length : Int)) = sh at *
  -- common
  refine ex_cons (ex_set (ev_call (ev_glob (by walk_at "mfrm") G.g_len (by walk_at "mkind") (cw_bi (ar_cons ?_)))))
  refine ev_compL (fun _ => True) Si eS (fun x => Sj.any (· == x) && Sk.any (· == x)) eS (by walk_at "mfrm") (by kernel_rfl) (free_def hk0 hc (by kernel_rfl)) (fun _ => rfl) ?_
  walk_at "mev"
  refine sub_dat (by walk_at "mdat") hUi bi fun w5 dw5 => ⟨.refl _, it_dat R'.hand (xs := Si) (e := eS) dw5 fun I h10 St k10 It st => ⟨_, ⟨I, St, rfl, k10, It, st, by omega⟩, ?_, ?_⟩⟩
  · intro cenv CE x v hh hx dv kk F'
    obtain ⟨tx, rfl⟩ := dv.str_inv
    refine as_nameK CE F' (.inl (by kernel_rfl)) fun h11 F11 O11 V11 U11 K11 => ⟨F11, O11, te_one (tr_boolop (at_and ?_))⟩
    have vu11 : Var cenv h11 "ups" (.ref au) := U11.var (by decide +kernel) (CE.fre _ _ _ (by kernel_rfl) (kk.var (by walk_at "mvar")))
    have vj11 : Var cenv h11 "j" (.int j t2) := U11.var (by decide +kernel) (CE.fre _ _ _ (by kernel_rfl) (kk.var (by walk_at "mvar")))
    have vk11 : Var cenv h11 "k" (.int k t3) := U11.var (by decide +kernel) (CE.fre _ _ _ (by kernel_rfl) (kk.var (by walk_at "mvar")))
    walk_at "mev"
    refine sub_dat (by walk_at "mdat") hUj bj fun w6 dw6 => ?_
    obtain ⟨b6, x6, rfl, _, y6, z6⟩ := dw6.list_inv
    refine cm_in y6.isList z6.strs (tr_bool ?_)
    by_cases h1 : Sj.any (· == x) = true
    · rw [h1]
      refine at_and ?_
      walk_at "mev"
      refine sub_dat (by walk_at "mdat") hUk bk fun w7 dw7 => ?_
      obtain ⟨b7, x7, rfl, _, y7, z7⟩ := dw7.list_inv
      refine cm_in y7.isList z7.strs (tr_bool ?_)
      by_cases h2 : Sk.any (· == x) = true
      · rw [h2]
        exact at_and_nil ⟨.refl _, by simp only [h1, h2]; rfl, fun _ => ev_name F11 V11 ⟨.refl _, .str _ _, fun T e => by cases e⟩⟩
      · rw [Bool.eq_false_iff.mpr h2]
        exact ⟨.refl _, by simp only [h1, Bool.eq_false_iff.mpr h2]; rfl, fun e => by cases e⟩
    · rw [Bool.eq_false_iff.mpr h1]
      exact ⟨.refl _, by simp only [Bool.eq_false_iff.mpr h1]; rfl, fun e => by cases e⟩
  · intro D ys h12 k12 n12 p12 d12
    have l12 := d12.length
    rw [List.length_map] at l12
    have l13 : (Si.filter fun x => Sj.any (· == x) && Sk.any (· == x)).length ≤ Si.length := List.length_filter_le _ _
    refine ar_nil (ca_len p12.isList (by omega) fun t12 => ?_)
    rw [l12]
    generalize (Si.filter fun x => Sj.any (· == x) && Sk.any (· == x)).length = com at *
    walk_at "msetc"
    generalize hcom : ((com : Nat) : Int) = cm at *
    -- pairs
    refine ex_cons (ex_set (ev_listP (ar_cons ?_)))
    walk_at "mev"
    refine sub_dat (by walk_at "mdat") hNi' bi fun u1 du1' => ?_
    obtain ⟨c1, _, rfl, _, _, _⟩ := id du1'.list_inv
    walk_at "mev"
    refine sub_dat du1' hp' bj fun u2 du2 => ?_
    obtain ⟨tp, rfl⟩ := du2.int_inv
    refine ar_cons ?_
    walk_at "mev"
    refine sub_dat (by walk_at "mdat") hNj' bj fun u3 du3 => ?_
    obtain ⟨c2, _, rfl, _, _, _⟩ := id du3.list_inv
    walk_at "mev"
    refine sub_dat du3 hq' bk fun u4 du4 => ?_
    obtain ⟨tq, rfl⟩ := du4.int_inv
    refine ar_cons ?_
    walk_at "mev"
    refine sub_dat (by walk_at "mdat") hNi' bi fun u5 du5 => ?_
    obtain ⟨c3, _, rfl, _, _, _⟩ := id du5.list_inv
    walk_at "mev"
    refine sub_dat du5 hr' bk fun u6 du6 => ?_
    obtain ⟨tr, rfl⟩ := du6.int_inv
    refine ar_nil ⟨by simp [hsz], fun h14 a14 k14 _ p14 => ?_⟩
    walk_at "mset"
    have dp : Dat (fun _ => True) h14 (.ref a14) (.list ([p, q, r].map PyData.int)) := .list trivial p14 (.cons (.int _ _) (.cons (.int _ _) (.cons (.int _ _) .nil)))
    -- due
    generalize hok : aloneOk sh cm p q r = okk at ho
    unfold aloneOk at hok
    subst ho
    simp only [Bool.and_eq_true] at hok
    obtain ⟨⟨⟨⟨⟨⟨o1, o2⟩, o3⟩, o4⟩, o5⟩, o6⟩, o7⟩ := hok
    refine ex_cons (ex_set (ev_tuple (ar_cons ?_)))
    walk_at "mev"
    refine ar_cons ?_
    walk_at "mev"
    refine op_div (by decide) (fin_of o4) fun t15 z15 => ar_cons ?_
    walk_at "mev"
    refine ar_nil ⟨by simp [hsz], fun h16 a16 k16 _ p16 => ?_⟩
    walk_at "mset"
    have last : ∀ (h' : Heap) (ad : Addr) (x0 x1 x2 : UInt64) (s0 s1 s2 : Tok), Frm h env h' → Var env h' "pairs" (.ref a14) → Var env h' "due" (.ref ad) → h'.PlainList a14 [Value.int p tp, .int q tq, .int r tr].toArray →
        h'.IsTuple ad [Value.float x0 s0, .float x1 s1, .float x2 s2].toArray → s0 ≠ 0 ∧ s1 ≠ 0 ∧ s2 ≠ 0 →
        eqF (hlsF (fdivI p 4) (fdivI q 4) (fdivI r 4)).1 x0 = true → eqF (hlsF (fdivI p 4) (fdivI q 4) (fdivI r 4)).2.1 x1 = true → eqF (hlsF (fdivI p 4) (fdivI q 4) (fdivI r 4)).2.2 x2 = true →
        W c A' (execs ((fbd 13).drop 7) env) h' (fun f h'' => f = .ret (.bool true) ∧ Keep h h'') := by
      intro h' ad x0 x1 x2 s0 s1 s2 F' vp vd pp pd zs q0 q1 q2
      refine ex_cons (ex_ret (ev_cmp (ev_def F' G.g_hls G.f_hls (by walk_at "mkind") (ar_cons ?_))))
      refine ev_bin (ev_sub (ev_name F' vp (ev_int fun _ => sub_list pp.isList (by decide) (by decide) rfl (ev_int fun _ => op_div (by decide) (fin_of o1) fun _ _ => ar_cons ?_))))
      refine ev_bin (ev_sub (ev_name F' vp (ev_int fun _ => sub_list pp.isList (by decide) (by decide) rfl (ev_int fun _ => op_div (by decide) (fin_of o2) fun _ _ => ar_cons ?_))))
      refine ev_bin (ev_sub (ev_name F' vp (ev_int fun _ => sub_list pp.isList (by decide) (by decide) rfl (ev_int fun _ => op_div (by decide) (fin_of o3) fun _ _ => ar_nil ⟨.refl _, ?_⟩))))
      refine W.mono (hls_c (F'.keep.gd G) R' o5) ?_
      rintro _ h18 ⟨k18, a18, y1, y2, y3, rfl, n18, zz, p18⟩
      refine ev_name (k18.frm F') (k18.var vd) ?_
      exact cm_tup3 ((k18.frm F').keep.gd G).nb p18 (k18.tup pd) (by have := R'.units; omega) zz zs q0 q1 q2 ⟨rfl, (k18.frm F').keep⟩
    refine ex_cons (ex_if ?_)
    walk_at "mev"
    refine op_mul (.of_left (by decide)) fun t17 => ?_
    walk_at "mev"
    by_cases hne : (sh != 2 * cm) = true
    · rw [if_pos hne] at o7
      refine ite_pos hne ?_
      simp only [Bool.and_eq_true] at o7
      obtain ⟨⟨⟨⟨⟨i1, i2⟩, i3⟩, i4⟩, i5⟩, i6⟩ := o7
      refine ex_cons (ex_set (ev_bin (ev_meth (ev_compL (fun _ => True) [p, q, r] PyData.int (fun _ => true) (fun x => .bool (decide (cm < x))) (by walk_at "mfrm") (by kernel_rfl) (free_def hk0 hc (by kernel_rfl)) (fun _ => rfl) ?_))))
      walk_at "mev"
      refine ⟨.refl _, it_dat R'.hand (xs := [p, q, r]) (e := PyData.int) (ok := fun _ => True) (by walk_at "mdat") fun I h20 St k20 It st => ⟨_, ⟨I, St, rfl, k20, It, st, by simp⟩, ?_, ?_⟩⟩
      · intro cenv CE x v hh hx dv kk F'
        obtain ⟨tx, rfl⟩ := dv.int_inv
        refine as_nameK CE F' (.inl (by kernel_rfl)) fun h21 F21 O21 V21 U21 K21 => ⟨F21, O21, te_nil ⟨.refl _, rfl, fun _ => ?_⟩⟩
        refine ev_cmp (ev_name F21 V21 (ev_name F21 (U21.var (by decide +kernel) (CE.fre _ _ _ (by kernel_rfl) (kk.var (by walk_at "mvar")))) (cm_gti ⟨.refl _, .bool _, fun T e => by cases e⟩)))
      · intro D ys h22 k22 n22 p22 d22
        have e22 : ys = [.bool (decide (cm < p)), .bool (decide (cm < q)), .bool (decide (cm < r))] := by
          have this : DatAll (fun _ => True) h22 ys [.bool (decide (cm < p)), .bool (decide (cm < q)), .bool (decide (cm < r))] := d22
          cases this with | cons a r => cases r with | cons b r => cases r with | cons c r => cases r; rw [a.bool_inv, b.bool_inv, c.bool_inv]
        subst e22
        refine gm_list p22 PySem.F.slot_list_index PySem.F.type_list_index (cw_bi (ar_cons (ev_bool (ar_nil (ca_index3 p22.isList i1 fun t23 => ?_)))))
        refine ev_int fun _ => op_div (by decide) (fin_of i2) fun t24 z24 => ?_
        walk_at "mset"
        refine ex_cons (ex_set (ev_tuple (ar_cons ?_)))
        walk_at "mev"
        refine ar_cons ?_
        walk_at "mev"
        refine op_div (by decide) (fin_of o4) fun t25 z25 => ar_cons ?_
        refine ev_bin ?_
        walk_at "mev"
        refine op_mul (.of_left (by decide)) fun t26 => op_sub fun t27 => ?_
        refine ev_call (ev_glob (by walk_at "mfrm") G.g_min (by walk_at "mkind") (cw_bi (ar_cons ?_)))
        walk_at "mev"
        refine ar_cons ?_
        walk_at "mev"
        refine ar_nil (ca_min2i R'.hand fun h28 t28 k28 => ?_)
        refine op_div (nz_of i3) (fin_of i4) fun t29 z29 => ar_nil ⟨by simp [hsz], fun h30 a30 k30 _ p30 => ?_⟩
        walk_at "mset"
        refine ex_nil ?_
        refine (last _ a30 _ _ _ _ _ _ (by walk_at "mfrm") (by walk_at "mvar") (by walk_at "mvar") (by walk_at "mpl") (KeepH.tup (by with_reducible assumption) p30) ⟨z24, z25, z29⟩ i5 o6 i6).mono ?_
        rintro _ h'' ⟨rfl, kk⟩
        exact ⟨kk, rfl⟩
    · rw [if_neg hne] at o7
      refine ite_neg hne ?_
      simp only [Bool.and_eq_true] at o7
      refine ex_nil ?_
      refine (last _ a16 _ _ _ _ _ _ (by walk_at "mfrm") (by walk_at "mvar") (by walk_at "mvar") (by walk_at "mpl") (KeepH.tup (by with_reducible assumption) p16) ⟨by assumption, by assumption, by assumption⟩ o7.1 o6 o7.2).mono ?_
      rintro _ h'' ⟨rfl, kk⟩
      exact ⟨kk, rfl⟩
end

end Mine
end

section
open PySem PySem.W PyProof.Rows
set_option Elab.async false
set_option maxRecDepth 100000
namespace Mine
section
variable {c : Cx} {A : Around} {h h' h'' hb : Heap} {env cenv : Env}

/-- all but the one list and the comprehension's own names stays -/
def KD (D : Addr) (cenv : Env) (h h' : Heap) : Prop := ∀ b o, b ≠ D → b ≠ cenv.locals → h.get? b = some o → h'.get? b = some o
theorem KD.trans {D : Addr} (a : KD D cenv h h') (b : KD D cenv h' h'') : KD D cenv h h'' := fun x o n1 n2 e => b x o n1 n2 (a x o n1 n2 e)
theorem Keep.kd {D : Addr} (a : Keep h h') : KD D cenv h h' := fun x o _ _ e => a x o e
def VS (cenv : Env) (vars : List (Str × Value)) (h : Heap) : Prop := ∀ x ∈ vars, Var cenv h x.1 x.2

/-- what stands at one level of a comprehension of several -/
def Lv (hb : Heap) (cenv : Env) (D : Addr) (vars : List (Str × Value)) (h₁ : Heap) (ds : List PyData) (h : Heap) : Prop :=
  Frm hb cenv h ∧ VS cenv vars h ∧ KD D cenv h₁ h ∧ ∃ ys, h.PlainList D ys.toArray ∧ DatAll (· ≠ D) h ys ds

theorem take_le {f : Nat → List PyData} (xs : List Nat) (i : Nat) : ((xs.take i).flatMap f).length ≤ (xs.flatMap f).length := by
  have e : (xs.flatMap f).length = ((xs.take i).flatMap f).length + ((xs.drop i).flatMap f).length := by
    rw [← List.length_append, ← List.flatMap_append, List.take_append_drop]
  omega

theorem lv_loop {e : Expr} {dep B : Nat} {x : Str} {px pp : Pos} {body : Sem Fin} {I D : Addr} {h₁ : Heap} {xs : List Nat} {ok0 : Addr → Prop} {St : Nat → Heap → Prop} {vars : List (Str × Value)} {ds0 : List PyData} {f : Nat → List PyData}
    (hturn : compTurn e dep (.ref I) (.ref D) cenv = (do
      standAt pp
      match ← pyNext (.ref I) with
      | none => pure (.done .next)
      | some v => do
        letOwnedTupleGo (.Name x px) (.ref I) v
        assign (.Name x px) cenv v
        body))
    (hun : A.under (Code.compLoop e dep (.ref I) (.ref D) cenv) = A) (hfr : (Code.compLoop e dep (.ref I) (.ref D) cenv).isFrame = false) (hq : (Code.compLoop e dep (.ref I) (.ref D) cenv).quiet = true)
    (It : IterR c A h₁ I [] xs.length (Gives1 ok0 h₁ xs (fun x => .int (x : Int))) St) (kb : Keep hb h₁) (hID : I ≠ D) (hIC : I ≠ cenv.locals)
    (st : St 0 h) (L0 : Lv hb cenv D vars h₁ ds0 h) (hB : ds0.length + (xs.flatMap f).length ≤ B)
    (turn : ∀ (n : Nat) (t : Tok) hh ds, n ∈ xs → ds.length ≤ B → Lv hb cenv D vars hh ds hh → W c A (assign (.Name x px) cenv (.int (n : Int) t)) hh (fun _ h₂ => W c A body h₂ (fun fin h₃ => fin = .again (.compLoop e dep (.ref I) (.ref D) cenv) ∧ Lv hb cenv D vars hh (ds ++ f n) h₃))) :
    WC c A (.compLoop e dep (.ref I) (.ref D) cenv) h (fun fl h' => fl = .next ∧ Lv hb cenv D vars h₁ (ds0 ++ xs.flatMap f) h') := by
  obtain ⟨hfresh, ⟨fp, Wk, hfp⟩, hlive, _, hlet⟩ := It
  refine .mk fun tk => ?_
  refine codeAny_loop (A := A) hq (fun k s => ∃ i h' tk', s = ⟨h', c.g, c.d, tk' + 1, c.os⟩ ∧ i ≤ xs.length ∧ k = xs.length + 1 - i ∧ St i h' ∧ Lv hb cenv D vars h₁ (ds0 ++ (xs.take i).flatMap f) h') (fun k s hI => ?_) (xs.length + 1) ⟨0, _, _, rfl, Nat.zero_le _, rfl, st, by simpa using L0⟩
  obtain ⟨i, h', tk', rfl, hi, rfl, hst, F', V', K', ys, P', D'⟩ := hI
  have hden : (model c.prog c.w).den (Code.compLoop e dep (.ref I) (.ref D) cenv) = (compTurn e dep (.ref I) (.ref D) cenv).onRaise (fun x => do noteFrame x cenv; theTreesLotGoes x) := by
    show (if (Code.compLoop e dep (.ref I) (.ref D) cenv).isFrame then _ else _) = _
    rw [hfr]; rfl
  rw [hun, hden]
  refine wpAny_onRaise ?_
  rw [hturn]
  refine wpAny_bind (wpAny_standAt (wpAny_bind ?_))
  have step : ∀ h₃, (∀ b o, b ∉ [I] → h'.get? b = some o → h₃.get? b = some o) → Lv hb cenv D vars h₁ (ds0 ++ (xs.take i).flatMap f) h₃ := by
    intro h₃ hk
    have k : ∀ b o, b ≠ I → h'.get? b = some o → h₃.get? b = some o := fun b o hb e => hk b o (by simpa using hb) e
    obtain ⟨oI, vI, eI, dI⟩ := hlive i h' hst
    have kn : KeepN h' h₃ := fun b o ho e => k b o (by rintro rfl; rw [eI] at e; cases e; exact ho _ dI) e
    refine ⟨⟨F'.kind, F'.glob, F'.bins, fun b o e => k b o (by rintro rfl; have := kb b o e; rw [hfresh] at this; cases this) (F'.keep b o e), ?_, fun x z e => ?_, F'.inj, F'.nsNew, F'.cellNew⟩, fun x hx => kn.var (V' x hx), fun b o n1 n2 e => k b o (by rintro rfl; rw [hfresh] at e; cases e) (K' b o n1 n2 e), ys, kn.pl P', D'.keepN kn⟩
    · obtain ⟨m, o, es, ep, ho, hd, r⟩ := F'.ns
      exact ⟨m, o, es, ep, kn _ o (fun _ => by rw [hd]; simp) ho, hd, r⟩
    · obtain ⟨u, o, ho, hd⟩ := F'.cell x z e
      exact ⟨u, o, kn _ o (fun _ => by rw [hd]; simp) ho, hd⟩
  by_cases hlt : i < xs.length
  · refine wk_item Wk i hlt hst fun v h₃ t3 hP hst₃ hk₃ => ?_
    dsimp only
    obtain ⟨F3, V3, K3, ys3, P3, D3⟩ := step h₃ hk₃
    refine wpAny_bind (W.go (hlet (i + 1) h₃ (.Name x px) v (fun _ hh => hh = h₃) hst₃ rfl) fun _ h₃' t3' e3 => ?_)
    subst e3
    obtain ⟨nx, e1, d1⟩ := hP
    obtain ⟨t, rfl⟩ := d1.int_inv
    refine wpAny_bind (W.go (turn nx t h₃' _ (List.mem_of_getElem? e1) (by have := take_le (f := f) xs i; rw [List.length_append]; omega) ⟨F3, V3, fun _ _ _ _ e => e, ys3, P3, D3⟩) fun _ h₄ t4 h4 => ?_)
    refine W.go h4 fun _ h₅ t5 h5 => ?_
    obtain ⟨rfl, F5, V5, K5, ys5, P5, D5⟩ := h5
    have htake : (xs.take (i + 1)).flatMap f = (xs.take i).flatMap f ++ f nx := by
      rw [List.take_succ, e1]; simp [List.flatMap_append]
    refine ⟨rfl, xs.length + 1 - (i + 1), by omega, i + 1, h₅, _, rfl, hlt, rfl, Wk.frame _ _ _ hst₃ fun b hb o e => ?_, F5, V5, K3.trans K5, ys5, P5, ?_⟩
    · rcases hfp b hb with rfl | hbr
      · exact K5 b o hID hIC e
      · cases hbr
    · rw [htake, ← List.append_assoc]; exact D5
  · have e : i = xs.length := by omega
    subst e
    refine wk_done Wk hst fun h₃ t3 hk₃ => ?_
    have := step h₃ hk₃
    rw [List.take_length] at this
    exact wpAny_pure ⟨_, _, _, rfl, rfl, rfl, this⟩

/-- the start of a level -/
theorem lv_start {e : Expr} {dep : Nat} {g : Comprehension} {I D : Addr} {h₁ : Heap} {n : Nat} {P : Nat → Value → Prop} {St : Nat → Heap → Prop} {Q : Heap → Prop} (hcl : (clausesOf e)[dep]? = some g) (ha : g.is_async = 0)
    (hun : A.under (Code.compStart e dep (.ref I) (.ref D) cenv) = A) (hfr : (Code.compStart e dep (.ref I) (.ref D) cenv).isFrame = false) (hq : (Code.compLoop e dep (.ref I) (.ref D) cenv).quiet = true)
    (It : IterR c A h₁ I [] n P St) (st : St 0 h) (hloop : WC c A (.compLoop e dep (.ref I) (.ref D) cenv) h (fun fl h' => fl = .next ∧ Q h')) :
    WC c A (.compStart e dep (.ref I) (.ref D) cenv) h (fun fl h' => fl = .next ∧ Q h') := by
  refine .mk fun tk => codeAny_of_tree ?_
  have hden : (model c.prog c.w).den (Code.compStart e dep (.ref I) (.ref D) cenv) = (compStart e dep (.ref I) (.ref D) cenv).onRaise (fun x => do noteFrame x cenv; standAt theWindowsPlace) := by
    show (if (Code.compStart e dep (.ref I) (.ref D) cenv).isFrame then _ else _) = _
    rw [hfr]; rfl
  rw [hun, hden]
  refine wpAny_onRaise ?_
  unfold compStart
  rw [hcl]
  have h0 : ((some g).elim false fun x => x.is_async != 0) = false := by simp [ha]
  rw [h0]
  simp only [Bool.false_eq_true, if_false]
  obtain ⟨fp, Wk, _⟩ := It.fp
  refine wpAny_bind (wpAny_askSetting (wpAny_ite ?_))
  have fin := hloop.run tk
  split
  · first
      | exact wpAny_bind (wpAny_pure (wpAny_pure ⟨hq, fin⟩))
      | exact wpAny_pure ⟨hq, fin⟩
  · first
      | exact wpAny_bind (wpAny_rule (wpAny_bind (wpAny_standAt (wpAny_bind (Wk.self 0 _ _ _ st (wpAny_pure ⟨hq, fin⟩))))))
      | (refine wpAny_bind (wpAny_rule ?_); show wpAny _ _ (standAt g.iter.pos >>= _) _ _ _; exact wpAny_bind (wpAny_standAt (wpAny_bind (Wk.self 0 _ _ _ st (wpAny_pure ⟨hq, fin⟩)))))
end

open PySem PySem.W PyProof.Rows
section
variable {c : Cx} {A : Around} {h h' h'' hb : Heap} {env cenv : Env} {D : Addr} {vars : List (Str × Value)} {ds : List PyData}

theorem lv_assign {scope : Scope} {x : Str} {px : Pos} {v : Value} {hh : Heap} {Q : Unit → Heap → Prop} (CE : CEnv env scope cenv) (hloc : scope.names.lookup x = some .local) (hnc : ∀ y, scope.names.lookup y ≠ some .cell) (hx : ∀ y ∈ vars, y.1 ≠ x)
    (L : Lv hb cenv D vars hh ds hh) (hq : ∀ h2, Lv hb cenv D ((x, v) :: vars) hh ds h2 → Q () h2) : W c A (assign (.Name x px) cenv v) hh Q := by
  obtain ⟨F, V, _, ys, P, Da⟩ := L
  refine as_name CE F (.inl hloc) fun h' F' O' V' U' => hq h' ⟨F', ?_, ?_, ys, (O'.kh F).pl P, Da.keepH (O'.kh F)⟩
  · intro y hy
    rcases List.mem_cons.mp hy with rfl | hy
    · exact V'
    · exact U'.var (hx y hy) (V y hy)
  · exact fun b o n1 n2 e => O' b o n2 (fun y k hy => absurd hy (hnc y)) e
theorem lv_weak {p : Str × Value} {h₁ : Heap} (L : Lv hb cenv D (p :: vars) h₁ ds h) : Lv hb cenv D vars h₁ ds h := by
  obtain ⟨F, V, r⟩ := L; exact ⟨F, fun y hy => V y (List.mem_cons_of_mem _ hy), r⟩
theorem lv_pre {h₀ h₁ : Heap} (k : KD D cenv h₀ h₁) (L : Lv hb cenv D vars h₁ ds h) : Lv hb cenv D vars h₀ ds h := by
  obtain ⟨F, V, K, r⟩ := L; exact ⟨F, V, k.trans K, r⟩
theorem lv_keep {h₁ : Heap} (k : Keep h h') (L : Lv hb cenv D vars h₁ ds h) : Lv hb cenv D vars h₁ ds h' := by
  obtain ⟨F, V, K, ys, P, Da⟩ := L
  exact ⟨k.frm F, fun y hy => k.var (V y hy), K.trans k.kd, ys, k.pl P, Da.keep k⟩
theorem lv_here {h₁ : Heap} (L : Lv hb cenv D vars h₁ ds h) : Lv hb cenv D vars h ds h := by
  obtain ⟨F, V, _, r⟩ := L; exact ⟨F, V, fun _ _ _ _ e => e, r⟩

/-- an inner level -/
theorem lv_next {e it : Expr} {dep n : Nat} {g : Comprehension} {hh : Heap} {es : List PyData} {K : Code} (hh0 : A.handled = none)
    (hcl : (clausesOf e)[dep]? = some g) (ha : g.is_async = 0) (hmk : A.mark none = A)
    (hun : ∀ I, A.under (Code.compStart e dep (.ref I) (.ref D) cenv) = A) (hfr : ∀ I, (Code.compStart e dep (.ref I) (.ref D) cenv).isFrame = false) (hq : ∀ I, (Code.compLoop e dep (.ref I) (.ref D) cenv).quiet = true)
    (hs : ∀ x, foldedSetIterable it cenv x = pure x) (hn : n ≤ 1000)
    (hit : W c A (eval it cenv) h (fun v h₁ => Keep h h₁ ∧ ∃ r t u w, v = .ref r ∧ IsRange h₁ r ((0 : Nat) : Int) ((0 + n : Nat) : Int) 1 t u w))
    (hloop : ∀ I h₁ h₂ St, Keep h h₁ → Keep h₁ h₂ → IterR c A h₁ I [] (List.range' 0 n).length (Gives1 (fun _ => True) h₁ (List.range' 0 n) (fun x => .int (x : Int))) St → St 0 h₂ →
      WC c A (.compLoop e dep (.ref I) (.ref D) cenv) h₂ (fun fl h' => fl = .next ∧ Lv hb cenv D vars h₁ es h')) (hk : KD D cenv hh h) :
    W c A (do
      let x ← eval it cenv
      standAt it.pos
      let x ← foldedSetIterable it cenv x
      let _ ← runOwn (.compStart e dep (← holding [x] (pyIter x)) (.ref D) cenv) cenv
      again K) h (fun fin h' => fin = .again K ∧ Lv hb cenv D vars hh es h') := by
  refine W.bind (hit.mono ?_)
  rintro _ h₁ ⟨k1, r, t, u, w, rfl, hr⟩
  refine W.bind (W.standAt ?_)
  rw [hs]
  refine W.bind (W.pure (W.bind (W.holding (itr_nats (ok := fun _ => True) hh0 hr (by omega) fun I h₂ St k2 It st => ?_))))
  refine W.bind (.mk fun tk E => wpAny_runOwn ?_)
  rw [hmk]
  refine WC.go (lv_start hcl ha (hun I) (hfr I) (hq I) It st (hloop I h₁ h₂ St k1 k2 It st)) fun f h3 t3 hf => ?_
  obtain ⟨rfl, L⟩ := hf
  exact ⟨_, _, rfl, W.pure ⟨rfl, lv_pre (hk.trans k1.kd) L⟩⟩
end

open PySem PySem.W PyProof.Rows
section
variable {c : Cx} {A : Around} {h h' h'' hb : Heap} {env : Env}

def threeD (i j k : Nat) : PyData := eLI [(i : Int), (j : Int), (k : Int)]
def threesD : List PyData := (List.range' 0 5).flatMap fun k => (List.range' 0 k).flatMap fun j => (List.range' 0 j).flatMap fun i => [threeD i j k]

theorem range_of {h : Heap} {r : Addr} {n : Nat} {t u v : Tok} (x : IsRange h r 0 (n : Int) 1 t u v) : IsRange h r ((0 : Nat) : Int) ((0 + n : Nat) : Int) 1 t u v := by simpa using x

theorem nm1 (v : Value) : ∀ z ∈ [(("k" : Str), v)], z.1 ≠ ("j" : Str) := by
  intro z hz
  have e : z = (("k" : Str), v) := by simpa using hz
  subst e
  show ("k" : Str) ≠ "j"
  decide +kernel
theorem nm2 (u v : Value) : ∀ z ∈ [(("j" : Str), u), (("k" : Str), v)], z.1 ≠ ("i" : Str) := by
  intro z hz
  rcases List.mem_cons.mp hz with rfl | hz
  · show ("j" : Str) ≠ "i"
    decide +kernel
  · have e : z = (("k" : Str), v) := by simpa using hz
    subst e
    show ("k" : Str) ≠ "i"
    decide +kernel
theorem lm_len (m n : Nat) : ((List.range' 0 m).flatMap fun i => [threeD i m n]).length = m := by
  rw [List.length_flatMap]
  have : List.map (fun a => [threeD a m n].length) (List.range' 0 m) = List.replicate m 1 := by
    rw [List.eq_replicate_iff]; simp
  rw [this]; simp

theorem ex_threes {p1 p2 p3 p4 pk pj pi q1 q2 q3 q4 q5 q6 q7 q8 q9 pos spos py : Pos} {kk : Nat} {y : Str} {scope : Scope} {Q : Flow → Heap → Prop} (G : Gd hb) (F : Frm hb env h) (hsc : scOk scope = true) (hfr : FreeOk env scope) (hy : env.kindOf y = some .local) (hrg : env.kindOf "range" = some .globalImplicit)
    (hh0 : A.handled = none) (hnc : ∀ z, scope.names.lookup z ≠ some .cell) (hi : scope.names.lookup ("i" : Str) = some .local) (hj : scope.names.lookup ("j" : Str) = some .local) (hk : scope.names.lookup ("k" : Str) = some .local) (hr : scope.names.lookup ("range" : Str) = some .globalImplicit)
    (hsw : swapsWith (.ListComp (.List [.Name "i" p1, .Name "j" p2, .Name "k" p3] p4) [⟨.Name "k" pk, .Call (.Name "range" q7) [.Constant (.int 5) kk q8] [] q9, [], 0⟩, ⟨.Name "j" pj, .Call (.Name "range" q1) [.Name "k" q2] [] q3, [], 0⟩, ⟨.Name "i" pi, .Call (.Name "range" q4) [.Name "j" q5] [] q6, [], 0⟩] scope pos) (some (.Name y py)) spos.line env = pure true)
    (fin : ∀ D h', Frm hb env h' → Var env h' y (.ref D) → Upd env h h' y → KeepH h h' → Dat (fun _ => True) h' (.ref D) (.list threesD) → Q .next h') :
    W c A (exec (.Assign [.Name y py] (.ListComp (.List [.Name "i" p1, .Name "j" p2, .Name "k" p3] p4) [⟨.Name "k" pk, .Call (.Name "range" q7) [.Constant (.int 5) kk q8] [] q9, [], 0⟩, ⟨.Name "j" pj, .Call (.Name "range" q1) [.Name "k" q2] [] q3, [], 0⟩, ⟨.Name "i" pi, .Call (.Name "range" q4) [.Name "j" q5] [] q6, [], 0⟩] scope pos) spos) env) h Q := by
  refine .mk fun tk E => ?_
  rw [exec_Assign_Name_used _ _ _ _ hsw]
  refine wpAny_bind (wpAny_standAt (wpAny_bind ?_))
  generalize hit0 : Expr.Call (.Name "range" q7) [.Constant (.int 5) kk q8] [] q9 = it0
  generalize hit1 : Expr.Call (.Name "range" q1) [.Name "k" q2] [] q3 = it1
  generalize hit2 : Expr.Call (.Name "range" q4) [.Name "j" q5] [] q6 = it2
  generalize helt : Expr.List [.Name "i" p1, .Name "j" p2, .Name "k" p3] p4 = elt
  show wpAny _ A (do let _ ← comprehension (.ListComp elt [⟨.Name "k" pk, it0, [], 0⟩, ⟨.Name "j" pj, it1, [], 0⟩, ⟨.Name "i" pi, it2, [], 0⟩] scope pos) scope env _ (newList []) false (eval it0 env) (some (assign (.Name y py) env))) _ _ _
  have hsz : sizeLine = 2 ^ 24 := rfl
  have hmk : A.mark none = A := rfl
  refine wpAny_bind (wpAny_mono (wpAny_comprehension_free (use := some (assign (.Name y py) env)) (Q := fun _ s' => ∃ h' tk', s' = ⟨h', c.g, c.d, tk', c.os⟩ ∧ Q .next h') rfl (by subst hit0; intro _; rfl) (closureFor_eq fun x hx hf => (hfr x hx hf).2) (scOk_kind hsc) (fun x hx hl => by rw [scOk_nd hsc x hx, hl]) ?_) (fun _ s' hq => wpAny_pure (wpAny_pure hq)) fun _ _ e => e)
  have ev0 : W c A (eval it0 env) h (fun v h₁ => Keep h h₁ ∧ ∃ r t u w, v = .ref r ∧ IsRange h₁ r ((0 : Nat) : Int) ((0 + 5 : Nat) : Int) 1 t u w) := by
    subst hit0
    exact ev_call (ev_glob F G.g_range hrg (cw_ty (ar_cons (ev_int fun t => ar_nil (ca_range (n := 5) fun h' r t1 t2 k x => ⟨k, r, _, _, _, rfl, range_of x⟩)))))
  refine ev0.go fun v h₁ t1 hv => ?_
  obtain ⟨k1, r0, ta, tb, tc, rfl, hr0⟩ := hv
  refine W.go (itr_nats (ok := fun _ => True) hh0 hr0 (by omega) (Q := fun it h₂ => ∃ I St, it = .ref I ∧ Keep h₁ h₂ ∧ IterR c A h₁ I [] (List.range' 0 5).length (Gives1 (fun _ => True) h₁ (List.range' 0 5) (fun x => .int (x : Int))) St ∧ St 0 h₂) fun I h' St k It st => ⟨I, St, rfl, k, It, st⟩) fun it h₂ t2 h2 => ?_
  obtain ⟨I, St, rfl, k2, It, hst⟩ := h2
  refine wpAny_newObj_type ?_
  dsimp only
  generalize hH3 : h₂.push { cls := .type "list", data := .seq ([] : List Value).toArray } = H3
  have kD : Keep h₂ H3 := hH3 ▸ Keep.push _ _
  have F1 := k1.frm F
  have F3 := kD.frm (k2.frm F1)
  have hD3 : H3.PlainList h₂.objs.size #[] := hH3 ▸ pl_new _ _
  have hDn2 : h₂.get? h₂.objs.size = none := fresh_none (Nat.le_refl _)
  have up : ∀ b, h₂.get? b = none → h₁.get? b = none := fun b e => by
    cases q : h₁.get? b with
    | none => rfl
    | some o => rw [k2 b o q] at e; cases e
  refine W.go (nfe F3 (scOk_nd hsc) hfr (scOk_kind hsc) (Q := fun ce h₄ => Keep H3 h₄ ∧ H3.get? ce.locals = none ∧ Frm hb { ce with scope := relabel scope env } h₄ ∧ CEnv env scope { ce with scope := relabel scope env })
    fun h' ce a1 a2 a3 a4 a5 => ⟨a1, a2, a4, a5⟩) fun ce h₄ t4 h4 => ?_
  obtain ⟨k4, hC4, F4, CE⟩ := h4
  have up3 : ∀ b, H3.get? b = none → h₁.get? b = none := fun b e => by
    cases q : h₁.get? b with
    | none => rfl
    | some o => rw [kD b o (k2 b o q)] at e; cases e
  obtain ⟨oI, vI, hoI, hdI⟩ := It.live 0 h₂ hst
  obtain ⟨mD, hoD⟩ := hD3
  have hDC : h₂.objs.size ≠ ce.locals := by rintro e; rw [← e, hoD] at hC4; cases hC4
  have hIC : I ≠ ce.locals := by rintro e; rw [← e, kD _ _ hoI] at hC4; cases hC4
  have hID : I ≠ h₂.objs.size := by rintro e; rw [e, hDn2] at hoI; cases hoI
  have hst4 : St 0 h₄ := by
    obtain ⟨fp, Wk, _⟩ := It.fp
    exact Wk.frame _ _ _ hst fun b _ o e => k4 b o (kD b o e)
  generalize hcenv : ({ ce with scope := relabel scope env } : Env) = cenv at *
  have hcl : ce.locals = cenv.locals := by rw [← hcenv]
  rw [hcl] at hIC hDC
  generalize hE : Expr.ListComp elt [⟨.Name "k" pk, it0, [], 0⟩, ⟨.Name "j" pj, it1, [], 0⟩, ⟨.Name "i" pi, it2, [], 0⟩] scope pos = e
  generalize hDD : h₂.objs.size = D at *
  have rgk : cenv.kindOf "range" = some .globalImplicit := CE.glo _ hr
  -- the ranges of the inner levels
  have evr : ∀ (hh : Heap) (x : Str) (n : Nat) (t : Tok) (a b d : Pos), Frm hb cenv hh → Var cenv hh x (.int (n : Int) t) → (x == ("__debug__" : Str)) = false → (x == ("__classdict__" : Str)) = false → W c A (eval (.Call (.Name "range" a) [.Name x b] [] d) cenv) hh (fun v h₁ => Keep hh h₁ ∧ ∃ r t u w, v = .ref r ∧ IsRange h₁ r ((0 : Nat) : Int) ((0 + n : Nat) : Int) 1 t u w) :=
    fun hh x n t a b d Fh Vh e1 e2 => ev_call (ev_glob Fh G.g_range rgk (cw_ty (ar_cons (ev_name Fh Vh (ar_nil (ca_range (n := n) fun h' r t1 t2 k x => ⟨k, r, _, _, _, rfl, range_of x⟩)) e1 e2))))
  have L4 : Lv hb cenv D [] h₁ [] h₄ := ⟨F4, (fun x hx => by cases hx), fun b o _ _ e => k4 b o (kD b o (k2 b o e)), [], ⟨mD, k4 _ _ hoD⟩, .nil⟩
  have loop : WC c A (.compStart e 0 (.ref I) (.ref D) cenv) h₄ (fun fl h' => fl = .next ∧ Lv hb cenv D [] h₁ threesD h') := by
    subst hE
    refine lv_start (g := ⟨.Name "k" pk, it0, [], 0⟩) rfl rfl rfl rfl rfl It hst4 (lv_loop (xs := List.range' 0 5) (x := "k") (px := pk) (pp := it0.pos) (f := fun k => (List.range' 0 k).flatMap fun j => (List.range' 0 j).flatMap fun i => [threeD i j k]) (body := do
      let x ← eval it1 cenv
      standAt it1.pos
      let x ← foldedSetIterable it1 cenv x
      let _ ← runOwn (.compStart (.ListComp elt [⟨.Name "k" pk, it0, [], 0⟩, ⟨.Name "j" pj, it1, [], 0⟩, ⟨.Name "i" pi, it2, [], 0⟩] scope pos) 1 (← holding [x] (pyIter x)) (.ref D) cenv) cenv
      again (.compLoop (.ListComp elt [⟨.Name "k" pk, it0, [], 0⟩, ⟨.Name "j" pj, it1, [], 0⟩, ⟨.Name "i" pi, it2, [], 0⟩] scope pos) 0 (.ref I) (.ref D) cenv)) (by rfl) rfl rfl rfl It F1.keep hID hIC hst4 L4 (B := 10) (by decide) ?_)
    intro n t hh ds hn hds L
    have hn5 : n < 5 := by simpa using hn
    have bn : ((List.range' 0 n).flatMap fun j => (List.range' 0 j).flatMap fun i => [threeD i j n]).length ≤ 10 := by
      have : n = 0 ∨ n = 1 ∨ n = 2 ∨ n = 3 ∨ n = 4 := by omega
      rcases this with rfl | rfl | rfl | rfl | rfl <;> decide
    refine lv_assign CE hk hnc (fun _ h => by cases h) L fun h2 L2 => ?_
    refine W.mono (lv_next (g := ⟨.Name "j" pj, it1, [], 0⟩) (n := n) (vars := [("k", .int n t)]) (hh := hh) (es := ds ++ (List.range' 0 n).flatMap fun j => (List.range' 0 j).flatMap fun i => [threeD i j n]) hh0 rfl rfl hmk (fun _ => rfl) (fun _ => rfl) (fun _ => rfl) (by subst hit1; intro _; rfl) (by omega) (by subst hit1; exact evr h2 "k" n t _ _ _ L2.1 (L2.2.1 _ List.mem_cons_self) (by decide) (by decide)) (fun I1 ha hb' St1 ka kb' It1 st1 => ?_) L2.2.2.1) fun _ h3 L3 => ⟨L3.1, lv_weak L3.2⟩
    obtain ⟨F2, V2, K2, ys2, P2, D2⟩ := L2
    have ex1 : ∀ b, (∃ o, h2.get? b = some o) → I1 ≠ b := by rintro b ⟨o, e⟩ rfl; have := It1.fresh; rw [ka _ _ e] at this; cases this
    have hID1 : I1 ≠ D := ex1 D (let ⟨m, e⟩ := P2; ⟨_, e⟩)
    have hIC1 : I1 ≠ cenv.locals := ex1 _ (let ⟨m, o, es, ep, ho, _⟩ := F2.ns; ⟨o, ho⟩)
    refine lv_loop (xs := List.range' 0 n) (x := "j") (px := pj) (pp := it1.pos) (f := fun j => (List.range' 0 j).flatMap fun i => [threeD i j n]) (body := do
      let x ← eval it2 cenv
      standAt it2.pos
      let x ← foldedSetIterable it2 cenv x
      let _ ← runOwn (.compStart (.ListComp elt [⟨.Name "k" pk, it0, [], 0⟩, ⟨.Name "j" pj, it1, [], 0⟩, ⟨.Name "i" pi, it2, [], 0⟩] scope pos) 2 (← holding [x] (pyIter x)) (.ref D) cenv) cenv
      again (.compLoop (.ListComp elt [⟨.Name "k" pk, it0, [], 0⟩, ⟨.Name "j" pj, it1, [], 0⟩, ⟨.Name "i" pi, it2, [], 0⟩] scope pos) 1 (.ref I1) (.ref D) cenv)) (by rfl) rfl rfl rfl It1 (F2.keep.trans ka) hID1 hIC1 st1 (lv_keep kb' (lv_here (lv_keep ka ⟨F2, V2, K2, ys2, P2, D2⟩))) (B := 20) (by omega) ?_
    intro m u h5 ds5 hm hds5 L5
    have hm5 : m < n := by simpa using hm
    have lm := lm_len m n
    refine lv_assign CE hj hnc (nm1 _) L5 fun h6 L6 => ?_
    refine W.mono (lv_next (g := ⟨.Name "i" pi, it2, [], 0⟩) (n := m) (vars := [("j", .int m u), ("k", .int n t)]) (hh := h5) (es := ds5 ++ (List.range' 0 m).flatMap fun i => [threeD i m n]) hh0 rfl rfl hmk (fun _ => rfl) (fun _ => rfl) (fun _ => rfl) (by subst hit2; intro _; rfl) (by omega) (by subst hit2; exact evr h6 "j" m u _ _ _ L6.1 (L6.2.1 _ List.mem_cons_self) (by decide) (by decide)) (fun I2 hc hd St2 kc kd It2 st2 => ?_) L6.2.2.1) fun _ h7 L7 => ⟨L7.1, lv_weak L7.2⟩
    obtain ⟨F6, V6, K6, ys6, P6, D6⟩ := L6
    have ex2 : ∀ b, (∃ o, h6.get? b = some o) → I2 ≠ b := by rintro b ⟨o, e⟩ rfl; have := It2.fresh; rw [kc _ _ e] at this; cases this
    have hID2 : I2 ≠ D := ex2 D (let ⟨m, e⟩ := P6; ⟨_, e⟩)
    have hIC2 : I2 ≠ cenv.locals := ex2 _ (let ⟨m, o, es, ep, ho, _⟩ := F6.ns; ⟨o, ho⟩)
    refine lv_loop (xs := List.range' 0 m) (x := "i") (px := pi) (pp := it2.pos) (f := fun i => [threeD i m n]) (body := do (do let _ ← call (.builtin "list.append") [.ref D, ← eval elt cenv]); again (.compLoop (.ListComp elt [⟨.Name "k" pk, it0, [], 0⟩, ⟨.Name "j" pj, it1, [], 0⟩, ⟨.Name "i" pi, it2, [], 0⟩] scope pos) 2 (.ref I2) (.ref D) cenv)) (by rfl) rfl rfl rfl It2 (F6.keep.trans kc) hID2 hIC2 st2 (lv_keep kd (lv_here (lv_keep kc ⟨F6, V6, K6, ys6, P6, D6⟩))) (B := 30) (by rw [lm]; omega) ?_
    intro l w h8 ds8 hl hds8 L8
    refine lv_assign CE hi hnc (nm2 _ _) L8 fun h9 L9 => ?_
    obtain ⟨F9, V9, K9, ys9, P9, D9⟩ := L9
    have vi := V9 _ List.mem_cons_self
    have vj := V9 _ (List.mem_cons_of_mem _ List.mem_cons_self)
    have vk := V9 _ (List.mem_cons_of_mem _ (List.mem_cons_of_mem _ List.mem_cons_self))
    refine W.bind (W.bind ?_)
    subst helt
    refine ev_listP (ar_cons (ev_name F9 vi (ar_cons (ev_name F9 vj (ar_cons (ev_name F9 vk (ar_nil ⟨by simp [hsz], fun h10 a10 k10 n10 p10 => ?_⟩))))))) 
    have hne : a10 ≠ D := pl_fresh_ne P9 n10
    have l9 := D9.length
    refine W.bind (ca_append (k10.pl P9) (by omega) fun h11 p11 k11 => W.pure (W.pure ⟨rfl, ?_⟩))
    have nsl : ∃ m, h10.Ns cenv.locals m := (k10.frm F9).ns
    refine ⟨?_, ?_, ?_, _, p11, (DatAll.keepB k11 (fun _ h => h) (DatAll.append (D9.keep k10) (.cons (.list hne p10 (.cons (.int _ _) (.cons (.int _ _) (.cons (.int _ _) .nil)))) .nil)))⟩
    · exact k11.frm (k10.pl P9) (fresh_base F1 (up _ hDn2)) (k10.frm F9)
    · intro z hz
      exact k11.var (k10.pl P9) (k10.var (V9 z (List.mem_cons_of_mem _ hz)))
    · exact fun b o n1 n2 e => k11 b o n1 (k10 b o (K9 b o n1 n2 e))
  refine WC.go loop fun fl h5 t5 hf => ?_
  obtain ⟨rfl, F5, V5, K5, ys, P5, D5⟩ := hf
  subst hDD
  obtain ⟨mL, hL1⟩ := F1.ns
  have hC1 : h₁.get? cenv.locals = none := by rw [← hcl]; exact up3 _ hC4
  have hD1 : h₁.get? h₂.objs.size = none := up _ hDn2
  have hLC : env.locals ≠ cenv.locals := by rintro e; obtain ⟨o, _, _, ho, _⟩ := hL1; rw [e, hC1] at ho; cases ho
  have hDL : h₂.objs.size ≠ env.locals := by intro e; obtain ⟨o, _, _, ho, _⟩ := hL1; rw [← e, hD1] at ho; cases ho
  have hcC : ∀ x k, env.cells.lookup x = some k → k ≠ cenv.locals := by
    rintro x k e rfl
    obtain ⟨u, o, ho, _⟩ := F1.cell x _ e
    rw [hC1] at ho; cases ho
  have k0 : Keep h₁ h5 := fun b o e => K5 b o (by rintro rfl; rw [hD1] at e; cases e) (by rintro rfl; rw [hC1] at e; cases e) e
  have F0 := k0.frm F1
  show wpAny _ A (assign (.Name y py) env (.ref h₂.objs.size)) _ _ _
  refine wpAny_assign_Name (W.go (st_only (x := y) (v := .ref h₂.objs.size) F0 (.inl hy) (Q := fun _ h3 => Frm hb env h3 ∧ Var env h3 y (.ref h₂.objs.size) ∧ Upd env h5 h3 y ∧ ∀ b o, b ≠ env.locals → h5.get? b = some o → h3.get? b = some o)
    fun h' F' V' U' O' => ⟨F', V', U', fun b o hb e => O' b o (fun _ => hb) (fun hk => by rw [hy] at hk; cases hk) e⟩) fun _ h3 t3 h3' => ?_)
  obtain ⟨F3', V3, U3, O3⟩ := h3'
  obtain ⟨mC, hns⟩ := F5.ns
  rw [hcl]
  refine ⟨mC, hns.at' fun o e => O3 _ o (Ne.symm hLC) e, fun h6 hs6 => ⟨_, _, rfl, ?_⟩⟩
  have k6 : ∀ b o, b ≠ cenv.locals → h3.get? b = some o → h6.get? b = some o := fun b o hb e => hs6.extBut b o hb e
  have V6 : ∀ z u, Var env h3 z u → Var env h6 z u := by
    rintro z u (⟨a, mm, b, d⟩ | ⟨a, k, b, o, ho, hd⟩)
    · exact .inl ⟨a, mm, b.at' fun o e => k6 _ o hLC e, d⟩
    · exact .inr ⟨a, k, b, o, k6 _ o (hcC z k b) ho, hd⟩
  have plx : ∀ a vs, h5.PlainList a vs → h6.PlainList a vs := fun a vs p => p.at fun o e => k6 _ o (pl_ne_ns p hns).symm (O3 _ o (by
    rintro rfl
    obtain ⟨mm, hm⟩ := F0.ns
    exact pl_ne_ns p hm rfl) e)
  refine fin _ h6 ⟨F3'.kind, F3'.glob, F3'.bins, fun b o e => k6 b o ?_ (F3'.keep b o e), ?_, fun x k e => ?_, F3'.inj, F3'.nsNew, F3'.cellNew⟩ (V6 _ _ V3) (fun z u hz hv => V6 _ _ (U3 z u hz (k0.var (k1.var hv)))) ?_ (.list trivial (plx _ _ P5) (D5.tr fun a vs _ p => ⟨trivial, plx a vs p⟩))
  · rintro rfl; have := F1.keep _ o e; rw [hC1] at this; cases this
  · obtain ⟨mm, hm⟩ := F3'.ns; exact ⟨mm, hm.at' fun o e => k6 _ o hLC e⟩
  · obtain ⟨u, o, ho, hd⟩ := F3'.cell x k e; exact ⟨u, o, k6 _ o (hcC x k e) ho, hd⟩
  · intro b o hard e
    refine k6 b o (by rintro rfl; rw [k1.hard _ _ hard e] at hC1; cases hC1) (O3 b o ?_ (k0 b o (k1 b o e)))
    rintro rfl
    obtain ⟨o', _, _, ho', hd', _⟩ := hL1
    rw [k1 _ _ e] at ho'; cases ho'; exact hard.1 _ _ hd'
end

open PySem PySem.W PyProof.Rows
section
variable {c : Cx} {A : Around} {h hb : Heap} {env : Env}

theorem sw_cell {elt : Expr} {gs : List Comprehension} {sc : Scope} {p q : Pos} {t : Str} {l : Nat} (hk : env.kindOf t = some .cell) : swapsWith (.ListComp elt gs sc p) (some (.Name t q)) l env = pure false := by
  unfold swapsWith
  dsimp only
  rw [hk]
  rw [show (some NameKind.cell == some NameKind.local) = false from by decide, Bool.and_false, Bool.false_and, Bool.false_and]
theorem sw_loc {elt : Expr} {gs : List Comprehension} {sc : Scope} {p q : Pos} {t : Str} {l : Nat} (hb : env.blockKind = .function) (hk : env.kindOf t = some .local) (hl : (q.line == p.line) = true) (hn : (sc.names.any fun (n, k) => n == t && (k == .local || k == .cell)) = false) :
    swapsWith (.ListComp elt gs sc p) (some (.Name t q)) l env = pure true := by
  unfold swapsWith
  dsimp only
  show (pure (env.blockKind == .function && env.kindOf t == some .local && q.line == p.line && !(sc.names.any fun (n, k) => n == t && (k == .local || k == .cell))) : Sem Bool) = _
  rw [hb, hk, hl, hn]
  rfl
end

end Mine
end

section
open PySem PySem.W PyProof.Rows
set_option Elab.async false
set_option maxRecDepth 100000
namespace Mine
local macro_rules | `(tactic| walk_at "mfrm") => `(tactic| first | with_reducible assumption | exact Keep.frm (by with_reducible assumption) (by walk_at "mfrm"))
local macro_rules | `(tactic| walk_at "mvar") => `(tactic| first | with_reducible assumption | exact Upd.var (by with_reducible assumption) (by decide +kernel) (by walk_at "mvar") | exact Keep.var (by with_reducible assumption) (by walk_at "mvar") | exact KeepN.var (by with_reducible assumption) (by walk_at "mvar"))
local macro_rules | `(tactic| walk_at "mdat") => `(tactic| first | with_reducible assumption | exact Keep.dat (by with_reducible assumption) (by walk_at "mdat") | exact KeepH.dat (by with_reducible assumption) (by walk_at "mdat") | exact KeepN.dat (by with_reducible assumption) (by walk_at "mdat"))
local macro_rules | `(tactic| walk_at "mpl") => `(tactic| first | with_reducible assumption | exact Keep.pl (by with_reducible assumption) (by walk_at "mpl") | exact KeepH.pl (by with_reducible assumption) (by walk_at "mpl") | exact KeepN.pl (by with_reducible assumption) (by walk_at "mpl"))
local macro_rules | `(tactic| walk_at "mkind") => `(tactic| exact (‹∀ x, Env.kindOf _ x = _› _).trans (by kernel_rfl))
local macro_rules | `(tactic| walk_at "mset") => `(tactic| (refine st_name (by walk_at "mfrm") (.inl (by walk_at "mkind")) ?_; intro hN FN vN UN KN))
local macro_rules | `(tactic| walk_at "msetc") => `(tactic| (refine st_name (by walk_at "mfrm") (.inr ⟨(by walk_at "mkind"), (‹∀ x, List.lookup x _ = some NameKind.cell → (List.lookup x _).isSome = true› _ (by kernel_rfl))⟩) ?_; intro hN FN vN UN KN))
def R5 : List Nat := List.range' 0 5
theorem r5_at {α : Type} (f : Nat → α) {i : Nat} (hi : i < 5) : (R5.map f)[i]? = some (f i) := by simp [R5, hi]
theorem r5_mem {i : Nat} (hi : i ∈ R5) : i < 5 := by simpa [R5] using hi
theorem r5_true {α : Type} (g : Nat → α) : (R5.filter fun _ => true).map g = R5.map g := rfl

def tb : List Stmt := match (fbd 14)[5]? with | some (PySem.Stmt.For _ _ b _ _) => b | _ => []
def okT (N L : Addr) : Addr → Prop := fun a => a ≠ N ∧ a ≠ L

def hvS (tv : Nat → List Str) (i : Nat) : Str := Txt.join "." ([Txt.mul "s" ((i : Int) + 1)] ++ tv i)
def rvS (t : List Str) : List Str := (List.range' 0 t.length).map fun k => Str.ofString "." ++ Txt.join "." (t.drop k)
def locS (t : List Str) : Bool := match t.getLast? with | some x => eqS x "local" | none => false
def uvS (t : List Str) : List Str := if locS t then rvS t else []

section
variable {c : Cx} {A : Around} {h hb : Heap} {env : Env}

/-- what the walk asks of the five tails -/
structure TailsOk (tv : Nat → List Str) : Prop where
  len : ∀ i, i < 5 → (tv i).length ≤ 3
  last : ∀ i, i < 5 → (tv i).getLast?.isSome = true
  joinH : ∀ i : Nat, i < 5 → JoinOk "." ([Txt.mul "s" ((i : Int) + 1)] ++ tv i) = true
  joinR : ∀ i, i < 5 → ∀ k, k < (tv i).length → JoinOk "." ((tv i).drop k) = true ∧ (Txt.join "." ((tv i).drop k)).length ≤ 1000
  up : ∀ i, i < 5 → okUp 10 (hvS tv i) = true ∧ ladder 10 (hvS tv i) = uvS (tv i)
  hostU : ∀ i : Nat, i < 5 → (hvS tv i).length ≤ 1000 ∧ okL (Txt.upper (hvS tv i)) = true ∧ okL (hvS tv i) = true ∧ udmF (Txt.upper (hvS tv i)) (hvS tv i) = true
  ush : ∀ i, i < 5 → PyData.canLayAll0 ((uvS (tv i)).map PyData.str) = true
  rule : ∀ i, i < 5 → ∀ r ∈ rvS (tv i), okL r = true
  told : ∀ i j, i < j → j < 5 → ∀ r ∈ rvS (tv i), udmF (Txt.upper (hvS tv j)) r = (uvS (tv j)).any (· == r)

set_option maxHeartbeats 4000000 in
theorem tree_tails {n tr : Nat} {N L : Addr} {vsN vsL : Array Value} {nf : Nat → Int} {tv : Nat → List Str} {vnum : Value} {okn : Addr → Prop} {tt : Tok} {Q : Flow → Heap → Prop} (G : Gd hb) (R : Room (n + 4) A) (F : Frm hb env h)
    (hk : ∀ x, env.kindOf x = (fsc 14).names.lookup x) (hc : ∀ x, (fsc 14).names.lookup x = some .cell → (env.cells.lookup x).isSome = true)
    (htr : tr < 2) (htv : ∀ i, i < 5 → tailF (((nf i).fdiv (36 ^ tr)).fmod 36) = tv i)
    (vn : Var env h "numbers" vnum) (dn : Dat okn h vnum (.list (R5.map fun i => .int (nf i)))) (vt : Var env h "tree" (.int (tr : Int) tt)) (pN : h.PlainList N vsN) (pL : h.PlainList L vsL)
    (rest : ∀ h' v, Frm hb env h' → Var env h' "tails" v → Dat (okT N L) h' v (.list (R5.map fun i => eLS (tv i))) → Upd env h h' "tails" → KeepH h h' → W c A (execs (tb.drop 1) env) h' Q) :
    W c A (execs tb env) h Q := by
  refine ex_cons (ex_set (ev_compL (okT N L) R5 (fun i => .int (nf i)) (fun _ => true) (fun i => eLS (tv i)) F (by kernel_rfl) (free_def hk hc (by kernel_rfl)) (fun i => by simp [eLS, flat, scal]) ?_) (sw_cell (by walk_at "mkind")))
  refine ev_name F vn ⟨.refl _, it_dat R.hand (xs := R5) dn fun I h2 St k2 It st => ⟨_, ⟨I, St, rfl, k2, It, st, by simp [R5]⟩, ?_, ?_⟩⟩
  · intro cenv CE i v hh hi dv kk F'
    obtain ⟨tx, rfl⟩ := dv.int_inv
    have hi5 := r5_mem hi
    refine as_nameK CE F' (.inl (by kernel_rfl)) fun h3 F3 O3 V3 U3 K3 => ⟨F3, O3, te_nil ⟨.refl _, rfl, fun _ => ?_⟩⟩
    have vt3 : Var cenv h3 "tree" (.int (tr : Int) tt) := U3.var (by decide +kernel) (CE.fre _ _ _ (by kernel_rfl) (kk.var vt))
    refine ev_def F3 G.g_tail G.f_tail (CE.glo _ (by kernel_rfl)) (ar_cons (ev_bin (ev_bin (ev_name F3 V3 (ev_bin (ev_int fun _ => ev_name F3 vt3 (op_pow (by omega) ?_ fun _ => op_fdiv ?_ ?_ fun _ => ev_int fun _ => op_mod (by decide) fun _ => ar_nil ⟨.refl _, ?_⟩)))))))
    · have : tr = 0 ∨ tr = 1 := by omega
      rcases this with rfl | rfl <;> decide
    · have : tr = 0 ∨ tr = 1 := by omega
      rcases this with rfl | rfl <;> decide
    · have : tr = 0 ∨ tr = 1 := by omega
      rcases this with rfl | rfl <;> decide
    refine W.mono (tail_c (F3.keep.gd G) (R.less (m := 1) (by omega))) ?_
    rintro _ h4 ⟨k4, a, vs, rfl, na, p, S⟩
    have e : tailF (((nf i).fdiv (36 ^ (tr : Int).toNat)).fmod 36) = tv i := htv i hi5
    rw [e] at S
    exact ⟨k4, .list ⟨pl_fresh_ne (K3.pl (kk.pl pN)) na, pl_fresh_ne (K3.pl (kk.pl pL)) na⟩ p (DatAll.of_strs S), fun T eT => by cases eT; exact .inl na⟩
  · intro D ys h5 k5 n5 p5 d5
    refine st_name (k5.frm F) (.inr ⟨(hk _).trans (by kernel_rfl), hc _ (by kernel_rfl)⟩) fun h6 F6 V6 U6 K6 => ?_
    exact rest h6 _ F6 V6 (.list ⟨pl_fresh_ne pN n5, pl_fresh_ne pL n5⟩ (K6.pl p5) (DatAll.keepH K6 d5)) (fun y u hy hv => U6 y u hy (k5.var hv)) (k5.hard.trans K6)
end

open PySem PySem.W PyProof.Rows
section
variable {c : Cx} {A : Around} {h hb : Heap} {env : Env}

theorem mul_ok {i : Nat} (hi : i < 5) : MulOk "s" ((i : Int) + 1) := by
  have : i = 0 ∨ i = 1 ∨ i = 2 ∨ i = 3 ∨ i = 4 := by omega
  rcases this with rfl | rfl | rfl | rfl | rfl <;> exact ⟨by decide, by decide, by decide⟩
theorem none_keep {a b : Heap} (k : Keep a b) {x : Addr} (e : b.get? x = none) : a.get? x = none := by
  cases q : a.get? x with
  | none => rfl
  | some o => rw [k x o q] at e; cases e

set_option maxHeartbeats 4000000 in
theorem tree_hosts {n : Nat} {tv : Nat → List Str} {vt : Value} {okt : Addr → Prop} {Q : Flow → Heap → Prop} (G : Gd hb) (R : Room (n + 4) A) (F : Frm hb env h)
    (hk : ∀ x, env.kindOf x = (fsc 14).names.lookup x) (hc : ∀ x, (fsc 14).names.lookup x = some .cell → (env.cells.lookup x).isSome = true) (T : TailsOk tv)
    (vT : Var env h "tails" vt) (dT : Dat okt h vt (.list (R5.map fun i => eLS (tv i))))
    (rest : ∀ h' v, Frm hb env h' → Var env h' "hosts" v → Dat (fun _ => True) h' v (.list (R5.map fun i => .str (hvS tv i))) → Upd env h h' "hosts" → KeepH h h' → W c A (execs (tb.drop 2) env) h' Q) :
    W c A (execs (tb.drop 1) env) h Q := by
  have hsz : sizeLine = 2 ^ 24 := rfl
  refine ex_cons (ex_set (ev_compL (fun _ => True) R5 (fun i => .int (i : Int)) (fun _ => true) (fun i => .str (hvS tv i)) F (by kernel_rfl) (free_def hk hc (by kernel_rfl)) (fun i => rfl) ?_) (sw_cell (by walk_at "mkind")))
  refine ev_call (ev_glob F G.g_range (by walk_at "mkind") (cw_ty (ar_cons (ev_int fun _ => ar_nil (ca_range (n := 5) fun h1 r1 _ _ k1 x1 => ⟨k1, it_nats (ok := fun _ => True) R.hand (range_of x1) (by omega) fun I h2 St k2 It st => ⟨_, ⟨I, St, rfl, k2, It, st, by simp [R5]⟩, ?_, ?_⟩⟩)))))
  · intro cenv CE i v hh hi dv kk F'
    obtain ⟨tx, rfl⟩ := dv.int_inv
    have hi5 := r5_mem hi
    refine as_nameK CE F' (.inl (by kernel_rfl)) fun h3 F3 O3 V3 U3 K3 => ⟨F3, O3, te_nil ⟨.refl _, rfl, fun _ => ?_⟩⟩
    have vT3 : Var cenv h3 "tails" vt := U3.var (by decide +kernel) (CE.fre _ _ _ (by kernel_rfl) (kk.var (k1.var vT)))
    have dT3 := K3.dat (kk.dat (k1.dat dT))
    obtain ⟨at3, _, rfl, _, _, _⟩ := id dT3.list_inv
    refine ev_meth (ev_str fun _ => gm_str PySem.F.slot_str_join PySem.F.type_str_join (cw_bi (ar_cons ?_)))
    refine ev_bin (ev_listP (ar_cons ?_))
    refine ev_bin (ev_str fun _ => ev_bin (ev_name F3 V3 (ev_int fun _ => op_add fun _ => op_muls (mul_ok hi5) fun _ => ar_nil ⟨by simp [hsz], fun h4 a4 k4 _ p4 => ?_⟩)))
    refine ev_sub (ev_name (k4.frm F3) (k4.var vT3) (ev_name (k4.frm F3) (k4.var V3) (sub_dat (k4.dat dT3) (r5_at (fun i => eLS (tv i)) hi5) (by omega) fun w dw => ?_)))
    obtain ⟨b, vs, rfl, _, p, r⟩ := dw.list_inv
    have S := r.strs
    have l1 := S.length
    have l2 := T.len i hi5
    refine op_addl p4.isList p.isList (by simp; omega) fun h5 a5 k5 _ p5 => ar_nil (ca_join p5.isList (.cons _ _ S) (T.joinH i hi5) fun _ => ⟨k4.trans k5, .str _ _, fun _ e => by cases e⟩)
  · intro D ys h5 k5 n5 p5 d5
    refine st_name (k5.frm (k1.frm F)) (.inr ⟨(hk _).trans (by kernel_rfl), hc _ (by kernel_rfl)⟩) fun h6 F6 V6 U6 K6 => ?_
    exact rest h6 _ F6 V6 (.list trivial (K6.pl p5) (DatAll.keepH K6 d5)) (fun y u hy hv => U6 y u hy (k5.var (k1.var hv))) ((k1.trans k5).hard.trans K6)
end

open PySem PySem.W PyProof.Rows
section
variable {c : Cx} {A : Around} {h hb : Heap} {env : Env}

theorem rv_data (t : List Str) : ((List.range' 0 t.length).filter fun _ => true).map (fun k => PyData.str (Str.ofString "." ++ Txt.join "." (t.drop k))) = (rvS t).map PyData.str := by
  unfold rvS
  rw [List.map_map]
  congr 1
  simp

set_option maxHeartbeats 4000000 in
theorem tree_rules {n : Nat} {tv : Nat → List Str} {vt : Value} {okt : Addr → Prop} {Q : Flow → Heap → Prop} (G : Gd hb) (R : Room (n + 4) A) (F : Frm hb env h)
    (hk : ∀ x, env.kindOf x = (fsc 14).names.lookup x) (hc : ∀ x, (fsc 14).names.lookup x = some .cell → (env.cells.lookup x).isSome = true) (T : TailsOk tv)
    (vT : Var env h "tails" vt) (dT : Dat okt h vt (.list (R5.map fun i => eLS (tv i))))
    (rest : ∀ h' v, Frm hb env h' → Var env h' "rules" v → Dat (fun _ => True) h' v (.list (R5.map fun i => eLS (rvS (tv i)))) → Upd env h h' "rules" → KeepH h h' → W c A (execs (tb.drop 3) env) h' Q) :
    W c A (execs (tb.drop 2) env) h Q := by
  have hsz : sizeLine = 2 ^ 24 := rfl
  refine ex_cons (ex_set (ev_compL (fun _ => True) R5 (fun i => eLS (tv i)) (fun _ => true) (fun i => eLS (rvS (tv i))) F (by kernel_rfl) (free_none (by kernel_rfl)) (fun i => by simp [eLS, flat, scal]) ?_) (sw_cell (by walk_at "mkind")))
  refine ev_name F vT ⟨.refl _, it_dat R.hand (xs := R5) dT fun I h2 St k2 It st => ⟨_, ⟨I, St, rfl, k2, It, st, by simp [R5]⟩, ?_, ?_⟩⟩
  · intro cenv CE i v hh hi dv kk F'
    have hi5 := r5_mem hi
    have l2 := T.len i hi5
    refine as_nameK CE F' (.inr (by kernel_rfl)) fun h3 F3 O3 V3 U3 K3 => ⟨F3, O3, te_nil ⟨.refl _, rfl, fun _ => ?_⟩⟩
    have dv3 := K3.dat (kk.dat dv)
    obtain ⟨at3, vs3, rfl, _, p3, r3⟩ := id dv3.list_inv
    have S3 := r3.strs
    have l3 := S3.length
    refine ev_compL (fun _ => True) (List.range' 0 (tv i).length) (fun k => .int (k : Int)) (fun _ => true) (fun k => .str (Str.ofString "." ++ Txt.join "." ((tv i).drop k))) F3 (by kernel_rfl) (free_comp CE (by kernel_rfl)) (fun _ => rfl) ?_
    refine ev_call (ev_glob F3 G.g_range (CE.glo _ (by kernel_rfl)) (cw_ty (ar_cons ?_)))
    refine ev_call (ev_glob F3 G.g_len (CE.glo _ (by kernel_rfl)) (cw_bi (ar_cons (ev_name F3 V3 (ar_nil (ca_len p3.isList (by omega) fun _ => ?_))))))
    rw [l3]
    refine ar_nil (ca_range (n := (tv i).length) fun h4 r4 _ _ k4 x4 => ⟨k4, it_nats (ok := fun _ => True) R.hand (range_of x4) (by omega) fun I2 h5 St2 k5 It2 st2 => ⟨_, ⟨I2, St2, rfl, k5, It2, st2, by simp; omega⟩, ?_, ?_⟩⟩)
    · intro cenv2 CE2 k v2 hh2 hkm dv2 kk2 F2'
      obtain ⟨tk, rfl⟩ := dv2.int_inv
      have hkl : k < (tv i).length := by simpa using hkm
      refine as_nameK CE2 F2' (.inl (by kernel_rfl)) fun h6 F6 O6 V6 U6 K6 => ⟨F6, O6, te_nil ⟨.refl _, rfl, fun _ => ?_⟩⟩
      have vt6 : Var cenv2 h6 "tail" (.ref at3) := U6.var (by decide +kernel) (CE2.fre _ _ _ (by kernel_rfl) (kk2.var (k4.var V3)))
      have p6 := K6.pl (kk2.pl (k4.pl p3))
      have J := T.joinR i hi5 k hkl
      refine ev_bin (ev_str fun _ => ev_meth (ev_str fun _ => gm_str PySem.F.slot_str_join PySem.F.type_str_join (cw_bi (ar_cons ?_))))
      refine ev_sub (ev_name F6 vt6 (ev_slo (ev_name F6 V6 ⟨_, _, rfl, fun h7 a7 k7 s7 => sub_lists (k7.pl p6).isList s7 (by simp; omega) fun h8 a8 k8 _ p8 => ?_⟩)))
      have e8 : slicePick vs3.toArray (some (k : Int)) none none = (vs3.drop k).toArray := by
        have := slicePick_from' vs3.toArray k
        simpa using this
      simp only [Option.map] at p8
      rw [e8] at p8
      refine ar_nil (ca_join p8.isList (S3.drop' k) J.1 fun _ => op_adds (by rw [show (Str.ofString ".").length = 1 from by decide]; omega) fun _ => ⟨k7.trans k8, .str _ _, fun _ e => by cases e⟩)
    · intro D ys h9 k9 n9 p9 d9
      rw [rv_data] at d9
      exact ⟨k4.trans k9, .list trivial p9 d9, fun T eT => by cases eT; exact .inl (none_keep k4 n9)⟩
  · intro D ys h5 k5 n5 p5 d5
    refine st_name (k5.frm F) (.inr ⟨(hk _).trans (by kernel_rfl), hc _ (by kernel_rfl)⟩) fun h6 F6 V6 U6 K6 => ?_
    exact rest h6 _ F6 V6 (.list trivial (K6.pl p5) (DatAll.keepH K6 d5)) (fun y u hy hv => U6 y u hy (k5.var hv)) (k5.hard.trans K6)

set_option maxHeartbeats 4000000 in
theorem tree_ups {n : Nat} {N L : Addr} {vsN vsL : Array Value} {tv : Nat → List Str} {vt : Value} {okt : Addr → Prop} {Q : Flow → Heap → Prop} (G : Gd hb) (R : Room (n + 4) A) (F : Frm hb env h)
    (hk : ∀ x, env.kindOf x = (fsc 14).names.lookup x) (hc : ∀ x, (fsc 14).names.lookup x = some .cell → (env.cells.lookup x).isSome = true) (T : TailsOk tv)
    (vT : Var env h "hosts" vt) (dT : Dat okt h vt (.list (R5.map fun i => .str (hvS tv i)))) (pN : h.PlainList N vsN) (pL : h.PlainList L vsL)
    (rest : ∀ h' v, Frm hb env h' → Var env h' "ups" v → Dat (okT N L) h' v (.list (R5.map fun i => eLS (uvS (tv i)))) → Upd env h h' "ups" → KeepH h h' → W c A (execs (tb.drop 4) env) h' Q) :
    W c A (execs (tb.drop 3) env) h Q := by
  refine ex_cons (ex_set (ev_compL (okT N L) R5 (fun i => .str (hvS tv i)) (fun _ => true) (fun i => eLS (uvS (tv i))) F (by kernel_rfl) (free_none (by kernel_rfl)) (fun i => by simp [eLS, flat, scal]) ?_) (sw_cell (by walk_at "mkind")))
  refine ev_name F vT ⟨.refl _, it_dat R.hand (xs := R5) dT fun I h2 St k2 It st => ⟨_, ⟨I, St, rfl, k2, It, st, by simp [R5]⟩, ?_, ?_⟩⟩
  · intro cenv CE i v hh hi dv kk F'
    have hi5 := r5_mem hi
    obtain ⟨tx, rfl⟩ := dv.str_inv
    refine as_nameK CE F' (.inl (by kernel_rfl)) fun h3 F3 O3 V3 U3 K3 => ⟨F3, O3, te_nil ⟨.refl _, rfl, fun _ => ?_⟩⟩
    refine ev_def F3 G.g_up G.f_up (CE.glo _ (by kernel_rfl)) (ar_cons (ev_name F3 V3 (ar_nil ⟨.refl _, ?_⟩)))
    have U := T.up i hi5
    refine W.mono (up_c (F3.keep.gd G) (R.less (m := 3) (by omega)) U.1 (by omega)) ?_
    rintro _ h4 ⟨k4, a, vs, rfl, na, p, S⟩
    rw [U.2] at S
    exact ⟨k4, .list ⟨pl_fresh_ne (K3.pl (kk.pl pN)) na, pl_fresh_ne (K3.pl (kk.pl pL)) na⟩ p (DatAll.of_strs S), fun T eT => by cases eT; exact .inl na⟩
  · intro D ys h5 k5 n5 p5 d5
    refine st_name (k5.frm F) (.inr ⟨(hk _).trans (by kernel_rfl), hc _ (by kernel_rfl)⟩) fun h6 F6 V6 U6 K6 => ?_
    exact rest h6 _ F6 V6 (.list ⟨pl_fresh_ne pN n5, pl_fresh_ne pL n5⟩ (K6.pl p5) (DatAll.keepH K6 d5)) (fun y u hy hv => U6 y u hy (k5.var hv)) (k5.hard.trans K6)
end

open PySem PySem.W PyProof.Rows PySem.SeqAt
section
variable {c : Cx} {A : Around} {h hb : Heap} {env : Env}

theorem depth_strs : ∀ ss : List Str, PyData.depthAll (ss.map PyData.str) ≤ 1
  | [] => by decide
  | s :: r => by
    show max (PyData.depth (.str s)) (PyData.depthAll (r.map PyData.str)) ≤ 1
    exact Nat.max_le.mpr ⟨by simp [PyData.depth], depth_strs r⟩
theorem shaped_strs {f : Nat → List Str} (hf : ∀ i, i < 5 → PyData.canLayAll0 ((f i).map PyData.str) = true) : shaped (.list (R5.map fun i => eLS (f i))) = true := by
  have d : ∀ i, PyData.depth (eLS (f i)) ≤ 2 := fun i => by
    have := depth_strs (f i)
    show PyData.depthAll ((f i).map PyData.str) + 1 ≤ 2
    omega
  have l : ∀ i, i < 5 → PyData.canLay0 (eLS (f i)) = true := fun i hi => hf i hi
  unfold shaped
  rw [Bool.and_eq_true]
  constructor
  · show PyData.canLayAll0 [eLS (f 0), eLS (f 1), eLS (f 2), eLS (f 3), eLS (f 4)] = true
    simp only [PyData.canLayAll0, l 0 (by omega), l 1 (by omega), l 2 (by omega), l 3 (by omega), l 4 (by omega), Bool.and_self]
  · refine decide_eq_true ?_
    show PyData.depthAll [eLS (f 0), eLS (f 1), eLS (f 2), eLS (f 3), eLS (f 4)] + 1 ≤ 64
    simp only [PyData.depthAll]
    have := d 0; have := d 1; have := d 2; have := d 3; have := d 4
    omega

set_option maxHeartbeats 4000000 in
theorem tree_if {n : Nat} {tv : Nat → List Str} {vt vr vu : Value} {okt okr oku : Addr → Prop} {Q : Flow → Heap → Prop} (G : Gd hb) (R : Room (n + 4) A) (F : Frm hb env h)
    (hk : ∀ x, env.kindOf x = (fsc 14).names.lookup x) (hc : ∀ x, (fsc 14).names.lookup x = some .cell → (env.cells.lookup x).isSome = true) (T : TailsOk tv)
    (vT : Var env h "tails" vt) (dT : Dat okt h vt (.list (R5.map fun i => eLS (tv i)))) (vR : Var env h "rules" vr) (dR : Dat okr h vr (.list (R5.map fun i => eLS (rvS (tv i)))))
    (vU : Var env h "ups" vu) (dU : Dat oku h vu (.list (R5.map fun i => eLS (uvS (tv i)))))
    (rest : ∀ h', Keep h h' → W c A (execs (tb.drop 5) env) h' Q) :
    W c A (execs (tb.drop 4) env) h Q := by
  have hsz : sizeLine = 2 ^ 24 := rfl
  refine ex_cons (ex_if (tr_cmp (ev_name F vU ?_)))
  refine ev_compL (fun _ => True) R5 (fun i => .int (i : Int)) (fun _ => true) (fun i => eLS (uvS (tv i))) F (by kernel_rfl) (free_def hk hc (by kernel_rfl)) (fun i => by simp [eLS, flat, scal]) ?_
  refine ev_call (ev_glob F G.g_range (by walk_at "mkind") (cw_ty (ar_cons (ev_int fun _ => ar_nil (ca_range (n := 5) fun h1 r1 _ _ k1 x1 => ⟨k1, it_nats (ok := fun _ => True) R.hand (range_of x1) (by omega) fun I h2 St k2 It st => ⟨_, ⟨I, St, rfl, k2, It, st, by simp [R5]⟩, ?_, ?_⟩⟩)))))
  · intro cenv CE i v hh hi dv kk F'
    obtain ⟨tx, rfl⟩ := dv.int_inv
    have hi5 := r5_mem hi
    refine as_nameK CE F' (.inl (by kernel_rfl)) fun h3 F3 O3 V3 U3 K3 => ⟨F3, O3, te_nil ⟨.refl _, rfl, fun _ => ?_⟩⟩
    have vT3 : Var cenv h3 "tails" vt := U3.var (by decide +kernel) (CE.fre _ _ _ (by kernel_rfl) (kk.var (k1.var vT)))
    have vR3 : Var cenv h3 "rules" vr := U3.var (by decide +kernel) (CE.fre _ _ _ (by kernel_rfl) (kk.var (k1.var vR)))
    have dT3 := K3.dat (kk.dat (k1.dat dT))
    have dR3 := K3.dat (kk.dat (k1.dat dR))
    obtain ⟨at3, _, rfl, _, _, _⟩ := id dT3.list_inv
    obtain ⟨ar3, _, rfl, _, _, _⟩ := id dR3.list_inv
    refine ev_ifexp (tr_cmp (ev_sub (ev_sub (ev_name F3 vT3 (ev_name F3 V3 (sub_dat dT3 (r5_at (fun i => eLS (tv i)) hi5) (by omega) fun w dw => ?_))))))
    obtain ⟨b, vs, rfl, _, p, r⟩ := dw.list_inv
    have l1 := r.length
    rw [List.length_map] at l1
    have l2 := T.len i hi5
    obtain ⟨x, hx⟩ := Option.isSome_iff_exists.mp (T.last i hi5)
    have hx' : (tv i)[(tv i).length - 1]? = some x := by rw [← List.getLast?_eq_getElem?]; exact hx
    have hpos : 0 < (tv i).length := by
      rcases Nat.eq_zero_or_pos (tv i).length with e | e
      · rw [List.length_eq_zero_iff.mp e] at hx; cases hx
      · exact e
    obtain ⟨w, e1, dw1⟩ := r.at ((tv i).length - 1) (.str x) (by rw [List.getElem?_map, hx']; rfl)
    obtain ⟨tw, rfl⟩ := dw1.str_inv
    refine ev_unary (ev_int fun _ => op_neg fun _ => sub_list_neg p.isList (by decide) (by simp; omega) (by decide) (v := .str x tw) ?_ ?_)
    · have : (-1 + ((vs.toArray.size : Nat) : Int)).toNat = (tv i).length - 1 := by simp; omega
      rw [this]; simpa using e1
    refine ev_str fun _ => cm_eqs (tr_bool ?_)
    have hloc : locS (tv i) = eqS x "local" := by unfold locS; rw [hx]
    show if eqS x "local" = true then _ else _
    by_cases hq : eqS x "local" = true
    · rw [if_pos hq]
      obtain ⟨_, vsr, er, _, pr, rr⟩ := (k1.dat dR).list_inv
      cases er
      obtain ⟨w2, e2, d2⟩ := rr.at i _ (r5_at (fun i => eLS (rvS (tv i))) hi5)
      refine ev_sub (ev_name F3 vR3 (ev_name F3 V3 (sub_list (K3.pl (kk.pl pr)).isList (by omega) (by omega) (by simpa using e2) ?_)))
      have e : uvS (tv i) = rvS (tv i) := by unfold uvS; rw [if_pos (by rw [hloc]; exact hq)]
      refine ⟨.refl _, ?_, fun T eT => .inr ?_⟩
      · show Dat (fun _ => True) h3 w2 (eLS (uvS (tv i)))
        rw [e]; exact (K3.dat (kk.dat d2)).weak fun _ _ => trivial
      · obtain ⟨o, eo, _⟩ := d2.hard T eT
        exact ⟨o, eo⟩
    · rw [if_neg hq]
      have e : uvS (tv i) = [] := by unfold uvS; rw [if_neg (by rw [hloc]; exact hq)]
      refine ev_listP (ar_nil ⟨by simp [hsz], fun h4 a4 k4 n4 p4 => ⟨k4, (by show Dat (fun _ => True) h4 (.ref a4) (eLS (uvS (tv i))); rw [e]; exact .list trivial p4 .nil), fun T eT => by cases eT; exact .inl n4⟩⟩)
  · intro D ys h5 k5 n5 p5 d5
    have kk := k1.trans k5
    refine cm_nesame (kk.dat dU) (.list (ok := fun _ => True) trivial p5 d5) (shaped_strs T.ush) (by have := R.units; omega) (tr_bool ?_)
    exact ex_nil (rest h5 kk)
end

open PySem PySem.W PyProof.Rows PySem.SeqAt
def nb : List Stmt := match tb[6]? with | some (PySem.Stmt.For _ _ b _ _) => b | _ => []
def toldB (tv : Nat → List Str) (i j : Nat) : List Bool := (rvS (tv i)).map fun r => (uvS (tv j)).any (· == r)
def cntS (tv : Nat → List Str) (i j : Nat) : Nat := (rvS (tv i)).countP fun r => (uvS (tv j)).any (· == r)
def rowS5 (tv : Nat → List Str) (i : Nat) : List Int := List.replicate (i + 1) 0 ++ (List.range' (i + 1) (4 - i)).map fun j => (cntS tv i j : Int)
def eLB (bs : List Bool) : PyData := .list (bs.map .bool)

section
variable {c : Cx} {A : Around} {h h' hb : Heap} {env : Env}

theorem KH.pl {L : List Addr} (k : KH L h h') {a : Addr} (ha : a ∉ L) {vs : Array Value} (x : h.PlainList a vs) : h'.PlainList a vs := by
  obtain ⟨n, e⟩ := x; exact ⟨n, k _ _ ⟨fun _ _ => by simp, fun _ => by simp⟩ ha e⟩
theorem KH.dat {L : List Addr} {ok : Addr → Prop} (k : KH L h h') (ha : ∀ a, ok a → a ∉ L) {v : Value} {d : PyData} (x : Dat ok h v d) : Dat ok h' v d := x.tr fun _ _ o p => ⟨o, k.pl (ha _ o) p⟩
theorem block_of (F : Frm hb env h) : env.blockKind = .function := by unfold Env.blockKind; rw [F.kind]; rfl

theorem canLay_bools : ∀ bs : List Bool, PyData.canLayAll0 (bs.map PyData.bool) = true
  | [] => rfl
  | b :: r => by show (PyData.canLay0 (.bool b) && PyData.canLayAll0 (r.map PyData.bool)) = true; rw [canLay_bools r]; rfl
theorem depth_bools : ∀ ss : List Bool, PyData.depthAll (ss.map PyData.bool) ≤ 1
  | [] => by decide
  | s :: r => by
    show max (PyData.depth (.bool s)) (PyData.depthAll (r.map PyData.bool)) ≤ 1
    exact Nat.max_le.mpr ⟨by simp [PyData.depth], depth_bools r⟩
theorem shaped_bools (xs : List Nat) (B : Nat → List Bool) : shaped (.list (xs.map fun j => eLB (B j))) = true := by
  unfold shaped
  rw [Bool.and_eq_true]
  constructor
  · show PyData.canLayAll0 (xs.map fun j => eLB (B j)) = true
    induction xs with
    | nil => rfl
    | cons x r ih => show (PyData.canLayAll0 ((B x).map PyData.bool) && PyData.canLayAll0 (r.map fun j => eLB (B j))) = true; rw [ih, canLay_bools]; rfl
  · refine decide_eq_true ?_
    have : PyData.depthAll (xs.map fun j => eLB (B j)) ≤ 2 := by
      induction xs with
      | nil => simp [PyData.depthAll]
      | cons x r ih =>
        show max (PyData.depthAll ((B x).map PyData.bool) + 1) (PyData.depthAll (r.map fun j => eLB (B j))) ≤ 2
        have := depth_bools (B x)
        exact Nat.max_le.mpr ⟨by omega, ih⟩
    show PyData.depthAll (xs.map fun j => eLB (B j)) + 1 ≤ 64
    omega
theorem filt {α β : Type} (xs : List α) (g : α → β) : (xs.filter fun _ => true).map g = xs.map g := by congr 1; simp

set_option maxHeartbeats 8000000 in
theorem near_told {n i : Nat} {tv : Nat → List Str} {vh vr : Value} {okh okr : Addr → Prop} {ti : Tok} {Q : Flow → Heap → Prop} (G : Gd hb) (R : Room (n + 4) A) (F : Frm hb env h)
    (hk : ∀ x, env.kindOf x = (fsc 14).names.lookup x) (hc : ∀ x, (fsc 14).names.lookup x = some .cell → (env.cells.lookup x).isSome = true) (T : TailsOk tv) (hi : i < 5)
    (vI : Var env h "i" (.int (i : Int) ti)) (vH : Var env h "hosts" vh) (dH : Dat okh h vh (.list (R5.map fun i => .str (hvS tv i)))) (vR : Var env h "rules" vr) (dR : Dat okr h vr (.list (R5.map fun i => eLS (rvS (tv i)))))
    (rest : ∀ h' v, Frm hb env h' → Var env h' "told" v → Dat (fun _ => True) h' v (.list ((List.range' (i + 1) (4 - i)).map fun j => eLB (toldB tv i j))) → Upd env h h' "told" → KeepH h h' → W c A (execs (nb.drop 1) env) h' Q) :
    W c A (execs nb env) h Q := by
  refine ex_cons (ex_compL (fun _ => True) (List.range' (i + 1) (4 - i)) (fun j => .int (j : Int)) (fun _ => true) (fun j => eLB (toldB tv i j)) F (by kernel_rfl) (free_def hk hc (by kernel_rfl)) (fun j => by simp [eLB, flat, scal]) (by walk_at "mkind") (sw_loc (block_of F) (by walk_at "mkind") (by kernel_rfl) (by kernel_rfl)) ?_)
  refine ev_call (ev_glob F G.g_range (by walk_at "mkind") (cw_ty (ar_cons ?_)))
  refine ev_bin (ev_name F vI (ev_int fun _ => op_add fun _ => ar_cons (ev_int fun _ => ar_nil (ca_range2 fun h1 r1 _ k1 x1 => ⟨k1, ?_⟩))))
  have e1 : (i : Int) + 1 = ((i + 1 : Nat) : Int) := by push_cast; rfl
  have e2 : (5 : Int) = (((i + 1) + (4 - i) : Nat) : Int) := by omega
  rw [e1, e2] at x1
  refine it_nats (ok := fun _ => True) R.hand x1 (by omega) fun I h2 St k2 It st => ⟨_, ⟨I, St, rfl, k2, It, st, by simp; omega⟩, ?_, ?_⟩
  · intro cenv CE j v hh hj dv kk F'
    obtain ⟨tx, rfl⟩ := dv.int_inv
    have hj2 : i < j ∧ j < 5 := by simp at hj; omega
    refine as_nameK CE F' (.inr (by kernel_rfl)) fun h3 F3 O3 V3 U3 K3 => ⟨F3, O3, te_nil ⟨.refl _, rfl, fun _ => ?_⟩⟩
    have vI3 : Var cenv h3 "i" (.int (i : Int) ti) := U3.var (by decide +kernel) (CE.fre _ _ _ (by kernel_rfl) (kk.var (k1.var vI)))
    have vH3 : Var cenv h3 "hosts" vh := U3.var (by decide +kernel) (CE.fre _ _ _ (by kernel_rfl) (kk.var (k1.var vH)))
    have vR3 : Var cenv h3 "rules" vr := U3.var (by decide +kernel) (CE.fre _ _ _ (by kernel_rfl) (kk.var (k1.var vR)))
    have dH3 := K3.dat (kk.dat (k1.dat dH))
    have dR3 := K3.dat (kk.dat (k1.dat dR))
    obtain ⟨ah, _, rfl, _, _, _⟩ := id dH3.list_inv
    obtain ⟨ar, _, rfl, _, _, _⟩ := id dR3.list_inv
    have l2 := T.len i hi
    refine ev_compL (fun _ => True) (rvS (tv i)) PyData.str (fun _ => true) (fun r => .bool ((uvS (tv j)).any (· == r))) F3 (by kernel_rfl) (free_comp CE (by kernel_rfl)) (fun _ => rfl) ?_
    refine ev_sub (ev_name F3 vR3 (ev_name F3 vI3 (sub_dat dR3 (r5_at (fun i => eLS (rvS (tv i))) hi) (by omega) fun w dw => ⟨.refl _, it_dat R.hand (xs := rvS (tv i)) (e := PyData.str) dw fun I2 h4 St2 k4 It2 st2 => ⟨_, ⟨I2, St2, rfl, k4, It2, st2, by simp [rvS]; omega⟩, ?_, ?_⟩⟩)))
    · intro cenv2 CE2 r v2 hh2 hr dv2 kk2 F2'
      obtain ⟨tr, rfl⟩ := dv2.str_inv
      refine as_nameK CE2 F2' (.inl (by kernel_rfl)) fun h5 F5 O5 V5 U5 K5 => ⟨F5, O5, te_nil ⟨.refl _, rfl, fun _ => ?_⟩⟩
      have vJ5 : Var cenv2 h5 "j" (.int (j : Int) tx) := U5.var (by decide +kernel) (CE2.fre _ _ _ (by kernel_rfl) (kk2.var V3))
      have vH5 : Var cenv2 h5 "hosts" (.ref ah) := U5.var (by decide +kernel) (CE2.fre _ _ _ (by kernel_rfl) (kk2.var vH3))
      refine ev_def F5 G.g_udm G.f_udm (CE2.glo _ (by kernel_rfl)) (ar_cons ?_)
      have hu := T.hostU j hj2.2
      refine ev_meth (ev_sub (ev_name F5 vH5 (ev_name F5 vJ5 (sub_dat (K5.dat (kk2.dat dH3)) (r5_at (fun i => PyData.str (hvS tv i)) hj2.2) (by omega) fun w2 dw2 => ?_))))
      obtain ⟨tw, rfl⟩ := dw2.str_inv
      refine gm_str PySem.F.slot_str_upper PySem.F.type_str_upper (cw_bi0 (ca_upper (by have := hu.1; omega) fun _ => ar_cons (ev_name F5 V5 (ar_nil ⟨.refl _, ?_⟩))))
      refine W.mono (udm_c (F5.keep.gd G) (R.less (m := 2) (by omega)) hu.2.1 (T.rule i hi r hr)) ?_
      rintro _ h6 ⟨k6, rfl⟩
      rw [T.told i j hj2.1 hj2.2 r hr]
      exact ⟨k6, .bool _, fun _ e => by cases e⟩
    · intro D ys h7 k7 n7 p7 d7
      rw [filt] at d7
      refine ⟨k7, .list trivial p7 ?_, fun T eT => by cases eT; exact .inl n7⟩
      unfold toldB
      rw [List.map_map]; exact d7
  · intro D ys h8 F8 V8 U8 K8 n8 p8 d8
    rw [filt] at d8
    exact rest h8 _ F8 V8 (.list trivial p8 d8) (fun y u hy hv => U8 y u hy (k1.var hv)) (k1.hard.trans K8)
end

open PySem PySem.W PyProof.Rows PySem.SeqAt
section
variable {c : Cx} {A : Around} {h h' hb : Heap} {env : Env}

theorem count_told (tv : Nat → List Str) (i j : Nat) : (toldB tv i j).countP (· == true) = cntS tv i j := by
  unfold toldB cntS
  rw [List.countP_map]
  congr 1
  funext r
  simp

set_option maxHeartbeats 8000000 in
theorem near_if {n i : Nat} {tv : Nat → List Str} {vr vu vt : Value} {okr oku okt : Addr → Prop} {ti : Tok} {Q : Flow → Heap → Prop} (G : Gd hb) (R : Room (n + 4) A) (F : Frm hb env h)
    (hk : ∀ x, env.kindOf x = (fsc 14).names.lookup x) (hc : ∀ x, (fsc 14).names.lookup x = some .cell → (env.cells.lookup x).isSome = true) (T : TailsOk tv) (hi : i < 5)
    (vI : Var env h "i" (.int (i : Int) ti)) (vR : Var env h "rules" vr) (dR : Dat okr h vr (.list (R5.map fun i => eLS (rvS (tv i))))) (vU : Var env h "ups" vu) (dU : Dat oku h vu (.list (R5.map fun i => eLS (uvS (tv i)))))
    (vT : Var env h "told" vt) (dT : Dat okt h vt (.list ((List.range' (i + 1) (4 - i)).map fun j => eLB (toldB tv i j))))
    (rest : ∀ h', Keep h h' → W c A (execs (nb.drop 2) env) h' Q) :
    W c A (execs (nb.drop 1) env) h Q := by
  refine ex_cons (ex_if (tr_cmp (ev_name F vT ?_)))
  refine ev_compL (fun _ => True) (List.range' (i + 1) (4 - i)) (fun j => .int (j : Int)) (fun _ => true) (fun j => eLB (toldB tv i j)) F (by kernel_rfl) (free_def hk hc (by kernel_rfl)) (fun j => by simp [eLB, flat, scal]) ?_
  refine ev_call (ev_glob F G.g_range (by walk_at "mkind") (cw_ty (ar_cons ?_)))
  refine ev_bin (ev_name F vI (ev_int fun _ => op_add fun _ => ar_cons (ev_int fun _ => ar_nil (ca_range2 fun h1 r1 _ k1 x1 => ⟨k1, ?_⟩))))
  have e1 : (i : Int) + 1 = ((i + 1 : Nat) : Int) := by push_cast; rfl
  have e2 : (5 : Int) = (((i + 1) + (4 - i) : Nat) : Int) := by omega
  rw [e1, e2] at x1
  refine it_nats (ok := fun _ => True) R.hand x1 (by omega) fun I h2 St k2 It st => ⟨_, ⟨I, St, rfl, k2, It, st, by simp; omega⟩, ?_, ?_⟩
  · intro cenv CE j v hh hj dv kk F'
    obtain ⟨tx, rfl⟩ := dv.int_inv
    have hj2 : i < j ∧ j < 5 := by simp at hj; omega
    refine as_nameK CE F' (.inr (by kernel_rfl)) fun h3 F3 O3 V3 U3 K3 => ⟨F3, O3, te_nil ⟨.refl _, rfl, fun _ => ?_⟩⟩
    have vI3 : Var cenv h3 "i" (.int (i : Int) ti) := U3.var (by decide +kernel) (CE.fre _ _ _ (by kernel_rfl) (kk.var (k1.var vI)))
    have vU3 : Var cenv h3 "ups" vu := U3.var (by decide +kernel) (CE.fre _ _ _ (by kernel_rfl) (kk.var (k1.var vU)))
    have vR3 : Var cenv h3 "rules" vr := U3.var (by decide +kernel) (CE.fre _ _ _ (by kernel_rfl) (kk.var (k1.var vR)))
    have dU3 := K3.dat (kk.dat (k1.dat dU))
    have dR3 := K3.dat (kk.dat (k1.dat dR))
    obtain ⟨au, _, rfl, _, _, _⟩ := id dU3.list_inv
    obtain ⟨ar, _, rfl, _, _, _⟩ := id dR3.list_inv
    have l2 := T.len i hi
    refine ev_compL (fun _ => True) (rvS (tv i)) PyData.str (fun _ => true) (fun r => .bool ((uvS (tv j)).any (· == r))) F3 (by kernel_rfl) (free_comp CE (by kernel_rfl)) (fun _ => rfl) ?_
    refine ev_sub (ev_name F3 vR3 (ev_name F3 vI3 (sub_dat dR3 (r5_at (fun i => eLS (rvS (tv i))) hi) (by omega) fun w dw => ⟨.refl _, it_dat R.hand (xs := rvS (tv i)) (e := PyData.str) dw fun I2 h4 St2 k4 It2 st2 => ⟨_, ⟨I2, St2, rfl, k4, It2, st2, by simp [rvS]; omega⟩, ?_, ?_⟩⟩)))
    · intro cenv2 CE2 r v2 hh2 hr dv2 kk2 F2'
      obtain ⟨tr, rfl⟩ := dv2.str_inv
      refine as_nameK CE2 F2' (.inl (by kernel_rfl)) fun h5 F5 O5 V5 U5 K5 => ⟨F5, O5, te_nil ⟨.refl _, rfl, fun _ => ?_⟩⟩
      have vJ5 : Var cenv2 h5 "j" (.int (j : Int) tx) := U5.var (by decide +kernel) (CE2.fre _ _ _ (by kernel_rfl) (kk2.var V3))
      have vU5 : Var cenv2 h5 "ups" (.ref au) := U5.var (by decide +kernel) (CE2.fre _ _ _ (by kernel_rfl) (kk2.var vU3))
      refine ev_cmp (ev_name F5 V5 (ev_sub (ev_name F5 vU5 (ev_name F5 vJ5 (sub_dat (K5.dat (kk2.dat dU3)) (r5_at (fun i => eLS (uvS (tv i))) hj2.2) (by omega) fun w2 dw2 => ?_)))))
      obtain ⟨b2, vs2, rfl, _, p2, r2⟩ := dw2.list_inv
      exact cm_in p2.isList r2.strs ⟨.refl _, .bool _, fun _ e => by cases e⟩
    · intro D ys h7 k7 n7 p7 d7
      rw [filt] at d7
      refine ⟨k7, .list trivial p7 ?_, fun T eT => by cases eT; exact .inl n7⟩
      unfold toldB
      rw [List.map_map]; exact d7
  · intro D ys h8 k8 n8 p8 d8
    rw [filt] at d8
    have kk := k1.trans k8
    refine cm_nesame (kk.dat dT) (.list (ok := fun _ => True) trivial p8 d8) (shaped_bools _ _) (by have := R.units; omega) (tr_bool ?_)
    exact ex_nil (rest h8 kk)

set_option maxHeartbeats 8000000 in
theorem near_end {n i : Nat} {M : Addr} {vsM : List Value} {tv : Nat → List Str} {vh vt : Value} {okh okt : Addr → Prop} {ti : Tok} {Q : Flow → Heap → Prop} (G : Gd hb) (R : Room (n + 4) A) (F : Frm hb env h)
    (hk : ∀ x, env.kindOf x = (fsc 14).names.lookup x) (hc : ∀ x, (fsc 14).names.lookup x = some .cell → (env.cells.lookup x).isSome = true) (T : TailsOk tv) (hi : i < 5)
    (vI : Var env h "i" (.int (i : Int) ti)) (vH : Var env h "hosts" vh) (dH : Dat okh h vh (.list (R5.map fun i => .str (hvS tv i))))
    (vT : Var env h "told" vt) (dT : Dat okt h vt (.list ((List.range' (i + 1) (4 - i)).map fun j => eLB (toldB tv i j)))) (vM : Var env h "near" (.ref M)) (pM : h.PlainList M vsM.toArray) (lM : vsM.length ≤ 100) (hM : hb.get? M = none)
    (rest : ∀ h1 h' a ws, Keep h h1 → KeepB M h1 h' → h.get? a = none → h'.PlainList M (vsM ++ [Value.ref a]).toArray → h1.PlainList a (List.toArray ws) → IntsR ws (rowS5 tv i) → Q .next h') :
    W c A (execs (nb.drop 2) env) h Q := by
  have hsz : sizeLine = 2 ^ 24 := rfl
  obtain ⟨ah, _, rfl, _, _, _⟩ := id dH.list_inv
  have hu := T.hostU i hi
  refine ex_cons (ex_if (tr_cmp ?_))
  refine ev_def F G.g_udm G.f_udm (by walk_at "mkind") (ar_cons ?_)
  refine ev_meth (ev_sub (ev_name F vH (ev_name F vI (sub_dat dH (r5_at (fun i => PyData.str (hvS tv i)) hi) (by omega) fun w2 dw2 => ?_))))
  obtain ⟨tw, rfl⟩ := dw2.str_inv
  refine gm_str PySem.F.slot_str_upper PySem.F.type_str_upper (cw_bi0 (ca_upper (by have := hu.1; omega) fun _ => ar_cons ?_))
  refine ev_sub (ev_name F vH (ev_name F vI (sub_dat dH (r5_at (fun i => PyData.str (hvS tv i)) hi) (by omega) fun w3 dw3 => ?_)))
  obtain ⟨tw3, rfl⟩ := dw3.str_inv
  refine ar_nil ⟨.refl _, W.mono (udm_c (F.keep.gd G) (R.less (m := 2) (by omega)) hu.2.1 hu.2.2.1) ?_⟩
  rintro _ h1 ⟨k1, rfl⟩
  rw [hu.2.2.2]
  refine ev_bool (cm_isnotb (tr_bool (ex_nil ?_)))
  have F1 := k1.frm F
  refine ex_cons (ex_expr (ev_meth (ev_name F1 (k1.var vM) (gm_list (k1.pl pM) PySem.F.slot_list_append PySem.F.type_list_append (cw_bi (ar_cons ?_))))) (inter_of F1))
  refine ev_bin (ev_bin (ev_listP (ar_cons (ev_int fun _ => ar_nil ⟨by simp [hsz], fun h2 a2 k2 _ p2 => ?_⟩))))
  have F2 := k2.frm F1
  refine ev_bin (ev_name F2 (k2.var (k1.var vI)) (ev_int fun _ => op_add fun _ => ?_))
  have e1 : (i : Int) + 1 = ((i + 1 : Nat) : Int) := by push_cast; rfl
  rw [e1]
  refine op_mul1 p2 (by omega) fun h3 a3 k3 _ p3 => ?_
  have F3 := k3.frm F2
  refine ev_compL (fun _ => True) (List.range' (i + 1) (4 - i)) (fun j => eLB (toldB tv i j)) (fun _ => true) (fun j => .int (cntS tv i j : Int)) F3 (by kernel_rfl) (free_none (by kernel_rfl)) (fun _ => rfl) ?_
  refine ev_name F3 (k3.var (k2.var (k1.var vT))) ⟨.refl _, it_dat R.hand (xs := List.range' (i + 1) (4 - i)) (k3.dat (k2.dat (k1.dat dT))) fun I h4 St k4 It st => ⟨_, ⟨I, St, rfl, k4, It, st, by simp; omega⟩, ?_, ?_⟩⟩
  · intro cenv CE j v hh hj dv kk F'
    obtain ⟨b, vs, rfl, _, p, r⟩ := id dv.list_inv
    refine as_nameK CE F' (.inl (by kernel_rfl)) fun h5 F5 O5 V5 U5 K5 => ⟨F5, O5, te_nil ⟨.refl _, rfl, fun _ => ?_⟩⟩
    have p5 := K5.pl (kk.pl p)
    refine ev_meth (ev_name F5 V5 (gm_list p5 PySem.F.slot_list_count PySem.F.type_list_count (cw_bi (ar_cons (ev_bool (ar_nil (ca_countb p5.isList r.bools fun _ => ?_)))))))
    rw [count_told]
    exact ⟨.refl _, .int _ _, fun _ e => by cases e⟩
  · intro D ys h6 k6 n6 p6 d6
    rw [filt] at d6
    have i6 : IntsR ys ((List.range' (i + 1) (4 - i)).map fun j => (cntS tv i j : Int)) := by
      apply DatAll.ints (ok := fun _ => True) (h := h6)
      rw [List.map_map]; exact d6
    have l6 := i6.length
    rw [List.length_map, List.length_range'] at l6
    refine op_addl (k6.pl p3).isList p6.isList (by simp; omega) fun h7 a7 k7 n7 p7 => ar_nil ?_
    have kk : Keep h h7 := k1.trans (k2.trans (k3.trans (k6.trans k7)))
    refine ca_append (kk.pl pM) (by omega) fun h8 p8 k8 => ⟨rfl, ex_nil ?_⟩
    exact rest h7 h8 a7 _ kk k8 (none_keep (k1.trans (k2.trans (k3.trans k6))) n7) p8 p7 ((IntsR.rep _ _ _).append i6)
end

open PySem PySem.W PyProof.Rows PySem.SeqAt
section
variable {c : Cx} {A : Around} {h h' hb : Heap} {env : Env}

theorem as_st {x : Str} {px : Pos} {v : Value} {Q : Unit → Heap → Prop} (hx : W c A (storeName env x v) h Q) : W c A (assign (.Name x px) env v) h Q := .mk fun tk E => wpAny_assign_Name (hx.run tk E)

/-- lists but the one at M stay -/
def KP (M : Addr) (h h' : Heap) : Prop := ∀ a vs, a ≠ M → h.PlainList a vs → h'.PlainList a vs
theorem KP.dat {M : Addr} {ok : Addr → Prop} (k : KP M h h') (ho : ∀ a, ok a → a ≠ M) {v : Value} {d : PyData} (x : Dat ok h v d) : Dat ok h' v d := x.tr fun _ _ o p => ⟨o, k _ _ (ho _ o) p⟩

set_option maxHeartbeats 8000000 in
theorem tree_near {n : Nat} {N L : Addr} {vsN vsL : Array Value} {tv : Nat → List Str} {vh vr vu : Value} {okh okr oku : Addr → Prop} {Q : Flow → Heap → Prop} (G : Gd hb) (R : Room (n + 4) A) (F : Frm hb env h)
    (hk : ∀ x, env.kindOf x = (fsc 14).names.lookup x) (hc : ∀ x, (fsc 14).names.lookup x = some .cell → (env.cells.lookup x).isSome = true) (T : TailsOk tv)
    (pN : h.PlainList N vsN) (pL : h.PlainList L vsL)
    (vH : Var env h "hosts" vh) (dH : Dat okh h vh (.list (R5.map fun i => .str (hvS tv i)))) (vR : Var env h "rules" vr) (dR : Dat okr h vr (.list (R5.map fun i => eLS (rvS (tv i))))) (vU : Var env h "ups" vu) (dU : Dat oku h vu (.list (R5.map fun i => eLS (uvS (tv i)))))
    (rest : ∀ h' M vsM, Frm hb env h' → h.get? M = none → Var env h' "near" (.ref M) → h'.PlainList M vsM → Dat (fun a => okT N L a) h' (.ref M) (.list (R5.map fun k => eLI (rowS5 tv k))) →
      (∀ y u, y ≠ ("told" : Str) → y ≠ ("i" : Str) → y ≠ ("near" : Str) → Var env h y u → Var env h' y u) → KP M h h' → KH [M] h h' → W c A (execs (tb.drop 7) env) h' Q) :
    W c A (execs (tb.drop 5) env) h Q := by
  have hsz : sizeLine = 2 ^ 24 := rfl
  refine ex_cons (ex_set (ev_listP (ar_nil ⟨by simp, fun h1 M k1 n1 p1 => ?_⟩)))
  refine st_name (k1.frm F) (.inr ⟨(hk _).trans (by kernel_rfl), hc _ (by kernel_rfl)⟩) fun h0 F0 vM U0 K0 => ?_
  have hMb : hb.get? M = none := fresh_base F n1
  have pM0 := K0.pl p1
  have pN0 := K0.pl (k1.pl pN)
  have pL0 := K0.pl (k1.pl pL)
  have hNM : N ≠ M := Ne.symm (pl_fresh_ne pN n1)
  have hLM : L ≠ M := Ne.symm (pl_fresh_ne pL n1)
  have dH0 : Dat (fun a => okh a ∧ a ≠ M) h0 vh _ := K0.dat (k1.dat (dH.apart n1))
  have dR0 : Dat (fun a => okr a ∧ a ≠ M) h0 vr _ := K0.dat (k1.dat (dR.apart n1))
  have dU0 : Dat (fun a => oku a ∧ a ≠ M) h0 vu _ := K0.dat (k1.dat (dU.apart n1))
  have vH0 := U0.var (by decide +kernel) (k1.var vH)
  have vR0 := U0.var (by decide +kernel) (k1.var vR)
  have vU0 := U0.var (by decide +kernel) (k1.var vU)
  have ne1 : ("hosts" : Str) ≠ "told" ∧ ("hosts" : Str) ≠ "i" ∧ ("rules" : Str) ≠ "told" ∧ ("rules" : Str) ≠ "i" ∧ ("ups" : Str) ≠ "told" ∧ ("ups" : Str) ≠ "i" ∧ ("near" : Str) ≠ "told" ∧ ("near" : Str) ≠ "i" := by decide +kernel
  refine ex_cons (ex_for2 (L := [M]) (rd := []) F0 (ev_call (ev_glob F0 G.g_range (by walk_at "mkind") (cw_ty (ar_cons (ev_int fun _ => ar_nil (ca_range (n := 5) fun h2 r2 _ _ k2 x2 => ⟨k2, itr_nats (ok := fun _ => True) R.hand (range_of x2) (by omega) fun I h3 St k3 It st => ?_⟩)))))))
  have hIf : h0.get? I = none := none_keep k2 It.fresh
  have khI : ∀ {a b : Heap}, KeepB I a b → KH [M] h0 a → KH [M] h0 b := fun kI K x o ho hn e => kI x o (by rintro rfl; rw [hIf] at e; cases e) (K x o ho hn e)
  refine ⟨I, _, _, St, fun i h' => ∃ vsM, h'.PlainList M (List.toArray vsM) ∧ vsM.length = i ∧ DatAll (fun a => okT N L a ∧ a ≠ M) h' vsM ((List.range' 0 i).map fun k => eLI (rowS5 tv k)) ∧
    (∀ y u, y ≠ ("told" : Str) → y ≠ ("i" : Str) → Var env h0 y u → Var env h' y u) ∧ KP M h0 h' ∧ KH [M] h0 h', rfl, It, k3, st, ?_, (fun b hb => by cases hb), ?_, ?_, ?_⟩
  · intro b hb
    simp only [List.mem_cons, List.not_mem_nil, or_false] at hb
    subst hb
    obtain ⟨m, e⟩ := k2.pl pM0; exact ⟨_, e⟩
  · have kk := k2.trans k3
    exact ⟨[], kk.pl pM0, rfl, .nil, fun y u _ _ hv => kk.var hv, fun a vs _ p => kk.pl p, kk.kh⟩
  · rintro i v h4 h' hi ⟨x, ex, dx⟩ ⟨vsM, pM, lM, aM, VV, KK, KHH⟩ kn kI F4
    have hi5 : i < 5 := by simpa using hi
    have exi : x = i := by simpa [hi5] using ex.symm
    subst exi
    obtain ⟨tx, rfl⟩ := dx.int_inv
    have VV4 : ∀ y u, y ≠ ("told" : Str) → y ≠ ("i" : Str) → Var env h0 y u → Var env h4 y u := fun y u a b hv => kn.var (VV y u a b hv)
    have KK4 : KP M h0 h4 := fun a vs ha p => kn.pl (KK a vs ha p)
    have KH4 : KH [M] h0 h4 := khI kI KHH
    refine as_st (st_name F4 (.inr ⟨(hk _).trans (by kernel_rfl), hc _ (by kernel_rfl)⟩) fun h5 F5 vI U5 K5 => ?_)
    have vH5 := U5.var ne1.2.1 (VV4 _ _ ne1.1 ne1.2.1 vH0)
    have vR5 := U5.var ne1.2.2.2.1 (VV4 _ _ ne1.2.2.1 ne1.2.2.2.1 vR0)
    have vU5 := U5.var ne1.2.2.2.2.2.1 (VV4 _ _ ne1.2.2.2.2.1 ne1.2.2.2.2.2.1 vU0)
    have vM5 := U5.var ne1.2.2.2.2.2.2.2 (VV4 _ _ ne1.2.2.2.2.2.2.1 ne1.2.2.2.2.2.2.2 vM)
    have dH5 := K5.dat (KK4.dat (fun _ o => o.2) dH0)
    have dR5 := K5.dat (KK4.dat (fun _ o => o.2) dR0)
    have dU5 := K5.dat (KK4.dat (fun _ o => o.2) dU0)
    refine near_told G R F5 hk hc T hi5 vI vH5 dH5 vR5 dR5 fun h6 vt F6 vT6 dT6 U6 K6 => ?_
    have neI : ("i" : Str) ≠ "told" := by decide +kernel
    have vI6 := U6.var neI vI
    refine near_if G R F6 hk hc T hi5 vI6 (U6.var ne1.2.2.1 vR5) (K6.dat dR5) (U6.var ne1.2.2.2.2.1 vU5) (K6.dat dU5) vT6 dT6 fun h7 k7 => ?_
    have F7 := k7.frm F6
    have pM7 := k7.pl (K6.pl (K5.pl (kn.pl pM)))
    refine near_end G R F7 hk hc T hi5 (k7.var vI6) (k7.var (U6.var ne1.1 vH5)) (k7.dat (K6.dat dH5)) (k7.var vT6) (k7.dat dT6) (k7.var (U6.var ne1.2.2.2.2.2.2.1 vM5)) pM7 (by omega) hMb fun h8 h9 a ws k8 k9 na p9 pa ia => ?_
    have pN7 := k7.pl (K6.pl (K5.pl (KK4 _ _ hNM pN0)))
    have pL7 := k7.pl (K6.pl (K5.pl (KK4 _ _ hLM pL0)))
    have haN : a ≠ N := pl_fresh_ne pN7 na
    have haL : a ≠ L := pl_fresh_ne pL7 na
    have haM : a ≠ M := pl_fresh_ne pM7 na
    have kh49 : KH [M] h4 h9 := K5.kh.trans (K6.kh.trans (k7.kh.trans (k8.kh.trans (k9.kh List.mem_cons_self))))
    refine ⟨⟨vsM ++ [.ref a], p9, by simp [lM], ?_, fun y u a1 a2 hv => ?_, fun b vs hb p => ?_, KH4.trans kh49⟩, k9.frm (k8.pl pM7) hMb (k8.frm F7), kh49⟩
    · rw [List.range'_concat, List.map_append]
      refine DatAll.append (DatAll.keepB k9 (fun _ o => o.2) (DatAll.keep k8 (DatAll.keep k7 (DatAll.keepH K6 (DatAll.keepH K5 (DatAll.keepN kn aM)))))) (.cons ?_ .nil)
      have e0 : 0 + 1 * x = x := by omega
      rw [e0]
      exact .list ⟨⟨haN, haL⟩, haM⟩ (k9.pl haM pa) (DatAll.of_ints ia)
    · exact k9.var (k8.pl pM7) (k8.var (k7.var (U6.var a1 (U5.var a2 (VV4 y u a1 a2 hv)))))
    · exact k9.pl hb (k8.pl (k7.pl (K6.pl (K5.pl (KK4 b vs hb p)))))
  · rintro h4 h' ⟨vsM, pM, lM, aM, VV, KK, KHH⟩ kn kI F4
    refine rest h4 M _ F4 n1 (kn.var (VV _ _ ne1.2.2.2.2.2.2.1 ne1.2.2.2.2.2.2.2 vM)) (kn.pl pM) (.list ⟨Ne.symm hNM, Ne.symm hLM⟩ (kn.pl pM) ((aM.keepN kn).weak fun _ o => o.1)) ?_ ?_ ?_
    · exact fun y u a1 a2 a3 hv => kn.var (VV y u a1 a2 (U0.var a3 (k1.var hv)))
    · exact fun a vs ha p => kn.pl (KK a vs ha (K0.pl (k1.pl p)))
    · exact k1.kh.trans (K0.kh.trans (khI kI KHH))
end

open PySem PySem.W PyProof.Rows PySem.SeqAt
section
variable {c : Cx} {A : Around} {h h' hb : Heap} {env : Env}

theorem mem_threes {d : PyData} (hd : d ∈ threesD) : ∃ i j k, i < j ∧ j < k ∧ k < 5 ∧ d = threeD i j k := by
  simp only [threesD, List.mem_flatMap, List.mem_cons, List.not_mem_nil, or_false] at hd
  obtain ⟨k, hk, j, hj, i, hi, rfl⟩ := hd
  simp at hk hj hi
  exact ⟨i, j, k, hi, hj, hk, rfl⟩
theorem row_at5 (tv : Nat → List Str) {i j : Nat} (hij : i < j) (hj : j < 5) : (rowS5 tv i)[j]? = some (cntS tv i j : Int) := by
  unfold rowS5
  rw [List.getElem?_append_right (by simp; omega), List.length_replicate, List.getElem?_map, List.getElem?_range' (by omega)]
  have e : i + 1 + 1 * (j - (i + 1)) = j := by omega
  rw [e]; rfl

/-- what _law_alone asks -/
def AloneT (tv : Nat → List Str) : Prop := ∀ i j k, i < j → j < k → k < 5 →
  aloneOk ((((uvS (tv i) ++ uvS (tv j)) ++ uvS (tv k)).length : Int) - ((dd ((uvS (tv i) ++ uvS (tv j)) ++ uvS (tv k))).length : Int)) (((uvS (tv i)).filter fun x => (uvS (tv j)).any (· == x) && (uvS (tv k)).any (· == x)).length : Int)
    (cntS tv i j) (cntS tv j k) (cntS tv i k) = true

theorem uv_len {tv : Nat → List Str} (T : TailsOk tv) {i : Nat} (hi : i < 5) : (uvS (tv i)).length ≤ 100 := by
  have := T.len i hi
  unfold uvS
  split
  · simp [rvS]; omega
  · simp

set_option maxHeartbeats 8000000 in
theorem tree_end {n : Nat} {N L M : Addr} {vsN vsL : List Value} {tv : Nat → List Str} {v3 vu : Value} {ok3 oku okm : Addr → Prop} {Q : Flow → Heap → Prop} (G : Gd hb) (R : Room (n + 4) A) (F : Frm hb env h)
    (hk : ∀ x, env.kindOf x = (fsc 14).names.lookup x) (hc : ∀ x, (fsc 14).names.lookup x = some .cell → (env.cells.lookup x).isSome = true) (T : TailsOk tv) (AT : AloneT tv)
    (vN : Var env h "nears" (.ref N)) (vL : Var env h "ladders" (.ref L)) (pN : h.PlainList N vsN.toArray) (pL : h.PlainList L vsL.toArray) (hNL : L ≠ N) (hNb : hb.get? N = none) (hLb : hb.get? L = none) (lN : vsN.length ≤ 100) (lL : vsL.length ≤ 100)
    (v3' : Var env h "threes" v3) (d3 : Dat ok3 h v3 (.list threesD)) (vM : Var env h "near" (.ref M)) (dM : Dat okm h (.ref M) (.list (R5.map fun k => eLI (rowS5 tv k)))) (vU : Var env h "ups" vu) (dU : Dat oku h vu (.list (R5.map fun i => eLS (uvS (tv i)))))
    (rest : ∀ h', Frm hb env h' → (∀ y u, Var env h y u → Var env h' y u) → h'.PlainList N (vsN ++ [Value.ref M]).toArray → h'.PlainList L (vsL ++ [vu]).toArray → KH [N, L] h h' → Q .next h') :
    W c A (execs (tb.drop 7) env) h Q := by
  refine ex_cons (ex_if (tr_cmp (ev_bool ?_)))
  refine ev_compL (fun _ => True) threesD (fun d => d) (fun _ => true) (fun _ => .bool true) F (by kernel_rfl) (free_def hk hc (by kernel_rfl)) (fun _ => rfl) ?_
  refine ev_name F v3' ⟨.refl _, it_dat R.hand (xs := threesD) (e := fun d => d) (by rw [List.map_id']; exact d3) fun I h2 St k2 It st => ⟨_, ⟨I, St, rfl, k2, It, st, by decide⟩, ?_, ?_⟩⟩
  · intro cenv CE d v hh hd dv kk F'
    obtain ⟨i, j, k, hij, hjk, hk5, rfl⟩ := mem_threes hd
    refine as_nameK CE F' (.inl (by kernel_rfl)) fun h3 F3 O3 V3 U3 K3 => ⟨F3, O3, te_nil ⟨.refl _, rfl, fun _ => ?_⟩⟩
    have vM3 : Var cenv h3 "near" (.ref M) := U3.var (by decide +kernel) (CE.fre _ _ _ (by kernel_rfl) (kk.var vM))
    have vU3 : Var cenv h3 "ups" vu := U3.var (by decide +kernel) (CE.fre _ _ _ (by kernel_rfl) (kk.var vU))
    refine ev_def F3 G.g_alone G.f_alone (CE.glo _ (by kernel_rfl)) (ar_cons (ev_name F3 V3 (ar_cons (ev_name F3 vM3 (ar_cons (ev_name F3 vU3 (ar_nil ⟨.refl _, ?_⟩)))))))
    have dM3 : Dat okm h3 (.ref M) (.list ((R5.map (rowS5 tv)).map eLI)) := by rw [List.map_map]; exact K3.dat (kk.dat dM)
    have dU3 : Dat oku h3 vu (.list ((R5.map fun i => uvS (tv i)).map eLS)) := by rw [List.map_map]; exact K3.dat (kk.dat dU)
    refine W.mono (alone_c (F3.keep.gd G) (R.less (m := 2) (by omega)) (K3.dat (kk.dat dv)) dM3 dU3 (by omega) (by omega) (by omega) (r5_at (fun i => uvS (tv i)) (by omega)) (r5_at (fun i => uvS (tv i)) (by omega)) (r5_at (fun i => uvS (tv i)) hk5)
      (r5_at (rowS5 tv) (by omega)) (r5_at (rowS5 tv) (by omega)) (row_at5 tv hij (by omega)) (row_at5 tv hjk hk5) (row_at5 tv (by omega) hk5) (uv_len T (by omega)) (uv_len T (by omega)) (uv_len T hk5) (AT i j k hij hjk hk5)) ?_
    rintro _ h4 ⟨k4, rfl⟩
    exact ⟨k4, .bool _, fun _ e => by cases e⟩
  · intro D ys h5 k5 n5 p5 d5
    have b5 : BoolsAre ys (threesD.map fun _ => true) := by
      apply DatAll.bools (ok := fun _ => True) (h := h5)
      rw [List.map_map]
      rw [filt] at d5
      exact d5
    refine cm_inb p5.isList b5 (tr_bool ?_)
    have e : ((threesD.map fun _ => true).any fun x => x == false) = false := by simp
    rw [e]
    have F5 := k5.frm F
    refine ex_nil (ex_cons (ex_expr (ev_meth (ev_name F5 (k5.var vN) (gm_list (k5.pl pN) PySem.F.slot_list_append PySem.F.type_list_append (cw_bi (ar_cons (ev_name F5 (k5.var vM) (ar_nil (ca_append (k5.pl pN) (by omega) fun h6 p6 k6 => ⟨rfl, ?_⟩)))))))) (inter_of F5)))
    have F6 := k6.frm (k5.pl pN) hNb F5
    have pL6 := k6.pl hNL (k5.pl pL)
    refine ex_cons (ex_expr (ev_meth (ev_name F6 (k6.var (k5.pl pN) (k5.var vL)) (gm_list pL6 PySem.F.slot_list_append PySem.F.type_list_append (cw_bi (ar_cons (ev_name F6 (k6.var (k5.pl pN) (k5.var vU)) (ar_nil (ca_append pL6 (by omega) fun h7 p7 k7 => ⟨rfl, ?_⟩)))))))) (inter_of F6))
    refine ex_nil (rest h7 (k7.frm pL6 hLb F6) (fun y u hv => k7.var pL6 (k6.var (k5.pl pN) (k5.var hv))) (k7.pl (Ne.symm hNL) p6) p7 ?_)
    exact k5.kh.trans ((k6.kh List.mem_cons_self).trans (k7.kh (List.mem_cons_of_mem _ List.mem_cons_self)))
end

open PySem PySem.W PyProof.Rows PySem.SeqAt
def tvT (nf : Nat → Int) (t i : Nat) : List Str := tailF (((nf i).fdiv (36 ^ t)).fmod 36)
def nearD (tv : Nat → List Str) : PyData := .list (R5.map fun k => eLI (rowS5 tv k))
def upsD (tv : Nat → List Str) : PyData := .list (R5.map fun i => eLS (uvS (tv i)))
def four : List Str := ["nears", "ladders", "numbers", "threes"]

section
variable {c : Cx} {A : Around} {h h' hb : Heap} {env : Env}

def SV (env : Env) (h h' : Heap) : Prop := ∀ y ∈ four, ∀ u, Var env h y u → Var env h' y u
theorem Upd.sv {x : Str} (U : Upd env h h' x) (hx : (four.all fun y => !(y == x)) = true) : SV env h h' := fun y hy u hv => U y u (by
  have := List.all_eq_true.mp hx y hy
  intro e; subst e; simp at this) hv
theorem SV.trans {h'' : Heap} (a : SV env h h') (b : SV env h' h'') : SV env h h'' := fun y hy u hv => b y hy u (a y hy u hv)

set_option maxHeartbeats 8000000 in
theorem tree_body {n t : Nat} {N L : Addr} {vsN vsL : List Value} {nf : Nat → Int} {vnum v3 : Value} {tt : Tok} {Q : Flow → Heap → Prop} (G : Gd hb) (R : Room (n + 4) A) (F : Frm hb env h)
    (hk : ∀ x, env.kindOf x = (fsc 14).names.lookup x) (hc : ∀ x, (fsc 14).names.lookup x = some .cell → (env.cells.lookup x).isSome = true) (ht : t < 2) (T : TailsOk (tvT nf t)) (AT : AloneT (tvT nf t))
    (vN : Var env h "nears" (.ref N)) (vL : Var env h "ladders" (.ref L)) (pN : h.PlainList N vsN.toArray) (pL : h.PlainList L vsL.toArray) (hNL : L ≠ N) (hNb : hb.get? N = none) (hLb : hb.get? L = none) (lN : vsN.length ≤ 100) (lL : vsL.length ≤ 100)
    (v3' : Var env h "threes" v3) (d3 : Dat (okT N L) h v3 (.list threesD)) (vn : Var env h "numbers" vnum) (dn : Dat (okT N L) h vnum (.list (R5.map fun i => .int (nf i)))) (vt : Var env h "tree" (.int (t : Int) tt))
    (rest : ∀ h' vM vu, Frm hb env h' → SV env h h' → h'.PlainList N (vsN ++ [vM]).toArray → h'.PlainList L (vsL ++ [vu]).toArray → Dat (okT N L) h' vM (nearD (tvT nf t)) → Dat (okT N L) h' vu (upsD (tvT nf t)) →
      (∀ vs ds, DatAll (okT N L) h vs ds → DatAll (okT N L) h' vs ds) → KH [N, L] h h' → Q .next h') :
    W c A (execs tb env) h Q := by
  refine tree_tails G R F hk hc ht (fun i _ => rfl) vn dn vt pN pL fun h1 vt1 F1 vT1 dT1 U1 K1 => ?_
  refine tree_hosts G R F1 hk hc T vT1 dT1 fun h2 vh2 F2 vH2 dH2 U2 K2 => ?_
  refine tree_rules G R F2 hk hc T (U2.var (by decide +kernel) vT1) (K2.dat dT1) fun h3 vr3 F3 vR3 dR3 U3 K3 => ?_
  refine tree_ups G R F3 hk hc T (U3.var (by decide +kernel) vH2) (K3.dat dH2) (K3.pl (K2.pl (K1.pl pN))) (K3.pl (K2.pl (K1.pl pL))) fun h4 vu4 F4 vU4 dU4 U4 K4 => ?_
  have vT4 := U4.var (by decide +kernel) (U3.var (by decide +kernel) (U2.var (by decide +kernel) vT1))
  have vR4 := U4.var (by decide +kernel) vR3
  have vH4 := U4.var (by decide +kernel) (U3.var (by decide +kernel) vH2)
  refine tree_if G R F4 hk hc T vT4 (K4.dat (K3.dat (K2.dat dT1))) vR4 (K4.dat dR3) vU4 dU4 fun h5 k5 => ?_
  have F5 := k5.frm F4
  have kh5 : KeepH h h5 := K1.trans (K2.trans (K3.trans (K4.trans k5.hard)))
  have sv5 : SV env h h5 := (U1.sv (by kernel_rfl)).trans ((U2.sv (by kernel_rfl)).trans ((U3.sv (by kernel_rfl)).trans ((U4.sv (by kernel_rfl)).trans fun y _ u hv => k5.var hv)))
  have mN : ("nears" : Str) ∈ four := by decide +kernel
  have mL : ("ladders" : Str) ∈ four := by decide +kernel
  have m3 : ("threes" : Str) ∈ four := by decide +kernel
  have hf : (four.all fun y => !(y == ("told" : Str)) && !(y == ("i" : Str)) && !(y == ("near" : Str))) = true := by kernel_rfl
  refine tree_near G R F5 hk hc T (kh5.pl pN) (kh5.pl pL) (k5.var vH4) (k5.dat (K4.dat (K3.dat dH2))) (k5.var vR4) (k5.dat (K4.dat dR3)) (k5.var vU4) (k5.dat dU4) fun h6 M vsM F6 nM vM6 pM6 dM6 VV KK KHH => ?_
  have sv6 : SV env h h6 := sv5.trans fun y hy u hv => by
    have := List.all_eq_true.mp hf y hy
    simp only [Bool.and_eq_true, Bool.not_eq_true'] at this
    exact VV y u (by intro e; subst e; simp at this) (by intro e; subst e; simp at this) (by intro e; subst e; simp at this) hv
  have hNM : N ≠ M := Ne.symm (pl_fresh_ne (kh5.pl pN) nM)
  have hLM : L ≠ M := Ne.symm (pl_fresh_ne (kh5.pl pL) nM)
  have da : ∀ vs ds, DatAll (okT N L) h vs ds → DatAll (okT N L) h6 vs ds := fun vs ds d =>
    (d.keepH kh5).tr fun a ws o p => ⟨o, KK a ws (by rintro rfl; obtain ⟨m, e⟩ := p; rw [nM] at e; cases e) p⟩
  have dd1 : ∀ v d, Dat (okT N L) h5 v d → Dat (okT N L) h6 v d := fun v d x =>
    x.tr fun a ws o p => ⟨o, KK a ws (by rintro rfl; obtain ⟨m, e⟩ := p; rw [nM] at e; cases e) p⟩
  have vU6 : Var env h6 "ups" vu4 := VV _ _ (by decide +kernel) (by decide +kernel) (by decide +kernel) (k5.var vU4)
  have dU6 := dd1 _ _ (k5.dat dU4)
  refine tree_end G R F6 hk hc T AT (sv6 _ mN _ vN) (sv6 _ mL _ vL) (KK _ _ hNM (kh5.pl pN)) (KK _ _ hLM (kh5.pl pL)) hNL hNb hLb lN lL (sv6 _ m3 _ v3') (dd1 _ _ (kh5.dat d3)) vM6 dM6 vU6 dU6 fun h7 F7 V7 pN7 pL7 K7 => ?_
  have kd : ∀ {v d}, Dat (okT N L) h6 v d → Dat (okT N L) h7 v d := fun x => K7.dat (fun a o => by simp [o.1, o.2]) x
  have hNL' : KH [M] h5 h6 := KHH
  refine rest h7 (.ref M) vu4 F7 (sv6.trans fun y _ u hv => V7 y u hv) pN7 pL7 (kd dM6) (kd dU6) (fun vs ds d => (da vs ds d).tr fun a ws o p => ⟨o, K7.pl (by simp [o.1, o.2]) p⟩) ?_
  intro b o ho hn e
  have e5 := kh5 b o ho e
  exact K7 b o ho hn (KHH b o ho (by
    simp only [List.mem_cons, List.not_mem_nil, or_false]
    rintro rfl
    rw [nM] at e5; cases e5) e5)
end

open PySem PySem.W PyProof.Rows PySem.SeqAt
section
variable {c : Cx} {A : Around} {h h' hb : Heap} {env : Env}

set_option maxHeartbeats 8000000 in
theorem tree_loop {n : Nat} {N L : Addr} {nf : Nat → Int} {vnum v3 : Value} {Q : Flow → Heap → Prop} (G : Gd hb) (R : Room (n + 4) A) (F : Frm hb env h)
    (hk : ∀ x, env.kindOf x = (fsc 14).names.lookup x) (hc : ∀ x, (fsc 14).names.lookup x = some .cell → (env.cells.lookup x).isSome = true) (T : ∀ t, t < 2 → TailsOk (tvT nf t)) (AT : ∀ t, t < 2 → AloneT (tvT nf t))
    (vN : Var env h "nears" (.ref N)) (vL : Var env h "ladders" (.ref L)) (pN : h.PlainList N #[]) (pL : h.PlainList L #[]) (hNL : L ≠ N) (hNb : hb.get? N = none) (hLb : hb.get? L = none)
    (v3' : Var env h "threes" v3) (d3 : Dat (okT N L) h v3 (.list threesD)) (vn : Var env h "numbers" vnum) (dn : Dat (okT N L) h vnum (.list (R5.map fun i => .int (nf i))))
    (rest : ∀ h', Frm hb env h' → Var env h' "nears" (.ref N) → Var env h' "ladders" (.ref L) → Var env h' "threes" v3 → Dat (fun _ => True) h' v3 (.list threesD) →
      Dat (fun _ => True) h' (.ref N) (.list [nearD (tvT nf 0), nearD (tvT nf 1)]) → Dat (fun _ => True) h' (.ref L) (.list [upsD (tvT nf 0), upsD (tvT nf 1)]) → W c A (execs ((fbd 14).drop 6) env) h' Q) :
    W c A (execs ((fbd 14).drop 5) env) h Q := by
  have mN : ("nears" : Str) ∈ four := by decide +kernel
  have mL : ("ladders" : Str) ∈ four := by decide +kernel
  have m3 : ("threes" : Str) ∈ four := by decide +kernel
  have mn : ("numbers" : Str) ∈ four := by decide +kernel
  refine ex_cons (ex_for2 (L := [N, L]) (rd := []) F (ev_call (ev_glob F G.g_range (by walk_at "mkind") (cw_ty (ar_cons (ev_int fun _ => ar_nil (ca_range (n := 2) fun h2 r2 _ _ k2 x2 => ⟨k2, itr_nats (ok := fun _ => True) R.hand (range_of x2) (by omega) fun I h3 St k3 It st => ?_⟩)))))))
  refine ⟨I, _, _, St, fun i h' => ∃ vsN vsL, h'.PlainList N (List.toArray vsN) ∧ h'.PlainList L (List.toArray vsL) ∧ vsN.length = i ∧ vsL.length = i ∧
    DatAll (okT N L) h' vsN ((List.range' 0 i).map fun t => nearD (tvT nf t)) ∧ DatAll (okT N L) h' vsL ((List.range' 0 i).map fun t => upsD (tvT nf t)) ∧ DatAll (okT N L) h' [v3, vnum] [.list threesD, .list (R5.map fun i => .int (nf i))] ∧ SV env h h', rfl, It, k3, st, ?_, (fun b hb => by cases hb), ?_, ?_, ?_⟩
  · intro b hb
    simp only [List.mem_cons, List.not_mem_nil, or_false] at hb
    rcases hb with rfl | rfl
    · obtain ⟨m, e⟩ := k2.pl pN; exact ⟨_, e⟩
    · obtain ⟨m, e⟩ := k2.pl pL; exact ⟨_, e⟩
  · have kk := k2.trans k3
    exact ⟨[], [], kk.pl pN, kk.pl pL, rfl, rfl, .nil, .nil, .cons (kk.dat d3) (.cons (kk.dat dn) .nil), fun y _ u hv => kk.var hv⟩
  · rintro i v h4 h' hi ⟨x, ex, dx⟩ ⟨vsN, vsL, qN, qL, lN, lL, aN, aL, ad, sv⟩ kn kI F4
    have hi2 : i < 2 := by simpa using hi
    have exi : x = i := by simpa [hi2] using ex.symm
    subst exi
    obtain ⟨tx, rfl⟩ := dx.int_inv
    refine as_st (st_name F4 (.inr ⟨(hk _).trans (by kernel_rfl), hc _ (by kernel_rfl)⟩) fun h5 F5 vt U5 K5 => ?_)
    have sv5 : SV env h h5 := sv.trans (SV.trans (fun y _ u hv => kn.var hv) (U5.sv (by kernel_rfl)))
    have ad5 := (ad.keepN kn).keepH K5
    cases ad5 with | cons d35 r5 => cases r5 with | cons dn5 r6 => cases r6 with | nil =>
    refine tree_body G R F5 hk hc hi2 (T _ hi2) (AT _ hi2) (sv5 _ mN _ vN) (sv5 _ mL _ vL) (K5.pl (kn.pl qN)) (K5.pl (kn.pl qL)) hNL hNb hLb (by omega) (by omega) (sv5 _ m3 _ v3') d35 (sv5 _ mn _ vn) dn5 vt fun h6 vM vu F6 sv6 pN6 pL6 dM6 dU6 da6 kh6 => ?_
    have e0 : 0 + 1 * x = x := by omega
    refine ⟨⟨vsN ++ [vM], vsL ++ [vu], pN6, pL6, by simp [lN], by simp [lL], ?_, ?_, da6 _ _ (.cons d35 (.cons dn5 .nil)), sv5.trans sv6⟩, F6, K5.kh.trans kh6⟩
    · rw [List.range'_concat, List.map_append, e0]
      exact DatAll.append (da6 _ _ ((aN.keepN kn).keepH K5)) (.cons dM6 .nil)
    · rw [List.range'_concat, List.map_append, e0]
      exact DatAll.append (da6 _ _ ((aL.keepN kn).keepH K5)) (.cons dU6 .nil)
  · rintro h4 h' ⟨vsN, vsL, qN, qL, lN, lL, aN, aL, ad, sv⟩ kn kI F4
    have ad4 := ad.keepN kn
    cases ad4 with | cons d34 r4 => 
    refine rest h4 F4 (kn.var (sv _ mN _ vN)) (kn.var (sv _ mL _ vL)) (kn.var (sv _ m3 _ v3')) (d34.weak fun _ _ => trivial) (.list trivial (kn.pl qN) ((aN.keepN kn).weak fun _ _ => trivial)) (.list trivial (kn.pl qL) ((aL.keepN kn).weak fun _ _ => trivial))
end

open PySem PySem.W PyProof.Rows PySem.SeqAt
section
variable {c : Cx} {A : Around} {h h' hb : Heap} {env : Env}

def drawnF (xs : List Int) : List Int := (xs.take 5).map fun x => x.fmod 1296
def numsF (xs : List Int) : List Int := drawnF xs ++ [50, 793, 41, 75, 194].drop (drawnF xs).length
def nfF (xs : List Int) (i : Nat) : Int := (numsF xs).getD i 0
theorem nums_len (xs : List Int) : (numsF xs).length = 5 := by
  unfold numsF drawnF
  simp only [List.length_append, List.length_map, List.length_take, List.length_drop, List.length_cons, List.length_nil]
  omega
theorem nums_r5 (xs : List Int) : (numsF xs).map PyData.int = R5.map fun i => PyData.int (nfF xs i) := by
  have hl := nums_len xs
  apply List.ext_getElem?
  intro i
  unfold R5 nfF
  by_cases hi : i < 5
  · have h1 : i < (numsF xs).length := by omega
    simp [hi, h1]
  · have h1 : ¬ i < (numsF xs).length := by omega
    simp [hi, h1]

theorem ints_take : ∀ (k : Nat) {vs : List Value} {xs : List Int}, IntsR vs xs → IntsR (vs.take k) (xs.take k)
  | 0, _, _, _ => by simp only [List.take_zero]; exact .nil
  | _ + 1, _, _, .nil => .nil
  | k + 1, _, _, .cons b t r => .cons b t (ints_take k r)

set_option maxHeartbeats 8000000 in
theorem law_nums {n : Nat} {xs : List Int} {a : Addr} {ws : List Value} {Q : Flow → Heap → Prop} (G : Gd hb) (R : Room (n + 4) A) (F : Frm hb env h)
    (hk : ∀ x, env.kindOf x = (fsc 14).names.lookup x) (hc : ∀ x, (fsc 14).names.lookup x = some .cell → (env.cells.lookup x).isSome = true) (hx : xs.length ≤ 63)
    (vS : Var env h "script" (.ref a)) (p : h.IsList a ws.toArray) (r : IntsR ws xs)
    (rest : ∀ h' v, Frm hb env h' → Var env h' "numbers" v → Dat (fun _ => True) h' v (.list (R5.map fun i => .int (nfF xs i))) → W c A (execs ((fbd 14).drop 2) env) h' Q) :
    W c A (execs (fbd 14) env) h Q := by
  have hsz : sizeLine = 2 ^ 24 := rfl
  have lw := r.length
  refine ex_cons (ex_compL (fun _ => True) (xs.take 5) PyData.int (fun _ => true) (fun x => .int (x.fmod 1296)) F (by kernel_rfl) (free_none (by kernel_rfl)) (fun _ => rfl) (by walk_at "mkind") (sw_loc (block_of F) (by walk_at "mkind") (by kernel_rfl) (by kernel_rfl)) ?_)
  refine ev_sub (ev_name F vS (ev_sup (ev_int fun _ => ⟨_, _, rfl, fun h1 a1 k1 s1 => sub_lists (k1.list p) s1 (by simp; omega) fun h2 a2 k2 _ p2 => ⟨k1.trans k2, ?_⟩⟩)))
  simp only [Option.map] at p2
  have e2 : slicePick ws.toArray none (some 5) none = (ws.take 5).toArray := by
    have := slicePick_upto' ws.toArray 5
    simpa using this
  rw [e2] at p2
  have i2 : IntsR (ws.take 5) (xs.take 5) := ints_take 5 r
  refine it_dat R.hand (xs := xs.take 5) (e := PyData.int) (ok := fun _ => True) (.list trivial p2 (DatAll.of_ints i2)) fun I h3 St k3 It st => ⟨_, ⟨I, St, rfl, k3, It, st, by simp; omega⟩, ?_, ?_⟩
  · intro cenv CE x v hh hxm dv kk F'
    obtain ⟨tx, rfl⟩ := dv.int_inv
    refine as_nameK CE F' (.inl (by kernel_rfl)) fun h4 F4 O4 V4 U4 K4 => ⟨F4, O4, te_nil ⟨.refl _, rfl, fun _ => ?_⟩⟩
    exact ev_bin (ev_name F4 V4 (ev_int fun _ => op_mod (by decide) fun _ => ⟨.refl _, .int _ _, fun _ e => by cases e⟩))
  · intro D ys h5 F5 V5 U5 K5 n5 p5 d5
    rw [filt] at d5
    have i5 : IntsR ys (drawnF xs) := by
      apply DatAll.ints (ok := fun _ => True) (h := h5)
      unfold drawnF; rw [List.map_map]; exact d5
    have l5 := i5.length
    have l5' : (drawnF xs).length ≤ 5 := by unfold drawnF; simp; omega
    refine ex_cons (ex_set (ev_bin (ev_name F5 V5 ?_)))
    refine ev_sub (ev_listP (ar_cons (ev_int fun _ => ar_cons (ev_int fun _ => ar_cons (ev_int fun _ => ar_cons (ev_int fun _ => ar_cons (ev_int fun _ => ar_nil ⟨by simp [hsz], fun h6 a6 k6 _ p6 => ?_⟩)))))))
    have F6 := k6.frm F5
    refine ev_slo (ev_call (ev_glob F6 G.g_len (by walk_at "mkind") (cw_bi (ar_cons (ev_name F6 (k6.var V5) (ar_nil (ca_len (k6.pl p5).isList (by omega) fun _ => ⟨_, _, rfl, fun h7 a7 k7 s7 => ?_⟩)))))))
    refine sub_lists (k7.pl p6).isList s7 (by simp [hsz]) fun h8 a8 k8 _ p8 => ?_
    simp only [Option.map] at p8
    rw [slicePick_from'] at p8
    refine op_addl (k8.pl (k7.pl (k6.pl p5))).isList p8.isList (by simp; omega) fun h9 a9 k9 _ p9 => ?_
    have F9 := k9.frm (k8.frm (k7.frm F6))
    refine st_name F9 (.inl (by walk_at "mkind")) fun h10 F10 V10 U10 K10 => ?_
    refine rest h10 _ F10 V10 (.list trivial (K10.pl p9) ?_)
    rw [← nums_r5]
    refine DatAll.of_ints (i5.append ?_)
    rw [l5]
    generalize (drawnF xs).length = k at l5'
    have : k = 0 ∨ k = 1 ∨ k = 2 ∨ k = 3 ∨ k = 4 ∨ k = 5 := by omega
    rcases this with rfl | rfl | rfl | rfl | rfl | rfl <;> repeat (first | exact .nil | refine .cons _ _ ?_)
end

open PySem PySem.W PyProof.Rows PySem.SeqAt
section
variable {c : Cx} {A : Around} {h h' hb : Heap} {env : Env}

set_option maxHeartbeats 8000000 in
theorem law_trees {n : Nat} {nf : Nat → Int} {vnum : Value} {Q : Flow → Heap → Prop} (G : Gd hb) (R : Room (n + 4) A) (F : Frm hb env h)
    (hk : ∀ x, env.kindOf x = (fsc 14).names.lookup x) (hc : ∀ x, (fsc 14).names.lookup x = some .cell → (env.cells.lookup x).isSome = true) (T : ∀ t, t < 2 → TailsOk (tvT nf t)) (AT : ∀ t, t < 2 → AloneT (tvT nf t))
    (vn : Var env h "numbers" vnum) (dn : Dat (fun _ => True) h vnum (.list (R5.map fun i => .int (nf i))))
    (rest : ∀ h' N L v3, Frm hb env h' → Var env h' "nears" (.ref N) → Var env h' "ladders" (.ref L) → Var env h' "threes" v3 → Dat (fun _ => True) h' v3 (.list threesD) →
      Dat (fun _ => True) h' (.ref N) (.list [nearD (tvT nf 0), nearD (tvT nf 1)]) → Dat (fun _ => True) h' (.ref L) (.list [upsD (tvT nf 0), upsD (tvT nf 1)]) → W c A (execs ((fbd 14).drop 6) env) h' Q) :
    W c A (execs ((fbd 14).drop 2) env) h Q := by
  refine ex_cons (ex_threes G F (by kernel_rfl) (free_none (by kernel_rfl)) (by walk_at "mkind") (by walk_at "mkind") R.hand ?_ (by kernel_rfl) (by kernel_rfl) (by kernel_rfl) (by kernel_rfl) (sw_loc (block_of F) (by walk_at "mkind") (by kernel_rfl) (by kernel_rfl)) ?_)
  · intro z hz
    have hm := mem_of_lookup hz
    revert hm
    have hall : ((match (fbd 14)[2]? with | some (PySem.Stmt.Assign _ (.ListComp _ _ s _) _) => s.names.all (fun x => x.2 != .cell) | _ => false)) = true := by kernel_rfl
    intro hm
    have := List.all_eq_true.mp hall _ hm
    cases this
  · intro D h1 F1 V1 U1 K1 d1
    have vn1 := U1.var (by decide +kernel) vn
    have dn1 := K1.dat dn
    refine ex_cons (ex_set (ev_listP (ar_nil ⟨by simp, fun h2 N k2 n2 p2 => ?_⟩)))
    refine st_name (k2.frm F1) (.inr ⟨(hk _).trans (by kernel_rfl), hc _ (by kernel_rfl)⟩) fun h3 F3 vN U3 K3 => ?_
    have d13 := K3.dat (k2.dat (d1.apart n2))
    have dn3 := K3.dat (k2.dat (dn1.apart n2))
    refine ex_cons (ex_set (ev_listP (ar_nil ⟨by simp, fun h4 L k4 n4 p4 => ?_⟩)))
    refine st_name (k4.frm F3) (.inr ⟨(hk _).trans (by kernel_rfl), hc _ (by kernel_rfl)⟩) fun h5 F5 vL U5 K5 => ?_
    have pN3 := K3.pl p2
    have hNL : L ≠ N := pl_fresh_ne pN3 n4
    have d15 : Dat (okT N L) h5 (.ref D) (.list threesD) := (K5.dat (k4.dat (d13.apart n4))).weak fun a o => ⟨o.1.2, o.2⟩
    have dn5 : Dat (okT N L) h5 vnum (.list (R5.map fun i => .int (nf i))) := (K5.dat (k4.dat (dn3.apart n4))).weak fun a o => ⟨o.1.2, o.2⟩
    have vN5 := U5.var (by decide +kernel) (k4.var vN)
    have v35 := U5.var (by decide +kernel) (k4.var (U3.var (by decide +kernel) (k2.var V1)))
    have vn5 := U5.var (by decide +kernel) (k4.var (U3.var (by decide +kernel) (k2.var vn1)))
    exact tree_loop G R F5 hk hc T AT vN5 vL (K5.pl (k4.pl pN3)) (K5.pl p4) hNL (fresh_base F1 n2) (fresh_base F3 n4) v35 d15 vn5 dn5 fun h6 F6 a1 a2 a3 a4 a5 a6 => rest h6 N L _ F6 a1 a2 a3 a4 a5 a6
end

open PySem PySem.W PyProof.Rows PySem.SeqAt
def mb : List Stmt := match (fbd 14)[7]? with | some (PySem.Stmt.For _ _ b _ _) => b | _ => []
def f3 : UInt64 := Float64.ofInt 3
/-- what the code makes of a colour in eighths: the third of the turn, the amount -/
def midF (s1 s2 s3 : Int) : Option (Nat × Nat) :=
  let r := fdivI s1 8
  let g := fdivI s2 8
  let b := fdivI s3 8
  let hsv := hsvF r g b
  let h3 := Float64.mul (Float64.ofInt 3) hsv.1
  if finI s1 8 && finI s2 8 && finI s3 8 && okHsv r g b && okHls r g b && eqF hsv.2.2 (max3 r g b) && eqF (hlsF r g b).1 hsv.1 then
    match truncF h3 with
    | some t =>
      let aside := min2 (Float64.sub h3 (Float64.ofInt t)) (Float64.sub (Float64.ofInt (t + 1)) h3)
      match truncF (Float64.add (Float64.mul (Float64.mul (Float64.mul (Float64.mul (Float64.mul (Float64.ofInt 128) aside) hsv.2.1) hsv.2.2) hsv.2.1) hsv.2.2) f05) with
      | some m => if 0 ≤ t && t < 3 && 0 ≤ m && m ≤ 100 then some (t.toNat, m.toNat) else none
      | none => none
    | none => none
  else none
def pickT (i j k t : Nat) : Nat := if t = 0 then j else if t = 1 then k else i

open PySem PySem.W PyProof.Rows PySem.SeqAt
section
variable {c : Cx} {A : Around} {h h' hb : Heap} {env : Env}

theorem OnlyC.trans {scope : Scope} {cenv : Env} {h'' : Heap} (a : OnlyC scope cenv h h') (b : OnlyC scope cenv h' h'') : OnlyC scope cenv h h'' := fun x o n1 n2 e => b x o n1 n2 (a x o n1 n2 e)
theorem Keep.onlyC {scope : Scope} {cenv : Env} (a : Keep h h') : OnlyC scope cenv h h' := fun x o _ _ e => a x o e
def sumS (tv0 tv1 : Nat → List Str) (a b : Nat) : Int := (cntS tv0 a b : Int) + (cntS tv1 a b : Int)

def scM : Scope := match mb[0]? with | some (PySem.Stmt.Assign _ (.ListComp _ _ s _) _) => s | _ => default
def eltM : Expr := match mb[0]? with | some (PySem.Stmt.Assign _ (.ListComp e _ _ _) _) => e | _ => .Constant (.bool true) 0 ⟨0, 0, 0, 0⟩
def tgtM : Expr := match mb[0]? with | some (PySem.Stmt.Assign _ (.ListComp _ (⟨t, _, _, _⟩ :: _) _ _) _) => t | _ => .Constant (.bool true) 0 ⟨0, 0, 0, 0⟩

set_option maxHeartbeats 8000000 in
theorem mid_pair {a b : Nat} {ta tb : Tok} {l N : Addr} {cenv : Env} {hh : Heap} {tv0 tv1 : Nat → List Str} {okn : Addr → Prop} (hh0 : A.handled = none) (hab : a < b) (hb5 : b < 5) (hf : finI (sumS tv0 tv1 a b) 8 = true) (CE : CEnv env scM cenv)
    (F : Frm hb cenv hh) (vN : Var env hh "nears" (.ref N)) (dN : Dat okn hh (.ref N) (.list [nearD tv0, nearD tv1])) (p : hh.PlainList l [Value.int (a : Int) ta, .int (b : Int) tb].toArray) (Hs : Heap → Prop) :
    W c A (assign tgtM cenv (.ref l)) hh (fun _ h₂ => Frm hb cenv h₂ ∧ OnlyC scM cenv hh h₂ ∧ W c A (tests [] cenv) h₂ (fun ok h₃ => Keep h₂ h₃ ∧ ok = true ∧ (ok = true → W c A (eval eltM cenv) h₃ (fun y h₄ => Keep h₃ h₄ ∧ (∃ t, y = .float (fdivI (sumS tv0 tv1 a b) 8) t) ∧ ∀ T, y = .ref T → False)))) := by
  refine as_list hh0 p.isList rfl rfl fun h1 k1 => ao_name (as_nameK CE (k1.frm F) (.inl (by kernel_rfl)) fun h2 F2 O2 V2 U2 K2 => ao_name (as_nameK CE F2 (.inl (by kernel_rfl)) fun h3 F3 O3 V3 U3 K3 => ao_nil ⟨F3, k1.onlyC.trans (O2.trans O3), te_nil ⟨.refl _, rfl, fun _ => ?_⟩⟩))
  have vN3 : Var cenv h3 "nears" (.ref N) := U3.var (by decide +kernel) (U2.var (by decide +kernel) (k1.var (CE.fre _ _ _ (by kernel_rfl) vN)))
  have vx3 := U3.var (by decide +kernel) V2
  have dN3 := K3.dat (K2.dat (k1.dat dN))
  have one : ∀ (t : Nat) (tv : Nat → List Str) (pos1 pos2 pos3 pos4 p5 p6 p7 : Pos) (kk : Nat) (Q : Value → Heap → Prop), t < 2 → [nearD tv0, nearD tv1][t]? = some (nearD tv) → (∀ tok, Q (.int (cntS tv a b : Int) tok) h3) →
      W c A (eval (.Subscript (.Subscript (.Subscript (.Name "nears" pos1) (.Constant (.int (t : Int)) kk pos2) pos3) (.Name "x" pos4) p5) (.Name "y" p6) p7) cenv) h3 Q := by
    intro t tv pos1 pos2 pos3 pos4 p5 p6 p7 kk Q ht hn hq
    refine ev_sub (ev_sub (ev_sub (ev_name F3 vN3 (ev_int fun _ => sub_dat dN3 hn (by omega) fun w dw => ?_))))
    obtain ⟨b1, _, rfl, _, _, _⟩ := id dw.list_inv
    refine ev_name F3 vx3 (sub_dat dw (r5_at (fun k => eLI (rowS5 tv k)) (by omega)) (by omega) fun w2 dw2 => ?_)
    obtain ⟨b2, _, rfl, _, _, _⟩ := id dw2.list_inv
    refine ev_name F3 V3 (sub_dat dw2 (di := .int (cntS tv a b : Int)) (by rw [List.getElem?_map, row_at5 tv hab hb5]; rfl) (by omega) fun w3 dw3 => ?_)
    obtain ⟨t3, rfl⟩ := dw3.int_inv
    exact hq _
  refine ev_bin (ev_bin (one 0 tv0 _ _ _ _ _ _ _ _ _ (by omega) rfl fun _ => one 1 tv1 _ _ _ _ _ _ _ _ _ (by omega) rfl fun _ => op_add fun _ => ev_int fun _ => op_div (by decide) (fin_of hf) fun t _ => ⟨.refl _, ⟨t, rfl⟩, fun _ e => by cases e⟩))

set_option maxHeartbeats 8000000 in
theorem mid_rgb {n i j k : Nat} {N : Addr} {tv0 tv1 : Nat → List Str} {okn : Addr → Prop} {ti tj tk : Tok} {Q : Flow → Heap → Prop} (G : Gd hb) (R : Room (n + 4) A) (F : Frm hb env h)
    (hk : ∀ x, env.kindOf x = (fsc 14).names.lookup x) (hc : ∀ x, (fsc 14).names.lookup x = some .cell → (env.cells.lookup x).isSome = true) (hij : i < j) (hjk : j < k) (hk5 : k < 5)
    (vI : Var env h "i" (.int (i : Int) ti)) (vJ : Var env h "j" (.int (j : Int) tj)) (vK : Var env h "k" (.int (k : Int) tk)) (vN : Var env h "nears" (.ref N)) (dN : Dat okn h (.ref N) (.list [nearD tv0, nearD tv1]))
    (f1 : finI (sumS tv0 tv1 i j) 8 = true) (f2 : finI (sumS tv0 tv1 j k) 8 = true) (f3' : finI (sumS tv0 tv1 i k) 8 = true)
    (rest : ∀ h' t1 t2 t3, Frm hb env h' → Var env h' "red" (.float (fdivI (sumS tv0 tv1 i j) 8) t1) → Var env h' "green" (.float (fdivI (sumS tv0 tv1 j k) 8) t2) → Var env h' "blue" (.float (fdivI (sumS tv0 tv1 i k) 8) t3) →
      (∀ y u, y ≠ ("red" : Str) → y ≠ ("green" : Str) → y ≠ ("blue" : Str) → Var env h y u → Var env h' y u) → KeepH h h' → W c A (execs (mb.drop 1) env) h' Q) :
    W c A (execs mb env) h Q := by
  have hsz : sizeLine = 2 ^ 24 := rfl
  refine ex_cons (ex_setT (ev_comp F (by kernel_rfl) (free_def hk hc (by kernel_rfl)) ?_) rfl rfl)
  refine ev_listP (ar_cons (ev_listP (ar_cons (ev_name F vI (ar_cons (ev_name F vJ (ar_nil ⟨by simp [hsz], fun h1 a1 k1 _ p1 => ?_⟩)))))))
  have F1 := k1.frm F
  refine ar_cons (ev_listP (ar_cons (ev_name F1 (k1.var vJ) (ar_cons (ev_name F1 (k1.var vK) (ar_nil ⟨by simp [hsz], fun h2 a2 k2 _ p2 => ?_⟩))))))
  have F2 := k2.frm F1
  refine ar_cons (ev_listP (ar_cons (ev_name F2 (k2.var (k1.var vI)) (ar_cons (ev_name F2 (k2.var (k1.var vK)) (ar_nil ⟨by simp [hsz], fun h3 a3 k3 _ p3 => ?_⟩))))))
  refine ar_nil ⟨by simp [hsz], fun h4 a4 k4 _ p4 => ⟨k1.trans (k2.trans (k3.trans k4)), it_list R.hand p4.isList fun I h5 St k5 It st => ?_⟩⟩
  have q1 := k4.pl (k3.pl (k2.pl p1))
  have q2 := k4.pl (k3.pl p2)
  have q3 := k4.pl p3
  have kk4 : Keep h h4 := k1.trans (k2.trans (k3.trans k4))
  have dN4 := kk4.dat dN
  have vN4 := kk4.var vN
  let fv : Nat → UInt64 := fun q => if q = 0 then fdivI (sumS tv0 tv1 i j) 8 else if q = 1 then fdivI (sumS tv0 tv1 j k) 8 else fdivI (sumS tv0 tv1 i k) 8
  refine ⟨3, fun _ => true, fun q y _ => ∃ t, y = .float (fv q) t, ⟨I, _, St, rfl, k5, It, st, by decide, fun q y _ _ hy _ => hy, ?_⟩, ?_⟩
  · intro cenv CE q v hh hq hP kk F'
    have fin : ∀ (a b : Nat) (ta tb : Tok) (l : Addr), a < b → b < 5 → finI (sumS tv0 tv1 a b) 8 = true → hh.PlainList l [Value.int (a : Int) ta, .int (b : Int) tb].toArray → fdivI (sumS tv0 tv1 a b) 8 = fv q →
        W c A (assign tgtM cenv (.ref l)) hh (fun _ h₂ => Frm hb cenv h₂ ∧ OnlyC scM cenv hh h₂ ∧ W c A (tests [] cenv) h₂ (fun ok h₃ => Keep h₂ h₃ ∧ ok = true ∧ (ok = true → W c A (eval eltM cenv) h₃ (fun y h₄ => Keep h₃ h₄ ∧ (∃ t, y = .float (fv q) t) ∧ ∀ T, y = .ref T → h₃.get? T = none ∨ ∃ o, h4.get? T = some o)))) := by
      intro a b ta tb l hab hb5 hf p e
      rw [← e]
      refine (mid_pair R.hand hab hb5 hf CE F' (kk.var vN4) (kk.dat dN4) p (fun _ => True)).mono fun _ h6 x => ⟨x.1, x.2.1, x.2.2.mono fun ok h7 y => ⟨y.1, y.2.1, fun e => (y.2.2 e).mono fun z h8 w => ⟨w.1, w.2.1, fun T eT => (w.2.2 T eT).elim⟩⟩⟩
    have : q = 0 ∨ q = 1 ∨ q = 2 := by omega
    rcases this with rfl | rfl | rfl
    · cases hP; exact fin i j _ _ a1 hij (by omega) f1 (kk.pl q1) rfl
    · cases hP; exact fin j k _ _ a2 hjk hk5 f2 (kk.pl q2) rfl
    · cases hP; exact fin i k _ _ a3 (by omega) hk5 f3' (kk.pl q3) rfl
  · intro D ys h6 k6 n6 p6 pr
    have pr' : Paired (fun q y => ∃ t, y = Value.float (fv q) t) [0, 1, 2] ys := pr
    cases pr' with | cons x1 r1 => cases r1 with | cons x2 r2 => cases r2 with | cons x3 r3 => cases r3 with | nil =>
    obtain ⟨t1, rfl⟩ := x1
    obtain ⟨t2, rfl⟩ := x2
    obtain ⟨t3, rfl⟩ := x3
    have F6 := (kk4.trans k6).frm F
    refine as_list R.hand p6.isList rfl rfl fun h7 k7 => ao_cons (st_name (k7.frm F6) (.inl (by walk_at "mkind")) fun h8 F8 V8 U8 K8 => ao_cons (st_name F8 (.inl (by walk_at "mkind")) fun h9 F9 V9 U9 K9 => ao_cons (st_name F9 (.inl (by walk_at "mkind")) fun h10 F10 V10 U10 K10 => ao_nil ?_)))
    refine rest h10 t1 t2 t3 F10 (U10.var (by decide +kernel) (U9.var (by decide +kernel) V8)) (U10.var (by decide +kernel) V9) V10 ?_ ?_
    · exact fun y u n1 n2 n3 hv => U10.var n3 (U9.var n2 (U8.var n1 (k7.var (k6.var (kk4.var hv)))))
    · exact (kk4.trans (k6.trans k7)).hard.trans (K8.trans (K9.trans K10))
end

open PySem PySem.W PyProof.Rows PySem.SeqAt
section
variable {c : Cx} {A : Around} {h h' hb : Heap} {env : Env}

set_option maxHeartbeats 8000000 in
theorem mid_rest {n i j k t m : Nat} {s1 s2 s3 : Int} {a : Addr} {ws : List Value} {acc : List Int} {ti tj tk t1 t2 t3 : Tok} {Q : Flow → Heap → Prop} (G : Gd hb) (R : Room (n + 4) A) (F : Frm hb env h)
    (hk : ∀ x, env.kindOf x = (fsc 14).names.lookup x) (hc : ∀ x, (fsc 14).names.lookup x = some .cell → (env.cells.lookup x).isSome = true) (hm : midF s1 s2 s3 = some (t, m))
    (vI : Var env h "i" (.int (i : Int) ti)) (vJ : Var env h "j" (.int (j : Int) tj)) (vK : Var env h "k" (.int (k : Int) tk))
    (vr : Var env h "red" (.float (fdivI s1 8) t1)) (vg : Var env h "green" (.float (fdivI s2 8) t2)) (vb : Var env h "blue" (.float (fdivI s3 8) t3))
    (vM : Var env h "middles" (.ref a)) (pM : h.PlainList a ws.toArray) (iM : IntsR ws acc) (lM : acc.length ≤ 5000)
    (rest : ∀ h' a' ws', Frm hb env h' → Var env h' "middles" (.ref a') → h'.PlainList a' (List.toArray ws') → IntsR ws' (acc ++ List.replicate m ((pickT i j k t : Nat) : Int)) →
      (∀ y u, y ∈ ([("nears" : Str), "ladders", "threes"] : List Str) → Var env h y u → Var env h' y u) → KeepH h h' → Q .next h') :
    W c A (execs (mb.drop 1) env) h Q := by
  have hsz : sizeLine = 2 ^ 24 := rfl
  unfold midF at hm
  dsimp only at hm
  split at hm
  case isFalse => cases hm
  rename_i hcond
  simp only [Bool.and_eq_true] at hcond
  obtain ⟨⟨⟨⟨⟨⟨_, _⟩, _⟩, o4⟩, o5⟩, o6⟩, o7⟩ := hcond
  split at hm
  case h_2 => cases hm
  rename_i ti' e1
  split at hm
  case h_2 => cases hm
  rename_i mi' e2
  split at hm
  case isFalse => cases hm
  rename_i hb4
  simp only [Bool.and_eq_true, decide_eq_true_eq] at hb4
  obtain ⟨⟨⟨b1, b2⟩, b3⟩, b4⟩ := hb4
  have hm' : ti'.toNat = t ∧ mi'.toNat = m := by simpa using hm
  obtain ⟨rfl, rfl⟩ := hm'
  refine ex_cons (ex_setT (ev_def F G.g_hsv G.f_hsv (by walk_at "mkind") (ar_cons (ev_name F vr (ar_cons (ev_name F vg (ar_cons (ev_name F vb (ar_nil ⟨.refl _, ?_⟩)))))))) rfl rfl)
  refine W.mono (hsv_c (F.keep.gd G) (R.less (m := 1) (by omega)) o4) ?_
  rintro _ h1 ⟨k1, a1, u1, u2, u3, rfl, _, p1⟩
  generalize hv : hsvF (fdivI s1 8) (fdivI s2 8) (fdivI s3 8) = hsv at *
  obtain ⟨hu, sh, lv⟩ := hsv
  dsimp only at *
  refine as_tup R.hand p1 rfl rfl fun h2 k2 => ao_cons (st_name (k2.frm (k1.frm F)) (.inl (by walk_at "mkind")) fun h3 F3 V3 U3 K3 => ao_cons (st_name F3 (.inl (by walk_at "mkind")) fun h4 F4 V4 U4 K4 => ao_cons (st_name F4 (.inl (by walk_at "mkind")) fun h5 F5 V5 U5 K5 => ao_nil ?_)))
  refine ex_cons (ex_if (tr_boolop (at_or (tr_cmp (ev_name F5 V5 ?_)))))
  refine ev_call (ev_glob F5 G.g_max (by walk_at "mkind") (cw_bi (ar_cons (ev_name F5 (by walk_at "mvar") (ar_cons (ev_name F5 (by walk_at "mvar") (ar_cons (ev_name F5 (by walk_at "mvar") (ar_nil (ca_max3 R.hand fun h6 _ k6 => cm_nef (tr_bool ?_)))))))))))
  have n6 : (Float64.cmp lv (max3 (fdivI s1 8) (fdivI s2 8) (fdivI s3 8)) != some Ordering.eq) = false := by
    have : (Float64.cmp lv (max3 (fdivI s1 8) (fdivI s2 8) (fdivI s3 8)) == some Ordering.eq) = true := o6
    rw [bne, this]; rfl
  rw [n6]
  have F6 := k6.frm F5
  refine at_or (tr_cmp (ev_sub ?_))
  refine ev_def F6 G.g_hls G.f_hls (by walk_at "mkind") (ar_cons (ev_name F6 (by walk_at "mvar") (ar_cons (ev_name F6 (by walk_at "mvar") (ar_cons (ev_name F6 (by walk_at "mvar") (ar_nil ⟨.refl _, ?_⟩)))))))
  refine W.mono (hls_c (F6.keep.gd G) (R.less (m := 1) (by omega)) o5) ?_
  rintro _ h7 ⟨k7, a7, w1, w2, w3, rfl, _, _, p7⟩
  have F7 := k7.frm F6
  refine ev_int fun _ => sub_tup p7 (by decide) (by decide) rfl (ev_name F7 (by walk_at "mvar") (cm_nef (tr_bool ?_)))
  have n7 : (Float64.cmp (hlsF (fdivI s1 8) (fdivI s2 8) (fdivI s3 8)).1 hu != some Ordering.eq) = false := by
    have : (Float64.cmp (hlsF (fdivI s1 8) (fdivI s2 8) (fdivI s3 8)).1 hu == some Ordering.eq) = true := o7
    rw [bne, this]; rfl
  rw [n7]
  refine at_or_nil (ex_nil ?_)
  -- third
  refine ex_cons (ex_set (ev_call (ev_glob F7 G.g_int (by walk_at "mkind") (cw_ty (ar_cons (ev_bin (ev_int fun _ => ev_name F7 (by walk_at "mvar") (op_mulif (by decide) fun _ => ar_nil (ca_intf e1 fun _ => ?_)))))))))
  refine st_name F7 (.inl (by walk_at "mkind")) fun h8 F8 V8 U8 K8 => ?_
  -- aside
  refine ex_cons (ex_set (ev_call (ev_glob F8 G.g_min (by walk_at "mkind") (cw_bi (ar_cons (ev_bin (ev_bin (ev_int fun _ => ev_name F8 (by walk_at "mvar") (op_mulif (by decide) fun _ => ev_name F8 V8 (op_subfi (by omega) fun _ => ar_cons ?_)))))))))) 
  refine ev_bin (ev_bin (ev_name F8 V8 (ev_int fun _ => op_add fun _ => ev_bin (ev_int fun _ => ev_name F8 (by walk_at "mvar") (op_mulif (by decide) fun _ => op_subif (by omega) fun _ => ar_nil (ca_min2 R.hand fun h9 _ k9 => ?_))))))
  refine st_name (k9.frm F8) (.inl (by walk_at "mkind")) fun h10 F10 V10 U10 K10 => ?_
  -- amount
  refine ex_cons (ex_set (ev_call (ev_glob F10 G.g_int (by walk_at "mkind") (cw_ty (ar_cons ?_)))))
  refine ev_bin (ev_bin (ev_bin (ev_bin (ev_bin (ev_bin ?_)))))
  refine ev_int fun _ => ev_name F10 V10 (op_mulif (by decide) fun _ => ?_)
  refine ev_name F10 (by walk_at "mvar") (op_mulf fun _ => ?_)
  refine ev_name F10 (by walk_at "mvar") (op_mulf fun _ => ?_)
  refine ev_name F10 (by walk_at "mvar") (op_mulf fun _ => ?_)
  refine ev_name F10 (by walk_at "mvar") (op_mulf fun _ => ?_)
  refine ev_float fun _ _ => op_addf fun _ => ar_nil (ca_intf e2 fun _ => ?_)
  refine st_name F10 (.inl (by walk_at "mkind")) fun h11 F11 V11 U11 K11 => ?_
  -- middles
  have pM11 : h11.PlainList a ws.toArray := by walk_at "mpl"
  refine ex_cons (ex_set (ev_bin (ev_name F11 (by walk_at "mvar") ?_)))
  refine ev_bin (ev_listP (ar_cons (ev_sub (ev_listP (ar_cons ?_)))))
  refine ev_name F11 (by walk_at "mvar") (ar_cons ?_)
  refine ev_name F11 (by walk_at "mvar") (ar_cons ?_)
  refine ev_name F11 (by walk_at "mvar") (ar_nil ⟨by simp [hsz], fun h12 a12 k12 _ p12 => ?_⟩)
  have F12 := k12.frm F11
  have pk : ∃ tok, [Value.int (j : Int) tj, .int (k : Int) tk, .int (i : Int) ti].toArray[ti'.toNat]? = some (.int ((pickT i j k ti'.toNat : Nat) : Int) tok) := by
    have : ti' = 0 ∨ ti' = 1 ∨ ti' = 2 := by omega
    rcases this with rfl | rfl | rfl
    · exact ⟨_, rfl⟩
    · exact ⟨_, rfl⟩
    · exact ⟨_, rfl⟩
  obtain ⟨tok, epk⟩ := pk
  refine ev_name F12 (by walk_at "mvar") (sub_list p12.isList b1 (by omega) epk (ar_nil ⟨by simp [hsz], fun h13 a13 k13 _ p13 => ?_⟩))
  have F13 := k13.frm F12
  have emi : mi' = ((mi'.toNat : Nat) : Int) := by omega
  refine ev_name F13 (v := .int ((mi'.toNat : Nat) : Int) _) (by rw [← emi]; walk_at "mvar") (op_mul1 p13 (by omega) fun h14 a14 k14 _ p14 => ?_)
  have l1 := iM.length
  refine op_addl (Heap.PlainList.isList (k14.pl (k13.pl (k12.pl pM11)))) p14.isList (by simp; omega) fun h15 a15 k15 _ p15 => ?_
  refine st_name (k15.frm (k14.frm F13)) (.inl (by walk_at "mkind")) fun h16 F16 V16 U16 K16 => ex_nil ?_
  refine rest h16 a15 _ F16 V16 (K16.pl p15) (iM.append (IntsR.rep _ _ _)) ?_ ?_
  · intro y u hy hv
    have hne : ∀ x ∈ ([("hue" : Str), "share", "level", "third", "aside", "amount", "middles"] : List Str), y ≠ x := by
      revert hy
      simp only [List.mem_cons, List.not_mem_nil, or_false]
      rintro (rfl | rfl | rfl) x (rfl | rfl | rfl | rfl | rfl | rfl | rfl) <;> decide +kernel
    exact U16.var (hne _ (by simp)) (k15.var (k14.var (k13.var (k12.var (U11.var (hne _ (by simp)) (U10.var (hne _ (by simp)) (k9.var (U8.var (hne _ (by simp)) (k7.var (k6.var (U5.var (hne _ (by simp)) (U4.var (hne _ (by simp)) (U3.var (hne _ (by simp)) (k2.var (k1.var hv)))))))))))))))
  · exact (k1.trans k2).hard.trans (K3.trans (K4.trans (K5.trans ((k6.trans k7).hard.trans (K8.trans (k9.hard.trans (K10.trans (K11.trans ((k12.trans (k13.trans (k14.trans k15))).hard.trans K16)))))))))
end

open PySem PySem.W PyProof.Rows PySem.SeqAt
def thrL : List (Nat × Nat × Nat) := (List.range' 0 5).flatMap fun k => (List.range' 0 k).flatMap fun j => (List.range' 0 j).flatMap fun i => [(i, j, k)]
def eT (p : Nat × Nat × Nat) : PyData := threeD p.1 p.2.1 p.2.2
theorem thr_eq : thrL.map eT = threesD := by rfl
theorem mem_thr {p : Nat × Nat × Nat} (hp : p ∈ thrL) : p.1 < p.2.1 ∧ p.2.1 < p.2.2 ∧ p.2.2 < 5 := by
  revert p; decide
def midP (tv0 tv1 : Nat → List Str) (p : Nat × Nat × Nat) : Option (Nat × Nat) := midF (sumS tv0 tv1 p.1 p.2.1) (sumS tv0 tv1 p.2.1 p.2.2) (sumS tv0 tv1 p.1 p.2.2)
def midL (tv0 tv1 : Nat → List Str) (p : Nat × Nat × Nat) : List Int := match midP tv0 tv1 p with | some (t, m) => List.replicate m ((pickT p.1 p.2.1 p.2.2 t : Nat) : Int) | none => []

theorem midF_le {s1 s2 s3 : Int} {t m : Nat} (h : midF s1 s2 s3 = some (t, m)) : m ≤ 100 ∧ finI s1 8 = true ∧ finI s2 8 = true ∧ finI s3 8 = true := by
  unfold midF at h
  dsimp only at h
  split at h
  case isFalse => cases h
  rename_i hcond
  simp only [Bool.and_eq_true] at hcond
  split at h
  case h_2 => cases h
  split at h
  case h_2 => cases h
  split at h
  case isFalse => cases h
  rename_i hb4
  simp only [Bool.and_eq_true, decide_eq_true_eq] at hb4
  have hm' := by simpa using h
  refine ⟨by omega, hcond.1.1.1.1.1.1, hcond.1.1.1.1.1.2, hcond.1.1.1.1.2⟩

section
variable {c : Cx} {A : Around} {h h' hb : Heap} {env : Env}

set_option maxHeartbeats 8000000 in
theorem law_mid {n : Nat} {N L : Addr} {tv0 tv1 : Nat → List Str} {v3 : Value} {dsL : List PyData} {Q : Flow → Heap → Prop} (G : Gd hb) (R : Room (n + 4) A) (F : Frm hb env h)
    (hk : ∀ x, env.kindOf x = (fsc 14).names.lookup x) (hc : ∀ x, (fsc 14).names.lookup x = some .cell → (env.cells.lookup x).isSome = true) (hmid : ∀ p ∈ thrL, (midP tv0 tv1 p).isSome = true)
    (vN : Var env h "nears" (.ref N)) (vL : Var env h "ladders" (.ref L)) (v3' : Var env h "threes" v3) (d3 : Dat (fun _ => True) h v3 (.list threesD)) (dN : Dat (fun _ => True) h (.ref N) (.list [nearD tv0, nearD tv1])) (dL : Dat (fun _ => True) h (.ref L) (.list dsL))
    (rest : ∀ h' a ws, Frm hb env h' → Var env h' "middles" (.ref a) → h'.PlainList a (List.toArray ws) → IntsR ws (thrL.flatMap (midL tv0 tv1)) → Var env h' "ladders" (.ref L) → Dat (fun _ => True) h' (.ref L) (.list dsL) → W c A (execs ((fbd 14).drop 8) env) h' Q) :
    W c A (execs ((fbd 14).drop 6) env) h Q := by
  refine ex_cons (ex_set (ev_listP (ar_nil ⟨by simp, fun h1 a1 k1 n1 p1 => ?_⟩)))
  refine st_name (k1.frm F) (.inl (by walk_at "mkind")) fun h0 F0 vM U0 K0 => ?_
  obtain ⟨a3, vs3, rfl, _, p3, r3⟩ := id d3.list_inv
  have d30 := K0.dat (k1.dat d3)
  have dN0 := K0.dat (k1.dat dN)
  have dL0 := K0.dat (k1.dat dL)
  have vN0 := U0.var (by decide +kernel) (k1.var vN)
  have vL0 := U0.var (by decide +kernel) (k1.var vL)
  have v30 := U0.var (by decide +kernel) (k1.var v3')
  have hlen : ∀ i, ((thrL.take i).flatMap (midL tv0 tv1)).length ≤ 1000 := by
    intro i
    have h1 : ∀ l : List (Nat × Nat × Nat), (l.flatMap (midL tv0 tv1)).length ≤ 100 * l.length := by
      intro l
      induction l with
      | nil => simp
      | cons p r ih =>
        rw [List.flatMap_cons, List.length_append, List.length_cons]
        have : (midL tv0 tv1 p).length ≤ 100 := by
          unfold midL
          split
          · rename_i t m e; rw [List.length_replicate]; exact (midF_le e).1
          · simp
        omega
    have h2 := h1 (thrL.take i)
    have h3 : (thrL.take i).length ≤ 10 := by rw [List.length_take]; have : thrL.length = 10 := by decide
                                              omega
    omega
  refine ex_cons (ex_for2 (L := []) (rd := [a3]) F0 (ev_name F0 v30 ⟨.refl _, itr_dat R.hand (xs := thrL) (e := eT) (by rw [thr_eq]; exact d30) fun I h3 St a e _ k3 It st => ?_⟩))
  cases e
  refine ⟨I, _, _, St, fun i h' => ∃ a ws, Var env h' "middles" (.ref a) ∧ h'.PlainList a (List.toArray ws) ∧ IntsR ws ((thrL.take i).flatMap (midL tv0 tv1)) ∧ (Var env h' "nears" (.ref N) ∧ Var env h' "ladders" (.ref L) ∧ Var env h' "threes" (.ref a3)) ∧
    (∀ b vs, h0.PlainList b vs → h'.PlainList b vs), rfl, It, k3, st, (fun b hb => by cases hb), (fun b hb hb' => by cases hb'), ?_, ?_, ?_⟩
  · exact ⟨a1, [], k3.var vM, k3.pl (K0.pl p1), by simpa using IntsR.nil, ⟨k3.var vN0, k3.var vL0, k3.var v30⟩, fun _ _ p => k3.pl p⟩
  · rintro i v h4 h' hi ⟨p, ep, dp⟩ ⟨a, ws, vM', pM', iM', ⟨w1, w2, w3⟩, KA⟩ kn kI F4
    have hp := mem_thr (List.mem_of_getElem? ep)
    obtain ⟨⟨t, m⟩, em⟩ := Option.isSome_iff_exists.mp (hmid p (List.mem_of_getElem? ep))
    obtain ⟨pi, pj, pk⟩ := p
    dsimp only at hp
    have em' : midF (sumS tv0 tv1 pi pj) (sumS tv0 tv1 pj pk) (sumS tv0 tv1 pi pk) = some (t, m) := em
    have hf := midF_le em'
    have htake : (thrL.take (i + 1)).flatMap (midL tv0 tv1) = (thrL.take i).flatMap (midL tv0 tv1) ++ List.replicate m ((pickT pi pj pk t : Nat) : Int) := by
      rw [List.take_succ, ep]
      have : midL tv0 tv1 (pi, pj, pk) = List.replicate m ((pickT pi pj pk t : Nat) : Int) := by unfold midL; rw [em]
      simp [List.flatMap_append, this]
    obtain ⟨l, us, rfl, _, pl', rl⟩ := dp.list_inv
    have el : ∃ x1 x2 x3, us = [.int (pi : Int) x1, .int (pj : Int) x2, .int (pk : Int) x3] := by
      have := DatAll.ints rl
      cases this with | cons _ x1 r1 => cases r1 with | cons _ x2 r2 => cases r2 with | cons _ x3 r4 => cases r4; exact ⟨x1, x2, x3, rfl⟩
    obtain ⟨x1, x2, x3, rfl⟩ := el
    have K4 : ∀ b vs, h0.PlainList b vs → h4.PlainList b vs := fun b vs q => kn.pl (KA b vs q)
    refine as_list R.hand (K4 _ _ pl').isList rfl rfl fun h5 k5 => ao_cons (st_name (k5.frm F4) (.inr ⟨(hk _).trans (by kernel_rfl), hc _ (by kernel_rfl)⟩) fun h6 F6 V6 U6 K6 => ao_cons (st_name F6 (.inl (by walk_at "mkind")) fun h7 F7 V7 U7 K7 => ao_cons (st_name F7 (.inl (by walk_at "mkind")) fun h8 F8 V8 U8 K8 => ao_nil ?_)))
    have kh8 : KeepH h4 h8 := k5.hard.trans (K6.trans (K7.trans K8))
    have dN8 : Dat (fun _ => True) h8 (.ref N) (.list [nearD tv0, nearD tv1]) := kh8.dat (dN0.tr fun _ _ o q => ⟨o, K4 _ _ q⟩)
    have up8 : ∀ y u, y ≠ ("i" : Str) → y ≠ ("j" : Str) → y ≠ ("k" : Str) → Var env h' y u → Var env h8 y u := fun y u n1 n2 n3 hv => U8.var n3 (U7.var n2 (U6.var n1 (k5.var (kn.var hv))))
    refine mid_rgb G R F8 hk hc hp.1 hp.2.1 hp.2.2 (U8.var (by decide +kernel) (U7.var (by decide +kernel) V6)) (U8.var (by decide +kernel) V7) V8 (up8 _ _ (by decide +kernel) (by decide +kernel) (by decide +kernel) w1) dN8 hf.2.1 hf.2.2.1 hf.2.2.2 fun h9 t1 t2 t3 F9 vr vg vb VV K9 => ?_
    have rgb : ∀ y, y ∈ ([("nears" : Str), "ladders", "threes", "middles"] : List Str) → ∀ u, Var env h' y u → Var env h9 y u := by
      intro y hy u hv
      have hne : ∀ x ∈ ([("i" : Str), "j", "k", "red", "green", "blue"] : List Str), y ≠ x := by
        revert hy
        simp only [List.mem_cons, List.not_mem_nil, or_false]
        rintro (rfl | rfl | rfl | rfl) x (rfl | rfl | rfl | rfl | rfl | rfl) <;> decide +kernel
      exact VV y u (hne _ (by simp)) (hne _ (by simp)) (hne _ (by simp)) (up8 y u (hne _ (by simp)) (hne _ (by simp)) (hne _ (by simp)) hv)
    refine mid_rest G R F9 hk hc em' (VV _ _ (by decide +kernel) (by decide +kernel) (by decide +kernel) (U8.var (by decide +kernel) (U7.var (by decide +kernel) V6))) (VV _ _ (by decide +kernel) (by decide +kernel) (by decide +kernel) (U8.var (by decide +kernel) V7)) (VV _ _ (by decide +kernel) (by decide +kernel) (by decide +kernel) V8) vr vg vb
      (rgb _ (by simp) _ vM') (K9.pl (kh8.pl (kn.pl pM'))) iM' (by have := hlen i; omega) fun h10 a' ws' F10 vM10 pM10 iM10 V10 K10 => ?_
    refine ⟨⟨a', ws', vM10, pM10, by rw [htake]; exact iM10, ⟨V10 _ _ (by simp) (rgb _ (by simp) _ w1), V10 _ _ (by simp) (rgb _ (by simp) _ w2), V10 _ _ (by simp) (rgb _ (by simp) _ w3)⟩, fun b vs q => K10.pl (K9.pl (kh8.pl (K4 b vs q)))⟩, F10, (kh8.trans (K9.trans K10)).kh⟩
  · rintro h4 h' ⟨a, ws, vM', pM', iM', ⟨w1, w2, w3⟩, KA⟩ kn kI F4
    rw [List.take_length] at iM'
    exact rest h4 a ws F4 (kn.var vM') (kn.pl pM') iM' (kn.var w2) (dL0.tr fun _ _ o p => ⟨o, kn.pl (KA _ _ p)⟩)
end

open PySem PySem.W PyProof.Rows PySem.SeqAt
def thb : List Stmt := match (fbd 14)[8]? with | some (PySem.Stmt.For _ _ b _ _) => b | _ => []
def fib : List Stmt := match thb[1]? with | some (PySem.Stmt.For _ _ b _ _) => b | _ => []
def seb : List Stmt := match fib[0]? with | some (PySem.Stmt.For _ _ b _ _) => b | _ => []
def hereP (tv0 tv1 : Nat → List Str) (f s : Str) (c : Nat) : Bool := (uvS (tv0 c)).any (· == f) && !(uvS (tv1 c)).any (· == s)
def thereP (tv0 tv1 : Nat → List Str) (f s : Str) (c : Nat) : Bool := (uvS (tv1 c)).any (· == s) && !(uvS (tv0 c)).any (· == f)
def hereN (tv0 tv1 : Nat → List Str) (f s : Str) : Nat := (R5.filter (hereP tv0 tv1 f s)).length
def thereN (tv0 tv1 : Nat → List Str) (f s : Str) : Nat := (R5.filter (thereP tv0 tv1 f s)).length

theorem mul_small {x y : Nat} (hx : x ≤ 5) (_ : y ≤ 5) : IntMulOk (x : Int) (y : Int) := by
  exact IntMulOk.of_left (intBits_le_64 (by omega) (by omega))

section
variable {c : Cx} {A : Around} {h h' hb : Heap} {env : Env}

set_option maxHeartbeats 8000000 in
theorem sec_body {n : Nat} {L : Addr} {tv0 tv1 : Nat → List Str} {okl : Addr → Prop} {f s : Str} {d : Int} {tf ts td : Tok} {Q : Flow → Heap → Prop} (G : Gd hb) (R : Room (n + 4) A) (F : Frm hb env h)
    (hk : ∀ x, env.kindOf x = (fsc 14).names.lookup x) (hc : ∀ x, (fsc 14).names.lookup x = some .cell → (env.cells.lookup x).isSome = true)
    (vL : Var env h "ladders" (.ref L)) (dL : Dat okl h (.ref L) (.list [upsD tv0, upsD tv1])) (vF : Var env h "first" (.str f tf)) (vS : Var env h "second" (.str s ts)) (vD : Var env h "due" (.int d td))
    (rest : ∀ h' t, Frm hb env h' → Var env h' "due" (.int (d + (hereN tv0 tv1 f s : Int) * (thereN tv0 tv1 f s : Int)) t) → (∀ y u, y ≠ ("here" : Str) → y ≠ ("there" : Str) → y ≠ ("due" : Str) → Var env h y u → Var env h' y u) → KeepH h h' → Q .next h') :
    W c A (execs seb env) h Q := by
  refine ex_cons (ex_compL (fun _ => True) R5 (fun i => .int (i : Int)) (hereP tv0 tv1 f s) (fun i => .int (i : Int)) F (by kernel_rfl) (free_def hk hc (by kernel_rfl)) (fun _ => rfl) (by walk_at "mkind") (sw_loc (block_of F) (by walk_at "mkind") (by kernel_rfl) (by kernel_rfl)) ?_)
  refine ev_call (ev_glob F G.g_range (by walk_at "mkind") (cw_ty (ar_cons (ev_int fun _ => ar_nil (ca_range (n := 5) fun h1 r1 _ _ k1 x1 => ⟨k1, it_nats (ok := fun _ => True) R.hand (range_of x1) (by omega) fun I h2 St k2 It st => ⟨_, ⟨I, St, rfl, k2, It, st, by simp [R5]⟩, ?_, ?_⟩⟩)))))
  · intro cenv CE i v hh hi dv kk F'
    obtain ⟨tx, rfl⟩ := dv.int_inv
    have hi5 := r5_mem hi
    refine as_nameK CE F' (.inl (by kernel_rfl)) fun h3 F3 O3 V3 U3 K3 => ⟨F3, O3, te_one (tr_boolop (at_and ?_))⟩
    have vL3 : Var cenv h3 "ladders" (.ref L) := U3.var (by decide +kernel) (CE.fre _ _ _ (by kernel_rfl) (kk.var (k1.var vL)))
    have vF3 : Var cenv h3 "first" (.str f tf) := U3.var (by decide +kernel) (CE.fre _ _ _ (by kernel_rfl) (kk.var (k1.var vF)))
    have vS3 : Var cenv h3 "second" (.str s ts) := U3.var (by decide +kernel) (CE.fre _ _ _ (by kernel_rfl) (kk.var (k1.var vS)))
    have dL3 := K3.dat (kk.dat (k1.dat dL))
    refine tr_cmp (ev_name F3 vF3 (ev_sub (ev_sub (ev_name F3 vL3 (ev_int fun _ => sub_dat (i := 0) dL3 rfl (by omega) fun w dw => ?_)))))
    obtain ⟨b1, _, rfl, _, _, _⟩ := id dw.list_inv
    refine ev_name F3 V3 (sub_dat dw (r5_at (fun i => eLS (uvS (tv0 i))) hi5) (by omega) fun w2 dw2 => ?_)
    obtain ⟨b2, vs2, rfl, _, p2, r2⟩ := dw2.list_inv
    refine cm_in p2.isList r2.strs (tr_bool ?_)
    by_cases q1 : (uvS (tv0 i)).any (· == f) = true
    · rw [q1]
      refine at_and (tr_cmp (ev_name F3 vS3 (ev_sub (ev_sub (ev_name F3 vL3 (ev_int fun _ => sub_dat (i := 1) dL3 rfl (by omega) fun w dw => ?_))))))
      obtain ⟨b3, _, rfl, _, _, _⟩ := id dw.list_inv
      refine ev_name F3 V3 (sub_dat dw (r5_at (fun i => eLS (uvS (tv1 i))) hi5) (by omega) fun w4 dw4 => ?_)
      obtain ⟨b4, vs4, rfl, _, p4, r4⟩ := dw4.list_inv
      refine cm_notin p4.isList r4.strs (tr_bool ?_)
      by_cases q2 : (uvS (tv1 i)).any (· == s) = true
      · rw [q2]
        exact ⟨.refl _, by simp [hereP, q1, q2], fun e => by cases e⟩
      · rw [Bool.eq_false_iff.mpr q2]
        exact at_and_nil ⟨.refl _, by simp only [hereP, q1, Bool.eq_false_iff.mpr q2]; rfl, fun _ => ev_name F3 V3 ⟨.refl _, .int _ _, fun _ e => by cases e⟩⟩
    · rw [Bool.eq_false_iff.mpr q1]
      exact ⟨.refl _, by simp only [hereP, Bool.eq_false_iff.mpr q1]; rfl, fun e => by cases e⟩
  · intro D ys h5 F5 V5 U5 K5 n5 p5 d5
    have l5 := d5.length
    rw [List.length_map] at l5
    have up5 : ∀ y u, y ≠ ("here" : Str) → Var env h y u → Var env h5 y u := fun y u n hv => U5.var n (k1.var hv)
    have vL5 := up5 _ _ (by decide +kernel) vL
    have vF5 := up5 _ _ (by decide +kernel) vF
    have vS5 := up5 _ _ (by decide +kernel) vS
    have vD5 := up5 _ _ (by decide +kernel) vD
    have dL5 := K5.dat (k1.dat dL)
    have G5 : List.length (R5.filter (hereP tv0 tv1 f s)) ≤ 5 := Nat.le_trans (List.length_filter_le _ _) (by simp [R5])
    have G6 : List.length (R5.filter (thereP tv0 tv1 f s)) ≤ 5 := Nat.le_trans (List.length_filter_le _ _) (by simp [R5])
    refine ex_cons (ex_compL (fun _ => True) R5 (fun i => .int (i : Int)) (thereP tv0 tv1 f s) (fun i => .int (i : Int)) F5 (by kernel_rfl) (free_def hk hc (by kernel_rfl)) (fun _ => rfl) (by walk_at "mkind") (sw_loc (block_of F5) (by walk_at "mkind") (by kernel_rfl) (by kernel_rfl)) ?_)
    refine ev_call (ev_glob F5 G.g_range (by walk_at "mkind") (cw_ty (ar_cons (ev_int fun _ => ar_nil (ca_range (n := 5) fun h6 r6 _ _ k6 x6 => ⟨k6, it_nats (ok := fun _ => True) R.hand (range_of x6) (by omega) fun I h7 St k7 It st => ⟨_, ⟨I, St, rfl, k7, It, st, by simp [R5]⟩, ?_, ?_⟩⟩)))))
    · intro cenv CE i v hh hi dv kk F'
      obtain ⟨tx, rfl⟩ := dv.int_inv
      have hi5 := r5_mem hi
      refine as_nameK CE F' (.inl (by kernel_rfl)) fun h3 F3 O3 V3 U3 K3 => ⟨F3, O3, te_one (tr_boolop (at_and ?_))⟩
      have vL3 : Var cenv h3 "ladders" (.ref L) := U3.var (by decide +kernel) (CE.fre _ _ _ (by kernel_rfl) (kk.var (k6.var vL5)))
      have vF3 : Var cenv h3 "first" (.str f tf) := U3.var (by decide +kernel) (CE.fre _ _ _ (by kernel_rfl) (kk.var (k6.var vF5)))
      have vS3 : Var cenv h3 "second" (.str s ts) := U3.var (by decide +kernel) (CE.fre _ _ _ (by kernel_rfl) (kk.var (k6.var vS5)))
      have dL3 := K3.dat (kk.dat (k6.dat dL5))
      refine tr_cmp (ev_name F3 vS3 (ev_sub (ev_sub (ev_name F3 vL3 (ev_int fun _ => sub_dat (i := 1) dL3 rfl (by omega) fun w dw => ?_)))))
      obtain ⟨b1, _, rfl, _, _, _⟩ := id dw.list_inv
      refine ev_name F3 V3 (sub_dat dw (r5_at (fun i => eLS (uvS (tv1 i))) hi5) (by omega) fun w2 dw2 => ?_)
      obtain ⟨b2, vs2, rfl, _, p2, r2⟩ := dw2.list_inv
      refine cm_in p2.isList r2.strs (tr_bool ?_)
      by_cases q1 : (uvS (tv1 i)).any (· == s) = true
      · rw [q1]
        refine at_and (tr_cmp (ev_name F3 vF3 (ev_sub (ev_sub (ev_name F3 vL3 (ev_int fun _ => sub_dat (i := 0) dL3 rfl (by omega) fun w dw => ?_))))))
        obtain ⟨b3, _, rfl, _, _, _⟩ := id dw.list_inv
        refine ev_name F3 V3 (sub_dat dw (r5_at (fun i => eLS (uvS (tv0 i))) hi5) (by omega) fun w4 dw4 => ?_)
        obtain ⟨b4, vs4, rfl, _, p4, r4⟩ := dw4.list_inv
        refine cm_notin p4.isList r4.strs (tr_bool ?_)
        by_cases q2 : (uvS (tv0 i)).any (· == f) = true
        · rw [q2]
          exact ⟨.refl _, by simp [thereP, q1, q2], fun e => by cases e⟩
        · rw [Bool.eq_false_iff.mpr q2]
          exact at_and_nil ⟨.refl _, by simp only [thereP, q1, Bool.eq_false_iff.mpr q2]; rfl, fun _ => ev_name F3 V3 ⟨.refl _, .int _ _, fun _ e => by cases e⟩⟩
      · rw [Bool.eq_false_iff.mpr q1]
        exact ⟨.refl _, by simp only [thereP, Bool.eq_false_iff.mpr q1]; rfl, fun e => by cases e⟩
    · intro D2 zs h8 F8 V8 U8 K8 n8 p8 d8
      have l8 := d8.length
      rw [List.length_map] at l8
      have vH8 : Var env h8 "here" (.ref D) := U8.var (by decide +kernel) (k6.var V5)
      have pH8 := K8.pl (k6.pl p5)
      have vD8 : Var env h8 "due" (.int d td) := U8.var (by decide +kernel) (k6.var vD5)
      refine ex_cons (ex_set (ev_bin (ev_name F8 vD8 (ev_bin ?_))))
      refine ev_call (ev_glob F8 G.g_len (by walk_at "mkind") (cw_bi (ar_cons (ev_name F8 vH8 (ar_nil (ca_len pH8.isList (by omega) fun _ => ?_))))))
      refine ev_call (ev_glob F8 G.g_len (by walk_at "mkind") (cw_bi (ar_cons (ev_name F8 V8 (ar_nil (ca_len p8.isList (by omega) fun _ => ?_))))))
      rw [l5, l8]
      refine op_mul ?_ fun _ => op_add fun _ => ?_
      · have a1 : hereN tv0 tv1 f s ≤ 5 := G5
        have a2 : thereN tv0 tv1 f s ≤ 5 := G6
        show IntMulOk ((hereN tv0 tv1 f s : Nat) : Int) ((thereN tv0 tv1 f s : Nat) : Int)
        generalize hereN tv0 tv1 f s = x at a1
        generalize thereN tv0 tv1 f s = y at a2
        exact mul_small a1 a2
      · refine st_name F8 (.inl (by walk_at "mkind")) fun h9 F9 V9 U9 K9 => ex_nil ?_
        exact rest h9 _ F9 V9 (fun y u n1 n2 n3 hv => U9.var n3 (U8.var n2 (k6.var (up5 y u n1 hv)))) (k1.hard.trans (K5.trans (k6.hard.trans (K8.trans K9))))
end

open PySem PySem.W PyProof.Rows PySem.SeqAt
def exS : List Str := ["here", "there", "due", "second"]
def exF : List Str := ["here", "there", "due", "second", "first"]
def exT : List Str := ["here", "there", "due", "second", "first", "thing"]
/-- the names but ex hold what they held -/
def KV (ex : List Str) (env : Env) (h h' : Heap) : Prop := ∀ y u, ex.contains y = false → Var env h y u → Var env h' y u
def secN (tv0 tv1 : Nat → List Str) (f : Str) (ss : List Str) : Nat := (ss.map fun s => hereN tv0 tv1 f s * thereN tv0 tv1 f s).sum
def fstN (tv0 tv1 : Nat → List Str) (x : Nat) (fs : List Str) : Nat := (fs.map fun f => secN tv0 tv1 f (uvS (tv1 x))).sum
def dueN (tv0 tv1 : Nat → List Str) (x : Nat) : Nat := fstN tv0 tv1 x (uvS (tv0 x))

theorem sum_take {α : Type} (g : α → Nat) (l : List α) {i : Nat} {x : α} (e : l[i]? = some x) : ((l.take (i + 1)).map g).sum = ((l.take i).map g).sum + g x := by
  rw [List.take_add_one, e]; simp [List.sum_append]

section
variable {c : Cx} {A : Around} {h h' h1 h3 hb : Heap} {env : Env}

theorem keep_it {I : Addr} (hf : h1.get? I = none) (k : KeepH h1 h') (kI : KeepB I h' h3) : KeepH h1 h3 :=
  fun b o ho e => kI b o (by rintro rfl; rw [hf] at e; cases e) (k b o ho e)
theorem KV.ne {ex : List Str} {y z : Str} (hy : ex.contains y = false) (hz : ex.contains z = true) : y ≠ z := by
  rintro rfl; rw [hy] at hz; cases hz

set_option maxHeartbeats 8000000 in
theorem sec_loop {n x d : Nat} {L : Addr} {tv0 tv1 : Nat → List Str} {okl : Addr → Prop} {f : Str} {tf tx td : Tok} {Q : Flow → Heap → Prop} (G : Gd hb) (R : Room (n + 4) A) (F : Frm hb env h)
    (hk : ∀ x, env.kindOf x = (fsc 14).names.lookup x) (hc : ∀ x, (fsc 14).names.lookup x = some .cell → (env.cells.lookup x).isSome = true) (hx : x < 5)
    (vL : Var env h "ladders" (.ref L)) (dL : Dat okl h (.ref L) (.list [upsD tv0, upsD tv1])) (vF : Var env h "first" (.str f tf)) (vX : Var env h "thing" (.int (x : Int) tx)) (vD : Var env h "due" (.int (d : Int) td))
    (rest : ∀ h' t, Frm hb env h' → Var env h' "due" (.int ((d + secN tv0 tv1 f (uvS (tv1 x)) : Nat) : Int) t) → KV exS env h h' → KeepH h h' → Q .next h') :
    W c A (execs fib env) h Q := by
  obtain ⟨_, vsL, e0, _, pL, rL⟩ := id dL.list_inv
  cases e0
  obtain ⟨w, e1, dw⟩ := rL.at 1 _ rfl
  obtain ⟨b, us, rfl, _, pb, rb⟩ := id dw.list_inv
  obtain ⟨w2, e2, dw2⟩ := rb.at x _ (r5_at (fun i => eLS (uvS (tv1 i))) hx)
  obtain ⟨a, ss, rfl, _, pa, ra⟩ := id dw2.list_inv
  refine ex_cons (ex_for2 (L := []) (rd := [a]) F (ev_sub (ev_sub (ev_name F vL (ev_int fun _ => sub_list pL.isList (by omega) (by omega) (by simpa using e1) ?_)))))
  refine ev_name F vX (sub_list pb.isList (by omega) (by omega) (by simpa using e2) ⟨.refl _, itr_dat R.hand (xs := uvS (tv1 x)) (e := PyData.str) dw2 fun I h3 St a' e _ k3 It st => ?_⟩)
  cases e
  refine ⟨I, _, _, St, fun i h' => (∃ t, Var env h' "due" (.int ((d + secN tv0 tv1 f ((uvS (tv1 x)).take i) : Nat) : Int) t)) ∧ KV exS env h h' ∧ KeepH h h', rfl, It, k3, st, (fun b hb => by cases hb), (fun b hb hb' => by cases hb'), ?_, ?_, ?_⟩
  · exact ⟨⟨td, k3.var vD⟩, fun y u _ hv => k3.var hv, k3.hard⟩
  · rintro i v h4 h' hi ⟨s, es, ds⟩ ⟨⟨t, vd⟩, kv, kh⟩ kn kI F4
    obtain ⟨ts, rfl⟩ := ds.str_inv
    refine as_st (st_name F4 (.inr ⟨(hk _).trans (by kernel_rfl), hc _ (by kernel_rfl)⟩) fun h5 F5 vS5 U5 K5 => ?_)
    have kh5 : KeepH h h5 := (keep_it It.fresh kh kI).trans K5
    have kv5 : KV exS env h h5 := fun y u hy hv => U5.var (KV.ne hy (by decide +kernel)) (kn.var (kv y u hy hv))
    refine sec_body G R F5 hk hc (kv5 _ _ (by decide +kernel) vL) (kh5.dat dL) (kv5 _ _ (by decide +kernel) vF) vS5 (U5.var (by decide +kernel) (kn.var vd)) fun h6 t6 F6 vD6 kv6 kh6 => ?_
    refine ⟨⟨⟨t6, ?_⟩, fun y u hy hv => kv6 y u (KV.ne hy (by decide +kernel)) (KV.ne hy (by decide +kernel)) (KV.ne hy (by decide +kernel)) (kv5 y u hy hv), kh5.trans kh6⟩, F6, (K5.trans kh6).kh⟩
    have e : d + secN tv0 tv1 f ((uvS (tv1 x)).take (i + 1)) = (d + secN tv0 tv1 f ((uvS (tv1 x)).take i)) + hereN tv0 tv1 f s * thereN tv0 tv1 f s := by
      unfold secN; rw [sum_take _ _ es, Nat.add_assoc]
    rw [e, Int.natCast_add, Int.natCast_mul]
    exact vD6
  · rintro h4 h' ⟨⟨t, vd⟩, kv, kh⟩ kn kI F4
    rw [List.take_length] at vd
    exact ex_nil (rest h4 t F4 (kn.var vd) (fun y u hy hv => kn.var (kv y u hy hv)) (keep_it It.fresh kh kI))

set_option maxHeartbeats 8000000 in
theorem fst_loop {n x d : Nat} {L : Addr} {tv0 tv1 : Nat → List Str} {okl : Addr → Prop} {tx td : Tok} {Q : Flow → Heap → Prop} (G : Gd hb) (R : Room (n + 4) A) (F : Frm hb env h)
    (hk : ∀ x, env.kindOf x = (fsc 14).names.lookup x) (hc : ∀ x, (fsc 14).names.lookup x = some .cell → (env.cells.lookup x).isSome = true) (hx : x < 5)
    (vL : Var env h "ladders" (.ref L)) (dL : Dat okl h (.ref L) (.list [upsD tv0, upsD tv1])) (vX : Var env h "thing" (.int (x : Int) tx)) (vD : Var env h "due" (.int (d : Int) td))
    (rest : ∀ h' t, Frm hb env h' → Var env h' "due" (.int ((d + dueN tv0 tv1 x : Nat) : Int) t) → KV exF env h h' → KeepH h h' → W c A (execs (thb.drop 2) env) h' Q) :
    W c A (execs (thb.drop 1) env) h Q := by
  obtain ⟨_, vsL, e0, _, pL, rL⟩ := id dL.list_inv
  cases e0
  obtain ⟨w, e1, dw⟩ := rL.at 0 _ rfl
  obtain ⟨b, us, rfl, _, pb, rb⟩ := id dw.list_inv
  obtain ⟨w2, e2, dw2⟩ := rb.at x _ (r5_at (fun i => eLS (uvS (tv0 i))) hx)
  obtain ⟨a, ss, rfl, _, pa, ra⟩ := id dw2.list_inv
  refine ex_cons (ex_for2 (L := []) (rd := [a]) F (ev_sub (ev_sub (ev_name F vL (ev_int fun _ => sub_list pL.isList (by omega) (by omega) (by simpa using e1) ?_)))))
  refine ev_name F vX (sub_list pb.isList (by omega) (by omega) (by simpa using e2) ⟨.refl _, itr_dat R.hand (xs := uvS (tv0 x)) (e := PyData.str) dw2 fun I h3 St a' e _ k3 It st => ?_⟩)
  cases e
  refine ⟨I, _, _, St, fun i h' => (∃ t, Var env h' "due" (.int ((d + fstN tv0 tv1 x ((uvS (tv0 x)).take i) : Nat) : Int) t)) ∧ KV exF env h h' ∧ KeepH h h', rfl, It, k3, st, (fun b hb => by cases hb), (fun b hb hb' => by cases hb'), ?_, ?_, ?_⟩
  · exact ⟨⟨td, k3.var vD⟩, fun y u _ hv => k3.var hv, k3.hard⟩
  · rintro i v h4 h' hi ⟨f, es, ds⟩ ⟨⟨t, vd⟩, kv, kh⟩ kn kI F4
    obtain ⟨ts, rfl⟩ := ds.str_inv
    refine as_st (st_name F4 (.inr ⟨(hk _).trans (by kernel_rfl), hc _ (by kernel_rfl)⟩) fun h5 F5 vF5 U5 K5 => ?_)
    have kh5 : KeepH h h5 := (keep_it It.fresh kh kI).trans K5
    have kv5 : KV exF env h h5 := fun y u hy hv => U5.var (KV.ne hy (by decide +kernel)) (kn.var (kv y u hy hv))
    refine sec_loop G R F5 hk hc hx (kv5 _ _ (by decide +kernel) vL) (kh5.dat dL) vF5 (kv5 _ _ (by decide +kernel) vX) (U5.var (by decide +kernel) (kn.var vd)) fun h6 t6 F6 vD6 kv6 kh6 => ?_
    refine ⟨⟨⟨t6, ?_⟩, fun y u hy hv => kv6 y u ?_ (kv5 y u hy hv), kh5.trans kh6⟩, F6, (K5.trans kh6).kh⟩
    · have e : d + fstN tv0 tv1 x ((uvS (tv0 x)).take (i + 1)) = (d + fstN tv0 tv1 x ((uvS (tv0 x)).take i)) + secN tv0 tv1 f (uvS (tv1 x)) := by
        unfold fstN; rw [sum_take _ _ es, Nat.add_assoc]
      rw [e]
      exact vD6
    · revert hy
      simp only [exF, exS, List.contains_cons, Bool.or_eq_false_iff]
      exact fun q => ⟨q.1, q.2.1, q.2.2.1, q.2.2.2.1, rfl⟩
  · rintro h4 h' ⟨⟨t, vd⟩, kv, kh⟩ kn kI F4
    rw [List.take_length] at vd
    exact rest h4 t F4 (kn.var vd) (fun y u hy hv => kn.var (kv y u hy hv)) (keep_it It.fresh kh kI)

set_option maxHeartbeats 8000000 in
theorem thing_loop {n : Nat} {L M : Addr} {tv0 tv1 : Nat → List Str} {okl : Addr → Prop} {ws : List Value} {ms : List Int} {Q : Flow → Heap → Prop} (G : Gd hb) (R : Room (n + 4) A) (F : Frm hb env h)
    (hk : ∀ x, env.kindOf x = (fsc 14).names.lookup x) (hc : ∀ x, (fsc 14).names.lookup x = some .cell → (env.cells.lookup x).isSome = true)
    (hdue : ∀ x : Nat, x < 5 → ms.countP (· == (x : Int)) = dueN tv0 tv1 x)
    (vM : Var env h "middles" (.ref M)) (pM : h.PlainList M ws.toArray) (iM : IntsR ws ms) (vL : Var env h "ladders" (.ref L)) (dL : Dat okl h (.ref L) (.list [upsD tv0, upsD tv1]))
    (hQ : ∀ h', Frm hb env h' → Q (.ret (.bool true)) h') :
    W c A (execs ((fbd 14).drop 8) env) h Q := by
  refine ex_cons (ex_for2 (L := []) (rd := []) F (ev_call (ev_glob F G.g_range (by walk_at "mkind") (cw_ty (ar_cons (ev_int fun _ => ar_nil (ca_range (n := 5) fun h2 r2 _ _ k2 x2 => ⟨k2, itr_nats (ok := fun _ => True) R.hand (range_of x2) (by omega) fun I h3 St k3 It st => ?_⟩)))))))
  refine ⟨I, _, _, St, fun i h' => KV exT env h2 h' ∧ KeepH h2 h', rfl, It, k3, st, (fun b hb => by cases hb), (fun b hb => by cases hb), ?_, ?_, ?_⟩
  · exact ⟨fun y u _ hv => k3.var hv, k3.hard⟩
  · rintro i v h4 h' hi ⟨x, ex, dx⟩ ⟨kv, kh⟩ kn kI F4
    have hi5 : i < 5 := by simpa using hi
    have exi : x = i := by simpa [hi5] using ex.symm
    subst exi
    obtain ⟨tx, rfl⟩ := dx.int_inv
    refine as_st (st_name F4 (.inl (by walk_at "mkind")) fun h5 F5 vX5 U5 K5 => ?_)
    have kh5 : KeepH h2 h5 := (keep_it It.fresh kh kI).trans K5
    have kv5 : KV exT env h2 h5 := fun y u hy hv => U5.var (KV.ne hy (by decide +kernel)) (kn.var (kv y u hy hv))
    refine ex_cons (ex_set (ev_int fun t0 => st_name F5 (.inl (by walk_at "mkind")) fun h6 F6 vD6 U6 K6 => ?_))
    have kh6 : KeepH h2 h6 := kh5.trans K6
    have kv6 : KV exT env h2 h6 := fun y u hy hv => U6.var (KV.ne hy (by decide +kernel)) (kv5 y u hy hv)
    have vX6 := U6.var (by decide +kernel) vX5
    refine fst_loop (d := 0) G R F6 hk hc hi5 (kv6 _ _ (by decide +kernel) (k2.var vL)) (kh6.dat (k2.dat dL)) vX6 vD6 fun h7 t7 F7 vD7 kv7 kh7 => ?_
    have kh2 : KeepH h2 h7 := kh6.trans kh7
    have sub : ∀ y, exT.contains y = false → exF.contains y = false := by
      intro y
      simp only [exT, exF, List.contains_cons, Bool.or_eq_false_iff]
      exact fun q => ⟨q.1, q.2.1, q.2.2.1, q.2.2.2.1, q.2.2.2.2.1, rfl⟩
    have kv2 : KV exT env h2 h7 := fun y u hy hv => kv7 y u (sub y hy) (kv6 y u hy hv)
    have vM7 := kv2 _ _ (by decide +kernel) (k2.var vM)
    have pM7 := kh2.pl (k2.pl pM)
    have vX7 := kv7 _ _ (by decide +kernel) vX6
    refine ex_cons (ex_if (tr_cmp (ev_meth (ev_name F7 vM7 (gm_list pM7 PySem.F.slot_list_count PySem.F.type_list_count (cw_bi (ar_cons (ev_name F7 vX7 (ar_nil (ca_counti pM7.isList iM fun _ => ?_))))))))))
    refine ev_name F7 vD7 (cm_nei (tr_bool ?_))
    rw [hdue _ hi5, Nat.zero_add]
    rw [show (((dueN tv0 tv1 x : Nat) : Int) != ((dueN tv0 tv1 x : Nat) : Int)) = false from by simp]
    refine ex_nil (ex_nil ⟨⟨kv2, kh2⟩, F7, ?_⟩)
    exact (K5.trans (K6.trans kh7)).kh
  · rintro h4 h' ⟨kv, kh⟩ kn kI F4
    exact ex_cons (ex_ret (ev_bool (hQ _ F4)))
end

open PySem PySem.W PyProof.Rows PySem.SeqAt
/-! the call of the law itself: its one argument is a local, its store counts a token -/
section
variable {M : Model} {A : Around} {E : Value → Shared → Prop} {s : Shared}
theorem nfe1 {scope : Scope} {globals : Addr} {n : Str} {v : Value} {qual : Str} {func : Option Addr} {code : Value} {builtins : Addr} {Q : Env → Shared → Prop} (hk : scope.kind = .function) (hl : scope.names.lookup n = some .local)
    (hQ : ∀ env, env = newEnv scope s.heap.objs.size globals (cellsFrom (s.heap.objs.size + 1) scope.names []) qual func code none builtins →
      ∀ s', InCallC s env.locals (fun y => if y = n then some v else none) env.cells (fun _ => none) s' → 1 ≤ s'.toks → Q env s') :
    wpAny M A (newFunctionEnv scope globals [] [(n, v)] qual func code none builtins) Q E s := by
  have ok := cellsFrom_ok scope.names (s.heap.push { cls := .type "frame", data := .dict #[] }) (s.heap.objs.size + 1) [] ⟨fun _ _ hm => (nomatch hm), List.Pairwise.nil⟩ (by rw [Heap.size_push]; exact Nat.le_refl _)
  rw [Heap.size_push] at ok
  have esz : ({ s with heap := s.heap.push { cls := .type "frame", data := .dict #[] } } : Shared).heap.objs.size = s.heap.objs.size + 1 := Heap.size_push ..
  unfold newFunctionEnv
  simp only [Option.isSome_none, Bool.false_eq_true, if_false]
  refine wpAny_bind (wpAny_alloc (wpAny_bind (wpAny_layCells _ (fun name kind cells => by cases hkc : kind == NameKind.cell <;> simp [hkc]) _ _ _ _ (wpAny_bind ?_))))
  rw [esz, List.forIn_cons]
  refine wpAny_bind (wpAny_bind ?_)
  have ns0 : (pushCells (s.heap.push { cls := .type "frame", data := .dict #[] }) scope.names).Ns s.heap.objs.size (fun _ => none) := (Heap.Ns.new s.heap (.type "frame")).keeps (pushCells_keeps _ _)
  refine wpAny_storeName_local (m := fun _ => none) hl ns0 (fun h' hn' hs' => ?_) (by show (scope.kind == .class || (scope.kind == .module && s.heap.objs.size != globals)) = false; rw [hk]; rfl)
  refine wpAny_pure ?_
  dsimp only
  rw [List.forIn_nil]
  refine wpAny_pure (wpAny_pure (hQ _ rfl _ ⟨⟨⟨h', _, rfl⟩, hn', fun b o e => ?_, Nat.le_refl _⟩, fun x k hx => ?_, ok.apart, fun x k hm => (ok.empty x k hm).2⟩ (Nat.succ_le_succ (Nat.zero_le _))))
  · exact hs'.extBut b o (Nat.ne_of_lt (Heap.lt_size e)) (pushCells_keeps _ _ b o (Heap.get?_push_of_some _ e))
  · have q := ok.empty x k (mem_of_lookup hx)
    exact q.1.sameBut hs' (Nat.ne_of_gt q.2)
end

section
variable {c : Cx} {A : Around} {h h' hb : Heap} {env : Env}

/-- a call, with one argument, of a def that has cells, at any count of tokens -/
theorem fn_call0 {n : Nat} {a : Addr} {nm x : Str} {params : Arguments} {body : List Stmt} {scope : Scope} {v : Value} {Q : Value → Heap → Prop} {tk : Nat} {E : Value → Shared → Prop}
    (hf : FnIs h a nm params body scope) (hlim : h.NoLimit) (R : Room (n + 1) A)
    (hbind : ∀ pm cd doc, bindArgs (Calls.docDef nm params body scope pm cd doc) ⟨[v], []⟩ = pure [(x, v)])
    (hkind : scope.names.lookup x = some .local)
    (hbody : ∀ A' env h₁, Room n A' → Frm h env h₁ → (∀ x, env.kindOf x = scope.names.lookup x) → (∀ x, scope.names.lookup x = some .cell → (env.cells.lookup x).isSome = true) →
      Var env h₁ x v → W c A' (execs body env) h₁ (fun f h' => Q (match f with | .ret v => v | _ => .none) h'))
    (hco : scope.isCoroutine = false := by rfl) (hgen : scope.isGenerator = false := by rfl) (hk : scope.kind = .function := by rfl) :
    wpAny (model c.prog c.w) A (call (.ref a) [v]) (fun a s' => ∃ h' tk', s' = ⟨h', c.g, c.d, tk', c.os⟩ ∧ Q a h') E ⟨h, c.g, c.d, tk, c.os⟩ := by
  obtain ⟨o, pm, cd, doc, ho, hd, hcd⟩ := hf
  refine wpAny_call (codeAny_call_function (by have := R.depth; show A.depth < _; omega) ho hd hco hgen rfl hcd ?_)
  rw [hbind pm cd doc]
  refine wpAny_pure (nfe1 hk hkind fun env he s₁ X hn => ?_)
  subst he
  refine ⟨hlim.keeps X.toInCall.keep, codeAny_func ?_⟩
  obtain ⟨h₁, tk₁, rfl⟩ := X.toInCall.same
  obtain ⟨j, rfl⟩ : ∃ j, tk₁ = j + 1 := ⟨tk₁ - 1, by have : 1 ≤ tk₁ := hn; omega⟩
  refine wpAny_mono (W.go (c := c) (hbody _ _ h₁ (R.deeper _) ⟨hk, rfl, rfl, X.toInCall.keep, ⟨_, X.toInCall.ns⟩, fun x k e => ⟨_, X.cell x k e⟩, fun x y k ex ey => name_of_addr X.apart (mem_of_lookup ex) (mem_of_lookup ey),
    fresh_none X.toInCall.fresh, fun x k e => fresh_none (Nat.le_trans X.toInCall.fresh (Nat.le_of_lt (X.above x k (mem_of_lookup e))))⟩ (fun _ => rfl) (fun x hx => cellsFrom_some _ _ _ (.inl (mem_of_lookup hx))) ?_) (E := fun _ _ => False) (Q := fun f s' => wants (fun a s' => ∃ h' tk', s' = ⟨h', c.g, c.d, tk', c.os⟩ ∧ Q a h') E (.ok (.ret (match f with | .ret v => v | _ => .none))) s') fun f h' t' hq => ⟨_, _, rfl, hq⟩) (fun _ _ x => x) (fun _ _ x => x.elim)
  exact .inl ⟨hkind, _, X.toInCall.ns, by simp⟩

/-- the plain law: what is left when the walk is done -/
structure Plain (nf : Nat → Int) : Prop where
  tails : ∀ t, t < 2 → TailsOk (tvT nf t)
  alone : ∀ t, t < 2 → AloneT (tvT nf t)
  mid : ∀ p ∈ thrL, (midP (tvT nf 0) (tvT nf 1) p).isSome = true
  due : ∀ x : Nat, x < 5 → (thrL.flatMap (midL (tvT nf 0) (tvT nf 1))).countP (· == (x : Int)) = dueN (tvT nf 0) (tvT nf 1) x

theorem law_body {n : Nat} {xs : List Int} {a : Addr} {ws : List Value} {Q : Flow → Heap → Prop} (G : Gd hb) (R : Room (n + 4) A) (F : Frm hb env h)
    (hk : ∀ x, env.kindOf x = (fsc 14).names.lookup x) (hc : ∀ x, (fsc 14).names.lookup x = some .cell → (env.cells.lookup x).isSome = true) (hx : xs.length ≤ 63) (P : Plain (nfF xs))
    (vS : Var env h "script" (.ref a)) (pS : h.IsList a ws.toArray) (iS : IntsR ws xs) (hQ : ∀ h', Keep hb h' → Q (.ret (.bool true)) h') :
    W c A (execs (fbd 14) env) h Q := by
  refine law_nums G R F hk hc hx vS pS iS fun h1 v1 F1 v1' d1 => ?_
  refine law_trees G R F1 hk hc P.tails P.alone v1' d1 fun h2 N L v3 F2 vN vL v3' d3 dN dL => ?_
  refine law_mid G R F2 hk hc P.mid vN vL v3' d3 dN dL fun h3 a ws F3 vM pM iM vL3 dL3 => ?_
  exact thing_loop G R F3 hk hc P.due vM pM iM vL3 dL3 fun h4 F4 => hQ h4 F4.keep

theorem ints_of : ∀ {vs : List Value} {xs : List Int}, IntsAre vs xs → IntsR vs xs
  | _, _, .nil => .nil
  | _, _, .cons n t r => .cons n t (ints_of r)
theorem law_call {n : Nat} {xs : List Int} {a b : Addr} {ws : List Value} {tk : Nat} {E : Value → Shared → Prop} (G : Gd h) (R : Room (n + 5) A) (hf : FnIs h a (fnm 14) (fpr 14) (fbd 14) (fsc 14)) (hx : xs.length ≤ 63) (P : Plain (nfF xs))
    (pS : h.IsList b ws.toArray) (iS : IntsAre ws xs) :
    wpAny (model c.prog c.w) A (call (.ref a) [.ref b]) (fun a s' => ∃ h' tk', s' = ⟨h', c.g, c.d, tk', c.os⟩ ∧ a = .bool true ∧ Keep h h') E ⟨h, c.g, c.d, tk, c.os⟩ := by
  refine fn_call0 (x := "script") hf G.lim R (fun _ _ _ => by kernel_rfl) (by kernel_rfl) ?_
  intro A' env h₁ R' F hk hc v
  exact law_body G R' F hk hc hx P v (F.keep.list pS) (ints_of iS) fun h' k => ⟨rfl, k⟩
end

end Mine
end

section
open PySem PySem.W PyProof.Rows PySem.SeqAt Builtin.Re
set_option Elab.async false
set_option maxRecDepth 100000
namespace Mine
/-! from the written heap to what the walk asks of it -/
def fdIn (K : Frag) (a : Addr) : Option FuncData := match K.lookup a with
  | some ⟨_, _, .func fd, _⟩ => some fd
  | _ => none
/-- the def at a is the text's i-th -/
structure FnK (K : Frag) (a : Addr) (i : Nat) : Prop where
  isd : (fdIn K a).isSome = true
  same : fdIn K a = (fdIn K a).map fun fd => Calls.docDef (fnm i) (fpr i) (fbd i) (fsc i) fd.pyModule fd.code fd.doc
  code : ((fdIn K a).any fun fd => codeIn K fd.code (fnm i)) = true
theorem FnK.fn {K : Frag} {h : Heap} {a : Addr} {i : Nat} (X : K.In h) (f : FnK K a i) : FnIs h a (fnm i) (fpr i) (fbd i) (fsc i) := by
  obtain ⟨h1, h2, h3⟩ := f
  unfold fdIn at h1 h2 h3
  split at h1
  · rename_i c d fd sl q
    rw [q] at h2 h3
    exact ⟨_, _, _, _, X _ _ q, congrArg Data.func (Option.some.inj h2), codeRec_of X (by simpa using h3)⟩
  · cases h1

def fldIn (K : Frag) (a : Addr) : Array Value := match K.lookup a with
  | some ⟨_, _, .fields vs, _⟩ => vs
  | _ => #[]
def seqIn (K : Frag) (a : Addr) : Array Value := match K.lookup a with
  | some ⟨_, _, .seq vs _, _⟩ => vs
  | _ => #[]
def tpIn (K : Frag) (a : Addr) : Addr := match (fldIn K a).getD 5 .none with
  | .ref t => t
  | _ => 0
structure PatK (K : Frag) (a : Addr) : Prop where
  isd : (match K.lookup a with | some ⟨.type "re.Pattern", none, .fields _, _⟩ => true | _ => false) = true
  n2 : reRawNat ((fldIn K a).getD 2 .none) = 0
  n6 : reRawNat ((fldIn K a).getD 6 .none) = 0
  n5 : (fldIn K a).getD 5 .none = .ref (tpIn K a)
  tup : (match K.lookup (tpIn K a) with | some ⟨_, _, .seq _ _, _⟩ => true | _ => false) = true
  code : ((seqIn K (tpIn K a)).map reRawOf).map (·.toNat) = reCode
theorem PatK.pat {K : Frag} {h : Heap} {a : Addr} (X : K.In h) (f : PatK K a) : PatIs h a := by
  obtain ⟨h1, h2, h3, h4, h5, h6⟩ := f
  split at h1
  · rename_i vs sl q
    split at h5
    · rename_i c2 d2 its n s2 q2
      have e1 : fldIn K a = vs := by unfold fldIn; rw [q]
      have e2 : seqIn K (tpIn K a) = its := by unfold seqIn; rw [q2]
      rw [e1] at h2 h3 h4
      rw [e2] at h6
      exact ⟨_, vs, tpIn K a, _, its, n, X _ _ q, rfl, rfl, rfl, h2, h3, h4, X _ _ q2, rfl, h6⟩
    · cases h5
  · cases h1

theorem ns_none_of {K : Frag} {h : Heap} {a : Addr} {m : Str → Option Value} {n : Str} (X : K.In h) (G : h.Ns a m) (e : nsIn K a n = some none) : m n = none := by
  obtain ⟨o, es, ep, ho, hd, _, hf⟩ := G
  rw [← hf]
  unfold nsIn at e
  split at e
  · rename_i c d es' n' sl q
    rw [X _ _ q] at ho
    cases ho
    cases hd
    split at e
    · cases e
    · rename_i he
      unfold nsFind findBy
      rw [← Array.find?_toList, he]
      rfl
  · cases e

def tabG : List (Str × Addr) := [("rgb_to_hls", 38), ("rgb_to_hsv", 45), ("IPV4_RE", 50), ("is_HDN", 57), ("liberal_is_HDN", 64), ("user_domain_match", 71), ("reach", 78), ("_law_tail", 85), ("_law_up", 92), ("_law_alone", 97), ("law", 102)]
def tabB : List (Str × Value) := [("len", .builtin "len"), ("range", .type "range"), ("max", .builtin "max"), ("min", .builtin "min"), ("int", .type "int"), ("set", .type "set")]
structure GdK (K : Frag) : Prop where
  glb : (tabG.map fun p => nsIn K mainGlobals p.1) = tabG.map fun p => some (some (.ref p.2))
  bi : (tabB.map fun p => nsIn K mainGlobals p.1) = tabB.map fun _ => some none
  f2 : FnK K 38 2
  f3 : FnK K 45 3
  f6 : FnK K 57 6
  f7 : FnK K 64 7
  f8 : FnK K 71 8
  f9 : FnK K 78 9
  f11 : FnK K 85 11
  f12 : FnK K 92 12
  f13 : FnK K 97 13
  f14 : FnK K 102 14
  pat : PatK K 50
  nb : nsIn K cStatics sharingNotToldKey = some none

theorem boot_tab : (tabB.map fun p => bootBuiltins p.1) = tabB.map fun p => some p.2 := by kernel_rfl
theorem gd_of {K : Frag} {h : Heap} {p : Program} {loose : List Str} {mean : ExcName → Option Value} {mg mb : Str → Option Value} (X : K.In h) (T : Top p loose mean mg mb h) (g : GdK K) : Gd h ∧ mg "law" = some (.ref 102) ∧ FnIs h 102 (fnm 14) (fpr 14) (fbd 14) (fsc 14) := by
  have a1 : ∀ x ∈ tabG, nsIn K mainGlobals x.1 = some (some (.ref x.2)) := List.map_inj_left.mp g.glb
  have a2 : ∀ x ∈ tabB, nsIn K mainGlobals x.1 = some none := List.map_inj_left.mp g.bi
  have a3 : ∀ x ∈ tabB, bootBuiltins x.1 = some x.2 := List.map_inj_left.mp boot_tab
  have gl : ∀ x a, (x, a) ∈ tabG → Glob h x (.ref a) := fun x a hm => ⟨mg, T.g, .inl (mg_of X T.g (a1 _ hm))⟩
  have bl : ∀ x v, (x, v) ∈ tabB → Glob h x v := fun x v hm => ⟨mg, T.g, .inr ⟨mg_none_of X T.g (a2 _ hm), mb, T.b, (T.builtins x (by
    intro e
    have : ∀ y ∈ tabB, y.1 ≠ ("__name__" : Str) := by decide +kernel
    exact this _ hm e)).trans (a3 _ hm)⟩⟩
  obtain ⟨mc, hmc, _⟩ := id T.nodigits
  refine ⟨⟨T.nolimit, ?_, ?_, ?_, ?_, ?_, ?_, ?_, ?_, ?_, ?_, ?_, ?_, ?_, ?_, ?_, ?_, g.f2.fn X, g.f3.fn X, g.f6.fn X, g.f7.fn X, g.f8.fn X, g.f9.fn X, g.f11.fn X, g.f12.fn X, g.f13.fn X, g.pat.pat X, ⟨mc, hmc, ns_none_of X hmc g.nb⟩⟩, mg_of X T.g (a1 ("law", 102) (by simp [tabG])), g.f14.fn X⟩
  all_goals first | exact gl _ _ (by simp [tabG]) | exact bl _ _ (by simp [tabB])

open PySem PySem.W PyProof.Rows
/-! the domains as numbers -/
def tailN (m : Nat) : List Str := tailF (m : Int)
def tvN (m : Nat → Nat) (i : Nat) : List Str := tailN (m i)
def R13 : List Str := [⟨#[46, 108, 111, 99, 97, 108]⟩, ⟨#[46, 97, 46, 108, 111, 99, 97, 108]⟩, ⟨#[46, 66, 97, 46, 108, 111, 99, 97, 108]⟩, ⟨#[46, 108, 111, 99, 97, 108, 46, 108, 111, 99, 97, 108]⟩, ⟨#[46, 97, 46, 97, 46, 108, 111, 99, 97, 108]⟩, ⟨#[46, 66, 97, 46, 97, 46, 108, 111, 99, 97, 108]⟩, ⟨#[46, 108, 111, 99, 97, 108, 46, 97, 46, 108, 111, 99, 97, 108]⟩, ⟨#[46, 97, 46, 66, 97, 46, 108, 111, 99, 97, 108]⟩, ⟨#[46, 66, 97, 46, 66, 97, 46, 108, 111, 99, 97, 108]⟩, ⟨#[46, 108, 111, 99, 97, 108, 46, 66, 97, 46, 108, 111, 99, 97, 108]⟩, ⟨#[46, 97, 46, 108, 111, 99, 97, 108, 46, 108, 111, 99, 97, 108]⟩, ⟨#[46, 66, 97, 46, 108, 111, 99, 97, 108, 46, 108, 111, 99, 97, 108]⟩, ⟨#[46, 108, 111, 99, 97, 108, 46, 108, 111, 99, 97, 108, 46, 108, 111, 99, 97, 108]⟩]
def rstr (k : Nat) : Str := R13.getD k Str.empty
def rcode (m : Nat) : List Nat :=
  if m % 4 = 0 then [0] else if m % 4 = 1 then [1 + m / 4 % 3, 0] else if m % 4 = 2 then [4 + 3 * (m / 12 % 3) + m / 4 % 3, 1 + m / 12 % 3, 0] else []
theorem uv_code : ∀ m, m < 36 → uvS (tailN m) = (rcode m).map rstr := by decide +kernel
theorem rcode_lt : ∀ m, m < 36 → ∀ k ∈ rcode m, k < 13 := by decide +kernel
theorem rstr_inj : ∀ a, a < 13 → ∀ b, b < 13 → (rstr a == rstr b) = (a == b) := by decide +kernel
theorem rv_seven : ∀ m, m < 36 → locS (tailN m) = false → ∀ r ∈ rvS (tailN m), ∀ k, k < 13 → (rstr k == r) = false := by decide +kernel

theorem any_code {l : List Nat} (hl : ∀ k ∈ l, k < 13) {a : Nat} (ha : a < 13) : (l.map rstr).any (· == rstr a) = l.any (· == a) := by
  induction l with
  | nil => rfl
  | cons b r ih =>
    rw [List.map_cons, List.any_cons, List.any_cons, ih fun k hk => hl k (.tail _ hk), rstr_inj b (hl b (.head _)) a ha]

def cN (A B : List Nat) : Nat := A.countP fun a => B.any (· == a)
def comN (A B C : List Nat) : Nat := A.countP fun a => B.any (· == a) && C.any (· == a)
def ddNS (σ : List Nat) (v : Nat) : List Nat := if σ.any (· == v) then σ else σ ++ [v]
def ddN (l : List Nat) : List Nat := l.foldl ddNS []

theorem cnt_uv {m m' : Nat} (h : m < 36) (h' : m' < 36) : (uvS (tailN m)).countP (fun r => (uvS (tailN m')).any (· == r)) = cN (rcode m) (rcode m') := by
  rw [uv_code m h, uv_code m' h', List.countP_map]
  unfold cN
  exact List.countP_congr fun a ha => by
    simp only [Function.comp]
    rw [any_code (rcode_lt m' h') (rcode_lt m h a ha)]
theorem cnt_code {m m' : Nat} (h : m < 36) (h' : m' < 36) : (rvS (tailN m)).countP (fun r => (uvS (tailN m')).any (· == r)) = cN (rcode m) (rcode m') := by
  rw [← cnt_uv h h']
  cases e : locS (tailN m) with
  | true => rw [show uvS (tailN m) = rvS (tailN m) from by unfold uvS; rw [e]; rfl]
  | false =>
    rw [show uvS (tailN m) = [] from by unfold uvS; rw [e]; rfl, List.countP_nil, List.countP_eq_zero]
    intro r hr
    rw [uv_code m' h', List.any_map]
    simp only [List.any_eq_true, Function.comp, not_exists, not_and, Bool.not_eq_true]
    exact fun k hk => rv_seven m h e r hr k (rcode_lt m' h' k hk)

theorem dd_fold {l : List Nat} (hl : ∀ k ∈ l, k < 13) : ∀ {σ : List Nat}, (∀ k ∈ σ, k < 13) → (l.map rstr).foldl ddS (σ.map rstr) = (l.foldl ddNS σ).map rstr := by
  induction l with
  | nil => intro σ _; rfl
  | cons a r ih =>
    intro σ hσ
    rw [List.map_cons, List.foldl_cons, List.foldl_cons]
    have e : ddS (σ.map rstr) (rstr a) = (ddNS σ a).map rstr := by
      unfold ddS ddNS
      rw [any_code hσ (hl a (.head _))]
      split
      · rfl
      · rw [List.map_append]; rfl
    rw [e]
    refine ih (fun k hk => hl k (.tail _ hk)) ?_
    unfold ddNS
    split
    · exact hσ
    · intro k hk
      rcases List.mem_append.mp hk with hk | hk
      · exact hσ k hk
      · simp only [List.mem_cons, List.not_mem_nil, or_false] at hk
        subst hk; exact hl k (.head _)
theorem dd_code {l : List Nat} (hl : ∀ k ∈ l, k < 13) : (dd (l.map rstr)).length = (ddN l).length := by
  have := dd_fold hl (σ := []) (fun _ hk => nomatch hk)
  unfold dd ddN
  rw [List.map_nil] at this
  rw [this, List.length_map]
theorem com_code {A B C : List Nat} (hA : ∀ k ∈ A, k < 13) (hB : ∀ k ∈ B, k < 13) (hC : ∀ k ∈ C, k < 13) :
    ((A.map rstr).filter fun x => (B.map rstr).any (· == x) && (C.map rstr).any (· == x)).length = comN A B C := by
  rw [← List.countP_eq_length_filter, List.countP_map]
  unfold comN
  exact List.countP_congr fun a ha => by
    simp only [Function.comp]
    rw [any_code hB (hA a ha), any_code hC (hA a ha)]

/-! three at a time -/
def ultra (p q r c : Nat) : Bool := ((p == c && q == c) || (q == c && r == c) || (p == c && r == c)) && (decide (c ≤ p) && decide (c ≤ q) && decide (c ≤ r)) && (decide (p ≤ 3) && decide (q ≤ 3) && decide (r ≤ 3))
def tri (A B C : List Nat) : Bool :=
  ultra (cN A B) (cN B C) (cN A C) (comN A B C) && (A.length + (B.length + C.length) + comN A B C == (ddN (A ++ B ++ C)).length + (cN A B + (cN B C + cN A C))) && comN A B C == comN B A C
def RC : List (List Nat) := [[], [0], [1, 0], [2, 0], [3, 0], [4, 1, 0], [5, 1, 0], [6, 1, 0], [7, 2, 0], [8, 2, 0], [9, 2, 0], [10, 3, 0], [11, 3, 0], [12, 3, 0]]
theorem rc_mem : ∀ m, m < 36 → rcode m ∈ RC := by decide +kernel
theorem pair_all : ∀ A ∈ RC, ∀ B ∈ RC, cN A B = cN B A := by decide +kernel
theorem tri_all : ∀ A ∈ RC, ∀ B ∈ RC, ∀ C ∈ RC, tri A B C = true := by decide +kernel
theorem alone_all : ∀ p, p < 4 → ∀ q, q < 4 → ∀ r, r < 4 → ∀ c, c < 4 → ultra p q r c = true → aloneOk ((p : Int) + q + r - c) c p q r = true := by decide +kernel

open PySem PySem.W PyProof.Rows
section
variable {m : Nat → Nat}
theorem cnt_tv (hm : ∀ i, m i < 36) (i j : Nat) : cntS (tvN m) i j = cN (rcode (m i)) (rcode (m j)) := cnt_code (hm i) (hm j)

theorem tri_of (hm : ∀ i, m i < 36) (i j k : Nat) : tri (rcode (m i)) (rcode (m j)) (rcode (m k)) = true := tri_all _ (rc_mem _ (hm i)) _ (rc_mem _ (hm j)) _ (rc_mem _ (hm k))

theorem ultra_le {p q r c : Nat} (h : ultra p q r c = true) : c ≤ p ∧ c ≤ q ∧ c ≤ r ∧ p ≤ 3 ∧ q ≤ 3 ∧ r ≤ 3 ∧ ((p = c ∧ q = c) ∨ (q = c ∧ r = c) ∨ (p = c ∧ r = c)) := by
  simp only [ultra, Bool.and_eq_true, Bool.or_eq_true, decide_eq_true_eq, beq_iff_eq] at h
  omega

theorem alone_tv (hm : ∀ i, m i < 36) : AloneT (tvN m) := by
  intro i j k _ _ _
  have h := tri_of hm i j k
  unfold tri at h
  simp only [Bool.and_eq_true, beq_iff_eq] at h
  obtain ⟨⟨hu, hd⟩, _⟩ := h
  have hA := rcode_lt _ (hm i)
  have hB := rcode_lt _ (hm j)
  have hC := rcode_lt _ (hm k)
  have eA : uvS (tvN m i) = (rcode (m i)).map rstr := uv_code _ (hm i)
  have eB : uvS (tvN m j) = (rcode (m j)).map rstr := uv_code _ (hm j)
  have eC : uvS (tvN m k) = (rcode (m k)).map rstr := uv_code _ (hm k)
  rw [cnt_tv hm, cnt_tv hm, cnt_tv hm, eA, eB, eC, com_code hA hB hC, ← List.map_append, ← List.map_append, List.length_map, dd_code (by
    intro x hx
    rcases List.mem_append.mp hx with hx | hx
    · rcases List.mem_append.mp hx with hx | hx
      · exact hA x hx
      · exact hB x hx
    · exact hC x hx)]
  have hl := ultra_le hu
  have := alone_all (cN (rcode (m i)) (rcode (m j))) (by omega) (cN (rcode (m j)) (rcode (m k))) (by omega) (cN (rcode (m i)) (rcode (m k))) (by omega) (comN (rcode (m i)) (rcode (m j)) (rcode (m k))) (by omega) hu
  have e : (((rcode (m i) ++ rcode (m j) ++ rcode (m k)).length : Nat) : Int) - ((ddN (rcode (m i) ++ rcode (m j) ++ rcode (m k))).length : Int) =
      (cN (rcode (m i)) (rcode (m j)) : Int) + (cN (rcode (m j)) (rcode (m k)) : Int) + (cN (rcode (m i)) (rcode (m k)) : Int) - (comN (rcode (m i)) (rcode (m j)) (rcode (m k)) : Int) := by
    have e1 : (rcode (m i) ++ rcode (m j) ++ rcode (m k)).length = (rcode (m i)).length + (rcode (m j)).length + (rcode (m k)).length := by rw [List.length_append, List.length_append]
    rw [e1]
    omega
  rw [e]
  exact this
end

/-! the colours -/
def mn3 (a b c : Nat) : Nat := Nat.min a (Nat.min b c)
def mid7 (s1 s2 s3 : Nat) : Bool := match midF (s1 : Int) (s2 : Int) (s3 : Int) with
  | some (t, m) => (if t = 0 then m else 0) == (s1 - mn3 s1 s2 s3) * (s2 - mn3 s1 s2 s3) && (if t = 0 then 0 else if t = 1 then m else 0) == (s2 - mn3 s1 s2 s3) * (s3 - mn3 s1 s2 s3) &&
    (if t = 0 then 0 else if t = 1 then 0 else m) == (s1 - mn3 s1 s2 s3) * (s3 - mn3 s1 s2 s3)
  | none => false
def one7 (b d : Nat) : Bool := mid7 (b + d) b b && mid7 b (b + d) b && mid7 b b (b + d)
def two7 (b x y : Nat) : Bool := mid7 (b + x) (b + y) b && mid7 b (b + x) (b + y) && mid7 (b + x) b (b + y)
theorem one_all0 : ∀ d, d < 7 → one7 0 d = true := by decide +kernel
theorem one_all1 : ∀ d, d < 6 → one7 1 d = true := by decide +kernel
theorem one_all2 : ∀ d, d < 5 → one7 2 d = true := by decide +kernel
theorem one_all3 : ∀ d, d < 4 → one7 3 d = true := by decide +kernel
theorem one_all4 : ∀ d, d < 3 → one7 4 d = true := by decide +kernel
theorem one_all5 : ∀ d, d < 2 → one7 5 d = true := by decide +kernel
theorem one_all6 : one7 6 0 = true := by decide +kernel
theorem two_all0 : ∀ x, x < 3 → ∀ y, y < 3 → two7 0 (x + 1) (y + 1) = true := by decide +kernel
theorem two_all1 : ∀ x, x < 3 → ∀ y, y < 3 → x + y < 4 → two7 1 (x + 1) (y + 1) = true := by decide +kernel
theorem two_all2 : ∀ x, x < 3 → ∀ y, y < 3 → x + y < 3 → two7 2 (x + 1) (y + 1) = true := by decide +kernel
theorem two_all3 : ∀ x, x < 2 → ∀ y, y < 2 → x + y < 2 → two7 3 (x + 1) (y + 1) = true := by decide +kernel
theorem two_all4 : two7 4 1 1 = true := by decide +kernel

open PySem PySem.W PyProof.Rows
theorem one_all {b d : Nat} (h : b + d ≤ 6) : one7 b d = true := by
  have hb : b = 0 ∨ b = 1 ∨ b = 2 ∨ b = 3 ∨ b = 4 ∨ b = 5 ∨ b = 6 := by omega
  rcases hb with rfl | rfl | rfl | rfl | rfl | rfl | rfl
  · exact one_all0 d (by omega)
  · exact one_all1 d (by omega)
  · exact one_all2 d (by omega)
  · exact one_all3 d (by omega)
  · exact one_all4 d (by omega)
  · exact one_all5 d (by omega)
  · obtain rfl : d = 0 := by omega
    exact one_all6
theorem two_all {b x y : Nat} (h : b + (x + 1) + (y + 1) ≤ 6) (hx : x < 3) (hy : y < 3) : two7 b (x + 1) (y + 1) = true := by
  have hb : b = 0 ∨ b = 1 ∨ b = 2 ∨ b = 3 ∨ b = 4 := by omega
  rcases hb with rfl | rfl | rfl | rfl | rfl
  · exact two_all0 x hx y hy
  · exact two_all1 x hx y hy (by omega)
  · exact two_all2 x hx y hy (by omega)
  · exact two_all3 x (by omega) y (by omega) (by omega)
  · obtain rfl : x = 0 := by omega
    obtain rfl : y = 0 := by omega
    exact two_all4

/-- what the colour of three tells of each of them -/
structure Told (s1 s2 s3 : Int) (wj wk wi : Nat) : Prop where
  told : ∃ t m, midF s1 s2 s3 = some (t, m) ∧ (if t = 0 then m else 0) = wj ∧ (if t = 0 then 0 else if t = 1 then m else 0) = wk ∧ (if t = 0 then 0 else if t = 1 then 0 else m) = wi
theorem told_of {a b c : Nat} (h : mid7 a b c = true) : Told a b c ((a - mn3 a b c) * (b - mn3 a b c)) ((b - mn3 a b c) * (c - mn3 a b c)) ((a - mn3 a b c) * (c - mn3 a b c)) := by
  unfold mid7 at h
  split at h
  · rename_i t m e
    simp only [Bool.and_eq_true, beq_iff_eq] at h
    exact ⟨t, m, e, h.1.1, h.1.2, h.2⟩
  · cases h
theorem mn3_le {a b c k : Nat} (ha : k ≤ a) (hb : k ≤ b) (hc : k ≤ c) (h : a = k ∨ b = k ∨ c = k) : mn3 a b c = k := by
  unfold mn3
  simp only [Nat.min_def]
  split <;> split <;> omega

theorem seven_one {b d : Nat} (h : b + d ≤ 6) : mid7 (b + d) b b = true ∧ mid7 b (b + d) b = true ∧ mid7 b b (b + d) = true := by
  have := one_all h
  unfold one7 at this
  simp only [Bool.and_eq_true] at this
  exact ⟨this.1.1, this.1.2, this.2⟩
theorem seven_two {b x y : Nat} (h : b + x + y ≤ 6) (hx : x ≤ 3) (hy : y ≤ 3) : mid7 (b + x) (b + y) b = true ∧ mid7 b (b + x) (b + y) = true ∧ mid7 (b + x) b (b + y) = true := by
  rcases Nat.eq_zero_or_pos x with rfl | px
  · have := seven_one (b := b) (d := y) (by omega)
    exact ⟨this.2.1, this.2.2, this.2.2⟩
  rcases Nat.eq_zero_or_pos y with rfl | py
  · have := seven_one (b := b) (d := x) (by omega)
    exact ⟨this.1, this.2.1, this.1⟩
  obtain ⟨x, rfl⟩ : ∃ z, x = z + 1 := ⟨x - 1, by omega⟩
  obtain ⟨y, rfl⟩ : ∃ z, y = z + 1 := ⟨y - 1, by omega⟩
  have := two_all (b := b) (x := x) (y := y) (by omega) (by omega) (by omega)
  unfold two7 at this
  simp only [Bool.and_eq_true] at this
  exact ⟨this.1.1, this.1.2, this.2⟩

/-- two trees: the excesses cross -/
theorem told_ultra {p q r c p' q' r' c' : Nat} (h : ultra p q r c = true) (h' : ultra p' q' r' c' = true) :
    Told ((p : Int) + p') ((q : Int) + q') ((r : Int) + r') ((p - c) * (q' - c') + (q - c) * (p' - c')) ((q - c) * (r' - c') + (r - c) * (q' - c')) ((p - c) * (r' - c') + (r - c) * (p' - c')) := by
  have u := ultra_le h
  have u' := ultra_le h'
  obtain ⟨x, y, z, rfl, rfl, rfl⟩ : ∃ x y z, p = c + x ∧ q = c + y ∧ r = c + z := ⟨p - c, q - c, r - c, by omega, by omega, by omega⟩
  obtain ⟨x', y', z', rfl, rfl, rfl⟩ : ∃ x' y' z', p' = c' + x' ∧ q' = c' + y' ∧ r' = c' + z' := ⟨p' - c', q' - c', r' - c', by omega, by omega, by omega⟩
  have key : ∀ {a b d a' b' d' : Nat}, a' = a → b' = b → d' = d → mid7 a b d = true → ∀ {wj wk wi : Nat}, (a - mn3 a b d) * (b - mn3 a b d) = wj → (b - mn3 a b d) * (d - mn3 a b d) = wk → (a - mn3 a b d) * (d - mn3 a b d) = wi → Told (a' : Int) (b' : Int) (d' : Int) wj wk wi := by
    rintro a b d _ _ _ rfl rfl rfl hm wj wk wi rfl rfl rfl
    exact told_of hm
  rw [show ((c + x : Nat) : Int) + ((c' + x' : Nat) : Int) = ((c + x + (c' + x') : Nat) : Int) from by omega, show ((c + y : Nat) : Int) + ((c' + y' : Nat) : Int) = ((c + y + (c' + y') : Nat) : Int) from by omega,
    show ((c + z : Nat) : Int) + ((c' + z' : Nat) : Int) = ((c + z + (c' + z') : Nat) : Int) from by omega]
  simp only [Nat.add_sub_cancel_left]
  obtain ⟨_, _, _, _, _, _, u7⟩ := u
  obtain ⟨_, _, _, _, _, _, u7'⟩ := u'
  rcases u7 with ⟨e1, e2⟩ | ⟨e1, e2⟩ | ⟨e1, e2⟩
  · obtain rfl : x = 0 := by omega
    obtain rfl : y = 0 := by omega
    rcases u7' with ⟨e3, e4⟩ | ⟨e3, e4⟩ | ⟨e3, e4⟩
    · obtain rfl : x' = 0 := by omega
      obtain rfl : y' = 0 := by omega
      have hk : mn3 (c + c') (c + c') (c + c' + (z + z')) = c + c' := mn3_le (by omega) (by omega) (by omega) (.inl rfl)
      refine key (by omega) (by omega) (by omega) (seven_one (b := c + c') (d := z + z') (by omega)).2.2 ?_ ?_ ?_ <;> rw [hk] <;> simp
    · obtain rfl : y' = 0 := by omega
      obtain rfl : z' = 0 := by omega
      have hk : mn3 (c + c' + x') (c + c') (c + c' + z) = c + c' := mn3_le (by omega) (by omega) (by omega) (.inr (.inl rfl))
      refine key (by omega) (by omega) (by omega) (seven_two (b := c + c') (x := x') (y := z) (by omega) (by omega) (by omega)).2.2 ?_ ?_ ?_ <;> rw [hk] <;> simp [Nat.mul_comm]
    · obtain rfl : x' = 0 := by omega
      obtain rfl : z' = 0 := by omega
      have hk : mn3 (c + c') (c + c' + y') (c + c' + z) = c + c' := mn3_le (by omega) (by omega) (by omega) (.inl rfl)
      refine key (by omega) (by omega) (by omega) (seven_two (b := c + c') (x := y') (y := z) (by omega) (by omega) (by omega)).2.1 ?_ ?_ ?_ <;> rw [hk] <;> simp [Nat.mul_comm]
  · obtain rfl : y = 0 := by omega
    obtain rfl : z = 0 := by omega
    rcases u7' with ⟨e3, e4⟩ | ⟨e3, e4⟩ | ⟨e3, e4⟩
    · obtain rfl : x' = 0 := by omega
      obtain rfl : y' = 0 := by omega
      have hk : mn3 (c + c' + x) (c + c') (c + c' + z') = c + c' := mn3_le (by omega) (by omega) (by omega) (.inr (.inl rfl))
      refine key (by omega) (by omega) (by omega) (seven_two (b := c + c') (x := x) (y := z') (by omega) (by omega) (by omega)).2.2 ?_ ?_ ?_ <;> rw [hk] <;> simp [Nat.mul_comm]
    · obtain rfl : y' = 0 := by omega
      obtain rfl : z' = 0 := by omega
      have hk : mn3 (c + c' + (x + x')) (c + c') (c + c') = c + c' := mn3_le (by omega) (by omega) (by omega) (.inr (.inl rfl))
      refine key (by omega) (by omega) (by omega) (seven_one (b := c + c') (d := x + x') (by omega)).1 ?_ ?_ ?_ <;> rw [hk] <;> simp
    · obtain rfl : x' = 0 := by omega
      obtain rfl : z' = 0 := by omega
      have hk : mn3 (c + c' + x) (c + c' + y') (c + c') = c + c' := mn3_le (by omega) (by omega) (by omega) (.inr (.inr rfl))
      refine key (by omega) (by omega) (by omega) (seven_two (b := c + c') (x := x) (y := y') (by omega) (by omega) (by omega)).1 ?_ ?_ ?_ <;> rw [hk] <;> simp [Nat.mul_comm]
  · obtain rfl : x = 0 := by omega
    obtain rfl : z = 0 := by omega
    rcases u7' with ⟨e3, e4⟩ | ⟨e3, e4⟩ | ⟨e3, e4⟩
    · obtain rfl : x' = 0 := by omega
      obtain rfl : y' = 0 := by omega
      have hk : mn3 (c + c') (c + c' + y) (c + c' + z') = c + c' := mn3_le (by omega) (by omega) (by omega) (.inl rfl)
      refine key (by omega) (by omega) (by omega) (seven_two (b := c + c') (x := y) (y := z') (by omega) (by omega) (by omega)).2.1 ?_ ?_ ?_ <;> rw [hk] <;> simp [Nat.mul_comm]
    · obtain rfl : y' = 0 := by omega
      obtain rfl : z' = 0 := by omega
      have hk : mn3 (c + c' + x') (c + c' + y) (c + c') = c + c' := mn3_le (by omega) (by omega) (by omega) (.inr (.inr rfl))
      refine key (by omega) (by omega) (by omega) (seven_two (b := c + c') (x := x') (y := y) (by omega) (by omega) (by omega)).1 ?_ ?_ ?_ <;> rw [hk] <;> simp [Nat.mul_comm]
    · obtain rfl : x' = 0 := by omega
      obtain rfl : z' = 0 := by omega
      have hk : mn3 (c + c') (c + c' + (y + y')) (c + c') = c + c' := mn3_le (by omega) (by omega) (by omega) (.inl rfl)
      refine key (by omega) (by omega) (by omega) (seven_one (b := c + c') (d := y + y') (by omega)).2.1 ?_ ?_ ?_ <;> rw [hk] <;> simp

open PySem PySem.W PyProof.Rows
/-! sums -/
def S {α : Type} (l : List α) (g : α → Nat) : Nat := (l.map g).sum
section
variable {α β : Type}
theorem S_nil (g : α → Nat) : S [] g = 0 := rfl
theorem S_cons (a : α) (l : List α) (g : α → Nat) : S (a :: l) g = g a + S l g := by simp [S]
theorem S_congr {l : List α} {g g' : α → Nat} (h : ∀ a ∈ l, g a = g' a) : S l g = S l g' := by
  unfold S; rw [List.map_congr_left h]
theorem S_add (l : List α) (g g' : α → Nat) : S l (fun a => g a + g' a) = S l g + S l g' := by
  induction l with
  | nil => rfl
  | cons a r ih => rw [S_cons, S_cons, S_cons, ih]; omega
theorem S_zero (l : List α) : S l (fun _ => 0) = 0 := by
  induction l with
  | nil => rfl
  | cons a r ih => rw [S_cons, ih]
theorem S_mul (l : List α) (k : Nat) (g : α → Nat) : k * S l g = S l fun a => k * g a := by
  induction l with
  | nil => rfl
  | cons a r ih => rw [S_cons, S_cons, Nat.mul_add, ih]
theorem S_mulr (l : List α) (k : Nat) (g : α → Nat) : S l g * k = S l fun a => g a * k := by
  rw [Nat.mul_comm, S_mul]; exact S_congr fun a _ => Nat.mul_comm ..
theorem S_swap (l : List α) (l' : List β) (g : α → β → Nat) : (S l fun a => S l' fun b => g a b) = S l' fun b => S l fun a => g a b := by
  induction l with
  | nil => simp only [S_nil]; rw [S_zero]
  | cons a r ih => simp only [S_cons]; rw [S_add, ih]
theorem S_prod (l : List α) (l' : List β) (g : α → Nat) (g' : β → Nat) : S l g * S l' g' = S l fun a => S l' fun b => g a * g' b := by
  rw [S_mulr]; exact S_congr fun a _ => S_mul ..
def ind (b : Bool) : Nat := if b then 1 else 0
theorem countP_S (l : List α) (p : α → Bool) : l.countP p = S l fun a => ind (p a) := by
  induction l with
  | nil => rfl
  | cons a r ih => rw [List.countP_cons, S_cons, ih]; unfold ind; omega
theorem S_map (l : List α) (f : α → β) (g : β → Nat) : S (l.map f) g = S l fun a => g (f a) := by
  unfold S; rw [List.map_map]; rfl
end

/-! what is due, over the numbers -/
def isin (l : List Nat) (a : Nat) : Bool := l.any (· == a)
def exN (A B C : List Nat) : Nat := A.countP fun a => isin B a && !isin C a
def hereC (U V : Nat → List Nat) (a b : Nat) : Nat := R5.countP fun c => isin (U c) a && !isin (V c) b
def thereC (U V : Nat → List Nat) (a b : Nat) : Nat := R5.countP fun c => isin (V c) b && !isin (U c) a
def dueC (U V : Nat → List Nat) (x : Nat) : Nat := S (U x) fun a => S (V x) fun b => hereC U V a b * thereC U V a b

theorem due_cross (U V : Nat → List Nat) (x : Nat) : dueC U V x = S R5 fun c => S R5 fun d => exN (U x) (U c) (U d) * exN (V x) (V d) (V c) := by
  have e1 : ∀ a b, hereC U V a b * thereC U V a b = S R5 fun c => S R5 fun d => ind (isin (U c) a && !isin (U d) a) * ind (isin (V d) b && !isin (V c) b) := by
    intro a b
    unfold hereC thereC
    rw [countP_S, countP_S, S_prod]
    refine S_congr fun c _ => S_congr fun d _ => ?_
    cases isin (U c) a <;> cases isin (U d) a <;> cases isin (V c) b <;> cases isin (V d) b <;> rfl
  have e2 : ∀ c d, exN (U x) (U c) (U d) * exN (V x) (V d) (V c) = S (U x) fun a => S (V x) fun b => ind (isin (U c) a && !isin (U d) a) * ind (isin (V d) b && !isin (V c) b) := by
    intro c d
    unfold exN
    rw [countP_S, countP_S, S_prod]
  unfold dueC
  simp only [e1, e2]
  have e3 : ∀ a, (S (V x) fun b => S R5 fun c => S R5 fun d => ind (isin (U c) a && !isin (U d) a) * ind (isin (V d) b && !isin (V c) b)) =
      S R5 fun c => S R5 fun d => S (V x) fun b => ind (isin (U c) a && !isin (U d) a) * ind (isin (V d) b && !isin (V c) b) := by
    intro a
    rw [S_swap]
    exact S_congr fun c _ => S_swap ..
  simp only [e3]
  rw [S_swap]
  exact S_congr fun c _ => S_swap ..

theorem ex_com (A B C : List Nat) : cN A B = exN A B C + comN A B C := by
  unfold cN exN comN
  rw [countP_S, countP_S, countP_S, ← S_add]
  refine S_congr fun a _ => ?_
  show ind (isin B a) = ind (isin B a && !isin C a) + ind (isin B a && isin C a)
  cases isin B a <;> cases isin C a <;> rfl
theorem com_swap (A B C : List Nat) : comN A B C = comN A C B := by
  unfold comN; simp only [Bool.and_comm]
theorem ex_self (A B : List Nat) : exN A B B = 0 := by
  unfold exN; rw [List.countP_eq_zero]; intro a _; simp
theorem ex_own (A B : List Nat) : exN A B A = 0 := by
  unfold exN; rw [List.countP_eq_zero]; intro a ha
  have : isin A a = true := by unfold isin; simp only [List.any_eq_true, beq_iff_eq]; exact ⟨a, ha, rfl⟩
  rw [this]; simp

section
variable {m0 m1 : Nat → Nat}

theorem here_code (h0 : ∀ i, m0 i < 36) (h1 : ∀ i, m1 i < 36) {a b : Nat} (ha : a < 13) (hb : b < 13) :
    hereN (tvN m0) (tvN m1) (rstr a) (rstr b) = hereC (fun i => rcode (m0 i)) (fun i => rcode (m1 i)) a b ∧ thereN (tvN m0) (tvN m1) (rstr a) (rstr b) = thereC (fun i => rcode (m0 i)) (fun i => rcode (m1 i)) a b := by
  have e0 : ∀ c, (uvS (tvN m0 c)).any (· == rstr a) = isin (rcode (m0 c)) a := fun c => by
    rw [show uvS (tvN m0 c) = (rcode (m0 c)).map rstr from uv_code _ (h0 c), any_code (rcode_lt _ (h0 c)) ha]; rfl
  have e1 : ∀ c, (uvS (tvN m1 c)).any (· == rstr b) = isin (rcode (m1 c)) b := fun c => by
    rw [show uvS (tvN m1 c) = (rcode (m1 c)).map rstr from uv_code _ (h1 c), any_code (rcode_lt _ (h1 c)) hb]; rfl
  unfold hereN thereN hereC thereC hereP thereP
  rw [← List.countP_eq_length_filter, ← List.countP_eq_length_filter]
  simp only [e0, e1]
  exact ⟨trivial, trivial⟩

theorem due_code (h0 : ∀ i, m0 i < 36) (h1 : ∀ i, m1 i < 36) (x : Nat) : dueN (tvN m0) (tvN m1) x = dueC (fun i => rcode (m0 i)) (fun i => rcode (m1 i)) x := by
  show S (uvS (tvN m0 x)) (fun f => S (uvS (tvN m1 x)) fun s => hereN (tvN m0) (tvN m1) f s * thereN (tvN m0) (tvN m1) f s) = _
  rw [show uvS (tvN m0 x) = (rcode (m0 x)).map rstr from uv_code _ (h0 x), show uvS (tvN m1 x) = (rcode (m1 x)).map rstr from uv_code _ (h1 x), S_map]
  refine S_congr fun a ha => ?_
  rw [S_map]
  refine S_congr fun b hb => ?_
  have := here_code h0 h1 (rcode_lt _ (h0 x) a ha) (rcode_lt _ (h1 x) b hb)
  rw [this.1, this.2]

/-- the excesses of three -/
theorem ex_tri (h0 : ∀ i, m0 i < 36) (i j k : Nat) : ∃ p q r c, ultra p q r c = true ∧ cntS (tvN m0) i j = p ∧ cntS (tvN m0) j k = q ∧ cntS (tvN m0) i k = r ∧
    exN (rcode (m0 i)) (rcode (m0 j)) (rcode (m0 k)) = p - c ∧ exN (rcode (m0 j)) (rcode (m0 i)) (rcode (m0 k)) = p - c ∧
    exN (rcode (m0 j)) (rcode (m0 k)) (rcode (m0 i)) = q - c ∧ exN (rcode (m0 k)) (rcode (m0 j)) (rcode (m0 i)) = q - c ∧
    exN (rcode (m0 i)) (rcode (m0 k)) (rcode (m0 j)) = r - c ∧ exN (rcode (m0 k)) (rcode (m0 i)) (rcode (m0 j)) = r - c := by
  have hi := rc_mem _ (h0 i)
  have hj := rc_mem _ (h0 j)
  have hk := rc_mem _ (h0 k)
  rw [cnt_tv h0, cnt_tv h0, cnt_tv h0]
  generalize rcode (m0 i) = A at *
  generalize rcode (m0 j) = B at *
  generalize rcode (m0 k) = C at *
  have t : ∀ {A B C}, A ∈ RC → B ∈ RC → C ∈ RC → ultra (cN A B) (cN B C) (cN A C) (comN A B C) = true ∧ comN A B C = comN B A C := fun a b c => by
    have h := tri_all _ a _ b _ c
    unfold tri at h
    simp only [Bool.and_eq_true, beq_iff_eq] at h
    exact ⟨h.1.1, h.2⟩
  have s1 := (t hi hj hk).2
  have s2 := (t hi hk hj).2
  have s3 := (t hj hk hi).2
  have w1 := com_swap A B C
  have w2 := com_swap B A C
  have w3 := com_swap C A B
  have x1 := ex_com A B C
  have x2 := ex_com B A C
  have x3 := ex_com B C A
  have x4 := ex_com C B A
  have x5 := ex_com A C B
  have x6 := ex_com C A B
  have y1 := pair_all _ hi _ hj
  have y2 := pair_all _ hj _ hk
  have y3 := pair_all _ hi _ hk
  refine ⟨cN A B, cN B C, cN A C, comN A B C, (t hi hj hk).1, rfl, rfl, rfl, ?_, ?_, ?_, ?_, ?_, ?_⟩ <;> omega

/-- what three bear for a thing -/
def cnt3 (tv0 tv1 : Nat → List Str) (i j k x : Nat) : Nat := (midL tv0 tv1 (i, j, k)).countP (· == (x : Int))

theorem three (h0 : ∀ i, m0 i < 36) (h1 : ∀ i, m1 i < 36) {i j k : Nat} (hij : i ≠ j) (hjk : j ≠ k) (hik : i ≠ k) :
    (midP (tvN m0) (tvN m1) (i, j, k)).isSome = true ∧
    cnt3 (tvN m0) (tvN m1) i j k j = exN (rcode (m0 j)) (rcode (m0 i)) (rcode (m0 k)) * exN (rcode (m1 j)) (rcode (m1 k)) (rcode (m1 i)) + exN (rcode (m0 j)) (rcode (m0 k)) (rcode (m0 i)) * exN (rcode (m1 j)) (rcode (m1 i)) (rcode (m1 k)) ∧
    cnt3 (tvN m0) (tvN m1) i j k k = exN (rcode (m0 k)) (rcode (m0 j)) (rcode (m0 i)) * exN (rcode (m1 k)) (rcode (m1 i)) (rcode (m1 j)) + exN (rcode (m0 k)) (rcode (m0 i)) (rcode (m0 j)) * exN (rcode (m1 k)) (rcode (m1 j)) (rcode (m1 i)) ∧
    cnt3 (tvN m0) (tvN m1) i j k i = exN (rcode (m0 i)) (rcode (m0 j)) (rcode (m0 k)) * exN (rcode (m1 i)) (rcode (m1 k)) (rcode (m1 j)) + exN (rcode (m0 i)) (rcode (m0 k)) (rcode (m0 j)) * exN (rcode (m1 i)) (rcode (m1 j)) (rcode (m1 k)) ∧
    ∀ x, x ≠ i → x ≠ j → x ≠ k → cnt3 (tvN m0) (tvN m1) i j k x = 0 := by
  obtain ⟨p, q, r, c, u, a1, a2, a3, b1, b2, b3, b4, b5, b6⟩ := ex_tri h0 i j k
  obtain ⟨p', q', r', c', u', a1', a2', a3', b1', b2', b3', b4', b5', b6'⟩ := ex_tri h1 i j k
  obtain ⟨⟨t, m, em, wj, wk, wi⟩⟩ := told_ultra u u'
  have e : midP (tvN m0) (tvN m1) (i, j, k) = some (t, m) := by
    show midF (sumS (tvN m0) (tvN m1) i j) (sumS (tvN m0) (tvN m1) j k) (sumS (tvN m0) (tvN m1) i k) = _
    unfold sumS
    rw [a1, a2, a3, a1', a2', a3', em]
  have cn : ∀ x, cnt3 (tvN m0) (tvN m1) i j k x = if pickT i j k t = x then m else 0 := by
    intro x
    unfold cnt3 midL
    rw [e]
    show (List.replicate m ((pickT i j k t : Nat) : Int)).countP (· == (x : Int)) = _
    rw [List.countP_replicate]
    by_cases hx : pickT i j k t = x
    · rw [if_pos hx, if_pos (by rw [hx]; simp)]
    · rw [if_neg hx, if_neg (by simp only [beq_iff_eq, Int.ofNat_inj]; exact hx)]
  refine ⟨by rw [e]; rfl, ?_, ?_, ?_, fun x n1 n2 n3 => ?_⟩
  · rw [cn, b2, b3', b3, b2', ← wj]
    unfold pickT
    by_cases t0 : t = 0
    · simp [t0]
    · by_cases t1 : t = 1
      · simp [t1, Ne.symm hjk]
      · simp [t0, t1, hij]
  · rw [cn, b4, b6', b6, b4', ← wk]
    unfold pickT
    by_cases t0 : t = 0
    · simp [t0, hjk]
    · by_cases t1 : t = 1
      · simp [t1]
      · simp [t0, t1, hik]
  · rw [cn, b1, b5', b5, b1', ← wi]
    unfold pickT
    by_cases t0 : t = 0
    · simp [t0, Ne.symm hij]
    · by_cases t1 : t = 1
      · simp [t1, Ne.symm hik]
      · simp [t0, t1]
  · rw [cn, if_neg]
    unfold pickT
    split
    · exact Ne.symm n2
    · split
      · exact Ne.symm n3
      · exact Ne.symm n1
end

open PySem PySem.W PyProof.Rows
theorem count_flat {α β : Type} (l : List α) (f : α → List β) (p : β → Bool) : (l.flatMap f).countP p = S l fun a => (f a).countP p := by
  induction l with
  | nil => rfl
  | cons a r ih => rw [List.flatMap_cons, List.countP_append, S_cons, ih]
theorem thr_list : thrL = [(0, 1, 2), (0, 1, 3), (0, 2, 3), (1, 2, 3), (0, 1, 4), (0, 2, 4), (1, 2, 4), (0, 3, 4), (1, 3, 4), (2, 3, 4)] := rfl
theorem r5_list : R5 = [0, 1, 2, 3, 4] := rfl

section
variable {m0 m1 : Nat → Nat}
theorem mid_tv (h0 : ∀ i, m0 i < 36) (h1 : ∀ i, m1 i < 36) : ∀ p ∈ thrL, (midP (tvN m0) (tvN m1) p).isSome = true := by
  rintro ⟨i, j, k⟩ hp
  have := mem_thr hp
  dsimp only at this
  exact (three h0 h1 (by omega) (by omega) (by omega)).1

set_option maxHeartbeats 4000000 in
theorem due_tv (h0 : ∀ i, m0 i < 36) (h1 : ∀ i, m1 i < 36) (x : Nat) (hx : x < 5) : (thrL.flatMap (midL (tvN m0) (tvN m1))).countP (· == (x : Int)) = dueN (tvN m0) (tvN m1) x := by
  rw [count_flat, due_code h0 h1, due_cross, thr_list, r5_list]
  show (S [(0, 1, 2), (0, 1, 3), (0, 2, 3), (1, 2, 3), (0, 1, 4), (0, 2, 4), (1, 2, 4), (0, 3, 4), (1, 3, 4), (2, 3, 4)] fun p : Nat × Nat × Nat => cnt3 (tvN m0) (tvN m1) p.1 p.2.1 p.2.2 x) = _
  obtain ⟨_, aj, ak, ai, ax⟩ := three h0 h1 (i := 0) (j := 1) (k := 2) (by omega) (by omega) (by omega)
  obtain ⟨_, bj, bk, bi, bx⟩ := three h0 h1 (i := 0) (j := 1) (k := 3) (by omega) (by omega) (by omega)
  obtain ⟨_, cj, ck, ci, cx⟩ := three h0 h1 (i := 0) (j := 2) (k := 3) (by omega) (by omega) (by omega)
  obtain ⟨_, dj, dk, di, dx⟩ := three h0 h1 (i := 1) (j := 2) (k := 3) (by omega) (by omega) (by omega)
  obtain ⟨_, ej, ek, ei, ex⟩ := three h0 h1 (i := 0) (j := 1) (k := 4) (by omega) (by omega) (by omega)
  obtain ⟨_, fj, fk, fi, fx⟩ := three h0 h1 (i := 0) (j := 2) (k := 4) (by omega) (by omega) (by omega)
  obtain ⟨_, gj, gk, gi, gx⟩ := three h0 h1 (i := 1) (j := 2) (k := 4) (by omega) (by omega) (by omega)
  obtain ⟨_, hj, hk, hi, hx'⟩ := three h0 h1 (i := 0) (j := 3) (k := 4) (by omega) (by omega) (by omega)
  obtain ⟨_, ij, ik, ii, ix⟩ := three h0 h1 (i := 1) (j := 3) (k := 4) (by omega) (by omega) (by omega)
  obtain ⟨_, jj, jk, ji, jx⟩ := three h0 h1 (i := 2) (j := 3) (k := 4) (by omega) (by omega) (by omega)
  simp only [S_cons, S_nil, ex_self]
  have hx5 : x = 0 ∨ x = 1 ∨ x = 2 ∨ x = 3 ∨ x = 4 := by omega
  rcases hx5 with rfl | rfl | rfl | rfl | rfl
  · rw [ai, bi, ci, dx 0 (by omega) (by omega) (by omega), ei, fi, gx 0 (by omega) (by omega) (by omega), hi, ix 0 (by omega) (by omega) (by omega), jx 0 (by omega) (by omega) (by omega)]
    simp only [ex_own, Nat.mul_zero, Nat.zero_mul]
    omega
  · rw [aj, bj, cx 1 (by omega) (by omega) (by omega), di, ej, fx 1 (by omega) (by omega) (by omega), gi, hx' 1 (by omega) (by omega) (by omega), ii, jx 1 (by omega) (by omega) (by omega)]
    simp only [ex_own, Nat.mul_zero, Nat.zero_mul]
    omega
  · rw [ak, bx 2 (by omega) (by omega) (by omega), cj, dj, ex 2 (by omega) (by omega) (by omega), fj, gj, hx' 2 (by omega) (by omega) (by omega), ix 2 (by omega) (by omega) (by omega), ji]
    simp only [ex_own, Nat.mul_zero, Nat.zero_mul]
    omega
  · rw [ax 3 (by omega) (by omega) (by omega), bk, ck, dk, ex 3 (by omega) (by omega) (by omega), fx 3 (by omega) (by omega) (by omega), gx 3 (by omega) (by omega) (by omega), hj, ij, jj]
    simp only [ex_own, Nat.mul_zero, Nat.zero_mul]
    omega
  · rw [ax 4 (by omega) (by omega) (by omega), bx 4 (by omega) (by omega) (by omega), cx 4 (by omega) (by omega) (by omega), dx 4 (by omega) (by omega) (by omega), ek, fk, gk, hk, ik, jk]
    simp only [ex_own, Nat.mul_zero, Nat.zero_mul]
    omega
end

open PySem PySem.W PyProof.Rows
/-! hosts and domains as texts -/
def loS (x : Str) : Str := ⟨x.cps.map lo1⟩
def asc (x : Str) : Bool := x.cps.toList.all fun c => decide (c < 128)
theorem lo_up (c : Nat) : lo1 (up1 c) = lo1 c := by unfold lo1 up1; (repeat' split) <;> omega
theorem up_lt {c : Nat} (h : c < 128) : up1 c < 128 := by unfold up1; split <;> omega
theorem asc_lt {x : Str} (h : asc x = true) : ∀ c ∈ x.cps.toList, c < 128 := fun c hc => of_decide_eq_true (List.all_eq_true.mp h c hc)
theorem lower_lo {x : Str} (h : asc x = true) : Txt.lower x = loS x := lower_ascii (asc_lt h)
theorem upper_up {x : Str} (h : asc x = true) : Txt.upper x = ⟨x.cps.map up1⟩ := upper_ascii (asc_lt h)
theorem lower_upper {x : Str} (h : asc x = true) : Txt.lower (Txt.upper x) = loS x := by
  rw [upper_up h, lower_ascii]
  · unfold loS
    congr 1
    show (x.cps.map up1).map lo1 = _
    rw [Array.map_map]
    congr 1
    funext c
    exact lo_up c
  · intro c hc
    have hc' : c ∈ (x.cps.map up1).toList := hc
    rw [Array.toList_map, List.mem_map] at hc'
    obtain ⟨d, hd, rfl⟩ := hc'
    exact up_lt (asc_lt h d hd)

def S13 : List Str := [⟨#[46, 55]⟩, ⟨#[46, 97, 46, 55]⟩, ⟨#[46, 66, 97, 46, 55]⟩, ⟨#[46, 108, 111, 99, 97, 108, 46, 55]⟩, ⟨#[46, 97, 46, 97, 46, 55]⟩, ⟨#[46, 66, 97, 46, 97, 46, 55]⟩, ⟨#[46, 108, 111, 99, 97, 108, 46, 97, 46, 55]⟩, ⟨#[46, 97, 46, 66, 97, 46, 55]⟩, ⟨#[46, 66, 97, 46, 66, 97, 46, 55]⟩, ⟨#[46, 108, 111, 99, 97, 108, 46, 66, 97, 46, 55]⟩, ⟨#[46, 97, 46, 108, 111, 99, 97, 108, 46, 55]⟩, ⟨#[46, 66, 97, 46, 108, 111, 99, 97, 108, 46, 55]⟩, ⟨#[46, 108, 111, 99, 97, 108, 46, 108, 111, 99, 97, 108, 46, 55]⟩]
def N13 : List Str := [⟨#[108, 111, 99, 97, 108]⟩, ⟨#[97, 46, 108, 111, 99, 97, 108]⟩, ⟨#[66, 97, 46, 108, 111, 99, 97, 108]⟩, ⟨#[108, 111, 99, 97, 108, 46, 108, 111, 99, 97, 108]⟩, ⟨#[97, 46, 97, 46, 108, 111, 99, 97, 108]⟩, ⟨#[66, 97, 46, 97, 46, 108, 111, 99, 97, 108]⟩, ⟨#[108, 111, 99, 97, 108, 46, 97, 46, 108, 111, 99, 97, 108]⟩, ⟨#[97, 46, 66, 97, 46, 108, 111, 99, 97, 108]⟩, ⟨#[66, 97, 46, 66, 97, 46, 108, 111, 99, 97, 108]⟩, ⟨#[108, 111, 99, 97, 108, 46, 66, 97, 46, 108, 111, 99, 97, 108]⟩, ⟨#[97, 46, 108, 111, 99, 97, 108, 46, 108, 111, 99, 97, 108]⟩, ⟨#[66, 97, 46, 108, 111, 99, 97, 108, 46, 108, 111, 99, 97, 108]⟩, ⟨#[108, 111, 99, 97, 108, 46, 108, 111, 99, 97, 108, 46, 108, 111, 99, 97, 108]⟩]
def sstr (k : Nat) : Str := S13.getD k Str.empty
def nstr (k : Nat) : Str := N13.getD k Str.empty
def lab (k : Nat) : List Nat := if k = 0 then [97] else if k = 1 then [66, 97] else [108, 111, 99, 97, 108]
def tcode (m : Nat) : List Nat :=
  if m % 4 = 0 then 46 :: lab 2 else if m % 4 = 1 then 46 :: lab (m / 4 % 3) ++ 46 :: lab 2 else if m % 4 = 2 then 46 :: lab (m / 4 % 3) ++ 46 :: lab (m / 12 % 3) ++ 46 :: lab 2
  else 46 :: lab (m / 4 % 3) ++ 46 :: lab (m / 12 % 3) ++ [46, 55]
def hostA (i m : Nat) : Str := ⟨(List.replicate (i + 1) 115 ++ tcode m).toArray⟩
def can (m : Nat) : Nat := if m % 4 = 0 then 0 else if m % 4 = 1 then 1 + 4 * (m / 4 % 3) else m
def C22 : List Nat := [0, 1, 5, 9, 2, 6, 10, 14, 18, 22, 26, 30, 34, 3, 7, 11, 15, 19, 23, 27, 31, 35]
/-- those with a great letter -/
def CB : List Nat := [5, 6, 14, 18, 22, 30, 7, 15, 19, 23, 31]
/-- the codes of a tail's ends, whatever it ends in -/
def rcod (m : Nat) : List Nat :=
  if m % 4 = 0 then [0] else if m % 4 = 1 then [1 + m / 4 % 3, 0] else [4 + 3 * (m / 12 % 3) + m / 4 % 3, 1 + m / 12 % 3, 0]
def dstr (m k : Nat) : Str := if m % 4 = 3 then sstr k else rstr k
theorem host_eq : ∀ i, i < 5 → ∀ m, m < 36 → hvS (fun _ => tailN m) i = hostA i m := by decide +kernel
theorem can_mem : ∀ m, m < 36 → can m ∈ C22 ∧ tcode m = tcode (can m) ∧ (m % 4 == 3) = (can m % 4 == 3) := by decide +kernel
theorem rv_code : ∀ m, m < 36 → rvS (tailN m) = (rcod m).map (dstr m) := by decide +kernel
theorem rcod_lt : ∀ m, m < 36 → ∀ k ∈ rcod m, k < 13 := by decide +kernel
theorem rcod_rc : ∀ m, m < 36 → (m % 4 == 3) = false → rcod m = rcode m := by decide +kernel
theorem rcode_sev : ∀ m, m < 36 → (m % 4 == 3) = true → rcode m = [] := by decide +kernel
theorem tail_len : ∀ m, m < 36 → (tailN m).length ≤ 3 ∧ (tailN m).getLast?.isSome = true := by decide +kernel
theorem join_h : ∀ i : Nat, i < 5 → ∀ m, m < 36 → JoinOk "." ([Txt.mul "s" ((i : Int) + 1)] ++ tailN m) = true := by decide +kernel
theorem join_r : ∀ m, m < 36 → ∀ k, k < (tailN m).length → JoinOk "." ((tailN m).drop k) = true ∧ (Txt.join "." ((tailN m).drop k)).length ≤ 1000 := by decide +kernel
theorem ush_all : ∀ m, m < 36 → PyData.canLayAll0 ((uvS (tailN m)).map PyData.str) = true := by decide +kernel
theorem asc_r : ∀ k, k < 13 → asc (rstr k) = true ∧ asc (sstr k) = true ∧ (rstr k).length ≤ 100 ∧ (sstr k).length ≤ 100 := by decide +kernel
theorem asc_t : ∀ m, m < 36 → ((tcode m).all fun c => decide (c < 128)) = true ∧ (tcode m).length ≤ 100 := by decide +kernel

open PySem PySem.W PyProof.Rows
/-! where the pattern stands: each text once -/
theorem hit0 : ∀ m ∈ C22, reHit (hostA 0 m) = some (m % 4 == 3) := by decide +kernel
theorem hit1 : ∀ m ∈ C22, reHit (hostA 1 m) = some (m % 4 == 3) := by decide +kernel
theorem hit2 : ∀ m ∈ C22, reHit (hostA 2 m) = some (m % 4 == 3) := by decide +kernel
theorem hit3 : ∀ m ∈ C22, reHit (hostA 3 m) = some (m % 4 == 3) := by decide +kernel
theorem hit4 : ∀ m ∈ C22, reHit (hostA 4 m) = some (m % 4 == 3) := by decide +kernel
theorem low0 : ∀ m ∈ CB, reHit (loS (hostA 0 m)) = some (m % 4 == 3) := by decide +kernel
theorem low1 : ∀ m ∈ CB, reHit (loS (hostA 1 m)) = some (m % 4 == 3) := by decide +kernel
theorem low2 : ∀ m ∈ CB, reHit (loS (hostA 2 m)) = some (m % 4 == 3) := by decide +kernel
theorem low3 : ∀ m ∈ CB, reHit (loS (hostA 3 m)) = some (m % 4 == 3) := by decide +kernel
theorem low4 : ∀ m ∈ CB, reHit (loS (hostA 4 m)) = some (m % 4 == 3) := by decide +kernel
theorem low_same : ∀ m ∈ C22, m ∈ CB ∨ (tcode m).map lo1 = tcode m := by decide +kernel
theorem hit_n : ∀ k, k < 13 → reHit (nstr k) = some false := by decide +kernel
theorem hit_r : ∀ k, k < 13 → reHit (loS (rstr k)) = some false := by decide +kernel
theorem hit_s : ∀ k, k < 13 → reHit (loS (sstr k)) = some true := by decide +kernel

open PySem PySem.W PyProof.Rows
/-! reach, the pattern's answer given -/
def hdnB (b : Bool) (x : Str) : Bool := !b && !eqS x "" && !(eqS ⟨#[(at0 x).getD 0]⟩ "." || eqS ⟨#[(atM x).getD 0]⟩ ".")
def reachB (b : Bool) (x : Str) : Str :=
  if Txt.find x "." ≥ 0 then
    (if hdnB b x && (decide (Txt.find (Txt.slice x (some (Txt.find x "." + 1)) none) "." ≥ 0) || eqS (Txt.slice x (some (Txt.find x "." + 1)) none) "local") then
      Str.ofString "." ++ Txt.slice x (some (Txt.find x "." + 1)) none else x)
  else x
def okB (x : Str) : Bool := decide (x.cps.size ≤ 1000) && (at0 x).isSome && (atM x).isSome
theorem reach_b {x : Str} {b : Bool} (h : reHit x = some b) : reachF x = reachB b x := by
  unfold reachF reachB hdnF hdnB libF
  rw [h]
  rfl
theorem okh_b {x : Str} {b : Bool} (h : reHit x = some b) : okH x = okB x := by
  unfold okH okB
  rw [h]
  rfl
theorem reach_hit (x : Str) : reachB true x = x := by
  unfold reachB hdnB
  simp
theorem eqs_self (x : Str) : eqS x x = true := by simp [eqS]

theorem up_step {x y z : Str} {b : Bool} {N : Nat} (h : reHit x = some b) (ok : okB x = true) (hr : reachB b x = y) (hy : y.length ≤ 1000) (ne : eqS y x = false) (hs : Txt.slice y (some 1) none = z) :
    okUp (N + 1) x = okUp N z ∧ ladder (N + 1) x = y :: ladder N z := by
  have e := (reach_b h).trans hr
  constructor
  · show (okH x && decide ((reachF x).length ≤ 1000) && (eqS (reachF x) x || okUp N (Txt.slice (reachF x) (some 1) none))) = _
    rw [e, okh_b h, ok, ne, hs, decide_eq_true hy]; rfl
  · show (if eqS (reachF x) x = true then [] else reachF x :: ladder N (Txt.slice (reachF x) (some 1) none)) = _
    rw [e, ne, hs]; rfl
theorem up_stop {x : Str} {b : Bool} {N : Nat} (h : reHit x = some b) (ok : okB x = true) (hr : reachB b x = x) (hy : x.length ≤ 1000) :
    okUp (N + 1) x = true ∧ ladder (N + 1) x = [] := by
  have e := (reach_b h).trans hr
  constructor
  · show (okH x && decide ((reachF x).length ≤ 1000) && (eqS (reachF x) x || okUp N (Txt.slice (reachF x) (some 1) none))) = _
    rw [e, okh_b h, ok, eqs_self, decide_eq_true hy]; rfl
  · show (if eqS (reachF x) x = true then [] else reachF x :: ladder N (Txt.slice (reachF x) (some 1) none)) = _
    rw [e, eqs_self]; rfl

def par (k : Nat) : Nat := if k < 4 then 0 else 1 + (k - 4) / 3
def anc (k : Nat) : List Nat := if k = 0 then [] else if k < 4 then [0] else [1 + (k - 4) / 3, 0]
theorem n_ok : ∀ k, k < 13 → okB (nstr k) = true ∧ (nstr k).length ≤ 1000 ∧ (rstr k).length ≤ 1000 ∧ Txt.slice (rstr k) (some 1) none = nstr k := by decide +kernel
theorem n_reach : ∀ k, k < 13 → reachB false (nstr k) = if k = 0 then nstr 0 else rstr (par k) := by decide +kernel
theorem n_ne : ∀ j, j < 13 → ∀ k, k < 13 → eqS (rstr j) (nstr k) = false := by decide +kernel
theorem anc_of : ∀ m, m < 36 → (m % 4 == 3) = false → ∃ k, k < 13 ∧ rcode m = k :: anc k := by decide +kernel
theorem h_ok : ∀ i, i < 5 → ∀ m ∈ C22, okB (hostA i m) = true := by decide +kernel
def topc (m : Nat) : Nat := (rcode m).headD 0
theorem h_reach0 : ∀ m ∈ C22, (m % 4 == 3) = false → reachB false (hostA 0 m) = rstr (topc m) := by decide +kernel
theorem h_reach1 : ∀ m ∈ C22, (m % 4 == 3) = false → reachB false (hostA 1 m) = rstr (topc m) := by decide +kernel
theorem h_reach2 : ∀ m ∈ C22, (m % 4 == 3) = false → reachB false (hostA 2 m) = rstr (topc m) := by decide +kernel
theorem h_reach3 : ∀ m ∈ C22, (m % 4 == 3) = false → reachB false (hostA 3 m) = rstr (topc m) := by decide +kernel
theorem h_reach4 : ∀ m ∈ C22, (m % 4 == 3) = false → reachB false (hostA 4 m) = rstr (topc m) := by decide +kernel
theorem can_code : ∀ m, m < 36 → rcode m = rcode (can m) := by decide +kernel
theorem head_r : ∀ k, k < 13 → (rstr k).cps.toList.head? = some 46 ∧ (loS (rstr k)).cps.toList.head? = some 46 ∧ (loS (sstr k)).cps.toList.head? = some 46 ∧ Txt.startswith (loS (rstr k)) "." = true := by decide +kernel
theorem rs_ne : ∀ k, k < 13 → ∀ j, j < 13 → (rstr k == sstr j) = false := by decide +kernel
/-! the end of a text, as lists -/
def endsL (T R : List Nat) : Bool := decide (R.length ≤ T.length) && T.drop (T.length - R.length) == R
theorem ends_list (L R : List Nat) : Txt.endswith ⟨L.toArray⟩ ⟨R.toArray⟩ = endsL L R := by
  have e : Builtin.Str.subAt ⟨L.toArray⟩ ⟨R.toArray⟩ (L.length - R.length) = if R.length ≤ L.length then (L.drop (L.length - R.length) == R) else Builtin.Str.subAt ⟨L.toArray⟩ ⟨R.toArray⟩ (L.length - R.length) := by
    split
    · rename_i h
      unfold Builtin.Str.subAt
      rw [Bool.eq_iff_iff, beq_iff_eq, beq_iff_eq, ← Array.toList_inj]
      simp only [Array.toList_extract, Str.length, List.size_toArray]
      rw [List.extract_eq_take_drop, show L.length - R.length + R.length - (L.length - R.length) = R.length by omega, List.take_of_length_le (by rw [List.length_drop]; omega)]
    · rfl
  show (decide (0 + R.length ≤ L.length) && Builtin.Str.subAt ⟨L.toArray⟩ ⟨R.toArray⟩ (L.length - R.length)) = _
  unfold endsL
  rw [Nat.zero_add, e]
  by_cases h : R.length ≤ L.length
  · rw [if_pos h]
  · rw [decide_eq_false h]; rfl
theorem ends_pre {n a b : Nat} {T R : List Nat} (hab : a ≠ b) : endsL (List.replicate n a ++ T) (b :: R) = endsL T (b :: R) := by
  unfold endsL
  rw [List.length_append, List.length_replicate]
  by_cases h : (b :: R).length ≤ T.length
  · rw [decide_eq_true h, decide_eq_true (by omega), show n + T.length - (b :: R).length = (List.replicate n a).length + (T.length - (b :: R).length) by rw [List.length_replicate]; omega, List.drop_append, List.drop_of_length_le (by omega), List.nil_append, Nat.add_sub_cancel_left]
  · rw [decide_eq_false h, Bool.false_and]
    by_cases h2 : (b :: R).length ≤ n + T.length
    · rw [Bool.and_eq_false_iff]
      refine .inr ?_
      rw [beq_eq_false_iff_ne]
      intro e
      have e2 := congrArg List.head? e
      rw [List.head?_drop, List.getElem?_append_left (by rw [List.length_replicate]; omega), List.getElem?_replicate, if_pos (by omega)] at e2
      cases e2
      exact hab rfl
    · rw [decide_eq_false h2]; rfl
theorem ends_code : ∀ m ∈ C22, (m % 4 == 3) = false → ∀ k, k < 13 → endsL ((tcode m).map lo1) ((loS (rstr k)).cps.toList) = isin (rcode m) k := by decide +kernel

open PySem PySem.W PyProof.Rows
theorem host_can {i m : Nat} (hm : m < 36) : hostA i m = hostA i (can m) := by unfold hostA; rw [(can_mem m hm).2.1]
theorem five {i : Nat} (h : i < 5) {P : Nat → Prop} (h0 : P 0) (h1 : P 1) (h2 : P 2) (h3 : P 3) (h4 : P 4) : P i := by
  have : i = 0 ∨ i = 1 ∨ i = 2 ∨ i = 3 ∨ i = 4 := by omega
  rcases this with rfl | rfl | rfl | rfl | rfl
  · exact h0
  · exact h1
  · exact h2
  · exact h3
  · exact h4

theorem hit_all {i m : Nat} (hi : i < 5) (hm : m < 36) : reHit (hostA i m) = some (m % 4 == 3) := by
  obtain ⟨c1, _, c3⟩ := can_mem m hm
  rw [host_can hm, c3]
  exact five hi (P := fun i => reHit (hostA i (can m)) = some (can m % 4 == 3)) (hit0 _ c1) (hit1 _ c1) (hit2 _ c1) (hit3 _ c1) (hit4 _ c1)
theorem lo_host (i m : Nat) : loS (hostA i m) = ⟨(List.replicate (i + 1) 115 ++ (tcode m).map lo1).toArray⟩ := by
  unfold loS hostA
  congr 1
  apply Array.toList_inj.mp
  simp only [Array.toList_map, List.map_append, List.map_replicate]
  rfl
theorem low_all {i m : Nat} (hi : i < 5) (hm : m < 36) : reHit (loS (hostA i m)) = some (m % 4 == 3) := by
  obtain ⟨c1, _, c3⟩ := can_mem m hm
  rcases low_same _ c1 with hb | hs
  · rw [host_can hm, c3]
    exact five hi (P := fun i => reHit (loS (hostA i (can m))) = some (can m % 4 == 3)) (low0 _ hb) (low1 _ hb) (low2 _ hb) (low3 _ hb) (low4 _ hb)
  · have e : loS (hostA i (can m)) = hostA i (can m) := by rw [lo_host, hs]; rfl
    rw [host_can hm, e, ← host_can hm]
    exact hit_all hi hm

theorem asc_host {i m : Nat} (hm : m < 36) : asc (hostA i m) = true := by
  unfold asc hostA
  rw [List.all_append, (asc_t m hm).1, Bool.and_true, List.all_eq_true]
  intro c hc
  rw [List.eq_of_mem_replicate hc]
  rfl
theorem host_size {i m : Nat} (hi : i < 5) (hm : m < 36) : (hostA i m).cps.size ≤ 105 := by
  have := (asc_t m hm).2
  unfold hostA
  simp only [List.size_toArray, List.length_append, List.length_replicate]
  omega
theorem lib_lo {x : Str} {b : Bool} (h : reHit (loS x) = some b) : libF (loS x) = !b := by unfold libF; rw [h]; rfl

theorem okl_of {x : Str} {b : Bool} (ha : asc x = true) (h : reHit (loS x) = some b) (hs : x.cps.size ≤ 1000) : okL x = true := by
  unfold okL
  rw [lower_lo ha, h]
  have e : (loS x).cps.size = x.cps.size := by unfold loS; simp
  rw [e, decide_eq_true hs, decide_eq_true (show x.length ≤ 1000 from hs)]
  rfl
theorem okl_up {x : Str} {b : Bool} (ha : asc x = true) (h : reHit (loS x) = some b) (hs : x.cps.size ≤ 1000) : okL (Txt.upper x) = true := by
  unfold okL
  rw [lower_upper ha, h]
  have e : (loS x).cps.size = x.cps.size := by unfold loS; simp
  have e2 : (Txt.upper x).length = x.cps.size := by rw [upper_up ha]; show (x.cps.map up1).size = _; simp
  rw [e, e2, decide_eq_true hs]
  rfl
theorem head_host (i m : Nat) : (loS (hostA i m)).cps.toList.head? = some 115 := by
  rw [lo_host, List.replicate_succ]; rfl
theorem head_hostA (i m : Nat) : (hostA i m).cps.toList.head? = some 115 := by
  unfold hostA; rw [List.replicate_succ]; rfl
theorem eqs_head {x y : Str} {a b : Nat} (hx : x.cps.toList.head? = some a) (hy : y.cps.toList.head? = some b) (h : a ≠ b) : eqS x y = false := by
  unfold eqS
  rw [beq_eq_false_iff_ne]
  intro e
  rw [e, hy] at hx
  cases hx
  exact h rfl

/-! the ladder -/
theorem name_up0 (N : Nat) : okUp (N + 1) (nstr 0) = true ∧ ladder (N + 1) (nstr 0) = [] := by
  have h := n_ok 0 (by omega)
  exact up_stop (hit_n 0 (by omega)) h.1 (n_reach 0 (by omega)) h.2.1
theorem name_step (N : Nat) {k : Nat} (hk : k < 13) (h0 : k ≠ 0) : okUp (N + 1) (nstr k) = okUp N (nstr (par k)) ∧ ladder (N + 1) (nstr k) = rstr (par k) :: ladder N (nstr (par k)) := by
  have h := n_ok k hk
  have hp : par k < 13 := by unfold par; split <;> omega
  have g := n_ok (par k) hp
  have r := n_reach k hk
  rw [if_neg h0] at r
  exact up_step (hit_n k hk) h.1 r g.2.2.1 (n_ne _ hp k hk) g.2.2.2
theorem name_up (N : Nat) {k : Nat} (hk : k < 13) : okUp (N + 3) (nstr k) = true ∧ ladder (N + 3) (nstr k) = (anc k).map rstr := by
  by_cases h0 : k = 0
  · subst h0; exact name_up0 _
  · have s1 := name_step (N + 2) hk h0
    by_cases h4 : k < 4
    · have e : par k = 0 := by unfold par; rw [if_pos h4]
      have z := name_up0 (N + 1)
      rw [e] at s1
      refine ⟨s1.1.trans z.1, ?_⟩
      rw [s1.2, z.2]; unfold anc; rw [if_neg h0, if_pos h4]; rfl
    · have hp : par k < 13 := by unfold par; split <;> omega
      have hp4 : par k < 4 := by unfold par; rw [if_neg h4]; omega
      have hp0 : par k ≠ 0 := by unfold par; rw [if_neg h4]; omega
      have s2 := name_step (N + 1) hp hp0
      have e : par (par k) = 0 := by unfold par at hp4 ⊢; rw [if_pos hp4]
      have z := name_up0 N
      rw [e] at s2
      refine ⟨s1.1.trans (s2.1.trans z.1), ?_⟩
      rw [s1.2, s2.2, z.2]
      unfold anc
      rw [if_neg h0, if_neg h4]
      unfold par
      rw [if_neg h4]
      rfl

theorem host_up {i m : Nat} (hi : i < 5) (hm : m < 36) : okUp 10 (hostA i m) = true ∧ ladder 10 (hostA i m) = uvS (tailN m) := by
  obtain ⟨c1, _, c3⟩ := can_mem m hm
  have ok : okB (hostA i m) = true := by rw [host_can hm]; exact h_ok i hi _ c1
  have hs := host_size hi hm
  have hh := hit_all hi hm
  rw [uv_code m hm]
  cases e : m % 4 == 3 with
  | true =>
    rw [rcode_sev m hm e]
    rw [e] at hh
    exact up_stop hh ok (reach_hit _) (by show (hostA i m).cps.size ≤ 1000; omega)
  | false =>
    rw [e] at hh
    obtain ⟨k, hk, ek⟩ := anc_of m hm e
    have et : topc (can m) = k := by unfold topc; rw [← can_code m hm, ek]; rfl
    have hr : reachB false (hostA i m) = rstr k := by
      rw [host_can hm, ← et]
      have e' : (can m % 4 == 3) = false := by rw [← c3]; exact e
      exact five hi (P := fun i => reachB false (hostA i (can m)) = rstr (topc (can m))) (h_reach0 _ c1 e') (h_reach1 _ c1 e') (h_reach2 _ c1 e') (h_reach3 _ c1 e') (h_reach4 _ c1 e')
    have g := n_ok k hk
    have s := up_step (N := 9) hh ok hr g.2.2.1 (eqs_head (head_r k hk).1 (head_hostA i m) (by decide)) g.2.2.2
    have u := name_up 6 hk
    refine ⟨s.1.trans u.1, ?_⟩
    rw [s.2, u.2, ek]
    rfl

theorem ends_host {i m k : Nat} (hm : m ∈ C22) (h3 : (m % 4 == 3) = false) (hk : k < 13) : Txt.endswith (loS (hostA i m)) (loS (rstr k)) = isin (rcode m) k := by
  rw [← ends_code m hm h3 k hk, lo_host]
  obtain ⟨_, t2, _⟩ := head_r k hk
  have e : loS (rstr k) = ⟨(loS (rstr k)).cps.toList.toArray⟩ := rfl
  generalize (loS (rstr k)).cps.toList = R at t2 e
  rw [e, ends_list]
  cases R with
  | nil => cases t2
  | cons b R => cases t2; exact ends_pre (by decide)

/-! what user_domain_match says -/
theorem udm_host {i m : Nat} (hm : m < 36) : udmF (Txt.upper (hostA i m)) (hostA i m) = true := by
  have ha := asc_host (i := i) hm
  unfold udmF
  rw [lower_upper ha, lower_lo ha]
  have ne : Txt.startswith (loS (hostA i m)) "." = false := by
    rw [lo_host, List.replicate_succ]
    unfold Txt.startswith
    have : Builtin.Str.subAt ⟨(115 :: List.replicate i 115 ++ (tcode m).map lo1).toArray⟩ "." 0 = false := by
      cases e : Builtin.Str.subAt ⟨(115 :: List.replicate i 115 ++ (tcode m).map lo1).toArray⟩ "." 0 with
      | false => rfl
      | true =>
        refine absurd e ?_
        unfold Builtin.Str.subAt
        simp
        intro e'
        have e2 := congrArg (fun a : Array Nat => a.toList.head?) e'
        have e3 : (Str.ofString ".").cps.toList.head? = some 46 := by decide +kernel
        have e4 : (Str.ofString ".").length = 1 := by decide +kernel
        rw [e4] at e2
        have e5 := e2.trans e3
        cases e5
    rw [this, Bool.and_false]
  rw [ne, eqs_self]
  simp

theorem udm_rule {i m m' : Nat} (hi : i < 5) (hm : m < 36) (hm' : m' < 36) {k : Nat} (hk : k ∈ rcod m') : udmF (Txt.upper (hostA i m)) (dstr m' k) = (uvS (tailN m)).any (· == dstr m' k) := by
  have hk13 := rcod_lt m' hm' k hk
  have ha := asc_host (i := i) hm
  obtain ⟨r1, r2, _⟩ := asc_r k hk13
  obtain ⟨t1, t2, t3, t4⟩ := head_r k hk13
  have hl := lib_lo (low_all hi hm)
  unfold udmF
  rw [lower_upper ha, uv_code m hm]
  by_cases h3 : m' % 4 = 3
  · have ed : dstr m' k = sstr k := by unfold dstr; rw [if_pos h3]
    rw [ed, lower_lo r2, hl, lib_lo (hit_s k hk13), Bool.not_true, Bool.and_false, if_neg (by decide), eqs_head (head_host i m) t3 (by decide), eq_comm]
    rw [List.any_map, List.any_eq_false]
    intro j hj
    simp only [Function.comp, rs_ne j (rcode_lt m hm j hj) k hk13]
    decide
  · have ed : dstr m' k = rstr k := by unfold dstr; rw [if_neg h3]
    rw [ed, lower_lo r1, hl, lib_lo (hit_r k hk13), t4, any_code (rcode_lt m hm) hk13]
    obtain ⟨c1, _, c3⟩ := can_mem m hm
    cases e : m % 4 == 3 with
    | true =>
      rw [rcode_sev m hm e]
      simp only [Bool.not_true, Bool.false_and, Bool.false_eq_true, if_false, List.any_nil]
      exact eqs_head (head_host i m) t2 (by decide)
    | false =>
      have e' : (can m % 4 == 3) = false := by rw [← c3]; exact e
      have := ends_host (i := i) c1 e' hk13
      rw [← host_can hm, ← can_code m hm] at this
      rw [this]
      simp only [Bool.not_false, Bool.not_true, Bool.true_and, Bool.and_true, Bool.false_and, Bool.or_false, if_true]
      rfl

theorem rule_ok {m : Nat} (hm : m < 36) {k : Nat} (hk : k ∈ rcod m) : okL (dstr m k) = true := by
  have hk13 := rcod_lt m hm k hk
  obtain ⟨r1, r2, l1, l2⟩ := asc_r k hk13
  unfold dstr
  split
  · exact okl_of r2 (hit_s k hk13) (Nat.le_trans l2 (by omega))
  · exact okl_of r1 (hit_r k hk13) (Nat.le_trans l1 (by omega))

theorem tails_tv {m : Nat → Nat} (hm : ∀ i, m i < 36) : TailsOk (tvN m) := by
  have hv : ∀ i, i < 5 → hvS (tvN m) i = hostA i (m i) := fun i hi => host_eq i hi (m i) (hm i)
  refine ⟨fun i hi => (tail_len _ (hm i)).1, fun i hi => (tail_len _ (hm i)).2, fun i hi => join_h i hi _ (hm i), fun i hi k hk => join_r _ (hm i) k hk, fun i hi => ?_, fun i hi => ?_, fun i hi => ush_all _ (hm i), fun i hi r hr => ?_, fun i j hij hj r hr => ?_⟩
  · rw [hv i hi]; exact host_up hi (hm i)
  · rw [hv i hi]
    have hs := host_size hi (hm i)
    have ha := asc_host (i := i) (hm i)
    have hl := low_all hi (hm i)
    exact ⟨by show (hostA i (m i)).cps.size ≤ 1000; omega, okl_up ha hl (by omega), okl_of ha hl (by omega), udm_host (hm i)⟩
  · have hr' : r ∈ rvS (tailN (m i)) := hr
    rw [rv_code _ (hm i), List.mem_map] at hr'
    obtain ⟨k, hk, rfl⟩ := hr'
    exact rule_ok (hm i) hk
  · rw [hv j hj]
    have hr' : r ∈ rvS (tailN (m i)) := hr
    rw [rv_code _ (hm i), List.mem_map] at hr'
    obtain ⟨k, hk, rfl⟩ := hr'
    exact udm_rule hj (hm j) (hm i) hk

open PySem PySem.W PyProof.Rows
def mT (nf : Nat → Int) (t i : Nat) : Nat := (((nf i).fdiv (36 ^ t)).fmod 36).toNat
theorem mT_lt (nf : Nat → Int) (t i : Nat) : mT nf t i < 36 := by
  have := fmod_lt ((nf i).fdiv (36 ^ t)) (b := 36) (by omega)
  unfold mT
  omega
theorem tvT_N (nf : Nat → Int) (t : Nat) : tvT nf t = tvN (mT nf t) := by
  funext i
  have := fmod_lt ((nf i).fdiv (36 ^ t)) (b := 36) (by omega)
  unfold tvT tvN tailN mT
  rw [Int.toNat_of_nonneg this.1]

theorem plain (nf : Nat → Int) : Plain nf := by
  refine ⟨fun t _ => ?_, fun t _ => ?_, ?_, fun x hx => ?_⟩
  · rw [tvT_N]; exact tails_tv (mT_lt nf t)
  · rw [tvT_N]; exact alone_tv (mT_lt nf t)
  · rw [tvT_N, tvT_N]; exact mid_tv (mT_lt nf 0) (mT_lt nf 1)
  · rw [tvT_N, tvT_N]; exact due_tv (mT_lt nf 0) (mT_lt nf 1) x hx

end Mine
end

theorem Mine.room0 : Mine.Room 10 callerA := ⟨rfl, by decide +kernel, by decide +kernel⟩

set_option maxRecDepth 100000 in
set_option maxHeartbeats 8000000 in
theorem PySem.Challenge.cw_pu0020_01_holds : PySem.Challenge.rw_pu0020_01.Holds := by
  w_on; o_law; k_head
  case hw => w_witness2
  k_fill
  intro w s₀ s₁ mg mb G Y fa o pm cd doc dV kV ho hd hcd hD hmg hg args vals as hpre hlay hrd hwl hlo
  have KX := kIn_of Y
  refine Ground.open G ?_
  intro T B D TE TW
  have GG := Mine.gd_of KX T (by
    constructor
    all_goals first | kernel_rfl | (constructor <;> kernel_rfl))
  wrow_args hpre hlay hrd hwl hlo
  obtain ⟨GG, elaw, flaw⟩ := GG
  have efa : fa = 102 := by
    have := hmg.symm.trans elaw
    cases this; rfl
  subst efa
  obtain ⟨h₁, g₁, d₁, tk₁, os₁⟩ := s₁
  refine wpAny_mono (Mine.law_call (n := 5) (c := ⟨_, w, g₁, d₁, os₁⟩) GG Mine.room0 flaw ?hx (Mine.plain _) ‹h₁.IsList _ _› ‹IntsAre _ _›) ?_ (fun _ _ x => x)
  case hx => omega
  rintro a s' ⟨h', tk', rfl, rfl, k⟩
  refine GoodW.toG ⟨.inl ⟨_, .bool true, [], rfl, ?_, ?_, ?_, ?_⟩, k, rfl, hg⟩
  · exact raisesW_false (by wrow_none_raised)
  · exact readsW_of_reads (.bool _)
  · exact postW_of (by wrow_shape) (by wtm_val) (by first | rfl | str_meet)
  · exact fun _ => ⟨.nil, fun _ hm => nomatch hm⟩
