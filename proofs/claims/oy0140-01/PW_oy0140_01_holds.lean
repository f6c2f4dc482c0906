import PyProof.Rows.All
import Wide.All
import OpenK.AllK
import Wide.FinOn
import PyProof.EnumMake
import PyProof.Draws
import Lean
import PySem.Challenge.RW_oy0140_01
open PySem PySem.W PySem.Spec PySem.Calls PyProof.Rows
set_option Elab.async false
set_option linter.all false
set_option compiler.extract_closed false
set_option genSizeOf false
set_option maxRecDepth 100000
set_option maxHeartbeats 2000000
namespace Mine.Internal
set_option hygiene false in
local macro_rules | `(tactic| wtm_at "cb") => `(tactic| with_reducible first
    | refine wpAny_bind ?_ | refine wpAny_pure ?_ | refine wpAny_of_eq (by assumption) ?_ | refine wpAny_isInstance (by assumption) (by assumption) ?_ | refine wpAny_load (by assumption) ?_
    | refine wpAny_loadPart (by assumption) ?_ | refine wpAny_holding ?_ | refine wpAny_tryCatchS ?_ | refine wpAny_forArr ?_ | refine wpAny_forCons ?_ | refine wpAny_forNil ?_ | refine wpAny_rule ?_
    | refine wpAny_fresh' ?_ | refine wpAny_askSetting ?_ | refine wpAny_ask ?_ | refine wpAny_specialOf (by assumption) (by assumption) ?_ | refine wpAny_specialOf_ent (by assumption) (by assumption) ?_)
set_option hygiene false in
local macro_rules | `(tactic| wtm_at "cs") => `(tactic| with_reducible first
    | show wpAny _ _ (collect _) _ _ _ | show wpAny _ _ (call _ _ _) _ _ _ | show wpAny _ _ (getAttr _ _ _) _ _ _ | show wpAny _ _ (Builtin.Slots.read _ _ _) _ _ _ | show wpAny _ _ (Builtin.Slots.install _ _ _ _) _ _ _
    | show wpAny _ _ (getAttr? _ _) _ _ _ | show wpAny _ _ (storeName _ _ _) _ _ _ | show wpAny _ _ (classCode _ _ _ _ _ _) _ _ _ | show wpAny _ _ (alloc _) _ _ _ | show wpAny _ _ (newDict _) _ _ _ | show wpAny _ _ enterFrame _ _ _
    | show wpAny _ _ (run _ _) _ _ _ | show wpAny _ _ (builtinsFor _ _) _ _ _ | show wpAny _ _ (nsGet mainGlobals _) _ _ _ | show wpAny _ _ (loadName _ _) _ _ _ | show wpAny _ _ (newTuple _) _ _ _)
set_option hygiene false in
local macro_rules | `(tactic| wtm_at "cw") => `(tactic| repeat first
    | wtm_at "cb"
    | ((with_reducible apply wpAny_ite_false); focus first | rfl | (rw [hns]; rfl))
    | ((with_reducible apply wpAny_ite_true); focus rfl)
    | rw [f1]
    | rw [f2]
    | ((with_reducible apply wpAny_ite_false); focus kernel_rfl)
    | ((with_reducible apply wpAny_ite_true); focus kernel_rfl)
    | ((fail_if_success wtm_at "cs"); wp_delta))
section

-- plain data
inductive D where
  | none
  | bool (b : Bool)
  | int (i : Int)
  | str (x : Str)
  | list (l : List D)
  | tup (l : List D)
  | rng (n : Nat)
  | val (v : Value)

-- all objects are kept
noncomputable def Kf (h h' : Heap) : Prop := ∀ b o, h.get? b = some o → h'.get? b = some o
-- a code object's table
noncomputable def tabled (o : Obj) : Prop := o.cls = .none ∧ ∃ vs, o.data = .fields vs
-- all objects but code tables are kept
noncomputable def Kp (h h' : Heap) : Prop := ∀ b o, h.get? b = some o → ¬ tabled o → h'.get? b = some o ∨ ((∃ es n, o.data = .dict es n) ∧ ∃ sl, h'.get? b = some { o with slots := sl })

theorem Kf.refl (h : Heap) : Kf h h := fun _ _ e => e
theorem Kf.trans {a b c : Heap} (x : Kf a b) (y : Kf b c) : Kf a c := fun b o e => y b o (x b o e)
theorem Kf.kp {a b : Heap} (x : Kf a b) : Kp a b := fun b o e _ => .inl (x b o e)
-- code objects and their tables
noncomputable def hard (o : Obj) : Prop := (o.cls = .type "code" ∨ o.cls = .none) ∧ ∃ vs, o.data = .fields vs
theorem Kf.push (h : Heap) (o : Obj) : Kf h (h.push o) := fun _ _ e => Heap.get?_push_of_some _ e

-- a relation between heaps: what the run may do
structure Rel (R : Heap → Heap → Prop) : Prop where
  full : ∀ {h h'}, Kf h h' → R h h'
  trans : ∀ {a b c}, R a b → R b c → R a c
  weak : ∀ {h h'}, R h h' → Kp h h'
  above : ∀ {a b b'}, R a b → (∀ x o, x < a.objs.size → b.get? x = some o → b'.get? x = some o) → (∀ x o, b.get? x = some o → hard o → b'.get? x = some o) → R a b'
theorem Rel.kf : Rel Kf := ⟨id, Kf.trans, Kf.kp, fun x y _ b o e => y b o (Heap.lt_size e) (x b o e)⟩
theorem Rel.refl {R} (r : Rel R) (h : Heap) : R h h := r.full (Kf.refl h)

mutual
inductive Rd (X : Addr → Prop) (h : Heap) : D → Value → Prop
  | none : Rd X h .none .none
  | bool (b : Bool) : Rd X h (.bool b) (.bool b)
  | int (i : Int) (t : Tok) : Rd X h (.int i) (.int i t)
  | str (x : Str) (t : Tok) : Rd X h (.str x) (.str x t)
  | list {a : Addr} {vs : List Value} {n : Nat} {l : List D} : X a → IsL h a vs.toArray n → RdL X h l vs → Rd X h (.list l) (.ref a)
  | tup {a : Addr} {vs : List Value} {n : Nat} {l : List D} : X a → IsT h a vs.toArray n → RdL X h l vs → Rd X h (.tup l) (.ref a)
  | rng {a : Addr} {n : Nat} {t u v : Tok} : X a → IsRange h a 0 n 1 t u v → Rd X h (.rng n) (.ref a)
  | val (v : Value) : Rd X h (.val v) v
inductive RdL (X : Addr → Prop) (h : Heap) : List D → List Value → Prop
  | nil : RdL X h [] []
  | cons {d : D} {v : Value} {l : List D} {vs : List Value} : Rd X h d v → RdL X h l vs → RdL X h (d :: l) (v :: vs)
end

-- what is kept of lists and tuples
noncomputable def dataObj (o : Obj) : Prop := (∃ xs n, o.data = .seq xs n) ∨ (o.cls = .type "range" ∧ ∃ vs, o.data = .fields vs)
noncomputable def Ks (X : Addr → Prop) (h h' : Heap) : Prop := ∀ b o, X b → h.get? b = some o → dataObj o → h'.get? b = some o
-- what may not be touched stands, and is no code table
noncomputable def Up (X : Addr → Prop) (h : Heap) : Prop := ∀ a, ¬ X a → ∃ o, h.get? a = some o ∧ ¬ tabled o
theorem Up.fresh {X : Addr → Prop} {h : Heap} (u : Up X h) {a : Addr} (e : h.get? a = none) : X a := Classical.byContradiction fun n => by obtain ⟨o, e', _⟩ := u a n; rw [e] at e'; cases e'
theorem Up.new {X : Addr → Prop} {h : Heap} (u : Up X h) : X h.objs.size := u.fresh (by
  cases q : h.get? h.objs.size with
  | none => rfl
  | some o => exact absurd (Heap.lt_size q) (Nat.lt_irrefl _))
theorem Up.kp {X : Addr → Prop} {h h' : Heap} (u : Up X h) (k : Kp h h') : Up X h' := fun a n => let ⟨o, e, t⟩ := u a n; (k a o e t).elim (fun e => ⟨o, e, t⟩) fun ⟨_, _, e⟩ => ⟨_, e, t⟩
variable {X : Addr → Prop}
theorem Ks.refl (h : Heap) : Ks X h h := fun _ _ _ e _ => e
theorem Ks.trans {a b c : Heap} (x : Ks X a b) (y : Ks X b c) : Ks X a c := fun b o p e n => y b o p (x b o p e n) n
theorem Kp.ks {h h' : Heap} (k : Kp h h') : Ks X h h' := fun b o _ e x => (k b o e (fun t => by
  obtain ⟨c, vs, e1⟩ := t
  rcases x with ⟨xs, n, e2⟩ | ⟨e2, _⟩
  · rw [e1] at e2; cases e2
  · rw [c] at e2; cases e2)).elim id fun ⟨⟨es, m, d⟩, _⟩ => by
    rcases x with ⟨xs, n, e2⟩ | ⟨_, vs, e2⟩ <;> (rw [d] at e2; cases e2)
theorem Kf.ks {h h' : Heap} (k : Kf h h') : Ks X h h' := k.kp.ks
mutual
theorem Rd.to {X' : Addr → Prop} {h h' : Heap} (k : ∀ a o, X a → h.get? a = some o → dataObj o → X' a ∧ h'.get? a = some o) : ∀ {d : D} {v : Value}, Rd X h d v → Rd X' h' d v
  | _, _, r => by
    cases r with
    | none => exact .none
    | bool b => exact .bool b
    | int i t => exact .int i t
    | str x t => exact .str x t
    | list p x l => have := k _ _ p x (.inl ⟨_, _, rfl⟩); exact .list this.1 this.2 (l.to k)
    | tup p x l => have := k _ _ p x (.inl ⟨_, _, rfl⟩); exact .tup this.1 this.2 (l.to k)
    | rng p x => have := k _ _ p x (.inr ⟨rfl, _, rfl⟩); exact .rng this.1 this.2
    | val => exact .val _
theorem RdL.to {X' : Addr → Prop} {h h' : Heap} (k : ∀ a o, X a → h.get? a = some o → dataObj o → X' a ∧ h'.get? a = some o) : ∀ {l : List D} {vs : List Value}, RdL X h l vs → RdL X' h' l vs
  | _, _, r => by
    cases r with
    | nil => exact .nil
    | cons x l => exact .cons (x.to k) (l.to k)
end
theorem Rd.ks {h h' : Heap} (k : Ks X h h') {d : D} {v : Value} (r : Rd X h d v) : Rd X h' d v := r.to fun a o p e y => ⟨p, k a o p e y⟩
theorem RdL.ks {h h' : Heap} (k : Ks X h h') {l : List D} {vs : List Value} (r : RdL X h l vs) : RdL X h' l vs := r.to fun a o p e y => ⟨p, k a o p e y⟩
theorem Rd.int_inv {h : Heap} {i : Int} {v : Value} (x : Rd X h (.int i) v) : ∃ t, v = .int i t := by cases x; exact ⟨_, rfl⟩
theorem Rd.str_inv {h : Heap} {s : Str} {v : Value} (x : Rd X h (.str s) v) : ∃ t, v = .str s t := by cases x; exact ⟨_, rfl⟩
theorem Rd.val_inv {h : Heap} {u v : Value} (x : Rd X h (.val v) u) : u = v := by cases x; rfl
theorem Rd.bool_inv {h : Heap} {b : Bool} {v : Value} (x : Rd X h (.bool b) v) : v = .bool b := by cases x; rfl
theorem RdL.cons_inv {h : Heap} {d : D} {l : List D} {vs : List Value} (x : RdL X h (d :: l) vs) : ∃ v us, vs = v :: us ∧ Rd X h d v ∧ RdL X h l us := by cases x with | cons a b => exact ⟨_, _, rfl, a, b⟩
theorem RdL.nil_inv {h : Heap} {vs : List Value} (x : RdL X h [] vs) : vs = [] := by cases x; rfl
theorem Rd.list_inv {h : Heap} {l : List D} {v : Value} (x : Rd X h (.list l) v) : ∃ a vs n, v = .ref a ∧ IsL h a (List.toArray vs) n ∧ RdL X h l vs ∧ X a := by cases x with | list p a b => exact ⟨_, _, _, rfl, a, b, p⟩
theorem Rd.tup_inv {h : Heap} {l : List D} {v : Value} (x : Rd X h (.tup l) v) : ∃ a vs n, v = .ref a ∧ IsT h a (List.toArray vs) n ∧ RdL X h l vs ∧ X a := by cases x with | tup p a b => exact ⟨_, _, _, rfl, a, b, p⟩
theorem isT_tuple {h : Heap} {a : Addr} {xs : Array Value} {n : Nat} (x : IsT h a xs n) : h.IsTuple a xs := ⟨_, x, rfl, n, rfl⟩
theorem Rd.by {R} (r : Rel R) {h h' : Heap} (k : R h h') {d : D} {v : Value} (x : Rd X h d v) : Rd X h' d v := x.ks (r.weak k).ks
theorem RdL.length {h : Heap} : ∀ {l : List D} {vs : List Value}, RdL X h l vs → vs.length = l.length
  | _, _, r => by
    cases r with
    | nil => rfl
    | cons _ l => exact congrArg (· + 1) l.length
theorem RdL.append {h : Heap} : ∀ {l : List D} {vs : List Value} {l' : List D} {vs' : List Value}, RdL X h l vs → RdL X h l' vs' → RdL X h (l ++ l') (vs ++ vs')
  | _, _, _, _, r, y => by
    cases r with
    | nil => exact y
    | cons x l => exact .cons x (l.append y)
theorem RdL.get {h : Heap} : ∀ {l : List D} {vs : List Value}, RdL X h l vs → ∀ {i : Nat} {d : D}, l[i]? = some d → ∃ v, vs[i]? = some v ∧ Rd X h d v
  | _, _, r, i, d, e => by
    cases r with
    | nil => cases e
    | cons x l => cases i with
      | zero => cases e; exact ⟨_, rfl, x⟩
      | succ i => exact l.get (i := i) e
-- how a name is found
inductive Look (env : Env) (h : Heap) (x : Str) (v : Value) : Prop
  | loc {m : Str → Option Value} : env.kindOf x = some .local → h.Ns env.locals m → m x = some v → Look env h x v
  | cell {c : Addr} : env.kindOf x = some .cell → env.cells.lookup x = some c → h.IsCell c (some v) → Look env h x v
  | free {c : Addr} : env.kindOf x = some .free → (x == ("__classdict__" : Str)) = false → env.cells.lookup x = some c → h.IsCell c (some v) → Look env h x v
  | glob {mg : Str → Option Value} : env.kindOf x = some .globalImplicit → h.Ns env.globals mg → mg x = some v → Look env h x v
  | blt {mg mb : Str → Option Value} : env.kindOf x = some .globalImplicit → h.Ns env.globals mg → mg x = none → h.Ns env.builtins mb → mb x = some v → Look env h x v

-- what is kept of dicts and cells
noncomputable def Kd (h h' : Heap) : Prop := ∀ b o, h.get? b = some o → ((∃ es n, o.data = .dict es n) ∨ ∃ v, o.data = .cell v) → ∃ o', h'.get? b = some o' ∧ o'.data = o.data
theorem Kp.kd {h h' : Heap} (k : Kp h h') : Kd h h' := fun b o e x => (k b o e (fun t => by
  obtain ⟨_, vs, e1⟩ := t
  rcases x with ⟨xs, n, e2⟩ | ⟨v, e2⟩ <;> (rw [e1] at e2; cases e2))).elim (fun e => ⟨o, e, rfl⟩) fun ⟨_, _, e⟩ => ⟨_, e, rfl⟩
theorem Kd.exact {h h' : Heap} (k : ∀ b o, h.get? b = some o → ((∃ es n, o.data = .dict es n) ∨ ∃ v, o.data = .cell v) → h'.get? b = some o) : Kd h h' := fun b o e x => ⟨o, k b o e x, rfl⟩
theorem ns_kd {h h' : Heap} (k : Kd h h') {a : Addr} {m : Str → Option Value} (x : h.Ns a m) : h'.Ns a m := let ⟨o, es, ep, e, d, r⟩ := x; let ⟨o', e', d'⟩ := k _ _ e (.inl ⟨_, _, d⟩); ⟨o', es, ep, e', d'.trans d, r⟩
theorem cell_kd {h h' : Heap} (k : Kd h h') {a : Addr} {v : Option Value} (x : h.IsCell a v) : h'.IsCell a v := let ⟨o, e, d⟩ := x; let ⟨o', e', d'⟩ := k _ _ e (.inr ⟨_, d⟩); ⟨o', e', d'.trans d⟩
theorem look_wp {M : Model} {A : Around} {E : Value → Shared → Prop} {s : Shared} {env : Env} {x : Str} {v : Value} {Q : Value → Shared → Prop} (hk : env.scope.kind = .function)
    (l : Look env s.heap x v) (h : Q v s) : wpAny M A (loadName env x) Q E s := by
  cases l with
  | loc a b c => exact wpAny_loadName_local hk a b c h
  | cell a b c => exact wpAny_loadName_cell hk a b c h
  | free a n b c => exact wpAny_loadName_free hk a b c h n
  | glob a b c => rw [loadName_read hk a]; exact loadGlobal_global b c h
  | blt a b c d e => rw [loadName_read hk a]; exact loadGlobal_builtin b c d e h

-- what is known of the place: room for n calls more, the frames below, whether nothing is handled
structure Room where
  n : Nat
  fr : Option (List Env)
  calm : Bool
structure OkA (k : Room) (A : Around) : Prop where
  handled : k.calm = true → A.handled = none
  depth : A.depth + k.n ≤ 990
  units : A.units + 20 * k.n ≤ 9000
  frames : ∀ l, k.fr = some l → A.frames = some l
theorem OkA.le {k k' : Room} {A : Around} (o : OkA k A) (h : k'.n ≤ k.n) (h1 : k'.fr = none ∨ k'.fr = k.fr) (h2 : k'.calm = true → k.calm = true) : OkA k' A :=
  ⟨fun e => o.handled (h2 e), by have := o.depth; lia, by have := o.units; lia, fun l e => by
    rcases h1 with q | q
    · rw [q] at e; cases e
    · exact o.frames l (q ▸ e)⟩

section
variable (prog : Program) (w : World) (X : Addr → Prop) (R : Heap → Heap → Prop) (I : Heap → Prop) (k : Room) (env : Env)
-- an expression's value
structure Ev (e : Expr) (d : D) : Prop where
  run : ∀ A (s : Shared) (Q : Value → Shared → Prop) (E : Value → Shared → Prop), OkA k A → I s.heap →
    (∀ v h' t, R s.heap h' → Rd X h' d v → Q v { s with heap := h', toks := t }) → wpAny (model prog w) A (eval e env) Q E s
-- a test's value
structure Tr (e : Expr) (b : Bool) : Prop where
  run : ∀ A (s : Shared) (Q : Bool → Shared → Prop) (E : Value → Shared → Prop), OkA k A → I s.heap →
    (∀ h' t, R s.heap h' → Q b { s with heap := h', toks := t }) → wpAny (model prog w) A (isTrue e env (eval e env)) Q E s
-- an operation on values
structure Op (f : Value → Value → Sem Value) (a b d : D) : Prop where
  run : ∀ A (s : Shared) (Q : Value → Shared → Prop) (E : Value → Shared → Prop) va vb, OkA k A → I s.heap → Rd X s.heap a va → Rd X s.heap b vb →
    (∀ v h' t, R s.heap h' → Rd X h' d v → Q v { s with heap := h', toks := t }) → wpAny (model prog w) A (f va vb) Q E s
-- an invariant
noncomputable def Stab : Prop := ∀ h h', R h h' → I h → I h'
end

section
variable {prog : Program} {w : World} {R : Heap → Heap → Prop} {I : Heap → Prop} {k : Room} {env : Env}

theorem Ev.int (r : Rel R) {i : Int} {n : Nat} {pos : Pos} : Ev prog w X R I k env (.Constant (.int i) n pos) (.int i) := .mk fun _ s _ _ _ _ h => wpAny_Constant_int (h _ s.heap _ (r.refl _) (.int _ _))
theorem Ev.str (r : Rel R) {x : Str} {n : Nat} {pos : Pos} : Ev prog w X R I k env (.Constant (.str x) n pos) (.str x) := .mk fun _ s _ _ _ _ h => Calls.Constant_str (h _ s.heap _ (r.refl _) (.str _ _))
theorem Ev.bool (r : Rel R) {b : Bool} {n : Nat} {pos : Pos} : Ev prog w X R I k env (.Constant (.bool b) n pos) (.bool b) := .mk fun _ s _ _ _ _ h => wpAny_pure (h _ s.heap s.toks (r.refl _) (.bool _))
theorem Ev.name (r : Rel R) {x : Str} {pos : Pos} {d : D} (hk : env.scope.kind = .function) (hd : (x == ("__debug__" : Str)) = false) (l : ∀ h, I h → ∃ v, Look env h x v ∧ Rd X h d v) : Ev prog w X R I k env (.Name x pos) d :=
  .mk fun _ s _ _ _ i h => let ⟨v, l1, l2⟩ := l _ i; wpAny_Name (look_wp hk l1 (h v s.heap s.toks (r.refl _) l2)) hd
theorem Ev.bin (r : Rel R) (st : Stab R I) {l r' : Expr} {op : Operator} {pos : Pos} {a b d : D} (ha : Ev prog w X R I k env l a) (hb : Ev prog w X R I k env r' b) (ho : Op prog w X R I k (binaryOp op) a b d) : Ev prog w X R I k env (.BinOp l op r' pos) d :=
  .mk fun A s Q E o i h => wpAny_BinOp (ha.run A s _ _ o i fun va h1 t1 k1 ra => hb.run A _ _ _ o (st _ _ k1 i) fun vb h2 t2 k2 rb =>
    ho.run A _ _ _ va vb o (st _ _ k2 (st _ _ k1 i)) (ra.by r k2) rb fun v h3 t3 k3 rv => h v h3 t3 (r.trans (r.trans k1 k2) k3) rv)
theorem Ev.cmp (r : Rel R) (st : Stab R I) {l r' : Expr} {op : CmpOp} {pos : Pos} {a b d : D} (hm : behindInMarks op r' = false) (ha : Ev prog w X R I k env l a) (hb : Ev prog w X R I k env r' b) (ho : Op prog w X R I k (compareOp op) a b d) : Ev prog w X R I k env (.Compare l [op] [r'] pos) d :=
  .mk fun A s Q E o i h => wpAny_Compare1 (ha.run A s _ _ o i fun va h1 t1 k1 ra => hb.run A _ _ _ o (st _ _ k1 i) fun vb h2 t2 k2 rb =>
    ho.run A _ _ _ va vb o (st _ _ k2 (st _ _ k1 i)) (ra.by r k2) rb fun v h3 t3 k3 rv => h v h3 t3 (r.trans (r.trans k1 k2) k3) rv) hm

theorem Op.ii (r : Rel R) {f : Value → Value → Sem Value} {a b : Int} {d : D} (hf : ∀ {A : Around} {s : Shared} {ta tb : Tok} {Q : Value → Shared → Prop} {E : Value → Shared → Prop}, (∀ v t, Rd X s.heap d v → Q v { s with toks := t }) → wpAny (model prog w) A (f (.int a ta) (.int b tb)) Q E s) : Op prog w X R I k f (.int a) (.int b) d := .mk fun _ s _ _ _ _ _ _ ha hb h => by
  obtain ⟨_, rfl⟩ := ha.int_inv
  obtain ⟨_, rfl⟩ := hb.int_inv
  exact hf fun v t rv => h v s.heap t (r.refl _) rv
theorem Op.ss (r : Rel R) {f : Value → Value → Sem Value} {a b : Str} {d : D} (hf : ∀ {A : Around} {s : Shared} {ta tb : Tok} {Q : Value → Shared → Prop} {E : Value → Shared → Prop}, (∀ v t, Rd X s.heap d v → Q v { s with toks := t }) → wpAny (model prog w) A (f (.str a ta) (.str b tb)) Q E s) : Op prog w X R I k f (.str a) (.str b) d := .mk fun _ s _ _ _ _ _ _ ha hb h => by
  obtain ⟨_, rfl⟩ := ha.str_inv
  obtain ⟨_, rfl⟩ := hb.str_inv
  exact hf fun v t rv => h v s.heap t (r.refl _) rv
theorem Op.add (r : Rel R) {a b : Int} : Op prog w X R I k (binaryOp .Add) (.int a) (.int b) (.int (a + b)) := Op.ii r fun h => P.add_int (h _ _ (.int _ _))
theorem Op.sub (r : Rel R) {a b : Int} : Op prog w X R I k (binaryOp .Sub) (.int a) (.int b) (.int (a - b)) := Op.ii r fun h => P.sub_int (h _ _ (.int _ _))
theorem Op.mul (r : Rel R) {a b : Int} (hm : IntMulOk a b) : Op prog w X R I k (binaryOp .Mult) (.int a) (.int b) (.int (a * b)) := Op.ii r fun h => P.mul_int (h _ _ (.int _ _)) hm
theorem Op.fdiv (r : Rel R) {a b : Int} (hb0 : b ≠ 0) (hp : b.natAbs < 1073741824) : Op prog w X R I k (binaryOp .FloorDiv) (.int a) (.int b) (.int (a.fdiv b)) := Op.ii r fun h => floordiv_int hb0 (h _ _ (.int _ _)) (.inl (PyProof.noPylong_small hp))
theorem Op.fmod (r : Rel R) {a b : Int} (hb0 : b ≠ 0) : Op prog w X R I k (binaryOp .Mod) (.int a) (.int b) (.int (a.fmod b)) := Op.ii r fun h => mod_int' hb0 (h _ _ (.int _ _))
theorem Op.pow (r : Rel R) {a n : Int} (hn : 0 ≤ n) (hsz : (Builtin.Int.intBits a : Int) * n ≤ 2 ^ 27) : Op prog w X R I k (binaryOp .Pow) (.int a) (.int n) (.int (a ^ n.toNat)) := Op.ii r fun h => pow_int hn hsz (h _ _ (.int _ _))
theorem Op.band (r : Rel R) {a b : Int} : Op prog w X R I k (binaryOp .BitAnd) (.int a) (.int b) (.int (Builtin.bitAnd a b)) := Op.ii r fun h => and_int (h _ _ (.int _ _))
theorem str_len0 {x : Str} (h : (x.length == 0) = true) : x = Str.empty := by
  have h1 : x.cps.size = 0 := by simpa [Str.length] using h
  cases x with | mk c => simp only [Str.empty]; congr; exact Array.eq_empty_of_size_eq_zero h1
theorem str_empty_append (x : Str) : Str.empty ++ x = x := by cases x; exact congrArg Str.mk (by simp [Str.empty])
theorem str_append_empty (x : Str) : x ++ Str.empty = x := by cases x; exact congrArg Str.mk (by simp [Str.empty])
theorem Op.addS (r : Rel R) {x y : Str} (hs : (x ++ y).length ≤ sizeLine) : Op prog w X R I k (binaryOp .Add) (.str x) (.str y) (.str (x ++ y)) := Op.ss r fun h => by
  refine P.add_str ?_
  split
  · rename_i e; rw [str_len0 e, str_empty_append] at h; exact h _ _ (.str _ _)
  · split
    · rename_i e; rw [str_len0 e, str_append_empty] at h; exact h _ _ (.str _ _)
    · exact ⟨hs, h _ _ (.str _ _)⟩
theorem Op.addL (r : Rel R) (hu : ∀ h, I h → Up X h) {x y : List D} (hs : x.length + y.length ≤ sizeLine) : Op prog w X R I k (binaryOp .Add) (.list x) (.list y) (.list (x ++ y)) := .mk fun _ s _ _ va vb _ i ha hb h => by
  obtain ⟨l, vs, n, rfl, ho, rl, p1⟩ := ha.list_inv
  obtain ⟨b, ws, n2, rfl, ho2, rb, p2⟩ := hb.list_inv
  have e : vs.toArray ++ ws.toArray = (vs ++ ws).toArray := by simp
  refine concat_meets ⟨_, ho, rfl⟩ ⟨_, ho2, rfl⟩ noFill_list_add seq_list_add PySem.F.slot_list_add PySem.F.entry_list_add (PySem.F.args_list_add_2 _ _)
    (list_addW l b vs.toArray ws.toArray n n2 none none #[] #[] (by simpa [rl.length, rb.length] using hs)) ⟨ho, ho2, ?_⟩
  rw [e]
  have kf := Kf.push s.heap { cls := .type "list", data := .seq (vs ++ ws).toArray }
  refine h _ _ s.toks (r.full kf) (.list (hu _ i).new (Heap.get?_push_size _ rfl) ((rl.append rb).ks kf.ks))
theorem Op.eqI (r : Rel R) {a b : Int} : Op prog w X R I k (compareOp .Eq) (.int a) (.int b) (.bool (a == b)) := Op.ii r fun h => P.eq_int (h _ _ (.bool _))
theorem Op.neI (r : Rel R) {a b : Int} : Op prog w X R I k (compareOp .NotEq) (.int a) (.int b) (.bool (a != b)) := Op.ii r fun h => P.ne_int (h _ _ (.bool _))
theorem Op.ltI (r : Rel R) {a b : Int} : Op prog w X R I k (compareOp .Lt) (.int a) (.int b) (.bool (decide (a < b))) := Op.ii r fun h => P.lt_int (h _ _ (.bool _))
theorem Op.gtI (r : Rel R) {a b : Int} : Op prog w X R I k (compareOp .Gt) (.int a) (.int b) (.bool (decide (a > b))) := Op.ii r fun h => P.gt_int (h _ _ (.bool _))
theorem Op.geI (r : Rel R) {a b : Int} : Op prog w X R I k (compareOp .GtE) (.int a) (.int b) (.bool (decide (a ≥ b))) := Op.ii r fun h => P.ge_int (h _ _ (.bool _))
theorem Op.eqS (r : Rel R) {a b : Str} : Op prog w X R I k (compareOp .Eq) (.str a) (.str b) (.bool (a == b)) := Op.ss r fun h => PyProof.Rows.eq_str (h _ _ (.bool _))
theorem Op.neS (r : Rel R) {a b : Str} : Op prog w X R I k (compareOp .NotEq) (.str a) (.str b) (.bool (a != b)) := Op.ss r fun h => PyProof.Rows.ne_str (h _ _ (.bool _))
theorem Op.inS (r : Rel R) {y x : Str} : Op prog w X R I k (compareOp .In) (.str y) (.str x) (.bool !(Builtin.Str.occurrences x y 0 x.length 1).isEmpty) := Op.ss r fun h => PyProof.Rows.in_str (h _ _ (.bool _))

noncomputable def binI (op : Operator) (a b : Int) : Option Int := match op with | .Add => some (a + b) | .Sub => some (a - b) | .BitAnd => some (Builtin.bitAnd a b) | _ => none
noncomputable def cmpI (op : CmpOp) (a b : Int) : Option Bool := match op with | .Eq => some (a == b) | .NotEq => some (a != b) | .Lt => some (decide (a < b)) | .Gt => some (decide (a > b)) | .GtE => some (decide (a ≥ b)) | _ => none
noncomputable def cmpS (op : CmpOp) (a b : Str) : Option Bool := match op with | .Eq => some (a == b) | .NotEq => some (a != b) | .In => some !(Builtin.Str.occurrences b a 0 b.length 1).isEmpty | _ => none
theorem Op.intI (r : Rel R) {op : Operator} {a b c : Int} (e : binI op a b = some c) : Op prog w X R I k (binaryOp op) (.int a) (.int b) (.int c) := by
  cases op <;> cases e
  · exact Op.add r
  · exact Op.sub r
  · exact Op.band r
theorem Op.cmpI (r : Rel R) {op : CmpOp} {a b : Int} {c : Bool} (e : cmpI op a b = some c) : Op prog w X R I k (compareOp op) (.int a) (.int b) (.bool c) := by
  cases op <;> cases e
  · exact Op.eqI r
  · exact Op.neI r
  · exact Op.ltI r
  · exact Op.gtI r
  · exact Op.geI r
theorem Op.cmpS (r : Rel R) {op : CmpOp} {a b : Str} {c : Bool} (e : cmpS op a b = some c) : Op prog w X R I k (compareOp op) (.str a) (.str b) (.bool c) := by
  cases op <;> cases e
  · exact Op.eqS r
  · exact Op.neS r
  · exact Op.inS r
theorem Ev.neg (r : Rel R) {x : Expr} {pos : Pos} {a : Int} (ha : Ev prog w X R I k env x (.int a)) : Ev prog w X R I k env (.UnaryOp .USub x pos) (.int (-a)) := .mk fun A s Q E o i h =>
  wpAny_UnaryOp (ha.run A s _ _ o i fun va h1 t1 k1 ra => by obtain ⟨_, rfl⟩ := ra.int_inv; exact P.neg_int (h _ h1 _ k1 (.int _ _)))
theorem Ev.sub (r : Rel R) (st : Stab R I) {value slice : Expr} {pos : Pos} {a b d : D} (ha : Ev prog w X R I k env value a) (hb : Ev prog w X R I k env slice b) (ho : Op prog w X R I k (subscriptTail value slice) a b d) : Ev prog w X R I k env (.Subscript value slice pos) d :=
  .mk fun A s Q E o i h => Subscript_ (ha.run A s _ _ o i fun va h1 t1 k1 ra => hb.run A _ _ _ o (st _ _ k1 i) fun vb h2 t2 k2 rb =>
    ho.run A _ _ _ va vb o (st _ _ k2 (st _ _ k1 i)) (ra.by r k2) rb fun v h3 t3 k3 rv => h v h3 t3 (r.trans (r.trans k1 k2) k3) rv)
theorem let_str {base : Expr} {x : Str} {t : Tok} {r : Value} : letTemporaryGo base (.str x t) r = pure () := by cases base <;> rfl
-- a plain index
noncomputable def plainIx (slice : Expr) : Prop := ∀ o i, subscripted slice false o i = operate [o, i] (getItem o i)
theorem Op.itemS (r : Rel R) {value slice : Expr} {x : Str} {i : Int} (hp : plainIx slice) (h1 : -(x.length : Int) ≤ i) (h2 : i < x.length) (hx : x.length ≤ sizeLine) : Op prog w X R I k (subscriptTail value slice) (.str x) (.int i) (.str (Txt.item x i)) := .mk fun _ s _ _ _ _ _ _ ha hb h => by
  obtain ⟨_, rfl⟩ := ha.str_inv
  obtain ⟨_, rfl⟩ := hb.int_inv
  have hx' : (x.length : Int) ≤ 2 ^ 24 := by have : x.length ≤ 2 ^ 24 := hx; lia
  exact PyProof.Rows.item_str (by simp [fitsSsize]; lia) h1 h2 (fun _ => h _ s.heap _ (r.refl _) (.str _ _)) (hp _ _) (fun _ => let_str)
theorem Op.itemL (r : Rel R) {value slice : Expr} {l : List D} {i : Int} {d : D} (hp : plainIx slice) (h0 : 0 ≤ i) (h2 : i < 2 ^ 63) (hd : l[i.toNat]? = some d) : Op prog w X R I k (subscriptTail value slice) (.list l) (.int i) d := .mk fun _ s _ _ _ _ _ _ ha hb h => by
  obtain ⟨la, vs, n, rfl, hl', rl, _⟩ := ha.list_inv; obtain ⟨_, rfl⟩ := hb.int_inv
  have hl := hl'.isList
  obtain ⟨v, hv, rv⟩ := rl.get hd
  exact tail_any hl.typeIs slot_list_getitem.lookup (wpAny_getItem_list hl h0 h2 (by simpa using hv) (h _ s.heap s.toks (r.refl _) rv)) (hp _ _)
theorem Op.itemLn (r : Rel R) {value slice : Expr} {l : List D} {i : Int} {d : D} (hp : plainIx slice) (h0 : i < 0) (h1 : -(l.length : Int) ≤ i) (h2 : -(2 ^ 63) ≤ i) (hd : l[(i + l.length).toNat]? = some d) : Op prog w X R I k (subscriptTail value slice) (.list l) (.int i) d := .mk fun _ s _ _ _ _ _ _ ha hb h => by
  obtain ⟨la, vs, n, rfl, hl', rl, _⟩ := ha.list_inv; obtain ⟨_, rfl⟩ := hb.int_inv
  have hl := hl'.isList
  obtain ⟨v, hv, rv⟩ := rl.get hd
  have e := rl.length
  exact tail_any hl.typeIs slot_list_getitem.lookup (wpAny_getItem_list_neg hl h0 (by simpa [e] using h1) h2 (by simpa [e] using hv) (h _ s.heap s.toks (r.refl _) rv)) (hp _ _)
theorem Op.itemT (r : Rel R) {value slice : Expr} {l : List D} {i : Int} {d : D} (hp : plainIx slice) (h0 : 0 ≤ i) (h2 : i < 2 ^ 63) (hd : l[i.toNat]? = some d) : Op prog w X R I k (subscriptTail value slice) (.tup l) (.int i) d := .mk fun _ s _ _ _ _ _ _ ha hb h => by
  obtain ⟨la, vs, n, rfl, hl', rl, _⟩ := ha.tup_inv; obtain ⟨_, rfl⟩ := hb.int_inv
  have hl := isT_tuple hl'
  obtain ⟨v, hv, rv⟩ := rl.get hd
  obtain ⟨hlt, _⟩ := List.getElem?_eq_some_iff.mp hv
  have hl2 : IsTup s.heap _ _ := hl
  obtain ⟨o, ho, hc, n, hdd⟩ := id hl
  refine tail_any (T := "tuple") ⟨o, ho, hc⟩ PySem.F.slot_tuple_getitem.lookup (PyProof.Rows.getItem_tuple (j := i.toNat) hl2 (by lia) h2 ?_ (by simpa using hv) (h _ s.heap s.toks (r.refl _) rv)) (hp _ _)
  have e : (0 ≤ i && i < vs.length) = true := by simp; lia
  have hn : ¬ i < 0 := by lia
  simp only [seqIndex?, List.size_toArray, hn, if_false, e, if_true]
end
end
section
variable {X : Addr → Prop}
section
variable (prog : Program) (w : World) (X : Addr → Prop) (R : Heap → Heap → Prop) (I : Heap → Prop) (k : Room) (env : Env)
-- several expressions, one behind another
structure EvL (es : List Expr) (ds : List D) : Prop where
  run : ∀ A (s : Shared) (Q : List Value → Shared → Prop) (E : Value → Shared → Prop) (pos : Pos), OkA k A → I s.heap →
    (∀ vs h' t, R s.heap h' → RdL X h' ds vs → Q vs { s with heap := h', toks := t }) → wpAny (model prog w) A (spliced (backTo pos (starEach es env))) Q E s
-- a call
structure Ca (f : Value) (as : List D) (d : D) : Prop where
  run : ∀ A (s : Shared) (Q : Value → Shared → Prop) (E : Value → Shared → Prop) vals, OkA k A → I s.heap → RdL X s.heap as vals →
    (∀ v h' t, R s.heap h' → Rd X h' d v → Q v { s with heap := h', toks := t }) → wpAny (model prog w) A (call f vals []) Q E s
end
noncomputable def plainE (env : Env) (e : Expr) : Prop := ∀ rest, starEach (e :: rest) env = (false, eval e env) :: starEach rest env
section
variable {prog : Program} {w : World} {R : Heap → Heap → Prop} {I : Heap → Prop} {k : Room} {env : Env}
theorem EvL.nil (r : Rel R) : EvL prog w X R I k env [] [] := .mk fun _ s _ _ _ _ _ h => wpAny_items_nil (h _ s.heap s.toks (r.refl _) .nil)
theorem EvL.cons (r : Rel R) (st : Stab R I) {e : Expr} {es : List Expr} {d : D} {ds : List D} (hp : plainE env e) (he : Ev prog w X R I k env e d) (hs : EvL prog w X R I k env es ds) : EvL prog w X R I k env (e :: es) (d :: ds) :=
  .mk fun A s Q E pos o i h => wpAny_items_cons (he.run A s _ _ o i fun v h1 t1 k1 rv => hs.run A _ _ _ pos o (st _ _ k1 i) fun vs h2 t2 k2 rs => h _ h2 t2 (r.trans k1 k2) (.cons (rv.by r k2) rs)) (hp _)
theorem Ev.listD (r : Rel R) (st : Stab R I) (hu : ∀ h, I h → Up X h) {es : List Expr} {ds : List D} {pos : Pos} (hs : EvL prog w X R I k env es ds) (hz : ds.length ≤ sizeLine) : Ev prog w X R I k env (.List es pos) (.list ds) :=
  .mk fun A s Q E o i h => wpAny_List (hs.run A s _ _ pos o i fun vs h1 t1 k1 rs => ⟨by rw [rs.length]; exact hz,
    have kf := Kf.push h1 { cls := .type "list", data := .seq vs.toArray }
    h _ _ _ (r.trans k1 (r.full kf)) (.list (hu _ (st _ _ k1 i)).new (Heap.get?_push_size _ rfl) (rs.ks kf.ks))⟩)
theorem Ev.tupD (r : Rel R) (st : Stab R I) (hu : ∀ h, I h → Up X h) {es : List Expr} {ds : List D} {n : Nat} {pos : Pos} (hs : EvL prog w X R I k env es ds) (hz : ds.length ≤ sizeLine) : Ev prog w X R I k env (.Tuple es n pos) (.tup ds) :=
  .mk fun A s Q E o i h => wpAny_Tuple (hs.run A s _ _ pos o i fun vs h1 t1 k1 rs => ⟨by rw [rs.length]; exact hz,
    have kf := Kf.push h1 { cls := .type "tuple", data := .seq vs.toArray }
    h _ _ _ (r.trans k1 (r.full kf)) (.tup (hu _ (st _ _ k1 i)).new (Heap.get?_push_size _ rfl) (rs.ks kf.ks))⟩)
theorem Ev.of_eq {e : Expr} {d d' : D} (h : Ev prog w X R I k env e d) (he : d = d') : Ev prog w X R I k env e d' := he ▸ h
theorem Ev.ifexp (r : Rel R) (st : Stab R I) {t a b : Expr} {pos : Pos} {c : Bool} {da db : D} (ht : Tr prog w R I k env t c) (ha : c = true → Ev prog w X R I k env a da) (hb : c = false → Ev prog w X R I k env b db) :
    Ev prog w X R I k env (.IfExp t a b pos) (if c then da else db) := .mk fun A s Q E o i h => wpAny_IfExp (ht.run A s _ _ o i fun h1 t1 k1 => by
  cases c with
  | true => exact (ha rfl).run A _ _ _ o (st _ _ k1 i) fun v h2 t2 k2 rv => h v h2 t2 (r.trans k1 k2) rv
  | false => exact (hb rfl).run A _ _ _ o (st _ _ k1 i) fun v h2 t2 k2 rv => h v h2 t2 (r.trans k1 k2) rv)
theorem Tr.cmp (r : Rel R) (st : Stab R I) {l r' : Expr} {op : CmpOp} {pos : Pos} {a b : D} {c : Bool} (hm : behindInMarks op r' = false) (ha : Ev prog w X R I k env l a) (hb : Ev prog w X R I k env r' b) (ho : Op prog w X R I k (compareOp op) a b (.bool c)) : Tr prog w R I k env (.Compare l [op] [r'] pos) c :=
  .mk fun A s Q E o i h => wpAny_isTrue_Compare1 (ha.run A s _ _ o i fun va h1 t1 k1 ra => hb.run A _ _ _ o (st _ _ k1 i) fun vb h2 t2 k2 rb =>
    ho.run A _ _ _ va vb o (st _ _ k2 (st _ _ k1 i)) (ra.by r k2) rb fun v h3 t3 k3 rv => by (first | obtain ⟨_, rfl⟩ := rv.int_inv | obtain ⟨_, rfl⟩ := rv.str_inv | obtain rfl := rv.val_inv | obtain rfl := rv.bool_inv | cases rv); exact wpAny_truthy_bool (h h3 t3 (r.trans (r.trans k1 k2) k3))) hm
theorem Tr.val {e : Expr} {b : Bool} (he : ∀ whole, isTrue e env whole = (do let v ← whole; standAt e.pos; holding [v] (truthy v))) (h : Ev prog w X R I k env e (.bool b)) : Tr prog w R I k env e b :=
  .mk fun A s Q E o i q => wpAny_isTrue_value (h.run A s _ _ o i fun v h1 t1 k1 rv => by (first | obtain ⟨_, rfl⟩ := rv.int_inv | obtain ⟨_, rfl⟩ := rv.str_inv | obtain rfl := rv.val_inv | obtain rfl := rv.bool_inv | cases rv); exact wpAny_truthy_bool (q h1 t1 k1)) (he _)
theorem Tr.or2 (r : Rel R) (st : Stab R I) {a b : Expr} {pos : Pos} {ca cb : Bool} (ha : Tr prog w R I k env a ca) (hb : ca = false → Tr prog w R I k env b cb) : Tr prog w R I k env (.BoolOp .Or [a, b] pos) (ca || cb) :=
  .mk fun A s Q E o i q => wpAny_isTrue_BoolOp (wpAny_allTrue_Or_cons (ha.run A s _ _ o i fun h1 t1 k1 => by
    cases ca with
    | true => exact q h1 t1 k1
    | false => exact wpAny_allTrue_Or_cons ((hb rfl).run A _ _ _ o (st _ _ k1 i) fun h2 t2 k2 => by
        cases cb with
        | true => exact q h2 t2 (r.trans k1 k2)
        | false => exact wpAny_allTrue_Or_nil (q h2 t2 (r.trans k1 k2)))))

-- a def called by its name
theorem Ev.callF (r : Rel R) (st : Stab R I) {x : Str} {np pos : Pos} {e : Expr} {es : List Expr} {fa : Addr} {as : List D} {d : D} {ob : Obj} {fd : FuncData} (hf : Ev prog w X R I k env (.Name x np) (.val (.ref fa)))
    (hob : ob.data = .func fd) (ho : ∀ h, I h → h.get? fa = some ob) (hp : plainE env e) (ha : EvL prog w X R I k env (e :: es) as) (hc : Ca prog w X R I k (.ref fa) as d) : Ev prog w X R I k env (.Call (.Name x np) (e :: es) [] pos) d :=
  .mk fun A s Q E o i h => wpAny_Call_NameR (hf.run A s _ _ o i fun vf h1 t1 k1 rf => by
    first | obtain ⟨_, rfl⟩ := rf.int_inv | obtain ⟨_, rfl⟩ := rf.str_inv | obtain rfl := rf.val_inv | obtain rfl := rf.bool_inv | cases rf
    exact callWith_def hob (ha.run A _ _ _ pos o (st _ _ k1 i) fun vs h2 t2 k2 rs => ⟨ho _ (st _ _ k2 (st _ _ k1 i)),
      hc.run A _ _ _ vs o (st _ _ k2 (st _ _ k1 i)) rs fun v h3 t3 k3 rv => h v h3 t3 (r.trans (r.trans k1 k2) k3) rv⟩) (hp _))
theorem Ev.callB (r : Rel R) (st : Stab R I) {x : Str} {np pos : Pos} {e : Expr} {es : List Expr} {id : String} {as : List D} {d : D} (hf : Ev prog w X R I k env (.Name x np) (.val (.builtin id)))
    (hp : plainE env e) (hq : ∀ pos, (backTo pos (starEach es env)).any (·.1) = false) (ha : EvL prog w X R I k env (e :: es) as) (hc : Ca prog w X R I k (.builtin id) as d) : Ev prog w X R I k env (.Call (.Name x np) (e :: es) [] pos) d :=
  .mk fun A s Q E o i h => wpAny_Call_NameR (hf.run A s _ _ o i fun vf h1 t1 k1 rf => by
    first | obtain ⟨_, rfl⟩ := rf.int_inv | obtain ⟨_, rfl⟩ := rf.str_inv | obtain rfl := rf.val_inv | obtain rfl := rf.bool_inv | cases rf
    exact PyProof.Rows.callWith_builtin1 (ha.run A _ _ _ pos o (st _ _ k1 i) fun vs h2 t2 k2 rs =>
      hc.run A _ _ _ vs o (st _ _ k2 (st _ _ k1 i)) rs fun v h3 t3 k3 rv => h v h3 t3 (r.trans (r.trans k1 k2) k3) rv) (hp _) (hq _))
theorem Ev.callT (r : Rel R) (st : Stab R I) {x : Str} {np pos : Pos} {e : Expr} {es : List Expr} {T : String} {as : List D} {d : D} (hf : Ev prog w X R I k env (.Name x np) (.val (.type T)))
    (hp : plainE env e) (hq : ∀ pos, (backTo pos (starEach es env)).any (·.1) = false) (ha : EvL prog w X R I k env (e :: es) as) (hc : Ca prog w X R I k (.type T) as d) : Ev prog w X R I k env (.Call (.Name x np) (e :: es) [] pos) d :=
  .mk fun A s Q E o i h => wpAny_Call_NameR (hf.run A s _ _ o i fun vf h1 t1 k1 rf => by
    first | obtain ⟨_, rfl⟩ := rf.int_inv | obtain ⟨_, rfl⟩ := rf.str_inv | obtain rfl := rf.val_inv | obtain rfl := rf.bool_inv | cases rf
    exact Pv.callWith_type1 (ha.run A _ _ _ pos o (st _ _ k1 i) fun vs h2 t2 k2 rs =>
      hc.run A _ _ _ vs o (st _ _ k2 (st _ _ k1 i)) rs fun v h3 t3 k3 rv => h v h3 t3 (r.trans (r.trans k1 k2) k3) rv) (hp _) (hq _))
-- a method of a built-in type
theorem Ev.meth (r : Rel R) (st : Stab R I) {ox : Expr} {name : Str} {apos pos : Pos} {e : Expr} {es : List Expr} {T id : String} {a : D} {as : List D} {d : D} (hb : attributeBase ox name env (eval ox env) = eval ox env)
    (hfew : ((backTo pos (starEach (e :: es) env)).all (fun x => !x.1) && (backToKw pos (keywordEach [] env)).all (fun x => x.1.isSome) && decide ((e :: es).length + ([] : List Keyword).length + (if ([] : List Keyword).isEmpty then 0 else 1) < 30)) = true)
    (hline : (apos.endLine == pos.line) = true) (pa : PlainAttrs T) (slot : Slot T name id) (hty : typeOf (.builtin id) = pure (.type "method_descriptor"))
    (ht : ∀ (s : Shared) v, Rd X s.heap a v → s.TypeIs v T ∧ ∀ b, v = .ref b → ∃ ob, s.heap.get? b = some ob ∧ ob.dict = none)
    (hp : plainE env e) (hq : (backTo pos (starEach es env)).any (·.1) = false) (hv : Ev prog w X R I k env ox a) (ha : EvL prog w X R I k env (e :: es) as) (hc : Ca prog w X R I k (.builtin id) (a :: as) d) :
    Ev prog w X R I k env (.Call (.Attribute ox name apos) (e :: es) [] pos) d :=
  .mk fun A s Q E o i h => wpAny_Call_method hb hfew hline pa slot hty (hv.run A s _ _ o i fun va h1 t1 k1 ra => ⟨(ht _ _ ra).1, (ht _ _ ra).2, by
    rw [hp]
    refine Calls.callWith_builtin (by show (false || (backTo pos (starEach es env)).any (·.1)) = false; rw [hq]; rfl) (evalArgs_plain ?_)
    have := ha.run A { s with heap := h1, toks := t1 } (fun vs s₁ => wpAny (model prog w) A (call (.builtin id) ([va] ++ vs)) Q E s₁) E pos o (st _ _ k1 i) fun vs h2 t2 k2 rs =>
      hc.run A _ _ _ (va :: vs) o (st _ _ k2 (st _ _ k1 i)) (.cons (ra.by r k2) rs) fun v h3 t3 k3 rv => h v h3 t3 (r.trans (r.trans k1 k2) k3) rv
    rw [hp] at this
    exact this⟩)
theorem typeStr (x : Str) (s : Shared) (v : Value) (h : Rd X s.heap (.str x) v) : s.TypeIs v "str" ∧ ∀ b, v = .ref b → ∃ ob, s.heap.get? b = some ob ∧ ob.dict = none := by
  cases h; exact ⟨typeIs_str _ _ _, fun b e => by cases e⟩
theorem typeList (l : List D) (s : Shared) (v : Value) (h : Rd X s.heap (.list l) v) : s.TypeIs v "list" ∧ ∀ b, v = .ref b → ∃ ob, s.heap.get? b = some ob ∧ ob.dict = none := by
  obtain ⟨a, vs, n, rfl, hl, _, _⟩ := h.list_inv; exact ⟨⟨_, hl, rfl⟩, fun b e => by cases e; exact ⟨_, hl, rfl⟩⟩

theorem Ca.find (r : Rel R) {x y : Str} : Ca prog w X R I k (.builtin "str.find") [.str x, .str y] (.int (Txt.find x y)) := .mk fun A s Q E vals o i rs h => by
  obtain ⟨_, _, rfl, a, rs⟩ := rs.cons_inv; obtain ⟨_, _, rfl, b, rs⟩ := rs.cons_inv; obtain rfl := rs.nil_inv; obtain ⟨_, rfl⟩ := a.str_inv; obtain ⟨_, rfl⟩ := b.str_inv; exact SC.find (h _ s.heap _ (r.refl _) (.int _ _))
theorem Ca.indexS (r : Rel R) {x y : Str} {j : Nat} {rest : List Nat} (ho : Builtin.Str.occurrences x y 0 x.length 1 = j :: rest) : Ca prog w X R I k (.builtin "str.index") [.str x, .str y] (.int j) := .mk fun A s Q E vals o i rs h => by
  obtain ⟨_, _, rfl, a, rs⟩ := rs.cons_inv; obtain ⟨_, _, rfl, b, rs⟩ := rs.cons_inv; obtain rfl := rs.nil_inv; obtain ⟨_, rfl⟩ := a.str_inv; obtain ⟨_, rfl⟩ := b.str_inv; exact SC.index ho (h _ s.heap _ (r.refl _) (.int _ _))
end
end
section
variable {X : Addr → Prop}

-- what a block keeps of what is not its own frame
noncomputable def Ki (h h' : Heap) : Prop := ∀ b o, h.get? b = some o → ((∃ xs n, o.data = .seq xs n) ∨ (o.cls ≠ .none ∧ ∃ vs, o.data = .fields vs)) → h'.get? b = some o
theorem Ki.refl (h : Heap) : Ki h h := fun _ _ e _ => e
theorem Ki.trans {a b c : Heap} (x : Ki a b) (y : Ki b c) : Ki a c := fun b o e n => y b o (x b o e n) n
theorem Kp.ki {h h' : Heap} (k : Kp h h') : Ki h h' := fun b o e x => (k b o e (fun t => by
  obtain ⟨c, vs, e1⟩ := t
  rcases x with ⟨xs, n, e2⟩ | ⟨e2, _⟩
  · rw [e1] at e2; cases e2
  · exact e2 c)).elim id fun ⟨⟨es, m, d⟩, _⟩ => by
    rcases x with ⟨xs, n, e2⟩ | ⟨_, vs, e2⟩ <;> (rw [d] at e2; cases e2)
theorem Ki.ks {h h' : Heap} (k : Ki h h') : Ks X h h' := fun b o _ e x => k b o e (by
  rcases x with x | ⟨c, x⟩
  · exact .inl x
  · exact .inr ⟨by rw [c]; simp, x⟩)
theorem ki_sameBut {h h' : Heap} {a : Addr} (hs : Heap.SameBut a h h') (hn : ∀ o, h.get? a = some o → (∃ es n, o.data = .dict es n) ∨ ∃ v, o.data = .cell v) : Ki h h' :=
  fun b o e x => (hs.2 b (fun q => by
    subst q
    rcases hn o e with ⟨es, n, d⟩ | ⟨v, d⟩ <;> (rcases x with ⟨xs, n, e2⟩ | ⟨_, _, e2⟩ <;> (rw [d] at e2; cases e2)))).trans e

-- an iterator under way
inductive ItAt (X : Addr → Prop) (h : Heap) (it : Addr) : Nat → List D → Prop
  | list {a : Addr} {vs : List Value} {n : Nat} {l : List D} {i : Nat} : X a → IsL h a vs.toArray n → RdL X h l vs → h.IsListIter it a i → ItAt X h it i l
  | tup {a : Addr} {vs : List Value} {n : Nat} {l : List D} {i : Nat} : X a → IsT h a vs.toArray n → RdL X h l vs → h.IsTupleIter it a i → ItAt X h it i l
  | rng {n i : Nat} : IsRangeIter h it ((0 : Int) + (i : Nat) * 1) ((n : Int) - (i : Nat)) 1 → ItAt X h it i ((List.range n).map fun (j : Nat) => D.int (j : Int))
  | sta {x : Str} {t : Tok} {i : Nat} : h.IsStrIter it "str_ascii_iterator" x t i → ItAt X h it i (x.cps.toList.map fun c => D.str ⟨#[c]⟩)
-- what an iteration goes over
inductive Goes : D → List D → Prop
  | list (l : List D) : Goes (.list l) l
  | tup (l : List D) : Goes (.tup l) l
  | rng (n : Nat) : n < 1000000 → Goes (.rng n) ((List.range n).map fun (j : Nat) => D.int (j : Int))
  | sta (x : Str) : x.cps.all (· < 128) = true → Goes (.str x) (x.cps.toList.map fun c => D.str ⟨#[c]⟩)

theorem listIter_ki {h h' : Heap} (k : Ki h h') {a l : Addr} {i : Nat} (x : h.IsListIter a l i) : h'.IsListIter a l i := let ⟨o, e, c, d⟩ := x; ⟨o, k _ _ e (.inr ⟨by rw [c]; simp, _, d⟩), c, d⟩
theorem tupIter_ki {h h' : Heap} (k : Ki h h') {a l : Addr} {i : Nat} (x : h.IsTupleIter a l i) : h'.IsTupleIter a l i := let ⟨o, e, c, d⟩ := x; ⟨o, k _ _ e (.inr ⟨by rw [c]; simp, _, d⟩), c, d⟩
theorem ItAt.ki {h h' : Heap} (k : Ki h h') {it : Addr} {i : Nat} {l : List D} : ItAt X h it i l → ItAt X h' it i l := fun r => by
  cases r with
  | list p a b c => exact .list p (k _ _ a (.inl ⟨_, _, rfl⟩)) (b.ks k.ks) (listIter_ki k c)
  | tup p a b c => exact .tup p (k _ _ a (.inl ⟨_, _, rfl⟩)) (b.ks k.ks) (tupIter_ki k c)
  | rng a => exact .rng (k _ _ a (.inr ⟨by simp, _, rfl⟩))
  | sta a => obtain ⟨o, e, c, d⟩ := a; exact .sta ⟨o, k _ _ e (.inr ⟨by rw [c]; simp, _, d⟩), c, d⟩
-- all but one address
noncomputable def But (it : Addr) (h h' : Heap) : Prop := ∀ b o, b ≠ it → h.get? b = some o → h'.get? b = some o
noncomputable def iterObj (o : Obj) : Prop := o.cls = .type "list_iterator" ∨ o.cls = .type "tuple_iterator" ∨ o.cls = .type "range_iterator" ∨ o.cls = .type "str_ascii_iterator"
theorem ItAt.obj {h : Heap} {it : Addr} {i : Nat} {l : List D} (x : ItAt X h it i l) : ∃ o, h.get? it = some o ∧ iterObj o ∧ ∃ vs, o.data = .fields vs := by
  cases x with
  | list p a b c => obtain ⟨o, e, c, d⟩ := c; exact ⟨o, e, .inl c, _, d⟩
  | tup p a b c => obtain ⟨o, e, c, d⟩ := c; exact ⟨o, e, .inr (.inl c), _, d⟩
  | rng a => exact ⟨_, a, .inr (.inr (.inl rfl)), _, rfl⟩
  | sta a => obtain ⟨o, e, c, d⟩ := a; exact ⟨o, e, .inr (.inr (.inr c)), _, d⟩
theorem But.ks {h h' : Heap} {it : Addr} {i : Nat} {l : List D} (b : But it h h') (x : ItAt X h it i l) : Ks X h h' := fun c o _ e y => by
  refine b c o (fun q => ?_) e
  subst q
  obtain ⟨o', e', z, vs, d⟩ := x.obj
  rw [e'] at e; cases e
  rcases y with ⟨xs, n, e2⟩ | ⟨e2, _⟩
  · rw [d] at e2; cases e2
  · rcases z with z | z | z | z <;> (rw [z] at e2; simp at e2)
theorem isL_other {h : Heap} {it a : Addr} {i n : Nat} {l : List D} {xs : Array Value} (x : ItAt X h it i l) (y : IsL h a xs n) : a ≠ it := fun q => by
  subst q
  obtain ⟨o', e', z, vs, d⟩ := x.obj
  rw [y] at e'; cases e'; cases d
theorem isT_other {h : Heap} {it a : Addr} {i n : Nat} {l : List D} {xs : Array Value} (x : ItAt X h it i l) (y : IsT h a xs n) : a ≠ it := fun q => by
  subst q
  obtain ⟨o', e', z, vs, d⟩ := x.obj
  rw [y] at e'; cases e'; cases d

section
variable {prog : Program} {w : World} {A : Around} {E : Value → Shared → Prop} {s : Shared}
theorem ItAt.next {it : Addr} {i : Nat} {ds : List D} {d : D} (hh : A.handled = none) (x : ItAt X s.heap it i ds) (hd : ds[i]? = some d) {Q : Option Value → Shared → Prop}
    (h : ∀ v h' t, But it s.heap h' → ItAt X h' it (i + 1) ds → Rd X h' d v → Q (some v) { s with heap := h', toks := t }) : wpAny (model prog w) A (pyNext (.ref it)) Q E s := by
  have x0 := x
  cases x with
  | @list a vs n l i p y z u =>
    obtain ⟨v, hv, rv⟩ := z.get hd
    have ne := isL_other x0 y
    have W := Walks.list (prog := prog) (w := w) (A := A) hh it a ne vs.toArray
    refine W.item i s Q E (by simpa using (List.getElem?_eq_some_iff.mp hv).1) ⟨u, y.isList⟩ fun v' h' tk e st kp => ?_
    have b : But it s.heap h' := fun b o hb e => kp b o (by simpa using hb) e
    have ev : v' = v := by simp at e; rw [hv] at e; exact (Option.some.inj e).symm
    subst ev
    exact h _ _ _ b (.list p (b _ _ ne y) (z.ks (b.ks x0)) st.1) (rv.ks (b.ks x0))
  | @tup a vs n l i p y z u =>
    obtain ⟨v, hv, rv⟩ := z.get hd
    have ne := isT_other x0 y
    have W := Walks.tuple (prog := prog) (w := w) (A := A) hh it a ne vs.toArray
    refine W.item i s Q E (by simpa using (List.getElem?_eq_some_iff.mp hv).1) ⟨u, isT_tuple y⟩ fun v' h' tk e st kp => ?_
    have b : But it s.heap h' := fun b o hb e => kp b o (by simpa using hb) e
    have ev : v' = v := by simp at e; rw [hv] at e; exact (Option.some.inj e).symm
    subst ev
    exact h _ _ _ b (.tup p (b _ _ ne y) (z.ks (b.ks x0)) st.1) (rv.ks (b.ks x0))
  | @rng n i y =>
    have W := Walks.range (prog := prog) (w := w) (A := A) hh it 0 1 n
    have hi : i < n := by
      have := (List.getElem?_eq_some_iff.mp hd).1
      simpa using this
    have e : d = .int i := by
      simp [List.getElem?_map, List.getElem?_range hi] at hd
      exact hd.symm
    subst e
    refine W.item i s Q E hi y fun v' h' tk ev st kp => ?_
    have b : But it s.heap h' := fun b o hb e => kp b o (by simpa using hb) e
    obtain ⟨t, rfl⟩ := ev
    refine h _ _ _ b (.rng st) ?_
    simpa using Rd.int (X := X) (h := h') (i : Int) t
  | @sta x t i y =>
    obtain ⟨c, hc, e⟩ : ∃ c, x.cps[i]? = some c ∧ d = .str ⟨#[c]⟩ := by
      rw [List.getElem?_map] at hd
      cases z : x.cps.toList[i]? with
      | none => rw [z] at hd; cases hd
      | some c => rw [z] at hd; exact ⟨c, by rw [← Array.getElem?_toList]; exact z, (Option.some.inj hd).symm⟩
    subst e
    refine wpAny_pyNext_ascii_item y hc fun h' y' hs => ?_
    have b : But it s.heap h' := fun b o hb e => (hs.2 b hb).trans e
    exact h _ _ _ b (.sta y') (.str _ _)
theorem ItAt.done {it : Addr} {i : Nat} {ds : List D} (hh : A.handled = none) (x : ItAt X s.heap it i ds) (hd : i = ds.length) {Q : Option Value → Shared → Prop}
    (h : ∀ h' t, But it s.heap h' → Q none { s with heap := h', toks := t }) : wpAny (model prog w) A (pyNext (.ref it)) Q E s := by
  have x0 := x
  cases x with
  | @list a vs n l i p y z u =>
    have ne := isL_other x0 y
    have W := Walks.list (prog := prog) (w := w) (A := A) hh it a ne vs.toArray
    refine W.done s Q E ?_ fun h' tk kp => h _ _ fun b o hb e => kp b o (by simpa using hb) e
    rw [show vs.toArray.size = i by rw [hd]; simp [z.length]]
    exact ⟨u, y.isList⟩
  | @tup a vs n l i p y z u =>
    have ne := isT_other x0 y
    have W := Walks.tuple (prog := prog) (w := w) (A := A) hh it a ne vs.toArray
    refine W.done s Q E ?_ fun h' tk kp => h _ _ fun b o hb e => kp b o (by simpa using hb) e
    rw [show vs.toArray.size = i by rw [hd]; simp [z.length]]
    exact ⟨u, isT_tuple y⟩
  | @rng n i y =>
    have W := Walks.range (prog := prog) (w := w) (A := A) hh it 0 1 n
    refine W.done s Q E ?_ fun h' tk kp => h _ _ fun b o hb e => kp b o (by simpa using hb) e
    have : i = n := by simpa using hd
    subst this
    exact y
  | @sta x t i y =>
    refine wpAny_pyNext_ascii_end hh y (by rw [← Array.getElem?_toList, List.getElem?_eq_none]; rw [hd]; simp) fun h' hs => h _ _ fun b o hb e => ?_
    exact hs b o hb e
theorem get_size (h : Heap) : h.get? h.objs.size = none := by
  cases q : h.get? h.objs.size with
  | none => rfl
  | some o => exact absurd (Heap.lt_size q) (Nat.lt_irrefl _)
theorem small_range {n : Nat} (h : n < 1000000) : Builtin.Range.small 0 n 1 = true ∧ Builtin.Range.rangeSize 0 n 1 = n := by
  constructor
  · exact small_one (by lia) (by lia) (by lia) (by lia)
  · simp [Builtin.Range.rangeSize]; lia
theorem Goes.start {d : D} {ds : List D} (g : Goes d ds) {v : Value} (x : Rd X s.heap d v) {Q : Value → Shared → Prop}
    (h : ∀ it h' t, s.heap.objs.size ≤ it → s.heap.get? it = none → Kf s.heap h' → ItAt X h' it 0 ds → Q (.ref it) { s with heap := h', toks := t }) : wpAny (model prog w) A (pyIter v) Q E s := by
  cases g with
  | list l =>
    obtain ⟨a, vs, n, rfl, hl, rl, p⟩ := x.list_inv
    have kf := Kf.push s.heap { cls := .type "list_iterator", data := .fields #[.ref a, .int 0 0] }
    exact wpAny_pyIter_list hl.isList (h _ _ s.toks (Nat.le_refl _) (get_size _) kf (.list p (kf _ _ hl) (rl.ks kf.ks) ⟨_, Heap.get?_push_size _ rfl, rfl, rfl⟩))
  | tup l =>
    obtain ⟨a, vs, n, rfl, hl, rl, p⟩ := x.tup_inv
    have kf := Kf.push s.heap { cls := .type "tuple_iterator", data := .fields #[.ref a, .int 0 0] }
    exact wpAny_pyIter_tuple (isT_tuple hl) (h _ _ s.toks (Nat.le_refl _) (get_size _) kf (.tup p (kf _ _ hl) (rl.ks kf.ks) ⟨_, Heap.get?_push_size _ rfl, rfl, rfl⟩))
  | rng n hn =>
    cases x with
    | rng p y =>
      refine wpAny_pyIter_range y (small_range hn).1 ?_
      rw [(small_range hn).2]
      have kf := Kf.push s.heap { cls := .type "range_iterator", data := .fields #[rawInt 0, rawInt n, rawInt 1] }
      exact h _ _ s.toks (Nat.le_refl _) (get_size _) kf (.rng (by simpa using Heap.get?_push_size s.heap (o := { cls := .type "range_iterator", data := .fields #[rawInt 0, rawInt n, rawInt 1] }) rfl))
  | sta y hy =>
    cases x
    rename_i t
    refine wpAny_pyIter_ascii hy ?_
    have kf := Kf.push s.heap { cls := .type "str_ascii_iterator", data := .fields #[.str y t, .int 0 0] }
    exact h _ _ s.toks (Nat.le_refl _) (get_size _) kf (.sta ⟨_, Heap.get?_push_size _ rfl, rfl, rfl⟩)
end
end
section
variable {X : Addr → Prop}

noncomputable abbrev Rho := Str → Option D
noncomputable def upd (ρ : Rho) (x : Str) (d : D) : Rho := fun y => if y = x then some d else ρ y
theorem upd_same (ρ : Rho) (x : Str) (d : D) : upd ρ x d x = some d := by simp [upd]

-- a frame under way: entered at h₀; its names are ρ
structure St (X : Addr → Prop) (R : Heap → Heap → Prop) (G : Heap → Prop) (h₀ : Heap) (env : Env) (ρ : Rho) (h : Heap) : Prop where
  rel : R h₀ h
  g : G h₀
  loc : ∃ m, h.Ns env.locals m ∧ ∀ x d, ρ x = some d → env.kindOf x = some .local → ∃ v, m x = some v ∧ Rd X h d v
  cel : ∀ x c, env.cells.lookup x = some c → ∃ v₀, h.IsCell c v₀ ∧ ∀ d, ρ x = some d → ∃ v, v₀ = some v ∧ Rd X h d v
  lab : h₀.objs.size ≤ env.locals
  apart : ∀ x y c, env.cells.lookup x = some c → env.cells.lookup y = some c → x = y
  up : Up X h
-- what the text's own objects say
noncomputable def Static (R : Heap → Heap → Prop) (G : Heap → Prop) : Prop := ∀ h h', R h h' → G h → G h'
theorem hard_sameBut {h h' : Heap} {a : Addr} (hs : Heap.SameBut a h h') (hn : ∀ o, h.get? a = some o → ¬ hard o) : ∀ x o, h.get? x = some o → hard o → h'.get? x = some o :=
  fun x o e y => (hs.2 x (fun q => by subst q; exact hn o e y)).trans e
theorem dict_soft {o : Obj} (x : (∃ es n, o.data = .dict es n) ∨ ∃ v, o.data = .cell v) : ¬ hard o := fun ⟨_, vs, e⟩ => by
  rcases x with ⟨es, n, d⟩ | ⟨v, d⟩ <;> (rw [d] at e; cases e)

section
variable {R : Heap → Heap → Prop} {G : Heap → Prop} {h₀ h h' : Heap} {env : Env} {ρ ρ' : Rho}
theorem St.weak (S : St X R G h₀ env ρ h) (hw : ∀ x d, ρ' x = some d → ρ x = some d) : St X R G h₀ env ρ' h :=
  ⟨S.rel, S.g, let ⟨m, a, b⟩ := S.loc; ⟨m, a, fun x d e => b x d (hw x d e)⟩, fun x c e => let ⟨v, a, b⟩ := S.cel x c e; ⟨v, a, fun d e => b d (hw x d e)⟩, S.lab, S.apart, S.up⟩
theorem St.kept (S : St X R G h₀ env ρ h) (hr : R h₀ h') (kd : Kd h h') (ks : Ks X h h') (up : Up X h') : St X R G h₀ env ρ h' :=
  ⟨hr, S.g, let ⟨m, a, b⟩ := S.loc; ⟨m, ns_kd kd a, fun x d e k => let ⟨v, e1, r1⟩ := b x d e k; ⟨v, e1, r1.ks ks⟩⟩,
    fun x c e => let ⟨v, a, b⟩ := S.cel x c e; ⟨v, cell_kd kd a, fun d e => let ⟨v, e1, r1⟩ := b d e; ⟨v, e1, r1.ks ks⟩⟩, S.lab, S.apart, up⟩
theorem St.step (r : Rel R) (S : St X R G h₀ env ρ h) (k : R h h') : St X R G h₀ env ρ h' := S.kept (r.trans S.rel k) (r.weak k).kd (r.weak k).ks (S.up.kp (r.weak k))
theorem St.stab (r : Rel R) : Stab R (St X R G h₀ env ρ) := fun _ _ k S => S.step r k
theorem St.gh (r : Rel R) (hG : Static R G) (S : St X R G h₀ env ρ h) : G h := hG _ _ S.rel S.g
theorem St.look (S : St X R G h₀ env ρ h) {x : Str} {d : D} (e : ρ x = some d) (hk : env.kindOf x = some .local ∨ ((env.kindOf x = some .cell ∨ (env.kindOf x = some .free ∧ (x == ("__classdict__" : Str)) = false)) ∧ (env.cells.lookup x).isSome = true)) : ∃ v, Look env h x v ∧ Rd X h d v := by
  rcases hk with hk | ⟨hk, hs⟩
  · obtain ⟨m, a, b⟩ := S.loc
    obtain ⟨v, e1, r1⟩ := b x d e hk
    exact ⟨v, .loc hk a e1, r1⟩
  · obtain ⟨c, hc⟩ := Option.isSome_iff_exists.mp hs
    obtain ⟨v₀, a, b⟩ := S.cel x c hc
    obtain ⟨v, rfl, r1⟩ := b d e
    rcases hk with hk | ⟨hk, hn⟩
    · exact ⟨v, .cell hk hc a, r1⟩
    · exact ⟨v, .free hk hn hc a, r1⟩
-- a name of the frame, to be read
noncomputable def nmB (env : Env) (x : Str) : Bool :=
  env.scope.kind == .function && !(x == ("__debug__" : Str)) && (env.kindOf x == some .local || (env.kindOf x == some .cell || (env.kindOf x == some .free && !(x == ("__classdict__" : Str)))) && (env.cells.lookup x).isSome)
theorem nm_of {env : Env} {x : Str} (c : nmB env x = true) : env.scope.kind = .function ∧ (x == ("__debug__" : Str)) = false ∧
    (env.kindOf x = some .local ∨ ((env.kindOf x = some .cell ∨ (env.kindOf x = some .free ∧ (x == ("__classdict__" : Str)) = false)) ∧ (env.cells.lookup x).isSome = true)) := by
  simpa [nmB, and_assoc] using c
theorem Ev.nm {prog : Program} {w : World} {k : Room} (r : Rel R) {x : Str} {pos : Pos} {d : D} (e : ρ x = some d) (c : nmB env x = true) : Ev prog w X R (St X R G h₀ env ρ) k env (.Name x pos) d :=
  Ev.name r (nm_of c).1 (nm_of c).2.1 fun _ S => S.look e (nm_of c).2.2
theorem St.storeL (r : Rel R) (S : St X R G h₀ env ρ h) {x : Str} {d : D} {v : Value} {m : Str → Option Value} (hm : h.Ns env.locals m) (hx : env.kindOf x = some .local) (hc : env.cells.lookup x = none)
    (hn : h'.Ns env.locals (fun y => if y = x then some v else m y)) (hs : Heap.SameBut env.locals h h') (rv : Rd X h d v) : St X R G h₀ env (upd ρ x d) h' ∧ Ki h h' := by
  have dict : ∀ o, h.get? env.locals = some o → (∃ es n, o.data = .dict es n) ∨ ∃ v, o.data = .cell v := fun o e => by
    obtain ⟨o', es, ep, e', d', _⟩ := hm; rw [e'] at e; cases e; exact .inl ⟨_, _, d'⟩
  have ki := ki_sameBut hs dict
  refine ⟨⟨r.above S.rel (fun b o lt e => (hs.2 b (Nat.ne_of_lt (Nat.lt_of_lt_of_le lt S.lab))).trans e) (hard_sameBut hs fun o e => dict_soft (dict o e)), S.g, ⟨_, hn, fun y dy ey ky => ?_⟩, fun y c ey => ?_, S.lab, S.apart, fun a na => ?_⟩, ki⟩
  · by_cases q : y = x
    · subst q; simp [upd] at ey; subst ey; exact ⟨v, by simp, rv.ks ki.ks⟩
    · simp [upd, q] at ey
      obtain ⟨m', a, b⟩ := S.loc
      obtain ⟨v', e1, r1⟩ := b y dy ey ky
      have : m' = m := by
        funext z
        obtain ⟨o1, es1, _, g1, d1, _, f1⟩ := a
        obtain ⟨o2, es2, _, g2, d2, _, f2⟩ := hm
        rw [g1] at g2; cases g2; rw [d1] at d2; cases d2; rw [← f1, ← f2]
      subst this
      exact ⟨v', by simp [q, e1], r1.ks ki.ks⟩
  · obtain ⟨v₀, ic, b⟩ := S.cel y c ey
    have ne : c ≠ env.locals := fun q => by
      subst q; obtain ⟨o, e, dd⟩ := ic
      obtain ⟨o', es, ep, e', d', _⟩ := hm; rw [e'] at e; cases e; rw [d'] at dd; cases dd
    refine ⟨v₀, ic.sameBut hs ne, fun dy e => ?_⟩
    by_cases q : y = x
    · subst q; rw [hc] at ey; cases ey
    · simp [upd, q] at e
      obtain ⟨v', e1, r1⟩ := b dy e
      exact ⟨v', e1, r1.ks ki.ks⟩
  · by_cases q : a = env.locals
    · subst q
      obtain ⟨o, es, ep, e, d', _⟩ := hn
      exact ⟨o, e, fun t => by obtain ⟨_, vs, e2⟩ := t; rw [d'] at e2; cases e2⟩
    · obtain ⟨o, e, nt⟩ := S.up a na
      exact ⟨o, (hs.2 a q).trans e, nt⟩
theorem St.storeC (r : Rel R) (S : St X R G h₀ env ρ h) {x : Str} {d : D} {v : Value} {c : Addr} (hx : env.kindOf x = some .cell) (hc : env.cells.lookup x = some c) (hab : h₀.objs.size ≤ c)
    (hn : h'.IsCell c (some v)) (hs : Heap.SameBut c h h') (rv : Rd X h d v) : St X R G h₀ env (upd ρ x d) h' ∧ Ki h h' := by
  obtain ⟨v₀, ic, _⟩ := S.cel x c hc
  have cel : ∀ o, h.get? c = some o → (∃ es n, o.data = .dict es n) ∨ ∃ v, o.data = .cell v := fun o e => by
    obtain ⟨o', e', d'⟩ := ic; rw [e'] at e; cases e; exact .inr ⟨_, d'⟩
  have ki := ki_sameBut hs cel
  refine ⟨⟨r.above S.rel (fun b o lt e => (hs.2 b (Nat.ne_of_lt (Nat.lt_of_lt_of_le lt hab))).trans e) (hard_sameBut hs fun o e => dict_soft (cel o e)), S.g, ?_, fun y cy ey => ?_, S.lab, S.apart, fun a na => ?_⟩, ki⟩
  · obtain ⟨m, a, b⟩ := S.loc
    have ne : env.locals ≠ c := fun q => by
      obtain ⟨o, e, dd⟩ := ic
      obtain ⟨o', es, ep, e', d', _⟩ := a; rw [q] at e'; rw [e'] at e; cases e; rw [d'] at dd; cases dd
    refine ⟨m, a.sameBut hs ne, fun y dy ey ky => ?_⟩
    by_cases q : y = x
    · subst q; rw [hx] at ky; cases ky
    · simp [upd, q] at ey
      obtain ⟨v', e1, r1⟩ := b y dy ey ky
      exact ⟨v', e1, r1.ks ki.ks⟩
  · by_cases q : y = x
    · subst q; rw [hc] at ey; cases ey
      exact ⟨some v, hn, fun dy e => by simp [upd] at e; subst e; exact ⟨v, rfl, rv.ks ki.ks⟩⟩
    · have ne : cy ≠ c := fun z => q (S.apart y x c (z ▸ ey) hc)
      obtain ⟨v₁, i1, b⟩ := S.cel y cy ey
      refine ⟨v₁, i1.sameBut hs ne, fun dy e => ?_⟩
      simp [upd, q] at e
      obtain ⟨v', e1, r1⟩ := b dy e
      exact ⟨v', e1, r1.ks ki.ks⟩
  · by_cases q : a = c
    · subst q
      obtain ⟨o, e, d'⟩ := hn
      exact ⟨o, e, fun t => by obtain ⟨_, vs, e2⟩ := t; rw [d'] at e2; cases e2⟩
    · obtain ⟨o, e, nt⟩ := S.up a na
      exact ⟨o, (hs.2 a q).trans e, nt⟩
end

inductive Out where
  | next (ρ : Rho)
  | brk (ρ : Rho)
  | ret (d : D)
section
variable (prog : Program) (w : World) (X : Addr → Prop) (R : Heap → Heap → Prop) (G : Heap → Prop) (k : Room) (h₀ : Heap) (env : Env)
-- what is wanted behind a block that ends so
noncomputable def Out.post (s : Shared) (Q : Flow → Shared → Prop) : Out → Prop
  | .next ρ => ∀ h' t, St X R G h₀ env ρ h' → Ki s.heap h' → Q .next { s with heap := h', toks := t }
  | .brk ρ => ∀ h' t, St X R G h₀ env ρ h' → Ki s.heap h' → Q .brk { s with heap := h', toks := t }
  | .ret d => ∀ v h' t, R h₀ h' → Rd X h' d v → Q (.ret v) { s with heap := h', toks := t }
structure Ex1 (ρ : Rho) (st : Stmt) (o : Out) : Prop where
  run : ∀ A (s : Shared) (Q : Flow → Shared → Prop) (E : Value → Shared → Prop), OkA k A → St X R G h₀ env ρ s.heap → o.post X R G h₀ env s Q → wpAny (model prog w) A (exec st env) Q E s
structure Ex (ρ : Rho) (ss : List Stmt) (o : Out) : Prop where
  run : ∀ A (s : Shared) (Q : Flow → Shared → Prop) (E : Value → Shared → Prop), OkA k A → St X R G h₀ env ρ s.heap → o.post X R G h₀ env s Q → wpAny (model prog w) A (execs ss env) Q E s
-- a store
structure Sto (ρ : Rho) (x : Str) (d : D) : Prop where
  run : ∀ A (s : Shared) (Q : Unit → Shared → Prop) (E : Value → Shared → Prop) v, St X R G h₀ env ρ s.heap → Rd X s.heap d v →
    (∀ h' t, St X R G h₀ env (upd ρ x d) h' → Ki s.heap h' → Q () { s with heap := h', toks := t }) → wpAny (model prog w) A (storeName env x v) Q E s
end
section
variable {prog : Program} {w : World} {R : Heap → Heap → Prop} {G : Heap → Prop} {k : Room} {h₀ : Heap} {env : Env} {ρ ρ' : Rho}
theorem Out.post.mono {s s' : Shared} {Q : Flow → Shared → Prop} {o : Out} (h : o.post X R G h₀ env s Q) (ki : Ki s.heap s'.heap) (e : ∀ h t, ({ s' with heap := h, toks := t } : Shared) = { s with heap := h, toks := t }) : o.post X R G h₀ env s' Q := by
  cases o with
  | next ρ => exact fun h' t S k => by rw [e]; exact h h' t S (ki.trans k)
  | brk ρ => exact fun h' t S k => by rw [e]; exact h h' t S (ki.trans k)
  | ret d => exact fun v h' t S k => by rw [e]; exact h v h' t S k
theorem Sto.loc (r : Rel R) {x : Str} {d : D} (hx : env.kindOf x = some .local) (hc : env.cells.lookup x = none) (hp : (env.scope.kind == .class || (env.scope.kind == .module && env.locals != env.globals)) = false) : Sto prog w X R G h₀ env ρ x d :=
  .mk fun A s Q E v S rv h => by
    obtain ⟨m, a, b⟩ := S.loc
    exact wpAny_storeName_local hx a (fun h' hn hs => let ⟨S', k⟩ := S.storeL r a hx hc hn hs rv; h h' _ S' k) hp
theorem Sto.cel (r : Rel R) {x : Str} {d : D} {c : Addr} (hx : env.kindOf x = some .cell) (hc : env.cells.lookup x = some c) (hab : h₀.objs.size ≤ c) (hk : env.scope.kind = .function) : Sto prog w X R G h₀ env ρ x d :=
  .mk fun A s Q E v S rv h => by
    obtain ⟨v₀, a, b⟩ := S.cel x c hc
    exact wpAny_storeName_cell hk hx hc a (fun h' hn hs => let ⟨S', k⟩ := S.storeC r hx hc hab hn hs rv; h h' s.toks S' k)
theorem Ex.nil : Ex prog w X R G k h₀ env ρ [] (.next ρ) := .mk fun A s Q E o S h => wpAny_execs_nil (h s.heap s.toks S (Ki.refl _))
theorem Ex.cons {st : Stmt} {ss : List Stmt} {o : Out} (h1 : Ex1 prog w X R G k h₀ env ρ st (.next ρ')) (h2 : Ex prog w X R G k h₀ env ρ' ss o) : Ex prog w X R G k h₀ env ρ (st :: ss) o :=
  .mk fun A s Q E ok S h => wpAny_execs_cons (h1.run A s _ _ ok S fun h' t S' ki => h2.run A _ _ _ ok S' (h.mono ki fun _ _ => rfl))
theorem Ex.ret {st : Stmt} {ss : List Stmt} {d : D} (h1 : Ex1 prog w X R G k h₀ env ρ st (.ret d)) : Ex prog w X R G k h₀ env ρ (st :: ss) (.ret d) :=
  .mk fun A s Q E ok S h => wpAny_execs_cons (h1.run A s _ _ ok S fun v h' t k rv => h v h' t k rv)
theorem Ex.brk {st : Stmt} {ss : List Stmt} {ρ' : Rho} (h1 : Ex1 prog w X R G k h₀ env ρ st (.brk ρ')) : Ex prog w X R G k h₀ env ρ (st :: ss) (.brk ρ') :=
  .mk fun A s Q E ok S h => wpAny_execs_cons (h1.run A s _ _ ok S fun h' t S' ki => h h' t S' ki)
theorem Ex1.brk0 {pos : Pos} : Ex1 prog w X R G k h₀ env ρ (.Break pos) (.brk ρ) := .mk fun A s Q E o S h => wpAny_Break (h s.heap s.toks S (Ki.refl _))
theorem Ex1.assign (r : Rel R) {x : Str} {p pos : Pos} {value : Expr} {d : D} (he : Ev prog w X R (St X R G h₀ env ρ) k env value d) (hs : Sto prog w X R G h₀ env ρ x d) (hw : swapsWith value (some (.Name x p)) pos.line env = pure false) :
    Ex1 prog w X R G k h₀ env ρ (.Assign [.Name x p] value pos) (.next (upd ρ x d)) :=
  .mk fun A s Q E o S h => wpAny_Assign_Name (he.run A s _ _ o S fun v h1 t1 k1 rv => hs.run A _ _ _ v (S.step r k1) rv fun h2 t2 S2 ki => h h2 t2 S2 ((r.weak k1).ki.trans ki)) hw
theorem Ex1.ret (r : Rel R) {e : Expr} {pos : Pos} {d : D} (he : Ev prog w X R (St X R G h₀ env ρ) k env e d) : Ex1 prog w X R G k h₀ env ρ (.Return (some e) pos) (.ret d) :=
  .mk fun A s Q E o S h => wpAny_Return_some (he.run A s _ _ o S fun v h1 t1 k1 rv => h v h1 t1 (r.trans S.rel k1) rv)
theorem Ex1.ifs (r : Rel R) {test : Expr} {body orelse : List Stmt} {pos : Pos} {c : Bool} {o : Out} (ht : Tr prog w R (St X R G h₀ env ρ) k env test c) (ha : c = true → Ex prog w X R G k h₀ env ρ body o) (hb : c = false → Ex prog w X R G k h₀ env ρ orelse o) :
    Ex1 prog w X R G k h₀ env ρ (.If test body orelse pos) o :=
  .mk fun A s Q E ok S h => wpAny_If (ht.run A s _ _ ok S fun h1 t1 k1 => by
    have h' := h.mono (s' := { s with heap := h1, toks := t1 }) (r.weak k1).ki fun _ _ => rfl
    cases c with
    | true => exact (ha rfl).run A _ _ _ ok (S.step r k1) h'
    | false => exact (hb rfl).run A _ _ _ ok (S.step r k1) h')
theorem Out.weak {o : Out} {s : Shared} {Q : Flow → Shared → Prop} (hw : ∀ x d, ρ' x = some d → ρ x = some d) (h : (Out.next ρ').post X R G h₀ env s Q) : (Out.next ρ).post X R G h₀ env s Q := fun h' t S k => h h' t (S.weak hw) k
theorem Ex.weak {ss : List Stmt} {ρ₁ : Rho} (hw : ∀ x d, ρ' x = some d → ρ₁ x = some d) (h : Ex prog w X R G k h₀ env ρ ss (.next ρ₁)) : Ex prog w X R G k h₀ env ρ ss (.next ρ') :=
  .mk fun A s Q E ok S q => h.run A s Q E ok S (Out.weak (o := .next ρ') hw q)
end
end
section
variable {X : Addr → Prop}
section
variable (prog : Program) (w : World) (X : Addr → Prop) (R : Heap → Heap → Prop) (G : Heap → Prop) (k : Room) (h₀ : Heap) (env : Env)
-- a value is bound to a target
structure As (ρ : Rho) (target : Expr) (d : D) (ρ' : Rho) : Prop where
  run : ∀ A (s : Shared) (Q : Unit → Shared → Prop) (E : Value → Shared → Prop) v, A.handled = none → St X R G h₀ env ρ s.heap → Rd X s.heap d v →
    (∀ h' t, St X R G h₀ env ρ' h' → Ki s.heap h' → Q () { s with heap := h', toks := t }) → wpAny (model prog w) A (assign target env v) Q E s
-- several names, several values
structure AsL (ρ : Rho) (ts : List Expr) (ds : List D) (ρ' : Rho) : Prop where
  run : ∀ A (s : Shared) (Q : Unit → Shared → Prop) (E : Value → Shared → Prop) vs, A.handled = none → St X R G h₀ env ρ s.heap → RdL X s.heap ds vs →
    (∀ h' t, St X R G h₀ env ρ' h' → Ki s.heap h' → Q () { s with heap := h', toks := t }) → wpAny (model prog w) A (assignInOrder ((assignEach ts env).map (·.2)) vs) Q E s
-- a for loop from its i-th item on
inductive Lo (ds : List D) (target : Expr) (body orelse : List Stmt) (o : Out) : Nat → Rho → Prop
  | done {ρ : Rho} : Ex prog w X R G k h₀ env ρ orelse o → Lo ds target body orelse o ds.length ρ
  | turn {i : Nat} {ρ ρ₁ ρ' : Rho} {d : D} : ds[i]? = some d → As prog w X R G h₀ env ρ target d ρ₁ → Ex prog w X R G k h₀ env ρ₁ body (.next ρ') → Lo ds target body orelse o (i + 1) ρ' → Lo ds target body orelse o i ρ
  | brk {i : Nat} {ρ ρ₁ ρ' : Rho} {d : D} : ds[i]? = some d → As prog w X R G h₀ env ρ target d ρ₁ → Ex prog w X R G k h₀ env ρ₁ body (.brk ρ') → o = .next ρ' → Lo ds target body orelse o i ρ
  | ret {i : Nat} {ρ ρ₁ : Rho} {d d' : D} : ds[i]? = some d → As prog w X R G h₀ env ρ target d ρ₁ → Ex prog w X R G k h₀ env ρ₁ body (.ret d') → o = .ret d' → Lo ds target body orelse o i ρ
-- a while loop, n turns at most
inductive Wh (test : Expr) (body : List Stmt) (o : Out) : Nat → Rho → Prop
  | done {n : Nat} {ρ ρ' : Rho} : Tr prog w R (St X R G h₀ env ρ) k env test false → (∀ x d, ρ' x = some d → ρ x = some d) → o = .next ρ' → Wh test body o n ρ
  | turn {n : Nat} {ρ ρ' : Rho} : Tr prog w R (St X R G h₀ env ρ) k env test true → Ex prog w X R G k h₀ env ρ body (.next ρ') → Wh test body o n ρ' → Wh test body o (n + 1) ρ
  | brk {n : Nat} {ρ ρ' ρ'' : Rho} : Tr prog w R (St X R G h₀ env ρ) k env test true → Ex prog w X R G k h₀ env ρ body (.brk ρ') → (∀ x d, ρ'' x = some d → ρ' x = some d) → o = .next ρ'' → Wh test body o n ρ
end
theorem extBut_kf {h h' : Heap} (x : Heap.ExtBut h.objs.size h h') : Kf h h' := fun b o e => x b o (Nat.ne_of_lt (Heap.lt_size e)) e
section
variable {prog : Program} {w : World} {R : Heap → Heap → Prop} {G : Heap → Prop} {k : Room} {h₀ : Heap} {env : Env} {ρ ρ' : Rho}
theorem As.name {x : Str} {p : Pos} {d : D} (hs : Sto prog w X R G h₀ env ρ x d) : As prog w X R G h₀ env ρ (.Name x p) d (upd ρ x d) :=
  .mk fun A s Q E v _ S rv h => wpAny_assign_Name (hs.run A s Q E v S rv h)
theorem AsL.nil : AsL prog w X R G h₀ env ρ [] [] ρ := .mk fun A s Q E vs _ S rs h => by cases rs; exact wpAny_assignInOrder_none (h s.heap s.toks S (Ki.refl _))
theorem AsL.cons {t : Expr} {ts : List Expr} {d : D} {ds : List D} {ρ₁ : Rho} (he : assignEach (t :: ts) env = (false, assign t env) :: assignEach ts env) (h1 : As prog w X R G h₀ env ρ t d ρ₁) (h2 : AsL prog w X R G h₀ env ρ₁ ts ds ρ') : AsL prog w X R G h₀ env ρ (t :: ts) (d :: ds) ρ' :=
  .mk fun A s Q E vs hh S rs h => by
    cases rs with
    | cons rv rs =>
      rw [he]
      exact wpAny_assignInOrder_more (h1.run A s _ _ _ hh S rv fun h' t S' ki => h2.run A _ _ _ _ hh S' (rs.ks ki.ks) fun h2 t2 S2 k2 => h h2 t2 S2 (ki.trans k2))
theorem As.tup (r : Rel R) {ts : List Expr} {n : Nat} {p : Pos} {ds : List D} (hn : (assignEach ts env).length = ds.length) (hstar : (assignEach ts env).findIdx? (·.1) = none) (h : AsL prog w X R G h₀ env ρ ts ds ρ') : As prog w X R G h₀ env ρ (.Tuple ts n p) (.tup ds) ρ' :=
  .mk fun A s Q E v hh S rv q => by
    obtain ⟨a, vs, n, rfl, hl, rl, _⟩ := rv.tup_inv
    refine wpAny_assign_Tuple hh (isT_tuple hl) (by simp [hn, rl.length]) hstar fun h' eb => ?_
    have kf := extBut_kf eb
    exact h.run A _ _ _ _ hh (S.step r (r.full kf)) (rl.ks kf.ks) fun h2 t2 S2 ki => q h2 t2 S2 (kf.kp.ki.trans ki)
theorem Ex1.assignT (r : Rel R) (hc : k.calm = true := by rfl) {ts : List Expr} {n : Nat} {p pos : Pos} {value : Expr} {d : D} (he : Ev prog w X R (St X R G h₀ env ρ) k env value d) (ha : As prog w X R G h₀ env ρ (.Tuple ts n p) d ρ')
    (hs : swapsWithSole [.Tuple ts n p] value pos.line env = pure false) (hw : swappedStores [.Tuple ts n p] value env = pure none) : Ex1 prog w X R G k h₀ env ρ (.Assign [.Tuple ts n p] value pos) (.next ρ') :=
  .mk fun A s Q E o S h => Assign_Tuple (he.run A s _ _ o S fun v h1 t1 k1 rv => ha.run A _ _ _ v (o.handled hc) (S.step r k1) rv fun h2 t2 S2 ki => h h2 t2 S2 ((r.weak k1).ki.trans ki)) hs hw

theorem letOwned {A : Around} {E : Value → Shared → Prop} {s : Shared} {target : Expr} {it : Addr} {i : Nat} {ds : List D} {v : Value} {Q : Unit → Shared → Prop} (x : ItAt X s.heap it i ds) (h : Q () s) : wpAny (model prog w) A (letOwnedTupleGo target (.ref it) v) Q E s := by
  obtain ⟨o, e, z, vs, hd⟩ := x.obj
  cases target <;> first
    | exact wpAny_pure h
    | (cases v <;> first
        | exact wpAny_pure h
        | (refine wpAny_bind (wpAny_load e ?_)
           rcases z with z | z | z | z <;> (rw [z, hd]; exact wpAny_pure h)))
theorem But.st (r : Rel R) {h h' : Heap} {it : Addr} {i : Nat} {l : List D} (b : But it h h') (x : ItAt X h it i l) (hit : h₀.objs.size ≤ it) (hx : X it) (S : St X R G h₀ env ρ h) : St X R G h₀ env ρ h' := by
  refine S.kept (r.above S.rel (fun c o lt e => b c o (Nat.ne_of_lt (Nat.lt_of_lt_of_le lt hit)) e) fun c o e y => b c o (fun q => by
    subst q
    obtain ⟨o', e', z, vs, d⟩ := x.obj
    rw [e'] at e; cases e
    rcases y.1 with y | y <;> rcases z with z | z | z | z <;> (rw [z] at y; simp at y)) e) (Kd.exact fun c o e y => ?_) (b.ks x) (fun a na => let ⟨o, e, nt⟩ := S.up a na; ⟨o, b a o (fun q => na (q ▸ hx)) e, nt⟩)
  refine b c o (fun q => ?_) e
  subst q
  obtain ⟨o', e', z, vs, d⟩ := x.obj
  rw [e'] at e; cases e
  rcases y with ⟨xs, n, e2⟩ | ⟨v, e2⟩ <;> (rw [d] at e2; cases e2)
-- everything but the iterator
noncomputable def Kj (it : Addr) (h h' : Heap) : Prop := ∀ b o, b ≠ it → h.get? b = some o → ((∃ xs n, o.data = .seq xs n) ∨ (o.cls ≠ .none ∧ ∃ vs, o.data = .fields vs)) → h'.get? b = some o
theorem forLoop_ab {A : Around} {RR : Result → Shared → Prop} {target : Expr} {it : Value} {body orelse : List Stmt} (I : Nat → Shared → Prop)
    (turn : ∀ n s, I n s → ∀ (Qn : Option Value → Shared → Prop) (E' : Value → Shared → Prop) (Q1 : Flow → Shared → Prop), (∀ s₁, wpAny (model prog w) A (execs orelse env) (fun f s₃ => RR (.ok f) s₃) E' s₁ → Qn none s₁) →
      (∀ v s₁, wpAny (model prog w) A (letOwnedTupleGo target it v) (fun _ s₁' => wpAny (model prog w) A (assign target env v) (fun _ s₂ => wpAny (model prog w) A (execs body env) Q1 E' s₂) E' s₁') E' s₁ → Qn (some v) s₁) →
      (∀ m s, m < n → I m s → Q1 .next s) → (∀ s, RR (.ok .next) s → Q1 .brk s) → (∀ v s, RR (.ok (.ret v)) s → Q1 (.ret v) s) → wpAny (model prog w) A (pyNext it) Qn E' s)
    (n : Nat) {s : Shared} (h : I n s) : codeAny (model prog w) A (.forLoop target it body orelse env) RR s :=
  codeAny_forLoop_any I (fun n s hI => turn n s hI _ _ _ (fun _ h => h) (fun _ _ h => h) (fun m s lt h => ⟨m, lt, h⟩) (fun _ h => h) (fun _ _ h => h)) n h
theorem Lo.le {ds : List D} {target : Expr} {body orelse : List Stmt} {o : Out} {j : Nat} (l : Lo prog w X R G k h₀ env ds target body orelse o j ρ) : j ≤ ds.length := by
  cases l with
  | done => exact Nat.le_refl _
  | turn e => exact Nat.le_of_lt (List.getElem?_eq_some_iff.mp e).1
  | brk e => exact Nat.le_of_lt (List.getElem?_eq_some_iff.mp e).1
  | ret e => exact Nat.le_of_lt (List.getElem?_eq_some_iff.mp e).1
variable (prog w X R G k h₀ env) in
inductive InvL (s : Shared) (it : Addr) (ds : List D) (target : Expr) (body orelse : List Stmt) (o : Out) (n : Nat) : Shared → Prop
  | mk {h' : Heap} {t j : Nat} {ρ : Rho} : n + j = ds.length → St X R G h₀ env ρ h' → ItAt X h' it j ds → Kj it s.heap h' → Lo prog w X R G k h₀ env ds target body orelse o j ρ → InvL s it ds target body orelse o n { s with heap := h', toks := t }
theorem for_code (r : Rel R) (hc : k.calm = true) {A : Around} {s : Shared} {it : Addr} {target : Expr} {body orelse : List Stmt} {o : Out} {ds : List D} {i : Nat} {Q : Flow → Shared → Prop} {F : Value → Shared → Prop} (ok : OkA k A) (hit : h₀.objs.size ≤ it) (hx : X it)
    (S : St X R G h₀ env ρ s.heap) (x : ItAt X s.heap it i ds) (lo : Lo prog w X R G k h₀ env ds target body orelse o i ρ) (hq : ∀ h' t, Kj it s.heap h' → o.post X R G h₀ env { s with heap := h', toks := t } Q) :
    codeAny (model prog w) A (.forLoop target (.ref it) body orelse env) (fun r s' => match r with | .ok f => Q f s' | .error e => F e s') s := by
  refine forLoop_ab (InvL X prog w R G k h₀ env s it ds target body orelse o) ?_ (ds.length - i) (.mk (t := s.toks) (Nat.sub_add_cancel lo.le) S x (fun _ _ _ e _ => e) lo)
  rintro n _ ⟨hn, S, x, kj, lo⟩ Qn E' Q1 hN hS h1 hb hr
  rename_i h' t j ρ
  have get : ∀ {d : D}, ds[j]? = some d → ∀ {ρ₁ : Rho} {o₁ : Out}, As prog w X R G h₀ env ρ target d ρ₁ → Ex prog w X R G k h₀ env ρ₁ body o₁ →
      (∀ h1 t1, Kj it s.heap h1 → ItAt X h1 it (j + 1) ds → o₁.post X R G h₀ env { s with heap := h1, toks := t1 } Q1) → wpAny (model prog w) A (pyNext (.ref it)) Qn E' { s with heap := h', toks := t } := by
    intro d hd ρ₁ o₁ as ex hq1
    refine x.next (ok.handled hc) hd fun v h1 t1 b1 x1 rv => hS v _ (letOwned x1 (as.run A _ _ _ v (ok.handled hc) (b1.st r x hit hx S) rv fun h2 t2 S2 k2 => ex.run A _ _ _ ok S2 ?_))
    exact (hq1 h1 t1 (fun b o nb e y => b1 b o nb (kj b o nb e y)) x1).mono (s' := { s with heap := h2, toks := t2 }) k2 fun _ _ => rfl
  cases lo with
  | done ex => exact x.done (ok.handled hc) rfl fun h1 t1 b1 => hN _ (ex.run A _ _ _ ok (b1.st r x hit hx S) (hq h1 t1 fun b o nb e y => b1 b o nb (kj b o nb e y)))
  | turn hd as ex lo' =>
    have lt := (List.getElem?_eq_some_iff.mp hd).1
    exact get hd as ex fun h3 t3 k3 x3 h4 t4 S4 k4 => h1 (n - 1) _ (by omega) (.mk (by omega) S4 (x3.ki k4) (fun b o nb e y => k4 b o (k3 b o nb e y) y) lo')
  | brk hd as ex he =>
    subst he
    exact get hd as ex fun h1 t1 k1 x1 h2 t2 S2 k2 => hb _ (hq h1 t1 k1 h2 t2 S2 k2)
  | ret hd as ex he =>
    subst he
    exact get hd as ex fun h1 t1 k1 x1 v h2 t2 S2 k2 => hr v _ (hq h1 t1 k1 v h2 t2 S2 k2)
theorem Kj.ki {h h' h'' : Heap} {it : Addr} (k : Kj it h' h'') (kf : Kf h h') (hit : h.objs.size ≤ it) : Ki h h'' :=
  fun b o e y => k b o (Nat.ne_of_lt (Nat.lt_of_lt_of_le (Heap.lt_size e) hit)) (kf b o e) y
theorem St.size {h₁ : Heap} (S : St X R G h₀ env ρ h₁) (r : Rel R) : h₀.objs.size ≤ h₁.objs.size := by
  obtain ⟨m, a, _⟩ := S.loc
  exact Nat.le_of_lt (Nat.lt_of_le_of_lt S.lab a.lt)
theorem Ex1.fors (r : Rel R) (hc : k.calm = true := by rfl) {target iter : Expr} {body orelse : List Stmt} {pos : Pos} {d : D} {ds : List D} {o : Out} (he : Ev prog w X R (St X R G h₀ env ρ) k env iter d) (g : Goes d ds) (hf : ∀ x, foldedSetIterable iter env x = pure x)
    (lo : Lo prog w X R G k h₀ env ds target body orelse o 0 ρ) : Ex1 prog w X R G k h₀ env ρ (.For target iter body orelse pos) o :=
  .mk fun A s Q E ok S h => wpAny_For (he.run A s _ _ ok S fun v h1 t1 k1 rv => g.start rv fun it h2 t2 hit hn kf x => by
    have S1 := S.step r k1
    have hit' : h₀.objs.size ≤ it := Nat.le_trans (S1.size r) hit
    exact for_code r hc ok hit' (S1.up.fresh hn) (S1.step r (r.full kf)) x lo fun h3 t3 kj => h.mono (s' := { s with heap := h3, toks := t3 }) ((r.weak k1).ki.trans (kj.ki kf hit)) fun _ _ => rfl) hf
theorem Ex1.whiles (r : Rel R) {test : Expr} {body : List Stmt} {pos : Pos} {o : Out} {n : Nat} (wh : Wh prog w X R G k h₀ env test body o n ρ) : Ex1 prog w X R G k h₀ env ρ (.While test body [] pos) o :=
  .mk fun A s Q E ok S h => wpAny_While (by
    refine codeAny_whileLoop (fun n s' => ∃ h' t ρ, s' = { s with heap := h', toks := t } ∧ St X R G h₀ env ρ h' ∧ Ki s.heap h' ∧ Wh prog w X R G k h₀ env test body o n ρ) ?_ n ⟨s.heap, s.toks, ρ, rfl, S, Ki.refl _, wh⟩
    rintro n s' ⟨h', t, ρ, rfl, S, ki, wh⟩
    have h := h.mono (s' := { s with heap := h', toks := t }) ki fun _ _ => rfl
    cases wh with
    | done tr hw he =>
      subst he
      exact tr.run A _ _ _ ok S fun h1 t1 k1 => wpAny_execs_nil (h h1 t1 ((S.step r k1).weak hw) (r.weak k1).ki)
    | turn tr ex wh' =>
      exact tr.run A _ _ _ ok S fun h1 t1 k1 => ex.run A _ _ _ ok (S.step r k1) fun h2 t2 S2 k2 => ⟨_, Nat.lt_succ_self _, h2, t2, _, rfl, S2, (ki.trans (r.weak k1).ki).trans k2, wh'⟩
    | brk tr ex hw he =>
      subst he
      exact tr.run A _ _ _ ok S fun h1 t1 k1 => ex.run A _ _ _ ok (S.step r k1) fun h2 t2 S2 k2 => h h2 t2 (S2.weak hw) ((r.weak k1).ki.trans k2))
end
end
section
theorem len0 {α : Type} {P : List α → Prop} (f : P []) : ∀ l : List α, l.length = 0 → P l := fun _ h => List.eq_nil_of_length_eq_zero h ▸ f
theorem lenS {α : Type} {P : List α → Prop} {n : Nat} (f : ∀ a l, l.length = n → P (a :: l)) : ∀ l : List α, l.length = n + 1 → P l := fun l h => by
  cases l with
  | nil => cases h
  | cons a l => exact f a l (Nat.succ.inj h)
theorem len1 {α : Type} {P : List α → Prop} (f : ∀ a, P [a]) : ∀ l : List α, l.length = 1 → P l := lenS fun a => len0 (P := fun l => P (a :: l)) (f a)
theorem len2 {α : Type} {P : List α → Prop} (f : ∀ a b, P [a, b]) : ∀ l : List α, l.length = 2 → P l := lenS fun a => len1 (P := fun l => P (a :: l)) (f a)
theorem len3 {α : Type} {P : List α → Prop} (f : ∀ a b c, P [a, b, c]) : ∀ l : List α, l.length = 3 → P l := lenS fun a => len2 (P := fun l => P (a :: l)) (f a)
theorem len4 {α : Type} {P : List α → Prop} (f : ∀ a b c d, P [a, b, c, d]) : ∀ l : List α, l.length = 4 → P l := lenS fun a => len3 (P := fun l => P (a :: l)) (f a)
theorem all0 {α : Type} {P : α → Prop} : ∀ x ∈ ([] : List α), P x := fun _ m => (nomatch m)
theorem allC {α : Type} {P : α → Prop} {a : α} {l : List α} (h : P a) (t : ∀ x ∈ l, P x) : ∀ x ∈ a :: l, P x := fun x m => (List.mem_cons.mp m).elim (fun e => e ▸ h) (t x)
variable {X : Addr → Prop}
noncomputable def rho0 (acc : Rho) : List Str → List D → Rho
  | x :: xs, d :: ds => rho0 (upd acc x d) xs ds
  | _, _ => acc
theorem OkA.deeper {n : Nat} {fr : Option (List Env)} {c : Bool} {A : Around} {env : Env} (o : OkA ⟨n + 1, fr, c⟩ A) : OkA ⟨n, fr.map (env :: ·), c⟩ (A.deeper env) := by
  refine ⟨o.handled, ?_, ?_, fun l e => ?_⟩
  · have h : A.depth + (n + 1) ≤ 990 := o.depth; show A.depth + 1 + n ≤ 990; lia
  · have h : A.units + 20 * (n + 1) ≤ 9000 := o.units; show A.units + 3 + 20 * n ≤ 9000; lia
  · cases fr with
    | none => cases e
    | some l' =>
      have h := o.frames l' rfl
      have e' : env :: l' = l := Option.some.inj e
      show A.frames.map _ = _
      rw [h, ← e']; rfl
theorem rho0_rd {h : Heap} {kind : Str → Option NameKind} : ∀ {names : List Str} {as : List D} {vals : List Value} {acc : Rho} {m cm : Str → Option Value}, RdL X h as vals →
    (∀ x d, acc x = some d → (kind x = some .local → ∃ v, m x = some v ∧ Rd X h d v) ∧ (kind x ≠ some .local → ∃ v, cm x = some v ∧ Rd X h d v)) →
    ∀ x d, rho0 acc names as x = some d → (kind x = some .local → ∃ v, bindL kind (names.zip vals) m x = some v ∧ Rd X h d v) ∧ (kind x ≠ some .local → ∃ v, bindC kind (names.zip vals) cm x = some v ∧ Rd X h d v)
  | [], _, _, _, _, _, _, ha, x, d, e => ha x d e
  | y :: ys, _, _, acc, m, cm, r, ha, x, d, e => by
    cases r with
    | nil => exact ha x d e
    | @cons a v as vals rv rs =>
    simp only [List.zip_cons_cons, bindL, bindC]
    refine rho0_rd (acc := upd acc y a) rs (fun z dz ez => ?_) x d e
    by_cases q : z = y
    · subst q
      simp [upd] at ez; subst ez
      constructor
      · intro hk; exact ⟨v, by simp [hk], rv⟩
      · intro hk; exact ⟨v, by simp [hk], rv⟩
    · simp [upd, q] at ez
      obtain ⟨h1, h2⟩ := ha z dz ez
      constructor
      · intro hk
        obtain ⟨v', e1, r1⟩ := h1 hk
        exact ⟨v', by split <;> simp [q, e1], r1⟩
      · intro hk
        obtain ⟨v', e1, r1⟩ := h2 hk
        exact ⟨v', by split <;> simp [q, e1], r1⟩
theorem lookup_mem {α : Type} {x : Str} {c : α} : ∀ {l : List (Str × α)}, l.lookup x = some c → (x, c) ∈ l
  | [], e => by cases e
  | (y, b) :: l, e => by
    rw [List.lookup_cons] at e
    split at e
    · rename_i q; cases e; rw [show x = y from by simpa using q]; exact .head _
    · exact .tail _ (lookup_mem e)
theorem pair_apart {x y : Str} {c : Addr} : ∀ {l : List (Str × Addr)}, (l.Pairwise fun a b => a.2 ≠ b.2) → (x, c) ∈ l → (y, c) ∈ l → x = y
  | [], _, h, _ => nomatch h
  | p :: l, hp, h1, h2 => by
    rw [List.pairwise_cons] at hp
    rcases List.mem_cons.mp h1 with e1 | m1 <;> rcases List.mem_cons.mp h2 with e2 | m2
    · rw [← e1] at e2; exact ((Prod.mk.inj e2).1).symm
    · exact absurd (by rw [← e1]) (hp.1 _ m2)
    · exact absurd (by rw [← e2]) (hp.1 _ m1)
    · exact pair_apart hp.2 m1 m2
theorem cellsFrom_mem {x : Str} {c : Addr} : ∀ {names : List (Str × NameKind)} {n : Nat} {acc : List (Str × Addr)}, (x, c) ∈ cellsFrom n names acc → (x, NameKind.cell) ∈ names ∨ (x, c) ∈ acc
  | [], _, _, h => .inr h
  | (y, kd) :: r, n, acc, h => by
    unfold cellsFrom at h
    split at h
    · rename_i q
      rcases cellsFrom_mem h with m | m
      · exact .inl (.tail _ m)
      · rcases List.mem_cons.mp m with e | m
        · rw [(Prod.mk.inj e).1, show kd = NameKind.cell from by simpa using q]; exact .inl (.head _)
        · exact .inr m
    · rcases cellsFrom_mem h with m | m
      · exact .inl (.tail _ m)
      · exact .inr m
-- no name is a cell and something else
noncomputable def cellsOk (names : List (Str × NameKind)) : Bool := names.all fun p => p.2 != .cell || names.lookup p.1 == some .cell
theorem cellsOk_kind {names : List (Str × NameKind)} (ok : cellsOk names = true) {x : Str} (h : (x, NameKind.cell) ∈ names) : names.lookup x = some .cell := by
  have := List.all_eq_true.mp ok _ h
  simpa using this
section
variable {prog : Program} {w : World} {R : Heap → Heap → Prop} {G I : Heap → Prop} {k : Room}
theorem Ca.lift {k' : Room} {f : Value} {as : List D} {d : D} (r : Rel R) (h : Ca prog w X Kf G k f as d) (hI : ∀ h, I h → G h) (hk : k.n ≤ k'.n) (h1 : k.fr = none ∨ k.fr = k'.fr) (h2 : k.calm = true → k'.calm = true) : Ca prog w X R I k' f as d :=
  .mk fun A s Q E vals o i rs q => h.run A s Q E vals (o.le hk h1 h2) (hI _ i) rs fun v h' t kf rv => q v h' t (r.full kf) rv
theorem Ca.fn {n : Nat} {fr : Option (List Env)} {cm : Bool} (r : Rel R) {fa : Addr} {ob : Obj} {fd : FuncData} {body : List Stmt} {names : List Str} {as : List D} {d : D} (hob : ob.data = .func fd) (ho : ∀ h, G h → h.get? fa = some ob) (hcd : ∀ h, G h → h.CodeRec fd.code fd.qualname)
    (hlim : ∀ h, G h → h.NoLimit) (hbody : fd.body = .stmts body) (hclo : fd.closure = []) (hco : fd.scope.isCoroutine = false) (hgen : fd.scope.isGenerator = false) (hk : fd.scope.kind = .function) (hok : cellsOk fd.scope.names = true)
    (hlen : as.length = names.length) (hbind : ∀ vals : List Value, vals.length = names.length → bindArgs fd ⟨vals, []⟩ = pure (names.zip vals))
    (hkind : ∀ n, ∀ x ∈ names, fd.scope.names.lookup x = some .local ∨ (fd.scope.names.lookup x = some .cell ∧ ((cellsFrom (n + 1) fd.scope.names []).lookup x).isSome = true))
    (hx : ∀ h₀ : Heap, G h₀ → Ex prog w X R G ⟨n, fr.map (callEnvC fd h₀.objs.size fa :: ·), cm⟩ h₀ (callEnvC fd h₀.objs.size fa) (rho0 (fun _ => none) names as) body (.ret d)) : Ca prog w X R (fun h => G h ∧ Up X h) ⟨n + 1, fr, cm⟩ (.ref fa) as d :=
  .mk fun A s Q E vals o i rs q => by
    have hl : vals.length = names.length := by rw [rs.length]; exact hlen
    refine wpAny_call (codeAny_call_cells (by have h : A.depth + (n + 1) ≤ 990 := o.depth; show A.depth < 1000; lia) (ho _ i.1) hob (hlim _ i.1) (hcd _ i.1) hbody (hbind vals hl) hclo ?_ ?_ hco hgen hk)
    · intro x hx
      obtain ⟨a, b⟩ := x
      exact hkind _ _ (List.of_mem_zip hx).1
    · intro s₁ Y
      obtain ⟨h', tk, rfl⟩ := Y.toInCall.same
      have kf : Kf s.heap h' := Y.toInCall.keep
      have rd := rho0_rd (kind := (callEnvC fd s.heap.objs.size fa).kindOf) (names := names) (acc := fun _ => none) (m := fun _ => none) (cm := fun _ => none) (rs.ks kf.ks) (fun x d e => by cases e)
      refine (hx s.heap i.1).run _ _ _ _ o.deeper ⟨r.full kf, i.1, ⟨_, Y.toInCall.ns, fun x d e kx => (rd x d e).1 kx⟩, fun x c e => ⟨_, Y.cell x c e, fun d ed => ?_⟩, Y.toInCall.fresh, fun x y c e1 e2 => ?_, i.2.kp kf.kp⟩ fun v h'' t k rv => q v h'' t k rv
      · by_cases kx : (callEnvC fd s.heap.objs.size fa).kindOf x = some .local
        · exfalso
          rcases cellsFrom_mem (lookup_mem e) with m | m
          · have h1 : fd.scope.names.lookup x = some .cell := cellsOk_kind hok m
            have h2 : fd.scope.names.lookup x = some .local := kx
            rw [h1] at h2; cases h2
          · cases m
        · exact (rd x d ed).2 kx
      · exact pair_apart Y.apart (lookup_mem e1) (lookup_mem e2)
end
end
section
variable {X : Addr → Prop}
section
variable {prog : Program} {w : World} {R : Heap → Heap → Prop} {I : Heap → Prop} {k : Room} {env : Env}
theorem Op.divp (r : Rel R) {a b : Int} (hb : 0 < b) (hp : b < 1073741824) : Op prog w X R I k (binaryOp .FloorDiv) (.int a) (.int b) (.int (a / b)) := by
  have := Op.fdiv (X := X) (prog := prog) (w := w) (I := I) (k := k) r (a := a) (b := b) (by lia) (by lia)
  rwa [Int.fdiv_eq_ediv_of_nonneg _ (by lia)] at this
theorem Op.modp (r : Rel R) {a b : Int} (hb : 0 < b) : Op prog w X R I k (binaryOp .Mod) (.int a) (.int b) (.int (a % b)) := by
  have := Op.fmod (X := X) (prog := prog) (w := w) (I := I) (k := k) r (a := a) (b := b) (by lia)
  rwa [Int.fmod_eq_emod_of_nonneg _ (by lia)] at this
theorem Op.of_eq {f : Value → Value → Sem Value} {a b d d' : D} (h : Op prog w X R I k f a b d) (e : d = d') : Op prog w X R I k f a b d' := e ▸ h
end
section
variable {prog : Program} {w : World} {R : Heap → Heap → Prop} {G : Heap → Prop} {k : Room} {h₀ : Heap} {env : Env} {ρ ρ' : Rho}
theorem Ex.of_eq {ss : List Stmt} {d d' : D} (h : Ex prog w X R G k h₀ env ρ ss (.ret d)) (e : d = d') : Ex prog w X R G k h₀ env ρ ss (.ret d') := e ▸ h
theorem Lo.end_ {ds : List D} {target : Expr} {body : List Stmt} {n : Nat} (e : n = ds.length) : Lo prog w X R G k h₀ env ds target body [] (.next ρ) n ρ := by subst e; exact .done .nil
theorem isPlainIx_name {x : Str} {p : Pos} : plainIx (.Name x p) := fun _ _ => rfl
theorem isPlainIx_const {c : Const} {n : Nat} {p : Pos} : plainIx (.Constant c n p) := fun _ _ => rfl
theorem isPlainIx_bin {l r : Expr} {op : Operator} {p : Pos} : plainIx (.BinOp l op r p) := fun _ _ => rfl
theorem isPlainIx_sub {l r : Expr} {p : Pos} : plainIx (.Subscript l r p) := fun _ _ => rfl
theorem isPlainIx_un {l : Expr} {op : UnaryOp} {p : Pos} : plainIx (.UnaryOp op l p) := fun _ _ => rfl
end
theorem len_item (x : Str) (i : Int) : (Txt.item x i).length = 1 := by rfl
theorem len_app (x y : Str) : (x ++ y).length = x.length + y.length := Str.length_append x y
end
section
theorem ltLen {i : Int} {x : Str} (n : Nat) (hn : Nat.ble n x.length = true) (h : i < n) : i < x.length := by have := Nat.le_of_ble_eq_true hn; lia
theorem leLen {i : Int} {x : Str} (h : 0 ≤ i) : -(x.length : Int) ≤ i := by lia
theorem leSize {x : Str} (h : Nat.ble x.length 16777216 = true) : x.length ≤ sizeLine := Nat.le_of_ble_eq_true h
end
section
variable {X : Addr → Prop}
section
variable {prog : Program} {w : World} {R : Heap → Heap → Prop} {I : Heap → Prop} {k : Room} {env : Env}
theorem Op.powl (r : Rel R) {a n v : Int} (hn : 0 ≤ n) (hsz : (Builtin.Int.intBits a : Int) * n ≤ 2 ^ 27) (hv : a ^ n.toNat = v) : Op prog w X R I k (binaryOp .Pow) (.int a) (.int n) (.int v) := hv ▸ Op.pow r hn hsz
end
end
section
variable {X : Addr → Prop}
section
variable {prog : Program} {w : World} {R : Heap → Heap → Prop} {I : Heap → Prop} {k : Room} {env : Env}
theorem Ev.ifT (r : Rel R) (st : Stab R I) {t a b : Expr} {pos : Pos} {c : Bool} {da : D} (ht : Tr prog w R I k env t c) (hc : c = true) (ha : Ev prog w X R I k env a da) : Ev prog w X R I k env (.IfExp t a b pos) da := by
  subst hc; exact Ev.ifexp (db := .none) r st ht (fun _ => ha) (fun h => by cases h)
theorem Ev.ifF (r : Rel R) (st : Stab R I) {t a b : Expr} {pos : Pos} {c : Bool} {db : D} (ht : Tr prog w R I k env t c) (hc : c = false) (hb : Ev prog w X R I k env b db) : Ev prog w X R I k env (.IfExp t a b pos) db := by
  subst hc; exact Ev.ifexp (da := .none) r st ht (fun h => by cases h) (fun _ => hb)
end
end
section
variable {X : Addr → Prop}
section
variable (prog : Program) (w : World) (X : Addr → Prop) (R : Heap → Heap → Prop) (G : Heap → Prop) (k : Room) (h₀ : Heap) (env : Env)
-- a clause's tests
structure Ts (ρ : Rho) (ifs : List Expr) (b : Bool) : Prop where
  run : ∀ A (s : Shared) (Q : Bool → Shared → Prop) (E : Value → Shared → Prop), OkA k A → St X R G h₀ env ρ s.heap →
    (∀ h' t, R s.heap h' → Q b { s with heap := h', toks := t }) →
    wpAny (model prog w) A (forIn ifs true fun c r => if r = true then do let ok ← isTrue c env (eval c env); pure (ForInStep.yield ok) else pure (ForInStep.yield r)) Q E s
-- a comprehension's loop at a depth, from its i-th item on: names and what is gathered, before and behind
inductive Cl (elt : Expr) (gens : List Comprehension) : Nat → List D → Nat → Rho → List D → Rho → List D → Prop
  | done {dep : Nat} {ds : List D} {i : Nat} {ρ ρ' : Rho} {acc : List D} {g : Comprehension} : gens[dep]? = some g → i = ds.length → (∀ x d, ρ' x = some d → ρ x = some d) → Cl elt gens dep ds i ρ acc ρ' acc
  | skip {dep : Nat} {ds : List D} {i : Nat} {ρ ρ₁ ρ' : Rho} {acc acc' : List D} {d : D} {g : Comprehension} : gens[dep]? = some g → ds[i]? = some d → As prog w X R G h₀ env ρ g.target d ρ₁ →
      Ts prog w X R G k h₀ env ρ₁ g.ifs false → Cl elt gens dep ds (i + 1) ρ₁ acc ρ' acc' → Cl elt gens dep ds i ρ acc ρ' acc'
  | emit {dep : Nat} {ds : List D} {i : Nat} {ρ ρ₁ ρ' : Rho} {acc acc' : List D} {d e : D} {g : Comprehension} : gens[dep]? = some g → gens[dep + 1]? = none → ds[i]? = some d → As prog w X R G h₀ env ρ g.target d ρ₁ →
      Ts prog w X R G k h₀ env ρ₁ g.ifs true → Ev prog w X R (St X R G h₀ env ρ₁) k env elt e → Cl elt gens dep ds (i + 1) ρ₁ (acc ++ [e]) ρ' acc' → Cl elt gens dep ds i ρ acc ρ' acc'
  | inner {dep : Nat} {ds ds' : List D} {i : Nat} {ρ ρ₁ ρ₂ ρ' : Rho} {acc acc₂ acc' : List D} {d d' : D} {g g' : Comprehension} : gens[dep]? = some g → gens[dep + 1]? = some g' → ds[i]? = some d → As prog w X R G h₀ env ρ g.target d ρ₁ →
      Ts prog w X R G k h₀ env ρ₁ g.ifs true → Ev prog w X R (St X R G h₀ env ρ₁) k env g'.iter d' → Goes d' ds' → (∀ x, foldedSetIterable g'.iter env x = pure x) → Cl elt gens (dep + 1) ds' 0 ρ₁ acc ρ₂ acc₂ →
      Cl elt gens dep ds (i + 1) ρ₂ acc₂ ρ' acc' → Cl elt gens dep ds i ρ acc ρ' acc'
end
section
variable {prog : Program} {w : World} {R : Heap → Heap → Prop} {G : Heap → Prop} {k : Room} {h₀ : Heap} {env : Env} {ρ ρ' : Rho}
theorem Ts.nil (r : Rel R) : Ts prog w X R G k h₀ env ρ [] true := .mk fun A s Q E o S h => wpAny_tests_nil (h s.heap s.toks (r.refl _))
theorem Ts.one {c : Expr} {b : Bool} (h : Tr prog w R (St X R G h₀ env ρ) k env c b) : Ts prog w X R G k h₀ env ρ [c] b := .mk fun A s Q E o S q => wpAny_tests_one (h.run A s Q E o S q)
theorem Cl.len {elt : Expr} {gens : List Comprehension} {dep : Nat} {ds : List D} {i : Nat} {acc acc' : List D} (c : Cl prog w X R G k h₀ env elt gens dep ds i ρ acc ρ' acc') : acc.length ≤ acc'.length := by
  induction c with
  | done => exact Nat.le_refl _
  | skip _ _ _ _ _ ih => exact ih
  | emit _ _ _ _ _ _ _ ih => simp at ih; lia
  | inner _ _ _ _ _ _ _ _ _ _ ih1 ih2 => lia
-- all but an iterator and the list that is filled
noncomputable def Kc (it D : Addr) (h h' : Heap) : Prop := ∀ b o, b ≠ it → b ≠ D → h.get? b = some o → ((∃ xs n, o.data = .seq xs n) ∨ (o.cls ≠ .none ∧ ∃ vs, o.data = .fields vs)) → h'.get? b = some o
theorem St.append (r : Rel R) {h h' : Heap} {L : Addr} {vs : List Value} {n : Nat} (S : St X R G h₀ env ρ h) (hL : h₀.objs.size ≤ L) (nX : ¬ X L) (hl : IsL h L vs.toArray n) (hs : Heap.SameBut L h h') {vs' : List Value} {n' : Nat} (hl' : IsL h' L vs'.toArray n') :
    St X R G h₀ env ρ h' ∧ Ks X h h' := by
  have ks : Ks X h h' := fun b o p e _ => (hs.2 b (fun q => nX (q ▸ p))).trans e
  refine ⟨S.kept (r.above S.rel (fun b o lt e => (hs.2 b (Nat.ne_of_lt (Nat.lt_of_lt_of_le lt hL))).trans e) (hard_sameBut hs fun o e y => by rw [hl] at e; cases e; obtain ⟨_, vs, z⟩ := y; cases z)) (Kd.exact fun b o e y => (hs.2 b fun q => ?_).trans e) ks fun a na => ?_, ks⟩
  · subst q
    rw [hl] at e; cases e
    rcases y with ⟨_, _, y⟩ | ⟨_, y⟩ <;> cases y
  · by_cases q : a = L
    · subst q; exact ⟨_, hl', fun t => by cases t.1⟩
    · obtain ⟨o, e, nt⟩ := S.up a na; exact ⟨o, (hs.2 a q).trans e, nt⟩
theorem ItAt.keep {h h' : Heap} {it : Addr} {i : Nat} {l : List D} (ks : Ks X h h') (hk : ∀ o, h.get? it = some o → h'.get? it = some o) (x : ItAt X h it i l) : ItAt X h' it i l := by
  cases x with
  | list p a b c => obtain ⟨o, e, c, d⟩ := c; exact .list p (ks _ _ p a (.inl ⟨_, _, rfl⟩)) (b.ks ks) ⟨o, hk _ e, c, d⟩
  | tup p a b c => obtain ⟨o, e, c, d⟩ := c; exact .tup p (ks _ _ p a (.inl ⟨_, _, rfl⟩)) (b.ks ks) ⟨o, hk _ e, c, d⟩
  | rng a => exact .rng (hk _ a)
  | sta a => obtain ⟨o, e, c, d⟩ := a; exact .sta ⟨o, hk _ e, c, d⟩
theorem ItAt.self {A : Around} {E : Value → Shared → Prop} {s : Shared} {it : Addr} {i : Nat} {l : List D} (x : ItAt X s.heap it i l) {Q : Value → Shared → Prop} (h : Q (.ref it) s) : wpAny (model prog w) A (pyIter (.ref it)) Q E s := by
  cases x with
  | list p a b c => exact wpAny_pyIter_listiter c h
  | tup p a b c => exact wpAny_pyIter_tupleiter c h
  | rng a => exact wpAny_pyIter_rangeiter a h
  | sta a => exact wpAny_pyIter_striter_ascii a h
theorem start_code {A : Around} {s : Shared} {elt : Expr} {gens : List Comprehension} {scope : Scope} {pos : Pos} {dep : Nat} {it : Addr} {acc : Value} {g : Comprehension} {i : Nat} {l : List D} {RR : Result → Shared → Prop} (hg : gens[dep]? = some g) (ha : g.is_async = 0) (x : ItAt X s.heap it i l)
    (h : codeAny (model prog w) A (.compLoop (.ListComp elt gens scope pos) dep (.ref it) acc env) RR s) : codeAny (model prog w) A (.compStart (.ListComp elt gens scope pos) dep (.ref it) acc env) RR s := by
  refine codeAny_of_tree ?_
  show wpAny _ _ ((compStart (.ListComp elt gens scope pos) dep (.ref it) acc env).onRaise (fun x => do noteFrame x env; standAt theWindowsPlace)) _ _ s
  refine wpAny_notedAt ?_
  unfold compStart
  rw [show clausesOf (.ListComp elt gens scope pos) = gens from rfl]
  simp only [hg, Option.elim, ha]
  show wpAny _ _ (ask >>= _) _ _ s
  refine wpAny_bind (wpAny_askSetting (wpAny_ite ?_))
  split
  · first
      | exact wpAny_bind (wpAny_pure (wpAny_pure (And.intro rfl h)))
      | exact wpAny_pure (And.intro rfl h)
  · refine wpAny_bind (wpAny_rule ?_)
    refine wpAny_bind (wpAny_standAt ?_)
    refine wpAny_bind (x.self ?_)
    first
      | exact wpAny_bind (wpAny_pure (wpAny_pure (And.intro rfl h)))
      | exact wpAny_pure (And.intro rfl h)
theorem turn_wp {A : Around} {s : Shared} {E : Value → Shared → Prop} {elt : Expr} {gens : List Comprehension} {scope : Scope} {pos : Pos} {dep : Nat} {it acc : Value} {g : Comprehension} (hg : gens[dep]? = some g) (ha : g.is_async = 0) (ha' : ∀ g', gens[dep + 1]? = some g' → g'.is_async = 0) {Q : Fin → Shared → Prop}
    (h : ∀ (Qn : Option Value → Shared → Prop) (Qi : Bool → Shared → Prop), (∀ s, Q (.done .next) s → Qn none s) →
      (∀ v s₁, wpAny (model prog w) A (letOwnedTupleGo g.target it v) (fun _ s₂ => wpAny (model prog w) A (assign g.target env v) (fun _ s₃ => wpAny (model prog w) A (forIn g.ifs true fun c r => if r = true then do let ok ← isTrue c env (eval c env); pure (ForInStep.yield ok) else pure (ForInStep.yield r)) Qi E s₃) E s₂) E s₁ → Qn (some v) s₁) →
      (∀ s, Q (.again (.compLoop (.ListComp elt gens scope pos) dep it acc env)) s → Qi false s) →
      (gens[dep + 1]? = none → ∀ s, wpAny (model prog w) A (eval elt env) (fun v s₅ => wpAny (model prog w) A (call (.builtin "list.append") [acc, v]) (fun _ s₆ => Q (.again (.compLoop (.ListComp elt gens scope pos) dep it acc env)) s₆) E s₅) E s → Qi true s) →
      (∀ g', gens[dep + 1]? = some g' → ∀ s, wpAny (model prog w) A (eval g'.iter env) (fun x s₅ => wpAny (model prog w) A (foldedSetIterable g'.iter env x) (fun x s₆ => wpAny (model prog w) A (pyIter x) (fun it' s₇ =>
          wpAny (model prog w) A (runOwn (.compStart (.ListComp elt gens scope pos) (dep + 1) it' acc env) env) (fun _ s₈ => Q (.again (.compLoop (.ListComp elt gens scope pos) dep it acc env)) s₈) E s₇) E s₆) E s₅) E s → Qi true s) →
      wpAny (model prog w) A (pyNext it) Qn E s) :
    wpAny (model prog w) A (compTurn (.ListComp elt gens scope pos) dep it acc env) Q E s := by
  unfold compTurn
  simp only [hg, ha]
  refine wpAny_bind (wpAny_standAt (wpAny_bind (h _ _ (fun _ h₁ => wpAny_pure h₁) (fun v s₁ h₁ => wpAny_bind (wpAny_mono h₁ (fun _ s₂ h₂ => wpAny_bind (wpAny_mono h₂ (fun _ s₃ h₃ => wpAny_bind h₃) fun _ _ h' => h')) fun _ _ h' => h')) (fun _ h₄ => wpAny_pure h₄) (fun hn s₄ h₄ => ?_) fun g' hn s₄ h₄ => ?_)))
  · simp only [if_true, hn]
    exact wpAny_bind (wpAny_bind (wpAny_mono h₄ (fun v s₅ h₅ => wpAny_bind (wpAny_mono h₅ (fun _ s₆ h₆ => wpAny_pure (wpAny_pure h₆)) fun _ _ h' => h')) fun _ _ h' => h'))
  · simp only [if_true, hn, ha' g' hn]
    refine wpAny_bind (wpAny_mono h₄ (fun x s₅ h₅ => ?_) fun _ _ h' => h')
    refine wpAny_bind (wpAny_standAt ?_)
    refine wpAny_bind (wpAny_mono h₅ (fun x s₆ h₆ => ?_) fun _ _ h' => h')
    refine wpAny_bind (wpAny_holding (wpAny_mono h₆ (fun it' s₇ h₇ => ?_) fun _ _ h' => h'))
    refine wpAny_bind (wpAny_mono h₇ (fun _ s₈ h₈ => ?_) fun _ _ h' => h')
    exact wpAny_pure h₈
theorem turn_code {A : Around} {s : Shared} {elt : Expr} {gens : List Comprehension} {scope : Scope} {pos : Pos} {L it : Addr} {dep : Nat} {g : Comprehension} {RR : Result → Shared → Prop} (hg : gens[dep]? = some g) (has : ∀ g ∈ gens, g.is_async = 0)
    (h : ∀ (E : Value → Shared → Prop) (Qn : Option Value → Shared → Prop) (Qi : Bool → Shared → Prop), (∀ s, RR (.ok .next) s → Qn none s) →
      (∀ v s₁, wpAny (model prog w) A (letOwnedTupleGo g.target (.ref it) v) (fun _ s₂ => wpAny (model prog w) A (assign g.target env v) (fun _ s₃ => wpAny (model prog w) A (forIn g.ifs true fun c r => if r = true then do let ok ← isTrue c env (eval c env); pure (ForInStep.yield ok) else pure (ForInStep.yield r)) Qi E s₃) E s₂) E s₁ → Qn (some v) s₁) →
      (∀ s, codeAny (model prog w) A (.compLoop (.ListComp elt gens scope pos) dep (.ref it) (.ref L) env) RR s → Qi false s) →
      (gens[dep + 1]? = none → ∀ s, wpAny (model prog w) A (eval elt env) (fun v s₅ => wpAny (model prog w) A (call (.builtin "list.append") [.ref L, v]) (fun _ s₆ => codeAny (model prog w) A (.compLoop (.ListComp elt gens scope pos) dep (.ref it) (.ref L) env) RR s₆) E s₅) E s → Qi true s) →
      (∀ g', gens[dep + 1]? = some g' → ∀ s, wpAny (model prog w) A (eval g'.iter env) (fun x s₅ => wpAny (model prog w) A (foldedSetIterable g'.iter env x) (fun x s₆ => wpAny (model prog w) A (pyIter x) (fun it' s₇ =>
          wpAny (model prog w) A (runOwn (.compStart (.ListComp elt gens scope pos) (dep + 1) it' (.ref L) env) env) (fun _ s₈ => codeAny (model prog w) A (.compLoop (.ListComp elt gens scope pos) dep (.ref it) (.ref L) env) RR s₈) E s₇) E s₆) E s₅) E s → Qi true s) →
      wpAny (model prog w) A (pyNext (.ref it)) Qn E s) : codeAny (model prog w) A (.compLoop (.ListComp elt gens scope pos) dep (.ref it) (.ref L) env) RR s := by
  refine codeAny_of_tree ?_
  rw [Around.under_of_weight rfl rfl]
  show wpAny _ A ((compTurn (.ListComp elt gens scope pos) dep (.ref it) (.ref L) env).onRaise (fun x => do noteFrame x env; theTreesLotGoes x)) _ _ s
  refine wpAny_noted (turn_wp hg (has g (List.mem_of_getElem? hg)) (fun g' hg' => has g' (List.mem_of_getElem? hg')) fun Qn Qi hN hS hF hE hI => h _ Qn Qi hN hS (fun s n => hF s ⟨rfl, n⟩)
    (fun e s n => hE e s (wpAny_mono n (fun v s₅ h₅ => wpAny_mono h₅ (fun _ s₆ h₆ => ⟨rfl, h₆⟩) fun _ _ e => e) fun _ _ e => e))
    fun g' e s n => hI g' e s (wpAny_mono n (fun x s₅ h₅ => wpAny_mono h₅ (fun x s₆ h₆ => wpAny_mono h₆ (fun it' s₇ h₇ => wpAny_mono h₇ (fun _ s₈ h₈ => ⟨rfl, h₈⟩) fun _ _ e => e) fun _ _ e => e) fun _ _ e => e) fun _ _ e => e))
theorem Cl.code (r : Rel R) (hca : k.calm = true) {elt : Expr} {gens : List Comprehension} {scope : Scope} {pos : Pos} {dep : Nat} {ds : List D} {i : Nat} {acc acc' : List D} (c : Cl prog w X R G k h₀ env elt gens dep ds i ρ acc ρ' acc') {L : Addr} (hL : h₀.objs.size ≤ L) (nX : ¬ X L) (hsz : acc'.length ≤ sizeLine) (has : ∀ g ∈ gens, g.is_async = 0) :
    ∀ {A : Around} {s : Shared} {it : Addr} {vs : List Value} {n : Nat} {RR : Result → Shared → Prop}, OkA k A → h₀.objs.size ≤ it → X it → St X R G h₀ env ρ s.heap → ItAt X s.heap it i ds → IsL s.heap L vs.toArray n → RdL X s.heap acc vs →
      (∀ h' t vs' n', St X R G h₀ env ρ' h' → IsL h' L vs'.toArray n' → RdL X h' acc' vs' → Kc it L s.heap h' → RR (.ok .next) { s with heap := h', toks := t }) →
      codeAny (model prog w) A (.compLoop (.ListComp elt gens scope pos) dep (.ref it) (.ref L) env) RR s := by
  induction c with
  | @done dep ds i ρ ρ' acc g hg hi hw =>
    intro A s it vs n RR ok hit xit S x hl rl q
    refine turn_code hg has fun E Qn Qi hN hS hF hE hI => x.done (ok.handled hca) hi fun h' t b => hN _ (q h' t vs n ((b.st r x hit xit S).weak hw) ?_ ?_ ?_)
    · exact b _ _ (isL_other x hl) hl
    · exact rl.ks (b.ks x)
    · exact fun c o n1 n2 e _ => b c o n1 e
  | @skip dep ds i ρ ρ₁ ρ' acc acc' d g hg hd as ts c' ih =>
    intro A s it vs n RR ok hit xit S x hl rl q
    refine turn_code hg has fun E Qn Qi hN hS hF hE hI => x.next (ok.handled hca) hd fun v h1 t1 b1 x1 rv => hS v _ (letOwned x1 (as.run A _ _ _ v (ok.handled hca) (b1.st r x hit xit S) rv fun h2 t2 S2 k2 => ts.run A _ _ _ ok S2 fun h3 t3 k3 => ?_))
    have k13 : Ki h1 h3 := k2.trans (r.weak k3).ki
    refine hF _ (ih hsz ok hit xit (S2.step r k3) (x1.ki k13) (k13 _ _ (b1 _ _ (isL_other x hl) hl) (.inl ⟨_, _, rfl⟩)) ((rl.ks (b1.ks x)).ks k13.ks) fun h' t vs' n' S' l' r' kc => q h' t vs' n' S' l' r' ?_)
    exact fun c o n1 n2 e y => kc c o n1 n2 (k13 c o (b1 c o n1 e) y) y
  | @emit dep ds i ρ ρ₁ ρ' acc acc' d e g hg hn hd as ts ev c' ih =>
    intro A s it vs n RR ok hit xit S x hl rl q
    refine turn_code hg has fun E Qn Qi hN hS hF hE hI => x.next (ok.handled hca) hd fun v h1 t1 b1 x1 rv => hS v _ (letOwned x1 (as.run A _ _ _ v (ok.handled hca) (b1.st r x hit xit S) rv fun h2 t2 S2 k2 => ts.run A _ _ _ ok S2 fun h3 t3 k3 => ?_))
    refine hE hn _ (ev.run A _ _ _ ok (S2.step r k3) fun v4 h4 t4 k4 r4 => ?_)
    have k14 : Ki h1 h4 := (k2.trans (r.weak k3).ki).trans (r.weak k4).ki
    have l4 : IsL h4 L vs.toArray n := k14 _ _ (b1 _ _ (isL_other x hl) hl) (.inl ⟨_, _, rfl⟩)
    have rl4 := (rl.ks (b1.ks x)).ks k14.ks
    have len := c'.len
    simp at len
    refine wpAny_list_append_plain ⟨n, l4⟩ (fun h5 pl hs => ?_) (by simp [rl.length]; lia)
    obtain ⟨n5, l5⟩ := pl
    have l5' : IsL h5 L (vs ++ [v4]).toArray n5 := by simpa using l5
    obtain ⟨S5, ks5⟩ := ((S2.step r k3).step r k4).append r hL nX l4 hs l5'
    have itL : it ≠ L := fun z => nX (z ▸ xit)
    refine ih hsz ok hit xit S5 ((x1.ki k14).keep ks5 fun o e => (hs.2 _ itL).trans e) l5' ((rl4.ks ks5).append (.cons (r4.ks ks5) .nil)) fun h' t vs' n' S' l' r' kc => q h' t vs' n' S' l' r' ?_
    exact fun c o n1 n2 e y => kc c o n1 n2 ((hs.2 c n2).trans (k14 c o (b1 c o n1 e) y)) y
  | @inner dep ds ds' i ρ ρ₁ ρ₂ ρ' acc acc₂ acc' d d' g g' hg hn hd as ts ev go hf c1 c2 ih1 ih2 =>
    intro A s it vs n RR ok hit xit S x hl rl q
    refine turn_code hg has fun E Qn Qi hN hS hF hE hI => x.next (ok.handled hca) hd fun v h1 t1 b1 x1 rv => hS v _ (letOwned x1 (as.run A _ _ _ v (ok.handled hca) (b1.st r x hit xit S) rv fun h2 t2 S2 k2 => ts.run A _ _ _ ok S2 fun h3 t3 k3 => ?_))
    refine hI g' hn _ (ev.run A _ _ _ ok (S2.step r k3) fun v4 h4 t4 k4 r4 => wpAny_of_eq (hf v4) (go.start r4 fun jt h5 t5 hjt hjn kf x5 => ?_))
    have S4 := (S2.step r k3).step r k4
    have S5 := S4.step r (r.full kf)
    have k14 : Ki h1 h4 := (k2.trans (r.weak k3).ki).trans (r.weak k4).ki
    have k15 : Ki h1 h5 := k14.trans kf.kp.ki
    have l5 : IsL h5 L vs.toArray n := k15 _ _ (b1 _ _ (isL_other x hl) hl) (.inl ⟨_, _, rfl⟩)
    have rl5 := (rl.ks (b1.ks x)).ks k15.ks
    have itL : it ≠ L := fun z => nX (z ▸ xit)
    have itj : it ≠ jt := fun z => by
      obtain ⟨o, e, _⟩ := (x1.ki k14).obj
      rw [z, hjn] at e; cases e
    have len := c2.len
    refine wpAny_runOwn (start_code hn (has g' (List.mem_of_getElem? hn)) x5 (ih1 (by lia) (A := A.mark none) ok (Nat.le_trans (S4.size r) hjt) (S4.up.fresh hjn) S5 x5 l5 rl5 fun h6 t6 vs6 n6 S6 l6 r6 kc6 => ?_))
    have x6 : ItAt X h6 it (i + 1) ds := (x1.ki k15).keep (fun b o p e y => kc6 b o (fun z => by
      subst z
      obtain ⟨o', e', z', vs', d'⟩ := x5.obj
      rw [e'] at e; cases e
      rcases y with ⟨xs, n, e2⟩ | ⟨e2, _⟩
      · rw [d'] at e2; cases e2
      · rcases z' with z' | z' | z' | z' <;> (rw [z'] at e2; simp at e2)) (fun z => nX (z ▸ p)) e (by
        rcases y with y | ⟨c, y⟩
        · exact .inl y
        · exact .inr ⟨by rw [c]; simp, y⟩)) fun o e => by
      obtain ⟨o', e', z', vs', d'⟩ := (x1.ki k15).obj
      rw [e'] at e; cases e
      exact kc6 it _ itj itL e' (.inr ⟨by rcases z' with z' | z' | z' | z' <;> (rw [z']; simp), vs', d'⟩)
    refine ih2 hsz ok hit xit S6 x6 l6 r6 fun h' t vs' n' S' l' r' kc => q h' t vs' n' S' l' r' ?_
    intro c o n1 n2 e y
    have e1 := k14 c o (b1 c o n1 e) y
    exact kc c o n1 n2 (kc6 c o (fun z => by rw [z, hjn] at e1; cases e1) n2 (kf c o e1) y) y
end
end
section
variable {X : Addr → Prop}
theorem avoid_to {h : Heap} {L : Addr} (hn : h.get? L = Option.none) : ∀ a o, X a → h.get? a = some o → dataObj o → (X a ∧ a ≠ L) ∧ h.get? a = some o := fun a o p e _ => ⟨⟨p, fun q => by subst q; cases hn.symm.trans e⟩, e⟩
theorem Rd.avoid {h : Heap} {L : Addr} (hn : h.get? L = Option.none) {d : D} {v : Value} (r : Rd X h d v) : Rd (fun a => X a ∧ a ≠ L) h d v := r.to (avoid_to hn)
theorem RdL.avoid {h : Heap} {L : Addr} (hn : h.get? L = Option.none) {l : List D} {vs : List Value} (r : RdL X h l vs) : RdL (fun a => X a ∧ a ≠ L) h l vs := r.to (avoid_to hn)
theorem Rd.mono {X' : Addr → Prop} (hx : ∀ a, X a → X' a) {h : Heap} {d : D} {v : Value} (r : Rd X h d v) : Rd X' h d v := r.to fun a o p e _ => ⟨hx a p, e⟩
theorem RdL.mono {X' : Addr → Prop} (hx : ∀ a, X a → X' a) {h : Heap} {l : List D} {vs : List Value} (r : RdL X h l vs) : RdL X' h l vs := r.to fun a o p e _ => ⟨hx a p, e⟩
theorem ItAt.avoid {h : Heap} {L it : Addr} (hn : h.get? L = none) {i : Nat} {l : List D}  (x : ItAt X h it i l) : ItAt (fun a => X a ∧ a ≠ L) h it i l := by
  cases x with
  | list p a b c => exact .list ⟨p, fun q => by subst q; cases hn.symm.trans a⟩ a (b.avoid hn) c
  | tup p a b c => exact .tup ⟨p, fun q => by subst q; cases hn.symm.trans a⟩ a (b.avoid hn) c
  | rng a => exact .rng a
  | sta a => exact .sta a

noncomputable def Apart (l : List (Str × Addr)) : Prop := ∀ x y c, l.lookup x = some c → l.lookup y = some c → x = y
theorem cells_new : ∀ (names : List (Str × NameKind)) (h : Heap) (acc : List (Str × Addr)), (∀ x c, acc.lookup x = some c → c < h.objs.size) → Apart acc →
    (∀ x c, (cellsFrom h.objs.size names acc).lookup x = some c → acc.lookup x = some c ∨ (h.objs.size ≤ c ∧ (pushCells h names).IsCell c none ∧ (x, NameKind.cell) ∈ names)) ∧ Apart (cellsFrom h.objs.size names acc)
  | [], h, acc, _, ap => ⟨fun x c e => .inl e, ap⟩
  | (name, kd) :: rest, h, acc, lt, ap => by
    unfold cellsFrom pushCells
    split
    · rename_i q
      have sz : (h.push { cls := .type "cell", data := .cell none }).objs.size = h.objs.size + 1 := Heap.size_push ..
      have look : ∀ x c, ((name, h.objs.size) :: acc).lookup x = some c → (x = name ∧ c = h.objs.size) ∨ acc.lookup x = some c := fun x c e => by
        rw [List.lookup_cons] at e
        split at e
        · rename_i z; cases e; exact .inl ⟨by simpa using z, rfl⟩
        · exact .inr e
      have ih := cells_new rest (h.push { cls := .type "cell", data := .cell none }) ((name, h.objs.size) :: acc) (fun x c e => by
        rw [sz]
        rcases look x c e with ⟨_, q⟩ | e
        · rw [q]; exact Nat.lt_succ_self _
        · exact Nat.lt_succ_of_lt (lt x c e)) (fun x y c e1 e2 => by
        rcases look x c e1 with ⟨q1, q2⟩ | e1' <;> rcases look y c e2 with ⟨q3, q4⟩ | e2'
        · rw [q1, q3]
        · rw [q2] at e2'; exact absurd (lt y _ e2') (Nat.lt_irrefl _)
        · rw [q4] at e1'; exact absurd (lt x _ e1') (Nat.lt_irrefl _)
        · exact ap x y c e1' e2')
      rw [sz] at ih
      refine ⟨fun x c e => ?_, ih.2⟩
      rcases ih.1 x c e with e | ⟨l, ic, m⟩
      · rcases look x c e with ⟨rfl, rfl⟩ | e
        · exact .inr ⟨Nat.le_refl _, ⟨_, pushCells_keeps _ _ _ _ (Heap.get?_push_size _ rfl), rfl⟩, by rw [show kd = NameKind.cell from by simpa using q]; exact .head _⟩
        · exact .inl e
      · exact .inr ⟨by lia, ic, .tail _ m⟩
    · have ih := cells_new rest h acc lt ap
      refine ⟨fun x c e => ?_, ih.2⟩
      rcases ih.1 x c e with e | ⟨l, ic, m⟩
      · exact .inl e
      · exact .inr ⟨l, ic, .tail _ m⟩

-- the frame of a comprehension
noncomputable def compEnv (scope : Scope) (cl : List (Str × Addr)) (C : Addr) (env : Env) : Env :=
  { newEnv scope C env.globals (cellsFrom (C + 1) scope.names cl) env.qual none .none (some env) builtinsNs with scope := relabel scope env }
theorem newEnv_comp {M : Model} {A : Around} {E : Value → Shared → Prop} {s : Shared} {env : Env} {scope : Scope} {cl : List (Str × Addr)} {Q : Env → Shared → Prop}
    (hQ : Q (newEnv scope s.heap.objs.size env.globals (cellsFrom (s.heap.objs.size + 1) scope.names cl) env.qual none .none (some env) builtinsNs) { s with heap := pushCells (s.heap.push { cls := .type "dict", data := .dict #[] }) scope.names }) :
    wpAny M A (newFunctionEnv scope env.globals cl [] env.qual none .none (some env)) Q E s := by
  simp only [newFunctionEnv, Option.isSome_some, if_true]
  refine wpAny_bind (wpAny_alloc ?_)
  refine wpAny_bind (wpAny_layCells _ (fun name kind cells => by cases hkc : kind == NameKind.cell <;> simp [hkc]) _ _ _ _ ?_)
  rw [show ({ s with heap := s.heap.push { cls := .type "dict", data := .dict #[] } } : Shared).heap.objs.size = s.heap.objs.size + 1 from Heap.size_push ..]
  refine wpAny_bind ?_
  rw [List.forIn_nil]
  exact wpAny_pure (wpAny_pure hQ)
section
variable {prog : Program} {w : World} {R : Heap → Heap → Prop} {G : Heap → Prop} {k : Room} {h₀ : Heap} {env : Env} {ρ : Rho}
-- the names that a comprehension sees of its surroundings
noncomputable def rhoC (scope : Scope) (ρ : Rho) : Rho := fun x => if scope.names.lookup x = some .free then ρ x else none
-- what a comprehension needs of its scope
structure ScopeOk (scope : Scope) (cl : List (Str × Addr)) (env : Env) : Prop where
  clos : closureFor scope env = pure cl
  kind : scope.kind = .function
  names : ∀ x ∈ scope.names, x.2 = .local → scope.names.lookup x.1 = some .local
  ok : cellsOk scope.names = true
  cl : ∀ x c, cl.lookup x = some c → env.cells.lookup x = some c
theorem lookup_relabel {scope : Scope} {env : Env} {x : Str} (h : scope.names.lookup x = some .free) : (relabel scope env).names.lookup x = some .cell ∨ (relabel scope env).names.lookup x = some .free := by
  have : ∀ (l : List (Str × NameKind)), l.lookup x = some .free → (l.map fun (n, k) => if (k == .free && env.scope.kind == .function && env.kindOf n == some .cell) then (n, NameKind.cell) else (n, k)).lookup x = some .cell ∨
      (l.map fun (n, k) => if (k == .free && env.scope.kind == .function && env.kindOf n == some .cell) then (n, NameKind.cell) else (n, k)).lookup x = some .free := by
    intro l
    induction l with
    | nil => intro h; cases h
    | cons p l ih =>
      obtain ⟨n, kd⟩ := p
      intro h
      rw [List.lookup_cons] at h
      rw [List.map_cons]
      dsimp only
      split at h
      · rename_i q
        cases h
        split
        · left; rw [List.lookup_cons]; simp [show (x == n) = true from q]
        · right; rw [List.lookup_cons]; simp [show (x == n) = true from q]
      · rename_i q
        split <;> (rw [List.lookup_cons]; simp only [show (x == n) = false from by simpa using q]; exact ih h)
  exact this _ h
theorem comp_wp (r : Rel R) (hG : Static R G) (hca : k.calm = true) {A : Around} {s : Shared} {E : Value → Shared → Prop} {elt target iter : Expr} {ifs : List Expr} {gs : List Comprehension} {scope : Scope} {pos pos' : Pos} {cl : List (Str × Addr)} {d : D} {ds out : List D} {Q : Value → Shared → Prop} {use : Option (Value → Sem Unit)}
    (ok : OkA k A) (S : St X R G h₀ env ρ s.heap) (so : ScopeOk scope cl env) (hf : ∀ x, foldedSetIterable iter env x = pure x) (he : Ev prog w X R (St X R G h₀ env ρ) k env iter d) (go : Goes d ds) (hsz : out.length ≤ sizeLine) (has : ∀ g ∈ gs, g.is_async = 0)
    (hc : ∀ h₁ L C, G h₁ → (h₁.objs.size ≤ L ∧ h₁.objs.size ≤ C) → ∃ ρ', Cl prog w (fun a => X a ∧ a ≠ L) R G k h₁ (compEnv scope cl C env) elt (⟨target, iter, ifs, 0⟩ :: gs) 0 ds 0 (rhoC scope ρ) [] ρ' out)
    (hQ : ∀ h₁ C L h' t, R s.heap h₁ → (∃ m, h'.Ns C m) → h₁.objs.size ≤ C → (∀ h'', Heap.SameBut C h' h'' → R h₁ h'' ∧ Rd X h'' (.list out) (.ref L)) → compPost (model prog w) A E use Q (.ref L) C (.ok .next) { s with heap := h', toks := t }) :
    wpAny (model prog w) A (comprehension (.ListComp elt (⟨target, iter, ifs, 0⟩ :: gs) scope pos) scope env pos' (newList []) false (eval iter env) use) Q E s := by
  refine wpAny_comprehension_free (cl := cl) rfl hf so.clos so.kind so.names ?_
  refine he.run A s _ _ ok S fun xv h1 t1 k1 r1 => go.start r1 fun it h2 t2 hit hin kf2 x2 => wpAny_newList ?_ (by simp [sizeLine])
  have S1 := S.step r k1
  have kf3 := Kf.push h2 { cls := .type "list", data := .seq ([] : List Value).toArray }
  have hLn : h2.get? h2.objs.size = none := get_size h2
  have hL1 : h1.get? h2.objs.size = none := by
    cases q : h1.get? h2.objs.size with
    | none => rfl
    | some o => have := kf2 _ _ q; rw [hLn] at this; cases this
  refine newEnv_comp ?_
  let L := h2.objs.size
  let h3 := h2.push { cls := .type "list", data := .seq ([] : List Value).toArray }
  let H := pushCells (h3.push { cls := .type "dict", data := .dict #[] }) scope.names
  have kf4 : Kf h3 H := fun b o e => pushCells_keeps _ _ _ _ (Heap.get?_push_of_some _ e)
  have kf2H : Kf h2 H := kf3.trans kf4
  have kfH : Kf h1 H := kf2.trans kf2H
  have hx2 : h2.objs.size < h3.objs.size := by show _ < (h2.push _).objs.size; rw [Heap.size_push]; lia
  have lt12 : h1.objs.size ≤ h2.objs.size := by
    obtain ⟨o, e, _⟩ := x2.obj
    exact Nat.le_of_lt (Nat.lt_of_le_of_lt hit (Heap.lt_size e))
  have up2 : Up X h2 := S1.up.kp kf2.kp
  have xL : X L := up2.fresh hLn
  have lL : IsL H L ([] : List Value).toArray 0 := kf4 _ _ (Heap.get?_push_size _ rfl)
  have nsC : H.Ns h3.objs.size fun _ => none := (Heap.Ns.new h3 (.type "dict")).keeps (pushCells_keeps _ _)
  have sz4 : (h3.push { cls := .type "dict", data := .dict #[] }).objs.size = h3.objs.size + 1 := Heap.size_push ..
  have clt : ∀ x c, cl.lookup x = some c → c < (h3.push { cls := .type "dict", data := .dict #[] }).objs.size := fun x c e => by
    obtain ⟨v₀, ⟨o, e', _⟩, _⟩ := S1.cel x c (so.cl x c e)
    have := Heap.lt_size (kf2 _ _ e')
    rw [sz4]; exact Nat.lt_succ_of_lt (Nat.lt_trans this hx2)
  have cap : Apart cl := fun x y c e1 e2 => S1.apart x y c (so.cl x c e1) (so.cl y c e2)
  have cn := cells_new scope.names (h3.push { cls := .type "dict", data := .dict #[] }) cl clt cap
  rw [sz4] at cn
  have SI : St (fun a => X a ∧ a ≠ L) R G h1 (compEnv scope cl h3.objs.size env) (rhoC scope ρ) H := by
    refine ⟨r.full kfH, S1.gh r hG, ⟨_, nsC, fun x d e kx => ?_⟩, fun x c e => ?_, ?_, cn.2, fun a na => ?_⟩
    · exfalso
      unfold rhoC at e
      split at e
      · rename_i hfr
        have kx' : (relabel scope env).names.lookup x = some .local := kx
        rcases lookup_relabel (env := env) hfr with q | q <;> (rw [q] at kx'; cases kx')
      · cases e
    · rcases cn.1 x c e with e | ⟨_, ic, m⟩
      · obtain ⟨v₀, ic, b⟩ := S1.cel x c (so.cl x c e)
        refine ⟨v₀, ic.keeps kfH, fun d ed => ?_⟩
        unfold rhoC at ed
        split at ed
        · obtain ⟨v, e1, r1⟩ := b d ed
          exact ⟨v, e1, (r1.avoid hL1).ks kfH.ks⟩
        · cases ed
      · refine ⟨none, ic, fun d ed => ?_⟩
        exfalso
        unfold rhoC at ed
        split at ed
        · rename_i hfr
          rw [cellsOk_kind so.ok m] at hfr; cases hfr
        · cases ed
    · exact Nat.le_of_lt (Nat.lt_of_le_of_lt lt12 hx2)
    · by_cases q : X a
      · have : a = L := Classical.byContradiction fun z => na ⟨q, z⟩
        subst this
        exact ⟨_, lL, fun t => by cases t.1⟩
      · obtain ⟨o, e, nt⟩ := S1.up a q
        exact ⟨o, kfH _ _ e, nt⟩
  obtain ⟨ρ', cc⟩ := hc h1 L h3.objs.size (S1.gh r hG) ⟨lt12, Nat.le_of_lt (Nat.lt_of_le_of_lt lt12 hx2)⟩
  have xI : ItAt (fun a => X a ∧ a ≠ L) H it 0 ds := (x2.avoid hLn).ki kf2H.kp.ki
  have itL : it ≠ L := fun z => by
    obtain ⟨o, e, _⟩ := x2.obj
    rw [z, hLn] at e; cases e
  refine start_code (g := ⟨target, iter, ifs, 0⟩) rfl rfl xI (cc.code r hca (L := L) lt12 (fun h => h.2 rfl) hsz (fun g hg => (List.mem_cons.mp hg).elim (fun e => by rw [e]) (has g)) ok hit ⟨S1.up.fresh hin, itL⟩ SI xI lL .nil fun h' t vs' n' S' l' r' kc => ?_)
  obtain ⟨m', ns0, _⟩ := S'.loc
  have ns' : h'.Ns h3.objs.size m' := ns0
  have neC : L ≠ h3.objs.size := Nat.ne_of_lt hx2
  refine hQ h1 h3.objs.size L h' t k1 ⟨m', ns'⟩ (Nat.le_of_lt (Nat.lt_of_le_of_lt lt12 hx2)) fun h'' hs => ⟨r.above S'.rel (fun b o lt e => (hs.2 b (Nat.ne_of_lt (Nat.lt_of_lt_of_le lt (Nat.le_of_lt (Nat.lt_of_le_of_lt lt12 hx2))))).trans e) (hard_sameBut hs fun o e => dict_soft (by obtain ⟨o', es, ep, e', d', _⟩ := ns'; rw [e'] at e; cases e; exact .inl ⟨_, _, d'⟩)), ?_⟩
  have ki := ki_sameBut hs (fun o e => by obtain ⟨o', es, ep, e', d', _⟩ := ns'; rw [e'] at e; cases e; exact .inl ⟨_, _, d'⟩)
  exact .list xL ((hs.2 _ neC).trans l') ((r'.ks ki.ks).mono fun a ha => ha.1)
theorem Ev.comp (r : Rel R) (hG : Static R G) (hca : k.calm = true := by rfl) {elt target iter : Expr} {ifs : List Expr} {gs : List Comprehension} {scope : Scope} {pos : Pos} {cl : List (Str × Addr)} {d : D} {ds out : List D}
    (so : ScopeOk scope cl env) (hf : ∀ x, foldedSetIterable iter env x = pure x) (he : Ev prog w X R (St X R G h₀ env ρ) k env iter d) (go : Goes d ds) (hsz : out.length ≤ sizeLine) (has : ∀ g ∈ gs, g.is_async = 0)
    (hc : ∀ h₁ L C, G h₁ → (h₁.objs.size ≤ L ∧ h₁.objs.size ≤ C) → ∃ ρ', Cl prog w (fun a => X a ∧ a ≠ L) R G k h₁ (compEnv scope cl C env) elt (⟨target, iter, ifs, 0⟩ :: gs) 0 ds 0 (rhoC scope ρ) [] ρ' out) :
    Ev prog w X R (St X R G h₀ env ρ) k env (.ListComp elt (⟨target, iter, ifs, 0⟩ :: gs) scope pos) (.list out) := .mk fun A s Q E ok S q => by
  rw [eval_ListComp]
  refine comp_wp r hG hca (use := none) ok S so hf he go hsz has hc fun h₁ C L h' t k1 ns hC hr => ?_
  obtain ⟨m, ns⟩ := ns
  exact ⟨m, ns, fun h'' hs => q _ h'' t (r.trans k1 (hr h'' hs).1) (hr h'' hs).2⟩
theorem St.dictGo (r : Rel R) {h h' : Heap} {C : Addr} {m : Str → Option Value} (S : St X R G h₀ env ρ h) (ns : h.Ns C m) (hC : h₀.objs.size ≤ C) (ne : C ≠ env.locals) (xC : X C) (hs : Heap.SameBut C h h') : St X R G h₀ env ρ h' ∧ Ki h h' := by
  have ki := ki_sameBut hs (fun o e => by obtain ⟨o', es, ep, e', d', _⟩ := ns; rw [e'] at e; cases e; exact .inl ⟨_, _, d'⟩)
  refine ⟨⟨r.above S.rel (fun b o lt e => (hs.2 b (Nat.ne_of_lt (Nat.lt_of_lt_of_le lt hC))).trans e) (hard_sameBut hs fun o e => dict_soft (by obtain ⟨o', es, ep, e', d', _⟩ := ns; rw [e'] at e; cases e; exact .inl ⟨_, _, d'⟩)), S.g, ?_, fun x c e => ?_, S.lab, S.apart, fun a na => ?_⟩, ki⟩
  · obtain ⟨m', a, b⟩ := S.loc
    exact ⟨m', a.sameBut hs (Ne.symm ne), fun x d e kx => let ⟨v, e1, r1⟩ := b x d e kx; ⟨v, e1, r1.ks ki.ks⟩⟩
  · obtain ⟨v₀, ic, b⟩ := S.cel x c e
    have nc : c ≠ C := fun q => by
      subst q
      obtain ⟨o, e1, d1⟩ := ic
      obtain ⟨o', es, ep, e', d', _⟩ := ns
      rw [e'] at e1; cases e1; rw [d'] at d1; cases d1
    exact ⟨v₀, ic.sameBut hs nc, fun d e => let ⟨v, e1, r1⟩ := b d e; ⟨v, e1, r1.ks ki.ks⟩⟩
  · obtain ⟨o, e, nt⟩ := S.up a na
    exact ⟨o, (hs.2 a (fun q => na (q ▸ xC))).trans e, nt⟩
theorem get_above {h : Heap} {a : Addr} (l : h.objs.size ≤ a) : h.get? a = none := by
  cases q : h.get? a with
  | none => rfl
  | some o => exact absurd (Heap.lt_size q) (Nat.not_lt.mpr l)
-- a comprehension bound to a local name on its own line
theorem Ex1.assignC (r : Rel R) (hG : Static R G) (hca : k.calm = true := by rfl) {x : Str} {p pos cpos : Pos} {elt target iter : Expr} {ifs : List Expr} {gs : List Comprehension} {scope : Scope} {cl : List (Str × Addr)} {d : D} {ds out : List D}
    (hw : swapsWith (.ListComp elt (⟨target, iter, ifs, 0⟩ :: gs) scope cpos) (some (.Name x p)) pos.line env = pure true)
    (hx : env.kindOf x = some .local) (hxc : env.cells.lookup x = none) (hp : (env.scope.kind == .class || (env.scope.kind == .module && env.locals != env.globals)) = false)
    (so : ScopeOk scope cl env) (hf : ∀ x, foldedSetIterable iter env x = pure x) (he : Ev prog w X R (St X R G h₀ env ρ) k env iter d) (go : Goes d ds) (hsz : out.length ≤ sizeLine) (has : ∀ g ∈ gs, g.is_async = 0)
    (hc : ∀ h₁ L C, G h₁ → (h₁.objs.size ≤ L ∧ h₁.objs.size ≤ C) → ∃ ρ', Cl prog w (fun a => X a ∧ a ≠ L) R G k h₁ (compEnv scope cl C env) elt (⟨target, iter, ifs, 0⟩ :: gs) 0 ds 0 (rhoC scope ρ) [] ρ' out) :
    Ex1 prog w X R G k h₀ env ρ (.Assign [.Name x p] (.ListComp elt (⟨target, iter, ifs, 0⟩ :: gs) scope cpos) pos) (.next (upd ρ x (.list out))) := .mk fun A s Q E ok S q => by
  rw [exec_Assign_Name_used _ _ _ _ hw]
  refine wpAny_bind (wpAny_standAt (wpAny_bind ?_))
  show wpAny _ A (do let _ ← comprehension (.ListComp elt (⟨target, iter, ifs, 0⟩ :: gs) scope cpos) scope env _ (newList []) false (eval iter env) (some (PySem.assign (.Name x p) env))) _ _ s
  refine wpAny_bind (wpAny_mono (Q := fun _ s' => Q .next s') (E := E) ?_ (fun _ s' hq => wpAny_pure (wpAny_pure hq)) fun _ _ e => e)
  refine comp_wp r hG hca (use := some (PySem.assign (.Name x p) env)) ok S so hf he go hsz has hc fun h₁ C L h' t k1 ns hC hr => ?_
  obtain ⟨m, ns⟩ := ns
  have h0 := hr h' (Heap.SameBut.refl ..)
  have S1 := S.step r k1
  have S' := S1.step r h0.1
  have neC : C ≠ env.locals := fun q => by
    obtain ⟨m1, ⟨o, _, _, e, _⟩, _⟩ := S1.loc
    exact absurd (Heap.lt_size e) (Nat.not_lt.mpr (q ▸ hC))
  show wpAny _ A (PySem.assign (.Name x p) env (.ref L)) _ _ _
  obtain ⟨ml, nsl, _⟩ := S'.loc
  refine wpAny_assign_Name (wpAny_storeName_local hx nsl (fun h2 hn2 hs2 => ?_) hp)
  obtain ⟨S2, k2⟩ := S'.storeL r nsl hx hxc hn2 hs2 h0.2
  refine ⟨m, ns.sameBut hs2 neC, fun h3 hs3 => ?_⟩
  obtain ⟨S3, k3⟩ := S2.dictGo r (ns.sameBut hs2 neC) (Nat.le_trans (S1.size r) hC) neC (S1.up.fresh (get_above hC)) hs3
  exact q h3 _ S3 ((((r.weak k1).ki.trans (r.weak h0.1).ki).trans k2).trans k3)
end
end
section
variable {X : Addr → Prop}
mutual
noncomputable def D.py : D → PyData
  | .none => .none
  | .bool b => .bool b
  | .int i => .int i
  | .str x => .str x
  | .list l => .list (D.pys l)
  | .tup l => .tuple (D.pys l)
  | .rng _ => .none
  | .val _ => .none
noncomputable def D.pys : List D → List PyData
  | [] => []
  | d :: l => d.py :: D.pys l
end
mutual
noncomputable def D.pure : D → Bool
  | .list l => D.pures l
  | .tup l => D.pures l
  | .rng _ => false
  | .val _ => false
  | _ => true
noncomputable def D.pures : List D → Bool
  | [] => true
  | d :: l => d.pure && D.pures l
end
mutual
theorem Rd.reads {h : Heap} : ∀ {d : D} {v : Value}, Rd X h d v → d.pure = true → ∃ as, Reads h v d.py as
  | _, _, r, e => by
    cases r with
    | none => exact ⟨_, .none⟩
    | bool b => exact ⟨_, .bool b⟩
    | int i t => exact ⟨_, .int i t⟩
    | str x t => exact ⟨_, .str x t⟩
    | list p x l => obtain ⟨as, r⟩ := l.reads e; exact ⟨_, .list x rfl rfl r⟩
    | tup p x l => obtain ⟨as, r⟩ := l.reads e; exact ⟨_, .tuple x rfl rfl r⟩
    | rng p x => cases e
    | val => cases e
theorem RdL.reads {h : Heap} : ∀ {l : List D} {vs : List Value}, RdL X h l vs → D.pures l = true → ∃ as, ReadsAll h vs (D.pys l) as
  | _, _, r, e => by
    cases r with
    | nil => exact ⟨_, .nil⟩
    | cons x l =>
      have e := Bool.and_eq_true_iff.mp e
      obtain ⟨as, r⟩ := x.reads e.1
      obtain ⟨bs, r'⟩ := l.reads e.2
      exact ⟨_, .cons r r'⟩
end
section
variable {prog : Program} {w : World} {R : Heap → Heap → Prop} {I : Heap → Prop} {k : Room} {env : Env}
theorem OkA.room {A : Around} (o : OkA k A) : A.units + 64 < cLine := by have := o.units; show A.units + 64 < 9900; lia
theorem Op.eqD (r : Rel R) {a b : D} (ha : a.pure = true) (hb : b.pure = true) (sa : SeqAt.shaped a.py = true) (sb : SeqAt.shaped b.py = true) : Op prog w X R I k (compareOp .Eq) a b (.bool (PyData.eqv a.py b.py)) :=
  .mk fun A s Q E va vb o i ra rb h => let ⟨_, r1⟩ := ra.reads ha; let ⟨_, r2⟩ := rb.reads hb; SeqAt.compareEq_shaped r1 r2 sa sb o.room (h _ s.heap s.toks (r.refl _) (.bool _))
theorem Op.neD (r : Rel R) {a b : D} (ha : a.pure = true) (hb : b.pure = true) (sa : SeqAt.shaped a.py = true) (sb : SeqAt.shaped b.py = true) : Op prog w X R I k (compareOp .NotEq) a b (.bool (!PyData.eqv a.py b.py)) :=
  .mk fun A s Q E va vb o i ra rb h => let ⟨_, r1⟩ := ra.reads ha; let ⟨_, r2⟩ := rb.reads hb; SeqAt.compareNe_shaped r1 r2 sa sb o.room (h _ s.heap s.toks (r.refl _) (.bool _))

-- a part of a slice
structure Pt (prog : Program) (w : World) (X : Addr → Prop) (R : Heap → Heap → Prop) (I : Heap → Prop) (k : Room) (env : Env) (x : Option Expr) (o : Option Int) : Prop where
  run : ∀ A (s : Shared) (Q : Value → Shared → Prop) (E : Value → Shared → Prop), OkA k A → I s.heap → (∀ v h' t, R s.heap h' → IsPart v o → Q v { s with heap := h', toks := t }) → wpAny (model prog w) A (evalPart x env) Q E s
theorem Pt.none (r : Rel R) : Pt prog w X R I k env none none := .mk fun A s Q E o i h => by rw [evalPart_none]; exact wpAny_pure (h _ s.heap s.toks (r.refl _) .none)
theorem Pt.some {e : Expr} {i : Int} (he : Ev prog w X R I k env e (.int i)) : Pt prog w X R I k env (some e) (some i) := .mk fun A s Q E o i h => by
  rw [evalPart_some]; exact he.run A s Q E o i fun v h' t k rv => by (first | obtain ⟨_, rfl⟩ := rv.int_inv | obtain ⟨_, rfl⟩ := rv.str_inv | obtain rfl := rv.val_inv | obtain rfl := rv.bool_inv | cases rv); exact h _ h' t k (.int _ _)
noncomputable def pickD (l : List D) (lo hi st : Option Int) : List D :=
  (sliceRange (sliceBounds lo hi st l.length).1 (sliceBounds lo hi st l.length).2.1 (sliceBounds lo hi st l.length).2.2).filterMap (l[·]?)
theorem RdL.pick {h : Heap} {l : List D} {vs : List Value} (x : RdL X h l vs) (idx : List Nat) : RdL X h (idx.filterMap (l[·]?)) (idx.filterMap (vs[·]?)) := by
  induction idx with
  | nil => exact .nil
  | cons i idx ih =>
    cases e : l[i]? with
    | none =>
      have : vs[i]? = Option.none := by
        rw [List.getElem?_eq_none_iff] at e ⊢
        rw [x.length]; exact e
      simpa [e, this] using ih
    | some d =>
      obtain ⟨v, ev, rv⟩ := x.get e
      simpa [e, ev] using RdL.cons rv ih
theorem Ev.sliceL (r : Rel R) (st : Stab R I) (hu : ∀ h, I h → Up X h) {value : Expr} {lower upper step : Option Expr} {p pos : Pos} {l : List D} {lo hi sp : Option Int} (hv : Ev prog w X R I k env value (.list l)) (h1 : Pt prog w X R I k env lower lo) (h2 : Pt prog w X R I k env upper hi) (h3 : Pt prog w X R I k env step sp)
    (h0 : sp ≠ some 0) (hsz : l.length ≤ sizeLine) : Ev prog w X R I k env (.Subscript value (.Slice lower upper step p) pos) (.list (pickD l lo hi sp)) :=
  .mk fun A s Q E o i h => Subscript_ (hv.run A s _ _ o i fun va ha ta ka ra => wpAny_Slice (h1.run A _ _ _ o (st _ _ ka i) fun v1 hb tb kb r1 => h2.run A _ _ _ o (st _ _ kb (st _ _ ka i)) fun v2 hc tc kc r2 =>
    h3.run A _ _ _ o (st _ _ kc (st _ _ kb (st _ _ ka i))) fun v3 hd td kd r3 => by
    obtain ⟨a, vs, n, rfl, hl, rl, xa⟩ := ((ra.by r (r.trans kb kc)).by r kd).list_inv
    have kf1 := Kf.push hd { cls := .type "slice", data := .fields #[v1, v2, v3] }
    have hl1 := kf1 _ _ hl
    refine tail_any (ops := match step with | Option.none => [.ref hd.objs.size, .ref a] | Option.some _ => [.ref a, .ref hd.objs.size]) ⟨_, hl1, rfl⟩ slot_list_getitem.lookup
      (wpAny_getItem_list_slice (IsL.isList hl1) (.new ..) r1 r2 r3 h0 ?_ (by simp [rl.length]; exact hsz)) (by cases step <;> rfl)
    let h2 := hd.push { cls := .type "slice", data := .fields #[v1, v2, v3] }
    have kf2 := Kf.push h2 { cls := .type "list", data := .seq (slicePick vs.toArray lo hi sp) }
    have up := hu _ (st _ _ (r.full kf1) (st _ _ kd (st _ _ kc (st _ _ kb (st _ _ ka i)))))
    refine h _ _ td (r.trans (r.trans (r.trans (r.trans ka kb) kc) kd) (r.full (kf1.trans kf2))) ?_
    have rp := (rl.pick (sliceRange (sliceBounds lo hi sp l.length).1 (sliceBounds lo hi sp l.length).2.1 (sliceBounds lo hi sp l.length).2.2)).ks (kf1.trans kf2).ks
    refine .list (vs := (sliceRange (sliceBounds lo hi sp l.length).1 (sliceBounds lo hi sp l.length).2.1 (sliceBounds lo hi sp l.length).2.2).filterMap (vs[·]?)) (n := 0) up.new ?_ rp
    have e : slicePick vs.toArray lo hi sp = ((sliceRange (sliceBounds lo hi sp l.length).1 (sliceBounds lo hi sp l.length).2.1 (sliceBounds lo hi sp l.length).2.2).filterMap (vs[·]?)).toArray := by
      simp [slicePick, rl.length]
    rw [← e]
    exact Heap.get?_push_size _ rfl))
end
end
section
variable {X : Addr → Prop}
section
variable {prog : Program} {w : World} {R : Heap → Heap → Prop} {I : Heap → Prop} {k : Room} {env : Env}
theorem RdL.one {h : Heap} {a : D} {vs : List Value} (x : RdL X h [a] vs) : ∃ v, vs = [v] ∧ Rd X h a v := by
  obtain ⟨v, us, rfl, p, q⟩ := x.cons_inv; obtain rfl := q.nil_inv; exact ⟨_, rfl, p⟩
theorem RdL.two {h : Heap} {a b : D} {vs : List Value} (x : RdL X h [a, b] vs) : ∃ v u, vs = [v, u] ∧ Rd X h a v ∧ Rd X h b u := by
  obtain ⟨v, us, rfl, p, q⟩ := x.cons_inv; obtain ⟨u, rfl, r⟩ := q.one; exact ⟨_, _, rfl, p, r⟩
theorem RdL.three {h : Heap} {a b c : D} {vs : List Value} (x : RdL X h [a, b, c] vs) : ∃ v u z, vs = [v, u, z] ∧ Rd X h a v ∧ Rd X h b u ∧ Rd X h c z := by
  obtain ⟨v, us, rfl, p, q⟩ := x.cons_inv; obtain ⟨u, z, rfl, r, s⟩ := q.two; exact ⟨_, _, _, rfl, p, r, s⟩
theorem Ca.range (r : Rel R) (hu : ∀ h, I h → Up X h) {n : Nat} : Ca prog w X R I k (.type "range") [.int n] (.rng n) := .mk fun A s Q E vals o i rs h => by
  obtain ⟨v, rfl, rv⟩ := rs.one
  obtain ⟨t, rfl⟩ := rv.int_inv
  have kf := Kf.push s.heap { cls := .type "range", data := .fields #[.int 0 s.toks, .int n t, .int 1 (s.toks + 1)] }
  exact call_range_1 (h _ _ _ (r.full kf) (.rng (hu _ i).new (IsRange.new ..)))
theorem Ca.lenS (r : Rel R) {x : Str} (hx : x.length ≤ sizeLine) : Ca prog w X R I k (.builtin "len") [.str x] (.int x.length) := .mk fun A s Q E vals o i rs h => by
  obtain ⟨v, rfl, rv⟩ := rs.one
  first | obtain ⟨_, rfl⟩ := rv.int_inv | obtain ⟨_, rfl⟩ := rv.str_inv | obtain rfl := rv.val_inv | obtain rfl := rv.bool_inv | cases rv
  exact P.len_str (by have : x.length ≤ 2 ^ 24 := hx; lia) (h _ s.heap _ (r.refl _) (.int _ _))
theorem Ca.lenL (r : Rel R) {l : List D} (hx : l.length ≤ sizeLine) : Ca prog w X R I k (.builtin "len") [.list l] (.int l.length) := .mk fun A s Q E vals o i rs h => by
  obtain ⟨v, rfl, rv⟩ := rs.one
  obtain ⟨a, vs, n, rfl, hl, rl, _⟩ := rv.list_inv
  have hx' : l.length ≤ 2 ^ 24 := hx
  refine call_len_list hl.isList (by simp [rl.length]; lia) ?_
  have := h (.int l.length (s.toks + 1)) s.heap (s.toks + 1 + 1) (r.refl _) (.int _ _)
  simpa [rl.length] using this
theorem Op.notInT (r : Rel R) {a : D} {l : List D} (ha : a.pure = true) (hb : D.pures l = true) (sa : a.py.canLay0 = true) (sb : PyData.canLayAll0 (D.pys l) = true) (hd : a.py.depth ≤ 60) : Op prog w X R I k (compareOp .NotIn) a (.tup l) (.bool (!(D.pys l).any fun y => PyData.eqv y a.py)) :=
  .mk fun A s Q E va vb o i ra rb h => let ⟨_, r1⟩ := ra.reads ha; let ⟨_, r2⟩ := rb.reads (by simpa [D.pure] using hb)
    SeqAt.notIn_tuple_reads (by simpa [D.py] using r2) r1 sb sa (by have := o.room; have h2 : min (PyData.depthAll (D.pys l)) a.py.depth ≤ a.py.depth := Nat.min_le_right _ _; lia) (h _ s.heap s.toks (r.refl _) (.bool _))
theorem Op.notInL (r : Rel R) {a : D} {l : List D} (ha : a.pure = true) (hb : D.pures l = true) (sa : a.py.canLay0 = true) (sb : PyData.canLayAll0 (D.pys l) = true) (hd : a.py.depth ≤ 60) : Op prog w X R I k (compareOp .NotIn) a (.list l) (.bool (!(D.pys l).any fun y => PyData.eqv y a.py)) :=
  .mk fun A s Q E va vb o i ra rb h => let ⟨_, r1⟩ := ra.reads ha; let ⟨_, r2⟩ := rb.reads (by simpa [D.pure] using hb)
    SeqAt.notIn_list_reads (by simpa [D.py] using r2) r1 sb sa (by have := o.room; have h2 : min (PyData.depthAll (D.pys l)) a.py.depth ≤ a.py.depth := Nat.min_le_right _ _; lia) (h _ s.heap s.toks (r.refl _) (.bool _))
theorem kept_kf {h : Heap} : KeptH (Kf h) := fun h' ob k b o e => Heap.get?_push_of_some _ (k b o e)
theorem strs_rd {h : Heap} : ∀ (l : List (Str × Tok)), RdL X h ((l.map (·.1)).map D.str) (strValues l)
  | [] => .nil
  | (x, t) :: l => .cons (.str x t) (strs_rd l)
theorem Ca.int (r : Rel R) {x : Str} {n : Int} (hn : PySem.intText? x = some n) (hl : x.length ≤ 640) : Ca prog w X R I k (.type "int") [.str x] (.int n) := .mk fun A s Q E vals o i rs h => by
  obtain ⟨v, rfl, rv⟩ := rs.one
  first | obtain ⟨_, rfl⟩ := rv.int_inv | obtain ⟨_, rfl⟩ := rv.str_inv | obtain rfl := rv.val_inv | obtain rfl := rv.bool_inv | cases rv
  exact PySem.W.KIN.call_text hn hl (h _ s.heap _ (r.refl _) (.int _ _))
theorem preSum_take (ns : List Int) : ∀ n, preSum (fun i => ns.getD i 0) n = (ns.take n).sum
  | 0 => by simp [preSum]
  | n + 1 => by
    rw [preSum, preSum_take ns n, List.take_succ, List.sum_append]
    by_cases h : n < ns.length
    · simp [List.getD, h]
    · simp [List.getD, List.getElem?_eq_none (Nat.le_of_not_lt h)]
theorem Ca.sum (r : Rel R) (hc : k.calm = true := by rfl) {ns : List Int} : Ca prog w X R I k (.builtin "sum") [.list (ns.map D.int)] (.int ns.sum) := .mk fun A s Q E vals o i rs h => by
  obtain ⟨v, rfl, rv⟩ := rs.one
  obtain ⟨a, vs, n, rfl, hl, rl, _⟩ := rv.list_inv
  refine call_sum_walkAnyS (wpAny_pyIter_list hl.isList ?_)
  have hlt : a < s.heap.objs.size := Heap.lt_size hl
  have kf := Kf.push s.heap { cls := .type "list_iterator", data := .fields #[.ref a, .int 0 0] }
  have W := Walks.list (prog := prog) (w := w) (A := A.in1) (o.handled hc) s.heap.objs.size a (Nat.ne_of_lt hlt) vs.toArray
  refine ⟨s.heap.objs.size, _, _, _, _, _, _, fun i => ns.getD i 0, rfl, W.toS, ⟨⟨_, Heap.get?_push_size _ rfl, rfl, rfl⟩, ⟨_, kf _ _ hl, rfl, _, rfl⟩⟩, ?_, ?_, ?_⟩
  · intro b hb
    simp at hb
    rcases hb with rfl | rfl
    · show _ < (s.heap.push _).objs.size; rw [Heap.size_push]; exact Nat.lt_succ_self _
    · show _ < (s.heap.push _).objs.size; rw [Heap.size_push]; exact Nat.lt_succ_of_lt hlt
  · intro i v e
    have e' : vs[i]? = some v := by simpa using e
    have hi : i < (ns.map D.int).length := by rw [← rl.length]; exact (List.getElem?_eq_some_iff.mp e').1
    have hi' : i < ns.length := by simpa using hi
    obtain ⟨v', e1, rv'⟩ := rl.get (i := i) (d := D.int (ns[i])) (by simp [hi'])
    rw [e'] at e1; cases e1
    cases rv' with | int _ t => exact ⟨t, by simp [List.getD, hi']⟩
  · rintro ⟨h', g', d', t', o'⟩ tk m
    obtain ⟨mh, mg, md, mo, _⟩ := m
    simp only at mg md mo mh
    subst mg md mo
    have e : preSum (fun i => ns.getD i 0) vs.toArray.size = ns.sum := by
      rw [preSum_take]; simp [rl.length]
    rw [e]
    refine h _ h' t' (r.full fun b o' e' => mh b o' ?_ (kf b o' e')) (.int _ _)
    simp
    exact Nat.ne_of_lt (Heap.lt_size e')
end
end
section
variable {X : Addr → Prop}
section
variable {prog : Program} {w : World} {R : Heap → Heap → Prop} {I : Heap → Prop} {k : Room} {env : Env}
open Builtin Builtin.Str in
theorem split_wp {A : Around} {E : Value → Shared → Prop} {s : Shared} {x y : Str} {t u : Tok} {Q : Value → Shared → Prop} (hy : (y.length == 0) = false)
    (hq : ∀ l h' tk, l.map (·.1) = Txt.split x y → Kf s.heap h' → IsL h' s.heap.objs.size (strValues l).toArray 0 → Q (.ref s.heap.objs.size) { s with heap := h', toks := tk })
    (hsz : x.length ≤ sizeLine) (hsz2 : (partsBetween x (occurrences x y 0 x.length (x.length + 1)) y.length).length ≤ sizeLine) :
    wpAny (model prog w) A (call (.builtin "str.split") [.str x t, .str y u]) Q E s := by
  cases h1 : (decide (x.length < y.length) || decide (strKind x < strKind y))
  · cases hf : (occurrences x y 0 x.length (x.length + 1)).isEmpty
    · refine call_meets F.slot_str_split (typeIs_str _ _ _) F.entry_str_split (F.args_str_split_2 _ _) (meets_str_split_sep x y t u h1 hy hf hsz hsz2) ?_
      show wants Q E _ { s with toks := _, heap := s.heap.push { cls := .type "list", data := .seq (strsFrom s.toks (partsBetween x (occurrences x y 0 x.length (x.length + 1)) y.length)).toArray } }
      rw [strsFrom_eq]
      exact hq (numbered s.toks _) _ _ ((numbered_texts _ _).trans ((if_neg (ne_true_of_eq_false h1)).trans (if_neg (ne_true_of_eq_false hf))).symm) (Kf.push _ _) (Heap.get?_push_size _ rfl)
    · exact call_meets F.slot_str_split (typeIs_str _ _ _) F.entry_str_split (F.args_str_split_2 _ _) (meets_str_split_not_found x y t u h1 hy hf)
        (hq [(x, t)] _ s.toks ((if_neg (ne_true_of_eq_false h1)).trans (if_pos hf)).symm (Kf.push _ _) (Heap.get?_push_size _ rfl))
  · exact call_meets F.slot_str_split (typeIs_str _ _ _) F.entry_str_split (F.args_str_split_2 _ _) (meets_str_split_cannot_occur x y t u h1)
      (hq [(x, t)] _ s.toks (if_pos h1).symm (Kf.push _ _) (Heap.get?_push_size _ rfl))
theorem Ca.split (r : Rel R) (hu : ∀ h, I h → Up X h) {x y : Str} (hy : (y.length == 0) = false) (hsz : x.length ≤ sizeLine) (hsz2 : (Builtin.Str.partsBetween x (Builtin.Str.occurrences x y 0 x.length (x.length + 1)) y.length).length ≤ sizeLine) :
    Ca prog w X R I k (.builtin "str.split") [.str x, .str y] (.list ((Txt.split x y).map D.str)) := .mk fun A s Q E vals o i rs h => by
  obtain ⟨v, u, rfl, rv, ru⟩ := rs.two
  first | obtain ⟨_, rfl⟩ := rv.int_inv | obtain ⟨_, rfl⟩ := rv.str_inv | obtain rfl := rv.val_inv | obtain rfl := rv.bool_inv | cases rv
  first | obtain ⟨_, rfl⟩ := ru.int_inv | obtain ⟨_, rfl⟩ := ru.str_inv | obtain rfl := ru.val_inv | obtain rfl := ru.bool_inv | cases ru
  exact split_wp hy (fun l h' tk e kf hl => h _ h' tk (r.full kf) (e ▸ .list (hu _ i).new hl (strs_rd l))) hsz hsz2
theorem Ca.str (r : Rel R) {a : Int} (ha : a.natAbs.log2 < 1920) : Ca prog w X R I k (.type "str") [.int a] (.str (Str.ofString (toString a))) := .mk fun A s Q E vals o i rs h => by
  obtain ⟨v, rfl, rv⟩ := rs.one
  first | obtain ⟨_, rfl⟩ := rv.int_inv | obtain ⟨_, rfl⟩ := rv.str_inv | obtain rfl := rv.val_inv | obtain rfl := rv.bool_inv | cases rv
  exact P.str_of_int ha (h _ s.heap _ (r.refl _) (.str _ _))
theorem Ca.indexL (r : Rel R) {ns : List Int} {a : Int} {j : Nat} (hj : ns[j]? = some a) (hno : ∀ m, m < j → ns[m]? ≠ some a) (hsz : ns.length ≤ sizeLine) : Ca prog w X R I k (.builtin "list.index") [.list (ns.map D.int), .int a] (.int j) := .mk fun A s Q E vals o i rs h => by
  obtain ⟨v, u, rfl, rv, ru⟩ := rs.two
  obtain ⟨l, vs, n, rfl, hl, rl, _⟩ := rv.list_inv
  obtain ⟨t, rfl⟩ := ru.int_inv
  have hn : ns.length ≤ 2 ^ 24 := hsz
  have jl : j < ns.length := (List.getElem?_eq_some_iff.mp hj).1
  have vl : vs.length = ns.length := by simpa using rl.length
  have get : ∀ m (hm : m < ns.length), ∃ t, vs[m]? = some (.int ns[m] t) := fun m hm => by
    obtain ⟨v', e1, rv'⟩ := rl.get (i := m) (d := D.int ns[m]) (by simp [hm])
    cases rv' with | int _ t => exact ⟨t, e1⟩
  let e : Value → Bool := fun y => match y with | .int i _ => i == a | _ => false
  have at_ : ∀ m (hm : m < vs.toArray.size), e vs.toArray[m] = (ns[m]'(by simpa [vl] using hm) == a) := fun m hm => by
    have hm' : m < ns.length := by simpa [vl] using hm
    obtain ⟨t', e1⟩ := get m hm'
    have : vs.toArray[m] = .int ns[m] t' := by
      have := (List.getElem?_eq_some_iff.mp e1).2
      simpa using this
    rw [this]
  refine call_meets F.slot_list_index ⟨_, hl, rfl⟩ F.entry_list_index (F.args_list_index_2 _ _) (SeqAt.list_indexAt l vs.toArray n none #[] (.int a t) e j (by simpa [vl] using jl) (by omega) ?_ ?_) ⟨hl, ?_, h _ s.heap _ (r.refl _) (.int _ _)⟩
  · rw [at_]
    have := (List.getElem?_eq_some_iff.mp hj).2
    simp [this]
  · intro m hm lt
    rw [at_ m hm]
    have hm' : m < ns.length := by simpa [vl] using hm
    have := hno m lt
    simp [hm'] at this
    simp [this]
  · intro y hy
    obtain ⟨m, hm, rfl⟩ := Array.mem_iff_getElem.mp hy
    have hm' : m < ns.length := by simpa [vl] using hm
    obtain ⟨t', e1⟩ := get m hm'
    have q : vs.toArray[m] = .int ns[m] t' := by
      have := (List.getElem?_eq_some_iff.mp e1).2
      simpa using this
    rw [q]
    exact MeetsSeq.EqGives.at (MeetsSeq.EqGives.int _ _ _ _) _ _
theorem Ca.find3 (r : Rel R) {x y : Str} {j : Int} : Ca prog w X R I k (.builtin "str.find") [.str x, .str y, .int j] (.int (match Builtin.Str.occurrences x y (fromIndex x.length j) x.length 1 with | i :: _ => (i : Int) | [] => -1)) := .mk fun A s Q E vals o i rs h => by
  obtain ⟨v, u, z, rfl, rv, ru, rz⟩ := rs.three
  first | obtain ⟨_, rfl⟩ := rv.int_inv | obtain ⟨_, rfl⟩ := rv.str_inv | obtain rfl := rv.val_inv | obtain rfl := rv.bool_inv | cases rv
  first | obtain ⟨_, rfl⟩ := ru.int_inv | obtain ⟨_, rfl⟩ := ru.str_inv | obtain rfl := ru.val_inv | obtain rfl := ru.bool_inv | cases ru
  first | obtain ⟨_, rfl⟩ := rz.int_inv | obtain ⟨_, rfl⟩ := rz.str_inv | obtain rfl := rz.val_inv | obtain rfl := rz.bool_inv | cases rz
  exact call_gives F.slot_str_find (typeIs_str _ _ _) F.entry_str_find (F.args_str_find_3 _ _ _) (gives_str_find_from _ _ _ _ _ _) (h _ s.heap _ (r.refl _) (.int _ _))
-- text slices
theorem Ev.sliceS (r : Rel R) (st : Stab R I) {value : Expr} {lower upper : Option Expr} {p pos : Pos} {x : Str} {lo hi : Option Int} (hv : Ev prog w X R I k env value (.str x)) (h1 : Pt prog w X R I k env lower lo) (h2 : Pt prog w X R I k env upper hi) (hsz : x.length ≤ sizeLine) :
    Ev prog w X R I k env (.Subscript value (.Slice lower upper none p) pos) (.str (Txt.slice x lo hi)) :=
  .mk fun A s Q E o i h => Subscript_ (hv.run A s _ _ o i fun va ha ta ka ra => wpAny_Slice (h1.run A _ _ _ o (st _ _ ka i) fun v1 hb tb kb r1 => h2.run A _ _ _ o (st _ _ kb (st _ _ ka i)) fun v2 hc tc kc r2 => by
    rw [evalPart_none]
    refine wpAny_pure ?_
    obtain ⟨t, rfl⟩ := ra.str_inv
    have fin : ∀ h' t' k, Kf hc h' → Q (.str (Txt.slice x lo hi) t') { s with heap := h', toks := k } := fun h' t' k kf => h _ h' k (r.trans (r.trans (r.trans ka kb) kc) (r.full kf)) (.str _ _)
    have lt : ∀ r, letTemporaryGo value (.str x t) r = pure () := fun r => let_str
    cases r1 <;> cases r2
    · exact tail_of_ItemOn (SBH.sliceItem_nn (s := { s with heap := hc, toks := tc }) kept_kf (Kf.refl hc) fin hsz) rfl lt
    · exact tail_of_ItemOn (SBH.sliceItem_ns (s := { s with heap := hc, toks := tc }) kept_kf (Kf.refl hc) fin hsz) rfl lt
    · exact tail_of_ItemOn (SBH.sliceItem_sn (s := { s with heap := hc, toks := tc }) kept_kf (Kf.refl hc) fin hsz) rfl lt
    · exact tail_of_ItemOn (SBH.sliceItem_ss (s := { s with heap := hc, toks := tc }) kept_kf (Kf.refl hc) fin hsz) rfl lt))
end
end
section
variable {X : Addr → Prop}
-- all addresses but one
noncomputable abbrev Less (X : Addr → Prop) (L : Addr) : Addr → Prop := fun a => X a ∧ a ≠ L
theorem less_in {L : Addr} : ∀ a, Less X L a → X a := fun _ h => h.1
-- a frame under way that fills the list at L
structure Fl (X : Addr → Prop) (R : Heap → Heap → Prop) (G : Heap → Prop) (h₀ : Heap) (env : Env) (ρ : Rho) (L : Addr) (acc : List D) (h : Heap) : Prop where
  st : St (Less X L) R G h₀ env ρ h
  ls : ∃ vs n, IsL h L (List.toArray vs) n ∧ RdL (Less X L) h acc vs
  new : h₀.objs.size ≤ L
  xl : X L
noncomputable def KiF (L : Addr) (h h' : Heap) : Prop := ∀ b o, b ≠ L → h.get? b = some o → ((∃ xs n, o.data = .seq xs n) ∨ (o.cls ≠ .none ∧ ∃ vs, o.data = .fields vs)) → h'.get? b = some o
theorem KiF.refl (L : Addr) (h : Heap) : KiF L h h := fun _ _ _ e _ => e
theorem KiF.trans {L : Addr} {a b c : Heap} (x : KiF L a b) (y : KiF L b c) : KiF L a c := fun b o z e n => y b o z (x b o z e n) n
theorem Ki.f {L : Addr} {h h' : Heap} (k : Ki h h') : KiF L h h' := fun b o _ e n => k b o e n
theorem KiF.ks {L : Addr} {h h' : Heap} (k : KiF L h h') : Ks (Less X L) h h' := fun b o p e x => k b o p.2 e (by
  rcases x with x | ⟨c, x⟩
  · exact .inl x
  · exact .inr ⟨by rw [c]; simp, x⟩)
theorem ItAt.kif {L it : Addr} {h h' : Heap} (k : KiF L h h') (ne : it ≠ L) {i : Nat} {l : List D} (x : ItAt (Less X L) h it i l) : ItAt (Less X L) h' it i l := by
  refine x.keep k.ks fun o e => ?_
  obtain ⟨o', e', z, vs, d⟩ := x.obj
  rw [e'] at e; cases e
  exact k it _ ne e' (.inr ⟨by rcases z with z | z | z | z <;> (rw [z]; simp), vs, d⟩)
inductive OutF where
  | next (ρ : Rho) (acc : List D)
  | brk (ρ : Rho) (acc : List D)
  | ret (d : D)
section
variable (prog : Program) (w : World) (X : Addr → Prop) (R : Heap → Heap → Prop) (G : Heap → Prop) (k : Room) (h₀ : Heap) (env : Env) (L : Addr)
noncomputable def OutF.post (s : Shared) (Q : Flow → Shared → Prop) : OutF → Prop
  | .next ρ acc => ∀ h' t, Fl X R G h₀ env ρ L acc h' → KiF L s.heap h' → Q .next { s with heap := h', toks := t }
  | .brk ρ acc => ∀ h' t, Fl X R G h₀ env ρ L acc h' → KiF L s.heap h' → Q .brk { s with heap := h', toks := t }
  | .ret d => ∀ v h' t, R h₀ h' → Rd X h' d v → Q (.ret v) { s with heap := h', toks := t }
structure Ex1F (ρ : Rho) (acc : List D) (st : Stmt) (o : OutF) : Prop where
  run : ∀ A (s : Shared) (Q : Flow → Shared → Prop) (E : Value → Shared → Prop), OkA k A → Fl X R G h₀ env ρ L acc s.heap → o.post X R G h₀ env L s Q → wpAny (model prog w) A (exec st env) Q E s
structure ExF (ρ : Rho) (acc : List D) (ss : List Stmt) (o : OutF) : Prop where
  run : ∀ A (s : Shared) (Q : Flow → Shared → Prop) (E : Value → Shared → Prop), OkA k A → Fl X R G h₀ env ρ L acc s.heap → o.post X R G h₀ env L s Q → wpAny (model prog w) A (execs ss env) Q E s
-- a for loop that fills
inductive LoF (ds : List D) (target : Expr) (body orelse : List Stmt) (o : OutF) : Nat → Rho → List D → Prop
  | done {ρ : Rho} {acc : List D} : ExF prog w X R G k h₀ env L ρ acc orelse o → LoF ds target body orelse o ds.length ρ acc
  | turn {i : Nat} {ρ ρ₁ ρ' : Rho} {acc acc' : List D} {d : D} : ds[i]? = some d → As prog w (Less X L) R G h₀ env ρ target d ρ₁ → ExF prog w X R G k h₀ env L ρ₁ acc body (.next ρ' acc') → LoF ds target body orelse o (i + 1) ρ' acc' → LoF ds target body orelse o i ρ acc
  | brk {i : Nat} {ρ ρ₁ ρ' : Rho} {acc acc' : List D} {d : D} : ds[i]? = some d → As prog w (Less X L) R G h₀ env ρ target d ρ₁ → ExF prog w X R G k h₀ env L ρ₁ acc body (.brk ρ' acc') → o = .next ρ' acc' → LoF ds target body orelse o i ρ acc
end
section
variable {prog : Program} {w : World} {R : Heap → Heap → Prop} {G : Heap → Prop} {k : Room} {h₀ : Heap} {env : Env} {ρ ρ' : Rho} {L : Addr} {acc acc' : List D}
theorem OutF.post.mono {s s' : Shared} {Q : Flow → Shared → Prop} {o : OutF} (h : o.post X R G h₀ env L s Q) (ki : KiF L s.heap s'.heap) (e : ∀ h t, ({ s' with heap := h, toks := t } : Shared) = { s with heap := h, toks := t }) : o.post X R G h₀ env L s' Q := by
  cases o with
  | next ρ acc => exact fun h' t S k => by rw [e]; exact h h' t S (ki.trans k)
  | brk ρ acc => exact fun h' t S k => by rw [e]; exact h h' t S (ki.trans k)
  | ret d => exact fun v h' t S k => by rw [e]; exact h v h' t S k
theorem Fl.kept {h h' : Heap} (F : Fl X R G h₀ env ρ L acc h) (S : St (Less X L) R G h₀ env ρ' h') (k : Ki h h') : Fl X R G h₀ env ρ' L acc h' :=
  ⟨S, let ⟨vs, n, l, r⟩ := F.ls; ⟨vs, n, k _ _ l (.inl ⟨_, _, rfl⟩), r.ks k.ks⟩, F.new, F.xl⟩
theorem Fl.step (r : Rel R) {h h' : Heap} (F : Fl X R G h₀ env ρ L acc h) (k : R h h') : Fl X R G h₀ env ρ L acc h' := F.kept (F.st.step r k) (r.weak k).ki
theorem Fl.weak {h : Heap} (F : Fl X R G h₀ env ρ L acc h) (hw : ∀ x d, ρ' x = some d → ρ x = some d) : Fl X R G h₀ env ρ' L acc h := ⟨F.st.weak hw, F.ls, F.new, F.xl⟩
theorem St.less_mono {X' : Addr → Prop} (hx : ∀ a, X' a → X a) {h : Heap} (S : St X' R G h₀ env ρ h) : St X R G h₀ env ρ h :=
  ⟨S.rel, S.g, let ⟨m, a, b⟩ := S.loc; ⟨m, a, fun x d e kx => let ⟨v, e1, r1⟩ := b x d e kx; ⟨v, e1, r1.mono hx⟩⟩,
    fun x c e => let ⟨v, a, b⟩ := S.cel x c e; ⟨v, a, fun d e => let ⟨v, e1, r1⟩ := b d e; ⟨v, e1, r1.mono hx⟩⟩, S.lab, S.apart, fun a n => S.up a fun q => n (hx a q)⟩
theorem St.set {h : Heap} (S : St X R G h₀ env ρ h) {x : Str} {v : Value} {d : D} (e : ρ x = some (.val v)) (rv : Rd X h d v) : St X R G h₀ env (upd ρ x d) h := by
  refine ⟨S.rel, S.g, ?_, fun y c ey => ?_, S.lab, S.apart, S.up⟩
  · obtain ⟨m, a, b⟩ := S.loc
    refine ⟨m, a, fun y dy ey ky => ?_⟩
    by_cases q : y = x
    · subst q
      simp [upd] at ey; subst ey
      obtain ⟨v', e1, r1⟩ := b _ _ e ky
      cases r1
      exact ⟨_, e1, rv⟩
    · simp [upd, q] at ey
      exact b y dy ey ky
  · obtain ⟨v₀, ic, b⟩ := S.cel y c ey
    refine ⟨v₀, ic, fun dy e' => ?_⟩
    by_cases q : y = x
    · subst q
      simp [upd] at e'; subst e'
      obtain ⟨v', e1, r1⟩ := b _ e
      cases r1
      exact ⟨_, e1, rv⟩
    · simp [upd, q] at e'
      exact b dy e'
theorem ExF.nil : ExF prog w X R G k h₀ env L ρ acc [] (.next ρ acc) := .mk fun A s Q E o F h => wpAny_execs_nil (h s.heap s.toks F (KiF.refl _ _))
theorem ExF.cons {st : Stmt} {ss : List Stmt} {o : OutF} (h1 : Ex1F prog w X R G k h₀ env L ρ acc st (.next ρ' acc')) (h2 : ExF prog w X R G k h₀ env L ρ' acc' ss o) : ExF prog w X R G k h₀ env L ρ acc (st :: ss) o :=
  .mk fun A s Q E ok F h => wpAny_execs_cons (h1.run A s _ _ ok F fun h' t F' ki => h2.run A _ _ _ ok F' (h.mono ki fun _ _ => rfl))
theorem ExF.brk {st : Stmt} {ss : List Stmt} (h1 : Ex1F prog w X R G k h₀ env L ρ acc st (.brk ρ' acc')) : ExF prog w X R G k h₀ env L ρ acc (st :: ss) (.brk ρ' acc') :=
  .mk fun A s Q E ok F h => wpAny_execs_cons (h1.run A s _ _ ok F fun h' t F' ki => h h' t F' ki)
theorem Ex1F.brk0 {pos : Pos} : Ex1F prog w X R G k h₀ env L ρ acc (.Break pos) (.brk ρ acc) := .mk fun A s Q E o F h => wpAny_Break (h s.heap s.toks F (KiF.refl _ _))
theorem Ex1F.of {st : Stmt} (h1 : Ex1 prog w (Less X L) R G k h₀ env ρ st (.next ρ')) : Ex1F prog w X R G k h₀ env L ρ acc st (.next ρ' acc) :=
  .mk fun A s Q E ok F h => h1.run A s Q E ok F.st fun h' t S ki => h h' t (F.kept S ki) ki.f
theorem Ex1F.ifs (r : Rel R) {test : Expr} {body orelse : List Stmt} {pos : Pos} {c : Bool} {o : OutF} (ht : Tr prog w R (St (Less X L) R G h₀ env ρ) k env test c) (ha : c = true → ExF prog w X R G k h₀ env L ρ acc body o) (hb : c = false → ExF prog w X R G k h₀ env L ρ acc orelse o) :
    Ex1F prog w X R G k h₀ env L ρ acc (.If test body orelse pos) o :=
  .mk fun A s Q E ok F h => wpAny_If (ht.run A s _ _ ok F.st fun h1 t1 k1 => by
    have h' := h.mono (s' := { s with heap := h1, toks := t1 }) (r.weak k1).ki.f fun _ _ => rfl
    cases c with
    | true => exact (ha rfl).run A _ _ _ ok (F.step r k1) h'
    | false => exact (hb rfl).run A _ _ _ ok (F.step r k1) h')
-- the list is filled: from here on it is data
theorem ExF.freeze {ss : List Stmt} {x : Str} {d : D} (e : ρ x = some (.val (.ref L))) (h : Ex prog w X R G k h₀ env (upd ρ x (.list acc)) ss (.ret d)) : ExF prog w X R G k h₀ env L ρ acc ss (.ret d) :=
  .mk fun A s Q E ok F q => by
    obtain ⟨vs, n, l, rl⟩ := F.ls
    exact h.run A s Q E ok ((F.st.less_mono less_in).set e (.list F.xl l (rl.mono less_in))) q
theorem Fl.append (r : Rel R) {h h' : Heap} {vs : List Value} {n : Nat} (F : Fl X R G h₀ env ρ L acc h) (hl : IsL h L vs.toArray n) (hs : Heap.SameBut L h h') {vs' : List Value} {n' : Nat} (hl' : IsL h' L vs'.toArray n') (rl' : RdL (Less X L) h acc' vs') :
    Fl X R G h₀ env ρ L acc' h' ∧ KiF L h h' := by
  obtain ⟨S', ks⟩ := F.st.append r F.new (fun q => q.2 rfl) hl hs hl'
  exact ⟨⟨S', ⟨vs', n', hl', rl'.ks ks⟩, F.new, F.xl⟩, fun b o ne e _ => (hs.2 b ne).trans e⟩
end
end
section
variable {X : Addr → Prop}
section
variable {prog : Program} {w : World} {R : Heap → Heap → Prop} {G : Heap → Prop} {k : Room} {h₀ : Heap} {env : Env} {ρ ρ' : Rho} {L : Addr} {acc acc' : List D}
theorem list_extend_wp {A : Around} {E : Value → Shared → Prop} {s : Shared} {l b : Addr} {vs ws : List Value} {n n2 : Nat} {Q : Value → Shared → Prop} (ho : IsL s.heap l vs.toArray n) (hb : IsL s.heap b ws.toArray n2) (hsz : vs.length + ws.length ≤ sizeLine)
    (h : ∀ h' n', IsL h' l (vs ++ ws).toArray n' → Heap.SameBut l s.heap h' → Q .none { s with heap := h' }) : wpAny (model prog w) A (call (.builtin "list.extend") [.ref l, .ref b]) Q E s := by
  have hsz' : vs.toArray.size + ws.toArray.size ≤ sizeLine := by simpa using hsz
  refine call_meets PySem.F.slot_list_extend ⟨_, ho, rfl⟩ PySem.F.entry_list_extend (PySem.F.args_list_extend_2 _ _) (AutoSeq1.list_extend_list_list_0 l vs.toArray n b ws.toArray n2 (extend_door hsz') (Nat.le_trans (Nat.le_add_right _ _) hsz')) ⟨ho, hb, ?_⟩
  have e : vs.toArray ++ ws.toArray = (vs ++ ws).toArray := by simp
  refine h _ (if (vs ++ ws).toArray.size == vs.toArray.size then n else n + 1) ?_ (Heap.SameBut.update ..)
  have := Heap.get?_update_self (Obj.mapSeq fun x => x ++ ws.toArray) ho (by rw [mapSeq_app]; rfl)
  rw [mapSeq_app, e] at this
  exact this
theorem method_stmt {A : Around} {E : Value → Shared → Prop} {s : Shared} {x name : Str} {id : String} {np apos pos epos : Pos} {e : Expr} {Q : Flow → Shared → Prop} (hb : attributeBase (.Name x np) name env (eval (.Name x np) env) = eval (.Name x np) env)
    (hfew : ((backTo pos (starEach [e] env)).all (fun x => !x.1) && (backToKw pos (keywordEach [] env)).all (fun x => x.1.isSome) && decide ([e].length + ([] : List Keyword).length + (if ([] : List Keyword).isEmpty then 0 else 1) < 30)) = true)
    (hline : (apos.endLine == pos.line) = true) (slot : Slot "list" name id) (hty : typeOf (.builtin id) = pure (.type "method_descriptor")) (hi : interactive env = false) (hsw : swapsWith (.Call (.Attribute (.Name x np) name apos) [e] [] pos) none epos.line env = pure false) (hp : plainE env e)
    (hv : wpAny (model prog w) A (eval (.Name x np) env) (fun va s₁ => ∃ L vs n, va = .ref L ∧ IsL s₁.heap L vs n ∧ wpAny (model prog w) A (eval e env) (fun v s₂ => wpAny (model prog w) A (call (.builtin id) [.ref L, v]) (fun _ s₃ => Q .next s₃) E s₂) E s₁) E s) :
    wpAny (model prog w) A (exec (.Expr (.Call (.Attribute (.Name x np) name apos) [e] [] pos) epos) env) Q E s := by
  refine wpAny_Expr_any ?_ hi hsw
  refine wpAny_Call_method hb hfew hline F.plainAttrs_list slot hty (wpAny_mono hv (fun va s₁ h₁ => ?_) fun _ _ x => x)
  obtain ⟨L, vs, n, rfl, hl, h₁⟩ := h₁
  refine ⟨⟨_, hl, rfl⟩, fun b e => by cases e; exact ⟨_, hl, rfl⟩, ?_⟩
  rw [hp]
  refine Calls.callWith_builtin (by show (false || (backTo pos (starEach [] env)).any (·.1)) = false; rfl) (evalArgs_plain ?_)
  have := wpAny_items_cons (env := env) (pos := pos) (e := e) (rest := []) (Q := fun vs s₂ => wpAny (model prog w) A (call (.builtin id) ([.ref L] ++ vs)) (fun _ s₃ => Q .next s₃) E s₂) (E := E) (s := s₁) (M := model prog w) (A := A)
    (wpAny_mono h₁ (fun v s₂ h₂ => wpAny_items_nil h₂) fun _ _ x => x) (hp _)
  rw [hp] at this
  exact this
theorem Ex1F.append (r : Rel R) {x : Str} {np apos pos epos : Pos} {e : Expr} {d : D} (hx : ρ x = some (.val (.ref L))) (hk : env.kindOf x = some .local) (hkind : env.scope.kind = .function) (hd : (x == ("__debug__" : Str)) = false)
    (hb : attributeBase (.Name x np) "append" env (eval (.Name x np) env) = eval (.Name x np) env)
    (hfew : ((backTo pos (starEach [e] env)).all (fun x => !x.1) && (backToKw pos (keywordEach [] env)).all (fun x => x.1.isSome) && decide ([e].length + ([] : List Keyword).length + (if ([] : List Keyword).isEmpty then 0 else 1) < 30)) = true)
    (hline : (apos.endLine == pos.line) = true) (hi : interactive env = false) (hsw : swapsWith (.Call (.Attribute (.Name x np) "append" apos) [e] [] pos) none epos.line env = pure false) (hp : plainE env e)
    (he : Ev prog w (Less X L) R (St (Less X L) R G h₀ env ρ) k env e d) (hsz : acc.length ≤ sizeLine) : Ex1F prog w X R G k h₀ env L ρ acc (.Expr (.Call (.Attribute (.Name x np) "append" apos) [e] [] pos) epos) (.next ρ (acc ++ [d])) :=
  .mk fun A s Q E ok F q => by
    refine method_stmt hb hfew hline PySem.F.slot_list_append PySem.F.type_list_append hi hsw hp ?_
    refine (Ev.name (X := Less X L) (k := k) (I := fun h => Fl X R G h₀ env ρ L acc h) (d := .val (.ref L)) r hkind hd (fun h F => F.st.look hx (.inl hk))).run A s _ _ ok F fun va h1 t1 k1 rv => ?_
    first | obtain ⟨_, rfl⟩ := rv.int_inv | obtain ⟨_, rfl⟩ := rv.str_inv | obtain rfl := rv.val_inv | obtain rfl := rv.bool_inv | cases rv
    have F1 := F.step r k1
    obtain ⟨vs, n, hl, rl⟩ := F1.ls
    refine ⟨L, _, n, rfl, hl, he.run A _ _ _ ok F1.st fun v h2 t2 k2 r2 => ?_⟩
    have F2 := F1.step r k2
    have kk := (r.weak k2).ki
    have hl2 : IsL h2 L vs.toArray n := kk _ _ hl (.inl ⟨_, _, rfl⟩)
    have rl2 := rl.ks kk.ks
    refine wpAny_list_append_plain ⟨n, hl2⟩ (fun h3 pl hs => ?_) (by simp [rl.length]; exact hsz)
    obtain ⟨n3, l3⟩ := pl
    have l3' : IsL h3 L (vs ++ [v]).toArray n3 := by simpa using l3
    obtain ⟨F3, k3⟩ := F2.append (acc' := acc ++ [d]) r hl2 hs l3' (rl2.append (.cons r2 .nil))
    exact q h3 _ F3 (((r.weak k1).ki.f.trans kk.f).trans k3)
theorem Ex1F.extend (r : Rel R) {x : Str} {np apos pos epos : Pos} {e : Expr} {ds : List D} (hx : ρ x = some (.val (.ref L))) (hk : env.kindOf x = some .local) (hkind : env.scope.kind = .function) (hd : (x == ("__debug__" : Str)) = false)
    (hb : attributeBase (.Name x np) "extend" env (eval (.Name x np) env) = eval (.Name x np) env)
    (hfew : ((backTo pos (starEach [e] env)).all (fun x => !x.1) && (backToKw pos (keywordEach [] env)).all (fun x => x.1.isSome) && decide ([e].length + ([] : List Keyword).length + (if ([] : List Keyword).isEmpty then 0 else 1) < 30)) = true)
    (hline : (apos.endLine == pos.line) = true) (hi : interactive env = false) (hsw : swapsWith (.Call (.Attribute (.Name x np) "extend" apos) [e] [] pos) none epos.line env = pure false) (hp : plainE env e)
    (he : Ev prog w (Less X L) R (St (Less X L) R G h₀ env ρ) k env e (.list ds)) (hsz : acc.length + ds.length ≤ sizeLine) : Ex1F prog w X R G k h₀ env L ρ acc (.Expr (.Call (.Attribute (.Name x np) "extend" apos) [e] [] pos) epos) (.next ρ (acc ++ ds)) :=
  .mk fun A s Q E ok F q => by
    refine method_stmt hb hfew hline PySem.F.slot_list_extend PySem.F.type_list_extend hi hsw hp ?_
    refine (Ev.name (X := Less X L) (k := k) (I := fun h => Fl X R G h₀ env ρ L acc h) (d := .val (.ref L)) r hkind hd (fun h F => F.st.look hx (.inl hk))).run A s _ _ ok F fun va h1 t1 k1 rv => ?_
    first | obtain ⟨_, rfl⟩ := rv.int_inv | obtain ⟨_, rfl⟩ := rv.str_inv | obtain rfl := rv.val_inv | obtain rfl := rv.bool_inv | cases rv
    have F1 := F.step r k1
    obtain ⟨vs, n, hl, rl⟩ := F1.ls
    refine ⟨L, _, n, rfl, hl, he.run A _ _ _ ok F1.st fun v h2 t2 k2 r2 => ?_⟩
    have F2 := F1.step r k2
    have kk := (r.weak k2).ki
    have hl2 : IsL h2 L vs.toArray n := kk _ _ hl (.inl ⟨_, _, rfl⟩)
    have rl2 := rl.ks kk.ks
    obtain ⟨b, ws, n2, rfl, hb2, rb, xb⟩ := r2.list_inv
    refine list_extend_wp hl2 hb2 (by rw [rl.length, rb.length]; exact hsz) fun h3 n3 l3 hs => ?_
    obtain ⟨F3, k3⟩ := F2.append (acc' := acc ++ ds) r hl2 hs l3 (rl2.append rb)
    exact q h3 _ F3 (((r.weak k1).ki.f.trans kk.f).trans k3)
-- a list display bound to a name begins to be filled
theorem Ex.fill (r : Rel R) {x : Str} {p lp pos : Pos} {es : List Expr} {ds : List D} {ss : List Stmt} {d : D} (hs : EvL prog w X R (St X R G h₀ env ρ) k env es ds) (hz : ds.length ≤ sizeLine) (hw : swapsWith (.List es lp) (some (.Name x p)) pos.line env = pure false)
    (hx : env.kindOf x = some .local) (hc : env.cells.lookup x = none) (hpl : (env.scope.kind == .class || (env.scope.kind == .module && env.locals != env.globals)) = false)
    (h : ∀ L, ExF prog w X R G k h₀ env L (upd ρ x (.val (.ref L))) ds ss (.ret d)) : Ex prog w X R G k h₀ env ρ (.Assign [.Name x p] (.List es lp) pos :: ss) (.ret d) :=
  .mk fun A s Q E ok S q => wpAny_execs_cons (wpAny_Assign_Name (wpAny_List (hs.run A s _ _ lp ok S fun vs h1 t1 k1 rs => ⟨by rw [rs.length]; exact hz, by
    have S1 := S.step r k1
    have hn := get_size h1
    have kf := Kf.push h1 { cls := .type "list", data := .seq vs.toArray }
    have hl : IsL (h1.push { cls := .type "list", data := .seq vs.toArray }) h1.objs.size vs.toArray 0 := Heap.get?_push_size _ rfl
    have S2 : St (Less X h1.objs.size) R G h₀ env ρ (h1.push { cls := .type "list", data := .seq vs.toArray }) := by
      have S' := S1.step r (r.full kf)
      refine ⟨S'.rel, S'.g, ?_, fun y c ey => ?_, S'.lab, S'.apart, fun a na => ?_⟩
      · obtain ⟨m, a, b⟩ := S1.loc
        exact ⟨m, ns_kd kf.kp.kd a, fun y dy ey ky => let ⟨v, e1, r1⟩ := b y dy ey ky; ⟨v, e1, (r1.avoid hn).ks kf.ks⟩⟩
      · obtain ⟨v₀, ic, b⟩ := S1.cel y c ey
        exact ⟨v₀, cell_kd kf.kp.kd ic, fun dy e' => let ⟨v, e1, r1⟩ := b dy e'; ⟨v, e1, (r1.avoid hn).ks kf.ks⟩⟩
      · by_cases qq : X a
        · have : a = h1.objs.size := Classical.byContradiction fun z => na ⟨qq, z⟩
          subst this
          exact ⟨_, hl, fun t => by cases t.1⟩
        · obtain ⟨o, e, nt⟩ := S1.up a qq
          exact ⟨o, kf _ _ e, nt⟩
    obtain ⟨m, nm, _⟩ := S2.loc
    refine wpAny_storeName_local hx nm (fun h3 hn3 hs3 => ?_) hpl
    obtain ⟨S3, k3⟩ := S2.storeL r nm hx hc hn3 hs3 (.val (.ref h1.objs.size))
    refine (h h1.objs.size).run A _ Q E ok ⟨S3, ⟨vs, 0, k3 _ _ hl (.inl ⟨_, _, rfl⟩), ((rs.avoid hn).ks kf.ks).ks k3.ks⟩, S1.size r, S1.up.fresh hn⟩ fun v h' t kr rv => q v h' t kr rv⟩)) hw)
noncomputable def KjF (it L : Addr) (h h' : Heap) : Prop := ∀ b o, b ≠ it → b ≠ L → h.get? b = some o → ((∃ xs n, o.data = .seq xs n) ∨ (o.cls ≠ .none ∧ ∃ vs, o.data = .fields vs)) → h'.get? b = some o
theorem LoF.le {ds : List D} {target : Expr} {body orelse : List Stmt} {o : OutF} {j : Nat} (l : LoF prog w X R G k h₀ env L ds target body orelse o j ρ acc) : j ≤ ds.length := by
  cases l with
  | done => exact Nat.le_refl _
  | turn e => exact Nat.le_of_lt (List.getElem?_eq_some_iff.mp e).1
  | brk e => exact Nat.le_of_lt (List.getElem?_eq_some_iff.mp e).1
variable (prog w X R G k h₀ env L) in
inductive InvF (s : Shared) (it : Addr) (ds : List D) (target : Expr) (body orelse : List Stmt) (o : OutF) (n : Nat) : Shared → Prop
  | mk {h' : Heap} {t j : Nat} {ρ : Rho} {acc : List D} : n + j = ds.length → Fl X R G h₀ env ρ L acc h' → ItAt (Less X L) h' it j ds → KjF it L s.heap h' → LoF prog w X R G k h₀ env L ds target body orelse o j ρ acc → InvF s it ds target body orelse o n { s with heap := h', toks := t }
theorem for_codeF (r : Rel R) (hc : k.calm = true) {A : Around} {s : Shared} {it : Addr} {target : Expr} {body orelse : List Stmt} {o : OutF} {ds : List D} {i : Nat} {Q : Flow → Shared → Prop} {Ee : Value → Shared → Prop} (ok : OkA k A) (hit : h₀.objs.size ≤ it) (hx : Less X L it)
    (F : Fl X R G h₀ env ρ L acc s.heap) (x : ItAt (Less X L) s.heap it i ds) (lo : LoF prog w X R G k h₀ env L ds target body orelse o i ρ acc) (hq : ∀ h' t, KjF it L s.heap h' → o.post X R G h₀ env L { s with heap := h', toks := t } Q) :
    codeAny (model prog w) A (.forLoop target (.ref it) body orelse env) (fun r s' => match r with | .ok f => Q f s' | .error e => Ee e s') s := by
  have butF : ∀ {h h' : Heap} {ρ : Rho} {acc : List D} {j : Nat}, But it h h' → ItAt (Less X L) h it j ds → Fl X R G h₀ env ρ L acc h → Fl X R G h₀ env ρ L acc h' := fun b x F => by
    obtain ⟨vs, n, l, rl⟩ := F.ls
    exact ⟨b.st r x hit hx F.st, ⟨vs, n, b _ _ (isL_other x l) l, rl.ks (b.ks x)⟩, F.new, F.xl⟩
  refine forLoop_ab (InvF X prog w R G k h₀ env L s it ds target body orelse o) ?_ (ds.length - i) (.mk (t := s.toks) (Nat.sub_add_cancel lo.le) F x (fun _ _ _ _ e _ => e) lo)
  rintro n _ ⟨hn, F, x, kj, lo⟩ Qn E' Q1 hN hS h1 hb hr
  rename_i h' t j ρ acc
  have get : ∀ {d : D}, ds[j]? = some d → ∀ {ρ₁ : Rho} {o₁ : OutF}, As prog w (Less X L) R G h₀ env ρ target d ρ₁ → ExF prog w X R G k h₀ env L ρ₁ acc body o₁ →
      (∀ h1 t1, KjF it L s.heap h1 → ItAt (Less X L) h1 it (j + 1) ds → o₁.post X R G h₀ env L { s with heap := h1, toks := t1 } Q1) → wpAny (model prog w) A (pyNext (.ref it)) Qn E' { s with heap := h', toks := t } := by
    intro d hd ρ₁ o₁ as ex hq1
    refine x.next (ok.handled hc) hd fun v h1 t1 b1 x1 rv => hS v _ (letOwned x1 (as.run A _ _ _ v (ok.handled hc) (butF b1 x F).st rv fun h2 t2 S2 k2 => ex.run A _ _ _ ok ((butF b1 x F).kept S2 k2) ?_))
    exact (hq1 h1 t1 (fun b o nb nl e y => b1 b o nb (kj b o nb nl e y)) x1).mono (s' := { s with heap := h2, toks := t2 }) k2.f fun _ _ => rfl
  cases lo with
  | done ex => exact x.done (ok.handled hc) rfl fun h1 t1 b1 => hN _ (ex.run A _ _ _ ok (butF b1 x F) (hq h1 t1 fun b o nb nl e y => b1 b o nb (kj b o nb nl e y)))
  | turn hd as ex lo' =>
    have lt := (List.getElem?_eq_some_iff.mp hd).1
    exact get hd as ex fun h3 t3 k3 x3 h4 t4 F4 k4 => h1 (n - 1) _ (by omega) (.mk (by omega) F4 (x3.kif k4 hx.2) (fun b o nb nl e y => k4 b o nl (k3 b o nb nl e y) y) lo')
  | brk hd as ex he =>
    subst he
    exact get hd as ex fun h1 t1 k1 x1 h2 t2 F2 k2 => hb _ (hq h1 t1 k1 h2 t2 F2 k2)
theorem Ex1F.fors (r : Rel R) (hc : k.calm = true := by rfl) {target iter : Expr} {body orelse : List Stmt} {pos : Pos} {d : D} {ds : List D} {o : OutF} (he : Ev prog w (Less X L) R (St (Less X L) R G h₀ env ρ) k env iter d) (g : Goes d ds) (hf : ∀ x, foldedSetIterable iter env x = pure x)
    (lo : LoF prog w X R G k h₀ env L ds target body orelse o 0 ρ acc) : Ex1F prog w X R G k h₀ env L ρ acc (.For target iter body orelse pos) o :=
  .mk fun A s Q E ok F h => wpAny_For (he.run A s _ _ ok F.st fun v h1 t1 k1 rv => g.start rv fun it h2 t2 hit hn kf x => by
    have F1 := F.step r k1
    have F2 := F1.step r (r.full kf)
    have hit' : h₀.objs.size ≤ it := Nat.le_trans (F1.st.size r) hit
    obtain ⟨vs, n, hl, _⟩ := F1.ls
    have lx : Less X L it := F1.st.up.fresh hn
    refine for_codeF r hc ok hit' lx F2 x lo fun h3 t3 kj => h.mono (s' := { s with heap := h3, toks := t3 }) (fun b o nl e y => ?_) fun _ _ => rfl
    have e1 := (r.weak k1).ki b o e y
    exact kj b o (fun q => by rw [q] at e1; rw [hn] at e1; cases e1) nl (kf b o e1) y) hf
theorem LoF.end_ {ds : List D} {target : Expr} {body : List Stmt} {n : Nat} (e : n = ds.length) : LoF prog w X R G k h₀ env L ds target body [] (.next ρ acc) n ρ acc := by subst e; exact .done .nil
end
end
section
variable {X : Addr → Prop}
section
variable {prog : Program} {w : World} {R : Heap → Heap → Prop} {I : Heap → Prop} {k : Room} {env : Env}
theorem Ev.ifI (r : Rel R) (st : Stab R I) {t a b : Expr} {pos : Pos} {c : Bool} {da db : Int} (ht : Tr prog w R I k env t c) (ha : Ev prog w X R I k env a (.int da)) (hb : Ev prog w X R I k env b (.int db)) : Ev prog w X R I k env (.IfExp t a b pos) (.int (if c then da else db)) :=
  (Ev.ifexp r st ht (fun _ => ha) (fun _ => hb)).of_eq (by cases c <;> rfl)
theorem Ev.ifS (r : Rel R) (st : Stab R I) {t a b : Expr} {pos : Pos} {c : Bool} {da db : Str} (ht : Tr prog w R I k env t c) (ha : Ev prog w X R I k env a (.str da)) (hb : Ev prog w X R I k env b (.str db)) : Ev prog w X R I k env (.IfExp t a b pos) (.str (if c then da else db)) :=
  (Ev.ifexp r st ht (fun _ => ha) (fun _ => hb)).of_eq (by cases c <;> rfl)
theorem Ev.ifL (r : Rel R) (st : Stab R I) {t a b : Expr} {pos : Pos} {c : Bool} {da db : List D} (ht : Tr prog w R I k env t c) (ha : Ev prog w X R I k env a (.list da)) (hb : Ev prog w X R I k env b (.list db)) : Ev prog w X R I k env (.IfExp t a b pos) (.list (if c then da else db)) :=
  (Ev.ifexp r st ht (fun _ => ha) (fun _ => hb)).of_eq (by cases c <;> rfl)
end
section
variable {prog : Program} {w : World} {R : Heap → Heap → Prop} {G : Heap → Prop} {k : Room} {h₀ : Heap} {env : Env} {ρ ρ' : Rho} {L : Addr} {acc acc' : List D}
-- a branch that ends the same way, by its letter
theorem Ex1.ifR (r : Rel R) {test : Expr} {body orelse : List Stmt} {pos : Pos} {c : Bool} {o : Out} (ht : Tr prog w R (St X R G h₀ env ρ) k env test c) (ha : c = true → Ex prog w X R G k h₀ env ρ body o) (hb : c = false → Ex prog w X R G k h₀ env ρ orelse o) :
    Ex1 prog w X R G k h₀ env ρ (.If test body orelse pos) o := Ex1.ifs r ht ha hb
end
end
section
variable {X : Addr → Prop}
section
variable {prog : Program} {w : World} {R : Heap → Heap → Prop} {I : Heap → Prop} {k : Room} {env : Env}
theorem mulOk_small {x : Str} {n : Int} (h0 : 0 ≤ n) (hn : n ≤ 1000) (hx : x.length ≤ 1000) : MulOk x n := by
  refine ⟨by simp; lia, fun h1 _ => ?_, fun h1 _ => ?_⟩
  · intro h
    have h2 : (9223372036854775807 : Int) / 1000 ≤ (2 ^ 63 - 1) / n := by
      have : (2 ^ 63 - 1 : Int) = 9223372036854775807 := by decide
      rw [this]
      exact Int.le_ediv_of_mul_le (by lia) (by have : (9223372036854775807 : Int) / 1000 * n ≤ 9223372036854775807 / 1000 * 1000 := Int.mul_le_mul_of_nonneg_left hn (by decide); lia)
    lia
  · unfold Builtin.Str.tooLong sizeLine
    have : x.length * n.toNat ≤ 1000 * 1000 := Nat.mul_le_mul hx (by lia)
    exact decide_eq_false (by lia)
theorem Op.mulS (r : Rel R) {x : Str} {n : Int} (h0 : 0 ≤ n) (hn : n ≤ 1000) (hx : x.length ≤ 1000) : Op prog w X R I k (binaryOp .Mult) (.str x) (.int n) (.str (Txt.mul x n)) := .mk fun _ s _ _ _ _ _ _ ha hb h => by
  first | obtain ⟨_, rfl⟩ := ha.int_inv | obtain ⟨_, rfl⟩ := ha.str_inv | obtain rfl := ha.val_inv | obtain rfl := ha.bool_inv | cases ha
  first | obtain ⟨_, rfl⟩ := hb.int_inv | obtain ⟨_, rfl⟩ := hb.str_inv | obtain rfl := hb.val_inv | obtain rfl := hb.bool_inv | cases hb
  exact SB.mul (mulOk_small h0 hn hx) fun t' k => h _ s.heap _ (r.refl _) (.str _ _)
theorem strs_of {h : Heap} : ∀ {texts : List Str} {vs : List Value}, RdL X h (texts.map D.str) vs → ∃ l, vs = strValues l ∧ l.map (·.1) = texts
  | [], _, r => ⟨[], r.nil_inv, rfl⟩
  | x :: texts, _, r => by obtain ⟨_, us, rfl, p, r1⟩ := r.cons_inv; obtain ⟨t, rfl⟩ := p.str_inv; obtain ⟨l, e0, e⟩ := strs_of r1; exact ⟨(x, t) :: l, congrArg (Value.str x t :: ·) e0, congrArg (x :: ·) e⟩
theorem Ca.join (r : Rel R) {x : Str} {texts : List Str} (hok : JoinOk x texts = true) : Ca prog w X R I k (.builtin "str.join") [.str x, .list (texts.map D.str)] (.str (Txt.join x texts)) := .mk fun A s Q E vals o i rs h => by
  obtain ⟨v, u, rfl, rv, ru⟩ := rs.two
  first | obtain ⟨_, rfl⟩ := rv.int_inv | obtain ⟨_, rfl⟩ := rv.str_inv | obtain rfl := rv.val_inv | obtain rfl := rv.bool_inv | cases rv
  obtain ⟨a, vs, n, rfl, hl, rl, _⟩ := ru.list_inv
  obtain ⟨l, rfl, e⟩ := strs_of rl
  exact SC.join hl.isList e hok fun t' k => h _ s.heap k (r.refl _) (.str _ _)
end
section
variable {prog : Program} {w : World} {R : Heap → Heap → Prop} {G : Heap → Prop} {k : Room} {h₀ : Heap} {env : Env} {ρ : Rho}
-- a text constant, and an item of a list in which one text is set for another
theorem Ev.replaceC (r : Rel R) {c y z : Str} {n1 n2 n3 : Nat} {p1 p2 p3 pa pb psub pat pcall pos : Pos} {a b : Str} {l : List D} {i : Int} {x : Str}
    (hka : env.kindOf a = some .local) (hkb : env.kindOf b = some .local) (hkind : env.scope.kind = .function) (hda : (a == ("__debug__" : Str)) = false) (hdb : (b == ("__debug__" : Str)) = false)
    (ha : ρ a = some (.list l)) (hb : ρ b = some (.int i)) (h0 : 0 ≤ i) (hi : i < 2 ^ 63) (hx : l[i.toNat]? = some (.str x))
    (hbase : attributeBase (.Subscript (.Name a pa) (.Name b pb) psub) "replace" env (eval (.Subscript (.Name a pa) (.Name b pb) psub) env) = eval (.Subscript (.Name a pa) (.Name b pb) psub) env)
    (hfew : ((backTo pcall (starEach [.Constant (.str y) n2 p2, .Constant (.str z) n3 p3] env)).all (fun x => !x.1) && (backToKw pcall (keywordEach [] env)).all (fun x => x.1.isSome) && decide ([Expr.Constant (.str y) n2 p2, .Constant (.str z) n3 p3].length + ([] : List Keyword).length + (if ([] : List Keyword).isEmpty then 0 else 1) < 30)) = true)
    (hline : (pat.endLine == pcall.line) = true) (hyz : (y == z) = false) (hsz : x.length + (x.length + 1) * z.length ≤ 16777216) (hsz2 : (c ++ Txt.replace x y z).length ≤ sizeLine) :
    Ev prog w X R (St X R G h₀ env ρ) k env (.BinOp (.Constant (.str c) n1 p1) .Add (.Call (.Attribute (.Subscript (.Name a pa) (.Name b pb) psub) "replace" pat) [.Constant (.str y) n2 p2, .Constant (.str z) n3 p3] [] pcall) pos) (.str (c ++ Txt.replace x y z)) :=
  .mk fun A s Q E o S q => by
    refine wpAny_BinOp (Calls.Constant_str ?_)
    obtain ⟨va, la, ra⟩ := S.look ha (.inl hka)
    obtain ⟨vb, lb, rb⟩ := S.look hb (.inl hkb)
    obtain ⟨l', vs, n, rfl, hl, rl, _⟩ := ra.list_inv
    first | obtain ⟨_, rfl⟩ := rb.int_inv | obtain ⟨_, rfl⟩ := rb.str_inv | obtain rfl := rb.val_inv | obtain rfl := rb.bool_inv | cases rb
    obtain ⟨v, hv, rv⟩ := rl.get hx
    first | obtain ⟨_, rfl⟩ := rv.int_inv | obtain ⟨_, rfl⟩ := rv.str_inv | obtain rfl := rv.val_inv | obtain rfl := rv.bool_inv | cases rv
    have hL := hl.isList
    refine wpAny_Call_method hbase hfew hline F.plainAttrs_str F.slot_str_replace F.type_str_replace ?_
    refine Subscript_ (wpAny_Name (look_wp hkind la (wpAny_Name (look_wp hkind lb ?_) hdb)) hda)
    refine tail_any hL.typeIs slot_list_getitem.lookup (wpAny_getItem_list hL h0 hi (by simpa using hv) ?_) rfl
    refine ⟨typeIs_str _ _ _, fun b e => (by cases e), ?_⟩
    refine Calls.callWith_builtin rfl (evalArgs_plain ?_)
    refine wpAny_items_cons (Calls.Constant_str (wpAny_items_cons (Calls.Constant_str (wpAny_items_nil ?_)) rfl)) rfl
    refine SC.replace ?_ ?_ ?_ hyz hsz fun t' k => ?_
    · exact Nat.succ_ne_zero _
    · exact Nat.succ_ne_zero _
    · exact Nat.ne_of_lt (Nat.lt_succ_self _)
    · exact (Op.addS (X := X) (prog := prog) (w := w) (I := fun _ => True) (k := ⟨0, none, false⟩) r hsz2).run A _ _ _ _ _ (o.le (Nat.zero_le _) (.inl rfl) (fun e => by cases e)) trivial (.str _ _) (.str _ _) fun v h' t kr rv => q v h' t kr rv
end
section
variable {prog : Program} {w : World} {R : Heap → Heap → Prop} {I : Heap → Prop} {k : Room} {env : Env}
theorem Ev.rangeC (r : Rel R) (st : Stab R I) (hu : ∀ h, I h → Up X h) {x : Str} {np pos : Pos} {e : Expr} {i : Int} {n : Nat} (hf : Ev prog w X R I k env (.Name x np) (.val (.type "range"))) (hp : plainE env e) (he : Ev prog w X R I k env e (.int i)) (hn : i = n) :
    Ev prog w X R I k env (.Call (.Name x np) [e] [] pos) (.rng n) := by
  subst hn
  exact Ev.callT r st hf hp (fun _ => rfl) (EvL.cons r st hp he (EvL.nil r)) (Ca.range r hu)
end
section
variable {prog : Program} {w : World} {R : Heap → Heap → Prop} {G : Heap → Prop} {k : Room} {h₀ : Heap} {env : Env} {ρ : Rho}
theorem upd_weak {ρ : Rho} {x : Str} {d : D} (h : ρ x = none) : ∀ y e, ρ y = some e → upd ρ x d y = some e := fun y e q => by
  by_cases z : y = x
  · subst z; rw [h] at q; cases q
  · simp [upd, z, q]
-- every turn comes back to the same names
theorem Lo.all {ds : List D} {target : Expr} {body : List Stmt} (ht : ∀ (i : Nat) d, ds[i]? = some d → ∃ ρ₁, As prog w X R G h₀ env ρ target d ρ₁ ∧ Ex prog w X R G k h₀ env ρ₁ body (.next ρ)) : ∀ n i, n + i = ds.length → Lo prog w X R G k h₀ env ds target body [] (.next ρ) i ρ
  | 0, i, e => Lo.end_ (by lia)
  | n + 1, i, e => by
    have hi : i < ds.length := by lia
    obtain ⟨ρ₁, a, b⟩ := ht i ds[i] (by simp [hi])
    exact .turn (by simp [hi]) a b (Lo.all ht n (i + 1) (by lia))
-- the j-th turn leaves
theorem Lo.leave {ds : List D} {target : Expr} {body : List Stmt} {d' : D} {j : Nat} (hj : j < ds.length) (ht : ∀ i d, i < j → ds[i]? = some d → ∃ ρ₁, As prog w X R G h₀ env ρ target d ρ₁ ∧ Ex prog w X R G k h₀ env ρ₁ body (.next ρ))
    (hl : ∀ d, ds[j]? = some d → ∃ ρ₁, As prog w X R G h₀ env ρ target d ρ₁ ∧ Ex prog w X R G k h₀ env ρ₁ body (.ret d')) : ∀ n i, n + i = j → Lo prog w X R G k h₀ env ds target body [] (.ret d') i ρ
  | 0, i, e => by
    have : i = j := by lia
    subst this
    obtain ⟨ρ₁, a, b⟩ := hl ds[i] (by simp [hj])
    exact .ret (by simp [hj]) a b rfl
  | n + 1, i, e => by
    have hi : i < ds.length := by lia
    obtain ⟨ρ₁, a, b⟩ := ht i ds[i] (by lia) (by simp [hi])
    exact .turn (by simp [hi]) a b (Lo.leave hj ht hl n (i + 1) (by lia))
end
end
section
theorem fm_range {α : Type} (l : List α) (a : Nat) : ∀ n, (List.range n).filterMap (fun i => l[a + i]?) = (l.drop a).take n
  | 0 => by simp
  | n + 1 => by
    rw [List.range_succ, List.filterMap_append, fm_range l a n, List.take_succ, List.getElem?_drop]
    cases h : l[a + n]? <;> simp [h]
theorem pick_plain (l : List D) (lo hi : Option Int) : pickD l lo hi none = (l.drop (lo.elim 0 (clipAt l.length))).take (hi.elim l.length (clipAt l.length) - lo.elim 0 (clipAt l.length)) := by
  unfold pickD
  rw [sliceBounds_plain]
  dsimp only
  rw [sliceRange_one, List.filterMap_map]
  exact fm_range l _ _
theorem clip_nat (n j : Nat) : clipAt n (j : Int) = min j n := by
  unfold clipAt
  rw [if_neg (Int.not_lt.mpr (Int.natCast_nonneg j))]
  rcases Nat.le_total j n with h | h
  · rw [Int.min_eq_left (Int.ofNat_le.mpr h), Int.max_eq_right (Int.natCast_nonneg j), Int.toNat_natCast, Nat.min_eq_left h]
  · rw [Int.min_eq_right (Int.ofNat_le.mpr h), Int.max_eq_right (Int.natCast_nonneg n), Int.toNat_natCast, Nat.min_eq_right h]
theorem clip_le (n : Nat) (i : Int) : clipAt n i ≤ n := Int.toNat_le.mpr (Int.max_le.mpr ⟨Int.natCast_nonneg n, Int.min_le_right ..⟩)
theorem clip_pos {n : Nat} {i : Int} (h0 : 0 ≤ i) (h1 : i ≤ n) : clipAt n i = i.toNat := by
  obtain ⟨j, rfl⟩ := Int.eq_ofNat_of_zero_le h0
  exact (clip_nat n j).trans (Nat.min_eq_left (Int.ofNat_le.mp h1))
theorem clip_neg1 : ∀ n, clipAt n (-1) = n - 1
  | 0 => rfl
  | n + 1 => by
    unfold clipAt
    rw [if_pos (by decide), show -1 + ((n + 1 : Nat) : Int) = n by rw [Int.natCast_add, Int.add_comm, Int.add_assoc]; exact Int.add_zero _, Int.min_eq_left (Int.ofNat_le.mpr (Nat.le_succ n)), Int.max_eq_right (Int.natCast_nonneg n), Int.toNat_natCast]
    rfl
theorem pick_take (l : List D) {j : Nat} (h : j ≤ l.length) : pickD l none (some (j : Int)) none = l.take j := by
  rw [pick_plain]
  have : clipAt l.length (j : Int) = j := (clip_nat ..).trans (Nat.min_eq_left h)
  simp [this]
theorem pick_drop (l : List D) {j : Nat} : pickD l (some (j : Int)) none none = l.drop j := by
  rw [pick_plain]
  simp only [Option.elim]
  rw [clip_nat]
  by_cases h : j ≤ l.length
  · rw [Nat.min_eq_left h, List.take_of_length_le (by simp)]
  · rw [Nat.min_eq_right (by omega), List.drop_eq_nil_of_le (Nat.le_refl _), List.drop_eq_nil_of_le (by omega)]; simp
theorem pick_butLast (l : List D) : pickD l none (some (-1)) none = l.dropLast := by
  rw [pick_plain]
  simp [clip_neg1, List.dropLast_eq_take]
end
section
variable {X : Addr → Prop}
-- one more is known
noncomputable def Ext (ρ ρ' : Rho) : Prop := ∀ x d, ρ x = some d → ρ' x = some d
theorem Ext.refl (ρ : Rho) : Ext ρ ρ := fun _ _ e => e
section
variable {prog : Program} {w : World} {R : Heap → Heap → Prop} {G : Heap → Prop} {k : Room} {h₀ : Heap} {env : Env} {ρ ρ' : Rho}
theorem As.mono {target : Expr} {d : D} {ρ₁ : Rho} (h : As prog w X R G h₀ env ρ target d ρ₁) (e : Ext ρ ρ') : As prog w X R G h₀ env ρ' target d ρ₁ :=
  .mk fun A s Q E v hh S rv q => h.run A s Q E v hh (S.weak e) rv q
theorem Cl.last {elt : Expr} {gens : List Comprehension} {dep : Nat} {g : Comprehension} (hg : gens[dep]? = some g) (hn : gens[dep + 1]? = none) {α : Type} (dc : α → D) (p : α → Bool) (f : α → D) :
    ∀ (l : List α) (pre : List α) (ρ' : Rho) (acc : List D), Ext ρ ρ' → (∀ a ∈ l, ∃ ρ₁, Ext ρ ρ₁ ∧ As prog w X R G h₀ env ρ g.target (dc a) ρ₁ ∧ Ts prog w X R G k h₀ env ρ₁ g.ifs (p a) ∧ (p a = true → Ev prog w X R (St X R G h₀ env ρ₁) k env elt (f a))) →
      Cl prog w X R G k h₀ env elt gens dep ((pre ++ l).map dc) pre.length ρ' acc ρ (acc ++ (l.filter p).map f)
  | [], pre, ρ', acc, e, _ => by
    rw [List.append_nil]
    simpa using Cl.done (prog := prog) (w := w) (X := X) (R := R) (G := G) (k := k) (h₀ := h₀) (env := env) (elt := elt) (acc := acc) (i := pre.length) (ds := pre.map dc) hg (by simp) e
  | a :: l, pre, ρ', acc, e, h => by
    obtain ⟨ρ₁, e1, as, ts, ev⟩ := h a (.head _)
    have hd : ((pre ++ a :: l).map dc)[pre.length]? = some (dc a) := by simp
    have hq : pre ++ a :: l = (pre ++ [a]) ++ l := by simp
    cases hp : p a with
    | true =>
      have ih := Cl.last hg hn dc p f l (pre ++ [a]) ρ₁ (acc ++ [f a]) e1 fun b hb => h b (.tail _ hb)
      rw [hp] at ts
      refine .emit hg hn hd (as.mono e) ts (ev hp) ?_
      rw [hq]
      simpa [hp] using ih
    | false =>
      have ih := Cl.last hg hn dc p f l (pre ++ [a]) ρ₁ acc e1 fun b hb => h b (.tail _ hb)
      rw [hp] at ts
      refine .skip hg hd (as.mono e) ts ?_
      rw [hq]
      simpa [hp] using ih
theorem Cl.nest {elt : Expr} {gens : List Comprehension} {dep : Nat} {g g' : Comprehension} (hg : gens[dep]? = some g) (hn : gens[dep + 1]? = some g') (hf : ∀ x, foldedSetIterable g'.iter env x = pure x) {α : Type} (dc : α → D) (p : α → Bool) (f : α → List D) :
    ∀ (l : List α) (pre : List α) (ρ' : Rho) (acc : List D), Ext ρ ρ' → (∀ a ∈ l, ∃ ρ₁, Ext ρ ρ₁ ∧ As prog w X R G h₀ env ρ g.target (dc a) ρ₁ ∧ Ts prog w X R G k h₀ env ρ₁ g.ifs (p a) ∧ (p a = true → ∃ d' ds' ρ₂, Ext ρ ρ₂ ∧ Ev prog w X R (St X R G h₀ env ρ₁) k env g'.iter d' ∧ Goes d' ds' ∧ ∀ acc, Cl prog w X R G k h₀ env elt gens (dep + 1) ds' 0 ρ₁ acc ρ₂ (acc ++ f a))) →
      Cl prog w X R G k h₀ env elt gens dep ((pre ++ l).map dc) pre.length ρ' acc ρ (acc ++ (l.filter p).flatMap f)
  | [], pre, ρ', acc, e, _ => by
    rw [List.append_nil]
    simpa using Cl.done (prog := prog) (w := w) (X := X) (R := R) (G := G) (k := k) (h₀ := h₀) (env := env) (elt := elt) (acc := acc) (i := pre.length) (ds := pre.map dc) hg (by simp) e
  | a :: l, pre, ρ', acc, e, h => by
    obtain ⟨ρ₁, e1, as, ts, ev⟩ := h a (.head _)
    have hd : ((pre ++ a :: l).map dc)[pre.length]? = some (dc a) := by simp
    have hq : pre ++ a :: l = (pre ++ [a]) ++ l := by simp
    cases hp : p a with
    | true =>
      obtain ⟨d', ds', ρ₂, e2, ev', go, cl⟩ := ev hp
      have ih := Cl.nest hg hn hf dc p f l (pre ++ [a]) ρ₂ (acc ++ f a) e2 fun b hb => h b (.tail _ hb)
      rw [hp] at ts
      refine .inner hg hn hd (as.mono e) ts ev' go hf (cl acc) ?_
      rw [hq]
      simpa [hp, List.append_assoc] using ih
    | false =>
      have ih := Cl.nest hg hn hf dc p f l (pre ++ [a]) ρ₁ acc e1 fun b hb => h b (.tail _ hb)
      rw [hp] at ts
      refine .skip hg hd (as.mono e) ts ?_
      rw [hq]
      simpa [hp] using ih
-- a comprehension of one clause
theorem Ev.comp1 (r : Rel R) (hG : Static R G) (hca : k.calm = true) {elt target iter : Expr} {ifs : List Expr} {scope : Scope} {pos : Pos} {cl : List (Str × Addr)} {d : D} {α : Type} {l : List α} {dc : α → D} {p : α → Bool} {f : α → D}
    (so : ScopeOk scope cl env) (hf : ∀ x, foldedSetIterable iter env x = pure x) (he : Ev prog w X R (St X R G h₀ env ρ) k env iter d) (go : Goes d (l.map dc)) (hsz : l.length ≤ sizeLine)
    (h : ∀ h₁ L C, G h₁ → (h₁.objs.size ≤ L ∧ h₁.objs.size ≤ C) → ∀ a ∈ l, ∃ ρ₁, Ext (rhoC scope ρ) ρ₁ ∧ As prog w (Less X L) R G h₁ (compEnv scope cl C env) (rhoC scope ρ) target (dc a) ρ₁ ∧ Ts prog w (Less X L) R G k h₁ (compEnv scope cl C env) ρ₁ ifs (p a) ∧
      (p a = true → Ev prog w (Less X L) R (St (Less X L) R G h₁ (compEnv scope cl C env) ρ₁) k (compEnv scope cl C env) elt (f a))) :
    Ev prog w X R (St X R G h₀ env ρ) k env (.ListComp elt [⟨target, iter, ifs, 0⟩] scope pos) (.list ((l.filter p).map f)) :=
  Ev.comp r hG hca so hf he go (by rw [List.length_map]; exact Nat.le_trans (List.length_filter_le ..) hsz) (fun _ h => nomatch h) fun h₁ L C G lt =>
    ⟨_, by simpa using Cl.last (g := ⟨target, iter, ifs, 0⟩) (gens := [⟨target, iter, ifs, 0⟩]) (dep := 0) rfl rfl dc p f l [] (rhoC scope ρ) [] (Ext.refl _) (h h₁ L C G lt)⟩
theorem Ev.compM (r : Rel R) (hG : Static R G) (hca : k.calm = true) {elt target iter : Expr} {scope : Scope} {pos : Pos} {cl : List (Str × Addr)} {d : D} {α : Type} {l : List α} {dc : α → D} {f : α → D}
    (so : ScopeOk scope cl env) (hf : ∀ x, foldedSetIterable iter env x = pure x) (he : Ev prog w X R (St X R G h₀ env ρ) k env iter d) (go : Goes d (l.map dc)) (hsz : l.length ≤ sizeLine)
    (h : ∀ h₁ L C, G h₁ → (h₁.objs.size ≤ L ∧ h₁.objs.size ≤ C) → ∀ a ∈ l, ∃ ρ₁, Ext (rhoC scope ρ) ρ₁ ∧ As prog w (Less X L) R G h₁ (compEnv scope cl C env) (rhoC scope ρ) target (dc a) ρ₁ ∧
      Ev prog w (Less X L) R (St (Less X L) R G h₁ (compEnv scope cl C env) ρ₁) k (compEnv scope cl C env) elt (f a)) :
    Ev prog w X R (St X R G h₀ env ρ) k env (.ListComp elt [⟨target, iter, [], 0⟩] scope pos) (.list (l.map f)) := by
  have := Ev.comp1 (p := fun _ => true) (f := f) (elt := elt) (pos := pos) r hG hca so hf he go hsz fun h₁ L C G lt a ha => by
    obtain ⟨ρ₁, a1, a2, a3⟩ := h h₁ L C G lt a ha
    exact ⟨ρ₁, a1, a2, Ts.nil r, fun _ => a3⟩
  rw [List.filter_eq_self.mpr (fun _ _ => rfl)] at this
  exact this
-- the same, bound to a local name on its own line
theorem Ex1.assignM (r : Rel R) (hG : Static R G) (hca : k.calm = true) {x : Str} {p pos cpos : Pos} {elt target iter : Expr} {scope : Scope} {cl : List (Str × Addr)} {d : D} {α : Type} {l : List α} {dc : α → D} {f : α → D}
    (hw : swapsWith (.ListComp elt [⟨target, iter, [], 0⟩] scope cpos) (some (.Name x p)) pos.line env = pure true)
    (hx : env.kindOf x = some .local) (hxc : env.cells.lookup x = none) (hp : (env.scope.kind == .class || (env.scope.kind == .module && env.locals != env.globals)) = false)
    (so : ScopeOk scope cl env) (hf : ∀ x, foldedSetIterable iter env x = pure x) (he : Ev prog w X R (St X R G h₀ env ρ) k env iter d) (go : Goes d (l.map dc)) (hsz : l.length ≤ sizeLine)
    (h : ∀ h₁ L C, G h₁ → (h₁.objs.size ≤ L ∧ h₁.objs.size ≤ C) → ∀ a ∈ l, ∃ ρ₁, Ext (rhoC scope ρ) ρ₁ ∧ As prog w (Less X L) R G h₁ (compEnv scope cl C env) (rhoC scope ρ) target (dc a) ρ₁ ∧
      Ev prog w (Less X L) R (St (Less X L) R G h₁ (compEnv scope cl C env) ρ₁) k (compEnv scope cl C env) elt (f a)) :
    Ex1 prog w X R G k h₀ env ρ (.Assign [.Name x p] (.ListComp elt [⟨target, iter, [], 0⟩] scope cpos) pos) (.next (upd ρ x (.list (l.map f)))) :=
  Ex1.assignC r hG hca hw hx hxc hp so hf he go (by rw [List.length_map]; exact hsz) (fun _ h => nomatch h) fun h₁ L C G lt => ⟨rhoC scope ρ, by
    have := Cl.last (prog := prog) (w := w) (X := Less X L) (R := R) (G := ‹_›) (k := k) (h₀ := h₁) (env := compEnv scope cl C env) (elt := elt) (g := ⟨target, iter, [], 0⟩) (gens := [⟨target, iter, [], 0⟩]) (dep := 0) rfl rfl dc (fun _ => true) f l [] (rhoC scope ρ) [] (Ext.refl _) (fun a ha => by
      obtain ⟨ρ₁, a1, a2, a3⟩ := h h₁ L C G lt a ha
      exact ⟨ρ₁, a1, a2, Ts.nil r, fun _ => a3⟩)
    rw [List.filter_eq_self.mpr (fun _ _ => rfl)] at this
    simpa using this⟩
theorem upd_ext {ρ : Rho} {x : Str} {d : D} (h : ρ x = none) : Ext ρ (upd ρ x d) := upd_weak h
end
end
section
variable {X : Addr → Prop}
-- the cells that a scope takes from its surroundings
noncomputable def clOf (scope : Scope) (env : Env) : List (Str × Addr) := ((scope.names.filter fun p => p.2 == .free).map fun p => (p.1, (env.cells.lookup p.1).getD 0)).reverse
theorem clos_of {env : Env} : ∀ (names : List (Str × NameKind)) (acc : List (Str × Addr)), (names.all fun p => p.2 != .free || (env.cells.lookup p.1).isSome) = true →
    (forIn names acc fun (p : Str × NameKind) (cs : List (Str × Addr)) => (if (p.2 == NameKind.free) = true then do let a ← cellOf env p.1; pure (ForInStep.yield ((p.1, a) :: cs)) else pure (ForInStep.yield cs) : Sem (ForInStep (List (Str × Addr))))) = (pure (((names.filter fun p => p.2 == .free).map fun p => (p.1, (env.cells.lookup p.1).getD 0)).reverse ++ acc) : Sem (List (Str × Addr)))
  | [], acc, _ => by simp
  | (n, kd) :: names, acc, h => by
    simp only [List.all_cons, Bool.and_eq_true] at h
    rw [List.forIn_cons]
    by_cases q : kd = .free
    · subst q
      have h1 : (env.cells.lookup n).isSome = true := by simpa using h.1
      obtain ⟨c, hc⟩ := Option.isSome_iff_exists.mp h1
      have e : cellOf env n = pure c := by unfold cellOf; rw [hc]
      simp only [e, pure_bind, beq_self_eq_true, if_true]
      rw [clos_of names _ h.2]
      simp [hc]
    · have e : (kd == NameKind.free) = false := by simpa using q
      simp only [e, Bool.false_eq_true, if_false, pure_bind]
      rw [clos_of names _ h.2]
      simp [e]
theorem scopeOk_of {scope : Scope} {env : Env} (hk : scope.kind = .function) (h1 : (scope.names.all fun p => p.2 != .local || scope.names.lookup p.1 == some .local) = true) (h2 : cellsOk scope.names = true)
    (h3 : (scope.names.all fun p => p.2 != .free || (env.cells.lookup p.1).isSome) = true) : ScopeOk scope (clOf scope env) env where
  clos := by
    have := clos_of scope.names [] h3
    unfold closureFor clOf
    simp only [List.append_nil] at this
    rw [← this]
    refine Eq.trans ?_ (bind_pure _)
    refine congrArg (fun F => (forIn scope.names [] F : Sem (List (Str × Addr))) >>= pure) (funext fun p => funext fun cs => ?_)
    obtain ⟨n, kd⟩ := p
    rfl
  kind := hk
  names := fun x hx e => by
    have := List.all_eq_true.mp h1 x hx
    simpa [e] using this
  ok := h2
  cl := fun x c e => by
    have m := lookup_mem e
    unfold clOf at m
    rw [List.mem_reverse, List.mem_map] at m
    obtain ⟨p, hp, q⟩ := m
    obtain ⟨q1, q2⟩ := Prod.mk.inj q
    subst q1
    obtain ⟨hp1, hp2⟩ := List.mem_filter.mp hp
    have := List.all_eq_true.mp h3 p hp1
    have hs : (env.cells.lookup p.1).isSome = true := by
      have h' : p.2 = .free := by simpa using hp2
      simpa [h'] using this
    obtain ⟨c', hc⟩ := Option.isSome_iff_exists.mp hs
    rw [hc] at q2 ⊢
    exact congrArg some q2
section
variable {prog : Program} {w : World} {R : Heap → Heap → Prop} {I : Heap → Prop} {k : Room} {env : Env}
theorem pures_ints : ∀ l : List Int, D.pures (l.map D.int) = true
  | [] => rfl
  | a :: l => by simp [D.pures, D.pure, pures_ints l]
theorem pys_ints : ∀ l : List Int, D.pys (l.map D.int) = l.map PyData.int
  | [] => rfl
  | a :: l => by simp [D.pys, D.py, pys_ints l]
end
section
theorem ints_lay : ∀ l : List Int, PyData.canLayAll0 (l.map PyData.int) = true
  | [] => by simp [PyData.canLayAll0]
  | a :: l => by simp [PyData.canLayAll0, PyData.canLay0, ints_lay l]
theorem ints_depth : ∀ l : List Int, PyData.depthAll (l.map PyData.int) = 0
  | [] => by simp [PyData.depthAll]
  | a :: l => by simp [PyData.depthAll, PyData.depth, ints_depth l]
theorem ints_shaped (l : List Int) : SeqAt.shaped (D.list (l.map D.int)).py = true := by
  simp [D.py, pys_ints, SeqAt.shaped, PyData.canLay0, ints_lay, PyData.depth, ints_depth]
theorem ints_eqv : ∀ l l' : List Int, PyData.eqvAll (l.map PyData.int) (l'.map PyData.int) = decide (l = l')
  | [], [] => by simp [PyData.eqvAll]
  | a :: l, [] => by simp [PyData.eqvAll]
  | [], b :: l' => by simp [PyData.eqvAll]
  | a :: l, b :: l' => by
    simp only [List.map_cons, PyData.eqvAll, PyData.eqv, ints_eqv l l', List.cons.injEq, Bool.decide_and]
    congr 1
variable {prog : Program} {w : World} {R : Heap → Heap → Prop} {I : Heap → Prop} {k : Room}
theorem Op.eqInts (r : Rel R) (a b : List Int) : Op prog w X R I k (compareOp .Eq) (.list (a.map D.int)) (.list (b.map D.int)) (.bool (decide (a = b))) :=
  (Op.eqD r (by simp [D.pure, pures_ints]) (by simp [D.pure, pures_ints]) (ints_shaped a) (ints_shaped b)).of_eq (by simp [D.py, pys_ints, PyData.eqv, ints_eqv])
theorem Op.neInts (r : Rel R) (a b : List Int) : Op prog w X R I k (compareOp .NotEq) (.list (a.map D.int)) (.list (b.map D.int)) (.bool (!decide (a = b))) :=
  (Op.neD r (by simp [D.pure, pures_ints]) (by simp [D.pure, pures_ints]) (ints_shaped a) (ints_shaped b)).of_eq (by simp [D.py, pys_ints, PyData.eqv, ints_eqv])
end
section
variable {prog : Program} {w : World} {R : Heap → Heap → Prop} {I : Heap → Prop} {k : Room} {env : Env} {X : Addr → Prop}
theorem Ev.sliceIto (r : Rel R) (st : Stab R I) (hu : ∀ h, I h → Up X h) {value e : Expr} {p pos : Pos} {l : List Int} {j : Int} (hv : Ev prog w X R I k env value (.list (l.map D.int))) (he : Ev prog w X R I k env e (.int j)) (h0 : 0 ≤ j) (h1 : j ≤ l.length) (hsz : l.length ≤ sizeLine) :
    Ev prog w X R I k env (.Subscript value (.Slice none (some e) none p) pos) (.list ((l.take j.toNat).map D.int)) :=
  (Ev.sliceL (lo := none) (hi := some j) (sp := none) r st hu hv (Pt.none r) (Pt.some he) (Pt.none r) (fun h => by cases h) (by simpa using hsz)).of_eq (by
    obtain ⟨n, rfl⟩ := Int.eq_ofNat_of_zero_le h0
    rw [pick_take _ (by simp; lia)]
    simp [List.map_take])
theorem Ev.sliceIfrom (r : Rel R) (st : Stab R I) (hu : ∀ h, I h → Up X h) {value e : Expr} {p pos : Pos} {l : List Int} {j : Int} (hv : Ev prog w X R I k env value (.list (l.map D.int))) (he : Ev prog w X R I k env e (.int j)) (h0 : 0 ≤ j) (hsz : l.length ≤ sizeLine) :
    Ev prog w X R I k env (.Subscript value (.Slice (some e) none none p) pos) (.list ((l.drop j.toNat).map D.int)) :=
  (Ev.sliceL (lo := some j) (hi := none) (sp := none) r st hu hv (Pt.some he) (Pt.none r) (Pt.none r) (fun h => by cases h) (by simpa using hsz)).of_eq (by
    obtain ⟨n, rfl⟩ := Int.eq_ofNat_of_zero_le h0
    rw [pick_drop]
    simp [List.map_drop])
theorem Ev.sliceIlast (r : Rel R) (st : Stab R I) (hu : ∀ h, I h → Up X h) {value : Expr} {n : Nat} {p p1 p2 pos : Pos} {l : List Int} (hv : Ev prog w X R I k env value (.list (l.map D.int))) (hsz : l.length ≤ sizeLine) :
    Ev prog w X R I k env (.Subscript value (.Slice none (some (.UnaryOp .USub (.Constant (.int 1) n p1) p2)) none p) pos) (.list (l.dropLast.map D.int)) :=
  (Ev.sliceL (lo := none) (hi := some (-1)) (sp := none) r st hu hv (Pt.none r) (Pt.some (Ev.neg r (Ev.int r))) (Pt.none r) (fun h => by cases h) (by simpa using hsz)).of_eq (by
    rw [pick_butLast]
    simp [List.map_dropLast])
theorem Op.addI (r : Rel R) (hu : ∀ h, I h → Up X h) {a b : List Int} (hs : a.length + b.length ≤ sizeLine) : Op prog w X R I k (binaryOp .Add) (.list (a.map D.int)) (.list (b.map D.int)) (.list ((a ++ b).map D.int)) :=
  (Op.addL r hu (by simpa using hs)).of_eq (by simp)
theorem Op.addI1 (r : Rel R) (hu : ∀ h, I h → Up X h) {a : List Int} {o : Int} (hs : a.length + 1 ≤ sizeLine) : Op prog w X R I k (binaryOp .Add) (.list (a.map D.int)) (.list [.int o]) (.list ((a ++ [o]).map D.int)) :=
  (Op.addL r hu (by simpa using hs)).of_eq (by simp)
-- the place of an int in a list of ints
theorem Ev.indexI (r : Rel R) (st : Stab R I) {ox e : Expr} {apos pos : Pos} {l : List Int} {a : Int} {j : Nat} (hb : attributeBase ox "index" env (eval ox env) = eval ox env)
    (hfew : ((backTo pos (starEach [e] env)).all (fun x => !x.1) && (backToKw pos (keywordEach [] env)).all (fun x => x.1.isSome) && decide ([e].length + ([] : List Keyword).length + (if ([] : List Keyword).isEmpty then 0 else 1) < 30)) = true)
    (hline : (apos.endLine == pos.line) = true) (hp : plainE env e) (hv : Ev prog w X R I k env ox (.list (l.map D.int))) (he : Ev prog w X R I k env e (.int a)) (hj : l[j]? = some a) (hno : ∀ m, m < j → l[m]? ≠ some a) (hsz : l.length ≤ sizeLine) :
    Ev prog w X R I k env (.Call (.Attribute ox "index" apos) [e] [] pos) (.int j) :=
  Ev.meth r st hb hfew hline F.plainAttrs_list F.slot_list_index F.type_list_index (typeList _) hp (by rfl) hv (EvL.cons r st hp he (EvL.nil r)) (Ca.indexL r hj hno hsz)
end
end
section
variable {X : Addr → Prop}
noncomputable abbrev frs (l : List Env) : List Addr := l.filterMap (·.frame)
-- the frames below stand
noncomputable def FF (B : Nat) (h : Heap) (l : List Env) : Prop := ∀ env ∈ l, env.scope.kind = .function ∧ ∃ L o, env.frame = some L ∧ B ≤ L ∧ h.get? L = some o ∧ ∃ es n, o.data = .dict es n
theorem FF.kp {B : Nat} {h h' : Heap} {l : List Env} (f : FF B h l) (k : Kp h h') : FF B h' l := fun env he => by
  obtain ⟨hk, L, o, hf, hb, ho, es, n, hd⟩ := f env he
  refine ⟨hk, L, ?_⟩
  rcases k L o ho (fun t => by obtain ⟨_, vs, e⟩ := t; rw [hd] at e; cases e) with e | ⟨_, sl, e⟩
  · exact ⟨o, hf, hb, e, es, n, hd⟩
  · exact ⟨_, hf, hb, e, es, n, hd⟩
theorem FF.fun {B : Nat} {h base : Heap} : ∀ {l : List Env}, FF B h l → (∀ a ∈ frs l, base.get? a = none) → h.FunFrames base l
  | [], _, _ => trivial
  | env :: l, f, hn => by
    obtain ⟨hk, L, o, hf, hb, ho, es, n, hd⟩ := f env (.head _)
    refine ⟨by rw [hk]; simp, ⟨L, o, hf, hn L (by simp [frs, hf]), ho, fun vs e => by rw [hd] at e; cases e⟩, FF.fun (fun e he => f e (.tail _ he)) fun a ha => hn a ?_⟩
    obtain ⟨e, he, q⟩ := List.mem_filterMap.mp ha
    exact List.mem_filterMap.mpr ⟨e, .tail _ he, q⟩
theorem FF.in {B : Nat} {h : Heap} {l : List Env} (f : FF B h l) {a : Addr} (ha : a ∈ frs l) : B ≤ a ∧ ∃ o, h.get? a = some o ∧ ∃ es n, o.data = .dict es n := by
  obtain ⟨env, he, hf⟩ := List.mem_filterMap.mp ha
  obtain ⟨_, L, o, hf', hb, ho, hd⟩ := f env he
  rw [hf] at hf'; cases hf'
  exact ⟨hb, o, ho, hd⟩
-- all is kept but the notes of some frames
noncomputable def Kr (fs : List Addr) (h h' : Heap) : Prop := (∀ b o, h.get? b = some o → b ∉ fs → h'.get? b = some o) ∧ h.UpToSlots h'
-- what a relation must allow where an exception goes by
structure RelX (B : Nat) (R : Heap → Heap → Prop) : Prop extends Rel R where
  slot : ∀ {h h' : Heap} {fs : List Addr}, Kr fs h h' → (∀ a ∈ fs, B ≤ a ∧ ∃ o, h.get? a = some o ∧ ∃ es n, o.data = .dict es n) → R h h'
theorem Kr.kp {B : Nat} {h h' : Heap} {l : List Env} (x : Kr (frs l) h h') (f : FF B h l) : Kp h h' := fun b o e n => by
  by_cases hb : b ∈ frs l
  · obtain ⟨_, o', e', es, m, hd⟩ := f.in hb
    rw [e] at e'; cases e'
    obtain ⟨sl, e2⟩ := x.2 b o e (fun vs q => by rw [hd] at q; cases q)
    exact .inr ⟨⟨es, m, hd⟩, sl, e2⟩
  · exact .inl (x.1 b o e hb)
-- an exception of a class of the text on its way, seen from below
structure Fly (l : List Env) (h₁ : Heap) (e C : Addr) (x : Str) (h : Heap) : Prop where
  fly : ∃ base t tk, Heap.FlyingW base l e (.ref C) (.ref t) h ∧ h.TupAt t [.str x tk] ∧ ∀ b o, h₁.get? b = some o → b ∉ frs l → base.get? b = some o
  up : h₁.UpToSlots h
theorem Fly.kr {l : List Env} {h₁ : Heap} {e C : Addr} {x : Str} {h : Heap} (f : Fly l h₁ e C x h) : Kr (frs l) h₁ h := by
  obtain ⟨base, t, tk, fl, _, hb⟩ := f.fly
  exact ⟨fun b o e n => fl.1 b o (hb b o e n), f.up⟩
section
variable (prog : Program) (w : World) (X : Addr → Prop) (R : Heap → Heap → Prop) (B : Nat)
-- a call that raises
structure CaR (I : Heap → Prop) (k : Room) (l : List Env) (f : Value) (as : List D) (C : Addr) (x : Str) : Prop where
  run : ∀ A (s : Shared) (Q : Value → Shared → Prop) (E : Value → Shared → Prop) vals, OkA k A → A.handled = none → A.frames = some l → FF B s.heap l → I s.heap → RdL X s.heap as vals →
    (∀ e h' t, Fly l s.heap e C x h' → E (.ref e) { s with heap := h', toks := t }) → wpAny (model prog w) A (call f vals) Q E s
-- an expression that raises
structure EvR (I : Heap → Prop) (k : Room) (l : List Env) (env : Env) (e : Expr) (C : Addr) (x : Str) : Prop where
  run : ∀ A (s : Shared) (Q : Value → Shared → Prop) (E : Value → Shared → Prop), OkA k A → A.handled = none → A.frames = some l → FF B s.heap l → I s.heap →
    (∀ e h₁ h' t, R s.heap h₁ → Fly l h₁ e C x h' → E (.ref e) { s with heap := h', toks := t }) → wpAny (model prog w) A (eval e env) Q E s
-- a block that makes an exception and raises it
structure ExM (G : Heap → Prop) (k : Room) (h₀ : Heap) (env : Env) (ρ : Rho) (ss : List Stmt) (C : Addr) (x : Str) : Prop where
  run : ∀ A (s : Shared) (Q : Flow → Shared → Prop) (E : Value → Shared → Prop), OkA k A → A.handled = none → St X R G h₀ env ρ s.heap →
    (∀ ρ' h₁ h' e t tk, St X R G h₀ env ρ' h₁ → Heap.MadeExcOf h₁ h' e (.ref C) [.str x tk] → E (.ref e) { s with heap := h', toks := t }) → wpAny (model prog w) A (execs ss env) Q E s
end
section
variable {prog : Program} {w : World} {R : Heap → Heap → Prop} {B : Nat} {I G : Heap → Prop} {k : Room} {l : List Env} {env : Env} {C : Addr} {x : Str} {h₀ : Heap} {ρ ρ' : Rho}
theorem ExM.cons {st : Stmt} {ss : List Stmt} (h1 : Ex1 prog w X R G k h₀ env ρ st (.next ρ')) (h2 : ExM prog w X R G k h₀ env ρ' ss C x) : ExM prog w X R G k h₀ env ρ (st :: ss) C x :=
  .mk fun A s Q E o hh S q => wpAny_execs_cons (h1.run A s _ _ o S fun h' t S' _ => h2.run A _ _ _ o hh S' fun ρ' h₁ h' e t tk S₁ m => q ρ' h₁ h' e t tk S₁ m)
theorem ExM.ifT (r : Rel R) {test : Expr} {body orelse : List Stmt} {pos : Pos} {ss : List Stmt} (ht : Tr prog w R (St X R G h₀ env ρ) k env test true) (h : ExM prog w X R G k h₀ env ρ body C x) : ExM prog w X R G k h₀ env ρ (.If test body orelse pos :: ss) C x :=
  .mk fun A s Q E o hh S q => wpAny_execs_cons (wpAny_If (ht.run A s _ _ o S fun h1 t1 k1 => h.run A _ _ _ o hh (S.step r k1) fun ρ' h₁ h' e t tk S₁ m => q ρ' h₁ h' e t tk S₁ m))
-- the frame of a def that raises
theorem CaR.fn {n : Nat} {fr : Option (List Env)} {cm : Bool} {fa : Addr} {ob : Obj} {fd : FuncData} {body : List Stmt} {names : List Str} {as : List D} (hob : ob.data = .func fd) (ho : ∀ h, G h → h.get? fa = some ob) (hcd : ∀ h, G h → h.CodeRec fd.code fd.qualname)
    (hlim : ∀ h, G h → h.NoLimit) (hbody : fd.body = .stmts body) (hclo : fd.closure = []) (hco : fd.scope.isCoroutine = false) (hgen : fd.scope.isGenerator = false) (hk : fd.scope.kind = .function) (hok : cellsOk fd.scope.names = true)
    (hlen : as.length = names.length) (hbind : ∀ vals : List Value, vals.length = names.length → bindArgs fd ⟨vals, []⟩ = pure (names.zip vals))
    (hkind : ∀ n, ∀ x ∈ names, fd.scope.names.lookup x = some .local ∨ (fd.scope.names.lookup x = some .cell ∧ ((cellsFrom (n + 1) fd.scope.names []).lookup x).isSome = true))
    (hx : ∀ h₀ : Heap, G h₀ → ExM prog w X Kf G ⟨n, fr.map (callEnvC fd h₀.objs.size fa :: ·), cm⟩ h₀ (callEnvC fd h₀.objs.size fa) (rho0 (fun _ => none) names as) body C x) :
    CaR prog w X B (fun h => G h ∧ Up X h) ⟨n + 1, fr, cm⟩ l (.ref fa) as C x :=
  .mk fun A s Q E vals o hh hfr ff i rs q => by
    have hl : vals.length = names.length := by rw [rs.length]; exact hlen
    refine wpAny_call (codeAny_call_cells (by have h : A.depth + (n + 1) ≤ 990 := o.depth; show A.depth < 1000; lia) (ho _ i.1) hob (hlim _ i.1) (hcd _ i.1) hbody (hbind vals hl) hclo ?_ ?_ hco hgen hk)
    · intro x hx
      obtain ⟨a, b⟩ := x
      exact hkind _ _ (List.of_mem_zip hx).1
    · intro s₁ Y
      obtain ⟨h', tk, rfl⟩ := Y.toInCall.same
      have kf : Kf s.heap h' := Y.toInCall.keep
      have rd := rho0_rd (kind := (callEnvC fd s.heap.objs.size fa).kindOf) (names := names) (acc := fun _ => none) (m := fun _ => none) (cm := fun _ => none) (rs.ks kf.ks) (fun x d e => by cases e)
      refine (hx s.heap i.1).run _ _ _ _ o.deeper hh ⟨Rel.kf.full kf, i.1, ⟨_, Y.toInCall.ns, fun x d e kx => (rd x d e).1 kx⟩, fun x c e => ⟨_, Y.cell x c e, fun d ed => ?_⟩, Y.toInCall.fresh, fun x y c e1 e2 => ?_, i.2.kp kf.kp⟩ fun ρ' h₁ h₂ e t tk S₁ m => ?_
      · by_cases kx : (callEnvC fd s.heap.objs.size fa).kindOf x = some .local
        · exfalso
          rcases cellsFrom_mem (lookup_mem e) with m | m
          · have h1 : fd.scope.names.lookup x = some .cell := cellsOk_kind hok m
            have h2 : fd.scope.names.lookup x = some .local := kx
            rw [h1] at h2; cases h2
          · cases m
        · exact (rd x d ed).2 kx
      · exact pair_apart Y.apart (lookup_mem e1) (lookup_mem e2)
      · have k1 : Kf s.heap h₁ := S₁.rel
        have ff1 : FF B h₁ l := ff.kp k1.kp
        obtain ⟨m', ⟨oL, es, ep, hL, hLd, _⟩, _⟩ := S₁.loc
        have lab : s.heap.objs.size ≤ (callEnvC fd s.heap.objs.size fa).locals := S₁.lab
        have hframe : (callEnvC fd s.heap.objs.size fa).frame = some (callEnvC fd s.heap.objs.size fa).locals := rfl
        have notin : ∀ b o, s.heap.get? b = some o → b ∉ frs l → b ∉ frs (callEnvC fd s.heap.objs.size fa :: l) := fun b o e nb hb => by
          have hb' : b = (callEnvC fd s.heap.objs.size fa).locals ∨ b ∈ frs l := by simpa [frs, hframe] using hb
          rcases hb' with q | q
          · exact absurd (Heap.lt_size e) (Nat.not_lt.mpr (q ▸ lab))
          · exact nb q
        refine wpAny_leaves_madeW (base := hideAll h₁ (frs (callEnvC fd s.heap.objs.size fa :: l))) (outer := l) (h := h₁) (by show A.frames.map _ = _; rw [hfr]; rfl) hframe (fun b o e => of_hideAll _ e) ?_ m fun h₃ t3 fl tu _ up => ?_
        · refine ⟨by show fd.scope.kind ≠ .module; rw [hk]; simp, ⟨_, oL, hframe, hideAll_none _ (by simp [frs, hframe]), hL, fun vs e => by rw [hLd] at e; cases e⟩, ff1.fun fun a ha => hideAll_none _ ?_⟩
          have : a ∈ frs (callEnvC fd s.heap.objs.size fa :: l) := by
            have : a = (callEnvC fd s.heap.objs.size fa).locals ∨ a ∈ frs l := .inr ha
            simpa [frs, hframe] using this
          exact this
        · exact q e h₃ t ⟨⟨_, t3, tk, fl, tu, fun b o e' nb => hideAll_get _ (k1 b o e') (notin b o e' nb)⟩, ((Heap.UpToSlots.of_keeps k1).trans (Heap.UpToSlots.of_keeps m.keeps)).trans up⟩
-- a def of the text that raises, called by its name
theorem EvR.callF (r : Rel R) (st : Stab R I) {f : Str} {np pos : Pos} {e : Expr} {es : List Expr} {fa : Addr} {as : List D} {ob : Obj} {fd : FuncData} (hf : Ev prog w X R I k env (.Name f np) (.val (.ref fa)))
    (hob : ob.data = .func fd) (ho : ∀ h, I h → h.get? fa = some ob) (hp : plainE env e) (ha : EvL prog w X R I k env (e :: es) as) (hc : CaR prog w X B I k l (.ref fa) as C x) : EvR prog w R B I k l env (.Call (.Name f np) (e :: es) [] pos) C x :=
  .mk fun A s Q E o hh hfr ff i h => wpAny_Call_NameR (hf.run A s _ _ o i fun vf h1 t1 k1 rf => by
    first | obtain ⟨_, rfl⟩ := rf.int_inv | obtain ⟨_, rfl⟩ := rf.str_inv | obtain rfl := rf.val_inv | obtain rfl := rf.bool_inv | cases rf
    exact callWith_def hob (ha.run A _ _ _ pos o (st _ _ k1 i) fun vs h2 t2 k2 rs => ⟨ho _ (st _ _ k2 (st _ _ k1 i)),
      hc.run A _ _ _ vs o hh hfr ((ff.kp (r.weak k1)).kp (r.weak k2)) (st _ _ k2 (st _ _ k1 i)) rs fun e h' t fl => h e h2 h' t (r.trans k1 k2) fl⟩) (hp _))
theorem EvR.binR (r : Rel R) (st : Stab R I) {a b : Expr} {op : Operator} {pos : Pos} {d : D} (ha : Ev prog w X R I k env a d) (hb : EvR prog w R B I k l env b C x) : EvR prog w R B I k l env (.BinOp a op b pos) C x :=
  .mk fun A s Q E o hh hfr ff i h => wpAny_BinOp (ha.run A s _ _ o i fun va h1 t1 k1 ra => hb.run A _ _ _ o hh hfr (ff.kp (r.weak k1)) (st _ _ k1 i) fun e h₁ h' t kk fl => h e h₁ h' t (r.trans k1 kk) fl)
theorem EvR.list1 {a : Expr} {es : List Expr} {pos : Pos} (hp : plainE env a) (ha : EvR prog w R B I k l env a C x) : EvR prog w R B I k l env (.List (a :: es) pos) C x :=
  .mk fun A s Q E o hh hfr ff i h => wpAny_List (wpAny_items_cons (ha.run A s _ _ o hh hfr ff i h) (hp _))
theorem EvR.tup1 {a : Expr} {es : List Expr} {n : Nat} {pos : Pos} (hp : plainE env a) (ha : EvR prog w R B I k l env a C x) : EvR prog w R B I k l env (.Tuple (a :: es) n pos) C x :=
  .mk fun A s Q E o hh hfr ff i h => wpAny_Tuple (wpAny_items_cons (ha.run A s _ _ o hh hfr ff i h) (hp _))
end
end
section
variable {X : Addr → Prop}
-- what may become of an object: as it was; a frame's notes turned; a code table grown
noncomputable def Turn (B : Nat) (TB : List Addr) (h' : Heap) (b : Addr) (o : Obj) : Prop :=
  h'.get? b = some o ∨ (B ≤ b ∧ (∃ es n, o.data = .dict es n) ∧ ∃ sl, h'.get? b = some { o with slots := sl }) ∨
    ((b ∈ TB ∨ B ≤ b) ∧ o.cls = .none ∧ ∃ vs more, o.data = .fields vs ∧ h'.get? b = some { o with data := .fields (vs ++ more) })
-- the widest relation: T is said of code objects and tables
noncomputable def Rm (B : Nat) (TB : List Addr) (T : Heap → Prop) (h h' : Heap) : Prop := (∀ b o, h.get? b = some o → Turn B TB h' b o) ∧ (T h → T h')
noncomputable def HardT (T : Heap → Prop) : Prop := ∀ h h' : Heap, (∀ x o, h.get? x = some o → hard o → h'.get? x = some o) → T h → T h'
theorem Turn.step {B : Nat} {TB : List Addr} {h' h'' : Heap} {b : Addr} {o : Obj} (t : Turn B TB h' b o) (k : ∀ o', h'.get? b = some o' → Turn B TB h'' b o') : Turn B TB h'' b o := by
  rcases t with e | ⟨hb, ⟨es, n, hd⟩, sl, e⟩ | ⟨hb, hc, vs, more, hd, e⟩
  · exact k _ e
  · rcases k _ e with e | ⟨_, _, sl', e⟩ | ⟨_, _, vs, more, hd', _⟩
    · exact .inr (.inl ⟨hb, ⟨es, n, hd⟩, sl, e⟩)
    · exact .inr (.inl ⟨hb, ⟨es, n, hd⟩, sl', e⟩)
    · have : o.data = .fields vs := hd'
      rw [hd] at this; cases this
  · rcases k _ e with e | ⟨_, ⟨es, n, hd'⟩, _⟩ | ⟨_, _, vs', more', hd', e⟩
    · exact .inr (.inr ⟨hb, hc, vs, more, hd, e⟩)
    · cases hd'
    · cases hd'
      refine .inr (.inr ⟨hb, hc, vs, more ++ more', hd, ?_⟩)
      rw [e, Array.append_assoc]
theorem Rel.rm {B : Nat} {TB : List Addr} {T : Heap → Prop} (ht : HardT T) : RelX B (Rm B TB T) where
  full := fun k => ⟨fun b o e => .inl (k b o e), ht _ _ fun x o e _ => k x o e⟩
  trans := fun x y => ⟨fun b o e => (x.1 b o e).step fun o' e' => y.1 b o' e', fun t => y.2 (x.2 t)⟩
  weak := fun x b o e n => by
    rcases x.1 b o e with e | ⟨_, hd, sl, e⟩ | ⟨_, hc, vs, _, hd, _⟩
    · exact .inl e
    · exact .inr ⟨hd, sl, e⟩
    · exact absurd ⟨hc, vs, hd⟩ n
  above := fun x y z => ⟨fun b o e => (x.1 b o e).step fun o' e' => .inl (y b o' (Heap.lt_size e) e'), fun t => ht _ _ z (x.2 t)⟩
  slot := fun {h h' fs} k hf => ⟨fun b o e => by
      by_cases hb : b ∈ fs
      · obtain ⟨lb, o', e', es, n, hd⟩ := hf b hb
        rw [e] at e'; cases e'
        obtain ⟨sl, e2⟩ := k.2 b o e (fun vs q => by rw [hd] at q; cases q)
        exact .inr (.inl ⟨lb, ⟨es, n, hd⟩, sl, e2⟩)
      · exact .inl (k.1 b o e hb), ht _ _ fun x o e hh => by
      by_cases hb : x ∈ fs
      · obtain ⟨_, o', e', es, n, hd⟩ := hf x hb
        rw [e] at e'; cases e'
        obtain ⟨_, vs, q⟩ := hh
        rw [hd] at q; cases q
      · exact k.1 x o e hb⟩
-- at the end the old objects stand as they stood
theorem Rm.oldK {TB : List Addr} {T : Heap → Prop} {h h' : Heap} (x : Rm h.objs.size TB T h h') (ht : ∀ b ∈ TB, isCodeTable h b) : OldK h h' where
  old := fun b o e => by
    have lt := Heap.lt_size e
    rcases x.1 b o e with e' | ⟨hb, _⟩ | ⟨hb, hc, vs, more, hd, e'⟩
    · exact .inl e'
    · exact absurd lt (Nat.not_lt.mpr hb)
    · rcases hb with hb | hb
      · exact .inr (.inl ⟨ht b hb, hc, vs, more, hd, e'⟩)
      · exact absurd lt (Nat.not_lt.mpr hb)
  there := fun b o e => by
    rcases x.1 b o e with e' | ⟨_, _, sl, e'⟩ | ⟨_, _, vs, more, _, e'⟩ <;> exact ⟨_, e'⟩
end
section
open AutoSeq1 (wpAny_loadPart')
variable {X : Addr → Prop}
theorem called_any {M : Model} {A : Around} {E : Value → Shared → Prop} {s : Shared} {c : Value} {Q : Bool → Shared → Prop} (h : ∀ b, wpAny M A (pure b) Q E s) : wpAny M A (Builtin.SmallTypes.calledThroughType c) Q E s := by
  refine wpAny_bind (wpAny_stack_any fun st => ?_)
  exact h _
theorem meets_enumerate_newT (l : Addr) (items : Array Value) (n : Nat) (dct : Option Addr) (sl : Array (Option Value)) :
    Meets (Builtin.«enumerate.__new__» ⟨[.type "enumerate", .ref l], []⟩) (fun _ R s => s.heap.get? l = some { cls := .type "tuple", dict := dct, data := .seq items n, slots := sl } ∧
      R (.ok (.ret (.ref (s.heap.push { cls := .type "tuple_iterator", data := .fields #[.ref l, .int 0 0] }).objs.size)))
        { s with heap := (s.heap.push { cls := .type "tuple_iterator", data := .fields #[.ref l, .int 0 0] }).push { cls := .type "enumerate", data := .fields #[.none, .bool false, .ref s.heap.objs.size, rawInt 0, .none, .none] } }) :=
  .of_wp fun prog w A R s h => by
    obtain ⟨hp, g, d, tk, os⟩ := s; obtain ⟨hl, h⟩ := h
    have hsub := sub_enumerate
    have hL : Heap.IsTuple (Shared.heap ⟨hp, g, d, tk, os⟩) l items := ⟨_, hl, rfl, n, rfl⟩
    wp_walk using wpAny_loadPart' hl, called_any
    intro b
    cases b <;> (wp_walk using wpAny_loadPart' hl, wpAny_pyIter_tuple hL; exact ⟨_, rfl, h⟩)
section
variable {prog : Program} {w : World} {A : Around} {E : Value → Shared → Prop} {s : Shared}
theorem call_enumerate_tuple {l : Addr} {items : Array Value} {Q : Value → Shared → Prop} (hL : s.heap.IsTuple l items)
    (h : ∀ h', IsEnum h' (s.heap.objs.size + 1) s.heap.objs.size 0 .none → h'.IsTupleIter s.heap.objs.size l 0 → h'.objs.size = s.heap.objs.size + 2 →
      (∀ b o, s.heap.get? b = some o → h'.get? b = some o) → Q (.ref (s.heap.objs.size + 1)) { s with heap := h' }) :
    wpAny (model prog w) A (call (.type "enumerate") [.ref l]) Q E s := by
  obtain ⟨⟨c, dct, dt, sl⟩, hl, hc, n, hd⟩ := hL
  replace hc : c = .type "tuple" := hc
  replace hd : dt = .seq items n := hd
  subst hc hd
  refine callType_new F.called_enumerate (by decide) (F.typeCall_enumerate_1 _) (F.newCall_enumerate_1 _) (fun obj => F.args_object_init_2 obj _) F.entry_enumerate_new
    (meets_enumerate_newT l items n dct sl) ⟨hl, ?_⟩
  have hz : (s.heap.push { cls := .type "tuple_iterator", data := .fields #[.ref l, .int 0 0] }).objs.size = s.heap.objs.size + 1 := Heap.size_push ..
  show _ ∧ _
  rw [hz]
  have he : IsEnum ((s.heap.push { cls := .type "tuple_iterator", data := .fields #[.ref l, .int 0 0] }).push
      { cls := .type "enumerate", data := .fields #[.none, .bool false, .ref s.heap.objs.size, rawInt 0, .none, .none] }) (s.heap.objs.size + 1) s.heap.objs.size 0 .none := by
    have := Heap.get?_push_size (s.heap.push { cls := .type "tuple_iterator", data := .fields #[.ref l, .int 0 0] })
      (o := { cls := .type "enumerate", data := .fields #[.none, .bool false, .ref s.heap.objs.size, rawInt 0, .none, .none] }) rfl
    rw [hz] at this; exact this
  refine ⟨⟨_, he, rfl⟩, h _ he ⟨_, Heap.get?_push_of_some _ (Heap.get?_push_size _ rfl), rfl, rfl⟩ (by rw [Heap.size_push, hz]) fun b o x => Heap.get?_push_of_some _ (Heap.get?_push_of_some _ x)⟩
theorem nextOf_tuple_item {it t : Addr} {i : Nat} {items : Array Value} {x : Value} {Q : Value → Shared → Prop} (hit : s.heap.IsTupleIter it t i)
    (ht : s.heap.IsTuple t items) (hx : items[i]? = some x)
    (hQ : ∀ h', h'.IsTupleIter it t (i + 1) → Heap.SameBut it s.heap h' → Q x { s with heap := h' }) :
    wpAny (model prog w) A (Builtin.SmallTypes.nextOf (.ref it)) Q E s := by
  obtain ⟨o, ho, hc, hd⟩ := id hit
  obtain ⟨ol, hol, _, nl, hdl⟩ := ht
  unfold Builtin.SmallTypes.nextOf
  refine wpAny_bind (wpAny_callSpecial?_slot (name := Str.ofString "__next__") hit.typeIs F.slot_tuple_iterator_next
    (wpAny_call_entry F.slot_tuple_iterator_next hit.typeIs F.entry_tuple_iterator_next ?_ (F.args_tuple_iterator_next_1 _)))
  show wpAny _ _ (field (.ref it) 0 >>= _) _ _ s
  refine wpAny_bind (wpAny_field ho hd (x := .ref t) rfl ?_)
  show wpAny _ _ (if (Value.ref t == Value.none) = true then _ else _) _ _ s
  rw [if_neg (show ¬ ((Value.ref t == Value.none) = true) from Bool.false_ne_true)]
  show wpAny _ _ (field (.ref it) 1 >>= _) _ _ s
  refine wpAny_bind (wpAny_field ho hd (x := .int i 0) rfl ?_)
  show wpAny _ _ (seqItems? (.ref t) >>= _) _ _ s
  refine wpAny_bind (wpAny_seqItems hol hdl ?_)
  simp only [Int.toNat_natCast, hx]
  refine wpAny_bind (wpAny_setField ho hd (by simp) (wpAny_pure ⟨x, rfl, wpAny_pure (hQ _ ?_ (Heap.SameBut.update ..))⟩))
  exact ⟨_, Heap.get?_update_self _ ho (Obj.isFreed_of_fields (Obj.data_mapFields hd _)), (Obj.cls_mapFields ..).trans hc, by
    rw [Obj.data_mapFields hd]; simp [rawInt]⟩
theorem nextOf_tuple_end {it t : Addr} {i : Nat} {items : Array Value} {Q : Value → Shared → Prop} (hh : A.handled = none)
    (hit : s.heap.IsTupleIter it t i) (ht : s.heap.IsTuple t items) (hx : items[i]? = none)
    (hE : ∀ h' e, Heap.ExtBut it s.heap h' → (∃ o, h'.get? e = some o ∧ o.cls = .type "StopIteration") → E (.ref e) { s with heap := h' }) :
    wpAny (model prog w) A (Builtin.SmallTypes.nextOf (.ref it)) Q E s := by
  obtain ⟨o, ho, hc, hd⟩ := id hit
  obtain ⟨ol, hol, _, nl, hdl⟩ := ht
  unfold Builtin.SmallTypes.nextOf
  refine wpAny_bind (wpAny_callSpecial?_slot (name := Str.ofString "__next__") hit.typeIs F.slot_tuple_iterator_next
    (wpAny_call_entry F.slot_tuple_iterator_next hit.typeIs F.entry_tuple_iterator_next ?_ (F.args_tuple_iterator_next_1 _)))
  show wpAny _ _ (field (.ref it) 0 >>= _) _ _ s
  refine wpAny_bind (wpAny_field ho hd (x := .ref t) rfl ?_)
  show wpAny _ _ (if (Value.ref t == Value.none) = true then _ else _) _ _ s
  rw [if_neg (show ¬ ((Value.ref t == Value.none) = true) from Bool.false_ne_true)]
  show wpAny _ _ (field (.ref it) 1 >>= _) _ _ s
  refine wpAny_bind (wpAny_field ho hd (x := .int i 0) rfl ?_)
  show wpAny _ _ (seqItems? (.ref t) >>= _) _ _ s
  refine wpAny_bind (wpAny_seqItems hol hdl ?_)
  simp only [Int.toNat_natCast, hx]
  refine wpAny_bind (wpAny_rule (wpAny_bind (wpAny_setField ho hd (by simp) ?_)))
  show wpAny _ _ (newExc (.type "StopIteration") [] >>= _) _ _ _
  refine wpAny_bind ?_
  simp only [newExc, newTuple]
  refine wpAny_bind (wpAny_newObj_type ?_ (by size_fits))
  refine wpAny_bind (m := firstArgMember _ _) (wpAny_of_eq (a := Value.none) (by first | rfl | (simp only [firstArgMember]; rfl)) ?_)
  refine wpAny_newObj_type ?_ (by size_fits)
  simp only [raiseNew]
  refine wpAny_bind (wpAny_handled ?_)
  first | rw [show A.in1.handled = none from hh] | rw [hh]
  refine wpAny_bind (wpAny_pure (wpAny_throw ?_))
  exact hE _ _ (((Heap.SameBut.update ..).extBut.push _).push _) ⟨_, Heap.get?_push_size _ rfl, rfl⟩
end
theorem Draws.tup {prog : Program} {w : World} {A : Around} (hh : A.handled = none) (it t : Addr) (hne : t ≠ it) (items : Array Value) :
    Draws prog w A it [it, t] items.size (fun i v => items[i]? = some v) (fun i h => h.IsTupleIter it t i ∧ h.IsTuple t items) where
  live := fun _ _ st => let ⟨o, ho, _⟩ := st.1; ⟨o, ho⟩
  frame := fun _ _ _ st hk => ⟨let ⟨o, e, r⟩ := st.1; ⟨o, hk it (by simp) o e, r⟩, let ⟨o, e, r⟩ := st.2; ⟨o, hk t (by simp) o e, r⟩⟩
  item := fun i s Q E hi st hQ => by
    refine nextOf_tuple_item st.1 st.2 (x := items[i]) (by simp [hi]) fun h' hit' hs' => ?_
    exact hQ _ h' s.toks (by simp [hi]) ⟨hit', st.2.extBut hs'.extBut hne⟩ hs'
  done := fun s Q E st hE => nextOf_tuple_end hh st.1 st.2 (by simp) hE
end
section
variable {X : Addr → Prop}
-- an enumeration of a tuple, at a place
structure EnAt (X : Addr → Prop) (h : Heap) (e it : Addr) (i : Nat) (ds : List D) : Prop where
  src : ∃ tp vs n old, X tp ∧ tp ≠ it ∧ tp ≠ e ∧ IsT h tp (List.toArray vs) n ∧ RdL X h ds vs ∧ h.IsTupleIter it tp i ∧ IsEnum h e it i old
  ne : e ≠ it
noncomputable def enumObj (o : Obj) : Prop := (o.cls = .type "enumerate" ∨ o.cls = .type "tuple_iterator") ∧ ∃ vs, o.data = .fields vs
theorem EnAt.objs {h : Heap} {e it : Addr} {i : Nat} {ds : List D} (x : EnAt X h e it i ds) : ∀ a ∈ [e, it], ∃ o, h.get? a = some o ∧ enumObj o := by
  obtain ⟨tp, vs, n, old, _, _, _, _, _, ⟨o, e1, c, d⟩, en⟩ := x.src
  intro a ha
  rcases List.mem_cons.mp ha with q | q
  · subst q; exact ⟨_, en, .inl rfl, _, rfl⟩
  · have q := List.mem_singleton.mp q; subst q; exact ⟨o, e1, .inr c, _, d⟩
noncomputable def ButL (W : List Addr) (h h' : Heap) : Prop := ∀ b o, b ∉ W → h.get? b = some o → h'.get? b = some o
theorem ButL.ks {h h' : Heap} {W : List Addr} (b : ButL W h h') (hW : ∀ a ∈ W, ∃ o, h.get? a = some o ∧ enumObj o) : Ks X h h' := fun c o _ e y => by
  refine b c o (fun q => ?_) e
  obtain ⟨o', e', z, vs, d⟩ := hW c q
  rw [e'] at e; cases e
  rcases y with ⟨xs, n, e2⟩ | ⟨e2, _⟩
  · rw [d] at e2; cases e2
  · rcases z with z | z <;> (rw [z] at e2; simp at e2)
section
variable {prog : Program} {w : World} {R : Heap → Heap → Prop} {G : Heap → Prop} {k : Room} {h₀ : Heap} {env : Env} {ρ ρ' : Rho} {L : Addr} {acc acc' : List D}
theorem ButL.st (r : Rel R) {h h' : Heap} {W : List Addr} (b : ButL W h h') (hW : ∀ a ∈ W, ∃ o, h.get? a = some o ∧ enumObj o) (hit : ∀ a ∈ W, h₀.objs.size ≤ a ∧ X a) (S : St X R G h₀ env ρ h) : St X R G h₀ env ρ h' := by
  refine S.kept (r.above S.rel (fun c o lt e => b c o (fun q => Nat.lt_irrefl _ (Nat.lt_of_lt_of_le lt (hit c q).1)) e) fun c o e y => b c o (fun q => by
    obtain ⟨o', e', z, vs, d⟩ := hW c q
    rw [e'] at e; cases e
    rcases y.1 with y | y <;> rcases z with z | z <;> (rw [z] at y; simp at y)) e) (Kd.exact fun c o e y => ?_) (b.ks hW) (fun a na => let ⟨o, e, nt⟩ := S.up a na; ⟨o, b a o (fun q => na (hit a q).2) e, nt⟩)
  refine b c o (fun q => ?_) e
  obtain ⟨o', e', z, vs, d⟩ := hW c q
  rw [e'] at e; cases e
  rcases y with ⟨xs, n, e2⟩ | ⟨v, e2⟩ <;> (rw [d] at e2; cases e2)
theorem EnAt.kif {h h' : Heap} (k : KiF L h h') {e it : Addr} {i : Nat} {ds : List D} (n1 : e ≠ L) (n2 : it ≠ L) (x : EnAt (Less X L) h e it i ds) : EnAt (Less X L) h' e it i ds := by
  obtain ⟨tp, vs, n, old, p, a1, a2, y, z, ⟨o, e1, c, d⟩, en⟩ := x.src
  exact ⟨⟨tp, vs, n, old, p, a1, a2, k _ _ p.2 y (.inl ⟨_, _, rfl⟩), z.ks k.ks, ⟨o, k _ _ n2 e1 (.inr ⟨by rw [c]; simp, _, d⟩), c, d⟩, k _ _ n1 en (.inr ⟨by simp, _, rfl⟩)⟩, x.ne⟩
variable (prog w X R G k h₀ env L) in
inductive LoE (ds : List D) (ts : List Expr) (body orelse : List Stmt) (o : OutF) : Nat → Rho → List D → Prop
  | done {ρ : Rho} {acc : List D} : ExF prog w X R G k h₀ env L ρ acc orelse o → LoE ds ts body orelse o ds.length ρ acc
  | turn {i : Nat} {ρ ρ₁ ρ' : Rho} {acc acc' : List D} {d : D} : ds[i]? = some d → AsL prog w (Less X L) R G h₀ env ρ ts [.int i, d] ρ₁ → ExF prog w X R G k h₀ env L ρ₁ acc body (.next ρ' acc') → LoE ds ts body orelse o (i + 1) ρ' acc' → LoE ds ts body orelse o i ρ acc
theorem LoE.le {ds : List D} {ts : List Expr} {body orelse : List Stmt} {o : OutF} {j : Nat} (l : LoE X prog w R G k h₀ env L ds ts body orelse o j ρ acc) : j ≤ ds.length := by
  cases l with
  | done => exact Nat.le_refl _
  | turn e => exact Nat.le_of_lt (List.getElem?_eq_some_iff.mp e).1
noncomputable def KW (W : List Addr) (L : Addr) (h h' : Heap) : Prop := ∀ b o, b ∉ W → b ≠ L → h.get? b = some o → ((∃ xs n, o.data = .seq xs n) ∨ (o.cls ≠ .none ∧ ∃ vs, o.data = .fields vs)) → h'.get? b = some o
variable (prog w X R G k h₀ env L) in
inductive InvE (s : Shared) (e it : Addr) (ds : List D) (ts : List Expr) (body orelse : List Stmt) (o : OutF) (n : Nat) : Shared → Prop
  | mk {h' : Heap} {t j : Nat} {ρ : Rho} {acc : List D} : n + j = ds.length → Fl X R G h₀ env ρ L acc h' → EnAt (Less X L) h' e it j ds → KW [e, it] L s.heap h' → LoE X prog w R G k h₀ env L ds ts body orelse o j ρ acc → InvE s e it ds ts body orelse o n { s with heap := h', toks := t }
theorem for_codeE (r : Rel R) (hc : k.calm = true) {A : Around} {s : Shared} {e it : Addr} {ts : List Expr} {tn : Nat} {tp : Pos} {body orelse : List Stmt} {o : OutF} {ds : List D} {i : Nat} {Q : Flow → Shared → Prop} {Ee : Value → Shared → Prop} (ok : OkA k A)
    (hW : ∀ a ∈ [e, it], h₀.objs.size ≤ a ∧ Less X L a) (hn : (assignEach ts env).length = 2) (hstar : (assignEach ts env).findIdx? (·.1) = none)
    (F : Fl X R G h₀ env ρ L acc s.heap) (x : EnAt (Less X L) s.heap e it i ds) (lo : LoE X prog w R G k h₀ env L ds ts body orelse o i ρ acc) (hq : ∀ h' t, KW [e, it] L s.heap h' → o.post X R G h₀ env L { s with heap := h', toks := t } Q) :
    codeAny (model prog w) A (.forLoop (.Tuple ts tn tp) (.ref e) body orelse env) (fun r s' => match r with | .ok f => Q f s' | .error e => Ee e s') s := by
  have butF : ∀ {h h' : Heap} {ρ : Rho} {acc : List D}, ButL [e, it] h h' → (∀ a ∈ [e, it], ∃ o, h.get? a = some o ∧ enumObj o) → Fl X R G h₀ env ρ L acc h → Fl X R G h₀ env ρ L acc h' := fun b x F => by
    obtain ⟨vs, n, l, rl⟩ := F.ls
    exact ⟨b.st r x hW F.st, ⟨vs, n, b _ _ (fun q => (hW _ q).2.2 rfl) l, rl.ks (b.ks x)⟩, F.new, F.xl⟩
  refine forLoop_ab (InvE X prog w R G k h₀ env L s e it ds ts body orelse o) ?_ (ds.length - i) (.mk (t := s.toks) (Nat.sub_add_cancel lo.le) F x (fun _ _ _ _ e _ => e) lo)
  rintro n _ ⟨hn', F, x, kj, lo⟩ Qn E' Q1 hN hS h1' hb hr
  rename_i h' t j ρ acc
  clear hb hr
  obtain ⟨tp', vs, n0, old, p, a1, a2, y, z, u, en⟩ := id x.src
  have hlen : vs.toArray.size = ds.length := by simp [z.length]
  have W := WalksT.enumerateD (prog := prog) (w := w) (A := A) (Draws.tup (A := A.in1) (ok.handled hc) it tp' a1 vs.toArray) e x.ne (by simp [x.ne, Ne.symm a2]) (by simp)
  cases lo with
  | done ex =>
    refine W.done _ _ _ ?_ fun h1 t1 b1 => ?_
    · refine ⟨⟨old, ?_⟩, ?_, isT_tuple y⟩
      · rw [hlen]; exact en
      · rw [hlen]; exact u
    · have b1' : ButL [e, it] h' h1 := fun b o nb e => b1 b o nb e
      exact hN _ (ex.run A _ _ _ ok (butF b1' x.objs F) (hq h1 t1 fun b o nb nl e y => b1 b o nb (kj b o nb nl e y)))
  | turn hd as ex lo' =>
    have lt := (List.getElem?_eq_some_iff.mp hd).1
    obtain ⟨v, hv, rv⟩ := z.get hd
    refine W.item j _ _ _ (by rw [hlen]; exact lt) ⟨⟨old, en⟩, u, isT_tuple y⟩ fun T vals h1 t1 hP hT hIT hM b1 => ?_
    obtain ⟨tk, v', hv', rfl⟩ := hP
    have hv'' : vs[j]? = some v' := by simpa using hv'
    rw [hv] at hv''
    cases hv''
    have b1' : ButL [e, it] h' h1 := fun b o nb e => b1 b o nb e
    have F1 := butF b1' x.objs F
    have objs1 : ∀ a ∈ [e, it], ∃ o, h1.get? a = some o ∧ enumObj o := by
      obtain ⟨⟨xx, ho⟩, hst, _⟩ := id hM
      intro a ha
      rcases List.mem_cons.mp ha with q | q
      · subst q; exact ⟨_, ho, .inl rfl, _, rfl⟩
      · have q := List.mem_singleton.mp q; subst q; obtain ⟨⟨o, e1, c, d⟩, _⟩ := hst; exact ⟨o, e1, .inr c, _, d⟩
    refine hS _ _ (W.go ts tn tp j T _ _ _ hM fun h2 hst2 b2 => ?_)
    have b2' : ButL [e, it] h1 h2 := fun b o nb e => b2 b o nb e
    have F2 := butF b2' objs1 F1
    have ap := W.apart _ _ _ hM
    have hIT2 : h2.IsTuple T #[.int j tk, v] := let ⟨o, e, rr⟩ := hIT; ⟨o, b2 _ _ ap e, rr⟩
    obtain ⟨⟨old2, en2⟩, u2, it2⟩ := hst2
    have k02 : ButL [e, it] h' h2 := fun b o nb e => b2 b o nb (b1 b o nb e)
    have x2 : EnAt (Less X L) h2 e it (j + 1) ds := ⟨⟨tp', vs, n0, old2, p, a1, a2, k02 _ _ (by simp [a1, a2]) y, z.ks (k02.ks x.objs), u2, by simpa using en2⟩, x.ne⟩
    have rv2 : Rd (Less X L) h2 _ v := rv.ks (k02.ks x.objs)
    refine wpAny_assign_Tuple (ok.handled hc) hIT2 (by simp [hn]) hstar fun h3 eb => ?_
    have kf := extBut_kf eb
    have S3 : St (Less X L) R G h₀ env _ h3 := F2.st.step r (r.full kf)
    refine as.run A _ _ _ _ (ok.handled hc) S3 (.cons (.int _ _) (.cons (rv2.ks kf.ks) .nil)) fun h4 t4 S4 k4 => ?_
    have k24 : Ki h2 h4 := kf.kp.ki.trans k4
    have F4 := F2.kept S4 k24
    refine ex.run A _ _ _ ok F4 fun h5 t5 F5 k5 => ?_
    have n1 := (hW e (by simp)).2.2
    have n2 := (hW it (by simp)).2.2
    have k25 : KiF L h2 h5 := k24.f.trans k5
    exact h1' (n - 1) _ (by omega) (.mk (by omega) F5 (x2.kif k25 n1 n2) (fun b o nb nl e y => k25 b o nl (k02 b o nb (kj b o nb nl e y)) y) lo')
end
end
section
open PySem.W.X
noncomputable def hd.view_39 : Program := view PySem.Challenge.pw_oy0140_01 ((List.range 42).filter fun i => !(i == 0 || i == 3 || i == 4 || i == 10 || i == 33))
noncomputable def looseN : List Str := ["_initial_missing", "reduce", "_filemode_table"]
noncomputable def sV (s : Str) (t : Nat) : Value := .str s t
noncomputable def tpO (vs : Array Value) : Obj := { cls := .type "tuple", data := .seq vs }
noncomputable def en (P : Params) (k : Str) (t : Nat) (v : Value) : DictEntry := ⟨PyData.keyHash P k, .str k t, v⟩
noncomputable def cdO (a : Nat) (n : Str) (t : Nat) (l m : Int) (x : Bool) (t2 : Int) (t3 : Nat) : Obj :=
  let b := if x then a - 5 else a - 3
  { cls := .type "code", data := .fields #[.str n t, .str n (t + 1), sV "/claim/cut.py" (t + 2), .int l 0, .int m 0, .int 0 0, .int 0 0, .int 3 0, .ref b, .bool true, .int 181 0, .ref (b + 1), .none,
    if x then .ref (a - 3) else .none, if x then .ref (a - 2) else .none, .ref (a - 1), .int t2 0, .int l 0, sV "/claim/cut.py" t3] }
noncomputable def fnO (i a : Nat) (df m : Value) : Obj := match PySem.Challenge.pw_oy0140_01.main.body[i]? with
  | some (.FunctionDef n ps b _ _ _ sc _ _ _) => { cls := .type "function", data := .func { name := n, qualname := n, params := ps, body := .stmts b, scope := sc, globals := 3, closure := [], defaults := df, kwdefaults := .none, pyModule := m, code := .ref (a - 1) } }
  | _ => default
-- the objects of the text that the walks read
noncomputable def hd.heap_39 (P : Params) : Frag := [
  (20, cdO 20 "cmp_to_key" 189 2 1 true 195 196),
  (29, cdO 29 "reduce" 199 28 3 true 208 209),
  (73, cdO 73 "parse229" 265 47 2 true 275 276),
  (80, cdO 80 "parse257" 278 64 1 true 286 287),
  (87, cdO 87 "S_IFMT" 291 82 1 true 295 296),
  (127, cdO 127 "filemode" 362 104 1 true 371 372),
  (134, cdO 134 "_law_talk" 376 122 3 true 385 386),
  (141, cdO 141 "_law_heard" 388 130 2 true 398 399),
  (148, cdO 148 "_law_listing" 401 143 1 true 408 409),
  (155, cdO 155 "_law_order" 411 149 1 true 418 419),
  (162, cdO 162 "_law_digits" 421 157 1 true 427 428),
  (167, cdO 167 "_law_asked" 430 162 4 false 433 434),
  (174, cdO 174 "_law_stable" 436 175 3 true 444 445),
  (179, cdO 179 "law" 447 181 1 false 450 451),
  (21, fnO 1 21 .none (sV "cpy313.functools" 187)),
  (30, fnO 3 30 (.ref 23) (sV "cpy313.functools" 187)),
  (74, fnO 8 74 .none (sV "cpy313.ftplib" 211)),
  (81, fnO 9 81 .none (sV "cpy313.ftplib" 211)),
  (88, fnO 11 88 .none (sV "cpy313.stat" 289)),
  (128, fnO 32 128 .none (sV "cpy313.stat" 289)),
  (135, fnO 34 135 .none (sV "law_oy0140_01" 374)),
  (142, fnO 35 142 .none (sV "law_oy0140_01" 374)),
  (149, fnO 36 149 .none (sV "law_oy0140_01" 374)),
  (156, fnO 37 156 .none (sV "law_oy0140_01" 374)),
  (163, fnO 38 163 .none (sV "law_oy0140_01" 374)),
  (168, fnO 39 168 .none (sV "law_oy0140_01" 374)),
  (175, fnO 40 175 .none (sV "law_oy0140_01" 374)),
  (180, fnO 41 180 .none (sV "law_oy0140_01" 374)),
  (89, tpO #[.int 40960 308, sV "l" 336]),
  (90, tpO #[.int 49152 310, sV "s" 337]),
  (91, tpO #[.int 32768 304, sV "-" 338]),
  (92, tpO #[.int 24576 302, sV "b" 339]),
  (93, tpO #[.int 16384 298, sV "d" 340]),
  (94, tpO #[.int 8192 300, sV "c" 341]),
  (95, tpO #[.int 4096 306, sV "p" 342]),
  (96, tpO #[.ref 89, .ref 90, .ref 91, .ref 92, .ref 93, .ref 94, .ref 95]),
  (97, tpO #[.int 256 318, sV "r" 343]),
  (98, tpO #[.ref 97]),
  (99, tpO #[.int 128 320, sV "w" 344]),
  (100, tpO #[.ref 99]),
  (101, tpO #[.int 2112 345, sV "s" 346]),
  (102, tpO #[.int 2048 312, sV "S" 347]),
  (103, tpO #[.int 64 322, sV "x" 348]),
  (104, tpO #[.ref 101, .ref 102, .ref 103]),
  (105, tpO #[.int 32 324, sV "r" 349]),
  (106, tpO #[.ref 105]),
  (107, tpO #[.int 16 326, sV "w" 350]),
  (108, tpO #[.ref 107]),
  (109, tpO #[.int 1032 351, sV "s" 352]),
  (110, tpO #[.int 1024 314, sV "S" 353]),
  (111, tpO #[.int 8 328, sV "x" 354]),
  (112, tpO #[.ref 109, .ref 110, .ref 111]),
  (113, tpO #[.int 4 330, sV "r" 355]),
  (114, tpO #[.ref 113]),
  (115, tpO #[.int 2 332, sV "w" 356]),
  (116, tpO #[.ref 115]),
  (117, tpO #[.int 513 357, sV "t" 358]),
  (118, tpO #[.int 512 316, sV "T" 359]),
  (119, tpO #[.int 1 334, sV "x" 360]),
  (120, tpO #[.ref 117, .ref 118, .ref 119]),
  (121, tpO #[.ref 96, .ref 98, .ref 100, .ref 104, .ref 106, .ref 108, .ref 112, .ref 114, .ref 116, .ref 120]),
  (39, { cls := .type "dict", data := .dict #[en P "__module__" 220 (sV "cpy313.ftplib" 211), en P "__firstlineno__" 224 (.int 41 223), en P "__static_attributes__" 225 (.ref 38), en P "__weakref__" 227 (.ref 41), en P "__doc__" 228 .none] 3 }),
  (52, { cls := .type "dict", data := .dict #[en P "__module__" 240 (sV "cpy313.ftplib" 211), en P "__firstlineno__" 244 (.int 43 243), en P "__static_attributes__" 245 (.ref 51), en P "__doc__" 246 .none] 2 }),
  (64, { cls := .type "dict", data := .dict #[en P "__module__" 256 (sV "cpy313.ftplib" 211), en P "__firstlineno__" 260 (.int 45 259), en P "__static_attributes__" 261 (.ref 63), en P "__doc__" 262 .none] 2 }),
  (3, { cls := .type "dict", data := .dict #[en P "__name__" 165 (sV "law_oy0140_01" 374), en P "__doc__" 166 .none, en P "__package__" 167 .none, en P "__loader__" 168 (.builtin "__main__.__loader__#opaque"), en P "__spec__" 169 .none, en P "__annotations__" 170 (.ref 6), en P "__builtins__" 171 (.ref 4), en P "__file__" 173 (sV "/claim/cut.py" 172), en P "__cached__" 174 .none, en P "cmp_to_key" 197 (.ref 21), en P "_initial_missing" 198 (.ref 22), en P "reduce" 210 (.ref 30), en P "Error" 232 (.ref 40), en P "error_reply" 248 (.ref 53), en P "error_proto" 264 (.ref 65), en P "parse229" 277 (.ref 74), en P "parse257" 288 (.ref 81), en P "S_IFMT" 297 (.ref 88), en P "S_IFDIR" 299 (.int 16384 298), en P "S_IFCHR" 301 (.int 8192 300), en P "S_IFBLK" 303 (.int 24576 302), en P "S_IFREG" 305 (.int 32768 304), en P "S_IFIFO" 307 (.int 4096 306), en P "S_IFLNK" 309 (.int 40960 308), en P "S_IFSOCK" 311 (.int 49152 310), en P "S_ISUID" 313 (.int 2048 312), en P "S_ISGID" 315 (.int 1024 314), en P "S_ISVTX" 317 (.int 512 316), en P "S_IRUSR" 319 (.int 256 318), en P "S_IWUSR" 321 (.int 128 320), en P "S_IXUSR" 323 (.int 64 322), en P "S_IRGRP" 325 (.int 32 324), en P "S_IWGRP" 327 (.int 16 326), en P "S_IXGRP" 329 (.int 8 328), en P "S_IROTH" 331 (.int 4 330), en P "S_IWOTH" 333 (.int 2 332), en P "S_IXOTH" 335 (.int 1 334), en P "_filemode_table" 361 (.ref 121), en P "filemode" 373 (.ref 128), en P "_law_talk" 387 (.ref 135), en P "_law_heard" 400 (.ref 142), en P "_law_listing" 410 (.ref 149), en P "_law_order" 420 (.ref 156), en P "_law_digits" 429 (.ref 163), en P "_law_asked" 435 (.ref 168), en P "_law_stable" 446 (.ref 175), en P "law" 452 (.ref 180)] 47 }),
  (2, { cls := .none, data := .dict #[en P "type.__subclasses__.Exception.0" 229 (.int 40 0), en P "type.__subclasses__.Exception.n" 230 (.int 1 0)] 2 }),
  (22, { cls := .type "object" }),
  (40, { cls := .type "type", data := .cls { name := "Error", bases := [.type "Exception"], mro := [.ref 40, .type "Exception", .type "BaseException", .type "object"], ns := 39, qualname := "Error", subclasses := [.ref 53, .ref 65] }, slots := #[some (.ref 31), none, some (sV "Error" 213), some (sV "Error" 221), some (.builtin "Exception.__new__"), some (.bool true)] }),
  (53, { cls := .type "type", data := .cls { name := "error_reply", bases := [.ref 40], mro := [.ref 53, .ref 40, .type "Exception", .type "BaseException", .type "object"], ns := 52, qualname := "error_reply" }, slots := #[some (.ref 44), none, some (sV "error_reply" 233), some (sV "error_reply" 241), some (.builtin "Exception.__new__"), some (.bool true)] }),
  (65, { cls := .type "type", data := .cls { name := "error_proto", bases := [.ref 40], mro := [.ref 65, .ref 40, .type "Exception", .type "BaseException", .type "object"], ns := 64, qualname := "error_proto" }, slots := #[some (.ref 56), none, some (sV "error_proto" 249), some (sV "error_proto" 257), some (.builtin "Exception.__new__"), some (.bool true)] }),
  (23, tpO #[.ref 22]),
  (4, { cls := .type "module", dict := some 0 }),
  (1, { cls := .type "dict", data := .dict #[en P "builtins" 162 (.ref 4), en P "__main__" 163 (.ref 5)] 2 })]
noncomputable def kAs : List Addr := [20, 29, 73, 80, 87, 127, 134, 141, 148, 155, 162, 167, 174, 179, 21, 30, 74, 81, 88, 128, 135, 142, 149, 156, 163, 168, 175, 180, 89, 90, 91, 92, 93, 94, 95, 96, 97, 98, 99, 100, 101, 102, 103, 104, 105, 106, 107, 108, 109, 110, 111, 112, 113, 114, 115, 116, 117, 118, 119, 120, 121, 39, 52, 64, 3, 2, 22, 40, 53, 65, 23, 4, 1]
theorem said_law : OpenLaw.wellSaid PySem.Challenge.rw_oy0140_01 = true := by kernel_rfl
theorem left_law : LeftO PySem.Challenge.pw_oy0140_01 hd.view_39 looseN (fun s => xlAt hd.view_39 [] s && recOk [] s) (kHook hd.heap_39 kAs fun _ => by rfl).obs (kHook hd.heap_39 kAs fun _ => by rfl).val 3054 := by intro w; kernel_rfl
theorem hd {d : DefRec} {kwd : List (Str × PySem.Expr)} (hdef : defOf hd.view_39 (Str.ofString "law") = some (d, kwd)) (hp : PySem.Challenge.pw_oy0140_01.theDef (Str.ofString "law") = some (d.params, d.body, d.scope)) (hk : kwWritten? d.params.kwonlyargs d.params.kw_defaults = some kwd)
    (call : WalkO hd.view_39 looseN (XL hd.view_39 []) (kHook hd.heap_39 kAs fun _ => by rfl).says PySem.Challenge.rw_oy0140_01.row.toRowW d kwd fun f vs => PySem.call f vs) : PySem.Challenge.rw_oy0140_01.Holds := by
  refine holds_law said_law fun said => ?_
  refine holds_open (q := hd.view_39) (loose := looseN) (Xt := fun s => xlAt hd.view_39 [] s && recOk [] s) (XP := XL hd.view_39 []) (Yf := (kHook hd.heap_39 kAs fun _ => by rfl).obs) (Ya := (kHook hd.heap_39 kAs fun _ => by rfl).val) (YP := (kHook hd.heap_39 kAs fun _ => by rfl).says) (N := 3054)
    left_law (Hook.of _) (Hook.keeps _) (fun s e => xl_of s (Bool.and_eq_true_iff.mp e).1) XL.keeps hdef hp hk (fun s e => recFacts_of (Bool.and_eq_true_iff.mp e).2) (by rfl) (by first | assumption | decide +kernel) (by decide +kernel) ⟨rfl, rfl, rfl, rfl, rfl, by decide +kernel⟩ ?hw call
  case hw => w_witness2
end
section
variable {X : Addr → Prop}
noncomputable def objAt (w : World) (a : Addr) : Obj := match (hd.heap_39 w.params).lookup a with | some o => o | none => { cls := .none, data := .plain }
noncomputable def fdAt (w : World) (a : Addr) : FuncData := match (objAt w a).data with | .func fd => fd | _ => default
noncomputable def bodyAt (w : World) (a : Addr) : List Stmt := match (fdAt w a).body with | .stmts b => b | _ => []
-- what stands of the text
structure Gs (w : World) (mg mb : Str → Option Value) (h : Heap) : Prop where
  k : ∀ a o, (hd.heap_39 w.params).lookup a = some o → ¬ tabled o → h.get? a = some o
  g : h.Ns mainGlobals mg
  b : h.Ns builtinsNs mb
  lim : h.NoLimit
  bb : ∀ x : Str, x ≠ "__name__" → mb x = bootBuiltins x
theorem Gs.kf {w : World} {mg mb : Str → Option Value} {h h' : Heap} (k : Kf h h') (G : Gs w mg mb h) : Gs w mg mb h' :=
  ⟨fun a o e n => k a o (G.k a o e n), ns_kd k.kp.kd G.g, ns_kd k.kp.kd G.b, let ⟨mc, a, b⟩ := G.lim; ⟨mc, ns_kd k.kp.kd a, b⟩, G.bb⟩
theorem Gs.stat {w : World} {mg mb : Str → Option Value} : Static Kf (Gs w mg mb) := fun h h' k G => G.kf k

theorem Gs.at {w : World} {mg mb : Str → Option Value} {h : Heap} (G : Gs w mg mb h) {a : Addr} (l : (hd.heap_39 w.params).lookup a = some (objAt w a)) (nt : (objAt w a).cls ≠ .none) : h.get? a = some (objAt w a) := G.k a _ l fun t => nt t.1
-- the names of the text
noncomputable def K3 (w : World) : Frag := [(mainGlobals, objAt w 3)]
theorem Gs.k3 {w : World} {mg mb : Str → Option Value} {h : Heap} (G : Gs w mg mb h) : (K3 w).In h := fun a o e => by
  unfold K3 at e
  rw [List.lookup_cons] at e
  split at e
  · rename_i q
    cases e
    have : a = 3 := by simpa [mainGlobals] using q
    subst this
    exact G.at (by rfl) (by intro h; cases h)
  · cases e
theorem Gs.glob {w : World} {mg mb : Str → Option Value} {h : Heap} (G : Gs w mg mb h) {env : Env} {x : Str} {v : Value} (hk : env.kindOf x = some .globalImplicit) (hg : env.globals = mainGlobals) (e : nsIn (K3 w) mainGlobals x = some (some v)) : ∃ v', Look env h x v' ∧ Rd X h (.val v) v' :=
  ⟨v, .glob hk (hg ▸ G.g) (mg_of G.k3 G.g e), .val v⟩
theorem Gs.blt {w : World} {mg mb : Str → Option Value} {h : Heap} (G : Gs w mg mb h) {env : Env} {x : Str} {v : Value} (hk : env.kindOf x = some .globalImplicit) (hg : env.globals = mainGlobals) (hb : env.builtins = builtinsNs) (e : nsIn (K3 w) mainGlobals x = some none) (ev : bootBuiltins x = some v) (hn : x ≠ "__name__") :
    ∃ v', Look env h x v' ∧ Rd X h (.val v) v' := ⟨v, .blt hk (hg ▸ G.g) (mg_none_of G.k3 G.g e) (hb ▸ G.b) ((G.bb x hn).trans ev), .val v⟩
section
variable {prog : Program} {w : World} {mg mb : Str → Option Value} {k : Nat} {fr : Option (List Env)} {cm : Bool}
-- a def of the text, called
theorem Ca.at (a c : Addr) {names : List Str} {as : List D} {d : D} (l : (hd.heap_39 w.params).lookup a = some (objAt w a)) (nt : (objAt w a).cls ≠ .none) (hob : (objAt w a).data = .func (fdAt w a)) (hbody : (fdAt w a).body = .stmts (bodyAt w a))
    (hc : (fdAt w a).code = .ref c) (lc : (hd.heap_39 w.params).lookup c = some (objAt w c)) (ntc : (objAt w c).cls ≠ .none) (hcd : ∃ vs t, (objAt w c).data = .fields vs ∧ vs[1]? = some (.str (fdAt w a).qualname t))
    (hclo : (fdAt w a).closure = []) (hco : (fdAt w a).scope.isCoroutine = false) (hgen : (fdAt w a).scope.isGenerator = false) (hk : (fdAt w a).scope.kind = .function) (hok : cellsOk (fdAt w a).scope.names = true)
    (hlen : as.length = names.length) (hbind : ∀ vals : List Value, vals.length = names.length → bindArgs (fdAt w a) ⟨vals, []⟩ = pure (names.zip vals))
    (hkind : ∀ n, ∀ x ∈ names, (fdAt w a).scope.names.lookup x = some .local ∨ ((fdAt w a).scope.names.lookup x = some .cell ∧ ((cellsFrom (n + 1) (fdAt w a).scope.names []).lookup x).isSome = true))
    (hx : ∀ h₀ : Heap, Gs w mg mb h₀ → Ex prog w X Kf (Gs w mg mb) ⟨k, fr.map (callEnvC (fdAt w a) h₀.objs.size a :: ·), cm⟩ h₀ (callEnvC (fdAt w a) h₀.objs.size a) (rho0 (fun _ => none) names as) (bodyAt w a) (.ret d)) : Ca prog w X Kf (fun h => Gs w mg mb h ∧ Up X h) ⟨k + 1, fr, cm⟩ (.ref a) as d :=
  Ca.fn Rel.kf hob (fun h G => G.at l nt) (fun h G => let ⟨vs, t, e1, e2⟩ := hcd; ⟨c, _, vs, t, hc, G.at lc ntc, e1, e2⟩) (fun h G => G.lim) hbody hclo hco hgen hk hok hlen hbind hkind hx

theorem ca_S_IFMT {m : Int} : Ca prog w X Kf (fun h => Gs w mg mb h ∧ Up X h) ⟨k + 1, fr, cm⟩ (.ref 88) [.int m] (.int (Builtin.bitAnd m 61440)) := by
  refine Ca.at 88 87 (names := ["mode"]) (by rfl) (by intro h; cases h) (by rfl) (by rfl) (by rfl) (by rfl) (by intro h; cases h) ⟨_, _, by rfl, by rfl⟩ (by rfl) (by rfl) (by rfl) (by rfl) (by kernel_rfl) (by rfl)
    (len1 (fun a => by kernel_rfl)) (fun n x hx => .inl (by simp at hx; subst hx; rfl)) fun h₀ G => ?_
  refine Ex.ret (Ex1.ret Rel.kf (Ev.bin Rel.kf (St.stab Rel.kf) (a := .int m) (b := .int 61440) ?_ ?_ (Op.band Rel.kf)))
  · exact Ev.nm Rel.kf (by rfl) (by rfl)
  · exact Ev.int Rel.kf
end
end
section
variable {X : Addr → Prop}
-- the names that the text reads of its module and of the builtins
noncomputable def gloT : List (Str × Value) := [(Str.ofString "_law_order", .ref 156), (Str.ofString "_law_listing", .ref 149), (Str.ofString "_law_digits", .ref 163), (Str.ofString "_law_asked", .ref 168), (Str.ofString "_law_stable", .ref 175), (Str.ofString "_law_talk", .ref 135), (Str.ofString "_law_heard", .ref 142), (Str.ofString "filemode", .ref 128), (Str.ofString "S_IFMT", .ref 88), (Str.ofString "parse229", .ref 74), (Str.ofString "parse257", .ref 81), (Str.ofString "reduce", .ref 30), (Str.ofString "cmp_to_key", .ref 21), (Str.ofString "error_reply", .ref 53), (Str.ofString "error_proto", .ref 65), (Str.ofString "_filemode_table", .ref 121), (Str.ofString "_initial_missing", .ref 22), (Str.ofString "range", .type "range"), (Str.ofString "len", .builtin "len"), (Str.ofString "str", .type "str"), (Str.ofString "int", .type "int"), (Str.ofString "sum", .builtin "sum"), (Str.ofString "min", .builtin "min"), (Str.ofString "sorted", .builtin "sorted"), (Str.ofString "enumerate", .type "enumerate"), (Str.ofString "iter", .builtin "iter"), (Str.ofString "next", .builtin "next"), (Str.ofString "object", .type "object")]
noncomputable def gloV (x : Str) : Option Value := gloT.lookup x
section
variable {w : World} {mg mb : Str → Option Value} {h : Heap} {env : Env}
noncomputable def GloOk (w : World) (p : Str × Value) : Prop := nsIn (K3 w) mainGlobals p.1 = some (some p.2) ∨ (nsIn (K3 w) mainGlobals p.1 = some none ∧ bootBuiltins p.1 = some p.2 ∧ p.1 ≠ "__name__")
theorem gloM {x : Str} {v : Value} (e : nsIn (K3 w) mainGlobals x = some (some v)) : GloOk w (x, v) := .inl e
theorem gloN {x : Str} {v : Value} (e : nsIn (K3 w) mainGlobals x = some none) (f : bootBuiltins x = some v) (g : x ≠ "__name__") : GloOk w (x, v) := .inr ⟨e, f, g⟩
theorem gloT_ok : ∀ p ∈ gloT, GloOk w p :=
  allC (gloM (by kernel_rfl)) <| allC (gloM (by kernel_rfl)) <| allC (gloM (by kernel_rfl)) <| allC (gloM (by kernel_rfl)) <| allC (gloM (by kernel_rfl)) <| allC (gloM (by kernel_rfl)) <| allC (gloM (by kernel_rfl)) <| allC (gloM (by kernel_rfl)) <| allC (gloM (by kernel_rfl)) <| allC (gloM (by kernel_rfl)) <| allC (gloM (by kernel_rfl)) <| allC (gloM (by kernel_rfl)) <| allC (gloM (by kernel_rfl)) <| allC (gloM (by kernel_rfl)) <| allC (gloM (by kernel_rfl)) <| allC (gloM (by kernel_rfl)) <| allC (gloM (by kernel_rfl)) <| allC (gloN (by kernel_rfl) (by boot_by_name) (by decide +kernel)) <| allC (gloN (by kernel_rfl) (by boot_by_name) (by decide +kernel)) <| allC (gloN (by kernel_rfl) (by boot_by_name) (by decide +kernel)) <| allC (gloN (by kernel_rfl) (by boot_by_name) (by decide +kernel)) <| allC (gloN (by kernel_rfl) (by boot_by_name) (by decide +kernel)) <| allC (gloN (by kernel_rfl) (by boot_by_name) (by decide +kernel)) <| allC (gloN (by kernel_rfl) (by boot_by_name) (by decide +kernel)) <| allC (gloN (by kernel_rfl) (by boot_by_name) (by decide +kernel)) <| allC (gloN (by kernel_rfl) (by boot_by_name) (by decide +kernel)) <| allC (gloN (by kernel_rfl) (by boot_by_name) (by decide +kernel)) <| allC (gloN (by kernel_rfl) (by boot_by_name) (by decide +kernel)) <| all0
noncomputable def gloB (env : Env) (x : Str) : Bool := env.kindOf x == some .globalImplicit && (env.globals == mainGlobals && env.builtins == builtinsNs)
theorem Gs.glo (G : Gs w mg mb h) {x : Str} {v : Value} (c : gloB env x = true) (e : gloV x = some v) : ∃ v', Look env h x v' ∧ Rd X h (.val v) v' := by
  obtain ⟨a, b, d⟩ : env.kindOf x = some .globalImplicit ∧ env.globals = mainGlobals ∧ env.builtins = builtinsNs := by simpa [gloB] using c
  rcases gloT_ok (w := w) _ (lookup_mem e) with e | ⟨e1, e2, e3⟩
  · exact G.glob a b e
  · exact G.blt a b d e1 e2 e3
-- a name of the module or of the builtins, read in a function
noncomputable def gnB (env : Env) (x : Str) : Bool := env.scope.kind == .function && !(x == ("__debug__" : Str)) && gloB env x
theorem Ev.glo {prog : Program} {R : Heap → Heap → Prop} {G : Heap → Prop} {h₀ : Heap} {ρ : Rho} {k : Room} (r : Rel R) (hG : Static R G) (gg : ∀ h, G h → Gs w mg mb h) {x : Str} {pos : Pos} {v : Value} (e : gloV x = some v) (c : gnB env x = true) :
    Ev prog w X R (St X R G h₀ env ρ) k env (.Name x pos) (.val v) := by
  obtain ⟨⟨a, b⟩, d⟩ : (env.scope.kind = .function ∧ (x == ("__debug__" : Str)) = false) ∧ gloB env x = true := by simpa [gnB] using c
  exact Ev.name r a b fun _ S => (gg _ (S.gh r hG)).glo d e
end
end
section
variable {X : Addr → Prop}
section
variable {w : World} {mg mb : Str → Option Value} {h : Heap}
-- the objects of the exception classes
noncomputable def KE (w : World) : Frag := [(53, objAt w 53), (40, objAt w 40), (65, objAt w 65), (52, objAt w 52), (39, objAt w 39), (64, objAt w 64)]
theorem Gs.ke (G : Gs w mg mb h) : (KE w).In h := fun a o e => by
  have key : ∀ (l : List Addr), (∀ b ∈ l, h.get? b = some (objAt w b)) → ∀ a o, (l.map fun b => (b, objAt w b)).lookup a = some o → h.get? a = some o := by
    intro l
    induction l with
    | nil => intro _ a o e; cases e
    | cons b l ih =>
      intro hl a o e
      rw [List.map_cons, List.lookup_cons] at e
      split at e
      · rename_i q
        cases e
        rw [show a = b by simpa using q]
        exact hl b (.head _)
      · exact ih (fun c hc => hl c (.tail _ hc)) a o e
  refine key [53, 40, 65, 52, 39, 64] (fun b hb => ?_) a o e
  simp only [List.mem_cons, List.not_mem_nil, or_false] at hb
  rcases hb with rfl | rfl | rfl | rfl | rfl | rfl <;> exact G.at (by rfl) (by intro h; cases h)
noncomputable abbrev bmX : List Value := [.type "Exception", .type "BaseException", .type "object"]
-- a class of the text that is an exception's
structure ExcC (h : Heap) (C : Addr) : Prop where
  obj : ∃ bm N nm q bs hdct sn sub ab col dd k0 k1 k2 k3 k5 mN, h.get? C = some (excClassObj nm q C N bs bm hdct sn sub ab col dd k0 k1 k2 k3 k5 "Exception.__new__") ∧ h.Ns N mN ∧ mN "__init__" = none ∧ OwnTail h bmX bm
theorem Gs.exc53 (G : Gs w mg mb h) : ExcC h 53 := ⟨_, 52, _, _, _, _, _, _, _, _, _, _, _, _, _, _, _, G.at (a := 53) (by rfl) (by intro h; cases h), .of_isNs (isNs_of_in G.ke (by kernel_rfl)), nsMap_none_of_in G.ke (by kernel_rfl) (by kernel_rfl), tail_of_in G.ke (by kernel_rfl)⟩
theorem Gs.exc65 (G : Gs w mg mb h) : ExcC h 65 := ⟨_, 64, _, _, _, _, _, _, _, _, _, _, _, _, _, _, _, G.at (a := 65) (by rfl) (by intro h; cases h), .of_isNs (isNs_of_in G.ke (by kernel_rfl)), nsMap_none_of_in G.ke (by kernel_rfl) (by kernel_rfl), tail_of_in G.ke (by kernel_rfl)⟩
end
section
variable {prog : Program} {w : World} {B : Nat} {G : Heap → Prop} {k : Room} {env : Env} {C : Addr} {x : Str} {h₀ : Heap} {ρ : Rho}
-- raise X(text)
theorem ExM.raise {f : Str} {np cpos pos : Pos} {e : Expr} {ss : List Stmt} (hC : ∀ h, St X Kf G h₀ env ρ h → ExcC h C) (hn : Ev prog w X Kf (St X Kf G h₀ env ρ) k env (.Name f np) (.val (.ref C))) (hp : plainE env e) (he : Ev prog w X Kf (St X Kf G h₀ env ρ) k env e (.str x))
    (hq : (backTo cpos (starEach [e] env)).any (·.1) = false) : ExM prog w X Kf G k h₀ env ρ (.Raise (some (.Call (.Name f np) [e] [] cpos)) none pos :: ss) C x :=
  .mk fun A s Q E o hh S q => by
    refine wpAny_execs_cons ?_
    obtain ⟨tl, N, nm, qn, bs, hdct, sn, sub, ab, col, dd, k0, k1, k2, k3, k5, mN, hCo, hN, hni, T⟩ := (hC _ S).obj
    refine wpAny_Raise_call_subT (C := C) (nm := nm) (q := qn) (N := N) (bs := bs) (bm := tl) (hdct := hdct) (sn := sn) (sub := sub) (ab := ab) (col := col) (dd := dd) (k0 := k0) (k1 := k1) (k2 := k2) (k3 := k3) (k5 := k5)
      PySem.F.excBase_Exception (mN := mN) (T.hasType PySem.F.excBase_Exception.hasBase) hh hq hni ?_
    refine hn.run A s _ _ o S fun vf h1 t1 kf1 rf => ?_
    first | obtain ⟨_, rfl⟩ := rf.int_inv | obtain ⟨_, rfl⟩ := rf.str_inv | obtain rfl := rf.val_inv | obtain rfl := rf.bool_inv | cases rf
    refine ⟨rfl, ?_⟩
    have S1 := S.step Rel.kf kf1
    have hs : starEach [e] env = (false, eval e env) :: starEach [] env := hp []
    rw [hs]
    refine Calls.evalArgs_plain ?_
    have := wpAny_items_cons (env := env) (pos := cpos) (e := e) (rest := []) (M := model prog w) (A := A) (E := E) (s := { s with heap := h1, toks := t1 })
      (Q := fun vs s₂ => (⟨vs, []⟩ : Args).kw = [] ∧ (⟨vs, []⟩ : Args).pos.length ≤ sizeLine ∧ s₂.heap.get? C = some (excClassObj nm qn C N bs tl hdct sn sub ab col dd k0 k1 k2 k3 k5 "Exception.__new__") ∧ s₂.heap.Ns N mN ∧ OwnTail s₂.heap bmX tl ∧
        ∀ h' e, Heap.MadeExcOf s₂.heap h' e (.ref C) (⟨vs, []⟩ : Args).pos → E (.ref e) { s₂ with heap := h' })
      (he.run A _ _ E o S1 fun v h2 t2 kf2 rv => wpAny_items_nil (by
        obtain ⟨tk, rfl⟩ := rv.str_inv
        have S2 := S1.step Rel.kf kf2
        have kk := kf1.trans kf2
        exact ⟨rfl, (by show 1 ≤ sizeLine; decide), kk _ _ hCo, hN.keeps kk, T.keeps kk, fun h' e m => q ρ h2 h' e _ tk S2 m⟩)) (hp [])
    rw [hs] at this
    exact this
end
section
variable {prog : Program} {w : World} {mg mb : Str → Option Value} {k : Nat} {fr : Option (List Env)} {cm : Bool} {B : Nat} {l : List Env} {C : Addr} {x : Str}
-- a def of the text, called, that raises
theorem CaR.at (a c : Addr) {names : List Str} {as : List D} (la : (hd.heap_39 w.params).lookup a = some (objAt w a)) (nt : (objAt w a).cls ≠ .none) (hob : (objAt w a).data = .func (fdAt w a)) (hbody : (fdAt w a).body = .stmts (bodyAt w a))
    (hc : (fdAt w a).code = .ref c) (lc : (hd.heap_39 w.params).lookup c = some (objAt w c)) (ntc : (objAt w c).cls ≠ .none) (hcd : ∃ vs t, (objAt w c).data = .fields vs ∧ vs[1]? = some (.str (fdAt w a).qualname t))
    (hclo : (fdAt w a).closure = []) (hco : (fdAt w a).scope.isCoroutine = false) (hgen : (fdAt w a).scope.isGenerator = false) (hk : (fdAt w a).scope.kind = .function) (hok : cellsOk (fdAt w a).scope.names = true)
    (hlen : as.length = names.length) (hbind : ∀ vals : List Value, vals.length = names.length → bindArgs (fdAt w a) ⟨vals, []⟩ = pure (names.zip vals))
    (hkind : ∀ n, ∀ x ∈ names, (fdAt w a).scope.names.lookup x = some .local ∨ ((fdAt w a).scope.names.lookup x = some .cell ∧ ((cellsFrom (n + 1) (fdAt w a).scope.names []).lookup x).isSome = true))
    (hx : ∀ h₀ : Heap, Gs w mg mb h₀ → ExM prog w X Kf (Gs w mg mb) ⟨k, fr.map (callEnvC (fdAt w a) h₀.objs.size a :: ·), cm⟩ h₀ (callEnvC (fdAt w a) h₀.objs.size a) (rho0 (fun _ => none) names as) (bodyAt w a) C x) :
    CaR prog w X B (fun h => Gs w mg mb h ∧ Up X h) ⟨k + 1, fr, cm⟩ l (.ref a) as C x :=
  CaR.fn hob (fun h G => G.at la nt) (fun h G => let ⟨vs, t, e1, e2⟩ := hcd; ⟨c, _, vs, t, hc, G.at lc ntc, e1, e2⟩) (fun h G => G.lim) hbody hclo hco hgen hk hok hlen hbind hkind hx
end
end
section
open Builtin Builtin.BaseException Builtin.Exceptions Builtin.Str
variable {X : Addr → Prop}
-- an exception of a class of the text, as an object
noncomputable def ExcO (h : Heap) (e C : Addr) (x : Str) : Prop := ∃ o vs t tk, h.get? e = some o ∧ o.cls = .ref C ∧ o.data = .fields vs ∧ vs[0]? = some (.ref t) ∧ h.TupAt t [.str x tk]
theorem ExcO.kp {h h' : Heap} {e C : Addr} {x : Str} (k : Kp h h') (o : ExcO h e C x) : ExcO h' e C x := by
  obtain ⟨o, vs, t, tk, he, hc, hd, h0, ot, n, ht, htc, htd⟩ := o
  refine ⟨o, vs, t, tk, ?_, hc, hd, h0, ot, n, ?_, htc, htd⟩
  · rcases k e o he (fun z => by have z1 := z.1; rw [hc] at z1; cases z1) with q | ⟨⟨es, m, q⟩, _⟩
    · exact q
    · rw [hd] at q; cases q
  · rcases k t ot ht (fun z => by have z1 := z.1; rw [htc] at z1; cases z1) with q | ⟨⟨es, m, q⟩, _⟩
    · exact q
    · rw [htd] at q; cases q
theorem Fly.exc {l : List Env} {h₁ h : Heap} {e C : Addr} {x : Str} (f : Fly l h₁ e C x h) : ExcO h e C x := by
  obtain ⟨base, t, tk, fl, tu, _⟩ := f.fly
  obtain ⟨oe, vs, he, hc, hd, h0⟩ := fl.first
  exact ⟨oe, vs, t, tk, he, hc, hd, h0, tu⟩
section
variable {prog : Program} {w : World} {A : Around} {E : Value → Shared → Prop} {s : Shared} {e C : Addr} {x : Str}
theorem own_bexcArgs {M : Model} {Q : Value × List Value → Shared → Prop} {o : Obj} {vs : Array Value} {t0 : Addr} {items : List Value} (ho : s.heap.get? e = some o) (hd : o.data = .fields vs) (h0 : vs[0]? = some (.ref t0)) (ht : s.heap.TupAt t0 items) (hq : Q (.ref t0, items) s) :
    wpAny M A (bexcArgs (.ref e)) Q E s := by
  obtain ⟨ot, k, hto, _, htd⟩ := ht
  unfold bexcArgs
  refine wpAny_bind (wpAny_field ho hd h0 (wpAny_bind (wpAny_seqItems hto htd ?_)))
  have : items.toArray.toList = items := by simp
  show wpAny M A (pure (Value.ref t0, items.toArray.toList)) Q E s
  rw [this]; exact wpAny_pure hq
theorem own_bexcStr {Q : Fin → Shared → Prop} {o : Obj} {vs : Array Value} {t0 : Addr} {tk : Tok} (ho : s.heap.get? e = some o) (hd : o.data = .fields vs) (h0 : vs[0]? = some (.ref t0)) (ht : s.heap.TupAt t0 [.str x tk]) (hq : Q (.done (.ret (.str x tk))) s) :
    wpAny (model prog w) A (Builtin.«BaseException.__str__» ⟨[.ref e], []⟩) Q E s := by
  unfold Builtin.«BaseException.__str__»
  repeat (first | with_reducible refine own_bexcArgs ho hd h0 ht ?_ | wp_step)
  exact hq
theorem own_check {M : Model} {Q : Unit → Shared → Prop} {o : Obj} (X : ExcC s.heap C) (ho : s.heap.get? e = some o) (hc : o.cls = .ref C) (hq : Q () s) : wpAny M A (checkBuiltinCall "BaseException.__str__" ⟨[.ref e], []⟩) Q E s := by
  obtain ⟨tl, N, nm, qn, bs, hdct, sn, sub, ab, col, dd, k0, k1, k2, k3, k5, mN, hCo, hN, hni, T⟩ := X.obj
  obtain ⟨h, g, d, t, os⟩ := s
  have hk : builtinKind "BaseException.__str__" = some .slot := by decide +kernel
  have hsplit : splitId "BaseException.__str__" = some ("BaseException", "__str__") := by decide +kernel
  have hcB : (Value.ref C :: tl).contains (.type "BaseException") = true := by rw [List.contains_cons, T.hasType (by rfl)]; rfl
  have ha := F.args_bexc_str (.ref e)
  simp only [checkBuiltinCall, hk, hsplit]
  refine wpAny_bind ?_
  · unfold isInstance
    repeat (first | (with_reducible refine wpAny_loadPart_at ho ?_; rw [hc]) | (with_reducible refine wpAny_isSubtype_exc hCo ?_; rw [hcB]) | wp_step)
    exact hq
theorem own_callStr {Q : Value → Shared → Prop} (X : ExcC s.heap C) (O : ExcO s.heap e C x) (hq : ∀ tk, Q (.str x tk) s) : wpAny (model prog w) A (call (.builtin "BaseException.__str__") [.ref e]) Q E s := by
  obtain ⟨o, vs, t, tk, he, hc, hd, h0, tu⟩ := O
  exact wpAny_call (codeAny_call_builtin PySem.F.excStr_Exception.str.plain F.entry_bexc_str (own_check X he hc (wpAny_mono (own_bexcStr (Q := fun fin s' => ∃ v, fin = .done (.ret v) ∧ Q v s') he hd h0 tu ⟨_, rfl, hq tk⟩) (fun fin s' h' => by obtain ⟨v, rfl, hv⟩ := h'; exact hv) fun _ _ h' => h')))
theorem own_strOf {K : Frag} {Q : Value → Shared → Prop} (hu : A.units < cLine) (KI : K.In s.heap) (hs : findIn K (.ref C) "__str__" = some (some (.builtin "BaseException.__str__"))) (X : ExcC s.heap C) (O : ExcO s.heap e C x) (hq : ∀ tk, Q (.str x tk) s) :
    wpAny (model prog w) A (Builtin.Str.strOf (.ref e)) Q E s := by
  obtain ⟨o, vs, t, tk, he, hc, hd, h0, tu⟩ := O
  unfold Builtin.Str.strOf
  rw [show isExactStr (.ref e) = false from rfl]
  refine wpAny_bind (m := cRoomFor _ _) (wpAny_cRoomFor hu ?_)
  refine wpAny_bind (m := callSpecial? (.ref e) (Str.ofString "__str__")) ?_
  unfold callSpecial? specialOf
  have ty : ∀ {Q' : Value → Shared → Prop}, Q' (.ref C) s → wpAny (model prog w) A (typeOf (.ref e)) Q' E s := fun q => by
    unfold typeOf
    exact wpAny_bind (wpAny_loadPart he (by rw [hc]; exact wpAny_pure q))
  refine wpAny_bind (wpAny_bind (ty ((looks_findIn KI hs).here ?_)))
  refine wpAny_holding (wpAny_bind ?_)
  rw [PySem.F.excStr_Exception.str.bind]
  refine wpAny_pure (wpAny_bind (own_callStr X ⟨o, vs, t, tk, he, hc, hd, h0, tu⟩ fun tk => wpAny_pure ?_))
  exact wpAny_pure (hq tk)
theorem own_str {K : Frag} {Q : Value → Shared → Prop} (hu : A.units + 2 < cLine) (KI : K.In s.heap) (hs : findIn K (.ref C) "__str__" = some (some (.builtin "BaseException.__str__"))) (X : ExcC s.heap C) (O : ExcO s.heap e C x) (hq : ∀ tk, Q (.str x tk) s) :
    wpAny (model prog w) A (call (.type "str") [.ref e]) Q E s :=
  callType_new F.called_str (by decide) (F.typeCall_str_1 _) (F.newCall_str_1 _) (fun obj => F.args_object_init_2 obj _) F.entry_str_new
    (meets_str_new (S := fun A' R s' => A'.units + 1 < cLine ∧ K.In s'.heap ∧ ExcC s'.heap C ∧ ExcO s'.heap e C x ∧ (∀ tk, R (.ok (.ret (.str x tk))) s'))
      fun _ _ A' _ _ hq => own_strOf (A := A'.in1) hq.1 hq.2.1 hs hq.2.2.1 hq.2.2.2.1 hq.2.2.2.2)
    ⟨(show A.units + 1 + 1 < cLine from hu), KI, X, O, fun tk => ⟨typeIs_str _ _ _, hq tk⟩⟩
theorem find53 : findIn (KE w) (.ref 53) "__str__" = some (some (.builtin "BaseException.__str__")) := by kernel_rfl
theorem find65 : findIn (KE w) (.ref 65) "__str__" = some (some (.builtin "BaseException.__str__")) := by kernel_rfl
end
end
section
variable {X : Addr → Prop}
theorem ExcO.ki {h h' : Heap} {e C : Addr} {x : Str} (k : Ki h h') (o : ExcO h e C x) : ExcO h' e C x := by
  obtain ⟨o, vs, t, tk, he, hc, hd, h0, ot, n, ht, htc, htd⟩ := o
  exact ⟨o, vs, t, tk, k _ _ he (.inr ⟨by rw [hc]; simp, vs, hd⟩), hc, hd, h0, ot, n, k _ _ ht (.inl ⟨_, _, htd⟩), htc, htd⟩
noncomputable def drop (ρ : Rho) (n : Str) : Rho := fun y => if y = n then none else ρ y
section
variable {R : Heap → Heap → Prop} {G : Heap → Prop} {h₀ h h' : Heap} {env : Env} {ρ ρ' : Rho}
-- a local name goes
theorem St.dropL (r : Rel R) (S : St X R G h₀ env ρ h) {x : Str} {v : Option Value} {m : Str → Option Value} (hm : h.Ns env.locals m) (hx : env.kindOf x = some .local) (hc : env.cells.lookup x = none)
    (hn : h'.Ns env.locals (fun y => if y = x then v else m y)) (hs : Heap.SameBut env.locals h h') : St X R G h₀ env (drop ρ x) h' ∧ Ki h h' ∧ R h₀ h' := by
  have dict : ∀ o, h.get? env.locals = some o → (∃ es n, o.data = .dict es n) ∨ ∃ v, o.data = .cell v := fun o e => by
    obtain ⟨o', es, ep, e', d', _⟩ := hm; rw [e'] at e; cases e; exact .inl ⟨_, _, d'⟩
  have ki := ki_sameBut hs dict
  have rr : R h₀ h' := r.above S.rel (fun b o lt e => (hs.2 b (Nat.ne_of_lt (Nat.lt_of_lt_of_le lt S.lab))).trans e) (hard_sameBut hs fun o e => dict_soft (dict o e))
  refine ⟨⟨rr, S.g, ⟨_, hn, fun y dy ey ky => ?_⟩, fun y c ey => ?_, S.lab, S.apart, fun a na => ?_⟩, ki, rr⟩
  · by_cases q : y = x
    · simp [drop, q] at ey
    · simp [drop, q] at ey
      obtain ⟨m', a, b⟩ := S.loc
      obtain ⟨v', e1, r1⟩ := b y dy ey ky
      have : m' = m := by
        funext z
        obtain ⟨o1, es1, _, g1, d1, _, f1⟩ := a
        obtain ⟨o2, es2, _, g2, d2, _, f2⟩ := hm
        rw [g1] at g2; cases g2; rw [d1] at d2; cases d2; rw [← f1, ← f2]
      subst this
      exact ⟨v', by simp [q, e1], r1.ks ki.ks⟩
  · obtain ⟨v₀, ic, b⟩ := S.cel y c ey
    have ne : c ≠ env.locals := fun q => by
      subst q; obtain ⟨o, e, dd⟩ := ic
      obtain ⟨o', es, ep, e', d', _⟩ := hm; rw [e'] at e; cases e; rw [d'] at dd; cases dd
    refine ⟨v₀, ic.sameBut hs ne, fun dy e => ?_⟩
    by_cases q : y = x
    · subst q; rw [hc] at ey; cases ey
    · simp [drop, q] at e
      obtain ⟨v', e1, r1⟩ := b dy e
      exact ⟨v', e1, r1.ks ki.ks⟩
  · by_cases q : a = env.locals
    · subst q
      obtain ⟨o, es, ep, e, d', _⟩ := hn
      exact ⟨o, e, fun t => by obtain ⟨_, vs, e2⟩ := t; rw [d'] at e2; cases e2⟩
    · obtain ⟨o, e, nt⟩ := S.up a na
      exact ⟨o, (hs.2 a q).trans e, nt⟩
end
section
variable (prog : Program) (w : World) (X : Addr → Prop) (R : Heap → Heap → Prop) (B : Nat)
-- a block that raises
structure ExR (I : Heap → Prop) (k : Room) (l : List Env) (env : Env) (ss : List Stmt) (C : Addr) (x : Str) : Prop where
  run : ∀ A (s : Shared) (Q : Flow → Shared → Prop) (E : Value → Shared → Prop), OkA k A → A.handled = none → A.frames = some l → FF B s.heap l → I s.heap →
    (∀ e h₁ h' t, R s.heap h₁ → Fly l h₁ e C x h' → E (.ref e) { s with heap := h', toks := t }) → wpAny (model prog w) A (execs ss env) Q E s
inductive Sui where
  | next (ρ : Rho)
  | ret (d : D)
noncomputable def Sui.out (n : Str) : Sui → Out
  | .next ρ' => .next (drop ρ' n)
  | .ret d => .ret d
-- a clause's only statement, the exception at hand
structure ExS (G : Heap → Prop) (k : Room) (h₀ : Heap) (env : Env) (ρ : Rho) (e C : Addr) (x : Str) (st : Stmt) (u : Sui) : Prop where
  run : ∀ A (s : Shared) (Q : Flow → Shared → Prop) (E : Value → Shared → Prop), OkA k A → St X R G h₀ env ρ s.heap → ExcO s.heap e C x →
    (match u with
      | .next ρ' => ∀ h' t, St X R G h₀ env ρ' h' → Ki s.heap h' → Q .next { s with heap := h', toks := t }
      | .ret d => ∀ v h' t, St X R G h₀ env ρ h' → Rd X h' d v → Q (.ret v) { s with heap := h', toks := t }) → wpAny (model prog w) A (exec st env) Q E s
end
section
variable {prog : Program} {w : World} {R : Heap → Heap → Prop} {B : Nat} {I G : Heap → Prop} {k : Room} {l : List Env} {env : Env} {C : Addr} {x : Str} {h₀ : Heap} {ρ ρ' : Rho}
theorem ExR.ret {e : Expr} {pos : Pos} {ss : List Stmt} (h : EvR prog w R B I k l env e C x) : ExR prog w R B I k l env (.Return (some e) pos :: ss) C x :=
  .mk fun A s Q E o hh hf ff i q => wpAny_execs_cons (wpAny_Return_some (h.run A s _ _ o hh hf ff i q))
theorem ExR.assign {n : Str} {p pos : Pos} {e : Expr} {ss : List Stmt} (h : EvR prog w R B I k l env e C x) (hw : swapsWith e (some (.Name n p)) pos.line env = pure false) : ExR prog w R B I k l env (.Assign [.Name n p] e pos :: ss) C x :=
  .mk fun A s Q E o hh hf ff i q => wpAny_execs_cons (wpAny_Assign_Name (h.run A s _ _ o hh hf ff i q) hw)
-- where the frame itself stands among the frames below
theorem ff_own {h : Heap} (r : Rel R) (S : St X R G h₀ env ρ h) (hk : env.scope.kind = .function) (hf : env.frame = some env.locals) (hB : B ≤ h₀.objs.size) (ff : FF B h l) : FF B h (env :: l) := fun e he => by
  rcases List.mem_cons.mp he with q | q
  · subst q
    obtain ⟨m, ⟨o, es, ep, e1, d1, _⟩, _⟩ := S.loc
    exact ⟨hk, _, o, hf, Nat.le_trans hB S.lab, e1, es, ep, d1⟩
  · exact ff e q
theorem Fly.next {h₁ h h' : Heap} {e C : Addr} {x : Str} {base : Heap} {t : Addr} {tk : Tok} (fl : Heap.FlyingW base l e (.ref C) (.ref t) h') (tu : h.TupAt t [.str x tk]) (hb : ∀ b o, h₁.get? b = some o → b ∉ frs l → base.get? b = some o) (up : h₁.UpToSlots h) (u : h.UpToSlots h') : Fly l h₁ e C x h' :=
  ⟨⟨base, t, tk, fl, tu.of_slots u, hb⟩, up.trans u⟩
-- the exception was put on the frame
theorem Before.again {h₁ h' : Heap} {e : Addr} (r : RelX B R) (S : St X R G h₀ env ρ h₁) (ff : FF B h₁ (env :: l)) (y : Fly (env :: l) h₁ e C x h') : St X R G h₀ env ρ h' ∧ Kp h₁ h' :=
  ⟨S.step r.toRel (r.slot y.kr fun a ha => ff.in ha), y.kr.kp ff⟩
-- a clause that takes the exception by its own class
theorem catchAs (r : RelX B R) (hk : env.scope.kind = .function) (hf : env.frame = some env.locals) {A : Around} {s : Shared} {Q : Flow → Shared → Prop} {E : Value → Shared → Prop} {h₁ : Heap} {e : Addr} {cn n : Str} {np pos : Pos} {b₀ : Stmt} {rest : List ExceptHandler} {u : Sui}
    (o : OkA k A) (S₁ : St X R G h₀ env ρ h₁) (ff : FF B h₁ (env :: l)) (hh : Fly (env :: l) h₁ e C x s.heap)
    (hd : (cn == ("__debug__" : Str)) = false) (hl : ∀ h, St X R G h₀ env ρ h → Look env h cn (.ref C)) (hC : ∀ h, St X R G h₀ env ρ h → ExcC h C)
    (hx : env.kindOf n = some .local) (hc : env.cells.lookup n = none) (hp : (env.scope.kind == .class || (env.scope.kind == .module && env.locals != env.globals)) = false)
    (hs : ExS prog w X R G ⟨k.n, k.fr, false⟩ h₀ env (upd ρ n (.val (.ref e))) e C x b₀ u)
    (q : (u.out n).post X R G h₀ env { s with heap := h₁ } Q) :
    wpAny (model prog w) A (handleBy (.ref e) env (.ExceptHandler (some (.Name cn np)) (some n) [b₀] pos :: rest)) Q E s := by
  have o' : OkA ⟨k.n, k.fr, false⟩ (A.mark (some (.ref e))) := ⟨fun z => (by cases z), o.depth, o.units, o.frames⟩
  obtain ⟨S, kp⟩ := Before.again r S₁ ff hh
  obtain ⟨oe, ws, t, tk, he, hec, hed, he0, tu⟩ := hh.exc
  refine wpAny_handleBy_cons (codeAny_handlers_test (wpAny_Name (look_wp hk (hl _ S) ?_) hd)) (by intro q; cases q)
  obtain ⟨tl, N, nm, qn, bs, hdct, sn, sub, ab, col, dd, k0, k1, k2, k3, k5, mN, hCo, hN, hni, T⟩ := (hC _ S).obj
  refine wpAny_excMatches_sub_self hCo he hec (T.hasType (by rfl)) (codeAny_handlers_suite_as ?_)
  obtain ⟨⟨base, t', tk', fl, tu', hb⟩, up⟩ := id hh
  refine lands_againW fl fun h₆ fl₆ u₆ => ?_
  have hh₆ : Fly (env :: l) h₁ e C x h₆ := Fly.next fl₆ tu' hb up u₆
  obtain ⟨S₆, kp₆⟩ := Before.again r S₁ ff hh₆
  obtain ⟨m, a, b⟩ := S₆.loc
  refine wpAny_storeName_local hx a (fun h₇ hn₇ hs₇ => ?_) hp
  obtain ⟨S₇, ki₇⟩ := S₆.storeL r.toRel a hx hc hn₇ hs₇ (.val (.ref e))
  refine wpAny_execs_cons (hs.run _ _ _ _ o' S₇ (hh₆.exc.ki ki₇) ?_)
  cases u with
  | next ρ' =>
    intro h₈ t₈ S₈ ki₈
    refine wpAny_execs_nil ?_
    obtain ⟨m8, a8, b8⟩ := S₈.loc
    refine wpAny_nameGoes_keeps hx a8 hp fun h₉ v hn₉ hs₉ => ?_
    obtain ⟨S₉, ki₉, _⟩ := S₈.dropL r.toRel a8 hx hc hn₉ hs₉
    exact q h₉ _ S₉ (((kp₆.ki.trans ki₇).trans ki₈).trans ki₉)
  | ret d =>
    intro v h₈ t₈ S₈ rv
    obtain ⟨m8, a8, b8⟩ := S₈.loc
    refine wpAny_nameGoes_keeps hx a8 hp fun h₉ v' hn₉ hs₉ => ?_
    obtain ⟨S₉, ki₉, rr⟩ := S₈.dropL r.toRel a8 hx hc hn₉ hs₉
    exact q v h₉ _ rr (rv.ks ki₉.ks)
end
end
section
variable {X : Addr → Prop}
-- a class of the text that is an exception's, and not under another one
structure ExcN (h : Heap) (C C' : Addr) : Prop where
  obj : ∃ bm N nm q bs hdct sn sub ab col dd k0 k1 k2 k3 k5 mN, h.get? C = some (excClassObj nm q C N bs bm hdct sn sub ab col dd k0 k1 k2 k3 k5 "Exception.__new__") ∧ h.Ns N mN ∧ mN "__init__" = none ∧ OwnTail h bmX bm ∧ (Value.ref C :: bm).contains (.ref C') = false
theorem Gs.exc65n {w : World} {mg mb : Str → Option Value} {h : Heap} (G : Gs w mg mb h) : ExcN h 65 53 := ⟨_, 64, _, _, _, _, _, _, _, _, _, _, _, _, _, _, _, G.at (a := 65) (by rfl) (by intro h; cases h), .of_isNs (isNs_of_in G.ke (by kernel_rfl)), nsMap_none_of_in G.ke (by kernel_rfl) (by kernel_rfl), tail_of_in G.ke (by kernel_rfl), by decide +kernel⟩
section
variable {M : Model} {A : Around} {E : Value → Shared → Prop} {s : Shared} {e C C' : Addr}
theorem noMatch {o : Obj} {Q : Bool → Shared → Prop} (N : ExcN s.heap C C') (X' : ExcC s.heap C') (he : s.heap.get? e = some o) (hcls : o.cls = .ref C) (hq : Q false s) : wpAny M A (excMatches (.ref e) (.ref C')) Q E s := by
  obtain ⟨tl, N, nm, qn, bs, hdct, sn, sub, ab, col, dd, k0, k1, k2, k3, k5, mN, hC, hN, hni, T, hno⟩ := N.obj
  obtain ⟨tl', N', nm', qn', bs', hdct', sn', sub', ab', col', dd', k0', k1', k2', k3', k5', mN', hC', hN', hni', T'⟩ := X'.obj
  obtain ⟨h, g, d, t, os⟩ := s
  have hcB : (Value.ref C :: tl).contains (.type "BaseException") = true := by rw [List.contains_cons, T.hasType (by rfl)]; rfl
  have hcB' : (Value.ref C' :: tl').contains (.type "BaseException") = true := by rw [List.contains_cons, T'.hasType (by rfl)]; rfl
  have f := tc_notTuple
  unfold excMatches
  repeat (first | (with_reducible refine wpAny_loadPart_at he ?_; rw [hcls]) | with_reducible refine wpAny_loadPart_at hC' ?_ | (with_reducible refine wpAny_isSubtype_exc hC' ?_; rw [hcB']) | (with_reducible refine wpAny_isSubtype_exc hC ?_; first | rw [hcB] | rw [hno]) | wp_step)
  exact hq
end
section
variable {prog : Program} {w : World} {R : Heap → Heap → Prop} {B : Nat} {I G : Heap → Prop} {k : Room} {l : List Env} {env : Env} {C C' : Addr} {x : Str} {h₀ : Heap} {ρ ρ' : Rho}
-- a clause that does not take the exception
theorem catchNot (r : RelX B R) (hk : env.scope.kind = .function) {A : Around} {s : Shared} {Q : Flow → Shared → Prop} {E : Value → Shared → Prop} {h₁ : Heap} {e : Addr} {cn : Str} {n : Option Str} {np pos : Pos} {body : List Stmt} {rest : List ExceptHandler}
    (S₁ : St X R G h₀ env ρ h₁) (ff : FF B h₁ (env :: l)) (hh : Fly (env :: l) h₁ e C x s.heap)
    (hd : (cn == ("__debug__" : Str)) = false) (hl : ∀ h, St X R G h₀ env ρ h → Look env h cn (.ref C')) (hC : ∀ h, St X R G h₀ env ρ h → ExcN h C C' ∧ ExcC h C')
    (q : wpAny (model prog w) A (handleBy (.ref e) env rest) Q E s) :
    wpAny (model prog w) A (handleBy (.ref e) env (.ExceptHandler (some (.Name cn np)) n body pos :: rest)) Q E s := by
  obtain ⟨S, kp⟩ := Before.again r S₁ ff hh
  obtain ⟨oe, ws, t, tk, he, hec, hed, he0, tu⟩ := hh.exc
  refine wpAny_handleBy_cons (codeAny_handlers_test (wpAny_Name (look_wp hk (hl _ S) ?_) hd)) (by intro q; cases q)
  exact noMatch (hC _ S).1 (hC _ S).2 he hec q
-- a try whose block raises
theorem Ex1.tryR (r : RelX B R) (hG : Static R G) (hk : env.scope.kind = .function) (hf : env.frame = some env.locals) (hB : B ≤ h₀.objs.size) (hff : ∀ h, G h → FF B h l) (hc : k.calm = true) (hfr : k.fr = some (env :: l)) {body orelse : List Stmt} {hd : ExceptHandler} {hs : List ExceptHandler} {pos : Pos} {o : Out}
    (hb : ExR prog w R B (St X R G h₀ env ρ) k (env :: l) env body C x)
    (hh : ∀ A (s : Shared) (Q : Flow → Shared → Prop) (E : Value → Shared → Prop) h₁ e, OkA k A → St X R G h₀ env ρ h₁ → FF B h₁ (env :: l) → Fly (env :: l) h₁ e C x s.heap → o.post X R G h₀ env { s with heap := h₁ } Q → wpAny (model prog w) A (handleBy (.ref e) env (hd :: hs)) Q E s) :
    Ex1 prog w X R G k h₀ env ρ (.Try body (hd :: hs) orelse [] pos) o := .mk fun A s Q E ok S q => by
  have ff : FF B s.heap (env :: l) := ff_own r.toRel S hk hf hB (hff _ (S.gh r.toRel hG))
  refine wpAny_Try_except (hb.run A s _ _ ok (ok.handled hc) (ok.frames _ hfr) ff S fun e h₁ h' t rr fl => ?_)
  have S₁ := S.step r.toRel rr
  have ff₁ : FF B h₁ (env :: l) := ff.kp (r.weak rr)
  obtain ⟨⟨base, t₀, tk, fw, tu, hb⟩, up⟩ := id fl
  refine wpAny_looks_onW (ok.frames _ hfr) hf fw fun h₄ hd₄ u₄ => ?_
  refine wpAny_landsW hd₄ fun h₅ fw₅ u₅ => ?_
  exact hh A { s with heap := h₅, toks := t } Q E h₁ e ok S₁ ff₁ (Fly.next fw₅ tu hb up (u₄.trans u₅)) (q.mono (s' := { s with heap := h₁, toks := t }) (r.weak rr).ki fun _ _ => rfl)
-- a try whose block does not raise
theorem Ex1.tryN {body : List Stmt} {hd : ExceptHandler} {hs : List ExceptHandler} {pos : Pos} (hb : Ex prog w X R G k h₀ env ρ body (.next ρ')) : Ex1 prog w X R G k h₀ env ρ (.Try body (hd :: hs) [] [] pos) (.next ρ') := .mk fun A s Q E ok S q =>
  wpAny_Try_except (hb.run A s _ _ ok S fun h' t S' ki => wpAny_execs_nil (q h' t S' ki))
theorem Ex1.tryV {body : List Stmt} {hd : ExceptHandler} {hs : List ExceptHandler} {pos : Pos} {d : D} (hb : Ex prog w X R G k h₀ env ρ body (.ret d)) : Ex1 prog w X R G k h₀ env ρ (.Try body (hd :: hs) [] [] pos) (.ret d) := .mk fun A s Q E ok S q =>
  wpAny_Try_except (hb.run A s _ _ ok S fun v h' t kr rv => q v h' t kr rv)
-- the invariant at a clause's statement
noncomputable def IX (X : Addr → Prop) (R : Heap → Heap → Prop) (G : Heap → Prop) (h₀ : Heap) (env : Env) (ρ : Rho) (e C : Addr) (x : Str) (h : Heap) : Prop := St X R G h₀ env ρ h ∧ ExcO h e C x
theorem IX.stab (r : Rel R) {e : Addr} : Stab R (IX X R G h₀ env ρ e C x) := fun h h' k i => ⟨i.1.step r k, i.2.kp (r.weak k)⟩
theorem ExS.ret (r : Rel R) {e : Addr} {ex : Expr} {pos : Pos} {d : D} (he : Ev prog w X R (IX X R G h₀ env ρ e C x) k env ex d) : ExS prog w X R G k h₀ env ρ e C x (.Return (some ex) pos) (.ret d) :=
  .mk fun A s Q E o S O q => wpAny_Return_some (he.run A s _ _ o ⟨S, O⟩ fun v h1 t1 k1 rv => q v h1 t1 (S.step r k1) rv)
theorem ExS.assign (r : Rel R) {e : Addr} {ex : Expr} {y : Str} {p pos : Pos} {d : D} (he : Ev prog w X R (IX X R G h₀ env ρ e C x) k env ex d) (hs : Sto prog w X R G h₀ env ρ y d) (hw : swapsWith ex (some (.Name y p)) pos.line env = pure false) :
    ExS prog w X R G k h₀ env ρ e C x (.Assign [.Name y p] ex pos) (.next (upd ρ y d)) :=
  .mk fun A s Q E o S O q => wpAny_Assign_Name (he.run A s _ _ o ⟨S, O⟩ fun v h1 t1 k1 rv => hs.run A _ _ _ v (S.step r k1) rv fun h2 t2 S2 ki => q h2 t2 S2 ((r.weak k1).ki.trans ki)) hw
-- str(error)
theorem Ca.strX (r : Rel R) {K : Frag} {e : Addr} (hI : ∀ h, I h → K.In h ∧ ExcC h C ∧ ExcO h e C x) (hs : findIn K (.ref C) "__str__" = some (some (.builtin "BaseException.__str__"))) : Ca prog w X R I k (.type "str") [.val (.ref e)] (.str x) := .mk fun A s Q E vals o i rs h => by
  cases rs with | cons rv rs =>
  cases rs
  first | obtain ⟨_, rfl⟩ := rv.int_inv | obtain ⟨_, rfl⟩ := rv.str_inv | obtain rfl := rv.val_inv | obtain rfl := rv.bool_inv | cases rv
  obtain ⟨KI, XC, O⟩ := hI _ i
  refine own_str (by have := o.units; simp only [cLine]; lia) KI hs XC O fun tk => h _ s.heap s.toks (r.refl _) (.str x tk)
end
end
section
variable {X : Addr → Prop}
-- an iterator over a list, at a place
noncomputable def ItL (X : Addr → Prop) (h : Heap) (it : Addr) (i : Nat) (l : List D) : Prop := ∃ a vs n, X a ∧ IsL h a (List.toArray vs) n ∧ RdL X h l vs ∧ h.IsListIter it a i
theorem ItL.ki {h h' : Heap} (k : Ki h h') {it : Addr} {i : Nat} {l : List D} (x : ItL X h it i l) : ItL X h' it i l := by
  obtain ⟨a, vs, n, p, y, z, u⟩ := x
  exact ⟨a, vs, n, p, k _ _ y (.inl ⟨_, _, rfl⟩), z.ks k.ks, listIter_ki k u⟩
theorem ItL.at {h : Heap} {it : Addr} {i : Nat} {l : List D} (x : ItL X h it i l) : ItAt X h it i l := by
  obtain ⟨a, vs, n, p, y, z, u⟩ := x
  exact .list p y z u
theorem RdL.vals {h : Heap} : ∀ ex : List Value, RdL X h (ex.map D.val) ex
  | [] => .nil
  | v :: ex => .cons (.val v) (RdL.vals ex)
section
variable {prog : Program} {w : World} {A : Around} {E : Value → Shared → Prop} {s : Shared}
theorem call_iter {d : D} {ds : List D} {v : Value} (x : Rd X s.heap (.list ds) v) {Q : Value → Shared → Prop}
    (h : ∀ it h' t, s.heap.objs.size ≤ it → s.heap.get? it = none → Kf s.heap h' → ItL X h' it 0 ds → Q (.ref it) { s with heap := h', toks := t }) : wpAny (model prog w) A (call (.builtin "iter") [v]) Q E s := by
  obtain ⟨a, vs, n, rfl, hl, rl, p⟩ := x.list_inv
  refine call_function_entry (by decide +kernel) (by decide +kernel) kdk_entry_iter (kdk_args_iter _) ?_
  unfold Builtin.«iter»
  refine wpAny_bind (m := someArgs "iter" 1 2 _) (wpAny_of_eq (a := [Value.ref a]) (by first | rfl | kernel_rfl) ?_)
  show wpAny _ _ (pyIter (.ref a) >>= _) _ _ _
  have kf := Kf.push s.heap { cls := .type "list_iterator", data := .fields #[.ref a, .int 0 0] }
  refine wpAny_bind (wpAny_pyIter_list hl.isList ?_)
  exact wpAny_pure ⟨_, rfl, h _ _ s.toks (Nat.le_refl _) (get_size _) kf ⟨a, vs, n, p, kf _ _ hl, rl.ks kf.ks, ⟨_, Heap.get?_push_size _ rfl, rfl, rfl⟩⟩⟩
theorem special_listnext {it l : Addr} {i : Nat} {items : Array Value} {x : Value} {Q : Option Value → Shared → Prop} (hit : s.heap.IsListIter it l i)
    (hl : s.heap.IsList l items) (hx : items[i]? = some x)
    (hQ : ∀ h', h'.IsListIter it l (i + 1) → Heap.SameBut it s.heap h' → Q (some x) { s with heap := h' }) :
    wpAny (model prog w) A (callSpecial? (.ref it) (Str.ofString "__next__")) Q E s := by
  obtain ⟨o, ho, hc, hd⟩ := id hit
  obtain ⟨ol, hol, _, nl, hdl⟩ := hl
  refine wpAny_callSpecial?_slot (name := Str.ofString "__next__") hit.typeIs slot_listiter_next
    (wpAny_call_entry slot_listiter_next hit.typeIs entry_listiter_next ?_ (args_listiter_next _))
  show wpAny _ _ (field (.ref it) 0 >>= _) _ _ s
  refine wpAny_bind (wpAny_field ho hd (x := .ref l) rfl ?_)
  show wpAny _ _ (if (Value.ref l == Value.none) = true then _ else _) _ _ s
  rw [if_neg (show ¬ ((Value.ref l == Value.none) = true) from Bool.false_ne_true)]
  show wpAny _ _ (field (.ref it) 1 >>= _) _ _ s
  refine wpAny_bind (wpAny_field ho hd (x := .int i 0) rfl ?_)
  show wpAny _ _ (seqItems? (.ref l) >>= _) _ _ s
  refine wpAny_bind (wpAny_seqItems hol hdl ?_)
  simp only [Int.toNat_natCast, hx]
  refine wpAny_bind (wpAny_setField ho hd (by simp) (wpAny_pure ⟨x, rfl, (hQ _ ?_ (Heap.SameBut.update ..))⟩))
  exact ⟨_, Heap.get?_update_self _ ho (Obj.isFreed_of_fields (Obj.data_mapFields hd _)), (Obj.cls_mapFields ..).trans hc, by
    rw [Obj.data_mapFields hd]; simp [rawInt]⟩
theorem call_next {it : Addr} {i : Nat} {ds : List D} {d : D} (x : ItL X s.heap it i ds) (hd : ds[i]? = some d) {Q : Value → Shared → Prop}
    (h : ∀ v h' t, But it s.heap h' → ItL X h' it (i + 1) ds → Rd X h' d v → Q v { s with heap := h', toks := t }) : wpAny (model prog w) A (call (.builtin "next") [.ref it]) Q E s := by
  have x0 := x.at
  obtain ⟨a, vs, n, p, y, z, hit⟩ := x
  obtain ⟨v, hv, rv⟩ := z.get hd
  have ne := isL_other x0 y
  refine call_function_entry (by decide +kernel) (by decide +kernel) kdk_entry_next (kdk_args_next _) ?_
  unfold Builtin.«next»
  refine wpAny_bind (m := someArgs "next" 1 2 _) (wpAny_of_eq (a := [Value.ref it]) (by first | rfl | kernel_rfl) ?_)
  dsimp only
  refine wpAny_bind (wpAny_specialOf (name := Str.ofString "__next__") hit.typeIs slot_listiter_next.lookup ?_)
  refine wpAny_ite_split (fun hab => absurd hab (by decide)) (fun _ => ?_)
  refine wpAny_bind (special_listnext hit y.isList (by simpa using hv) fun h' hit' hs => ?_)
  have b : But it s.heap h' := fun b o hb e => (hs.2 b hb).trans e
  have ks := b.ks x0
  exact wpAny_pure ⟨_, rfl, h v h' s.toks b ⟨a, vs, n, p, b a _ ne y, z.ks ks, hit'⟩ (rv.ks ks)⟩
end
section
variable {prog : Program} {w : World} {R : Heap → Heap → Prop} {I G : Heap → Prop} {k : Room} {env : Env} {h₀ : Heap} {ρ ρ' : Rho}
-- a call of a built-in by its name
theorem call1B (r : Rel R) (st : Stab R I) {x : Str} {np pos : Pos} {e : Expr} {id : String} {a : D} (hf : Ev prog w X R I k env (.Name x np) (.val (.builtin id))) (hp : plainE env e) (ha : Ev prog w X R I k env e a) {A : Around} {s : Shared} {Q : Value → Shared → Prop} {E : Value → Shared → Prop} (o : OkA k A) (i : I s.heap)
    (h : ∀ v h1 t1, R s.heap h1 → Rd X h1 a v → wpAny (model prog w) A (call (.builtin id) [v]) Q E { s with heap := h1, toks := t1 }) : wpAny (model prog w) A (eval (.Call (.Name x np) [e] [] pos) env) Q E s :=
  wpAny_Call_NameR (hf.run A s _ _ o i fun vf h1 t1 k1 rf => by
    first | obtain ⟨_, rfl⟩ := rf.int_inv | obtain ⟨_, rfl⟩ := rf.str_inv | obtain rfl := rf.val_inv | obtain rfl := rf.bool_inv | cases rf
    exact PyProof.Rows.callWith_builtin1 ((EvL.cons r st hp ha (EvL.nil r)).run A _ _ _ pos o (st _ _ k1 i) fun vs h2 t2 k2 rs => by
      cases rs with | cons rv rs =>
      cases rs
      exact h _ _ _ (r.trans k1 k2) rv) (hp _) rfl)
-- a for over an iterator that has a name
theorem forIt (r : Rel R) (hc : k.calm = true) {y : Str} {np pos : Pos} {target : Expr} {body orelse : List Stmt} {it : Addr} {ds : List D} {i : Nat} {o : Out} {A : Around} {s : Shared} {Q : Flow → Shared → Prop} {E : Value → Shared → Prop} (ok : OkA k A)
    (he : Ev prog w X R (St X R G h₀ env ρ) k env (.Name y np) (.val (.ref it))) (S : St X R G h₀ env ρ s.heap) (x : ItL X s.heap it i ds) (hit : h₀.objs.size ≤ it) (hx : X it)
    (hw : ∀ x d, ρ' x = some d → ρ x = some d) (lo : Lo prog w X R G k h₀ env ds target body orelse o i ρ') (hf : ∀ x, foldedSetIterable (.Name y np) env x = pure x) (hq : ∀ h1, R s.heap h1 → ∀ h' t, Kj it h1 h' → o.post X R G h₀ env { s with heap := h', toks := t } Q) :
    wpAny (model prog w) A (exec (.For target (.Name y np) body orelse pos) env) Q E s :=
  wpAny_For (he.run A s _ _ ok S fun v h1 t1 k1 rv => by
    first | obtain ⟨_, rfl⟩ := rv.int_inv | obtain ⟨_, rfl⟩ := rv.str_inv | obtain rfl := rv.val_inv | obtain rfl := rv.bool_inv | cases rv
    have S1 := S.step r k1
    have x1 := x.ki (r.weak k1).ki
    obtain ⟨a, vs, n, p, y, z, hi⟩ := id x1
    refine wpAny_pyIter_listiter hi ?_
    exact for_code r hc ok hit hx (S1.weak hw) x1.at lo fun h3 t3 kj => hq h1 k1 h3 t3 kj) hf
end
end
section
variable {X : Addr → Prop}
section
variable {prog : Program} {w : World} {R : Heap → Heap → Prop} {G I : Heap → Prop} {k : Room} {h₀ : Heap} {env : Env} {ρ ρ' ρ'' : Rho} {L : Addr} {acc acc' : List D}
theorem ExF.weakN {ss : List Stmt} (hw : ∀ x d, ρ'' x = some d → ρ' x = some d) (h : ExF prog w X R G k h₀ env L ρ acc ss (.next ρ' acc')) : ExF prog w X R G k h₀ env L ρ acc ss (.next ρ'' acc') :=
  .mk fun A s Q E ok F q => h.run A s Q E ok F fun h' t F' k' => q h' t (F'.weak hw) k'
theorem ExF.weakB {ss : List Stmt} (hw : ∀ x d, ρ'' x = some d → ρ' x = some d) (h : ExF prog w X R G k h₀ env L ρ acc ss (.brk ρ' acc')) : ExF prog w X R G k h₀ env L ρ acc ss (.brk ρ'' acc') :=
  .mk fun A s Q E ok F q => h.run A s Q E ok F fun h' t F' k' => q h' t (F'.weak hw) k'
-- a call of a built-in type by its name, of one name
theorem call1T {x : Str} {np pos : Pos} {y : Str} {yp : Pos} {T : String} {A : Around} {s : Shared} {Q : Value → Shared → Prop} {E : Value → Shared → Prop}
    (hk : env.scope.kind = .function) (hx : (x == ("__debug__" : Str)) = false) (hy : (y == ("__debug__" : Str)) = false) (lx : Look env s.heap x (.type T)) {v : Value} (ly : Look env s.heap y v)
    (h : wpAny (model prog w) A (call (.type T) [v]) Q E s) : wpAny (model prog w) A (eval (.Call (.Name x np) [.Name y yp] [] pos) env) Q E s :=
  wpAny_Call_NameR (wpAny_Name (look_wp hk lx (by
    exact PyProof.Rows.callWith_type1 (by
      have := wpAny_items_cons (env := env) (pos := pos) (e := .Name y yp) (rest := []) (Q := fun vs s₂ => wpAny (model prog w) A (call (.type T) vs) Q E s₂) (E := E) (s := s) (M := model prog w) (A := A)
        (wpAny_Name (look_wp hk ly (wpAny_items_nil h)) hy) rfl
      exact this) rfl rfl)) hx)
theorem Ex1F.forsW (r : Rel R) (hc : k.calm = true := by rfl) {target iter : Expr} {body orelse : List Stmt} {pos : Pos} {d : D} {ds : List D} {o : OutF} (he : Ev prog w (Less X L) R (St (Less X L) R G h₀ env ρ) k env iter d) (g : Goes d ds) (hf : ∀ x, foldedSetIterable iter env x = pure x)
    (hw : ∀ x d, ρ' x = some d → ρ x = some d) (lo : LoF prog w X R G k h₀ env L ds target body orelse o 0 ρ' acc) : Ex1F prog w X R G k h₀ env L ρ acc (.For target iter body orelse pos) o :=
  .mk fun A s Q E ok F h => wpAny_For (he.run A s _ _ ok F.st fun v h1 t1 k1 rv => g.start rv fun it h2 t2 hit hn kf x => by
    have F1 := F.step r k1
    have F2 := F1.step r (r.full kf)
    have hit' : h₀.objs.size ≤ it := Nat.le_trans (F1.st.size r) hit
    have lx : Less X L it := F1.st.up.fresh hn
    refine for_codeF r hc ok hit' lx (F2.weak hw) x lo fun h3 t3 kj => h.mono (s' := { s with heap := h3, toks := t3 }) (fun b o nl e y => ?_) fun _ _ => rfl
    have e1 := (r.weak k1).ki b o e y
    exact kj b o (fun q => by rw [q] at e1; rw [hn] at e1; cases e1) nl (kf b o e1) y) hf
theorem Ex1F.forEnum (r : Rel R) (hc : k.calm = true) {ts : List Expr} {tn : Nat} {x y : Str} {tp np yp cp pos : Pos} {body orelse : List Stmt} {ds : List D} {o : OutF} (hk : env.scope.kind = .function) (hx : (x == ("__debug__" : Str)) = false) (hy : (y == ("__debug__" : Str)) = false)
    (lx : ∀ h, Fl X R G h₀ env ρ L acc h → Look env h x (.type "enumerate")) (ly : ∀ h, Fl X R G h₀ env ρ L acc h → ∃ v, Look env h y v ∧ Rd (Less X L) h (.tup ds) v)
    (hn : (assignEach ts env).length = 2) (hstar : (assignEach ts env).findIdx? (·.1) = none) (hf : ∀ v, foldedSetIterable (.Call (.Name x np) [.Name y yp] [] cp) env v = pure v)
    (lo : LoE X prog w R G k h₀ env L ds ts body orelse o 0 ρ acc) : Ex1F prog w X R G k h₀ env L ρ acc (.For (.Tuple ts tn tp) (.Call (.Name x np) [.Name y yp] [] cp) body orelse pos) o :=
  .mk fun A s Q E ok F q => by
    obtain ⟨v, lv, rv⟩ := ly _ F
    obtain ⟨a, vs, n, rfl, ht, rl, xa⟩ := rv.tup_inv
    refine wpAny_For (call1T hk hx hy (lx _ F) lv (call_enumerate_tuple (isT_tuple ht) fun h' en ti hsz kf => ?_)) hf
    refine wpAny_pyIter_enum en ?_
    have kf : Kf s.heap h' := kf
    have F1 : Fl X R G h₀ env ρ L acc h' := F.step r (r.full kf)
    have la : a < s.heap.objs.size := Heap.lt_size ht
    have sz : h₀.objs.size ≤ s.heap.objs.size := F.st.size r
    have lL : L < s.heap.objs.size := by obtain ⟨vs, n, l, _⟩ := F.ls; exact Heap.lt_size l
    have hW : ∀ b ∈ [s.heap.objs.size + 1, s.heap.objs.size], h₀.objs.size ≤ b ∧ Less X L b := fun b hb => by
      have fr : ∀ b, s.heap.objs.size ≤ b → Less X L b := fun b hb => F.st.up.fresh (Heap.get?_none_of_le hb)
      rcases List.mem_cons.mp hb with e | e
      · subst e; exact ⟨by lia, fr _ (by lia)⟩
      · have e := List.mem_singleton.mp e; subst e; exact ⟨sz, fr _ (by lia)⟩
    refine for_codeE r hc ok hW hn hstar F1 ⟨⟨a, vs, n, _, xa, Nat.ne_of_lt la, Nat.ne_of_lt (Nat.lt_succ_of_lt la), kf _ _ ht, rl.ks kf.ks, ti, en⟩, Nat.succ_ne_self _⟩ lo fun h3 t3 kj => q.mono (s' := { s with heap := h3, toks := t3 }) (fun b o nl e0 y => ?_) fun _ _ => rfl
    exact kj b o (fun m => by
      have lb := Heap.lt_size e0
      rcases List.mem_cons.mp m with e | e
      · exact absurd lb (by rw [e]; exact Nat.not_lt.mpr (Nat.le_succ _))
      · exact absurd lb (by rw [List.mem_singleton.mp e]; exact Nat.lt_irrefl _)) nl (kf b o e0) y
end
end
section
variable {X : Addr → Prop}
-- the objects of the top lie below
noncomputable def KB (w : World) (B : Nat) : Prop := ∀ a o, (hd.heap_39 w.params).lookup a = some o → a < B
section
variable {w : World} {mg mb : Str → Option Value} {B : Nat} {TB : List Addr} {T : Heap → Prop}
theorem Gs.rm (kb : KB w B) (hT : HardT T) {h h' : Heap} (k : Rm B TB T h h') (G : Gs w mg mb h) : Gs w mg mb h' := by
  have kp := (Rel.rm (B := B) (TB := TB) hT).weak k
  refine ⟨fun a o e n => ?_, ns_kd kp.kd G.g, ns_kd kp.kd G.b, let ⟨mc, a, b⟩ := G.lim; ⟨mc, ns_kd kp.kd a, b⟩, G.bb⟩
  rcases k.1 a o (G.k a o e n) with q | ⟨lb, _⟩ | ⟨_, hc, vs, _, hd, _⟩
  · exact q
  · exact absurd (kb a o e) (Nat.not_lt.mpr lb)
  · exact absurd ⟨hc, vs, hd⟩ n
-- the text stands, and the frames below stand
noncomputable def GF (w : World) (mg mb : Str → Option Value) (B : Nat) (l : List Env) (h : Heap) : Prop := Gs w mg mb h ∧ FF B h l
theorem GF.stat (kb : KB w B) (hT : HardT T) {l : List Env} : Static (Rm B TB T) (GF w mg mb B l) := fun h h' k G => ⟨G.1.rm kb hT k, G.2.kp ((Rel.rm (B := B) (TB := TB) hT).weak k)⟩
theorem FF.size {h : Heap} {e : Env} {l : List Env} (f : FF B h (e :: l)) : B ≤ h.objs.size := by
  obtain ⟨_, L, o, _, hb, ho, _⟩ := f e (.head _)
  exact Nat.le_trans hb (Nat.le_of_lt (Heap.lt_size ho))
end
section
variable {prog : Program} {w : World} {mg mb : Str → Option Value} {k : Nat} {fr : Option (List Env)} {cm : Bool} {R : Heap → Heap → Prop} {G : Heap → Prop}
-- a def of the text, called, in a wider relation
theorem Ca.atR (r : Rel R) (hG : ∀ h, G h → Gs w mg mb h) (a c : Addr) {names : List Str} {as : List D} {d : D} (l : (hd.heap_39 w.params).lookup a = some (objAt w a)) (nt : (objAt w a).cls ≠ .none) (hob : (objAt w a).data = .func (fdAt w a)) (hbody : (fdAt w a).body = .stmts (bodyAt w a))
    (hc : (fdAt w a).code = .ref c) (lc : (hd.heap_39 w.params).lookup c = some (objAt w c)) (ntc : (objAt w c).cls ≠ .none) (hcd : ∃ vs t, (objAt w c).data = .fields vs ∧ vs[1]? = some (.str (fdAt w a).qualname t))
    (hclo : (fdAt w a).closure = []) (hco : (fdAt w a).scope.isCoroutine = false) (hgen : (fdAt w a).scope.isGenerator = false) (hk : (fdAt w a).scope.kind = .function) (hok : cellsOk (fdAt w a).scope.names = true)
    (hlen : as.length = names.length) (hbind : ∀ vals : List Value, vals.length = names.length → bindArgs (fdAt w a) ⟨vals, []⟩ = pure (names.zip vals))
    (hkind : ∀ n, ∀ x ∈ names, (fdAt w a).scope.names.lookup x = some .local ∨ ((fdAt w a).scope.names.lookup x = some .cell ∧ ((cellsFrom (n + 1) (fdAt w a).scope.names []).lookup x).isSome = true))
    (hx : ∀ h₀ : Heap, G h₀ → Ex prog w X R G ⟨k, fr.map (callEnvC (fdAt w a) h₀.objs.size a :: ·), cm⟩ h₀ (callEnvC (fdAt w a) h₀.objs.size a) (rho0 (fun _ => none) names as) (bodyAt w a) (.ret d)) : Ca prog w X R (fun h => G h ∧ Up X h) ⟨k + 1, fr, cm⟩ (.ref a) as d :=
  Ca.fn r hob (fun h g => (hG h g).at l nt) (fun h g => let ⟨vs, t, e1, e2⟩ := hcd; ⟨c, _, vs, t, hc, (hG h g).at lc ntc, e1, e2⟩) (fun h g => (hG h g).lim) hbody hclo hco hgen hk hok hlen hbind hkind hx
theorem CaR.lift {B : Nat} {I I' : Heap → Prop} {k k' : Room} {l : List Env} {f : Value} {as : List D} {C : Addr} {x : Str} (h : CaR prog w X B I' k l f as C x) (hI : ∀ h, I h → I' h) (hk : k.n ≤ k'.n) (h1 : k.fr = none ∨ k.fr = k'.fr) (h2 : k.calm = true → k'.calm = true) : CaR prog w X B I k' l f as C x :=
  .mk fun A s Q E vals o hh hf ff i rs q => h.run A s Q E vals (o.le hk h1 h2) hh hf ff (hI _ i) rs q
end
end
section
variable {X : Addr → Prop}
section
variable {prog : Program} {w : World} {A : Around} {s : Shared}
theorem call_cellsB {R : Result → Shared → Prop} {a : Addr} {o : Obj} {fd : FuncData} {body : List Stmt} {vals : List Value} {binds : List (Str × Value)}
    (hroom : A.depth < recursionLimit) (ho : s.heap.get? a = some o) (hdata : o.data = .func fd) (hlim : s.heap.NoLimit) (hcd : s.heap.CodeRec fd.code fd.qualname)
    (hbody : fd.body = .stmts body) (hbind : BindsTo s fd ⟨vals, []⟩ binds) (hclo : fd.closure = [])
    (hkind : ∀ x ∈ binds, fd.scope.names.lookup x.1 = some .local ∨ (fd.scope.names.lookup x.1 = some .cell ∧ ((cellsFrom (s.heap.objs.size + 1) fd.scope.names []).lookup x.1).isSome = true))
    (h : ∀ s₁, InCallC s (callEnvC fd s.heap.objs.size a).locals (bindL (callEnvC fd s.heap.objs.size a).kindOf binds fun _ => none) (callEnvC fd s.heap.objs.size a).cells
        (bindC (callEnvC fd s.heap.objs.size a).kindOf binds fun _ => none) s₁ →
      wpAny (model prog w) (A.deeper (callEnvC fd s.heap.objs.size a)) (execs body (callEnvC fd s.heap.objs.size a)) (fun f s' => R (.ok (.ret (match f with | .ret v => v | _ => .none))) s')
        (fun e s' => wpAny (model prog w) (A.deeper (callEnvC fd s.heap.objs.size a)) (leaving (callEnvC fd s.heap.objs.size a) e) (fun _ s'' => R (.error e) s'') (fun e' s'' => R (.error e') s'') s') s₁)
    (hco : fd.scope.isCoroutine = false := by rfl) (hgen : fd.scope.isGenerator = false := by rfl) (hk : fd.scope.kind = .function := by rfl) :
    codeAny (model prog w) A (.call (.ref a) ⟨vals, []⟩) R s := by
  refine codeAny_call_function hroom ho hdata hco hgen hbody hcd (hbind _ _ _ _ ?_)
  rw [hclo]
  refine wpAny_newFunctionEnv_cells hk hkind fun env he s' x => ?_
  subst he
  exact ⟨hlim.keeps x.toInCall.keep, codeAny_func (h s' x)⟩
end
section
variable {prog : Program} {w : World} {R : Heap → Heap → Prop} {G I : Heap → Prop} {k : Room}
-- a def with values for the last arguments
theorem Ca.fnB {n : Nat} {fr : Option (List Env)} {cm : Bool} (r : Rel R) {fa : Addr} {ob : Obj} {fd : FuncData} {body : List Stmt} {names : List Str} {as : List D} {d : D} (ex : List Value) (hob : ob.data = .func fd) (ho : ∀ h, G h → h.get? fa = some ob) (hcd : ∀ h, G h → h.CodeRec fd.code fd.qualname)
    (hlim : ∀ h, G h → h.NoLimit) (hbody : fd.body = .stmts body) (hclo : fd.closure = []) (hco : fd.scope.isCoroutine = false) (hgen : fd.scope.isGenerator = false) (hk : fd.scope.kind = .function) (hok : cellsOk fd.scope.names = true)
    (hlen : as.length + ex.length = names.length) (hbind : ∀ (s : Shared) (vals : List Value), G s.heap → vals.length + ex.length = names.length → BindsTo s fd ⟨vals, []⟩ (names.zip (vals ++ ex)))
    (hkind : ∀ n, ∀ x ∈ names, fd.scope.names.lookup x = some .local ∨ (fd.scope.names.lookup x = some .cell ∧ ((cellsFrom (n + 1) fd.scope.names []).lookup x).isSome = true))
    (hx : ∀ h₀ : Heap, G h₀ → Ex prog w X R G ⟨n, fr.map (callEnvC fd h₀.objs.size fa :: ·), cm⟩ h₀ (callEnvC fd h₀.objs.size fa) (rho0 (fun _ => none) names (as ++ ex.map D.val)) body (.ret d)) : Ca prog w X R (fun h => G h ∧ Up X h) ⟨n + 1, fr, cm⟩ (.ref fa) as d :=
  .mk fun A s Q E vals o i rs q => by
    have hl : vals.length + ex.length = names.length := by rw [rs.length]; exact hlen
    refine wpAny_call (call_cellsB (by have h : A.depth + (n + 1) ≤ 990 := o.depth; show A.depth < 1000; lia) (ho _ i.1) hob (hlim _ i.1) (hcd _ i.1) hbody (hbind s vals i.1 hl) hclo ?_ ?_ hco hgen hk)
    · intro x hx
      obtain ⟨a, b⟩ := x
      exact hkind _ _ (List.of_mem_zip hx).1
    · intro s₁ Y
      obtain ⟨h', tk, rfl⟩ := Y.toInCall.same
      have kf : Kf s.heap h' := Y.toInCall.keep
      have rd := rho0_rd (kind := (callEnvC fd s.heap.objs.size fa).kindOf) (names := names) (acc := fun _ => none) (m := fun _ => none) (cm := fun _ => none) ((rs.append (RdL.vals ex)).ks kf.ks) (fun x d e => by cases e)
      refine (hx s.heap i.1).run _ _ _ _ o.deeper ⟨r.full kf, i.1, ⟨_, Y.toInCall.ns, fun x d e kx => (rd x d e).1 kx⟩, fun x c e => ⟨_, Y.cell x c e, fun d ed => ?_⟩, Y.toInCall.fresh, fun x y c e1 e2 => ?_, i.2.kp kf.kp⟩ fun v h'' t k rv => q v h'' t k rv
      · by_cases kx : (callEnvC fd s.heap.objs.size fa).kindOf x = some .local
        · exfalso
          rcases cellsFrom_mem (lookup_mem e) with m | m
          · have h1 : fd.scope.names.lookup x = some .cell := cellsOk_kind hok m
            have h2 : fd.scope.names.lookup x = some .local := kx
            rw [h1] at h2; cases h2
          · cases m
        · exact (rd x d ed).2 kx
      · exact pair_apart Y.apart (lookup_mem e1) (lookup_mem e2)
end
section
variable {prog : Program} {w : World} {mg mb : Str → Option Value} {k : Nat} {fr : Option (List Env)} {cm : Bool} {R : Heap → Heap → Prop} {G : Heap → Prop}
theorem Ca.atB (r : Rel R) (hG : ∀ h, G h → Gs w mg mb h) (a c : Addr) {names : List Str} {as : List D} {d : D} (ex : List Value) (l : (hd.heap_39 w.params).lookup a = some (objAt w a)) (nt : (objAt w a).cls ≠ .none) (hob : (objAt w a).data = .func (fdAt w a)) (hbody : (fdAt w a).body = .stmts (bodyAt w a))
    (hc : (fdAt w a).code = .ref c) (lc : (hd.heap_39 w.params).lookup c = some (objAt w c)) (ntc : (objAt w c).cls ≠ .none) (hcd : ∃ vs t, (objAt w c).data = .fields vs ∧ vs[1]? = some (.str (fdAt w a).qualname t))
    (hclo : (fdAt w a).closure = []) (hco : (fdAt w a).scope.isCoroutine = false) (hgen : (fdAt w a).scope.isGenerator = false) (hk : (fdAt w a).scope.kind = .function) (hok : cellsOk (fdAt w a).scope.names = true)
    (hlen : as.length + ex.length = names.length) (hbind : ∀ (s : Shared) (vals : List Value), Gs w mg mb s.heap → vals.length + ex.length = names.length → BindsTo s (fdAt w a) ⟨vals, []⟩ (names.zip (vals ++ ex)))
    (hkind : ∀ n, ∀ x ∈ names, (fdAt w a).scope.names.lookup x = some .local ∨ ((fdAt w a).scope.names.lookup x = some .cell ∧ ((cellsFrom (n + 1) (fdAt w a).scope.names []).lookup x).isSome = true))
    (hx : ∀ h₀ : Heap, G h₀ → Ex prog w X R G ⟨k, fr.map (callEnvC (fdAt w a) h₀.objs.size a :: ·), cm⟩ h₀ (callEnvC (fdAt w a) h₀.objs.size a) (rho0 (fun _ => none) names (as ++ ex.map D.val)) (bodyAt w a) (.ret d)) : Ca prog w X R (fun h => G h ∧ Up X h) ⟨k + 1, fr, cm⟩ (.ref a) as d :=
  Ca.fnB r ex hob (fun h g => (hG h g).at l nt) (fun h g => let ⟨vs, t, e1, e2⟩ := hcd; ⟨c, _, vs, t, hc, (hG h g).at lc ntc, e1, e2⟩) (fun h g => (hG h g).lim) hbody hclo hco hgen hk hok hlen (fun s vals g => hbind s vals (hG _ g)) hkind hx
end
end
section
variable {X : Addr → Prop}
noncomputable abbrev sQ (x : String) : Str := Str.ofString x
noncomputable def fmTables : List (List (Int × Str)) := [[(40960, sQ "l"), (49152, sQ "s"), (32768, sQ "-"), (24576, sQ "b"), (16384, sQ "d"), (8192, sQ "c"), (4096, sQ "p")],
  [(256, sQ "r")],
  [(128, sQ "w")],
  [(2112, sQ "s"), (2048, sQ "S"), (64, sQ "x")],
  [(32, sQ "r")],
  [(16, sQ "w")],
  [(1032, sQ "s"), (1024, sQ "S"), (8, sQ "x")],
  [(4, sQ "r")],
  [(2, sQ "w")],
  [(513, sQ "t"), (512, sQ "T"), (1, sQ "x")]]
noncomputable def pairD (p : Int × Str) : D := .tup [.int p.1, .str p.2]
noncomputable def rowD (l : List (Int × Str)) : D := .tup (l.map pairD)
section
variable {w : World} {mg mb : Str → Option Value} {h : Heap}
theorem rd_pair {a : Addr} {b : Int} {c : Str} {t u : Tok} (hX : X a) (e : IsT h a [Value.int b t, Value.str c u].toArray 0) : Rd X h (pairD (b, c)) (.ref a) := .tup hX e (.cons (.int _ _) (.cons (.str _ _) .nil))
theorem rd_tab (G : Gs w mg mb h) (hX : ∀ a, (hd.heap_39 w.params).lookup a = some (objAt w a) → (objAt w a).cls ≠ .none → X a) : Rd X h (.tup (fmTables.map rowD)) (.ref 121) := by
  have e89 := G.at (a := 89) (by rfl) (by intro h; cases h)
  have e90 := G.at (a := 90) (by rfl) (by intro h; cases h)
  have e91 := G.at (a := 91) (by rfl) (by intro h; cases h)
  have e92 := G.at (a := 92) (by rfl) (by intro h; cases h)
  have e93 := G.at (a := 93) (by rfl) (by intro h; cases h)
  have e94 := G.at (a := 94) (by rfl) (by intro h; cases h)
  have e95 := G.at (a := 95) (by rfl) (by intro h; cases h)
  have e97 := G.at (a := 97) (by rfl) (by intro h; cases h)
  have e99 := G.at (a := 99) (by rfl) (by intro h; cases h)
  have e101 := G.at (a := 101) (by rfl) (by intro h; cases h)
  have e102 := G.at (a := 102) (by rfl) (by intro h; cases h)
  have e103 := G.at (a := 103) (by rfl) (by intro h; cases h)
  have e105 := G.at (a := 105) (by rfl) (by intro h; cases h)
  have e107 := G.at (a := 107) (by rfl) (by intro h; cases h)
  have e109 := G.at (a := 109) (by rfl) (by intro h; cases h)
  have e110 := G.at (a := 110) (by rfl) (by intro h; cases h)
  have e111 := G.at (a := 111) (by rfl) (by intro h; cases h)
  have e113 := G.at (a := 113) (by rfl) (by intro h; cases h)
  have e115 := G.at (a := 115) (by rfl) (by intro h; cases h)
  have e117 := G.at (a := 117) (by rfl) (by intro h; cases h)
  have e118 := G.at (a := 118) (by rfl) (by intro h; cases h)
  have e119 := G.at (a := 119) (by rfl) (by intro h; cases h)
  have e96 := G.at (a := 96) (by rfl) (by intro h; cases h)
  have e98 := G.at (a := 98) (by rfl) (by intro h; cases h)
  have e100 := G.at (a := 100) (by rfl) (by intro h; cases h)
  have e104 := G.at (a := 104) (by rfl) (by intro h; cases h)
  have e106 := G.at (a := 106) (by rfl) (by intro h; cases h)
  have e108 := G.at (a := 108) (by rfl) (by intro h; cases h)
  have e112 := G.at (a := 112) (by rfl) (by intro h; cases h)
  have e114 := G.at (a := 114) (by rfl) (by intro h; cases h)
  have e116 := G.at (a := 116) (by rfl) (by intro h; cases h)
  have e120 := G.at (a := 120) (by rfl) (by intro h; cases h)
  have e121 := G.at (a := 121) (by rfl) (by intro h; cases h)
  have r96 : Rd X h (rowD [(40960, sQ "l"), (49152, sQ "s"), (32768, sQ "-"), (24576, sQ "b"), (16384, sQ "d"), (8192, sQ "c"), (4096, sQ "p")]) (.ref 96) := .tup (vs := [Value.ref 89, Value.ref 90, Value.ref 91, Value.ref 92, Value.ref 93, Value.ref 94, Value.ref 95]) (n := 0) (hX _ (by rfl) (by intro h; cases h)) e96 (.cons (rd_pair (t := 308) (u := 336) (hX _ (by rfl) (by intro h; cases h)) e89) (.cons (rd_pair (t := 310) (u := 337) (hX _ (by rfl) (by intro h; cases h)) e90) (.cons (rd_pair (t := 304) (u := 338) (hX _ (by rfl) (by intro h; cases h)) e91) (.cons (rd_pair (t := 302) (u := 339) (hX _ (by rfl) (by intro h; cases h)) e92) (.cons (rd_pair (t := 298) (u := 340) (hX _ (by rfl) (by intro h; cases h)) e93) (.cons (rd_pair (t := 300) (u := 341) (hX _ (by rfl) (by intro h; cases h)) e94) (.cons (rd_pair (t := 306) (u := 342) (hX _ (by rfl) (by intro h; cases h)) e95) (.nil))))))))
  have r98 : Rd X h (rowD [(256, sQ "r")]) (.ref 98) := .tup (vs := [Value.ref 97]) (n := 0) (hX _ (by rfl) (by intro h; cases h)) e98 (.cons (rd_pair (t := 318) (u := 343) (hX _ (by rfl) (by intro h; cases h)) e97) (.nil))
  have r100 : Rd X h (rowD [(128, sQ "w")]) (.ref 100) := .tup (vs := [Value.ref 99]) (n := 0) (hX _ (by rfl) (by intro h; cases h)) e100 (.cons (rd_pair (t := 320) (u := 344) (hX _ (by rfl) (by intro h; cases h)) e99) (.nil))
  have r104 : Rd X h (rowD [(2112, sQ "s"), (2048, sQ "S"), (64, sQ "x")]) (.ref 104) := .tup (vs := [Value.ref 101, Value.ref 102, Value.ref 103]) (n := 0) (hX _ (by rfl) (by intro h; cases h)) e104 (.cons (rd_pair (t := 345) (u := 346) (hX _ (by rfl) (by intro h; cases h)) e101) (.cons (rd_pair (t := 312) (u := 347) (hX _ (by rfl) (by intro h; cases h)) e102) (.cons (rd_pair (t := 322) (u := 348) (hX _ (by rfl) (by intro h; cases h)) e103) (.nil))))
  have r106 : Rd X h (rowD [(32, sQ "r")]) (.ref 106) := .tup (vs := [Value.ref 105]) (n := 0) (hX _ (by rfl) (by intro h; cases h)) e106 (.cons (rd_pair (t := 324) (u := 349) (hX _ (by rfl) (by intro h; cases h)) e105) (.nil))
  have r108 : Rd X h (rowD [(16, sQ "w")]) (.ref 108) := .tup (vs := [Value.ref 107]) (n := 0) (hX _ (by rfl) (by intro h; cases h)) e108 (.cons (rd_pair (t := 326) (u := 350) (hX _ (by rfl) (by intro h; cases h)) e107) (.nil))
  have r112 : Rd X h (rowD [(1032, sQ "s"), (1024, sQ "S"), (8, sQ "x")]) (.ref 112) := .tup (vs := [Value.ref 109, Value.ref 110, Value.ref 111]) (n := 0) (hX _ (by rfl) (by intro h; cases h)) e112 (.cons (rd_pair (t := 351) (u := 352) (hX _ (by rfl) (by intro h; cases h)) e109) (.cons (rd_pair (t := 314) (u := 353) (hX _ (by rfl) (by intro h; cases h)) e110) (.cons (rd_pair (t := 328) (u := 354) (hX _ (by rfl) (by intro h; cases h)) e111) (.nil))))
  have r114 : Rd X h (rowD [(4, sQ "r")]) (.ref 114) := .tup (vs := [Value.ref 113]) (n := 0) (hX _ (by rfl) (by intro h; cases h)) e114 (.cons (rd_pair (t := 330) (u := 355) (hX _ (by rfl) (by intro h; cases h)) e113) (.nil))
  have r116 : Rd X h (rowD [(2, sQ "w")]) (.ref 116) := .tup (vs := [Value.ref 115]) (n := 0) (hX _ (by rfl) (by intro h; cases h)) e116 (.cons (rd_pair (t := 332) (u := 356) (hX _ (by rfl) (by intro h; cases h)) e115) (.nil))
  have r120 : Rd X h (rowD [(513, sQ "t"), (512, sQ "T"), (1, sQ "x")]) (.ref 120) := .tup (vs := [Value.ref 117, Value.ref 118, Value.ref 119]) (n := 0) (hX _ (by rfl) (by intro h; cases h)) e120 (.cons (rd_pair (t := 357) (u := 358) (hX _ (by rfl) (by intro h; cases h)) e117) (.cons (rd_pair (t := 316) (u := 359) (hX _ (by rfl) (by intro h; cases h)) e118) (.cons (rd_pair (t := 334) (u := 360) (hX _ (by rfl) (by intro h; cases h)) e119) (.nil))))
  exact .tup (vs := [Value.ref 96, Value.ref 98, Value.ref 100, Value.ref 104, Value.ref 106, Value.ref 108, Value.ref 112, Value.ref 114, Value.ref 116, Value.ref 120]) (n := 0) (hX _ (by rfl) (by intro h; cases h)) e121 (.cons r96 (.cons r98 (.cons r100 (.cons r104 (.cons r106 (.cons r108 (.cons r112 (.cons r114 (.cons r116 (.cons r120 (.nil)))))))))))
end
end
section
theorem strIdx (lo hi : Option Int) (n : Nat) : Builtin.Str.strSliceIndices lo hi 1 n = sliceRange ((lo.elim 0 (clipAt n) : Nat) : Int) ((hi.elim n (clipAt n) : Nat) : Int) 1 := by
  unfold Builtin.Str.strSliceIndices
  cases lo <;> cases hi <;> simp [clipAt_cast]
theorem slice_list (x : Str) (lo hi : Option Int) : (Txt.slice x lo hi).cps.toList = (x.cps.toList.drop (lo.elim 0 (clipAt x.length))).take (hi.elim x.length (clipAt x.length) - lo.elim 0 (clipAt x.length)) := by
  have hxl : x.cps.toList.length = x.length := by rw [Array.length_toList]; rfl
  have key : ((Builtin.Str.strSliceIndices lo hi 1 x.length).filterMap (x.cps[·]?)) = (x.cps.toList.drop (lo.elim 0 (clipAt x.length))).take (hi.elim x.length (clipAt x.length) - lo.elim 0 (clipAt x.length)) := by
    rw [strIdx, sliceRange_one, List.filterMap_map]
    have := fm_range x.cps.toList (lo.elim 0 (clipAt x.length)) (hi.elim x.length (clipAt x.length) - lo.elim 0 (clipAt x.length))
    rw [← this]
    congr 1
    funext i
    simp [Function.comp]
  unfold Txt.slice
  split
  · rename_i h
    have hl : (Builtin.Str.strSliceIndices lo hi 1 x.length).length = x.length := by simpa using h
    rw [strIdx, sliceRange_one, List.length_map, List.length_range] at hl
    have h1 : hi.elim x.length (clipAt x.length) ≤ x.length := by cases hi <;> simp [clip_le]
    by_cases z : x.length = 0
    · have : x.cps.toList = [] := List.eq_nil_of_length_eq_zero (by lia)
      rw [this]; simp
    · have e0 : lo.elim 0 (clipAt x.length) = 0 := by lia
      have e1 : hi.elim x.length (clipAt x.length) = x.length := by lia
      rw [e0, e1]
      simp only [List.drop_zero, Nat.sub_zero]
      rw [← hxl, List.take_length]
  · rw [List.toList_toArray]
    exact key
theorem len_cps (x : Str) : x.length = x.cps.toList.length := by rw [Array.length_toList]; rfl
theorem len_slice_to {x : Str} {i : Int} (h0 : 0 ≤ i) (h1 : i ≤ x.length) : ((Txt.slice x none (some i)).length : Int) = i := by
  rw [len_cps, slice_list, List.length_take, List.length_drop, ← len_cps]
  simp only [Option.elim, clip_pos h0 h1]
  lia
theorem len_slice_from {x : Str} {i : Int} (h0 : 0 ≤ i) (h1 : i ≤ x.length) : ((Txt.slice x (some i) none).length : Int) = x.length - i := by
  rw [len_cps, slice_list, List.length_take, List.length_drop, ← len_cps]
  simp only [Option.elim, clip_pos h0 h1]
  lia
end
section
noncomputable def ent (P : Params) (x : Str) (t : Tok) (v : Value) : DictEntry := ⟨PyData.keyHash P x, .str x t, v⟩
open AutoSeq1 (wpAny_loadPart') in
theorem alloc_k {M : Model} {A : Around} {E : Value → Shared → Prop} {h : Heap} {g : Array GenState} {d : Drawn} {t : Nat} {os : OsState} {o : Obj} {Q : Addr → Shared → Prop} (hf : o.isFreed = false)
    (k : ∀ a h', h.get? a = none → (∀ b o', h.get? b = some o' → h'.get? b = some o') → h'.get? a = some o → Q a ⟨h', g, d, t, os⟩) : wpAny M A (alloc o) Q E ⟨h, g, d, t, os⟩ :=
  wpAny_alloc (k _ _ (Heap.get?_none_of_le (Nat.le_refl _)) (fun b o' e => Heap.get?_push_of_some _ e) (Heap.get?_push_size _ hf))
theorem update_k {M : Model} {A : Around} {E : Value → Shared → Prop} {h : Heap} {g : Array GenState} {d : Drawn} {t : Nat} {os : OsState} {a : Addr} {q : Option Value} {f : Obj → Obj} {o : Obj} {Q : Unit → Shared → Prop} (ho : h.get? a = some o) (hf : (f o).isFreed = false)
    (k : ∀ h', (∀ b o', b ≠ a → h.get? b = some o' → h'.get? b = some o') → h'.get? a = some (f o) → Q () ⟨h', g, d, t, os⟩) : wpAny M A (updatePart a q f) Q E ⟨h, g, d, t, os⟩ :=
  wpAny_updatePart ho (k _ (fun b o' n e => (Heap.get?_update_other _ _ (Ne.symm n)).trans e) (Heap.get?_update_self _ ho hf))
theorem update_k' {M : Model} {A : Around} {E : Value → Shared → Prop} {h : Heap} {g : Array GenState} {d : Drawn} {t : Nat} {os : OsState} {a : Addr} {f : Obj → Obj} {o : Obj} {Q : Unit → Shared → Prop} (ho : h.get? a = some o) (hf : (f o).isFreed = false)
    (k : ∀ h', (∀ b o', b ≠ a → h.get? b = some o' → h'.get? b = some o') → h'.get? a = some (f o) → Q () ⟨h', g, d, t, os⟩) : wpAny M A (update a f) Q E ⟨h, g, d, t, os⟩ :=
  wpAny_update ho (k _ (fun b o' n e => (Heap.get?_update_other _ _ (Ne.symm n)).trans e) (Heap.get?_update_self _ ho hf))
theorem wpAny_ask' {M : Model} {A : Around} {E : Value → Shared → Prop} {s : Shared} {Q : Setting → Shared → Prop} (k : Q ⟨M.prog, M.w.params⟩ s) : wpAny M A ask Q E s := fun Γ p hΓ => k
theorem slots_read {prog : Program} {w : World} {A : Around} {Q : Builtin.Slots.Plan → Shared → Prop} {E : Value → Shared → Prop} {h : Heap} {g : Array GenState} {d : Drawn} {tk : Nat} {os : OsState} {t1 t2 t3 t4 t5 t6 t7 t8 t9 t10 t11 t12 t13 t14 t15 t16 : Tok} {a1 a2 a3 a4 a5 a6 a7 a8 : Addr}
  (h3 : h.get? a1 = some { cls := .type "list", data := .seq #[.str "obj" t16] 0 })
  (k : ∀ h', (∀ b o', h.get? b = some o' → h'.get? b = some o') → Q { names := ["obj"], dict := false, weak := false, inherited := [] } ⟨h', g, d, tk, os⟩) :
  wpAny (model prog w) A (Builtin.Slots.read "K" [.type "object"] #[ent w.params "__module__" t1 (.str "cpy313.functools" t2), ent w.params "__qualname__" t3 (.str "cmp_to_key.<locals>.K" t4), ent w.params "__firstlineno__" t5 (.int 4 t6),
    ent w.params "__slots__" t7 (.ref a1), ent w.params "__init__" t8 (.ref a2), ent w.params "__lt__" t9 (.ref a3), ent w.params "__gt__" t10 (.ref a4), ent w.params "__eq__" t11 (.ref a5), ent w.params "__le__" t12 (.ref a6), ent w.params "__ge__" t13 (.ref a7),
    ent w.params "__hash__" t14 .none, ent w.params "__static_attributes__" t15 (.ref a8)]) Q E ⟨h, g, d, tk, os⟩ := by
  have m1 : typeOf (.type "object") = pure (.type "type") := by kernel_rfl
  have m2 : isSubtype (.type "type") (.type "type") = pure true := by rw [isSubtype_type]; kernel_rfl
  have s3 : isSubtype (.type "object") (.type "object") = pure true := by rw [isSubtype_type]; kernel_rfl
  have l2 : typeLookup (.type "object") "__weakref__" = pure none := by rw [typeLookup_type, builtinLookup_eq_fast]; kernel_rfl
  have l3 : typeLookup (.type "object") "__dict__" = pure none := by rw [typeLookup_type, builtinLookup_eq_fast]; kernel_rfl
  have f1 : Array.find? (fun x : DictEntry => x.key.isStr (Str.ofString "__slots__")) #[ent w.params "__module__" t1 (.str "cpy313.functools" t2), ent w.params "__qualname__" t3 (.str "cmp_to_key.<locals>.K" t4), ent w.params "__firstlineno__" t5 (.int 4 t6),
    ent w.params "__slots__" t7 (.ref a1), ent w.params "__init__" t8 (.ref a2), ent w.params "__lt__" t9 (.ref a3), ent w.params "__gt__" t10 (.ref a4), ent w.params "__eq__" t11 (.ref a5), ent w.params "__le__" t12 (.ref a6), ent w.params "__ge__" t13 (.ref a7),
    ent w.params "__hash__" t14 .none, ent w.params "__static_attributes__" t15 (.ref a8)] = some (ent w.params "__slots__" t7 (.ref a1)) := by kernel_rfl
  have f2 : Builtin.Slots.isIdentifier (Str.ofString "obj") = some true := by kernel_rfl
  wp_delta
  wtm_at "cw"
  refine wpAny_collect_seq a1 (T := "list") (o := { cls := .type "list", data := .seq #[.str "obj" t16] 0 }) (items := #[.str "obj" t16]) (n := 0) (.inl rfl) h3 rfl rfl (fun h' k' => ?_) (show 1 ≤ sizeLine by decide)
  wtm_at "cw"
  have e : ∀ p : Builtin.Slots.Plan, p = { names := ["obj"], dict := false, weak := false, inherited := [] } → Q p ⟨h', g, d, tk, os⟩ := fun p q => q ▸ k h' k'
  exact e _ (by kernel_rfl)
set_option pp.deepTerms false in
set_option pp.maxSteps 1500 in
theorem slots_install {prog : Program} {w : World} {A : Around} {Q : Unit → Shared → Prop} {E : Value → Shared → Prop} {h : Heap} {g : Array GenState} {d : Drawn} {tk : Nat} {os : OsState} {t1 t2 t3 t4 t5 t6 t7 t8 t9 t10 t11 t12 t13 t14 t15 t16 t17 : Tok} {a1 a2 a3 a4 a5 a6 a7 a8 bT ns C : Addr} (c3 : ns ≠ C)
  (e1 : h.get? ns = some { cls := .type "dict", data := .dict #[ent w.params "__module__" t1 (.str "cpy313.functools" t2), ent w.params "__firstlineno__" t5 (.int 4 t6), ent w.params "__slots__" t7 (.ref a1), ent w.params "__init__" t8 (.ref a2), ent w.params "__lt__" t9 (.ref a3), ent w.params "__gt__" t10 (.ref a4), ent w.params "__eq__" t11 (.ref a5), ent w.params "__le__" t12 (.ref a6), ent w.params "__ge__" t13 (.ref a7), ent w.params "__hash__" t14 .none, ent w.params "__static_attributes__" t15 (.ref a8)] 1 })
  (e2 : h.get? C = some { cls := .type "type", data := .cls { name := "K", bases := [.type "object"], mro := [.ref C, .type "object"], ns := ns, qualname := "cmp_to_key.<locals>.K" }, slots := #[some (.ref bT), none, some (.str "K" t17), some (.str "cmp_to_key.<locals>.K" t4), some (.builtin "object.__new__")] })
  (k : ∀ mD h', (∀ b o, b ≠ ns → b ≠ C → h.get? b = some o → h'.get? b = some o) → h.get? mD = none → h'.get? ns = some { cls := .type "dict", data := .dict #[ent w.params "__module__" t1 (.str "cpy313.functools" t2), ent w.params "__firstlineno__" t5 (.int 4 t6), ent w.params "__slots__" t7 (.ref a1), ent w.params "__init__" t8 (.ref a2), ent w.params "__lt__" t9 (.ref a3), ent w.params "__gt__" t10 (.ref a4), ent w.params "__eq__" t11 (.ref a5), ent w.params "__le__" t12 (.ref a6), ent w.params "__ge__" t13 (.ref a7), ent w.params "__hash__" t14 .none, ent w.params "__static_attributes__" t15 (.ref a8), ent w.params "obj" (tk + 1) (.ref mD)] 2 } → h'.get? C = some { cls := .type "type", data := .cls { name := "K", bases := [.type "object"], mro := [.ref C, .type "object"], ns := ns, qualname := "cmp_to_key.<locals>.K", hasDict := false, slotNames := ["obj"] }, slots := #[some (.ref bT), none, some (.str "K" t17), some (.str "cmp_to_key.<locals>.K" t4), some (.builtin "object.__new__")] } → h'.get? mD = some { cls := .type "member_descriptor", data := .fields #[.str "obj" tk, .ref C, .builtin "proto.slot", .builtin "proto.slot#set", .int 0 0] } → Q () ⟨h', g, d, tk + 1 + 1, os⟩) :
  wpAny (model prog w) A (Builtin.Slots.install (.ref C) ns [.type "object"] { names := ["obj"], dict := false, weak := false, inherited := [] }) Q E ⟨h, g, d, tk, os⟩ := by
  have l3 : typeLookup (.type "object") "__dict__" = pure none := by rw [typeLookup_type, builtinLookup_eq_fast]; kernel_rfl
  wp_delta
  wtm_at "cw"
  refine alloc_k rfl (fun mD hn7 hM0 k7 e3 => ?_)
  have c8 : ns ≠ mD := fun q => by rw [q, hM0] at e1; cases e1
  have c9 : C ≠ mD := fun q => by rw [q, hM0] at e2; cases e2
  have e1 := k7 _ _ e1
  have e2 := k7 _ _ e2
  have e3 : hn7.get? mD = some { cls := .type "member_descriptor", data := .fields #[.str "obj" tk, .ref C, .builtin "proto.slot", .builtin "proto.slot#set", .int 0 0] } := e3.trans (by kernel_rfl)
  wtm_at "cw"
  refine update_k e1 rfl (fun h5 k5 e5 => ?_)
  have e2 := k5 _ _ (Ne.symm c3) e2
  have e3 := k5 _ _ (Ne.symm c8) e3
  have e1 : h5.get? ns = some { cls := .type "dict", data := .dict #[ent w.params "__module__" t1 (.str "cpy313.functools" t2), ent w.params "__firstlineno__" t5 (.int 4 t6), ent w.params "__slots__" t7 (.ref a1), ent w.params "__init__" t8 (.ref a2), ent w.params "__lt__" t9 (.ref a3), ent w.params "__gt__" t10 (.ref a4), ent w.params "__eq__" t11 (.ref a5), ent w.params "__le__" t12 (.ref a6), ent w.params "__ge__" t13 (.ref a7), ent w.params "__hash__" t14 .none, ent w.params "__static_attributes__" t15 (.ref a8), ent w.params "obj" (tk + 1) (.ref mD)] 2 } := e5.trans (by kernel_rfl)
  wtm_at "cw"
  refine update_k' e2 rfl (fun h6 k6 e6 => ?_)
  have e1 := k6 _ _ c3 e1
  have e3 := k6 _ _ (Ne.symm c9) e3
  have e2 : h6.get? C = some { cls := .type "type", data := .cls { name := "K", bases := [.type "object"], mro := [.ref C, .type "object"], ns := ns, qualname := "cmp_to_key.<locals>.K", hasDict := false, slotNames := ["obj"] }, slots := #[some (.ref bT), none, some (.str "K" t17), some (.str "cmp_to_key.<locals>.K" t4), some (.builtin "object.__new__")] } := e6.trans (by kernel_rfl)
  wtm_at "cw"
  exact k mD h6 (fun b o n1 n2 e => k6 b o n2 (k5 b o n1 (k7 b o e))) hM0 e1 e2 e3
end
section
section
variable {prog : Program} {w : World} {A : Around} {E : Value → Shared → Prop} {h : Heap} {g : Array GenState} {d : Drawn} {t : Nat} {os : OsState}
theorem sub_cc {M : Model} {C : Addr} {oC : Obj} {cd : ClassData} (hC : h.get? C = some oC) (hd : oC.data = .cls cd) (hm : cd.mro = [.ref C, .type "object"]) : Looks M h (isSubtype (.ref C) (.ref C)) true := by
  intro A Q E s k q
  obtain ⟨hh, g, d, t, os⟩ := s
  unfold isSubtype mroOf classData
  refine wpAny_bind (wpAny_bind (wpAny_bind (wpAny_load (k _ _ hC) ?_)))
  rw [hd]
  refine wpAny_pure (wpAny_pure ?_)
  rw [hm]
  show wpAny _ _ (pure _) _ _ _
  refine wpAny_pure ?_
  have : ([Value.ref C, Value.type "object"].contains (Value.ref C)) = true := by simp
  rw [this]; exact q
theorem wpAny_forCons {α β : Type} {M : Model} {A : Around} {E : Value → Shared → Prop} {s : Shared} {a : α} {l : List α} {init : β} {f : α → β → Sem (ForInStep β)} {Q : β → Shared → Prop}
    (k : wpAny M A (f a init >>= fun r => match r with | .done b => pure b | .yield b => forIn l b f) Q E s) : wpAny M A (forIn (a :: l) init f) Q E s := by rw [List.forIn_cons]; exact k
theorem super_cc {C : Addr} {oC : Obj} {cd : ClassData} {Q : Value → Shared → Prop}
    (hC : h.get? C = some oC) (hd : oC.data = .cls cd) (hm : cd.mro = [.ref C, .type "object"])
    (hq : ∀ h', h.get? h.objs.size = none → h'.get? h.objs.size = some { cls := .type "super", dict := none, data := .fields #[.ref C, .ref C, .ref C], slots := #[] } → (∀ y o, h.get? y = some o → h'.get? y = some o) → Q (.ref h.objs.size) ⟨h', g, d, t, os⟩) :
    wpAny (model prog w) A (call (.type "super") [.ref C, .ref C]) Q E ⟨h, g, d, t, os⟩ := by
  refine ks_callType_codesW (Q₁ := fun obj s₁ => obj = .ref h.objs.size ∧ s₁ = ⟨h.push { cls := .type "super", data := .fields #[.none, .none, .none] }, g, d, t, os⟩) F.ks_called_super (ks_wpAny_checkTypeCall_super hC hd) F.ks_entry_super_init
    (ks_code_super_new _ _ ⟨rfl, rfl⟩) fun obj s₁ h₁ => ?_
  obtain ⟨rfl, rfl⟩ := h₁
  have up : ∀ y o, h.get? y = some o → (h.push { cls := .type "super", data := .fields #[.none, .none, .none] }).get? y = some o := fun y o e => Heap.get?_push_of_some _ e
  have hso : (h.push { cls := .type "super", data := .fields #[.none, .none, .none] }).get? h.objs.size = some { cls := .type "super", dict := none, data := .fields #[.none, .none, .none], slots := #[] } := Heap.get?_push_at rfl rfl
  have hC' := up _ _ hC
  have hsub' := sub_cc (M := model prog w) hC' hd hm
  refine ⟨⟨_, hso, rfl⟩, F.ks_initArgs_super _ _ _, ?_⟩
  unfold Builtin.«super.__init__» noKeywords
  repeat (first | (with_reducible refine ks_wpAny_isType_cls hC' hd ?_) | (with_reducible refine Looks.at hsub' ?_) | (with_reducible refine ks_wpAny_super_set3 hso ?_) | wp_step)
  all_goals first
    | (intro h' e k; exact ⟨rfl, hq h' (Heap.get?_none_of_le (Nat.le_refl _)) e fun y o ey => k y o (Nat.ne_of_lt (Heap.lt_size ey)) (up y o ey)⟩)
    | (refine ks_wpAny_super_set3 hso ?_; intro h' e k; exact ⟨rfl, hq h' (Heap.get?_none_of_le (Nat.le_refl _)) e fun y o ey => k y o (Nat.ne_of_lt (Heap.lt_size ey)) (up y o ey)⟩)
theorem own_init_sub : classOwn (.type "object") "__init_subclass__" = pure (some (.builtin "object.__init_subclass__")) := by kernel_rfl
theorem ty_init_sub : typeOf (.builtin "object.__init_subclass__") = pure (.type "classmethod_descriptor") := by kernel_rfl
theorem get_cmd : typeLookup (.type "classmethod_descriptor") "__get__" = pure (some (.builtin "classmethod_descriptor.__get__")) := by rw [typeLookup_type, builtinLookup_eq_fast]; kernel_rfl
theorem slot_cmd_get : Slot "classmethod_descriptor" "__get__" "classmethod_descriptor.__get__" := .of (owner := "classmethod_descriptor") (n := "__get__") (by rw [typeLookup_type, builtinLookup_eq_fast]; kernel_rfl) (by decide +kernel) (by decide +kernel) (by decide +kernel)
  (by first | exact .inl (by decide +kernel) | exact .inr (by decide +kernel)) (by rw [isSubtype_type]; kernel_rfl)
theorem entry_cmd_get : entryFor table "classmethod_descriptor.__get__" = some Builtin.«classmethod_descriptor.__get__» := entryFor_of_tree (by kernel_rfl)
theorem args_cmd_get (a b c : Value) : argsOk "classmethod_descriptor.__get__" ⟨[a, b, c], []⟩ := by unfold argsOk; kernel_rfl
theorem entry_init_sub : entryFor table "object.__init_subclass__" = some Builtin.«object.__init_subclass__» := entryFor_of_tree (by kernel_rfl)
theorem sig_init_sub : ∃ sg, Manifest.signature? "object.__init_subclass__" = some sg ∧ ∀ C, Bind.checkArgs "object.__init_subclass__" { sg with full := s!"{(Str.ofString "cmp_to_key.<locals>.K").toString}.{("__init_subclass__" : String)}" } ⟨[.ref C], []⟩ = pure () := ⟨_, by rfl, fun C => by kernel_rfl⟩
theorem kind_init_sub : builtinKind "object.__init_subclass__" = some .classMethod := by kernel_rfl
theorem last_init_sub : Bind.lastOf "object.__init_subclass__" = "__init_subclass__" := by kernel_rfl
theorem va_init_sub : Manifest.varargsMethods.contains "object.__init_subclass__" = false := by kernel_rfl
theorem bound_init_sub {C : Addr} {oC : Obj} {cd : ClassData} {Q : Unit → Shared → Prop} (hC : h.get? C = some oC) (hd : oC.data = .cls cd) (hc : oC.cls = .type "type") (hqn : cd.qualname = "cmp_to_key.<locals>.K") (hq : Q () ⟨h, g, d, t, os⟩) :
    wpAny (model prog w) A (checkBoundCall "object.__init_subclass__" ⟨[.ref C], []⟩) Q E ⟨h, g, d, t, os⟩ := by
  obtain ⟨sg, e1, e2⟩ := sig_init_sub
  have hT : (⟨h, g, d, t, os⟩ : Shared).TypeIs (.ref C) "type" := ⟨_, hC, hc⟩
  have hs : isSubtype (.type "type") (.type "module") = pure false := by rw [isSubtype_type]; kernel_rfl
  unfold checkBoundCall
  rw [e1, kind_init_sub, last_init_sub]
  repeat (first | (with_reducible refine wpAny_isInstance hT hs ?_) | (with_reducible refine ks_wpAny_isType_cls hC hd ?_) | (with_reducible refine wpAny_typeOf hT ?_) | (rw [va_init_sub]) | (with_reducible refine wpAny_load hC ?_; rw [hd]) | (rw [hqn]) | (with_reducible refine wpAny_of_eq (e2 C) ?_) | wp_step)
  all_goals exact hq
theorem plain_init_sub : plainId "object.__init_subclass__" = true := by decide +kernel
theorem call_init_sub {b C : Addr} {oC : Obj} {cd : ClassData} {Q : Value → Shared → Prop} (hC : h.get? C = some oC) (hd : oC.data = .cls cd) (hc : oC.cls = .type "type") (hqn : cd.qualname = "cmp_to_key.<locals>.K") (hb : h.get? b = some { cls := .type "builtin_function_or_method", data := .fields #[.builtin "object.__init_subclass__", .ref C] }) (hq : Q .none ⟨h, g, d, t, os⟩) :
    wpAny (model prog w) A (call (.ref b) []) Q E ⟨h, g, d, t, os⟩ := by
  refine wpAny_call (codeAny_of_tree ?_)
  show wpAny _ _ (callAny (.ref b) _) _ _ _
  unfold callAny
  refine wpAny_bind (wpAny_load hb ?_)
  refine wpAny_bind (bound_init_sub hC hd hc hqn ?_)
  refine wpAny_pure ⟨plainId_quiet plain_init_sub _, codeAny_builtin entry_init_sub ?_⟩
  unfold Builtin.«object.__init_subclass__»
  repeat wp_step
  all_goals exact hq
theorem sub_co {M : Model} {C : Addr} {oC : Obj} {cd : ClassData} (hC : h.get? C = some oC) (hd : oC.data = .cls cd) (hm : cd.mro = [.ref C, .type "object"]) : Looks M h (isSubtype (.ref C) (.type "object")) true := by
  intro A Q E s k q
  obtain ⟨hh, g, d, t, os⟩ := s
  unfold isSubtype mroOf classData
  refine wpAny_bind (wpAny_bind (wpAny_bind (wpAny_load (k _ _ hC) ?_)))
  rw [hd]
  refine wpAny_pure (wpAny_pure ?_)
  rw [hm]
  show wpAny _ _ (pure _) _ _ _
  refine wpAny_pure ?_
  have : ([Value.ref C, Value.type "object"].contains (Value.type "object")) = true := by simp
  rw [this]; exact q
theorem mro_c {M : Model} {C : Addr} {oC : Obj} {cd : ClassData} (hC : h.get? C = some oC) (hd : oC.data = .cls cd) : Looks M h (mroOf (.ref C)) cd.mro := by
  intro A Q E s k q
  obtain ⟨hh, g, d, t, os⟩ := s
  unfold mroOf classData
  refine wpAny_bind (wpAny_bind (wpAny_load (k _ _ hC) ?_))
  rw [hd]
  exact wpAny_pure (wpAny_pure q)
theorem cmd_get_cc {C : Addr} {oC : Obj} {cd : ClassData} {Q : Fin → Shared → Prop} (hC : h.get? C = some oC) (hd : oC.data = .cls cd) (hm : cd.mro = [.ref C, .type "object"])
    (hq : ∀ b h', h.get? b = none → (∀ y o, h.get? y = some o → h'.get? y = some o) → h'.get? b = some { cls := .type "builtin_function_or_method", data := .fields #[.builtin "object.__init_subclass__", .ref C] } → Q (.done (.ret (.ref b))) ⟨h', g, d, t, os⟩) :
    wpAny (model prog w) A (Builtin.«classmethod_descriptor.__get__» ⟨[.builtin "object.__init_subclass__", .none, .ref C], []⟩) Q E ⟨h, g, d, t, os⟩ := by
  have hs : Looks (model prog w) h (isSubtype (.ref C) (.type (".".intercalate ("object.__init_subclass__".cutAt '.').dropLast))) true := by
    rw [show (".".intercalate ("object.__init_subclass__".cutAt '.').dropLast) = "object" by kernel_rfl]; exact sub_co hC hd hm
  unfold Builtin.«classmethod_descriptor.__get__»
  repeat (first | (with_reducible refine ks_wpAny_isType_cls hC hd ?_) | (with_reducible refine Looks.at hs ?_) | (with_reducible refine alloc_k rfl ?_) | wp_step)
  intro b h' e1 e2 e3
  repeat wp_step
  all_goals exact hq b h' e1 e2 e3
theorem ty_cmd (s : Shared) : s.TypeIs (.builtin "object.__init_subclass__") "classmethod_descriptor" := ty_init_sub
theorem super_ga_cc {so C : Addr} {oC : Obj} {cd : ClassData} {tk : Tok} {Q : Fin → Shared → Prop} (hC : h.get? C = some oC) (hd : oC.data = .cls cd) (hm : cd.mro = [.ref C, .type "object"])
    (hno : Looks (model prog w) h (opaqueClassAbove (.ref C)) none)
    (hso : h.get? so = some { cls := .type "super", dict := none, data := .fields #[.ref C, .ref C, .ref C], slots := #[] })
    (hq : ∀ b h', h.get? b = none → (∀ y o, h.get? y = some o → h'.get? y = some o) → h'.get? b = some { cls := .type "builtin_function_or_method", data := .fields #[.builtin "object.__init_subclass__", .ref C] } → Q (.done (.ret (.ref b))) ⟨h', g, d, t, os⟩) :
    wpAny (model prog w) A (Builtin.«super.__getattribute__» ⟨[.ref so, .str "__init_subclass__" tk], []⟩) Q E ⟨h, g, d, t, os⟩ := by
  have hmro := mro_c (M := model prog w) hC hd
  rw [hm] at hmro
  have hdt : ({ cls := .type "super", dict := none, data := .fields #[.ref C, .ref C, .ref C], slots := #[] } : Obj).data = .fields #[.ref C, .ref C, .ref C] := rfl
  have f0 : (#[.ref C, .ref C, .ref C] : Array Value)[0]? = some (.ref C) := rfl
  have f1 : (#[.ref C, .ref C, .ref C] : Array Value)[1]? = some (.ref C) := rfl
  have f2 : (#[.ref C, .ref C, .ref C] : Array Value)[2]? = some (.ref C) := rfl
  have hl : ([Value.ref C, Value.type "object"].dropWhile (· != .ref C)).drop 1 = [.type "object"] := by simp
  have hn : ((Str.ofString "__init_subclass__") == ("__class__" : Str)) = false := by decide +kernel
  have he : (Value.ref C == Value.ref C) = true := by simp
  unfold Builtin.«super.__getattribute__»
  repeat (first
    | (with_reducible refine wpAny_field hso hdt f0 ?_) | (with_reducible refine wpAny_field hso hdt f1 ?_) | (with_reducible refine wpAny_field hso hdt f2 ?_)
    | (with_reducible refine ks_wpAny_notOpaque hno ?_)
    | (with_reducible refine Looks.at hmro ?_; rw [hl])
    | (with_reducible refine wpAny_forCons ?_)
    | (with_reducible refine wpAny_of_eq own_init_sub ?_)
    | (with_reducible refine wpAny_of_eq ty_init_sub ?_)
    | (with_reducible refine wpAny_of_eq get_cmd ?_)
    | (with_reducible refine wpAny_call_entry slot_cmd_get (ty_cmd _) entry_cmd_get (cmd_get_cc hC hd hm (fun b h' e1 e2 e3 => ⟨_, rfl, ?_⟩)) (args_cmd_get _ _ _))
    | (simp only [hn, he, Bool.or_false, Bool.false_eq_true, if_false, if_true])
    | wp_step
    | dsimp only)
  all_goals exact hq _ _ (by assumption) (by assumption) (by assumption)
theorem getattr_sup {so C : Addr} {oC : Obj} {cd : ClassData} {Q : Value → Shared → Prop} (hC : h.get? C = some oC) (hd : oC.data = .cls cd) (hm : cd.mro = [.ref C, .type "object"])
    (hno : Looks (model prog w) h (opaqueClassAbove (.ref C)) none)
    (hso : h.get? so = some { cls := .type "super", dict := none, data := .fields #[.ref C, .ref C, .ref C], slots := #[] })
    (hq : ∀ b h', h.get? b = none → (∀ y o, h.get? y = some o → h'.get? y = some o) → h'.get? b = some { cls := .type "builtin_function_or_method", data := .fields #[.builtin "object.__init_subclass__", .ref C] } → Q (.ref b) ⟨h', g, d, t + 1, os⟩) :
    wpAny (model prog w) A (getAttr (.ref so) "__init_subclass__") Q E ⟨h, g, d, t, os⟩ := by
  have hlk := F.ks_slot_super_ga.lookup
  have hcan := F.ks_canon_super_ga
  have hT : ∀ t', (⟨h, g, d, t', os⟩ : Shared).TypeIs (.ref so) "super" := fun _ => ⟨_, hso, rfl⟩
  unfold getAttr getAttrBy
  refine wpAny_bind (wpAny_mkText (wpAny_holding (wpAny_bind (wpAny_typeOf (hT _) (wpAny_bind (wpAny_of_eq hlk ?_))))))
  show wpAny _ _ (getAttrByItsOwn (.ref so) (.str "__init_subclass__" t) (.type "super") (.builtin "super.__getattribute__") true false) _ _ _
  unfold getAttrByItsOwn hookBefore callGetattribute boundAndCalled
  refine wpAny_bind (wpAny_of_eq (show (if onTheHeap (.type "super") then typeLookup (.type "super") "__getattr__" else pure none) = pure none from rfl) ?_)
  refine wpAny_bind (wpAny_attempt (wpAny_holding ?_))
  show wpAny _ _ (bindSpecial (.builtin "super.__getattribute__") (.ref so) >>= _) _ _ _
  refine wpAny_bind (wpAny_of_eq (F.ks_slot_super_ga.bind _) ?_)
  refine wpAny_call_entry F.ks_slot_super_ga (hT _) F.ks_entry_super_ga (super_ga_cc hC hd hm hno hso fun b h' e1 e2 e3 => ⟨_, rfl, ?_⟩) (F.ks_gaArgs_super _ _)
  exact wpAny_pure (hq b h' e1 e2 e3)
end
end
section
section
variable {prog : Program} {w : World} {A : Around} {E : Value → Shared → Prop} {h : Heap} {g : Array GenState} {d : Drawn} {t : Nat} {os : OsState}
theorem cmd_get_tt {Q : Fin → Shared → Prop} (hq : ∀ b h', h.get? b = none → (∀ y o, h.get? y = some o → h'.get? y = some o) → h'.get? b = some { cls := .type "builtin_function_or_method", data := .fields #[.builtin "type.__prepare__", .type "type"] } → Q (.done (.ret (.ref b))) ⟨h', g, d, t, os⟩) :
    wpAny (model prog w) A (Builtin.«classmethod_descriptor.__get__» ⟨[.builtin "type.__prepare__", .none, .type "type"], []⟩) Q E ⟨h, g, d, t, os⟩ := by
  have hs : isSubtype (.type "type") (.type (".".intercalate ("type.__prepare__".cutAt '.').dropLast)) = pure true := by
    rw [show (".".intercalate ("type.__prepare__".cutAt '.').dropLast) = "type" by kernel_rfl, isSubtype_type]; kernel_rfl
  unfold Builtin.«classmethod_descriptor.__get__»
  repeat (first | (with_reducible refine wpAny_of_eq hs ?_) | (with_reducible refine alloc_k rfl ?_) | wp_step)
  intro b h' e1 e2 e3
  repeat wp_step
  all_goals exact hq b h' e1 e2 e3
theorem ty_prep : typeOf (.builtin "type.__prepare__") = pure (.type "classmethod_descriptor") := by kernel_rfl
theorem ty_prep' (s : Shared) : s.TypeIs (.builtin "type.__prepare__") "classmethod_descriptor" := ty_prep
theorem own_prep : typeLookup (.type "type") "__prepare__" = pure (some (.builtin "type.__prepare__")) := by rw [typeLookup_type, builtinLookup_eq_fast]; kernel_rfl
theorem set_cmd : typeLookup (.type "classmethod_descriptor") "__set__" = pure none := by rw [typeLookup_type, builtinLookup_eq_fast]; kernel_rfl
theorem del_cmd : typeLookup (.type "classmethod_descriptor") "__delete__" = pure none := by rw [typeLookup_type, builtinLookup_eq_fast]; kernel_rfl
theorem op_type : opaqueClassAbove (.type "type") = pure none := by kernel_rfl
theorem ty_type : typeOf (.type "type") = pure (.type "type") := by kernel_rfl
theorem ty_type' (s : Shared) : s.TypeIs (.type "type") "type" := ty_type
theorem type_ga_prep {tk : Tok} {Q : Fin → Shared → Prop} (hq : ∀ b h', h.get? b = none → (∀ y o, h.get? y = some o → h'.get? y = some o) → h'.get? b = some { cls := .type "builtin_function_or_method", data := .fields #[.builtin "type.__prepare__", .type "type"] } → Q (.done (.ret (.ref b))) ⟨h', g, d, t, os⟩) :
    wpAny (model prog w) A (Builtin.«type.__getattribute__» ⟨[.type "type", .str "__prepare__" tk], []⟩) Q E ⟨h, g, d, t, os⟩ := by
  have hn : Builtin.heldUnderItsOwnName (Str.ofString "__prepare__") (.builtin "type.__prepare__") = false := by kernel_rfl
  have hc : ([.type "function", .type "method_descriptor", .type "wrapper_descriptor", .type "getset_descriptor", .type "member_descriptor"] : List Value).contains (.type "classmethod_descriptor") = false := by decide +kernel
  unfold Builtin.«type.__getattribute__»
  repeat (first
    | (with_reducible refine wpAny_of_eq op_type ?_)
    | (with_reducible refine wpAny_of_eq ty_type ?_)
    | (with_reducible refine wpAny_of_eq own_prep ?_)
    | (with_reducible refine wpAny_of_eq ty_prep ?_)
    | (with_reducible refine wpAny_specialOf (ty_prep' _) get_cmd ?_)
    | (with_reducible refine wpAny_specialOf (ty_prep' _) set_cmd ?_)
    | (with_reducible refine wpAny_specialOf (ty_prep' _) del_cmd ?_)
    | (with_reducible refine wpAny_call_entry slot_cmd_get (ty_prep' _) entry_cmd_get (cmd_get_tt (fun b h' e1 e2 e3 => ⟨_, rfl, ?_⟩)) (args_cmd_get _ _ _))
    | (simp only [hn, hc, Bool.or_false, Bool.false_eq_true, if_false, if_true])
    | wp_step
    | dsimp only)
  all_goals exact hq _ _ (by assumption) (by assumption) (by assumption)
theorem bound_prep (a b : Value) : checkBoundCall "type.__prepare__" ⟨[.type "type", a, b], []⟩ = pure () := by kernel_rfl
theorem plain_prep : plainId "type.__prepare__" = true := by decide +kernel
theorem entry_prep : entryFor table "type.__prepare__" = some Builtin.«type.__prepare__» := entryFor_of_tree (by kernel_rfl)
theorem call_prep {b : Addr} {x y : Value} {Q : Value → Shared → Prop} (hb : h.get? b = some { cls := .type "builtin_function_or_method", data := .fields #[.builtin "type.__prepare__", .type "type"] })
    (hq : ∀ a h', h.get? a = none → (∀ y o, h.get? y = some o → h'.get? y = some o) → h'.get? a = some { cls := .type "dict", data := .dict #[] } → Q (.ref a) ⟨h', g, d, t, os⟩) :
    wpAny (model prog w) A (call (.ref b) [x, y]) Q E ⟨h, g, d, t, os⟩ := by
  refine wpAny_call (codeAny_of_tree ?_)
  show wpAny _ _ (callAny (.ref b) _) _ _ _
  unfold callAny
  refine wpAny_bind (wpAny_load hb ?_)
  refine wpAny_bind (wpAny_of_eq (bound_prep x y) ?_)
  refine wpAny_pure ⟨plainId_quiet plain_prep _, codeAny_builtin entry_prep ?_⟩
  unfold Builtin.«type.__prepare__» newDict
  refine wpAny_bind (wpAny_newObj_type ?_ (by size_fits))
  exact wpAny_pure (hq _ _ (Heap.get?_none_of_le (Nat.le_refl _)) (fun b o' e => Heap.get?_push_of_some _ e) (Heap.get?_push_size _ rfl))
theorem getattrq_prep {Q : Option Value → Shared → Prop} (hq : ∀ b h', h.get? b = none → (∀ y o, h.get? y = some o → h'.get? y = some o) → h'.get? b = some { cls := .type "builtin_function_or_method", data := .fields #[.builtin "type.__prepare__", .type "type"] } → Q (some (.ref b)) ⟨h', g, d, t + 1, os⟩) :
    wpAny (model prog w) A (getAttr? (.type "type") "__prepare__") Q E ⟨h, g, d, t, os⟩ := by
  unfold getAttr? getAttrBy? getAttrBy
  refine wpAny_bind (wpAny_mkText (wpAny_bind (wpAny_attempt (wpAny_holding (wpAny_bind (wpAny_typeOf (ty_type' _) (wpAny_bind (wpAny_of_eq KF.slot_tga.lookup ?_))))))))
  show wpAny _ _ (getAttrByItsOwn (.type "type") (.str "__prepare__" t) (.type "type") (.builtin "type.__getattribute__") false false) _ _ _
  unfold getAttrByItsOwn hookBefore callGetattribute boundAndCalled
  refine wpAny_bind (wpAny_of_eq (show (if onTheHeap (.type "type") then typeLookup (.type "type") "__getattr__" else pure none) = pure none from rfl) ?_)
  refine wpAny_bind (wpAny_attempt (wpAny_holding ?_))
  show wpAny _ _ (bindSpecial (.builtin "type.__getattribute__") (.type "type") >>= _) _ _ _
  refine wpAny_bind (wpAny_of_eq (KF.slot_tga.bind _) ?_)
  refine wpAny_call_entry KF.slot_tga (ty_type' _) KF.entry_tga (type_ga_prep fun b h' e1 e2 e3 => ⟨_, rfl, ?_⟩) (KF.args_tga _ _)
  exact wpAny_pure (wpAny_pure (hq b h' e1 e2 e3))
end
end
section
section
variable {prog : Program} {w : World} {A : Around} {E : Value → Shared → Prop} {h : Heap} {g : Array GenState} {d : Drawn} {t : Nat} {os : OsState}
theorem ct_check (x : Str) (tk : Tok) (a b : Addr) : checkTypeCall "type" ⟨[.str x tk, .ref a, .ref b], []⟩ = pure () := by kernel_rfl
theorem ct_new (x : Str) (tk : Tok) (a b : Addr) : checkBuiltinCall "type.__new__" ⟨[.type "type", .str x tk, .ref a, .ref b], []⟩ = pure () := by kernel_rfl
theorem ct_made : Bind.madeBy (.type "type") = pure (some "type.__new__") := by kernel_rfl
theorem ct_mro : mroOf (.type "type") = pure [.type "type", .type "object"] := by rw [mroOf_type]; kernel_rfl
theorem ct_entry_new : entryFor table "type.__new__" = some Builtin.«type.__new__» := entryFor_of_tree (by kernel_rfl)
theorem ct_entry_init : entryFor table "type.__init__" = some Builtin.«type.__init__» := entryFor_of_tree (by kernel_rfl)
theorem ct_plain_new : plainId "type.__new__" = true := by decide +kernel
theorem ct_slot_init : Slot "type" "__init__" "type.__init__" := .of (owner := "type") (n := "__init__") (by rw [typeLookup_type, builtinLookup_eq_fast]; kernel_rfl) (by decide +kernel) (by decide +kernel) (by decide +kernel)
  (by first | exact .inl (by decide +kernel) | exact .inr (by decide +kernel)) (by rw [isSubtype_type]; kernel_rfl)
theorem ct_args_init (o : Value) (x : Str) (tk : Tok) (a b : Addr) : argsOk "type.__init__" ⟨[o, .str x tk, .ref a, .ref b], []⟩ := by unfold argsOk; kernel_rfl
theorem call_type3 {x : Str} {tk : Tok} {a b : Addr} {Q : Value → Shared → Prop} {P : Addr → Heap → Nat → Prop} (hP : ∀ C h' tk', P C h' tk' → ∃ o, h'.get? C = some o ∧ o.cls = .type "type")
    (htn : ∀ (A' : Around) (Q' : Fin → Shared → Prop) (E' : Value → Shared → Prop), (∀ C h' tk', P C h' tk' → Q' (.done (.ret (.ref C))) ⟨h', g, d, tk', os⟩) → wpAny (model prog w) A' (Builtin.«type.__new__» ⟨[.type "type", .str x tk, .ref a, .ref b], []⟩) Q' E' ⟨h, g, d, t, os⟩)
    (hQ : ∀ C h' tk', P C h' tk' → Q (.ref C) ⟨h', g, d, tk', os⟩) :
    wpAny (model prog w) A (call (.type "type") [.str x tk, .ref a, .ref b]) Q E ⟨h, g, d, t, os⟩ := by
  refine wpAny_call (codeAny_of_tree ?_)
  show wpAny _ _ (callAny (.type "type") _) _ _ _
  refine wpAny_pure ⟨Code.quiet_builtin _ (by decide +kernel), codeAny_builtin F.entry_type_call ?_⟩
  have s2 : isSubtype (.type "type") (.type "type") = pure true := by rw [isSubtype_type]; kernel_rfl
  unfold Builtin.«type.__call__»
  repeat (first
    | (with_reducible refine wpAny_of_eq (ct_check x tk a b) ?_)
    | (with_reducible refine wpAny_of_eq ct_mro ?_)
    | (with_reducible refine wpAny_of_eq ct_made ?_)
    | (with_reducible show wpAny _ _ (call _ _ _) _ _ _; fail)
    | wp_step)
  refine codeAny_of_tree ?_
  show wpAny _ _ (do checkBuiltinCall "type.__new__" ⟨[.type "type", .str x tk, .ref a, .ref b], []⟩; again (.builtin "type.__new__" ⟨[.type "type", .str x tk, .ref a, .ref b], []⟩)) _ _ _
  refine wpAny_bind (wpAny_of_eq (ct_new x tk a b) (wpAny_pure ⟨plainId_quiet ct_plain_new _, codeAny_builtin ct_entry_new ?_⟩))
  refine htn _ _ _ fun C h' tk' p => ?_
  obtain ⟨o, eo, ec⟩ := hP _ _ _ p
  have hT : (⟨h', g, d, tk', os⟩ : Shared).TypeIs (.ref C) "type" := ⟨o, eo, ec⟩
  have hli := ct_slot_init.lookup
  have hbi := ct_slot_init.bind (.ref C)
  show wpAny _ _ (do let __do_lift ← isInstance (.ref C) (.type "type"); _) _ _ _
  refine wpAny_bind (wpAny_isInstance hT s2 ?_)
  unfold callSpecial?
  repeat (first | (with_reducible refine wpAny_specialOf hT hli ?_) | (with_reducible refine wpAny_of_eq hbi ?_) | (with_reducible refine wpAny_call_entry ct_slot_init hT ct_entry_init ?_ (ct_args_init _ _ _ _ _)) | (with_reducible refine ⟨_, rfl, ?_⟩) | wp_step)
  refine codeAny_call_builtin ct_slot_init.plain ct_entry_init (ct_slot_init.check _ _ _ _ _ _ _ _ hT (ct_args_init _ x tk a b) ?_)
  unfold Builtin.«type.__init__»
  repeat wp_step
  all_goals exact hQ C h' tk' p
end
end
section
theorem wpAny_forArr {α β : Type} {M : Model} {A : Around} {E : Value → Shared → Prop} {s : Shared} {l : List α} {init : β} {f : α → β → Sem (ForInStep β)} {Q : β → Shared → Prop} (k : wpAny M A (forIn l init f) Q E s) : wpAny M A (forIn l.toArray init f) Q E s := by rw [List.forIn_toArray]; exact k
theorem wpAny_forNil {α β : Type} {M : Model} {A : Around} {E : Value → Shared → Prop} {s : Shared} {init : β} {f : α → β → Sem (ForInStep β)} {Q : β → Shared → Prop}
    (k : Q init s) : wpAny M A (forIn [] init f) Q E s := by rw [List.forIn_nil]; exact wpAny_pure k
theorem wpAny_tryCatchS {α : Type} {M : Model} {A : Around} {E : Value → Shared → Prop} {s : Shared} {m : Sem α} {k : Value → Sem α} {Q : α → Shared → Prop} (h : wpAny M A m Q (fun e s' => wpAny M A (k e) Q E s') s) : wpAny M A (Sem.tryCatch m k) Q E s := wpAny_tryCatch h
theorem wpAny_specialOf_ent {M : Model} {A : Around} {E : Value → Shared → Prop} {s : Shared} {P : Params} {x : Str} {t : Tok} {v : Value} {T : String} {name : Str} {r : Option Value} {Q : Option Value → Shared → Prop} (hT : s.TypeIs v T)
    (h : typeLookup (.type T) name = pure r) (hQ : Q r s) : wpAny M A (specialOf (ent P x t v).val name) Q E s := wpAny_specialOf hT h hQ
set_option pp.deepTerms false in
set_option pp.maxSteps 1500 in
theorem tn {prog : Program} {w : World} {A : Around} {Q : PySem.Fin → Shared → Prop} {E : Value → Shared → Prop} {h : Heap} {g : Array GenState} {d : Drawn} {tk : Nat} {os : OsState} {nsA bT : Addr} {t1 t2 t3 t4 t5 t6 t7 t8 t9 t10 t11 t12 t13 t14 t15 t16 t17 : Tok} {a1 a2 a3 a4 a5 a6 a7 a8 : Addr} (hns : (nsA == sysModules) = false)
  (hF : ∀ a ∈ [a2, a3, a4, a5, a6, a7], ∃ o, h.get? a = some o ∧ o.cls = .type "function") (hT8 : ∃ o, h.get? a8 = some o ∧ o.cls = .type "tuple")
  (h1 : h.get? nsA = some { cls := .type "dict", data := .dict #[ent w.params "__module__" t1 (.str "cpy313.functools" t2), ent w.params "__qualname__" t3 (.str "cmp_to_key.<locals>.K" t4), ent w.params "__firstlineno__" t5 (.int 4 t6),
    ent w.params "__slots__" t7 (.ref a1), ent w.params "__init__" t8 (.ref a2), ent w.params "__lt__" t9 (.ref a3), ent w.params "__gt__" t10 (.ref a4), ent w.params "__eq__" t11 (.ref a5), ent w.params "__le__" t12 (.ref a6), ent w.params "__ge__" t13 (.ref a7),
    ent w.params "__hash__" t14 .none, ent w.params "__static_attributes__" t15 (.ref a8)] 12 })
  (h2 : h.get? bT = some { cls := .type "tuple", data := .seq #[.type "object"] 0 })
  (h3 : h.get? a1 = some { cls := .type "list", data := .seq #[.str "obj" t16] 0 }) {Kf : Frag} (hK : Kf.In h) (hop : nsIn Kf cStatics "thirdparty.any" = some none)
  (hQ : ∀ C ns mD h', (∀ b o, h.get? b = some o → h'.get? b = some o) → h.get? C = none → h.get? ns = none → ns ≠ C → h'.get? ns = some { cls := .type "dict", data := .dict #[ent w.params "__module__" t1 (.str "cpy313.functools" t2), ent w.params "__firstlineno__" t5 (.int 4 t6), ent w.params "__slots__" t7 (.ref a1), ent w.params "__init__" t8 (.ref a2), ent w.params "__lt__" t9 (.ref a3), ent w.params "__gt__" t10 (.ref a4), ent w.params "__eq__" t11 (.ref a5), ent w.params "__le__" t12 (.ref a6), ent w.params "__ge__" t13 (.ref a7), ent w.params "__hash__" t14 .none, ent w.params "__static_attributes__" t15 (.ref a8), ent w.params "obj" (tk + 1) (.ref mD), ent w.params "__doc__" (tk + 2) .none] 3 } → h'.get? C = some { cls := .type "type", data := .cls { name := "K", bases := [.type "object"], mro := [.ref C, .type "object"], ns := ns, qualname := "cmp_to_key.<locals>.K", hasDict := false, slotNames := ["obj"] }, slots := #[some (.ref bT), none, some (.str "K" t17), some (.str "cmp_to_key.<locals>.K" t4), some (.builtin "object.__new__"), some (.bool false)] } → h'.get? mD = some { cls := .type "member_descriptor", data := .fields #[.str "obj" tk, .ref C, .builtin "proto.slot", .builtin "proto.slot#set", .int 0 0] } →
    Q (.done (.ret (.ref C))) ⟨h', g, d, tk + 1 + 1 + 1 + 1, os⟩) :
  wpAny (model prog w) A (Builtin.«type.__new__» ⟨[.type "type", .str "K" t17, .ref bT, .ref nsA], []⟩) Q E ⟨h, g, d, tk, os⟩ := by
  have tT : (⟨h, g, d, tk, os⟩ : Shared).TypeIs (.ref bT) "tuple" := ⟨_, h2, rfl⟩
  have tD : (⟨h, g, d, tk, os⟩ : Shared).TypeIs (.ref nsA) "dict" := ⟨_, h1, rfl⟩
  have s1 : isSubtype (.type "tuple") (.type "tuple") = pure true := by rw [isSubtype_type]; kernel_rfl
  have s2 : isSubtype (.type "dict") (.type "dict") = pure true := by rw [isSubtype_type]; kernel_rfl
  have m1 : typeOf (.type "object") = pure (.type "type") := by kernel_rfl
  have m2 : isSubtype (.type "type") (.type "type") = pure true := by rw [isSubtype_type]; kernel_rfl
  have s3 : isSubtype (.type "object") (.type "object") = pure true := by rw [isSubtype_type]; kernel_rfl
  have l1 : typeLookup (.type "dict") "__iter__" = pure (some (.builtin "dict.__iter__")) := by rw [typeLookup_type, builtinLookup_eq_fast]; kernel_rfl
  have l2 : typeLookup (.type "object") "__weakref__" = pure none := by rw [typeLookup_type, builtinLookup_eq_fast]; kernel_rfl
  have l3 : typeLookup (.type "object") "__dict__" = pure none := by rw [typeLookup_type, builtinLookup_eq_fast]; kernel_rfl
  have f1 : Array.find? (fun x : DictEntry => x.key.isStr (Str.ofString "__slots__")) #[ent w.params "__module__" t1 (.str "cpy313.functools" t2), ent w.params "__qualname__" t3 (.str "cmp_to_key.<locals>.K" t4), ent w.params "__firstlineno__" t5 (.int 4 t6),
    ent w.params "__slots__" t7 (.ref a1), ent w.params "__init__" t8 (.ref a2), ent w.params "__lt__" t9 (.ref a3), ent w.params "__gt__" t10 (.ref a4), ent w.params "__eq__" t11 (.ref a5), ent w.params "__le__" t12 (.ref a6), ent w.params "__ge__" t13 (.ref a7),
    ent w.params "__hash__" t14 .none, ent w.params "__static_attributes__" t15 (.ref a8)] = some (ent w.params "__slots__" t7 (.ref a1)) := by kernel_rfl
  have f2 : Builtin.Slots.isIdentifier (Str.ofString "obj") = some true := by kernel_rfl
  wp_delta
  wtm_at "cw"
  refine slots_read h3 (fun h' k' => ?_)
  have h1 := k' _ _ h1
  have h2 := k' _ _ h2
  wtm_at "cw"
  refine alloc_k rfl (fun ns hn hns0 k1 e1 => ?_)
  wtm_at "cw"
  refine alloc_k rfl (fun C hn2 hC0 k2 e2 => ?_)
  have c3 : ns ≠ C := fun q => by rw [q, hC0] at e1; cases e1
  wtm_at "cw"
  refine update_k e2 rfl (fun hC1 kC1 eC1 => ?_)
  have e2 : hC1.get? C = some { cls := .type "type", data := .cls { name := "K", bases := [.type "object"], mro := [], ns := ns, qualname := "cmp_to_key.<locals>.K" }, slots := #[some (.ref bT)] } := eC1
  clear eC1
  wtm_at "cw"
  refine update_k e2 rfl (fun hC2 kC2 eC2 => ?_)
  have e2 : hC2.get? C = some { cls := .type "type", data := .cls { name := "K", bases := [.type "object"], mro := [], ns := ns, qualname := "cmp_to_key.<locals>.K" }, slots := #[some (.ref bT), none, some (.str "K" t17)] } := eC2
  clear eC2
  wtm_at "cw"
  refine update_k e2 rfl (fun hC3 kC3 eC3 => ?_)
  have e1 := kC3 _ _ c3 (kC2 _ _ c3 (kC1 _ _ c3 (k2 _ _ e1)))
  have e2 : hC3.get? C = some { cls := .type "type", data := .cls { name := "K", bases := [.type "object"], mro := [], ns := ns, qualname := "cmp_to_key.<locals>.K" }, slots := #[some (.ref bT), none, some (.str "K" t17), some (.str "cmp_to_key.<locals>.K" t4)] } := eC3
  clear eC3
  wtm_at "cw"
  refine update_k e1 rfl (fun hn4 kn4 en4 => ?_)
  have e2 := kn4 _ _ (Ne.symm c3) e2
  have e1 : hn4.get? ns = some { cls := .type "dict", data := .dict #[ent w.params "__module__" t1 (.str "cpy313.functools" t2), ent w.params "__firstlineno__" t5 (.int 4 t6), ent w.params "__slots__" t7 (.ref a1), ent w.params "__init__" t8 (.ref a2), ent w.params "__lt__" t9 (.ref a3), ent w.params "__gt__" t10 (.ref a4), ent w.params "__eq__" t11 (.ref a5), ent w.params "__le__" t12 (.ref a6), ent w.params "__ge__" t13 (.ref a7), ent w.params "__hash__" t14 .none, ent w.params "__static_attributes__" t15 (.ref a8)] 1 } := en4.trans (by kernel_rfl)
  clear en4
  have l4 : typeLookup (.type "type") "mro" = pure (some (.builtin "type.mro")) := by rw [typeLookup_type, builtinLookup_eq_fast]; kernel_rfl
  wtm_at "cw"
  have f3 : List.filter (fun x => x != Value.ref C) [Value.ref C, Value.type "object"] = [Value.type "object"] := by simp
  show wpAny _ _ (List.anyM _ (List.filter (fun x => x != Value.ref C) [Value.ref C, Value.type "object"])) _ _ _
  rw [f3]
  wtm_at "cw"
  refine update_k' e2 rfl (fun hC5 kC5 eC5 => ?_)
  have e1 := kC5 _ _ c3 e1
  have e2 : hC5.get? C = some { cls := .type "type", data := .cls { name := "K", bases := [.type "object"], mro := [.ref C, .type "object"], ns := ns, qualname := "cmp_to_key.<locals>.K" }, slots := #[some (.ref bT), none, some (.str "K" t17), some (.str "cmp_to_key.<locals>.K" t4)] } := eC5.trans (by kernel_rfl)
  clear eC5
  have l5 : typeLookup (.type "object") "__new__" = pure (some (.builtin "object.__new__")) := by rw [typeLookup_type, builtinLookup_eq_fast]; kernel_rfl
  wtm_at "cw"
  refine update_k e2 rfl (fun hC6 kC6 eC6 => ?_)
  have e1 := kC6 _ _ c3 e1
  have e2 : hC6.get? C = some { cls := .type "type", data := .cls { name := "K", bases := [.type "object"], mro := [.ref C, .type "object"], ns := ns, qualname := "cmp_to_key.<locals>.K" }, slots := #[some (.ref bT), none, some (.str "K" t17), some (.str "cmp_to_key.<locals>.K" t4), some (.builtin "object.__new__")] } := eC6.trans (by kernel_rfl)
  clear eC6
  wtm_at "cw"
  have hbm : mroOf (.type "object") = pure [.type "object"] := by kernel_rfl
  have r1 : lookupAlong [.type "object"] "__new__" = pure (some (.builtin "object.__new__")) := by rw [typeLookup_eq, hbm] at l5; exact l5
  rw [typeLookup_eq]
  wtm_at "cw"
  refine slots_install (t3 := 0) (t16 := 0) c3 e1 e2 (fun mD h7 k7 hM0 e1 e2 e3 => ?_)
  wtm_at "cw"
  refine update_k e2 rfl (fun h8 k8 e8 => ?_)
  have e1 := k8 _ _ c3 e1
  have c9 : mD ≠ C := fun q => by rw [q, e2] at e3; exact absurd (congrArg Obj.cls (Option.some.inj e3)) (by simp)
  have e3 := k8 _ _ c9 e3
  have e2 : h8.get? C = some { cls := .type "type", data := .cls { name := "K", bases := [.type "object"], mro := [.ref C, .type "object"], ns := ns, qualname := "cmp_to_key.<locals>.K", hasDict := false, slotNames := ["obj"] }, slots := #[some (.ref bT), none, some (.str "K" t17), some (.str "cmp_to_key.<locals>.K" t4), some (.builtin "object.__new__"), some (.bool false)] } := e8.trans (by kernel_rfl)
  clear e8
  wtm_at "cw"
  refine update_k e1 rfl (fun h9 k9 e9 => ?_)
  have e2 := k9 _ _ (Ne.symm c3) e2
  have c10 : mD ≠ ns := fun q => by rw [q, e1] at e3; exact absurd (congrArg Obj.cls (Option.some.inj e3)) (by simp)
  have e3 := k9 _ _ c10 e3
  have e1 : h9.get? ns = some { cls := .type "dict", data := .dict #[ent w.params "__module__" t1 (.str "cpy313.functools" t2), ent w.params "__firstlineno__" t5 (.int 4 t6), ent w.params "__slots__" t7 (.ref a1), ent w.params "__init__" t8 (.ref a2), ent w.params "__lt__" t9 (.ref a3), ent w.params "__gt__" t10 (.ref a4), ent w.params "__eq__" t11 (.ref a5), ent w.params "__le__" t12 (.ref a6), ent w.params "__ge__" t13 (.ref a7), ent w.params "__hash__" t14 .none, ent w.params "__static_attributes__" t15 (.ref a8), ent w.params "obj" (tk + 1) (.ref mD), ent w.params "__doc__" (tk + 2) .none] 3 } := e9.trans (by kernel_rfl)
  clear e9
  have kk : ∀ b o, h.get? b = some o → b ≠ ns ∧ b ≠ C ∧ h9.get? b = some o := by
    intro b o e
    have z1 := k' _ _ e
    have n1 : b ≠ ns := fun q => by rw [q, hns0] at z1; cases z1
    have z2 := k1 _ _ z1
    have n2 : b ≠ C := fun q => by rw [q, hC0] at z2; cases z2
    exact ⟨n1, n2, k9 _ _ n1 (k8 _ _ n2 (k7 _ _ n1 n2 (kC6 _ _ n2 (kC5 _ _ n2 (kn4 _ _ n1 (kC3 _ _ n2 (kC2 _ _ n2 (kC1 _ _ n2 (k2 _ _ z2)))))))))⟩
  clear k' k1 k2 kC1 kC2 kC3 kn4 kC5 kC6 k7 k8 k9 f1 f2 f3 l1 l2 l3 l4 l5 h1 h2
  have tF : ∀ a ∈ [a2, a3, a4, a5, a6, a7], (⟨h9, g, d, tk + 1 + 1 + 1, os⟩ : Shared).TypeIs (.ref a) "function" := fun a m => by
    obtain ⟨o, e1, e2⟩ := hF a m
    exact ⟨o, (kk _ _ e1).2.2, e2⟩
  have q2 := tF a2 (by simp)
  have q3 := tF a3 (by simp)
  have q4 := tF a4 (by simp)
  have q5 := tF a5 (by simp)
  have q6 := tF a6 (by simp)
  have q7 := tF a7 (by simp)
  have q8 : (⟨h9, g, d, tk + 1 + 1 + 1, os⟩ : Shared).TypeIs (.ref a8) "tuple" := by
    obtain ⟨o, e1, e2⟩ := hT8
    exact ⟨o, (kk _ _ e1).2.2, e2⟩
  have q1 : (⟨h9, g, d, tk + 1 + 1 + 1, os⟩ : Shared).TypeIs (.ref a1) "list" := ⟨_, (kk _ _ h3).2.2, rfl⟩
  have qM : (⟨h9, g, d, tk + 1 + 1 + 1, os⟩ : Shared).TypeIs (.ref mD) "member_descriptor" := ⟨_, e3, rfl⟩
  have q9 : ∀ x t, (⟨h9, g, d, tk + 1 + 1 + 1, os⟩ : Shared).TypeIs (.str x t) "str" := fun _ _ => rfl
  have qi : ∀ x t, (⟨h9, g, d, tk + 1 + 1 + 1, os⟩ : Shared).TypeIs (.int x t) "int" := fun _ _ => rfl
  have qn : (⟨h9, g, d, tk + 1 + 1 + 1, os⟩ : Shared).TypeIs .none "NoneType" := rfl
  have r1 : typeLookup (.type "function") "__set_name__" = pure none := by rw [typeLookup_type, builtinLookup_eq_fast]; kernel_rfl
  have r2 : typeLookup (.type "tuple") "__set_name__" = pure none := by rw [typeLookup_type, builtinLookup_eq_fast]; kernel_rfl
  have r3 : typeLookup (.type "list") "__set_name__" = pure none := by rw [typeLookup_type, builtinLookup_eq_fast]; kernel_rfl
  have r4 : typeLookup (.type "member_descriptor") "__set_name__" = pure none := by rw [typeLookup_type, builtinLookup_eq_fast]; kernel_rfl
  have r5 : typeLookup (.type "str") "__set_name__" = pure none := by rw [typeLookup_type, builtinLookup_eq_fast]; kernel_rfl
  have r6 : typeLookup (.type "int") "__set_name__" = pure none := by rw [typeLookup_type, builtinLookup_eq_fast]; kernel_rfl
  have r7 : typeLookup (.type "NoneType") "__set_name__" = pure none := by rw [typeLookup_type, builtinLookup_eq_fast]; kernel_rfl
  have f1 : 0 = 0 := rfl
  have f2 : 0 = 0 := rfl
  wtm_at "cw"
  refine super_cc e2 rfl rfl (fun h10 hn10 e4 k10 => ?_)
  have e1 := k10 _ _ e1
  have e2 := k10 _ _ e2
  have e3 := k10 _ _ e3
  wtm_at "cw"
  refine getattr_sup e2 rfl rfl (looks_opaque (hK.keeps fun b o e => k10 _ _ (kk b o e).2.2) hop) e4 (fun b h11 hn11 k11 e5 => ?_)
  have e1 := k11 _ _ e1
  have e2 := k11 _ _ e2
  have e3 := k11 _ _ e3
  wtm_at "cw"
  refine call_init_sub e2 rfl rfl rfl e5 ?_
  wtm_at "cw"
  have nn : ∀ a o', h11.get? a = some o' → (∀ b o, h.get? b = some o → b ≠ a) → h.get? a = none := fun a o' _ f => by
    cases q : h.get? a with
    | none => rfl
    | some o => exact absurd rfl (f a o q)
  exact hQ C ns mD h11 (fun b o e => k11 _ _ (k10 _ _ (kk b o e).2.2)) (nn C _ e2 fun b o e => (kk b o e).2.1) (nn ns _ e1 fun b o e => (kk b o e).1) c3 e1 e2 e3
end
section
theorem codeAmong_any {pos' : Pos} {a b : Int} {c : Value} {u t : Tok} (l : List Value) (h : TriplesOk l) :
    codeAmong pos' (l ++ [rawInt a, rawInt b, c]) = (codeAmong pos' l).or (if a == (pos'.line : Int) && b == (pos'.col : Int) then some c else none) := by
  fun_induction TriplesOk l with
  | case1 => simp [codeAmong, rawInt]
  | case2 a t b u x rest ih =>
    simp only [List.cons_append, codeAmong]
    split
    · simp
    · exact ih h
  | case3 l h1 h2 => exact h.elim
-- a table grows
noncomputable def Grow (P : Addr) (h h' : Heap) : Prop := (∀ b o, b ≠ P → h.get? b = some o → h'.get? b = some o) ∧ ∀ ps, h.get? P = some { cls := .none, data := .fields ps } → ∃ more, h'.get? P = some { cls := .none, data := .fields (ps ++ more) }
theorem Grow.refl (P : Addr) (h : Heap) : Grow P h h := ⟨fun _ _ _ e => e, fun ps e => ⟨#[], by rw [e, Array.append_empty]⟩⟩
theorem Grow.trans {P : Addr} {a b c : Heap} (x : Grow P a b) (y : Grow P b c) : Grow P a c := ⟨fun d o n e => y.1 d o n (x.1 d o n e), fun ps e => by
  obtain ⟨m, e1⟩ := x.2 ps e
  obtain ⟨m', e2⟩ := y.2 _ e1
  exact ⟨m ++ m', by rw [e2, Array.append_assoc]⟩⟩
theorem Grow.full {P : Addr} {a b : Heap} (x : Kf a b) : Grow P a b := ⟨fun d o _ e => x d o e, fun ps e => ⟨#[], by rw [x _ _ e, Array.append_empty]⟩⟩
theorem Grow.keep {P : Addr} {h h' : Heap} (g : Grow P h h') {b : Addr} {o : Obj} (e : h.get? b = some o) {c : Addr} {ps : Array Value} (ht : h.TableAt c P ps) (hn : o.cls ≠ .none) : h'.get? b = some o :=
  g.1 b o (fun q => by subst q; rw [ht.2] at e; cases e; exact hn rfl) e
-- a code object of that name
noncomputable def CRec (h : Heap) (v : Value) (q : Str) : Prop := ∃ c₂ o vs t, v = .ref c₂ ∧ h.get? c₂ = some o ∧ o.cls = .type "code" ∧ o.data = .fields vs ∧ vs[1]? = some (.str q t)
theorem CRec.rec {h : Heap} {v : Value} {q : Str} (x : CRec h v q) : h.CodeRec v q := by
  obtain ⟨c₂, o, vs, t, a, b, _, d, e⟩ := x
  exact ⟨c₂, o, vs, t, a, b, d, e⟩
theorem CRec.of {h : Heap} {c P : Addr} {ps : Array Value} {q : Str} (x : h.TableAt c P ps) (r : h.CodeRec (.ref c) q) : CRec h (.ref c) q := by
  obtain ⟨⟨o, vs, e1, e2, e3, e4⟩, _⟩ := x
  obtain ⟨c₂, o', vs', t, f1, f2, f3, f4⟩ := r
  cases f1
  exact ⟨_, _, vs', t, rfl, f2, by rw [e1] at f2; cases f2; exact e2, f3, f4⟩
theorem CRec.keep {h h' : Heap} {v : Value} {q : Str} (x : CRec h v q) (k : ∀ b o, h.get? b = some o → o.cls = .type "code" → (∃ vs, o.data = .fields vs) → h'.get? b = some o) : CRec h' v q := by
  obtain ⟨c₂, o, vs, t, a, b, c, d, e⟩ := x
  exact ⟨c₂, o, vs, t, a, k _ _ b c ⟨_, d⟩, c, d, e⟩
theorem CRec.grow {P c : Addr} {ps : Array Value} {h h' : Heap} {v : Value} {q : Str} (x : CRec h v q) (ht : h.TableAt c P ps) (g : Grow P h h') : CRec h' v q :=
  x.keep fun b o e hc _ => g.keep e ht (by rw [hc]; simp)
-- a code object with its table; what its table holds bears the right name
noncomputable def Tb (h : Heap) (c P : Addr) (qu : Nat → Option Str) : Prop :=
  ∃ ps, h.IsCode c P ps ∧ h.TableAt c P ps ∧ ∀ pos v, codeAmong pos ps.toList = some v → ∀ q, qu pos.line = some q → CRec h v q
theorem Tb.full {h h' : Heap} {c P : Addr} {qu : Nat → Option Str} (x : Tb h c P qu) (k : Kf h h') : Tb h' c P qu := by
  obtain ⟨ps, a, b, f⟩ := x
  exact ⟨ps, a.keeps k, b.keeps k, fun pos v e q eq => (f pos v e q eq).keep fun b o e _ _ => k b o e⟩
section
variable {M : Model} {A : Around} {E : Value → Shared → Prop} {h : Heap} {g : Array GenState} {d : Drawn} {t : Nat} {os : OsState}
theorem code_miss {env : Env} {c P : Addr} {ps : Array Value} {pos : Pos} {qualname : Str} {make : CodeContext → Sem Value} {Q : Value → Shared → Prop} (hc : env.code = .ref c) (hok : h.IsCode c P ps) (htab : h.TableAt c P ps) (hnf : codeAmong pos ps.toList = none)
    (hmake : ∀ ctx (Q : Value → Shared → Prop), (∀ c' P' h' tk, (∀ b o, h.get? b = some o → h'.get? b = some o) → h.objs.size ≤ c' → h.objs.size ≤ P' → h'.IsCode c' P' #[] → h'.TableAt c' P' #[] → h'.CodeRec (.ref c') qualname → Q (.ref c') ⟨h', g, d, tk, os⟩) → wpAny M A (make ctx) Q E ⟨h, g, d, t, os⟩)
    (hQ : ∀ c' P' h' tk, Grow P h h' → h.objs.size ≤ c' → h.objs.size ≤ P' → h'.IsCode c P (ps ++ #[rawInt pos.line, rawInt pos.col, .ref c']) → h'.TableAt c P (ps ++ #[rawInt pos.line, rawInt pos.col, .ref c']) → h'.CodeRec (.ref c') qualname → h'.IsCode c' P' #[] → h'.TableAt c' P' #[] →
      Q (.ref c') ⟨h', g, d, tk, os⟩) : wpAny M A (codeAt env pos make) Q E ⟨h, g, d, t, os⟩ := by
  obtain ⟨o, vs, file, tf, flags, tg, inF, text, tt, op, ho, hd, h11, h2, h7, h9, h10, hop, hpd, htr, hne⟩ := id hok
  unfold codeAt
  rw [hc, if_neg (show ¬ ((Value.ref c == Value.none) = true) from Bool.false_ne_true)]
  refine wpAny_bind (wpAny_fieldsOf ho hd ?_)
  rw [h11]
  refine wpAny_bind (wpAny_fieldsOf hop hpd ?_)
  rw [hnf, h2, h7, h9, h10]
  refine wpAny_bind (hmake _ _ fun c' P' h' tk hk hc' hP' hcode' htab' hrec' => ?_)
  have hop' := hk _ _ hop
  refine wpAny_bind (wpAny_updateFieldsOfTheText hop' hpd ?_)
  have hnew : (Obj.mapFields (fun vs => if (codeAmong pos vs.toList).isSome = true then vs else vs ++ #[rawInt pos.line, rawInt pos.col, .ref c']) op).data =
      .fields (ps ++ #[rawInt pos.line, rawInt pos.col, .ref c']) := by
    rw [Obj.data_mapFields hpd, hnf]; rfl
  have hget := Heap.get?_update_self (h := h') (fun o => Obj.mapFields (fun vs => if (codeAmong pos vs.toList).isSome = true then vs else
    vs ++ #[rawInt pos.line, rawInt pos.col, .ref c']) o) hop' (Obj.isFreed_of_fields hnew)
  refine wpAny_bind (wpAny_fieldsOf hget hnew ?_)
  have hl : (ps ++ #[rawInt pos.line, rawInt pos.col, Value.ref c']).toList = ps.toList ++ [rawInt pos.line, rawInt pos.col, .ref c'] := by simp
  rw [hl, codeAmong_snoc _ htr hnf]
  have hcP : c' ≠ P := Nat.ne_of_gt (Nat.lt_of_lt_of_le (Heap.lt_size hop) hc')
  have hP'P : P' ≠ P := Nat.ne_of_gt (Nat.lt_of_lt_of_le (Heap.lt_size hop) hP')
  obtain ⟨⟨ot, vt, e1, e2, e3, e4⟩, e5⟩ := id htab
  rw [hop] at e5; cases e5
  have hP2 : (h'.update P (Obj.mapFields (fun vs => if (codeAmong pos vs.toList).isSome = true then vs else vs ++ #[rawInt pos.line, rawInt pos.col, .ref c']))).get? P = some { cls := .none, data := .fields (ps ++ #[rawInt pos.line, rawInt pos.col, .ref c']) } := by
    rw [hget]
    show some ({ cls := Value.none, data := Data.fields (if (codeAmong pos ps.toList).isSome = true then ps else ps ++ #[rawInt pos.line, rawInt pos.col, .ref c']) } : Obj) = _
    rw [if_neg (by rw [hnf]; simp)]
  have xx : Heap.ExtBut P h' (h'.update P (Obj.mapFields (fun vs => if (codeAmong pos vs.toList).isSome = true then vs else vs ++ #[rawInt pos.line, rawInt pos.col, .ref c']))) := (Heap.SameBut.update ..).extBut
  refine wpAny_pure (hQ c' P' _ _ ⟨fun b o' hb e => xx b o' hb (hk b o' e), fun ps' e => ?_⟩ hc' hP' ?_ ?_ ?_ ?_ ?_)
  · rw [hop] at e
    have : ps = ps' := by cases e; rfl
    subst this
    exact ⟨_, hP2⟩
  · exact ⟨o, vs, file, tf, flags, tg, inF, text, tt, _, xx _ _ hne (hk _ _ ho), hd, h11, h2, h7, h9, h10, hget, hnew, by rw [hl]; exact TriplesOk_snoc _ _ _ _ htr, hne⟩
  · exact ⟨⟨ot, vt, xx _ _ hne (hk _ _ e1), e2, e3, e4⟩, hP2⟩
  · obtain ⟨c₂, o₂, vs₂, t₂, e₂, g₂, r₂⟩ := hrec'
    cases e₂
    exact ⟨_, o₂, vs₂, t₂, rfl, xx _ _ hcP g₂, r₂⟩
  · exact hcode'.extBut xx hcP hP'P
  · exact htab'.extBut xx hcP hP'P
theorem code_tb {env : Env} {c P : Addr} {qu : Nat → Option Str} {pos : Pos} {qualname : Str} {make : CodeContext → Sem Value} {Q : Value → Shared → Prop} (hc : env.code = .ref c) (hT : Tb h c P qu) (hq : qu pos.line = some qualname)
    (hmake : ∀ ctx (Q : Value → Shared → Prop), (∀ c' P' h' tk, (∀ b o, h.get? b = some o → h'.get? b = some o) → h.objs.size ≤ c' → h.objs.size ≤ P' → h'.IsCode c' P' #[] → h'.TableAt c' P' #[] → h'.CodeRec (.ref c') qualname → Q (.ref c') ⟨h', g, d, tk, os⟩) → wpAny M A (make ctx) Q E ⟨h, g, d, t, os⟩)
    (hQ : ∀ c' h' tk, Grow P h h' → Tb h' c P qu → CRec h' c' qualname → Q c' ⟨h', g, d, tk, os⟩) : wpAny M A (codeAt env pos make) Q E ⟨h, g, d, t, os⟩ := by
  obtain ⟨ps, hok, htab, f⟩ := hT
  cases hf : codeAmong pos ps.toList with
  | some v => exact wpAny_codeAt_hit hc hok hf (hQ v h t (Grow.refl _ _) ⟨ps, hok, htab, f⟩ (f pos v hf _ hq))
  | none =>
    refine code_miss hc hok htab hf hmake fun c' P' h' tk gr h1 h2 h3 h4 h5 h6 h7 => hQ _ _ _ gr ⟨_, h3, h4, fun pos' v e q eq => ?_⟩ (.of h7 h5)
    have hl : (ps ++ #[rawInt pos.line, rawInt pos.col, Value.ref c']).toList = ps.toList ++ [rawInt pos.line, rawInt pos.col, .ref c'] := by simp
    have htr : TriplesOk ps.toList := by obtain ⟨_, _, _, _, _, _, _, _, _, _, _, _, _, _, _, _, _, _, _, z, _⟩ := hok; exact z
    rw [hl, codeAmong_any (u := 0) (t := 0) _ htr] at e
    cases hz : codeAmong pos' ps.toList with
    | some v' =>
      rw [hz] at e
      have : v' = v := by simpa using e
      subst this
      exact (f pos' _ hz q eq).grow htab gr
    | none =>
      rw [hz, Option.none_or] at e
      split at e
      · rename_i hh
        cases e
        have : pos.line = pos'.line := by
          have := (Bool.and_eq_true _ _ ▸ hh).1
          have := eq_of_beq this
          exact Int.ofNat.inj this
        rw [← this] at eq
        rw [eq] at hq; cases hq
        exact .of h7 h5
      · cases e
theorem fn_code {env : Env} {c P : Addr} {qu : Nat → Option Str} {pos : Pos} {firstLine : Nat} {name qualname : Str} {p : Arguments} {scope : Scope} {body : FuncBody} {Q : Value → Shared → Prop} (hc : env.code = .ref c) (hT : Tb h c P qu) (hq : qu pos.line = some qualname)
    (hQ : ∀ c' h' tk, Grow P h h' → Tb h' c P qu → CRec h' c' qualname → Q c' ⟨h', g, d, tk, os⟩) : wpAny M A (functionCode env pos firstLine name qualname p scope body) Q E ⟨h, g, d, t, os⟩ := by
  unfold functionCode
  exact code_tb hc hT hq (fun ctx Q k => wpAny_newCodeX k) hQ
theorem cls_code_miss {env : Env} {c P : Addr} {ps : Array Value} {pos : Pos} {firstLine : Nat} {name qualname : Str} {scope : Scope} {Q : Value → Shared → Prop} (hc : env.code = .ref c) (hok : h.IsCode c P ps) (htab : h.TableAt c P ps) (hnf : codeAmong pos ps.toList = none)
    (hQ : ∀ c' P' h' tk, Grow P h h' → h.objs.size ≤ c' → h.objs.size ≤ P' → h'.IsCode c P (ps ++ #[rawInt pos.line, rawInt pos.col, .ref c']) → h'.TableAt c P (ps ++ #[rawInt pos.line, rawInt pos.col, .ref c']) → h'.CodeRec (.ref c') qualname → h'.IsCode c' P' #[] → h'.TableAt c' P' #[] →
      Q (.ref c') ⟨h', g, d, tk, os⟩) : wpAny M A (classCode env pos firstLine name qualname scope) Q E ⟨h, g, d, t, os⟩ := by
  unfold classCode
  exact code_miss hc hok htab hnf (fun ctx Q k => wpAny_newCodeX k) hQ
end
end
section
-- all but tables is kept to the sign
noncomputable def Kt (h h' : Heap) : Prop := ∀ b o, h.get? b = some o → ¬ tabled o → h'.get? b = some o
theorem Kt.kp {h h' : Heap} (k : Kt h h') : Kp h h' := fun b o e n => .inl (k b o e n)
theorem Kf.kt {a b : Heap} (x : Kf a b) : Kt a b := fun d o e _ => x d o e
theorem Grow.kt {P c : Addr} {ps : Array Value} {h h' : Heap} (g : Grow P h h') (ht : h.TableAt c P ps) : Kt h h' := fun b o e n =>
  g.1 b o (fun q => by subst q; rw [ht.2] at e; cases e; exact n ⟨rfl, _, rfl⟩) e
theorem Gs.kt {w : World} {mg mb : Str → Option Value} {h h' : Heap} (k : Kt h h') (G : Gs w mg mb h) : Gs w mg mb h' :=
  ⟨fun a o e n => k a o (G.k a o e n) n, ns_kd k.kp.kd G.g, ns_kd k.kp.kd G.b, let ⟨mc, a, b⟩ := G.lim; ⟨mc, ns_kd k.kp.kd a, b⟩, G.bb⟩
noncomputable def nameV : Value := .str "law_oy0140_01" 374
theorem gl_name (w : World) : nsIn (K3 w) mainGlobals "__name__" = some (some nameV) := by kernel_rfl
theorem gl_builtins (w : World) : nsIn (K3 w) mainGlobals "__builtins__" = some (some (.ref 4)) := by kernel_rfl
section
variable {M : Model} {A : Around} {E : Value → Shared → Prop} {w : World} {mg mb : Str → Option Value} {h : Heap} {g : Array GenState} {d : Drawn} {t : Nat} {os : OsState}
theorem blt_for {running : Addr} {Q : Addr → Shared → Prop} (G : Gs w mg mb h) (hq : Q builtinsNs ⟨h, g, d, t, os⟩) : wpAny M A (builtinsFor mainGlobals running) Q E ⟨h, g, d, t, os⟩ := by
  have e := G.at (a := 4) (by rfl) (by intro h; cases h)
  exact wpAny_builtinsFor G.g (mg_of G.k3 G.g (gl_builtins w)) (by decide) e (by rfl) (by rfl) (by rfl) hq
theorem name_get {Q : Option Value → Shared → Prop} (G : Gs w mg mb h) (hq : Q (some nameV) ⟨h, g, d, t, os⟩) : wpAny M A (nsGet mainGlobals "__name__") Q E ⟨h, g, d, t, os⟩ := by
  refine wpAny_nsGet G.g ?_
  rw [mg_of G.k3 G.g (gl_name w)]
  exact hq
noncomputable abbrev fdOf (name qualname : Str) (params : Arguments) (body : FuncBody) (scope : Scope) (clo : List (Str × Addr)) (ct c' : Value) : FuncData :=
  { name, qualname, params, body, scope, globals := mainGlobals, closure := clo, closureTuple := ct, code := c', builtins := builtinsNs, defaults := .none, kwdefaults := .none, annotations := none, pyModule := nameV, doc := .none }
theorem mk_fn {name qualname : Str} {params : Arguments} {body : FuncBody} {scope : Scope} {env : Env} {c P : Addr} {qu : Nat → Option Str} {pos : Pos} {firstLine : Nat} {clo : List (Str × Addr)} {Q : Value → Shared → Prop}
    (G : Gs w mg mb h) (hgl : env.globals = mainGlobals) (hc : env.code = .ref c) (hT : Tb h c P qu) (hq : qu pos.line = some qualname) (hclo : closureFor scope env = pure clo)
    (hdoc : ∀ b, body = .stmts b → docOf b = none)
    (hQ : ∀ f c' ct h' tk, Grow P h h' → Gs w mg mb h' → Tb h' c P qu → CRec h' c' qualname → h.get? f = none → h'.get? f = some { cls := .type "function", data := .func (fdOf name qualname params body scope clo ct c') } → Q (.ref f) ⟨h', g, d, tk, os⟩) :
    wpAny M A (makeFunction name qualname params body scope env [] [] [] pos firstLine) Q E ⟨h, g, d, t, os⟩ := by
  simp only [makeFunction, List.zip_nil_right, List.filterMap_nil, List.isEmpty_nil, if_true, pure_bind, hclo]
  have main : ∀ (ct : Value) (h1 : Heap), Kf h h1 → wpAny M A (do
        let __do_lift ← functionCode env pos firstLine name qualname params scope body
        let __do_lift_1 ← builtinsFor env.globals env.builtins
        let __do_lift_2 ← nsGet env.globals "__name__"
        let __do_lift_3 ← pure .none
        newObj (.type "function") (.func { name, qualname, params, body, scope, globals := env.globals, closure := clo, closureTuple := ct, code := __do_lift, builtins := __do_lift_1, defaults := .none, kwdefaults := .none, annotations := none, pyModule := __do_lift_2.getD .none, doc := __do_lift_3 })) Q E ⟨h1, g, d, t, os⟩ := by
    intro ct h1 k1
    refine wpAny_bind (fn_code hc (hT.full k1) hq fun c' h' tk gr tb cr => ?_)
    have gr' : Grow P h h' := (Grow.full k1).trans gr
    have kt : Kt h h' := by obtain ⟨ps, _, b, _⟩ := hT; exact gr'.kt b
    have G' := G.kt kt
    rw [hgl]
    refine wpAny_bind (blt_for G' ?_)
    refine wpAny_bind (name_get G' ?_)
    refine wpAny_bind (wpAny_pure ?_)
    refine wpAny_newObj_type ?_ (by size_fits)
    refine hQ _ c' ct _ _ (gr'.trans (Grow.full (Kf.push _ _))) (G'.kt (Kf.push _ _).kt) (tb.full (Kf.push _ _)) (cr.keep fun b o e _ _ => Kf.push _ _ _ _ e) ?_ (Heap.get?_push_at rfl rfl)
    cases q : h.get? h'.objs.size with
    | none => rfl
    | some o =>
      by_cases z : tabled o
      · by_cases z2 : h'.objs.size = P
        · obtain ⟨ps, _, b, _⟩ := tb
          rw [← z2] at b
          exact absurd (Heap.lt_size b.2) (Nat.lt_irrefl _)
        · exact absurd (Heap.lt_size (gr'.1 _ _ z2 q)) (Nat.lt_irrefl _)
      · exact absurd (Heap.lt_size (kt _ _ q z)) (Nat.lt_irrefl _)
  cases body with
  | stmts b =>
    have hd := hdoc b rfl
    simp only [hd]
    cases clo with
    | nil => exact main .none h (fun _ _ e => e)
    | cons p r =>
      simp only [List.isEmpty_cons, Bool.false_eq_true, if_false]
      unfold newTextTuple
      exact wpAny_bind (wpAny_newObjAsIs_type (main _ _ (Kf.push _ _)))
  | expr e =>
    cases clo with
    | nil => exact main .none h (fun _ _ e => e)
    | cons p r =>
      simp only [List.isEmpty_cons, Bool.false_eq_true, if_false]
      unfold newTextTuple
      exact wpAny_bind (wpAny_newObjAsIs_type (main _ _ (Kf.push _ _)))
end
end
section
-- the text of cmp_to_key, by its places
noncomputable def cmpBody : List Stmt := match PySem.Challenge.pw_oy0140_01.main.body with | _ :: .FunctionDef _ _ b _ _ _ _ _ _ _ :: _ => b | _ => []
noncomputable def kBody : List Stmt := match cmpBody with | .ClassDef _ _ _ b _ _ _ _ _ _ _ :: _ => b | _ => []
noncomputable def kScope : Scope := match cmpBody with | .ClassDef _ _ _ _ _ _ s _ _ _ _ :: _ => s | _ => default
noncomputable def mArgs (i : Nat) : Arguments := match kBody[i]? with | some (.FunctionDef _ a _ _ _ _ _ _ _ _) => a | _ => default
noncomputable def mBody (i : Nat) : List Stmt := match kBody[i]? with | some (.FunctionDef _ _ b _ _ _ _ _ _ _) => b | _ => []
noncomputable def mScope (i : Nat) : Scope := match kBody[i]? with | some (.FunctionDef _ _ _ _ _ _ s _ _ _) => s | _ => default
noncomputable def mPos (i : Nat) : Pos := match kBody[i]? with | some (.FunctionDef _ _ _ _ _ _ _ _ _ p) => p | _ => default
noncomputable def kPos : Pos := ⟨4, 4, 25, 23⟩
theorem body21 (w : World) : bodyAt w 21 = cmpBody := by rfl
theorem cmpBody_eq : cmpBody = [.ClassDef "K" [.Name "object" ⟨4, 12, 4, 18⟩] [] kBody [] [] kScope none "K" [Str.ofString "obj"] kPos, .Return (some (.Name "K" ⟨26, 11, 26, 12⟩)) ⟨26, 4, 26, 12⟩] := by rfl
noncomputable def fdef (i : Nat) (n : String) : Stmt := .FunctionDef n (mArgs i) (mBody i) [] none [] (mScope i) none n (mPos i)
theorem kBody_eq : kBody = [.Assign [.Name "__module__" ⟨5, 8, 5, 18⟩] (.Constant (.str "cpy313.functools") 0 ⟨5, 21, 5, 39⟩) ⟨5, 8, 5, 39⟩, .Assign [.Name "__slots__" ⟨6, 8, 6, 17⟩] (.List [.Constant (.str "obj") 0 ⟨6, 21, 6, 26⟩] ⟨6, 20, 6, 27⟩) ⟨6, 8, 6, 27⟩,
  fdef 2 "__init__", fdef 3 "__lt__", fdef 4 "__gt__", fdef 5 "__eq__", fdef 6 "__le__", fdef 7 "__ge__", .Assign [.Name "__hash__" ⟨25, 8, 25, 16⟩] (.Constant .none 0 ⟨25, 19, 25, 23⟩) ⟨25, 8, 25, 23⟩] := by rfl
noncomputable def methQ (n : Nat) : Option Str := if n = 8 then some "cmp_to_key.<locals>.K.__init__" else if n = 11 then some "cmp_to_key.<locals>.K.__lt__" else if n = 14 then some "cmp_to_key.<locals>.K.__gt__" else if n = 17 then some "cmp_to_key.<locals>.K.__eq__" else if n = 20 then some "cmp_to_key.<locals>.K.__le__" else if n = 23 then some "cmp_to_key.<locals>.K.__ge__" else none
noncomputable abbrev cEnv (ns c1 fr cell : Addr) : Env := { scope := kScope, locals := ns, globals := mainGlobals, qual := "cmp_to_key.<locals>.K.", code := .ref c1, frame := some fr, builtins := builtinsNs, cells := [(Str.ofString "mycmp", cell)] }
theorem clo_init (ns c1 fr cell : Addr) : closureFor (mScope 2) (cEnv ns c1 fr cell) = pure [] := by rfl
theorem clo_lt (ns c1 fr cell : Addr) : closureFor (mScope 3) (cEnv ns c1 fr cell) = pure [(Str.ofString "mycmp", cell)] := by rfl
theorem clo_gt (ns c1 fr cell : Addr) : closureFor (mScope 4) (cEnv ns c1 fr cell) = pure [(Str.ofString "mycmp", cell)] := by rfl
theorem clo_eq (ns c1 fr cell : Addr) : closureFor (mScope 5) (cEnv ns c1 fr cell) = pure [(Str.ofString "mycmp", cell)] := by rfl
theorem clo_le (ns c1 fr cell : Addr) : closureFor (mScope 6) (cEnv ns c1 fr cell) = pure [(Str.ofString "mycmp", cell)] := by rfl
theorem clo_ge (ns c1 fr cell : Addr) : closureFor (mScope 7) (cEnv ns c1 fr cell) = pure [(Str.ofString "mycmp", cell)] := by rfl
section
variable {prog : Program} {w : World} {A : Around} {E : Value → Shared → Prop} {h : Heap} {g : Array GenState} {d : Drawn} {t : Nat} {os : OsState}

theorem store_k {ns c1 fr cell : Addr} {name : Str} {v : Value} {es : Array DictEntry} {n : Nat} {Q : Unit → Shared → Prop} (e1 : h.get? ns = some { cls := .type "dict", data := .dict es n })
    (hk : (kScope.names.lookup name = some .local) ∨ (kScope.names.lookup name = none ∧ compilersOwnNames.contains name = true))
    (ha : aRefKeyMayBeTheName name es = false)
    (hQ : ∀ h', (∀ b o, b ≠ ns → h.get? b = some o → h'.get? b = some o) → h'.get? ns = some (Obj.putName name (PyData.keyHash w.params name) (.str name t) v { cls := .type "dict", data := .dict es n }) → Q () ⟨h', g, d, t + 1, os⟩) :
    wpAny (model prog w) A (storeName (cEnv ns c1 fr cell) name v) Q E ⟨h, g, d, t, os⟩ := by
  have step : wpAny (model prog w) A (localSet (cEnv ns c1 fr cell) name v) Q E ⟨h, g, d, t, os⟩ := by
    unfold localSet
    refine wpAny_bind (wpAny_load e1 ?_)
    show wpAny (model prog w) A (nsSet ns name v) Q E _
    unfold nsSet
    unfold strHash
    refine wpAny_bind (wpAny_bind (wpAny_askSetting (wpAny_pure ?_)))
    refine wpAny_bind (wpAny_mkText ?_)
    refine wpAny_bind (PySem.wpAny_loadPart' e1 ?_)
    show wpAny _ _ (if aRefKeyMayBeTheName name es = true then _ else updatePart ns (some (Value.str name 0)) (Obj.putName name _ (.str name t) v)) _ _ _
    rw [ha, if_neg Bool.false_ne_true]
    exact update_k e1 (by unfold Obj.putName; dsimp only; split <;> rfl) hQ
  unfold storeName
  have e2 : (cEnv ns c1 fr cell).kindOf name = kScope.names.lookup name := rfl
  rw [e2]
  rcases hk with hk | ⟨hk, hc⟩
  · rw [hk]; exact step
  · rw [hk]
    show wpAny _ _ (if (_ || ((_ || _) && !compilersOwnNames.contains name)) = true then _ else _) _ _ _
    rw [hc]
    exact step
end
end
section
noncomputable abbrev DefTree (i : Nat) (n : String) : Prop := ∀ env : Env, exec (fdef i n) env = (do
    standAt (mPos i)
    let f ← holding [] (makeFunction n (qualnameIn env n n) (mArgs i) (.stmts (mBody i)) (mScope i) env [] [] [] (mPos i) (mPos i).line)
    standAt (mPos i)
    bindName env n f
    pure .next)
theorem dt2 : DefTree 2 "__init__" := fun env => by rfl
theorem dt3 : DefTree 3 "__lt__" := fun env => by rfl
theorem dt4 : DefTree 4 "__gt__" := fun env => by rfl
theorem dt5 : DefTree 5 "__eq__" := fun env => by rfl
theorem dt6 : DefTree 6 "__le__" := fun env => by rfl
theorem dt7 : DefTree 7 "__ge__" := fun env => by rfl
end
section
-- outside N all is kept, but that tables may grow
noncomputable def Gn (B : Nat) (TB : List Addr) (N : Addr → Prop) (h h' : Heap) : Prop := ∀ b o, ¬ N b → h.get? b = some o → h'.get? b = some o ∨
  ((b ∈ TB ∨ B ≤ b) ∧ o.cls = .none ∧ ∃ vs more, o.data = .fields vs ∧ h'.get? b = some { o with data := .fields (vs ++ more) })
section
variable {B : Nat} {TB : List Addr} {N : Addr → Prop} {h h' h'' : Heap}
theorem Gn.kf (k : Kf h h') : Gn B TB N h h' := fun b o _ e => .inl (k b o e)
theorem Gn.refl : Gn B TB N h h := fun b o _ e => .inl e
theorem Gn.trans (x : Gn B TB N h h') (y : Gn B TB N h' h'') : Gn B TB N h h'' := fun b o n e => by
  rcases x b o n e with e | ⟨hb, hc, vs, more, hd, e⟩
  · exact y b o n e
  · rcases y b _ n e with e | ⟨_, _, vs', more', hd', e⟩
    · exact .inr ⟨hb, hc, vs, more, hd, e⟩
    · cases hd'
      exact .inr ⟨hb, hc, vs, more ++ more', hd, by rw [e, Array.append_assoc]⟩
theorem Gn.grow {c P : Addr} {ps : Array Value} (g : Grow P h h') (ht : h.TableAt c P ps) (hb : P ∈ TB ∨ B ≤ P) : Gn B TB N h h' := fun b o _ e => by
  by_cases q : b = P
  · subst q
    rw [ht.2] at e; cases e
    obtain ⟨more, e⟩ := g.2 _ ht.2
    exact .inr ⟨hb, rfl, _, more, rfl, e⟩
  · exact .inl (g.1 b o q e)
theorem Gn.tb {c P : Addr} {qu : Nat → Option Str} (g : Grow P h h') (ht : Tb h c P qu) (hb : P ∈ TB ∨ B ≤ P) : Gn B TB N h h' := by
  obtain ⟨ps, _, b, _⟩ := ht
  exact Gn.grow g b hb
theorem Gn.but (k : ∀ b o, ¬ N b → h.get? b = some o → h'.get? b = some o) : Gn B TB N h h' := fun b o n e => .inl (k b o n e)
theorem Gn.obj (x : Gn B TB N h h') {b : Addr} {o : Obj} (e : h.get? b = some o) (n : ¬ N b) (nt : ¬ tabled o) : h'.get? b = some o := by
  rcases x b o n e with e | ⟨_, hc, vs, _, hd, _⟩
  · exact e
  · exact absurd ⟨hc, vs, hd⟩ nt
theorem Gn.code (x : Gn B TB N h h') {v : Value} {q : Str} (c : h.CodeRec v q) (n : ∀ a o vs, h.get? a = some o → o.data = .fields vs → ¬ N a) : h'.CodeRec v q := by
  obtain ⟨c₂, o, vs, t, e1, e2, e3, e4⟩ := c
  rcases x _ _ (n _ _ _ e2 e3) e2 with e | ⟨_, hc, vs', more, hd, e⟩
  · exact ⟨c₂, o, vs, t, e1, e, e3, e4⟩
  · rw [hd] at e3; cases e3
    refine ⟨c₂, _, vs ++ more, t, e1, e, rfl, ?_⟩
    rw [Array.getElem?_append]
    split
    · exact e4
    · rename_i z
      rw [Array.getElem?_eq_none (Nat.le_of_not_lt z)] at e4; cases e4
theorem Gn.start (x : Gn B TB N h h') (n : ∀ b, N b → h.get? b = none) : Gn B TB (fun _ => False) h h' := fun b o _ e => x b o (fun z => by rw [n b z] at e; cases e) e
theorem Gn.kt (x : Gn B TB (fun _ => False) h h') : Kt h h' := fun b o e n => x.obj e id n
theorem Gn.any (x : Gn B TB (fun _ => False) h h') : Gn B TB N h h' := fun b o _ e => x b o id e
theorem notTabled {o : Obj} (n : o.cls ≠ .none) : ¬ tabled o := fun t => n t.1
theorem notFields {a : Addr} {es : Array DictEntry} {n : Nat} {s : Value} (e : h.get? a = some { cls := s, data := .dict es n }) : ∀ b o vs, h.get? b = some o → o.data = .fields vs → ¬ b = a := fun b o vs e1 e2 q => by
  subst q; rw [e] at e1; cases e1; cases e2
theorem Tb.gn {c P ns : Addr} {qu : Nat → Option Str} {es : Array DictEntry} {n : Nat} {s : Value} (x : Tb h c P qu) (k : ∀ b o, b ≠ ns → h.get? b = some o → h'.get? b = some o) (e : h.get? ns = some { cls := s, data := .dict es n }) : Tb h' c P qu := by
  obtain ⟨ps, a, b, f⟩ := x
  have nc : c ≠ ns := by obtain ⟨⟨o, vs, e1, _, e2, _⟩, _⟩ := b; exact notFields e _ _ _ e1 e2
  have np : P ≠ ns := notFields e _ _ _ b.2 rfl
  have xx : Heap.ExtBut ns h h' := k
  exact ⟨ps, a.extBut xx nc np, b.extBut xx nc np, fun pos v e0 q eq => (f pos v e0 q eq).keep fun b o e1 _ hd => k b o (let ⟨vs, hd⟩ := hd; notFields e _ _ _ e1 hd) e1⟩
end
-- all but ns and the tables is kept
noncomputable def KtN (ns : Addr) (h h' : Heap) : Prop := ∀ b o, b ≠ ns → h.get? b = some o → ¬ tabled o → h'.get? b = some o
theorem KtN.gn {B : Nat} {TB : List Addr} {ns : Addr} {h h' h'' : Heap} (x : KtN ns h h') (g : Gn B TB (· = ns) h' h'') : KtN ns h h'' := fun b o n e t => g.obj (x b o n e t) n t
-- a method of K stands
noncomputable def Meth (h : Heap) (f : Addr) (i : Nat) (n qual : Str) (clo : List (Str × Addr)) : Prop :=
  ∃ ct c', h.get? f = some { cls := .type "function", data := .func (fdOf n qual (mArgs i) (.stmts (mBody i)) (mScope i) clo ct c') } ∧ h.CodeRec c' qual
theorem Meth.gn {B : Nat} {TB : List Addr} {ns : Addr} {h h' : Heap} {f : Addr} {i : Nat} {n qual : Str} {clo : List (Str × Addr)} {es : Array DictEntry} {m : Nat} (x : Meth h f i n qual clo) (g : Gn B TB (· = ns) h h') (e : h.get? ns = some { cls := .type "dict", data := .dict es m }) : Meth h' f i n qual clo := by
  obtain ⟨ct, c', e1, e2⟩ := x
  refine ⟨ct, c', g.obj e1 (fun q => by subst q; rw [e] at e1; exact absurd (congrArg Obj.cls (Option.some.inj e1)) (by simp)) (fun t => by cases t.1), g.code e2 (notFields e)⟩
theorem Meth.full {B : Nat} {TB : List Addr} {h h' : Heap} {f : Addr} {i : Nat} {n qual : Str} {clo : List (Str × Addr)} (x : Meth h f i n qual clo) (g : Gn B TB (fun _ => False) h h') : Meth h' f i n qual clo := by
  obtain ⟨ct, c', e1, e2⟩ := x
  exact ⟨ct, c', g.obj e1 id (fun t => by cases t.1), g.code e2 (fun _ _ _ _ _ => id)⟩
section
variable {prog : Program} {w : World} {A : Around} {E : Value → Shared → Prop} {h h₀ : Heap} {g : Array GenState} {d : Drawn} {t : Nat} {os : OsState} {mg mb : Str → Option Value} {B : Nat} {TB : List Addr}
theorem def_k {i : Nat} {n : String} {qual : Str} {ns c1 P1 fr cell : Addr} {clo : List (Str × Addr)} {es : Array DictEntry} {m : Nat} {Q : Flow → Shared → Prop} (dt : DefTree i n) (hqn : qualnameIn (cEnv ns c1 fr cell) n n = qual) (hq : methQ (mPos i).line = some qual)
    (hclo : closureFor (mScope i) (cEnv ns c1 fr cell) = pure clo) (hdoc : docOf (mBody i) = none) (hk : kScope.names.lookup (Str.ofString n) = some .local)
    (G0 : Gs w mg mb h₀) (k0 : KtN ns h₀ h) (hns0 : h₀.get? ns = none) (hT : Tb h c1 P1 methQ) (hP : P1 ∈ TB ∨ B ≤ P1) (e1 : h.get? ns = some { cls := .type "dict", data := .dict es m }) (ha : aRefKeyMayBeTheName n es = false)
    (hQ : ∀ f h' tk tk', Gn B TB (· = ns) h h' → Tb h' c1 P1 methQ → Meth h' f i n qual clo → h'.get? ns = some (Obj.putName n (PyData.keyHash w.params n) (.str n tk) (.ref f) { cls := .type "dict", data := .dict es m }) → Q .next ⟨h', g, d, tk', os⟩) :
    wpAny (model prog w) A (exec (fdef i n) (cEnv ns c1 fr cell)) Q E ⟨h, g, d, t, os⟩ := by
  rw [dt, hqn]
  have G : Gs w mg mb h := G0.kt (fun b o e n => k0 b o (fun q => by subst q; rw [hns0] at e; cases e) e n)
  refine wpAny_bind (wpAny_standAt (wpAny_bind (wpAny_holding (mk_fn G rfl rfl hT hq hclo (fun b e => by cases e; exact hdoc) fun f c' ct h1 tk gr G1 tb cr hf0 hf => ?_))))
  have e1' : h1.get? ns = some { cls := .type "dict", data := .dict es m } := by obtain ⟨ps, _, b, _⟩ := hT; exact gr.keep e1 b (by simp)
  refine wpAny_bind (wpAny_standAt (wpAny_bind (wpAny_bindName (store_k e1' (.inl hk) ha fun h2 k2 e2 => wpAny_pure ?_))))
  have gn1 : Gn B TB (· = ns) h h1 := Gn.tb gr hT hP
  have gn2 : Gn B TB (· = ns) h1 h2 := Gn.but k2
  have tb2 := tb.gn k2 e1'
  exact hQ f h2 _ _ (gn1.trans gn2) tb2 ⟨ct, c', gn2.obj hf (fun q => by subst q; rw [e1'] at hf; exact absurd (congrArg Obj.cls (Option.some.inj hf)) (by simp)) (fun t => by cases t.1), gn2.code cr.rec (notFields e1')⟩ e2
end
end
section
section
variable {prog : Program} {w : World} {A : Around} {E : Value → Shared → Prop} {h h₀ : Heap} {g : Array GenState} {d : Drawn} {t : Nat} {os : OsState} {mg mb : Str → Option Value} {B : Nat} {TB : List Addr}
theorem eval_slots {env : Env} {Q : Value → Shared → Prop} (hq : ∀ a h', h.get? a = none → (∀ b o, h.get? b = some o → h'.get? b = some o) → h'.get? a = some { cls := .type "list", data := .seq #[.str "obj" t] 0 } → Q (.ref a) ⟨h', g, d, t + 1, os⟩) :
    wpAny (model prog w) A (eval (.List [.Constant (.str "obj") 0 ⟨6, 21, 6, 26⟩] ⟨6, 20, 6, 27⟩) env) Q E ⟨h, g, d, t, os⟩ := by
  show wpAny _ _ (do standAt _; newList (← spliced [(false, constValue env (.str "obj"))])) _ _ _
  refine wpAny_bind (wpAny_standAt (wpAny_bind ?_))
  unfold spliced
  refine wpAny_bind (wpAny_mkText (wpAny_bind (wpAny_pure (wpAny_bind (wpAny_holding ?_)))))
  unfold spliced
  refine wpAny_pure (wpAny_pure ?_)
  unfold newList
  refine wpAny_newObj_type ?_ (by size_fits)
  exact hq _ _ (Heap.get?_none_of_le (Nat.le_refl _)) (fun b o' e => Heap.get?_push_of_some _ e) (Heap.get?_push_size _ rfl)
theorem body_k {ns c1 P1 fr cell : Addr} {t1 t3 t5 : Tok} {vm vq vf : Value} {Q : Flow → Shared → Prop}
    (G0 : Gs w mg mb h₀) (k0 : KtN ns h₀ h) (hns0 : h₀.get? ns = none) (hT : Tb h c1 P1 methQ) (hP : P1 ∈ TB ∨ B ≤ P1) (e1 : h.get? ns = some { cls := .type "dict", data := .dict #[ent w.params "__module__" t1 vm, ent w.params "__qualname__" t3 vq, ent w.params "__firstlineno__" t5 vf] 3 })
    (hQ : ∀ h' tk t2 t7 u2 u3 u4 u5 u6 u7 t14 t16 a1 f2 f3 f4 f5 f6 f7, Gn B TB (· = ns) h h' → Tb h' c1 P1 methQ → h'.get? ns = some { cls := .type "dict", data := .dict #[ent w.params "__module__" t1 (.str "cpy313.functools" t2), ent w.params "__qualname__" t3 vq, ent w.params "__firstlineno__" t5 vf, ent w.params "__slots__" t7 (.ref a1), ent w.params "__init__" u2 (.ref f2), ent w.params "__lt__" u3 (.ref f3), ent w.params "__gt__" u4 (.ref f4), ent w.params "__eq__" u5 (.ref f5), ent w.params "__le__" u6 (.ref f6), ent w.params "__ge__" u7 (.ref f7), ent w.params "__hash__" t14 .none] 11 } →
      h'.get? a1 = some { cls := .type "list", data := .seq #[.str "obj" t16] 0 } → Meth h' f2 2 "__init__" "cmp_to_key.<locals>.K.__init__" [] → Meth h' f3 3 "__lt__" "cmp_to_key.<locals>.K.__lt__" [(Str.ofString "mycmp", cell)] → Meth h' f4 4 "__gt__" "cmp_to_key.<locals>.K.__gt__" [(Str.ofString "mycmp", cell)] → Meth h' f5 5 "__eq__" "cmp_to_key.<locals>.K.__eq__" [(Str.ofString "mycmp", cell)] → Meth h' f6 6 "__le__" "cmp_to_key.<locals>.K.__le__" [(Str.ofString "mycmp", cell)] → Meth h' f7 7 "__ge__" "cmp_to_key.<locals>.K.__ge__" [(Str.ofString "mycmp", cell)] → Q .next ⟨h', g, d, tk, os⟩) :
    wpAny (model prog w) A (execs kBody (cEnv ns c1 fr cell)) Q E ⟨h, g, d, t, os⟩ := by
  rw [kBody_eq]
  refine wpAny_execs_cons (wpAny_Assign_Name (show wpAny _ _ (mkText _) _ _ _ from wpAny_mkText ?_) (by rfl))
  refine store_k e1 (.inl (by rfl)) (by kernel_rfl) fun h1 k1 e2 => ?_
  have e1 : h1.get? ns = some { cls := .type "dict", data := .dict #[ent w.params "__module__" t1 (.str "cpy313.functools" t), ent w.params "__qualname__" t3 vq, ent w.params "__firstlineno__" t5 vf] 3 } := e2.trans (by kernel_rfl)
  have hT := hT.gn k1 (by assumption)
  have q1 : Gn B TB (· = ns) h h1 := Gn.but k1
  have k0 := k0.gn q1
  clear e2
  refine wpAny_execs_cons (wpAny_Assign_Name (eval_slots fun a1 h2 ha0 k2 ha => ?_) (by rfl))
  have e1 := k2 _ _ e1
  have hT := hT.full k2
  have q1 := q1.trans (Gn.kf k2)
  have k0 := k0.gn (Gn.kf (B := B) (TB := TB) k2)
  refine store_k e1 (.inl (by rfl)) (by kernel_rfl) fun h3 k3 e2 => ?_
  have na : a1 ≠ ns := fun q => by subst q; rw [e1] at ha; exact absurd (congrArg Obj.cls (Option.some.inj ha)) (by simp)
  have ha := k3 _ _ na ha
  have hT := hT.gn k3 (by assumption)
  have q1 := q1.trans (Gn.but k3)
  have k0 := k0.gn (Gn.but (B := B) (TB := TB) k3)
  have e1 : h3.get? ns = some { cls := .type "dict", data := .dict #[ent w.params "__module__" t1 (.str "cpy313.functools" t), ent w.params "__qualname__" t3 vq, ent w.params "__firstlineno__" t5 vf, ent w.params "__slots__" (t + 1 + 1 + 1) (.ref a1)] 4 } := e2.trans (by kernel_rfl)
  refine wpAny_execs_cons (def_k dt2 (by rfl) (by rfl) (clo_init ns c1 fr cell) (by rfl) (by rfl) G0 k0 hns0 hT hP e1 (by kernel_rfl) fun f2 g2 u2 v2 gn hT m2 e2 => ?_)
  have na : a1 ≠ ns := fun q => by subst q; rw [e1] at ha; exact absurd (congrArg Obj.cls (Option.some.inj ha)) (by simp)
  have ha := gn.obj ha na (notTabled (by simp))
  have e1 : g2.get? ns = some { cls := .type "dict", data := .dict #[ent w.params "__module__" t1 (.str "cpy313.functools" t), ent w.params "__qualname__" t3 vq, ent w.params "__firstlineno__" t5 vf, ent w.params "__slots__" (t + 1 + 1 + 1) (.ref a1), ent w.params "__init__" u2 (.ref f2)] 5 } := e2.trans (by kernel_rfl)
  have q1 := q1.trans gn
  have k0 := k0.gn gn
  clear gn e2
  refine wpAny_execs_cons (def_k dt3 (by rfl) (by rfl) (clo_lt ns c1 fr cell) (by rfl) (by rfl) G0 k0 hns0 hT hP e1 (by kernel_rfl) fun f3 g3 u3 v3 gn hT m3 e2 => ?_)
  have na : a1 ≠ ns := fun q => by subst q; rw [e1] at ha; exact absurd (congrArg Obj.cls (Option.some.inj ha)) (by simp)
  have ha := gn.obj ha na (notTabled (by simp))
  have m2 := m2.gn gn e1
  have e1 : g3.get? ns = some { cls := .type "dict", data := .dict #[ent w.params "__module__" t1 (.str "cpy313.functools" t), ent w.params "__qualname__" t3 vq, ent w.params "__firstlineno__" t5 vf, ent w.params "__slots__" (t + 1 + 1 + 1) (.ref a1), ent w.params "__init__" u2 (.ref f2), ent w.params "__lt__" u3 (.ref f3)] 6 } := e2.trans (by kernel_rfl)
  have q1 := q1.trans gn
  have k0 := k0.gn gn
  clear gn e2
  refine wpAny_execs_cons (def_k dt4 (by rfl) (by rfl) (clo_gt ns c1 fr cell) (by rfl) (by rfl) G0 k0 hns0 hT hP e1 (by kernel_rfl) fun f4 g4 u4 v4 gn hT m4 e2 => ?_)
  have na : a1 ≠ ns := fun q => by subst q; rw [e1] at ha; exact absurd (congrArg Obj.cls (Option.some.inj ha)) (by simp)
  have ha := gn.obj ha na (notTabled (by simp))
  have m2 := m2.gn gn e1
  have m3 := m3.gn gn e1
  have e1 : g4.get? ns = some { cls := .type "dict", data := .dict #[ent w.params "__module__" t1 (.str "cpy313.functools" t), ent w.params "__qualname__" t3 vq, ent w.params "__firstlineno__" t5 vf, ent w.params "__slots__" (t + 1 + 1 + 1) (.ref a1), ent w.params "__init__" u2 (.ref f2), ent w.params "__lt__" u3 (.ref f3), ent w.params "__gt__" u4 (.ref f4)] 7 } := e2.trans (by kernel_rfl)
  have q1 := q1.trans gn
  have k0 := k0.gn gn
  clear gn e2
  refine wpAny_execs_cons (def_k dt5 (by rfl) (by rfl) (clo_eq ns c1 fr cell) (by rfl) (by rfl) G0 k0 hns0 hT hP e1 (by kernel_rfl) fun f5 g5 u5 v5 gn hT m5 e2 => ?_)
  have na : a1 ≠ ns := fun q => by subst q; rw [e1] at ha; exact absurd (congrArg Obj.cls (Option.some.inj ha)) (by simp)
  have ha := gn.obj ha na (notTabled (by simp))
  have m2 := m2.gn gn e1
  have m3 := m3.gn gn e1
  have m4 := m4.gn gn e1
  have e1 : g5.get? ns = some { cls := .type "dict", data := .dict #[ent w.params "__module__" t1 (.str "cpy313.functools" t), ent w.params "__qualname__" t3 vq, ent w.params "__firstlineno__" t5 vf, ent w.params "__slots__" (t + 1 + 1 + 1) (.ref a1), ent w.params "__init__" u2 (.ref f2), ent w.params "__lt__" u3 (.ref f3), ent w.params "__gt__" u4 (.ref f4), ent w.params "__eq__" u5 (.ref f5)] 8 } := e2.trans (by kernel_rfl)
  have q1 := q1.trans gn
  have k0 := k0.gn gn
  clear gn e2
  refine wpAny_execs_cons (def_k dt6 (by rfl) (by rfl) (clo_le ns c1 fr cell) (by rfl) (by rfl) G0 k0 hns0 hT hP e1 (by kernel_rfl) fun f6 g6 u6 v6 gn hT m6 e2 => ?_)
  have na : a1 ≠ ns := fun q => by subst q; rw [e1] at ha; exact absurd (congrArg Obj.cls (Option.some.inj ha)) (by simp)
  have ha := gn.obj ha na (notTabled (by simp))
  have m2 := m2.gn gn e1
  have m3 := m3.gn gn e1
  have m4 := m4.gn gn e1
  have m5 := m5.gn gn e1
  have e1 : g6.get? ns = some { cls := .type "dict", data := .dict #[ent w.params "__module__" t1 (.str "cpy313.functools" t), ent w.params "__qualname__" t3 vq, ent w.params "__firstlineno__" t5 vf, ent w.params "__slots__" (t + 1 + 1 + 1) (.ref a1), ent w.params "__init__" u2 (.ref f2), ent w.params "__lt__" u3 (.ref f3), ent w.params "__gt__" u4 (.ref f4), ent w.params "__eq__" u5 (.ref f5), ent w.params "__le__" u6 (.ref f6)] 9 } := e2.trans (by kernel_rfl)
  have q1 := q1.trans gn
  have k0 := k0.gn gn
  clear gn e2
  refine wpAny_execs_cons (def_k dt7 (by rfl) (by rfl) (clo_ge ns c1 fr cell) (by rfl) (by rfl) G0 k0 hns0 hT hP e1 (by kernel_rfl) fun f7 g7 u7 v7 gn hT m7 e2 => ?_)
  have na : a1 ≠ ns := fun q => by subst q; rw [e1] at ha; exact absurd (congrArg Obj.cls (Option.some.inj ha)) (by simp)
  have ha := gn.obj ha na (notTabled (by simp))
  have m2 := m2.gn gn e1
  have m3 := m3.gn gn e1
  have m4 := m4.gn gn e1
  have m5 := m5.gn gn e1
  have m6 := m6.gn gn e1
  have e1 : g7.get? ns = some { cls := .type "dict", data := .dict #[ent w.params "__module__" t1 (.str "cpy313.functools" t), ent w.params "__qualname__" t3 vq, ent w.params "__firstlineno__" t5 vf, ent w.params "__slots__" (t + 1 + 1 + 1) (.ref a1), ent w.params "__init__" u2 (.ref f2), ent w.params "__lt__" u3 (.ref f3), ent w.params "__gt__" u4 (.ref f4), ent w.params "__eq__" u5 (.ref f5), ent w.params "__le__" u6 (.ref f6), ent w.params "__ge__" u7 (.ref f7)] 10 } := e2.trans (by kernel_rfl)
  have q1 := q1.trans gn
  have k0 := k0.gn gn
  clear gn e2
  refine wpAny_execs_cons (wpAny_Assign_Name (show wpAny _ _ (pure Value.none) _ _ _ from wpAny_pure ?_) (by rfl))
  refine store_k e1 (.inl (by rfl)) (by kernel_rfl) fun hz kz e2 => ?_
  have na : a1 ≠ ns := fun q => by subst q; rw [e1] at ha; exact absurd (congrArg Obj.cls (Option.some.inj ha)) (by simp)
  have gn : Gn B TB (· = ns) g7 hz := Gn.but kz
  have ha := gn.obj ha na (notTabled (by simp))
  have hT := hT.gn kz e1
  have m2 := m2.gn gn e1
  have m3 := m3.gn gn e1
  have m4 := m4.gn gn e1
  have m5 := m5.gn gn e1
  have m6 := m6.gn gn e1
  have m7 := m7.gn gn e1
  have e1 : hz.get? ns = some { cls := .type "dict", data := .dict #[ent w.params "__module__" t1 (.str "cpy313.functools" t), ent w.params "__qualname__" t3 vq, ent w.params "__firstlineno__" t5 vf, ent w.params "__slots__" (t + 1 + 1 + 1) (.ref a1), ent w.params "__init__" u2 (.ref f2), ent w.params "__lt__" u3 (.ref f3), ent w.params "__gt__" u4 (.ref f4), ent w.params "__eq__" u5 (.ref f5), ent w.params "__le__" u6 (.ref f6), ent w.params "__ge__" u7 (.ref f7), ent w.params "__hash__" v7 .none] 11 } := e2.trans (by kernel_rfl)
  have q1 := q1.trans gn
  exact wpAny_execs_nil (hQ hz _ _ _ _ _ _ _ _ _ _ _ _ _ _ _ _ _ _ q1 hT e1 ha m2 m3 m4 m5 m6 m7)
end
end
section
noncomputable abbrev fEnv (w : World) (L : Addr) : Env := callEnvC (fdAt w 21) L 21
-- the class's code, once made
noncomputable def KMade (B : Nat) (h : Heap) (c1 P1 : Addr) : Prop := B ≤ c1 ∧ B ≤ P1 ∧ CRec h (.ref c1) "cmp_to_key.<locals>.K" ∧ Tb h c1 P1 methQ
noncomputable def KOne (B : Nat) (h : Heap) (c1 P1 : Addr) : Prop := ∃ ps, h.IsCode 20 16 ps ∧ h.TableAt 20 16 ps ∧ codeAmong kPos ps.toList = some (.ref c1) ∧ KMade B h c1 P1
noncomputable def KT (B : Nat) (h : Heap) : Prop := (∃ ps, h.IsCode 20 16 ps ∧ h.TableAt 20 16 ps ∧ codeAmong kPos ps.toList = none) ∨ ∃ c1 P1, KOne B h c1 P1
noncomputable def lamQ (_ : Nat) : Option Str := some "law.<locals>.<lambda>"
-- what is said of the tables
noncomputable def TT (B : Nat) (h : Heap) : Prop := Tb h 179 177 lamQ ∧ KT B h
theorem code_hard {h h' : Heap} {c P : Addr} {ps : Array Value} (a : h.IsCode c P ps) (b : h.TableAt c P ps) (k : ∀ b o, h.get? b = some o → hard o → h'.get? b = some o) : h'.IsCode c P ps := by
  obtain ⟨⟨o', vs', e1, e2, e3, e4⟩, e5⟩ := b
  obtain ⟨o, vs, file, tf, flags, tg, inF, text, tt, op, a1, r1, r2, r3, r4, r5, r6, b1, r7, r8, r9⟩ := a
  rw [e1] at a1; cases a1
  rw [e5] at b1; cases b1
  exact ⟨_, vs, file, tf, flags, tg, inF, text, tt, _, k _ _ e1 ⟨.inl e2, _, r1⟩, r1, r2, r3, r4, r5, r6, k _ _ e5 ⟨.inr rfl, _, rfl⟩, r7, r8, r9⟩
theorem table_hard {h h' : Heap} {c P : Addr} {ps : Array Value} (b : h.TableAt c P ps) (k : ∀ b o, h.get? b = some o → hard o → h'.get? b = some o) : h'.TableAt c P ps := by
  obtain ⟨⟨o, vs, e1, e2, e3, e4⟩, e5⟩ := b
  exact ⟨⟨o, vs, k _ _ e1 ⟨.inl e2, _, e3⟩, e2, e3, e4⟩, k _ _ e5 ⟨.inr rfl, _, rfl⟩⟩
theorem tb_hard {h h' : Heap} {c P : Addr} {qu : Nat → Option Str} (x : Tb h c P qu) (k : ∀ b o, h.get? b = some o → hard o → h'.get? b = some o) : Tb h' c P qu := by
  obtain ⟨ps, a, b, f⟩ := x
  exact ⟨ps, code_hard a b k, table_hard b k, fun pos v e q eq => (f pos v e q eq).keep fun b o e hc hd => k b o e ⟨.inl hc, hd⟩⟩
theorem KT.hard {B : Nat} {h h' : Heap} (x : KT B h) (k : ∀ b o, h.get? b = some o → hard o → h'.get? b = some o) : KT B h' := by
  rcases x with ⟨ps, a, b, e⟩ | ⟨c1, P1, ps, a, b, e, m1, m2, m3, m4⟩
  · exact .inl ⟨ps, code_hard a b k, table_hard b k, e⟩
  · exact .inr ⟨c1, P1, ps, code_hard a b k, table_hard b k, e, m1, m2, m3.keep fun b o e hc hd => k b o e ⟨.inl hc, hd⟩, tb_hard m4 k⟩
theorem TT.hard (B : Nat) : HardT (TT B) := fun _ _ k x => ⟨tb_hard x.1 k, x.2.hard k⟩
-- all is kept but one table
theorem tb_grow {h h' : Heap} {c P c' P' : Addr} {ps' : Array Value} {qu : Nat → Option Str} (x : Tb h c P qu) (g : Grow P' h h') (hi : h.TableAt c' P' ps') (n1 : c ≠ P') (n2 : P ≠ P') : Tb h' c P qu := by
  obtain ⟨ps, a, b, f⟩ := x
  have xx : Heap.ExtBut P' h h' := g.1
  exact ⟨ps, a.extBut xx n1 n2, b.extBut xx n1 n2, fun pos v e q eq => (f pos v e q eq).grow hi g⟩
theorem KMade.grow {B : Nat} {h h' : Heap} {c1 P1 c' P' : Addr} {ps' : Array Value} (x : KMade B h c1 P1) (g : Grow P' h h') (hi : h.TableAt c' P' ps') (hB : P' < B) : KMade B h' c1 P1 := by
  obtain ⟨b1, b2, r, tb⟩ := x
  exact ⟨b1, b2, r.grow hi g, tb_grow tb g hi (Nat.ne_of_gt (Nat.lt_of_lt_of_le hB b1)) (Nat.ne_of_gt (Nat.lt_of_lt_of_le hB b2))⟩
theorem KOne.grow {B : Nat} {h h' : Heap} {c1 P1 c' P' : Addr} {ps' : Array Value} (x : KOne B h c1 P1) (g : Grow P' h h') (hi : h.TableAt c' P' ps') (hB : P' < B) (n1 : P' ≠ 20) (n2 : P' ≠ 16) : KOne B h' c1 P1 := by
  obtain ⟨ps, a, b, e, m⟩ := x
  have xx : Heap.ExtBut P' h h' := g.1
  exact ⟨ps, a.extBut xx (Ne.symm n1) (Ne.symm n2), b.extBut xx (Ne.symm n1) (Ne.symm n2), e, m.grow g hi hB⟩
theorem KT.grow {B : Nat} {h h' : Heap} {c' P' : Addr} {ps' : Array Value} (x : KT B h) (g : Grow P' h h') (hi : h.TableAt c' P' ps') (hB : P' < B) (n1 : P' ≠ 20) (n2 : P' ≠ 16) : KT B h' := by
  rcases x with ⟨ps, a, b, e⟩ | ⟨c1, P1, x⟩
  · have xx : Heap.ExtBut P' h h' := g.1
    exact .inl ⟨ps, a.extBut xx (Ne.symm n1) (Ne.symm n2), b.extBut xx (Ne.symm n1) (Ne.symm n2), e⟩
  · exact .inr ⟨c1, P1, x.grow g hi hB n1 n2⟩
section
variable {M : Model} {A : Around} {E : Value → Shared → Prop} {h : Heap} {g : Array GenState} {d : Drawn} {t : Nat} {os : OsState} {B : Nat}
theorem kcode {L : Addr} {w : World} {Q : Value → Shared → Prop} (hT : KT B h) (hB : B ≤ h.objs.size)
    (hQ : ∀ c1 P1 h' tk, Grow 16 h h' → KOne B h' c1 P1 → Q (.ref c1) ⟨h', g, d, tk, os⟩) : wpAny M A (classCode (fEnv w L) kPos 4 "K" "cmp_to_key.<locals>.K" kScope) Q E ⟨h, g, d, t, os⟩ := by
  rcases hT with ⟨ps, a, b, e⟩ | ⟨c1, P1, ps, a, b, e, m⟩
  · refine cls_code_miss (c := 20) (P := 16) (by rfl) a b e fun c' P' h' tk gr h1 h2 h3 h4 h5 h6 h7 => hQ c' P' h' tk gr ⟨_, h3, h4, ?_, Nat.le_trans hB h1, Nat.le_trans hB h2, .of h7 h5, _, h6, h7, fun pos v e => by cases e⟩
    have htr : TriplesOk ps.toList := by obtain ⟨_, _, _, _, _, _, _, _, _, _, _, _, _, _, _, _, _, _, _, z, _⟩ := a; exact z
    have hl : (ps ++ #[rawInt kPos.line, rawInt kPos.col, Value.ref c']).toList = ps.toList ++ [rawInt kPos.line, rawInt kPos.col, .ref c'] := by simp
    rw [hl]
    exact codeAmong_snoc _ htr e
  · exact wpAny_codeAt_hit (c := 20) (P := 16) (by rfl) a e (hQ c1 P1 h t (Grow.refl _ _) ⟨ps, a, b, e, m⟩)
end
end
section
section
variable {B : Nat} {TB : List Addr} {h h' : Heap}
theorem Gn.low (x : Gn B TB (fun _ => False) h h') {b : Addr} {o : Obj} (e : h.get? b = some o) (l : b < B) (n : b ∉ TB) : h'.get? b = some o := by
  rcases x b o id e with e | ⟨hb, _⟩
  · exact e
  · rcases hb with hb | hb
    · exact absurd hb n
    · exact absurd l (Nat.not_lt.mpr hb)
theorem CRec.gn {v : Value} {q : Str} (c : CRec h v q) (x : Gn B TB (fun _ => False) h h') : CRec h' v q := c.keep fun b o e hc _ => x.obj e id (notTabled (by rw [hc]; simp))
theorem code_low {c P : Addr} {ps : Array Value} (a : h.IsCode c P ps) (x : Gn B TB (fun _ => False) h h') (l1 : c < B) (n1 : c ∉ TB) (l2 : P < B) (n2 : P ∉ TB) : h'.IsCode c P ps := by
  obtain ⟨o, vs, file, tf, flags, tg, inF, text, tt, op, a1, r1, r2, r3, r4, r5, r6, b1, r7, r8, r9⟩ := a
  exact ⟨_, vs, file, tf, flags, tg, inF, text, tt, _, x.low a1 l1 n1, r1, r2, r3, r4, r5, r6, x.low b1 l2 n2, r7, r8, r9⟩
theorem table_low {c P : Addr} {ps : Array Value} (a : h.TableAt c P ps) (x : Gn B TB (fun _ => False) h h') (l1 : c < B) (n1 : c ∉ TB) (l2 : P < B) (n2 : P ∉ TB) : h'.TableAt c P ps := by
  obtain ⟨⟨o, vs, e1, e2, e3, e4⟩, e5⟩ := a
  exact ⟨⟨o, vs, x.low e1 l1 n1, e2, e3, e4⟩, x.low e5 l2 n2⟩
theorem Tb.low {c P : Addr} {qu : Nat → Option Str} (a : Tb h c P qu) (x : Gn B TB (fun _ => False) h h') (l1 : c < B) (n1 : c ∉ TB) (l2 : P < B) (n2 : P ∉ TB) : Tb h' c P qu := by
  obtain ⟨ps, a, b, f⟩ := a
  exact ⟨ps, code_low a x l1 n1 l2 n2, table_low b x l1 n1 l2 n2, fun pos v e q eq => (f pos v e q eq).gn x⟩
theorem KOne.gn {c1 P1 : Addr} (k : KOne B h c1 P1) (x : Gn B [] (fun _ => False) h h') (tb : Tb h' c1 P1 methQ) (hB : 180 < B) : KOne B h' c1 P1 := by
  obtain ⟨ps, a, b, e, m1, m2, m3, m4⟩ := k
  have l20 : (20 : Nat) < B := Nat.lt_trans (by decide) hB
  have l16 : (16 : Nat) < B := Nat.lt_trans (by decide) hB
  exact ⟨ps, code_low a x l20 (by simp) l16 (by simp), table_low b x l20 (by simp) l16 (by simp), e, m1, m2, m3.gn x, tb⟩
theorem KOne.gnN {N : Addr → Prop} {c1 P1 : Addr} (k : KOne B h c1 P1) (x : Gn B [] N h h') (hN : ∀ b o vs, h.get? b = some o → o.data = .fields vs → ¬ N b) (tb : Tb h' c1 P1 methQ) (hB : 180 < B) : KOne B h' c1 P1 := by
  obtain ⟨ps, a, b, e, m1, m2, m3, m4⟩ := k
  have l20 : (20 : Nat) < B := Nat.lt_trans (by decide) hB
  have l16 : (16 : Nat) < B := Nat.lt_trans (by decide) hB
  have low : ∀ b o vs, h.get? b = some o → o.data = .fields vs → b < B → h'.get? b = some o := fun b o vs e hd l => by
    rcases x b o (hN _ _ _ e hd) e with e | ⟨hb, _⟩
    · exact e
    · rcases hb with hb | hb
      · simp at hb
      · exact absurd l (Nat.not_lt.mpr hb)
  refine ⟨ps, ?_, ?_, e, m1, m2, ?_, tb⟩
  · obtain ⟨o, vs, file, tf, flags, tg, inF, text, tt, op, a1, r1, r2, r3, r4, r5, r6, b1, r7, r8, r9⟩ := a
    exact ⟨_, vs, file, tf, flags, tg, inF, text, tt, _, low _ _ _ a1 r1 l20, r1, r2, r3, r4, r5, r6, low _ _ _ b1 r7 l16, r7, r8, r9⟩
  · obtain ⟨⟨o, vs, e1, e2, e3, e4⟩, e5⟩ := b
    exact ⟨⟨o, vs, low _ _ _ e1 e3 l20, e2, e3, e4⟩, low _ _ _ e5 rfl l16⟩
  · exact m3.keep fun b o e hc hd => by
      obtain ⟨vs, hd⟩ := hd
      exact x.obj e (hN _ _ _ e hd) (notTabled (by rw [hc]; simp))
theorem Gn.more {TB' : List Addr} {N : Addr → Prop} (x : Gn B TB N h h') (s : ∀ b ∈ TB, b ∈ TB') : Gn B TB' N h h' := fun b o n e => by
  rcases x b o n e with e | ⟨hb, r⟩
  · exact .inl e
  · exact .inr ⟨hb.imp (s b) id, r⟩
theorem Gn.rm {T : Heap → Prop} (x : Gn B TB (fun _ => False) h h') (t : T h → T h') : Rm B TB T h h' := ⟨fun b o e => by
  rcases x b o id e with e | ⟨hb, hc, vs, more, hd, e⟩
  · exact .inl e
  · exact .inr (.inr ⟨hb, hc, vs, more, hd, e⟩), t⟩
end
end
section
theorem newobj_k {M : Model} {A : Around} {E : Value → Shared → Prop} {h : Heap} {g : Array GenState} {d : Drawn} {t : Nat} {os : OsState} {T : String} {data : Data} {Q : Value → Shared → Prop} (hf : ({ cls := .type T, data } : Obj).isFreed = false) (hd : sizeOk data)
    (hQ : ∀ a h', h.get? a = none → Kf h h' → h'.get? a = some { cls := .type T, data } → Q (.ref a) ⟨h', g, d, t, os⟩) : wpAny M A (newObj (.type T) data) Q E ⟨h, g, d, t, os⟩ :=
  wpAny_newObj_type (hQ _ _ (Heap.get?_none_of_le (Nat.le_refl _)) (fun b o' e => Heap.get?_push_of_some _ e) (Heap.get?_push_size _ hf)) hd
set_option hygiene false in
local macro_rules | `(tactic| wtm_at "cb") => `(tactic| with_reducible first
    | refine wpAny_bind ?_ | refine wpAny_pure ?_ | refine wpAny_of_eq (by assumption) ?_ | refine wpAny_isInstance (by assumption) (by assumption) ?_ | refine wpAny_load (by assumption) ?_
    | refine wpAny_loadPart (by assumption) ?_ | refine wpAny_holding ?_ | refine wpAny_tryCatchS ?_ | refine wpAny_forArr ?_ | refine wpAny_forCons ?_ | refine wpAny_forNil ?_ | refine wpAny_rule ?_
    | refine wpAny_fresh' ?_ | refine wpAny_askSetting ?_ | refine wpAny_ask ?_ | refine wpAny_specialOf (by assumption) (by assumption) ?_ | refine wpAny_specialOf_ent (by assumption) (by assumption) ?_)
set_option hygiene false in
local macro_rules | `(tactic| wtm_at "cs") => `(tactic| with_reducible first
    | show wpAny _ _ (collect _) _ _ _ | show wpAny _ _ (call _ _ _) _ _ _ | show wpAny _ _ (getAttr _ _ _) _ _ _ | show wpAny _ _ (Builtin.Slots.read _ _ _) _ _ _ | show wpAny _ _ (Builtin.Slots.install _ _ _ _) _ _ _
    | show wpAny _ _ (getAttr? _ _) _ _ _ | show wpAny _ _ (storeName _ _ _) _ _ _ | show wpAny _ _ (classCode _ _ _ _ _ _) _ _ _ | show wpAny _ _ (alloc _) _ _ _ | show wpAny _ _ (newDict _) _ _ _ | show wpAny _ _ enterFrame _ _ _
    | show wpAny _ _ (run _ _) _ _ _ | show wpAny _ _ (builtinsFor _ _) _ _ _ | show wpAny _ _ (nsGet mainGlobals _) _ _ _ | show wpAny _ _ (loadName _ _) _ _ _ | show wpAny _ _ (newTuple _) _ _ _)
set_option hygiene false in
local macro_rules | `(tactic| wtm_at "cb") => `(tactic| with_reducible first | refine wpAny_onRaise ?_ | refine Looks.at (by assumption) ?_)
set_option hygiene false in
local macro_rules | `(tactic| wtm_at "cw") => `(tactic| repeat first
    | wtm_at "cb"
    | ((with_reducible apply wpAny_ite_false); focus first | rfl | (rw [hns]; rfl))
    | ((with_reducible apply wpAny_ite_true); focus rfl)
    | rw [f1]
    | rw [f2]
    | ((with_reducible apply wpAny_ite_false); focus kernel_rfl)
    | ((with_reducible apply wpAny_ite_true); focus kernel_rfl)
    | ((fail_if_success wtm_at "cs"); wp_delta))
section
variable {prog : Program} {w : World} {A : Around} {E : Value → Shared → Prop} {h : Heap} {g : Array GenState} {d : Drawn} {t : Nat} {os : OsState} {mg mb : Str → Option Value} {B : Nat} {TB : List Addr}
theorem sys_ne {ns : Addr} {h' : Heap} (G : Gs w mg mb h') (n : h'.get? ns = none) : (ns == sysModules) = false := by
  have e := G.at (a := sysModules) (by rfl) (by intro h; cases h)
  have : ns ≠ sysModules := fun q => by rw [q, e] at n; cases n
  simpa using this
theorem KT.table (x : KT B h) : ∃ ps, h.TableAt 20 16 ps := by
  rcases x with ⟨ps, _, b, _⟩ | ⟨_, _, ps, _, b, _⟩ <;> exact ⟨ps, b⟩
set_option pp.deepTerms false in
set_option pp.maxSteps 2500 in
theorem load_name_k {ns c1 fr cell : Addr} {Q : Value → Shared → Prop} (G : Gs w mg mb h) (e1 : h.get? ns = some { cls := .type "dict", data := .dict #[] }) (hq : Q nameV ⟨h, g, d, t, os⟩) : wpAny (model prog w) A (loadName (cEnv ns c1 fr cell) "__name__") Q E ⟨h, g, d, t, os⟩ := by
  unfold loadName
  wtm_at "cw"
  refine name_get G ?_
  wtm_at "cw"
  exact hq
noncomputable def K5 (w : World) : Frag := [(cStatics, objAt w cStatics)]
theorem Gs.k5 (G : Gs w mg mb h) : (K5 w).In h := fun a o e => by
  unfold K5 at e
  rw [List.lookup_cons] at e
  split at e
  · rename_i q
    cases e
    have : a = cStatics := by simpa using q
    subst this
    exact G.k _ _ (by rfl) (fun t => by obtain ⟨_, vs, e⟩ := t; cases e)
  · cases e
theorem third_none (w : World) : nsIn (K5 w) cStatics "thirdparty.any" = some none := by kernel_rfl
set_option genInjectivity false in
structure KTok where
  (t1 t2 t5 t6 t7 t8 t9 t10 t11 t12 t13 t14 t15 tk t17 t4 : Tok)
set_option genInjectivity false in
structure KAdr where
  (a1 a2 a3 a4 a5 a6 a7 a8 mD bT : Addr)
-- the class K stands
inductive KCls (w : World) (h₀ h : Heap) (C cell : Addr) : Prop
  | mk (ns : Addr) (k : KTok) (a : KAdr) (n0 : h₀.get? ns = none) (hne : ns ≠ C)
    (e1 : h.get? ns = some { cls := .type "dict", data := .dict #[ent w.params "__module__" k.t1 (.str "cpy313.functools" k.t2), ent w.params "__firstlineno__" k.t5 (.int 4 k.t6), ent w.params "__slots__" k.t7 (.ref a.a1), ent w.params "__init__" k.t8 (.ref a.a2), ent w.params "__lt__" k.t9 (.ref a.a3), ent w.params "__gt__" k.t10 (.ref a.a4), ent w.params "__eq__" k.t11 (.ref a.a5), ent w.params "__le__" k.t12 (.ref a.a6), ent w.params "__ge__" k.t13 (.ref a.a7), ent w.params "__hash__" k.t14 .none, ent w.params "__static_attributes__" k.t15 (.ref a.a8), ent w.params "obj" (k.tk + 1) (.ref a.mD), ent w.params "__doc__" (k.tk + 2) .none] 3 })
    (e2 : h.get? C = some { cls := .type "type", data := .cls { name := "K", bases := [.type "object"], mro := [.ref C, .type "object"], ns := ns, qualname := "cmp_to_key.<locals>.K", hasDict := false, slotNames := ["obj"] }, slots := #[some (.ref a.bT), none, some (.str "K" k.t17), some (.str "cmp_to_key.<locals>.K" k.t4), some (.builtin "object.__new__"), some (.bool false)] })
    (e3 : h.get? a.mD = some { cls := .type "member_descriptor", data := .fields #[.str "obj" k.tk, .ref C, .builtin "proto.slot", .builtin "proto.slot#set", .int 0 0] })
    (m2 : Meth h a.a2 2 "__init__" "cmp_to_key.<locals>.K.__init__" []) (m3 : Meth h a.a3 3 "__lt__" "cmp_to_key.<locals>.K.__lt__" [(Str.ofString "mycmp", cell)]) : KCls w h₀ h C cell
set_option pp.deepTerms false in
set_option pp.maxSteps 2500 in
theorem build_k {L : Addr} {oL : Obj} {Q : Value → Shared → Prop} (G0 : Gs w mg mb h) (hT : KT B h) (hL : h.get? L = some oL) (hB : B ≤ L) (hroom : A.depth < recursionLimit) (hBig : 180 < B)
  (hQ : ∀ C h' tk', Gn B [16] (fun _ => False) h h' → KT B h' → KCls w h h' C (L + 1) → Q (.ref C) ⟨h', g, d, tk', os⟩) : wpAny (model prog w) A (buildClass "K" "cmp_to_key.<locals>.K" [.type "object"] [] kBody kScope [Str.ofString "obj"] 4 (fEnv w L) kPos none) Q E ⟨h, g, d, t, os⟩ := by
  have m1 : typeOf (.type "object") = pure (.type "type") := by kernel_rfl
  have m2 : isSubtype (.type "type") (.type "type") = pure true := by rw [isSubtype_type]; kernel_rfl
  have l1 : typeLookup (.type "dict") "__getitem__" = pure (some (.builtin "dict.__getitem__")) := by rw [typeLookup_type, builtinLookup_eq_fast]; kernel_rfl
  have clo : closureFor kScope (fEnv w L) = pure [(Str.ofString "mycmp", L + 1)] := by rfl
  unfold buildClass
  wtm_at "cw"
  refine newobj_k rfl (by size_fits) fun bT h1 nb kf1 eb => ?_
  wtm_at "cw"
  refine getattrq_prep fun b h2 nb2 kf2 eb2 => ?_
  have eb := kf2 _ _ eb
  wtm_at "cw"
  refine call_prep eb2 fun ns h3 ns0 kf3 e1 => ?_
  have eb := kf3 _ _ eb
  have k03 : Kf h h3 := (kf1.trans kf2).trans kf3
  have G2 : Gs w mg mb h2 := G0.kt (Kf.kt (kf1.trans kf2))
  have hns := sys_ne G2 ns0
  have tD : (⟨h3, g, d, t + 1 + 1, os⟩ : Shared).TypeIs (.ref ns) "dict" := ⟨_, e1, rfl⟩
  wtm_at "cw"
  have hT3 : KT B h3 := hT.hard fun b o e _ => k03 b o e
  refine kcode hT3 (Nat.le_trans hB (Nat.le_of_lt (Heap.lt_size (k03 _ _ hL)))) fun c1 P1 h4 tk gr one => ?_
  obtain ⟨ps, htb⟩ := hT3.table
  have eb := gr.keep eb htb (by simp)
  have e1 := gr.keep e1 htb (by simp)
  have gn3 : Gn B [16] (fun _ => False) h h4 := (Gn.kf k03).trans (Gn.grow gr htb (.inl (by simp)))
  have G4 : Gs w mg mb h4 := G0.kt gn3.kt
  have one0 := one
  have e14 := e1
  obtain ⟨ps1, oc1, ot1, of1, om1, om2, om3, om4⟩ := one
  clear tD
  refine wpAny_bind (blt_for (running := _) G4 ?_)
  unfold newBodyFrame
  refine wpAny_bind (wpAny_bind (name_get G4 ?_))
  refine alloc_k rfl (fun fr h5 nf kf5 ef => ?_)
  have G5 : Gs w mg mb h5 := G4.kt (Kf.kt kf5)
  have eb := kf5 _ _ eb
  have e1 := kf5 _ _ e1
  wtm_at "cw"
  refine wpAny_enterFrame G5.lim hroom ?_
  wtm_at "cw"
  refine load_name_k (c1 := c1) (fr := fr) (cell := L + 1) G5 e1 ?_
  wtm_at "cw"
  refine store_k (c1 := c1) (fr := fr) (cell := L + 1) e1 (.inl (by rfl)) (by kernel_rfl) fun h6 k6 e2 => ?_
  have ne : bT ≠ ns := fun q => by subst q; rw [e1] at eb; exact absurd (congrArg Obj.cls (Option.some.inj eb)) (by simp)
  have eb := k6 _ _ ne eb
  have tb6 := (om4.full kf5).gn k6 e1
  have e1 : h6.get? ns = some { cls := .type "dict", data := .dict #[ent w.params "__module__" tk nameV] 1 } := e2.trans (by kernel_rfl)
  clear e2
  wtm_at "cw"
  refine store_k (c1 := c1) (fr := fr) (cell := L + 1) e1 (.inr ⟨by rfl, by decide +kernel⟩) (by kernel_rfl) fun h7 k7 e2 => ?_
  have eb := k7 _ _ ne eb
  have tb7 := tb6.gn k7 e1
  have e1 : h7.get? ns = some { cls := .type "dict", data := .dict #[ent w.params "__module__" tk nameV, ent w.params "__qualname__" (tk + 2) (.str "cmp_to_key.<locals>.K" (tk + 1))] 2 } := e2.trans (by kernel_rfl)
  clear e2
  wtm_at "cw"
  refine store_k (c1 := c1) (fr := fr) (cell := L + 1) e1 (.inr ⟨by rfl, by decide +kernel⟩) (by kernel_rfl) fun h8 k8 e2 => ?_
  have eb := k8 _ _ ne eb
  have tb8 := tb7.gn k8 e1
  have e1 : h8.get? ns = some { cls := .type "dict", data := .dict #[ent w.params "__module__" tk nameV, ent w.params "__qualname__" (tk + 2) (.str "cmp_to_key.<locals>.K" (tk + 1)), ent w.params "__firstlineno__" (tk + 4) (.int 4 (tk + 3))] 3 } := e2.trans (by kernel_rfl)
  clear e2
  wtm_at "cw"
  have kn : KtN ns h2 h8 := fun b o n e t => k8 b o n (k7 b o n (k6 b o n (kf5 _ _ ((Grow.kt gr htb) _ _ (kf3 _ _ e) t))))
  have g58 : Gn B [] (· = ns) h5 h8 := ((Gn.but k6).trans (Gn.but k7)).trans (Gn.but k8)
  refine wpAny_run (codeAny_body (by rfl) (by rfl) (body_k (c1 := c1) (P1 := P1) (fr := fr) (cell := L + 1) (B := B) (TB := []) G2 kn ns0 tb8 (.inr om2) e1 ?_))
  intro h9 tk9 t2 t7 u2 u3 u4 u5 u6 u7 t14 t16 a1 f2 f3 f4 f5 f6 f7 gn9 tb9 e1 ha m2 m3 m4 m5 m6 m7
  have eb := gn9.obj eb ne (notTabled (by simp))
  have e19 := e1
  wtm_at "cw"
  refine alloc_k rfl (fun a8 h10 n8 kf10 e8 => ?_)
  have eb := kf10 _ _ eb
  have e1 := kf10 _ _ e1
  have ha := kf10 _ _ ha
  wtm_at "cw"
  refine store_k (c1 := c1) (fr := fr) (cell := L + 1) e1 (.inr ⟨by rfl, by decide +kernel⟩) (by kernel_rfl) fun h11 k11 e2 => ?_
  have eb := k11 _ _ ne eb
  have na : a1 ≠ ns := fun q => by subst q; rw [e1] at ha; exact absurd (congrArg Obj.cls (Option.some.inj ha)) (by simp)
  have ha := k11 _ _ na ha
  have n8s : a8 ≠ ns := fun q => by subst q; rw [e1] at e8; exact absurd (congrArg Obj.cls (Option.some.inj e8)) (by simp)
  have e8 := k11 _ _ n8s e8
  have tb11 := (tb9.full kf10).gn k11 e1
  have g911 : Gn B [] (· = ns) h9 h11 := (Gn.kf kf10).trans (Gn.but k11)
  have e1 : h11.get? ns = some { cls := .type "dict", data := .dict #[ent w.params "__module__" tk (.str "cpy313.functools" t2), ent w.params "__qualname__" (tk + 2) (.str "cmp_to_key.<locals>.K" (tk + 1)), ent w.params "__firstlineno__" (tk + 4) (.int 4 (tk + 3)), ent w.params "__slots__" t7 (.ref a1), ent w.params "__init__" u2 (.ref f2), ent w.params "__lt__" u3 (.ref f3), ent w.params "__gt__" u4 (.ref f4), ent w.params "__eq__" u5 (.ref f5), ent w.params "__le__" u6 (.ref f6), ent w.params "__ge__" u7 (.ref f7), ent w.params "__hash__" t14 .none, ent w.params "__static_attributes__" (tk9 + 1) (.ref a8)] 12 } := e2.trans (by kernel_rfl)
  clear e2
  wtm_at "cw"
  have m2 := m2.gn g911 e19
  have m3 := m3.gn g911 e19
  have m4 := m4.gn g911 e19
  have m5 := m5.gn g911 e19
  have m6 := m6.gn g911 e19
  have m7 := m7.gn g911 e19
  have g411 : Gn B [] (· = ns) h4 h11 := ((Gn.kf kf5).trans g58).trans (gn9.trans g911)
  have ns00 : h.get? ns = none := by
    cases q : h.get? ns with
    | none => rfl
    | some o => have z := kf2 _ _ (kf1 _ _ q); rw [ns0] at z; cases z
  have gAll : Gn B [16] (fun _ => False) h h11 := (gn3.any.trans (g411.more (by simp))).start (fun b q => by subst q; exact ns00)
  have one11 : KOne B h11 c1 P1 := one0.gnN g411 (notFields e14) tb11 hBig
  have G11 := G0.kt gAll.kt
  refine call_type3 (P := fun C h' tk' => (∀ b o, h11.get? b = some o → h'.get? b = some o) ∧ KCls w h h' C (L + 1)) (fun C h' tk' p => by obtain ⟨_, z⟩ := p; cases z with | mk ns ts as n0 hne e1 e2 e3 m1 m2 => exact ⟨_, e2, rfl⟩) (fun A' Q' E' k => tn hns ?_ ⟨_, e8, rfl⟩ e1 eb ha G11.k5 (third_none w) (fun C ns' mD h' kf _ nn hne e1' e2' e3' => k C h' _ ⟨kf, ?_⟩)) ?_
  · intro a ha
    simp only [List.mem_cons, List.not_mem_nil, or_false] at ha
    rcases ha with rfl | rfl | rfl | rfl | rfl | rfl
    · obtain ⟨_, _, e, _⟩ := m2; exact ⟨_, e, rfl⟩
    · obtain ⟨_, _, e, _⟩ := m3; exact ⟨_, e, rfl⟩
    · obtain ⟨_, _, e, _⟩ := m4; exact ⟨_, e, rfl⟩
    · obtain ⟨_, _, e, _⟩ := m5; exact ⟨_, e, rfl⟩
    · obtain ⟨_, _, e, _⟩ := m6; exact ⟨_, e, rfl⟩
    · obtain ⟨_, _, e, _⟩ := m7; exact ⟨_, e, rfl⟩
  · exact .mk ns' ⟨tk, t2, tk + 4, tk + 3, t7, u2, u3, u4, u5, u6, u7, t14, tk9 + 1, tk9 + 1 + 1, t, tk + 1⟩ ⟨a1, f2, f3, f4, f5, f6, f7, a8, mD, bT⟩ (by
      cases q : h.get? ns' with
      | none => rfl
      | some o => rcases gAll _ _ id q with z | ⟨_, _, _, _, _, z⟩ <;> (rw [nn] at z; cases z)) hne e1' e2' e3' (m2.full (Gn.kf (B := B) (TB := []) kf)) (m3.full (Gn.kf (B := B) (TB := []) kf))
  · intro C h' tk' p
    wtm_at "cw"
    exact hQ C h' tk' (gAll.trans (Gn.kf p.1)) (.inr ⟨c1, P1, (one11.gn (Gn.kf p.1) (tb11.full p.1) hBig)⟩) p.2
end
end
section
section
variable {prog : Program} {w : World} {A : Around} {E : Value → Shared → Prop} {h : Heap} {g : Array GenState} {d : Drawn} {t : Nat} {os : OsState} {mg mb : Str → Option Value} {B : Nat} {TB : List Addr}
theorem KCls.keep {h₀ h h' : Heap} {C cell : Addr} {N : Addr → Prop} (x : KCls w h₀ h C cell) (k : ∀ b o, ¬ N b → ¬ tabled o → h.get? b = some o → h'.get? b = some o) (kc : ∀ v q, h.CodeRec v q → h'.CodeRec v q) (hN : ∀ b o, N b → h.get? b = some o → (∃ es n, o.data = .dict es n) ∧ h₀.get? b ≠ none) : KCls w h₀ h' C cell := by
  cases x with
  | mk ns ts as n0 hne e1 e2 e3 m2 m3 =>
    have nd : ∀ b o, h.get? b = some o → (∀ es n, o.data ≠ .dict es n) → ¬ N b := fun b o e d n => by obtain ⟨⟨es, m, z⟩, _⟩ := hN b o n e; exact d _ _ z
    refine .mk ns ts as n0 hne (k _ _ (fun n => (hN _ _ n e1).2 n0) (notTabled (by simp)) e1) (k _ _ (nd _ _ e2 (by simp)) (notTabled (by simp)) e2) (k _ _ (nd _ _ e3 (by simp)) (notTabled (by simp)) e3) ?_ ?_
    · obtain ⟨ct, c', e, r⟩ := m2; exact ⟨ct, c', k _ _ (nd _ _ e (by simp)) (notTabled (by simp)) e, kc _ _ r⟩
    · obtain ⟨ct, c', e, r⟩ := m3; exact ⟨ct, c', k _ _ (nd _ _ e (by simp)) (notTabled (by simp)) e, kc _ _ r⟩
theorem clsbuilder {env : Env} {Q : Unit → Shared → Prop} (G : Gs w mg mb h) (he : env.builtins = builtinsNs) (hq : Q () ⟨h, g, d, t, os⟩) : wpAny (model prog w) A (buildClassGuard env) Q E ⟨h, g, d, t, os⟩ := by
  unfold buildClassGuard
  rw [he]
  refine wpAny_bind (wpAny_nsGet G.b ?_)
  rw [(G.bb _ (by decide +kernel)).trans PyProof.Rows.Boot.«__build_class__»]
  exact wpAny_pure hq
theorem load_object {L : Addr} {Q : Value → Shared → Prop} (G : Gs w mg mb h) (hq : Q (.type "object") ⟨h, g, d, t, os⟩) : wpAny (model prog w) A (eval (.Name "object" ⟨4, 12, 4, 18⟩) (fEnv w L)) Q E ⟨h, g, d, t, os⟩ := by
  obtain ⟨v', l, r⟩ := G.glo (X := fun _ => True) (env := fEnv w L) (x := Str.ofString "object") (by rfl) (by rfl)
  cases r
  exact wpAny_Name (look_wp (by rfl) l hq) (by rfl)
set_option pp.deepTerms false in
set_option pp.maxSteps 2500 in
theorem cls_stmt {L : Addr} {mL : Str → Option Value} {Q : Flow → Shared → Prop} (G0 : Gs w mg mb h) (hT : KT B h) (hL : h.Ns L mL) (hB : B ≤ L) (hroom : A.depth < recursionLimit) (hBig : 180 < B)
  (hQ : ∀ C h' tk', (∀ b o, b ≠ L → ¬ tabled o → h.get? b = some o → h'.get? b = some o) → Gn B [16] (· = L) h h' → KT B h' → KCls w h h' C (L + 1) → h'.Ns L (fun y => if y = "K" then some (.ref C) else mL y) → Q .next ⟨h', g, d, tk', os⟩) :
  wpAny (model prog w) A (exec (.ClassDef "K" [.Name "object" ⟨4, 12, 4, 18⟩] [] kBody [] [] kScope none "K" [Str.ofString "obj"] kPos) (fEnv w L)) Q E ⟨h, g, d, t, os⟩ := by
  rw [arm_exec_ClassDef]
  refine wpAny_bind (show wpAny _ _ (pure []) _ _ _ from wpAny_pure ?_)
  refine wpAny_bind (wpAny_standAt (wpAny_bind (clsbuilder G0 (by rfl) ?_)))
  refine wpAny_bind (wpAny_holding ?_)
  have ea : ∀ (Q' : Args → Shared → Prop), Q' ⟨[.type "object"], []⟩ ⟨h, g, d, t, os⟩ → wpAny (model prog w) A (evalArgs (.builtin "__build_class__") false (backTo kPos (starEach [.Name "object" ⟨4, 12, 4, 18⟩] (fEnv w L))) (backToKw kPos (keywordEach [] (fEnv w L)))) Q' E ⟨h, g, d, t, os⟩ := by
    intro Q' q
    show wpAny _ _ (evalArgs (.builtin "__build_class__") false [(false, eval (.Name "object" ⟨4, 12, 4, 18⟩) (fEnv w L))] []) _ _ _
    have hev : ∀ (Q' : Value → Shared → Prop) (E' : Value → Shared → Prop), Q' (.type "object") ⟨h, g, d, t, os⟩ → wpAny (model prog w) A (eval (.Name "object" ⟨4, 12, 4, 18⟩) (fEnv w L)) Q' E' ⟨h, g, d, t, os⟩ := fun Q' E' q => load_object G0 q
    generalize eval (.Name "object" ⟨4, 12, 4, 18⟩) (fEnv w L) = ev at hev ⊢
    unfold evalArgs
    repeat (first | (with_reducible refine hev _ _ ?_) | (with_reducible refine wpAny_bind ?_) | (with_reducible refine wpAny_pure ?_) | (with_reducible refine wpAny_holding ?_) | ((with_reducible apply wpAny_ite_false); (focus (rfl; done))) | ((with_reducible apply wpAny_ite_true); (focus (rfl; done))) | wp_delta)
    exact q
  refine wpAny_bind (ea _ ?_)
  refine wpAny_bind (wpAny_standAt (wpAny_holding ?_))
  obtain ⟨oL, esL, epL, eL, dL, rL⟩ := id hL
  refine build_k G0 hT eL hB hroom hBig fun C h1 tk1 gn1 kt1 kc1 => ?_
  refine wpAny_bind (show wpAny _ _ (pure (Value.ref C)) _ _ _ from wpAny_pure ?_)
  have ne : ∀ b o, h.get? b = some o → ¬ tabled o → h1.get? b = some o := fun b o e n => gn1.obj e id n
  have hL1 : h1.Ns L mL := ⟨oL, esL, epL, ne _ _ eL (fun t => by obtain ⟨_, vs, z⟩ := t; rw [dL] at z; cases z), dL, rL⟩
  have eL1 := ne _ _ eL (fun t => by obtain ⟨_, vs, z⟩ := t; rw [dL] at z; cases z)
  refine wpAny_bind (wpAny_standAt (wpAny_bind (wpAny_bindName (wpAny_storeName_local (by rfl) hL1 (fun h2 n2 s2 => wpAny_pure ?_) (by rfl)))))
  have k2 : ∀ b o, b ≠ L → h1.get? b = some o → h2.get? b = some o := fun b o n e => (s2.2 b n).trans e
  have soft : ∀ o, h1.get? L = some o → ¬ hard o := fun o e => by rw [eL1] at e; cases e; exact dict_soft (.inl ⟨_, _, dL⟩)
  have g2 : Gn B [] (· = L) h1 h2 := Gn.but k2
  refine hQ C h2 _ (fun b o n t e => k2 b o n (gn1.obj e id t)) (gn1.any.trans (g2.more (by simp))) (kt1.hard (fun b o e hh => k2 b o (fun q => by subst q; exact soft _ e hh) e)) ?_ n2
  have hNf : ∀ a o vs, h1.get? a = some o → o.data = .fields vs → ¬ a = L := fun a o vs e1 e2 q => by subst q; rw [eL1] at e1; cases e1; rw [dL] at e2; cases e2
  exact kc1.keep (N := (· = L)) (fun b o n _ e => k2 b o n e) (fun v q r => g2.code r hNf) (fun b o n e => by subst n; rw [eL1] at e; cases e; exact ⟨⟨_, _, dL⟩, fun z => by rw [eL] at z; cases z⟩)
-- cmp_to_key, called
theorem ctk_call {m : Value} {Q : Value → Shared → Prop} (G : Gs w mg mb h) (hT : KT B h) (hB : B ≤ h.objs.size) (hBig : 180 < B) (hroom : A.depth + 2 ≤ 990)
    (hQ : ∀ h₀ C cell h' tk', Gn B [16] (fun _ => False) h h' → KT B h' → KCls w h₀ h' C cell → h'.IsCell cell (some m) → Q (.ref C) ⟨h', g, d, tk', os⟩) :
    wpAny (model prog w) A (call (.ref 21) [m]) Q E ⟨h, g, d, t, os⟩ := by
  have l21 : (hd.heap_39 w.params).lookup 21 = some (objAt w 21) := by rfl
  have hob : (objAt w 21).data = .func (fdAt w 21) := by rfl
  have hcode : h.CodeRec (fdAt w 21).code (fdAt w 21).qualname := ⟨20, objAt w 20, _, _, by rfl, G.at (by rfl) (by intro h; cases h), by rfl, by rfl⟩
  refine wpAny_call (codeAny_call_cells (o := objAt w 21) (fd := fdAt w 21) (body := bodyAt w 21) (binds := [(Str.ofString "mycmp", m)]) (by show A.depth < 1000; lia) (G.at l21 (by intro h; cases h)) hob G.lim hcode (by rfl) (by kernel_rfl) (by rfl) ?_ ?_ (by rfl) (by rfl) (by rfl))
  · intro x hx
    simp only [List.mem_singleton] at hx
    subst hx
    exact .inr ⟨by rfl, by rfl⟩
  · intro s₁ Y
    obtain ⟨h1, tk, rfl⟩ := Y.toInCall.same
    have kf : Kf h h1 := Y.toInCall.keep
    have G1 : Gs w mg mb h1 := G.kt (Kf.kt kf)
    have hT1 : KT B h1 := hT.hard fun b o e _ => kf b o e
    have hc := Y.cell (Str.ofString "mycmp") (h.objs.size + 1) (by rfl)
    rw [show bindC (callEnvC (fdAt w 21) h.objs.size 21).kindOf [(Str.ofString "mycmp", m)] (fun _ => none) (Str.ofString "mycmp") = some m from by rfl] at hc
    have hns := Y.toInCall.ns
    rw [body21, cmpBody_eq]
    refine wpAny_execs_cons (cls_stmt (L := h.objs.size) G1 hT1 hns hB ?_ hBig fun C h2 tk2 k2 g2 kt2 kc2 n2 => ?_)
    · show A.depth + 1 < 1000; lia
    have gAll : Gn B [16] (fun _ => False) h h2 := ((Gn.kf kf).trans g2).start (fun b q => by subst q; exact Heap.get?_none_of_le (Nat.le_refl _))
    have hcell : h2.IsCell (h.objs.size + 1) (some m) := by
      obtain ⟨o, e, dd⟩ := hc
      exact ⟨o, k2 _ _ (Nat.succ_ne_self _) (fun t => by obtain ⟨_, vs, z⟩ := t; rw [dd] at z; cases z) e, dd⟩
    refine wpAny_execs_cons (wpAny_Return_some (wpAny_Name (look_wp (v := .ref C) (by rfl) (.loc (by rfl) n2 (by simp)) ?_) (by rfl)))
    exact hQ _ C (h.objs.size + 1) h2 _ gAll kt2 kc2 hcell
end
end
section
section
variable {prog : Program} {w : World} {A : Around} {E : Value → Shared → Prop} {h : Heap} {g : Array GenState} {d : Drawn} {t : Nat} {os : OsState} {mg mb : Str → Option Value} {B : Nat} {TB : List Addr}
noncomputable abbrev kData (C ns : Addr) : ClassData := { name := "K", bases := [.type "object"], mro := [.ref C, .type "object"], ns := ns, qualname := "cmp_to_key.<locals>.K", hasDict := false, slotNames := ["obj"] }
noncomputable abbrev kObj (C ns : Addr) (k : KTok) (a : KAdr) : Obj := { cls := .type "type", data := .cls (kData C ns), slots := #[some (.ref a.bT), none, some (.str "K" k.t17), some (.str "cmp_to_key.<locals>.K" k.t4), some (.builtin "object.__new__"), some (.bool false)] }
noncomputable abbrev nsObj (w : World) (k : KTok) (a : KAdr) : Obj := { cls := .type "dict", data := .dict #[ent w.params "__module__" k.t1 (.str "cpy313.functools" k.t2), ent w.params "__firstlineno__" k.t5 (.int 4 k.t6), ent w.params "__slots__" k.t7 (.ref a.a1), ent w.params "__init__" k.t8 (.ref a.a2), ent w.params "__lt__" k.t9 (.ref a.a3), ent w.params "__gt__" k.t10 (.ref a.a4), ent w.params "__eq__" k.t11 (.ref a.a5), ent w.params "__le__" k.t12 (.ref a.a6), ent w.params "__ge__" k.t13 (.ref a.a7), ent w.params "__hash__" k.t14 .none, ent w.params "__static_attributes__" k.t15 (.ref a.a8), ent w.params "obj" (k.tk + 1) (.ref a.mD), ent w.params "__doc__" (k.tk + 2) .none] 3 }
noncomputable abbrev nsEs (w : World) (k : KTok) (a : KAdr) : Array DictEntry := #[ent w.params "__module__" k.t1 (.str "cpy313.functools" k.t2), ent w.params "__firstlineno__" k.t5 (.int 4 k.t6), ent w.params "__slots__" k.t7 (.ref a.a1), ent w.params "__init__" k.t8 (.ref a.a2), ent w.params "__lt__" k.t9 (.ref a.a3), ent w.params "__gt__" k.t10 (.ref a.a4), ent w.params "__eq__" k.t11 (.ref a.a5), ent w.params "__le__" k.t12 (.ref a.a6), ent w.params "__ge__" k.t13 (.ref a.a7), ent w.params "__hash__" k.t14 .none, ent w.params "__static_attributes__" k.t15 (.ref a.a8), ent w.params "obj" (k.tk + 1) (.ref a.mD), ent w.params "__doc__" (k.tk + 2) .none]
end
end
section
theorem frag_all {K : Frag} {h : Heap} (all : ∀ p ∈ K, h.get? p.1 = some p.2) : K.In h ∧ ∀ p ∈ K, K.lookup p.1 = some p.2 := by
  have f : ∀ (K : Frag), (∀ p ∈ K, h.get? p.1 = some p.2) → ∀ a o, K.lookup a = some o → h.get? a = some o := by
    intro K
    induction K with
    | nil => intro _ a o e; cases e
    | cons p K ih =>
      intro all a o e
      obtain ⟨b, x⟩ := p
      rw [List.lookup_cons] at e
      split at e
      · rename_i q
        cases e
        have : a = b := by simpa using q
        subst this
        exact all _ (.head _)
      · exact ih (fun p m => all p (.tail _ m)) a o e
  have g : ∀ (K : Frag) (p : Addr × Obj), p ∈ K → ∃ o, K.lookup p.1 = some o := by
    intro K
    induction K with
    | nil => intro p m; cases m
    | cons q K ih =>
      intro p m
      obtain ⟨b, x⟩ := q
      rw [List.lookup_cons]
      split
      · exact ⟨_, rfl⟩
      · rename_i z
        rcases List.mem_cons.mp m with e | m
        · subst e; simp at z
        · exact ih p m
  refine ⟨fun a o e => f K all a o e, fun p m => ?_⟩
  obtain ⟨o, e⟩ := g K p m
  have z := f K all _ _ e
  rw [all p m] at z
  rw [e, z]
noncomputable abbrev mObj (C : Addr) (k : KTok) : Obj := { cls := .type "member_descriptor", data := .fields #[.str "obj" k.tk, .ref C, .builtin "proto.slot", .builtin "proto.slot#set", .int 0 0] }
-- what a frag says of K
structure KFr (w : World) (K : Frag) (C ns : Addr) (k : KTok) (a : KAdr) (fi fl : FuncData) : Prop where
  c : K.lookup C = some (kObj C ns k a)
  n : K.lookup ns = some (nsObj w k a)
  m : K.lookup a.mD = some (mObj C k)
  i : K.lookup a.a2 = some { cls := .type "function", data := .func fi }
  l : K.lookup a.a3 = some { cls := .type "function", data := .func fl }
section
variable {w : World} {K : Frag} {C ns : Addr} {k : KTok} {a : KAdr} {fi fl : FuncData}
theorem KFr.own (f : KFr w K C ns k a fi fl) {n : Str} : findIn K (.ref C) n = (match nsIn K ns n with | some (some v) => some (some v) | some none => (match (some (fastBuiltinOwn "object" n) : Option (Option Value)) with | some (some v) => some (some v) | some none => some none | none => none) | none => none) := by
  unfold findIn
  dsimp only
  rw [f.c]
  show alongIn K n [.ref C, .type "object"] = _
  unfold alongIn ownIn
  dsimp only
  rw [f.c]
  show (match nsIn K ns n with | some (some v) => some (some v) | some none => alongIn K n [.type "object"] | none => none) = _
  cases nsIn K ns n with
  | none => rfl
  | some v => cases v <;> rfl
theorem KFr.nsIn (f : KFr w K C ns k a fi fl) {n : Str} : nsIn K ns n = (match (nsEs w k a).toList.find? (·.key.isStr n) with
      | some e => some (some e.val)
      | none => if (nsEs w k a).toList.any (·.refKey) then none else some none) := by
  unfold PySem.W.nsIn
  rw [f.n]
  rfl
theorem KFr.init (f : KFr w K C ns k a fi fl) : findIn K (.ref C) "__init__" = some (some (.ref a.a2)) := by rw [f.own, f.nsIn]; kernel_rfl
theorem KFr.lt (f : KFr w K C ns k a fi fl) : findIn K (.ref C) "__lt__" = some (some (.ref a.a3)) := by rw [f.own, f.nsIn]; kernel_rfl
theorem KFr.obj (f : KFr w K C ns k a fi fl) : findIn K (.ref C) "obj" = some (some (.ref a.mD)) := by rw [f.own, f.nsIn]; kernel_rfl
theorem KFr.ga (f : KFr w K C ns k a fi fl) : findIn K (.ref C) "__getattribute__" = some (some (.builtin "object.__getattribute__")) := by rw [f.own, f.nsIn]; kernel_rfl
theorem KFr.gx (f : KFr w K C ns k a fi fl) : findIn K (.ref C) "__getattr__" = some none := by rw [f.own, f.nsIn]; kernel_rfl
theorem KFr.sa (f : KFr w K C ns k a fi fl) : findIn K (.ref C) "__setattr__" = some (some (.builtin "object.__setattr__")) := by rw [f.own, f.nsIn]; kernel_rfl
theorem KFr.cls (f : KFr w K C ns k a fi fl) : clsIn K C = some (kData C ns) := by unfold clsIn; rw [f.c]
theorem KFr.over (f : KFr w K C ns k a fi fl) : plainOver K C = true := by unfold plainOver; rw [f.cls]; rfl
theorem KFr.mty (f : KFr w K C ns k a fi fl) : typeIn K (.ref a.mD) = some (.type "member_descriptor") := by unfold typeIn; dsimp only; rw [f.m]; rfl
theorem KFr.ity (f : KFr w K C ns k a fi fl) : typeIn K (.ref a.a2) = some (.type "function") := by unfold typeIn; dsimp only; rw [f.i]; rfl
theorem KFr.lty (f : KFr w K C ns k a fi fl) : typeIn K (.ref a.a3) = some (.type "function") := by unfold typeIn; dsimp only; rw [f.l]; rfl
theorem KFr.cty (f : KFr w K C ns k a fi fl) : typeIn K (.ref C) = some (.type "type") := by unfold typeIn; dsimp only; rw [f.c]; rfl
theorem KFr.mget (f : KFr w K C ns k a fi fl) : specialIn K (.ref a.mD) "__get__" = some (some (.builtin "member_descriptor.__get__")) := by unfold specialIn; rw [f.mty]; kernel_rfl
theorem KFr.mset (f : KFr w K C ns k a fi fl) : takesIn K (.ref a.mD) = some true := by unfold takesIn specialIn; rw [f.mty]; kernel_rfl
theorem KFr.fobj (f : KFr w K C ns k a fi fl) {od : Option Obj} : findObj K C od "obj" = some (.bind (.builtin "member_descriptor.__get__") (.ref a.mD)) := by
  unfold findObj
  rw [f.cls, f.obj]
  show (Option.bind (specialIn K (.ref a.mD) "__get__") fun get => _) = _
  rw [f.mget]
  show (Option.bind (takesIn K (.ref a.mD)) fun data => _) = _
  rw [f.mset]
  rfl
theorem KFr.taker (f : KFr w K C ns k a fi fl) : takerIn K C "obj" = some (some (.ref a.mD)) := by
  unfold takerIn
  rw [f.obj]
  show (takesIn K (.ref a.mD)).map _ = _
  rw [f.mset]; rfl
theorem KFr.slot (f : KFr w K C ns k a fi fl) : slotIn K a.mD C = some 0 := by
  unfold slotIn recIn
  rw [f.m, f.cls]
  show (if (_ && _ && _ && ([Value.ref C, .type "object"]).contains (.ref C) && _) = true then _ else _) = _
  have : ([Value.ref C, .type "object"]).contains (.ref C) = true := by simp
  rw [this]
  rfl
theorem KFr.makes (f : KFr w K C ns k a fi fl) : makesIn K C = true := by
  unfold makesIn
  rw [f.c]
  have e1 : ([Value.ref C, .type "object"]).contains (.ref C) = true := by simp
  have e2 : specialIn K (.ref C) "__call__" = some (some (.builtin "type.__call__")) := by unfold specialIn; rw [f.cty]; kernel_rfl
  have e3 : instIn K (.ref C) (.type "type") = some true := by unfold instIn; rw [f.cty]; kernel_rfl
  show (_ && _ && _ && _ && ([Value.ref C, .type "object"]).contains (.ref C) && _ && (specialIn K (.ref C) "__call__" == some (some (.builtin "type.__call__"))) && (instIn K (.ref C) (.type "type") == some true)) = true
  rw [e1, e2, e3]
  kernel_rfl
end
end
section
section
variable {prog : Program} {w : World} {A : Around} {E : Value → Shared → Prop} {h : Heap} {g : Array GenState} {d : Drawn} {t : Nat} {os : OsState} {mg mb : Str → Option Value}
-- a def, called, that has no cells of its own
theorem code_def {R : Result → Shared → Prop} {f : Addr} {fd : FuncData} {body : List Stmt} {vals : List Value} {binds : List (Str × Value)} (hroom : A.depth < recursionLimit) (ho : h.get? f = some { cls := .type "function", data := .func fd }) (hlim : h.NoLimit) (hcd : h.CodeRec fd.code fd.qualname)
    (hbody : fd.body = .stmts body) (hbind : bindArgs fd ⟨vals, []⟩ = pure binds) (hcell : ∀ x ∈ fd.scope.names, x.2 ≠ .cell) (hloc : ∀ x ∈ binds, fd.scope.names.lookup x.1 = some .local)
    (hx : ∀ h₁ tk, Kf h h₁ → h₁.Ns h.objs.size (fun x => binds.reverse.lookup x) → wpAny (model prog w) (A.deeper (callEnv fd h.objs.size f)) (execs body (callEnv fd h.objs.size f)) (fun fl s' => R (.ok (.ret (match fl with | .ret v => v | _ => .none))) s') (fun _ _ => False) ⟨h₁, g, d, tk, os⟩)
    (hco : fd.scope.isCoroutine = false) (hgen : fd.scope.isGenerator = false) (hk : fd.scope.kind = .function) : codeAny (model prog w) A (.call (.ref f) ⟨vals, []⟩) R ⟨h, g, d, t, os⟩ := by
  refine codeAny_call_function hroom ho rfl hco hgen hbody hcd ?_
  rw [hbind]
  refine wpAny_pure (wpAny_newFunctionEnv hcell hloc (fun h₀ hns₀ hsb₀ => ?_) hk)
  have kf : Kf h h₀ := fun b o e => hsb₀.extBut b o (Nat.ne_of_lt (Heap.lt_size e)) (Heap.get?_push_of_some _ e)
  exact ⟨hlim.keeps kf, codeAny_func (wpAny_mono (hx h₀ _ kf hns₀) (fun _ _ z => z) (fun _ _ z => z.elim))⟩
noncomputable abbrev fdInit (ct c' : Value) : FuncData := fdOf "__init__" "cmp_to_key.<locals>.K.__init__" (mArgs 2) (.stmts (mBody 2)) (mScope 2) [] ct c'
noncomputable abbrev fdLt (cell : Addr) (ct c' : Value) : FuncData := fdOf "__lt__" "cmp_to_key.<locals>.K.__lt__" (mArgs 3) (.stmts (mBody 3)) (mScope 3) [(Str.ofString "mycmp", cell)] ct c'
theorem mBody2 : mBody 2 = [.Assign [.Attribute (.Name "self" ⟨9, 12, 9, 16⟩) "obj" ⟨9, 12, 9, 20⟩] (.Name "obj" ⟨9, 23, 9, 26⟩) ⟨9, 12, 9, 26⟩] := by rfl
-- K(x)
theorem inst_call {K : Frag} {C ns : Addr} {k : KTok} {a : KAdr} {fl : FuncData} {ct c' : Value} {x : Value} {Q : Value → Shared → Prop} (hroom : A.depth + 4 ≤ 990) (hlim : h.NoLimit)
    (X : K.In h) (f : KFr w K C ns k a (fdInit ct c') fl) (hcd : h.CodeRec c' "cmp_to_key.<locals>.K.__init__")
    (hQ : ∀ I dI h' tk, Kf h h' → h.get? I = none → h'.get? I = some { cls := .ref C, dict := some dI, data := .plain, slots := #[some x] } → h'.get? dI = some emptyDict → Q (.ref I) ⟨h', g, d, tk, os⟩) :
    wpAny (model prog w) A (call (.ref C) [x]) Q E ⟨h, g, d, t, os⟩ := by
  refine wpAny_call (make_core (makes_of X f.makes) (looks_findIn X f.init) (fun self => bind_fn X self f.ity) (.inl rfl) ?_)
  have k1 : Kf h ((h.push emptyDict).push (instObj C h.objs.size)) := fun b o e => Heap.get?_push_of_some _ (Heap.get?_push_of_some _ e)
  have eD : ((h.push emptyDict).push (instObj C h.objs.size)).get? h.objs.size = some emptyDict := Heap.get?_push_of_some _ (Heap.get?_push_size _ rfl)
  have eI : ((h.push emptyDict).push (instObj C h.objs.size)).get? (h.objs.size + 1) = some (instObj C h.objs.size) := by
    have := Heap.get?_push_size (h.push emptyDict) (o := instObj C h.objs.size) rfl
    rwa [Heap.size_push] at this
  have hz : ((h.push emptyDict).push (instObj C h.objs.size)).objs.size = h.objs.size + 2 := by rw [Heap.size_push, Heap.size_push]
  refine code_def (fd := fdInit ct c') (body := mBody 2) (binds := [(Str.ofString "self", .ref (h.objs.size + 1)), (Str.ofString "obj", x)]) ?_ (k1 _ _ (X _ _ f.i)) (hlim.keeps k1) (hcd.keeps k1) rfl (by kernel_rfl) (show ∀ x ∈ (mScope 2).names, x.2 ≠ .cell by decide +kernel) (fun y m => by
      simp only [List.mem_cons, List.not_mem_nil, or_false] at m
      rcases m with rfl | rfl <;> rfl) (fun h1 tk kf hns => ?_) (by rfl) (by rfl) (by rfl)
  · show A.depth + (Code.builtin "type.__call__" ⟨[.ref C, x], []⟩).weight < 1000
    have : (Code.builtin "type.__call__" ⟨[.ref C, x], []⟩).weight = 1 := by kernel_rfl
    lia
  rw [hz] at hns ⊢
  rw [mBody2]
  have kAll : Kf h h1 := Kf.trans k1 kf
  have X1 : K.In h1 := X.keeps kAll
  have F : Fr h (h.objs.size + 2) h1 _ := ⟨hns, kAll, Nat.le_add_right _ _⟩
  refine wpAny_execs_cons (plainObj_wpAny_Assign_Attribute ?_ (by rfl))
  refine wpAny_Name (look_wp (v := x) (by rfl) (.loc (by rfl) hns (by rfl)) ?_) (by rfl)
  refine wpAny_Name (look_wp (v := .ref (h.objs.size + 1)) (by rfl) (.loc (by rfl) hns (by rfl)) ?_) (by rfl)
  have I : InstAt h1 (h.objs.size + 1) (instObj C h.objs.size) C (some emptyDict) := ⟨kf _ _ eI, rfl, rfl, kf _ _ eD⟩
  refine set_plain (E := fun _ _ => False) X1 I f.sa ?_
  refine osa_descr KF.slot_mset X1 I f.over f.taker f.mty ?_
  have nI : h.get? (h.objs.size + 1) = none := Heap.get?_none_of_le (Nat.le_succ _)
  have nD : h.get? h.objs.size = none := Heap.get?_none_of_le (Nat.le_refl _)
  refine slot_set (i := 0) (pre := []) (post := [(h.objs.size, emptyDict)]) (s := ⟨h1, g, d, tk + 1, os⟩) F ?_ X1 I f.slot (by decide) (fun _ m => nomatch m) ?_ rfl rfl fun h2 F2 N2 => ?_
  · intro p m
    simp only [List.nil_append, List.mem_cons, List.not_mem_nil, or_false] at m
    rcases m with rfl | rfl
    · exact ⟨kf _ _ eI, by simp, nI⟩
    · exact ⟨kf _ _ eD, by simp, nD⟩
  · intro p m
    simp only [List.mem_cons, List.not_mem_nil, or_false] at m
    subst m
    simp
  · have z1 := (N2 _ (.head _)).1
    have z2 := (N2 _ (.tail _ (.head _))).1
    refine wpAny_execs_nil ⟨rfl, ?_⟩
    exact hQ (h.objs.size + 1) h.objs.size h2 _ F2.keep nI z1 z2
end
end
section
theorem mBody3 : mBody 3 = [.Return (some (.Compare (.Call (.Name "mycmp" ⟨12, 19, 12, 24⟩) [.Attribute (.Name "self" ⟨12, 25, 12, 29⟩) "obj" ⟨12, 25, 12, 33⟩, .Attribute (.Name "other" ⟨12, 35, 12, 40⟩) "obj" ⟨12, 35, 12, 44⟩] [] ⟨12, 19, 12, 45⟩) [.Lt] [.Constant (.int 0) 0 ⟨12, 48, 12, 49⟩] ⟨12, 19, 12, 49⟩)) ⟨12, 12, 12, 49⟩] := by rfl
section
variable {prog : Program} {w : World} {A : Around} {E : Value → Shared → Prop} {h : Heap} {g : Array GenState} {d : Drawn} {t : Nat} {os : OsState} {mg mb : Str → Option Value}
-- an instance of K
noncomputable abbrev kInst (C dI : Addr) (v : Value) : Obj := { cls := .ref C, dict := some dI, data := .plain, slots := #[some v] }
theorem inst_get {K : Frag} {C ns I dI : Addr} {k : KTok} {a : KAdr} {fi fl : FuncData} {v : Value} {ex : Bool} {Q : Value → Shared → Prop} (X : K.In h) (f : KFr w K C ns k a fi fl) (hI : h.get? I = some (kInst C dI v)) (hD : h.get? dI = some emptyDict) (hv : handedOut v = pure v) (hq : Q v ⟨h, g, d, t + 1, os⟩) :
    wpAny (model prog w) A (getAttr (.ref I) "obj" ex) Q E ⟨h, g, d, t, os⟩ := by
  have I' : InstAt h I (kInst C dI v) C (some emptyDict) := ⟨hI, rfl, rfl, hD⟩
  refine get_bind X I' f.ga f.fobj f.gx ?_
  refine wpAny_call (slot_get X I' f.slot (by rfl) ?_)
  show wpAny _ _ (handedOut v) _ _ _
  rw [hv]
  exact wpAny_pure hq
theorem Ev.attrK {XX : Addr → Prop} {I0 : Heap → Prop} {kr : Room} {env : Env} {e : Expr} {apos : Pos} {K : Frag} {C ns Ia dI : Addr} {k : KTok} {a : KAdr} {fi fl : FuncData} {i : Int} {ti : Tok} (hb : attributeBase e "obj" env (eval e env) = eval e env) (he : Ev prog w XX Kf I0 kr env e (.val (.ref Ia)))
    (st : Stab Kf I0) (X : ∀ h, I0 h → K.In h) (f : KFr w K C ns k a fi fl) (hI : ∀ h, I0 h → h.get? Ia = some (kInst C dI (.int i ti))) (hD : ∀ h, I0 h → h.get? dI = some emptyDict) : Ev prog w XX Kf I0 kr env (.Attribute e "obj" apos) (.int i) := .mk fun A s Q E o i0 q => by
  rw [arm_eval_Attribute, hb]
  refine wpAny_bind (he.run A s _ _ o i0 fun v h1 t1 k1 rv => ?_)
  first | obtain ⟨_, rfl⟩ := rv.int_inv | obtain ⟨_, rfl⟩ := rv.str_inv | obtain rfl := rv.val_inv | obtain rfl := rv.bool_inv | cases rv
  have i1 := st _ _ k1 i0
  refine wpAny_bind (wpAny_standAt (wpAny_bind (wpAny_holding (inst_get (X _ i1) f (hI _ i1) (hD _ i1) rfl ?_))))
  refine wpAny_bind (wpAny_letTemporaryGo (wpAny_pure ?_))
  exact q _ h1 _ k1 (.int i ti)
end
end
section
section
variable {prog : Program} {w : World} {A : Around} {E : Value → Shared → Prop} {h : Heap} {g : Array GenState} {d : Drawn} {t : Nat} {os : OsState} {mg mb : Str → Option Value}
theorem k_lt {XX : Addr → Prop} {I0 : Heap → Prop} {n : Nat} {K : Frag} {C ns m cell Ia Ja dI dJ : Addr} {k : KTok} {a : KAdr} {fi fm : FuncData} {ct c' : Value} {om : Obj} {i j r : Int} {ti tj : Tok} {Q : Bool → Shared → Prop} (o : OkA ⟨n + 2, none, false⟩ A) (st0 : Stab Kf I0) (i0 : I0 h) (hlim : h.NoLimit) (X : K.In h)
    (f : KFr w K C ns k a fi (fdLt cell ct c')) (hcd : h.CodeRec c' "cmp_to_key.<locals>.K.__lt__") (hcell : h.IsCell cell (some (.ref m))) (hm : h.get? m = some om) (hmd : om.data = .func fm)
    (hI : h.get? Ia = some (kInst C dI (.int i ti))) (hD : h.get? dI = some emptyDict) (hJ : h.get? Ja = some (kInst C dJ (.int j tj))) (hDJ : h.get? dJ = some emptyDict)
    (hc : Ca prog w XX Kf I0 ⟨n, none, false⟩ (.ref m) [.int i, .int j] (.int r)) (hQ : ∀ h' tk, Kf h h' → Q (decide (r < 0)) ⟨h', g, d, tk, os⟩) :
    wpAny (model prog w) A (keyLt' oneType' (.ref Ia) (.ref Ja)) Q E ⟨h, g, d, t, os⟩ := by
  have I' : InstAt h Ia (kInst C dI (.int i ti)) C (some emptyDict) := ⟨hI, rfl, rfl, hD⟩
  have hu : A.units < cLine := by
    have z : A.units + 20 * (n + 2) ≤ 9000 := o.units
    show A.units < 9900
    lia
  rw [keyLt'_oneType, oneLt'_eq]
  simp only [if_true]
  refine wpAny_bind (wpAny_cRoomFor hu ?_)
  refine wpAny_bind (ifBound_K X I' f.lt (by unfold isFn; rw [f.lty]; rfl) (wpAny_call (code_def (fd := fdLt cell ct c') (body := mBody 3) (binds := [(Str.ofString "self", .ref Ia), (Str.ofString "other", .ref Ja)]) ?_ (X _ _ f.l) hlim hcd rfl (by kernel_rfl) (show ∀ x ∈ (mScope 3).names, x.2 ≠ .cell by decide +kernel) (fun y m => by
      simp only [List.mem_cons, List.not_mem_nil, or_false] at m
      rcases m with rfl | rfl <;> rfl) (fun h1 tk kf hns => ?_) (by rfl) (by rfl) (by rfl))))
  · have z : A.depth + (n + 2) ≤ 990 := o.depth
    show A.depth < 1000
    lia
  rw [mBody3]
  have st : Stab Kf (fun hh => Kf h1 hh) := fun _ _ k1 i1 => Kf.trans i1 k1
  have nsk : ∀ hh, Kf h1 hh → hh.Ns h.objs.size (fun x => [(Str.ofString "self", Value.ref Ia), (Str.ofString "other", .ref Ja)].reverse.lookup x) := fun hh k1 => by
    obtain ⟨o, es, ep, a, b, r⟩ := hns; exact ⟨o, es, ep, k1 _ _ a, b, r⟩
  have o1 : OkA ⟨n + 1, none, false⟩ (A.deeper (callEnv (fdLt cell ct c') h.objs.size a.a3)) := o.deeper
  have ev : Ev prog w XX Kf (fun hh => Kf h1 hh) ⟨n + 1, none, false⟩ (callEnv (fdLt cell ct c') h.objs.size a.a3) (.Compare (.Call (.Name "mycmp" ⟨12, 19, 12, 24⟩) [.Attribute (.Name "self" ⟨12, 25, 12, 29⟩) "obj" ⟨12, 25, 12, 33⟩, .Attribute (.Name "other" ⟨12, 35, 12, 40⟩) "obj" ⟨12, 35, 12, 44⟩] [] ⟨12, 19, 12, 45⟩) [.Lt] [.Constant (.int 0) 0 ⟨12, 48, 12, 49⟩] ⟨12, 19, 12, 49⟩) (.bool (decide (r < 0))) := by
    refine Ev.cmp Rel.kf st (a := .int r) (b := .int 0) (by rfl) ?_ (Ev.int Rel.kf) (Op.ltI Rel.kf)
    refine Ev.callF Rel.kf st (fa := m) (ob := om) (fd := fm) (as := [.int i, .int j]) ?_ hmd (fun hh k1 => k1 _ _ (kf _ _ hm)) (fun _ => rfl) ?_ ?_
    · exact Ev.name Rel.kf (by rfl) (by rfl) fun hh k1 => ⟨.ref m, .free (c := cell) (by rfl) (by rfl) (by rfl) (by obtain ⟨oc, e, dd⟩ := hcell; exact ⟨oc, k1 _ _ (kf _ _ e), dd⟩), .val _⟩
    · refine EvL.cons Rel.kf st (fun _ => rfl) ?_ (EvL.cons Rel.kf st (fun _ => rfl) ?_ (EvL.nil Rel.kf))
      · refine Ev.attrK (by rfl) (Ev.name Rel.kf (by rfl) (by rfl) fun hh k1 => ⟨.ref Ia, .loc (by rfl) (nsk hh k1) (by rfl), .val _⟩) st (fun hh k1 => (X.keeps kf).keeps k1) f (fun hh k1 => k1 _ _ (kf _ _ hI)) (fun hh k1 => k1 _ _ (kf _ _ hD))
      · refine Ev.attrK (by rfl) (Ev.name Rel.kf (by rfl) (by rfl) fun hh k1 => ⟨.ref Ja, .loc (by rfl) (nsk hh k1) (by rfl), .val _⟩) st (fun hh k1 => (X.keeps kf).keeps k1) f (fun hh k1 => k1 _ _ (kf _ _ hJ)) (fun hh k1 => k1 _ _ (kf _ _ hDJ))
    · exact Ca.lift Rel.kf hc (fun hh k1 => st0 _ _ (Kf.trans kf k1) i0) (Nat.le_succ n) (.inl rfl) (by intro z; cases z)
  refine wpAny_execs_cons (wpAny_Return_some (ev.run _ _ _ _ o1 (fun _ _ e => e) fun v h' t' k1 rv => ?_))
  first | obtain ⟨_, rfl⟩ := rv.int_inv | obtain ⟨_, rfl⟩ := rv.str_inv | obtain rfl := rv.val_inv | obtain rfl := rv.bool_inv | cases rv
  exact wpAny_truthy_bool (hQ h' t' (Kf.trans kf k1))
end
end
section
noncomputable def kasRun {α : Type} (lt : Nat → Nat → Bool) : KasT α → α
  | .ret a => a
  | .ask i j k => kasRun lt (k (lt i j))
noncomputable def kasOk {α : Type} (n : Nat) : KasT α → Bool
  | .ret _ => true
  | .ask i j k => decide (i < n) && (decide (j < n) && (kasOk n (k true) && kasOk n (k false)))
theorem kasWp_run {α : Type} {cmp : Nat → Nat → (Bool → Shared → Prop) → Shared → Prop} {lt : Nat → Nat → Bool} {N : Nat} {Inv : Shared → Prop} {Q : α → Shared → Prop}
    (hcmp : ∀ i j (C : Bool → Shared → Prop) s, i < N → j < N → Inv s → (∀ s', Inv s' → C (lt i j) s') → cmp i j C s) : ∀ (T : KasT α), kasOk N T = true → ∀ s, Inv s → (∀ s', Inv s' → Q (kasRun lt T) s') → T.kasWp cmp Q s
  | .ret a, _, s, i, q => q s i
  | .ask i j k, ok, s, iv, q => by
    simp only [kasOk, Bool.and_eq_true, decide_eq_true_eq] at ok
    obtain ⟨h1, h2, h3, h4⟩ := ok
    refine hcmp i j _ s h1 h2 iv fun s' i' => ?_
    have ok' : kasOk N (k (lt i j)) = true := by cases lt i j <;> assumption
    exact kasWp_run hcmp (k (lt i j)) ok' s' i' q
theorem kasOk4 : kasOk 4 (kas_sort 4) = true := by decide +kernel
structure KsAt (hB h' : Heap) (kS a : Addr) (e1 : Nat) (C : Addr) (keys : List Addr) (vs : List Value) : Prop where
  kf : Kf hB h'
  kso : ∃ e, h'.get? kS = some (seqObj "list" (keys.map Value.ref).toArray e)
  ao : h'.get? a = some (seqObj "list" #[] e1)
  ins : ∀ (j : Nat) (I : Addr), keys[j]? = some I → ∃ (v : Value) (dI : Addr), vs[j]? = some v ∧ h'.get? I = some (kInst C dI v) ∧ h'.get? dI = some emptyDict
theorem KsAt.keep {hB h h' : Heap} {kS a : Addr} {e1 : Nat} {C : Addr} {keys : List Addr} {vs : List Value} (x : KsAt hB h kS a e1 C keys vs) (k : Kf h h') : KsAt hB h' kS a e1 C keys vs :=
  ⟨Kf.trans x.kf k, let ⟨e, z⟩ := x.kso; ⟨e, k _ _ z⟩, k _ _ x.ao, fun j I e => let ⟨v, dI, e1, e2, e3⟩ := x.ins j I e; ⟨v, dI, e1, k _ _ e2, k _ _ e3⟩⟩
-- K and its two methods, ready for use
structure KUse (w : World) (h : Heap) (K : Frag) (C ns : Addr) (k : KTok) (a : KAdr) (ci cl : Value × Value) (cell m : Addr) (om : Obj) : Prop where
  x : K.In h
  f : KFr w K C ns k a (fdInit ci.1 ci.2) (fdLt cell cl.1 cl.2)
  lim : h.NoLimit
  ri : h.CodeRec ci.2 "cmp_to_key.<locals>.K.__init__"
  rl : h.CodeRec cl.2 "cmp_to_key.<locals>.K.__lt__"
  cell : h.IsCell cell (some (.ref m))
  hm : h.get? m = some om
theorem KUse.keep {w : World} {h h' : Heap} {K : Frag} {C ns : Addr} {k : KTok} {a : KAdr} {ci cl : Value × Value} {cell m : Addr} {om : Obj} (u : KUse w h K C ns k a ci cl cell m om) (k0 : Kf h h') : KUse w h' K C ns k a ci cl cell m om :=
  ⟨u.x.keeps k0, u.f, u.lim.keeps k0, u.ri.keeps k0, u.rl.keeps k0, let ⟨o, e, d⟩ := u.cell; ⟨o, k0 _ _ e, d⟩, k0 _ _ u.hm⟩
section
variable {prog : Program} {w : World} {A : Around} {E : Value → Shared → Prop} {h hB : Heap} {g : Array GenState} {d : Drawn} {t : Nat} {os : OsState} {mg mb : Str → Option Value}
theorem OkA.in1 {n : Nat} (o : OkA ⟨n + 1, none, false⟩ A) : OkA ⟨n, none, false⟩ A.in1 := by
  have z1 : A.depth + (n + 1) ≤ 990 := o.depth
  have z2 : A.units + 20 * (n + 1) ≤ 9000 := o.units
  exact ⟨(by intro z; cases z), (by show A.depth + n ≤ 990; lia), (by show A.units + 1 + 20 * n ≤ 9000; lia), (by intro l e; cases e)⟩
theorem sort_end {XX : Addr → Prop} {I0 : Heap → Prop} {n : Nat} {K : Frag} {C ns m cell kS a : Addr} {e1 : Nat} {k : KTok} {ka : KAdr} {ci cl : Value × Value} {om : Obj} {fm : FuncData} {keys : List Addr} {vs : List Value} {zs : List Int} {F : Int → Int → Int} {P : Fin → Shared → Prop}
    (o : OkA ⟨n + 2, none, false⟩ A) (st0 : Stab Kf I0) (i0 : I0 hB) (u : KUse w hB K C ns k ka ci cl cell m om) (hmd : om.data = .func fm) (hz : IntsAre vs zs) (h4 : vs.length = 4) (hk4 : keys.length = 4)
    (hc : ∀ i ∈ zs, ∀ j ∈ zs, Ca prog w XX Kf I0 ⟨n, none, false⟩ (.ref m) [.int i, .int j] (.int (F i j)))
    (at0 : KsAt hB h kS a e1 C keys vs) (hka : kS ≠ a) (nS : hB.get? kS = none) (nA : hB.get? a = none)
    (hQ : ∀ h' tk c, Kf hB h' → h'.get? a = some (seqObj "list" ((kasRun (fun i j => decide (F (zs.getD i 0) (zs.getD j 0) < 0)) (kas_sort 4)).toList.map fun i => vs.getD i Value.none).toArray c) → P (.done (.ret .none)) ⟨h', g, d, tk, os⟩) :
    wpAny (model prog w) A (ksk_end a false vs.toArray e1 (.ref kS) (keys.map Value.ref).toArray) P E ⟨h, g, d, t, os⟩ := by
  have hn2 : ¬ vs.toArray.size < 2 := by rw [List.size_toArray, h4]; decide
  unfold ksk_end
  dsimp only
  rw [if_neg Bool.false_ne_true, if_neg hn2, if_neg hn2]
  refine wpAny_bind (kas_kind (T := .ref C) (by rw [List.length_map, hk4]; decide) (fun v hv => ?_) rfl (by simp) ?_)
  · obtain ⟨I, hI, rfl⟩ := List.mem_map.mp hv
    obtain ⟨j, hj⟩ := List.mem_iff_getElem?.mp hI
    obtain ⟨v, dI, _, e2, _⟩ := at0.ins j I hj
    exact (Looks.ld e2).andThen .now
  rw [if_neg Bool.false_ne_true]
  generalize hit : (keys.map Value.ref).toArray.zip vs.toArray = it
  have hsz : it.size = 4 := by rw [← hit, Array.size_zip, List.size_toArray, List.size_toArray, List.length_map, hk4, h4]; rfl
  have hitem : ∀ i I v, keys[i]? = some I → vs[i]? = some v → kas_item it i = (.ref I, v) := by
    intro i I v e1 e2
    have l1 : i < keys.length := (List.getElem?_eq_some_iff.mp e1).1
    have l2 : i < it.size := by rw [hsz]; lia
    have a1 : (keys.map Value.ref)[i]? = some (.ref I) := by rw [List.getElem?_map, e1]; rfl
    unfold kas_item
    have : it[i]? = some (.ref I, v) := by
      rw [← hit]
      rw [List.zip_toArray, List.getElem?_toArray]
      exact List.getElem?_zip_eq_some.mpr ⟨a1, e2⟩
    simp [Array.getD, l2]
    have z := Array.getElem?_eq_some_iff.mp this
    exact z.2
  have hitem2 : ∀ i, (kas_item it i).2 = vs.getD i Value.none := by
    intro i
    by_cases l : i < 4
    · have z1 : keys[i]? = some (keys[i]'(by lia)) := List.getElem?_eq_getElem _
      have z2 : vs[i]? = some (vs[i]'(by lia)) := List.getElem?_eq_getElem _
      rw [hitem i _ _ z1 z2, List.getD_eq_getElem?_getD, z2]; rfl
    · have z2 : vs[i]? = none := List.getElem?_eq_none (by lia)
      have l2 : ¬ i < it.size := by lia
      rw [List.getD_eq_getElem?_getD, z2]
      unfold kas_item
      simp [Array.getD, l2]
  have est : SortSt.mk' oneType' it #[] 7 none = kas_st oneType' it (List.toArray (List.range 4)) := by
    have e := kas_range it
    rw [hsz] at e
    show SortSt.mk' oneType' it #[] 7 none = SortSt.mk' oneType' ((List.toArray (List.range 4)).map (kas_item it)) #[] 7 none
    rw [e]
  have run := kas_runs (prog := prog) (w := w) (A := A) (κ := oneType') (it := it) (n := 4) (E := E) (s := ⟨h, g, d, t, os⟩) (Q := fun _ st' s' => arrOf st' = (kasRun (fun i j => decide (F (zs.getD i 0) (zs.getD j 0) < 0)) (kas_sort 4)).map (kas_item it) ∧ failedOf st' = none ∧ (kasRun (fun i j => decide (F (zs.getD i 0) (zs.getD j 0) < 0)) (kas_sort 4)).size = 4 ∧ ∃ h' tk, s' = ⟨h', g, d, tk, os⟩ ∧ KsAt hB h' kS a e1 C keys vs)
    (G := fun p s' => p = kasRun (fun i j => decide (F (zs.getD i 0) (zs.getD j 0) < 0)) (kas_sort 4) ∧ ∃ h' tk, s' = ⟨h', g, d, tk, os⟩ ∧ KsAt hB h' kS a e1 C keys vs)
    (by decide) (by decide) (fun p' st' s' a1 a2 a3 a4 => ⟨by rw [a2, a4.1], a3, by rw [← a4.1]; exact a1, a4.2⟩)
    (kasWp_run (N := 4) (lt := fun i j => decide (F (zs.getD i 0) (zs.getD j 0) < 0)) (Inv := fun s' => ∃ h' tk, s' = ⟨h', g, d, tk, os⟩ ∧ KsAt hB h' kS a e1 C keys vs) (fun i j CC s1 li lj iv cc => ?_) (kas_sort 4) kasOk4 _ ⟨h, t, rfl, at0⟩ fun s' i' => ⟨rfl, i'⟩)
  · rw [← est] at run
    refine wpAny_bind (wpAny_mono run ?_ fun _ _ e => e)
    rintro ⟨⟨⟩, st'⟩ s' ⟨har, hf, hps, h', tk, rfl, at'⟩
    dsimp only
    obtain ⟨e, ekS⟩ := at'.kso
    have eA := at'.ao
    have hout : (arrOf st').map (·.2) = ((kasRun (fun i j => decide (F (zs.getD i 0) (zs.getD j 0) < 0)) (kas_sort 4)).toList.map fun i => vs.getD i Value.none).toArray := by
      apply Array.toList_inj.mp
      rw [har, Array.map_map, Array.toList_map]
      exact List.map_congr_left fun i _ => hitem2 i
    have s1 := Heap.SameBut.update h' kS (Obj.mapSeq fun _ => (#[] : Array Value))
    have na1 : (h'.update kS (Obj.mapSeq fun _ => (#[] : Array Value))).get? a = some (seqObj "list" #[] e1) := (s1.2 a hka.symm).trans eA
    have s2 := Heap.SameBut.update (h'.update kS (Obj.mapSeq fun _ => (#[] : Array Value))) a (Obj.mapSeq fun _ => (arrOf st').map (·.2))
    obtain ⟨c2, hc2⟩ : ∃ c2, ((h'.update kS (Obj.mapSeq fun _ => (#[] : Array Value))).update a (Obj.mapSeq fun _ => (arrOf st').map (·.2))).get? a = some (seqObj "list" ((arrOf st').map (·.2)) c2) := ⟨_, get?_update_seq na1 fun _ => (arrOf st').map (·.2)⟩
    have hosz : ((arrOf st').map (·.2)).size ≤ sizeLine + 1 := by
      rw [hout, List.size_toArray, List.length_map, Array.length_toList, hps]; decide
    unfold ksk_tail
    dsimp only
    refine wpAny_bind (listUpdate_at ekS rfl ?_ (by rw [List.size_toArray, List.length_map, hk4]; decide) (Nat.zero_le _))
    refine wpAny_bind (wpAny_letGo ?_)
    refine wpAny_bind (seqEpoch_at na1 rfl ?_)
    rw [if_neg Bool.false_ne_true]
    refine wpAny_bind (listUpdate_at na1 rfl ?_ (Nat.zero_le _) hosz)
    rw [hf]
    simp only [bne_self_eq_false, Bool.false_eq_true, if_false]
    rw [hout] at hc2
    refine wpAny_pure (hQ _ _ c2 (fun b o eb => ?_) ?_)
    · exact (s2.2 b (fun q => by rw [q, nA] at eb; cases eb)).trans ((s1.2 b (fun q => by rw [q, nS] at eb; cases eb)).trans (at'.kf b o eb))
    · rw [hout]; exact hc2
  · obtain ⟨h1, tk, rfl, at1⟩ := iv
    obtain ⟨I, hI⟩ : ∃ I, keys[i]? = some I := ⟨_, List.getElem?_eq_getElem (by lia)⟩
    obtain ⟨J, hJ⟩ : ∃ J, keys[j]? = some J := ⟨_, List.getElem?_eq_getElem (by lia)⟩
    obtain ⟨v1, d1, a1, a2, a3⟩ := at1.ins i I hI
    obtain ⟨v2, d2, b1, b2, b3⟩ := at1.ins j J hJ
    have hzl : zs.length = 4 := by have := hz.length; lia
    have zi : zs[i]? = some (zs.getD i 0) := by rw [List.getD_eq_getElem?_getD, List.getElem?_eq_getElem (by lia)]; rfl
    have zj : zs[j]? = some (zs.getD j 0) := by rw [List.getD_eq_getElem?_getD, List.getElem?_eq_getElem (by lia)]; rfl
    obtain ⟨ti, y1⟩ := hz.get i _ zi
    obtain ⟨tj, y2⟩ := hz.get j _ zj
    rw [a1] at y1; cases y1
    rw [b1] at y2; cases y2
    unfold kas_cmp
    rw [hitem i I _ hI a1, hitem j J _ hJ b1]
    have u1 := u.keep at1.kf
    exact k_lt o st0 (st0 _ _ at1.kf i0) u1.lim u1.x u1.f u1.rl u1.cell u1.hm hmd a2 a3 b2 b3 (hc _ (List.mem_of_getElem? zi) _ (List.mem_of_getElem? zj)) fun h2 tk2 k2 => cc _ ⟨h2, tk2, rfl, at1.keep k2⟩
end
end
section
section
variable {prog : Program} {w : World} {A : Around} {E : Value → Shared → Prop} {h hB : Heap} {g : Array GenState} {d : Drawn} {t : Nat} {os : OsState} {mg mb : Str → Option Value}
noncomputable abbrev kasOut (F : Int → Int → Int) (zs : List Int) (vs : List Value) : List Value := (kasRun (fun i j => decide (F (zs.getD i 0) (zs.getD j 0) < 0)) (kas_sort 4)).toList.map fun i => vs.getD i Value.none
theorem sort_rest {XX : Addr → Prop} {I0 : Heap → Prop} {n : Nat} {K : Frag} {C ns m cell kS a : Addr} {e1 : Nat} {k : KTok} {ka : KAdr} {ci cl : Value × Value} {om : Obj} {fm : FuncData} {vs : List Value} {zs : List Int} {F : Int → Int → Int} {P : Fin → Shared → Prop}
    (o : OkA ⟨n + 4, none, false⟩ A) (st0 : Stab Kf I0) (i0 : I0 hB) (u : KUse w hB K C ns k ka ci cl cell m om) (hmd : om.data = .func fm) (hz : IntsAre vs zs) (h4 : vs.length = 4)
    (hc : ∀ i ∈ zs, ∀ j ∈ zs, Ca prog w XX Kf I0 ⟨n, none, false⟩ (.ref m) [.int i, .int j] (.int (F i j)))
    (at0 : KsAt hB h kS a e1 C [] vs) (hka : kS ≠ a) (nS : hB.get? kS = none) (nA : hB.get? a = none)
    (hQ : ∀ h' tk c, Kf hB h' → h'.get? a = some (seqObj "list" (kasOut F zs vs).toArray c) → P (.done (.ret .none)) ⟨h', g, d, tk, os⟩) :
    wpAny (model prog w) A (ksk_rest a (.ref C) false vs.toArray e1 (.ref kS)) P E ⟨h, g, d, t, os⟩ := by
  unfold ksk_rest
  refine wpAny_bind (wpAny_rule ?_)
  rw [List.forIn_toArray]
  refine wpAny_bind (ksk_fold (fun i s' => ∃ h' tk keys, s' = ⟨h', g, d, tk, os⟩ ∧ keys.length = i ∧ KsAt hB h' kS a e1 C keys vs) vs 0 ⟨h, g, d, t, os⟩ ⟨h, t, [], rfl, rfl, at0⟩ ?step ?done)
  case step =>
    rintro j x s' hx ⟨h', tk, keys, rfl, hl, at'⟩
    simp only [Nat.zero_add] at hl ⊢
    have hj : j < vs.length := (List.getElem?_eq_some_iff.mp hx).1
    have u1 := u.keep at'.kf
    refine wpAny_bind (wpAny_attempt (inst_call ?_ u1.lim u1.x u1.f u1.ri fun I dI h2 tk2 k2 nI eI eD => ?_))
    · have z : A.depth + (n + 4) ≤ 990 := o.depth
      lia
    dsimp only
    have at2 := at'.keep k2
    obtain ⟨e, ekS⟩ := at2.kso
    have s1 := Heap.SameBut.update h2 kS (Obj.mapSeq (·.push (.ref I)))
    have hks : (keys.map Value.ref).toArray.push (.ref I) = ((keys ++ [I]).map Value.ref).toArray := by simp
    obtain ⟨c2, hc2⟩ : ∃ c2, (h2.update kS (Obj.mapSeq (·.push (.ref I)))).get? kS = some (seqObj "list" ((keys ++ [I]).map Value.ref).toArray c2) := by
      have z := get?_update_seq ekS (·.push (Value.ref I))
      rw [hks] at z
      exact ⟨_, z⟩
    refine wpAny_bind (listUpdate_at ekS rfl ?_ (by rw [List.size_toArray, List.length_map, hl, sizeLine_eq]; lia) (by rw [hks, List.size_toArray, List.length_map, List.length_append, hl, sizeLine_eq]; simp only [List.length_singleton]; lia))
    have noS : ∀ b C' dd v, h2.get? b = some (kInst C' dd v) → b ≠ kS := fun b C' dd v eb q => by subst q; rw [ekS] at eb; cases eb
    have noD : ∀ b, h2.get? b = some emptyDict → b ≠ kS := fun b eb q => by subst q; rw [ekS] at eb; exact absurd (congrArg Obj.cls (Option.some.inj eb)) (by simp)
    refine wpAny_pure ⟨rfl, _, _, keys ++ [I], rfl, by rw [List.length_append, hl]; rfl, ⟨fun b ob eb => (s1.2 b (fun q => by subst q; rw [nS] at eb; cases eb)).trans (at2.kf b ob eb), ⟨c2, hc2⟩, (s1.2 a hka.symm).trans at2.ao, fun i I' e' => ?_⟩⟩
    by_cases li : i < keys.length
    · rw [List.getElem?_append_left li] at e'
      obtain ⟨v, dv, b1, b2, b3⟩ := at2.ins i I' e'
      exact ⟨v, dv, b1, (s1.2 _ (noS _ _ _ _ b2)).trans b2, (s1.2 _ (noD _ b3)).trans b3⟩
    · rw [List.getElem?_append_right (by lia)] at e'
      have : i - keys.length = 0 := by
        cases q : i - keys.length with
        | zero => rfl
        | succ z => rw [q] at e'; cases e'
      rw [this] at e'
      cases e'
      have : i = j := by lia
      subst this
      exact ⟨x, dI, hx, (s1.2 _ (noS _ _ _ _ eI)).trans eI, (s1.2 _ (noD _ eD)).trans eD⟩
  case done =>
    rintro s' ⟨h', tk, keys, rfl, hl, at'⟩
    obtain ⟨e, ekS⟩ := at'.kso
    refine wpAny_bind (listItems_at ekS rfl ?_)
    exact sort_end (o.le (by simp) (.inl rfl) (by intro z; exact z)) st0 i0 u hmd hz h4 (by lia) hc at' hka nS nA hQ
theorem sort_tree {XX : Addr → Prop} {I0 : Heap → Prop} {n : Nat} {K : Frag} {C ns m cell a : Addr} {c0 : Nat} {k : KTok} {ka : KAdr} {ci cl : Value × Value} {om : Obj} {fm : FuncData} {vs : List Value} {zs : List Int} {F : Int → Int → Int} {P : Fin → Shared → Prop}
    (o : OkA ⟨n + 4, none, false⟩ A) (st0 : Stab Kf I0) (i0 : I0 hB) (u : KUse w hB K C ns k ka ci cl cell m om) (hmd : om.data = .func fm) (hz : IntsAre vs zs) (h4 : vs.length = 4)
    (hc : ∀ i ∈ zs, ∀ j ∈ zs, Ca prog w XX Kf I0 ⟨n, none, false⟩ (.ref m) [.int i, .int j] (.int (F i j)))
    (k0 : Kf hB h) (nA : hB.get? a = none) (ho : h.get? a = some (seqObj "list" vs.toArray c0))
    (hQ : ∀ h' tk c, Kf hB h' → h'.get? a = some (seqObj "list" (kasOut F zs vs).toArray c) → P (.done (.ret .none)) ⟨h', g, d, tk, os⟩) :
    wpAny (model prog w) A (ksk_tree a (.ref C) false) P E ⟨h, g, d, t, os⟩ := by
  have s1 := Heap.SameBut.update h a (Obj.mapSeq fun _ => (#[] : Array Value))
  obtain ⟨e1, ho1⟩ : ∃ e1, (h.update a (Obj.mapSeq fun _ => (#[] : Array Value))).get? a = some (seqObj "list" #[] e1) := ⟨_, get?_update_seq ho fun _ => #[]⟩
  have k1 : Kf hB (h.update a (Obj.mapSeq fun _ => (#[] : Array Value))) := fun b ob eb => (s1.2 b (fun q => by subst q; rw [nA] at eb; cases eb)).trans (k0 b ob eb)
  unfold ksk_tree
  refine wpAny_bind (listItems_at ho rfl ?_)
  refine wpAny_bind (listUpdate_at ho rfl ?_ (by rw [List.size_toArray, h4]; decide) (Nat.zero_le _))
  refine wpAny_bind (seqEpoch_at ho1 rfl ?_)
  refine wpAny_bind (wpAny_newTuple ?_ (by show vs.length ≤ _; rw [h4]; decide))
  refine wpAny_bind (wpAny_newList ?_ (Nat.zero_le _))
  refine wpAny_holding ?_
  have kk : Kf (h.update a (Obj.mapSeq fun _ => (#[] : Array Value))) (((h.update a (Obj.mapSeq fun _ => (#[] : Array Value))).push (seqObj "tuple" vs.toArray 0)).push (seqObj "list" #[] 0)) := fun b ob eb => Heap.get?_push_of_some _ (Heap.get?_push_of_some _ eb)
  refine sort_rest o st0 i0 u hmd hz h4 hc ⟨Kf.trans k1 kk, ⟨0, Heap.get?_push_size _ rfl⟩, kk _ _ ho1, fun j I e => by cases e⟩ ?_ ?_ nA hQ
  · intro q
    have z := Heap.lt_size (Heap.get?_push_of_some (seqObj "tuple" vs.toArray 0) ho1)
    dsimp only at q
    rw [q] at z
    exact absurd z (Nat.lt_irrefl _)
  · cases q : hB.get? ((h.update a (Obj.mapSeq fun _ => (#[] : Array Value))).push (seqObj "tuple" vs.toArray 0)).objs.size with
    | none => rfl
    | some ob => exact absurd (Heap.lt_size (Heap.get?_push_of_some (seqObj "tuple" vs.toArray 0) (k1 _ _ q))) (Nat.lt_irrefl _)
-- sorted, by the class K
theorem sort_key {XX : Addr → Prop} {I0 : Heap → Prop} {n : Nat} {K : Frag} {C ns m cell l : Addr} {k : KTok} {ka : KAdr} {ci cl : Value × Value} {om : Obj} {fm : FuncData} {vs : List Value} {zs : List Int} {F : Int → Int → Int} {Q : Value → Shared → Prop}
    (o : OkA ⟨n + 6, none, false⟩ A) (st0 : Stab Kf I0) (i0 : I0 h) (u : KUse w h K C ns k ka ci cl cell m om) (hmd : om.data = .func fm) (hz : IntsAre vs zs) (h4 : vs.length = 4)
    (hc : ∀ i ∈ zs, ∀ j ∈ zs, Ca prog w XX Kf I0 ⟨n, none, false⟩ (.ref m) [.int i, .int j] (.int (F i j))) (hl : h.IsList l vs.toArray)
    (hQ : ∀ D h' tk c, Kf h h' → h.get? D = none → h'.get? D = some (seqObj "list" (kasOut F zs vs).toArray c) → Q (.ref D) ⟨h', g, d, tk, os⟩) :
    wpAny (model prog w) A (call (.builtin "sorted") [.ref l] [(Str.ofString "key", .ref C)]) Q E ⟨h, g, d, t, os⟩ := by
  refine call_function_entry_kw kind_sorted plain_sorted entry_sorted (ksk_s1 _ _) ?_
  unfold Builtin.«sorted»
  refine wpAny_bind (m := checkCount "sorted" 1 1 _) (wpAny_pure ?_)
  refine wpAny_bind (collect_list hl ?_ (by rw [h4]; decide))
  refine wpAny_bind (wpAny_newList ?_ (by rw [h4]; decide))
  have hsz : ((h.push (seqObj "list" #[] 0)).update h.objs.size (Obj.mapSeq (· ++ vs.toArray))).objs.size = h.objs.size + 1 := by
    rw [Heap.size_update, size_push']
  have hoL : (((h.push (seqObj "list" #[] 0)).update h.objs.size (Obj.mapSeq (· ++ vs.toArray))).push (seqObj "list" vs.toArray 0)).get? (h.objs.size + 1) = some (seqObj "list" vs.toArray 0) := by
    rw [← hsz]; exact Heap.get?_push_size _ rfl
  have keep : Kf h (((h.push (seqObj "list" #[] 0)).update h.objs.size (Obj.mapSeq (· ++ vs.toArray))).push (seqObj "list" vs.toArray 0)) := fun b o q => by
    have hlt : b < h.objs.size := Heap.lt_size q
    rw [Heap.get?_push_ne _ _ _ (by rw [hsz]; exact Nat.ne_of_lt (Nat.lt_succ_of_lt hlt)), Heap.get?_update_ne _ _ _ _ (Nat.ne_of_lt hlt), Heap.get?_push_ne _ _ _ (Nat.ne_of_lt hlt)]
    exact q
  have nL : h.get? (h.objs.size + 1) = none := Heap.get?_none_of_le (Nat.le_succ _)
  show wpAny _ _ _ _ _ ⟨((h.push (seqObj "list" #[] 0)).update h.objs.size (Obj.mapSeq (· ++ vs.toArray))).push (seqObj "list" vs.toArray 0), g, d, t, os⟩
  rw [hsz]
  refine wpAny_bind (wpAny_holding (wpAny_call_entry_kw slot_list_sort ⟨_, hoL, rfl⟩ entry_list_sort ?body (ksk_l1 _ _)))
  case body =>
    rw [ksk_t1]
    refine sort_tree (o.in1.in1) st0 i0 u hmd hz h4 hc keep nL hoL fun h' tk c k' e' => ⟨_, rfl, ?_⟩
    exact wpAny_pure ⟨_, rfl, hQ _ h' tk c k' nL e'⟩
end
end
section
variable {X : Addr → Prop}
-- a lambda's function object stands
noncomputable def LamAt (q : Str) (params : Arguments) (body : Expr) (scope : Scope) (clo : List (Str × Addr)) (f : Addr) (ct c' : Value) (h : Heap) : Prop :=
  h.get? f = some { cls := .type "function", data := .func (fdOf "<lambda>" q params (.expr body) scope clo ct c') } ∧ CRec h c' q
theorem LamAt.kp {q : Str} {params : Arguments} {body : Expr} {scope : Scope} {clo : List (Str × Addr)} {f : Addr} {ct c' : Value} {h h' : Heap} (x : LamAt q params body scope clo f ct c' h) (k : Kp h h') : LamAt q params body scope clo f ct c' h' := by
  refine ⟨?_, x.2.keep fun b o e hc hd => ?_⟩
  · rcases k _ _ x.1 (notTabled (by simp)) with e | ⟨⟨es, n, d⟩, _⟩
    · exact e
    · cases d
  · rcases k _ _ e (notTabled (by rw [hc]; simp)) with e | ⟨⟨es, n, d⟩, _⟩
    · exact e
    · obtain ⟨vs, hd⟩ := hd
      rw [hd] at d; cases d
theorem rho0_look {h : Heap} : ∀ {names : List Str} {as : List D} {vals : List Value} {acc : Rho}, RdL X h as vals → ∀ x d, rho0 acc names as x = some d → (x ∈ names ∧ ∃ v, (names.zip vals).reverse.lookup x = some v ∧ Rd X h d v) ∨ ((names.zip vals).reverse.lookup x = none ∧ acc x = some d)
  | [], _, _, acc, _, x, d, e => .inr ⟨rfl, e⟩
  | y :: ys, _, _, acc, r, x, d, e => by
    cases r with
    | nil => exact .inr ⟨rfl, e⟩
    | @cons a v as vals rv rs =>
    have split : ((y :: ys).zip (v :: vals)).reverse.lookup x = ((ys.zip vals).reverse.lookup x).or (if x = y then some v else none) := by
      rw [List.zip_cons_cons, List.reverse_cons, List.lookup_append, List.lookup_cons]
      by_cases q : x = y
      · simp [q]
      · have : (x == y) = false := by simpa using q
        simp [this, q]
    rw [split]
    rcases rho0_look (acc := upd acc y a) rs x d e with ⟨m, v', e1, r1⟩ | ⟨e1, e2⟩
    · exact .inl ⟨.tail _ m, v', by rw [e1]; rfl, r1⟩
    · rw [e1]
      by_cases q : x = y
      · subst q
        simp [upd] at e2; subst e2
        exact .inl ⟨.head _, v, by simp, rv⟩
      · simp [upd, q] at e2
        exact .inr ⟨by simp [q], e2⟩
section
variable {prog : Program} {w : World} {mg mb : Str → Option Value} {R : Heap → Heap → Prop} {G : Heap → Prop} {h₀ : Heap} {env : Env} {ρ : Rho}
-- a lambda, called
theorem Ca.lam {n : Nat} {fr : Option (List Env)} {cm : Bool} {q : Str} {params : Arguments} {body : Expr} {scope : Scope} {clo : List (Str × Addr)} {f : Addr} {ct c' : Value} {names : List Str} {as : List D} {d : D} (r : Rel R) (hst : Static R G) (hG : ∀ h, G h → Gs w mg mb h)
    (hclo : ∀ x c, clo.lookup x = some c → env.cells.lookup x = some c ∧ scope.names.lookup x = some .free) (hlen : as.length = names.length)
    (hbind : ∀ vals : List Value, vals.length = names.length → bindArgs (fdOf "<lambda>" q params (.expr body) scope clo ct c') ⟨vals, []⟩ = pure (names.zip vals))
    (hloc : ∀ x ∈ names, scope.names.lookup x = some .local) (hcell : ∀ x ∈ scope.names, x.2 ≠ .cell) (hco : scope.isCoroutine = false) (hgen : scope.isGenerator = false) (hk : scope.kind = .function)
    (hx : ∀ h₁ : Heap, Gs w mg mb h₁ → Ev prog w X Kf (St X Kf (Gs w mg mb) h₁ (callEnv (fdOf "<lambda>" q params (.expr body) scope clo ct c') h₁.objs.size f) (rho0 (fun x => if (clo.lookup x).isSome then ρ x else none) names as))
      ⟨n, fr.map (callEnv (fdOf "<lambda>" q params (.expr body) scope clo ct c') h₁.objs.size f :: ·), cm⟩ (callEnv (fdOf "<lambda>" q params (.expr body) scope clo ct c') h₁.objs.size f) body d) :
    Ca prog w X Kf (fun h => St X R G h₀ env ρ h ∧ LamAt q params body scope clo f ct c' h) ⟨n + 1, fr, cm⟩ (.ref f) as d := .mk fun A s Q E vals o i rs hq => by
  obtain ⟨S, LA⟩ := i
  obtain ⟨h, g, dd, t, os⟩ := s
  have GS := hG _ (S.gh r hst)
  have hl : vals.length = names.length := by rw [rs.length]; exact hlen
  refine wpAny_call (kla_callFunE (o := { cls := .type "function", data := .func (fdOf "<lambda>" q params (.expr body) scope clo ct c') }) (fd := fdOf "<lambda>" q params (.expr body) scope clo ct c') (body := body) ?_ LA.1 rfl hco hgen rfl LA.2.rec ?_)
  · have z : A.depth + (n + 1) ≤ 990 := o.depth
    show A.depth < 1000
    lia
  rw [hbind vals hl]
  refine wpAny_pure (wpAny_newFunctionEnv hcell (fun y m => hloc _ (List.of_mem_zip m).1) (fun h1 hns hsb => ?_) hk)
  have kf : Kf h h1 := fun b o e => hsb.extBut b o (Nat.ne_of_lt (Heap.lt_size e)) (Heap.get?_push_of_some _ e)
  refine ⟨GS.lim.keeps kf, kla_codeExpr ?_⟩
  refine (hx h GS).run _ _ _ _ o.deeper ⟨kf, GS, ⟨_, hns, fun x d' e kx => ?_⟩, fun x c e => ?_, Nat.le_refl _, fun x y c e1 e2 => S.apart x y c (hclo _ _ e1).1 (hclo _ _ e2).1, S.up.kp kf.kp⟩ fun v h'' t'' k rv => hq v h'' t'' (Kf.trans kf k) rv
  · rcases rho0_look (rs.ks kf.ks) x d' e with ⟨_, v, e1, r1⟩ | ⟨_, e2⟩
    · exact ⟨v, e1, r1⟩
    · exfalso
      cases z : clo.lookup x with
      | none => rw [z] at e2; cases e2
      | some c =>
        have z1 := (hclo x c z).2
        have z2 : scope.names.lookup x = some .local := kx
        rw [z1] at z2; cases z2
  · have e' : clo.lookup x = some c := e
    obtain ⟨v₀, ic, fd⟩ := S.cel x c (hclo _ _ e').1
    refine ⟨v₀, cell_kd kf.kp.kd ic, fun d' ed => ?_⟩
    rcases rho0_look (rs.ks kf.ks) x d' ed with ⟨m, _, _, _⟩ | ⟨_, e2⟩
    · exfalso
      have z1 := (hclo x c e').2
      rw [hloc x m] at z1; cases z1
    · rw [e'] at e2
      obtain ⟨v, e3, r3⟩ := fd d' (by simpa using e2)
      exact ⟨v, e3, r3.ks kf.ks⟩
end
end
section
variable {X : Addr → Prop}
set_option hygiene false
local macro_rules | `(tactic| wtm_at "rr") => `(tactic| first | exact Rel.kf | assumption | exact RL.rel _)
local macro_rules | `(tactic| wtm_at "R") => `(tactic| first | show (_ : Type) | with_reducible wtm_at "rr")
local macro_rules | `(tactic| wtm_at "num") => `(tactic| first | decide | omega | (simp only [sizeLine]; omega) | (simp only [len_app, len_item, List.length_cons, List.length_nil, List.length_append, List.length_map, sizeLine]; omega))
local macro_rules | `(tactic| wtm_at "size") => `(tactic| first | exact leSize (by decide +kernel) | wtm_at "num")
local macro_rules | `(tactic| wtm_at "it") => `(tactic| first | wtm_at "R" | ((with_reducible show _ = some _); first | rfl | assumption) | exact fun _ _ => rfl | wtm_at "num")
local macro_rules | `(tactic| wtm_at "sz") => `(tactic| first
  | wtm_at "R" | exact fun _ S => S.up | exact fun _ _ => rfl
  | (((with_reducible apply leLen) <;> first | decide | omega))
  | (first | apply ltLen 16 (by decide +kernel) | apply ltLen 4 (by decide +kernel) | apply ltLen 3 (by decide +kernel) | apply ltLen 2 (by decide +kernel)); omega
  | wtm_at "size")
local macro_rules | `(tactic| wtm_at "gs") => `(tactic| first | exact fun _ S => S.up | wtm_at "g" | (intro h; cases h) | wtm_at "size")
local macro_rules | `(tactic| wtm_at "gd") => `(tactic| first | rfl | decide | wtm_at "g" | assumption)
local macro_rules | `(tactic| wtm_at "g") => `(tactic| first
  | show (_ : Type)
  | (with_reducible first | exact Rel.kf | assumption | exact RL.rel _)
  | (with_reducible apply St.stab; wtm_at "rr")
  | ((with_reducible refine' Ev.nm ..) <;> first | wtm_at "R" | rfl | assumption)
  | ((with_reducible first | refine' Op.intI .. | refine' Op.cmpI .. | refine' Op.cmpS ..) <;> first | wtm_at "R" | rfl)
  | ((with_reducible first | refine' Ev.int .. | refine' Ev.str .. | refine' Ev.bool .. | refine' Ev.neg .. | refine' Ev.bin .. | refine' Pt.none .. | refine' Pt.some .. | refine' EvL.nil ..) <;> wtm_at "g")
  | ((with_reducible first | refine' EvL.cons .. | refine' Tr.cmp ..) <;> first | exact fun _ => rfl | wtm_at "g" | with_unfolding_all rfl)
  | ((with_reducible first | refine' Op.addS .. | refine' Op.addL .. | refine' Op.itemS ..) <;> wtm_at "sz")
  | ((with_reducible refine' Op.mul ..) <;> first | wtm_at "R" | mul_fits)
  | ((with_reducible refine' Op.powl ..) <;> first | wtm_at "R" | decide +kernel | (simp only [Int.reduceToNat, Int.reducePow]; try rfl))
  | ((with_reducible first | refine' Op.divp .. | refine' Op.modp .. | refine' Op.itemT .. | refine' Op.itemL ..) <;> wtm_at "it")
  | ((with_reducible refine' Op.itemLn ..) <;> wtm_at "it")
  | ((with_reducible first | refine' Ev.tupD .. | refine' Ev.listD .. | refine' Ev.sliceS ..) <;> wtm_at "gs")
  | ((with_reducible refine' Ev.sliceL ..) <;> wtm_at "gs")
  | ((with_reducible first | refine' Ev.sub .. | refine' Ev.ifI ..) <;> wtm_at "g")
  | ((with_reducible refine' Ev.ifS ..) <;> wtm_at "g")
  | ((with_reducible refine' Ev.ifL ..) <;> wtm_at "g")
  | ((with_reducible refine' Ev.ifT ..) <;> wtm_at "gd")
  | ((with_reducible refine' Ev.ifF ..) <;> wtm_at "gd"))
local macro_rules | `(tactic| wtm_at "sto") => `(tactic| first
  | ((refine' Sto.loc ..) <;> first | wtm_at "R" | rfl)
  | ((refine' Sto.cel ..) <;> first | wtm_at "R" | rfl | omega))
local macro_rules | `(tactic| wtm_at "fn") => `(tactic| ((with_reducible refine' Ev.glo ..) <;> first | wtm_at "R" | exact Gs.stat | exact GL.stat kb | exact fun _ g => g | exact fun _ g => g.1 | rfl))
section
variable {X : Addr → Prop}
-- what the listing's own way gives
noncomputable def listText (m : Int) : Str :=
  Txt.item (Str.ofString "?pc?d?b?-?l?s???") (m / 4096 % 16) ++ Txt.item (Str.ofString "-r") (m / 64 % 8 / 4) ++ Txt.item (Str.ofString "-w") (m / 64 % 8 / 2 % 2) ++ Txt.item (Str.ofString "-xSs") (m / 64 % 8 % 2 + m / 512 / 4 % 2 * 2) ++
    Txt.item (Str.ofString "-r") (m / 8 % 8 / 4) ++ Txt.item (Str.ofString "-w") (m / 8 % 8 / 2 % 2) ++ Txt.item (Str.ofString "-xSs") (m / 8 % 8 % 2 + m / 512 / 2 % 2 * 2) ++
    Txt.item (Str.ofString "-r") (m / 1 % 8 / 4) ++ Txt.item (Str.ofString "-w") (m / 1 % 8 / 2 % 2) ++ Txt.item (Str.ofString "-xTt") (m / 1 % 8 % 2 + m / 512 / 1 % 2 * 2)
section
variable {prog : Program} {w : World} {mg mb : Str → Option Value} {k : Nat} {fr : Option (List Env)}
local macro_rules | `(tactic| wtm_at "g") => `(tactic| first
  | ((with_reducible refine' Ev.ifT ..) <;> first | rfl | decide | wtm_at "g")
  | ((with_reducible refine' Ev.ifF ..) <;> first | rfl | decide | wtm_at "g"))
theorem ca_listing {m : Int} : Ca prog w X Kf (fun h => Gs w mg mb h ∧ Up X h) ⟨k + 1, fr, true⟩ (.ref 149) [.int m] (.str (listText m)) := by
  refine Ca.at 149 148 (names := ["mode"]) (by rfl) (by intro h; cases h) (by rfl) (by rfl) (by rfl) (by rfl) (by intro h; cases h) ⟨_, _, by rfl, by rfl⟩ (by rfl) (by rfl) (by rfl) (by rfl) (by kernel_rfl) (by rfl)
    (len1 (fun a0 => by kernel_rfl)) (fun n => allC (.inl (by rfl)) all0) fun h₀ G => ?_
  refine Ex.of_eq (d := ?Zdd) ?Zbd ?Zfin
  case Zbd =>
    ((refine' Ex.cons (Ex1.assign (by wtm_at "rr") ?Ze ?Zs ?Zw) ?_); (case Zw => rfl); (case Ze => wtm_at "g"); (case Zs => wtm_at "sto"))
    refine' Ex.cons (Ex1.fors Rel.kf rfl ?Ze (.tup _) ?Zf ?Zlo) ?_
    case Zf => intro _; rfl
    case Ze => wtm_at "g"
    case Zlo =>
      refine' Lo.turn (by rfl) (As.name ?Zs1) ?Zx1 ?Zl1
      case Zs1 => wtm_at "sto"
      case Zx1 =>
        ((refine' Ex.cons (Ex1.assign (by wtm_at "rr") ?Ze ?Zs ?Zw) ?_); (case Zw => rfl); (case Ze => wtm_at "g"); (case Zs => wtm_at "sto"))
        ((refine' Ex.cons (Ex1.assign (by wtm_at "rr") ?Ze ?Zs ?Zw) ?_); (case Zw => rfl); (case Ze => wtm_at "g"); (case Zs => wtm_at "sto"))
        exact Ex.nil
      refine' Lo.turn (by rfl) (As.name ?Zs2) ?Zx2 ?Zl2
      case Zs2 => wtm_at "sto"
      case Zx2 =>
        ((refine' Ex.cons (Ex1.assign (by wtm_at "rr") ?Ze ?Zs ?Zw) ?_); (case Zw => rfl); (case Ze => wtm_at "g"); (case Zs => wtm_at "sto"))
        ((refine' Ex.cons (Ex1.assign (by wtm_at "rr") ?Ze ?Zs ?Zw) ?_); (case Zw => rfl); (case Ze => wtm_at "g"); (case Zs => wtm_at "sto"))
        exact Ex.nil
      refine' Lo.turn (by rfl) (As.name ?Zs3) ?Zx3 ?Zl3
      case Zs3 => wtm_at "sto"
      case Zx3 =>
        ((refine' Ex.cons (Ex1.assign (by wtm_at "rr") ?Ze ?Zs ?Zw) ?_); (case Zw => rfl); (case Ze => wtm_at "g"); (case Zs => wtm_at "sto"))
        ((refine' Ex.cons (Ex1.assign (by wtm_at "rr") ?Ze ?Zs ?Zw) ?_); (case Zw => rfl); (case Ze => wtm_at "g"); (case Zs => wtm_at "sto"))
        exact Ex.nil
      exact Lo.end_ (by rfl)
    refine' Ex.ret (Ex1.ret Rel.kf ?Zr)
    case Zr => wtm_at "g"
  case Zfin => rfl
end
end
section
variable {X : Addr → Prop}
noncomputable def drop1 (x : Str) (i : Int) : Str := Txt.slice x none (some i) ++ Txt.slice x (some (i + 1)) none
theorem len_drop1 {x : Str} {i : Int} (h0 : 0 ≤ i) (h1 : i < x.length) : (drop1 x i).length = x.length - 1 := by
  unfold drop1
  have a := len_slice_to (x := x) h0 (by lia)
  have b := len_slice_from (x := x) (i := i + 1) (by lia) (by lia)
  rw [len_app]
  lia
section
variable {prog : Program} {w : World} {mg mb : Str → Option Value} {k : Nat} {fr : Option (List Env)}
noncomputable def order (n : Int) : Str :=
  let l0 := Str.ofString "ugos"
  let l1 := drop1 l0 (n % 4)
  let l2 := drop1 l1 (n / 4 % 3)
  let l3 := drop1 l2 (n / 4 / 3 % 2)
  Str.ofString "" ++ Txt.item l0 (n % 4) ++ Txt.item l1 (n / 4 % 3) ++ Txt.item l2 (n / 4 / 3 % 2) ++ Txt.item l3 (n / 4 / 3 / 2 % 1)
theorem ca_order {n : Int} : Ca prog w X Kf (fun h => Gs w mg mb h ∧ Up X h) ⟨k + 1, fr, true⟩ (.ref 156) [.int n] (.str (order n)) := by
  refine Ca.at 156 155 (names := ["number"]) (by rfl) (by intro h; cases h) (by rfl) (by rfl) (by rfl) (by rfl) (by intro h; cases h) ⟨_, _, by rfl, by rfl⟩ (by rfl) (by rfl) (by rfl) (by rfl) (by kernel_rfl) (by rfl)
    (len1 (fun a0 => by kernel_rfl)) (fun n => allC (.inl (by rfl)) all0) fun h₀ G => ?_
  have z0 : (Str.ofString "ugos").length = 4 := by decide +kernel
  have e0 : (Str.ofString "").length = 0 := by decide +kernel
  have z1 : (drop1 (Str.ofString "ugos") (n % 4)).length = 3 := by rw [len_drop1 (by lia) (by lia), z0]
  have z2 : (drop1 (drop1 (Str.ofString "ugos") (n % 4)) (n / 4 % 3)).length = 2 := by rw [len_drop1 (by lia) (by lia), z1]
  have z3 : (drop1 (drop1 (drop1 (Str.ofString "ugos") (n % 4)) (n / 4 % 3)) (n / 4 / 3 % 2)).length = 1 := by rw [len_drop1 (by lia) (by lia), z2]
  have z4 : (drop1 (drop1 (drop1 (drop1 (Str.ofString "ugos") (n % 4)) (n / 4 % 3)) (n / 4 / 3 % 2)) (n / 4 / 3 / 2 % 1)).length = 0 := by rw [len_drop1 (by lia) (by lia), z3]
  have y1 := len_slice_to (x := Str.ofString "ugos") (i := n % 4) (by lia) (by lia)
  unfold drop1 at z1 z2 z3 z4
  refine Ex.of_eq (d := ?Zdd) ?Zbd ?Zfin
  case Zbd =>
    ((refine' Ex.cons (Ex1.assign (by wtm_at "rr") ?Ze ?Zs ?Zw) ?_); (case Zw => rfl); (case Ze => wtm_at "g"); (case Zs => wtm_at "sto"))
    ((refine' Ex.cons (Ex1.assign (by wtm_at "rr") ?Ze ?Zs ?Zw) ?_); (case Zw => rfl); (case Ze => wtm_at "g"); (case Zs => wtm_at "sto"))
    refine' Ex.cons (Ex1.fors Rel.kf rfl ?Ze (.tup _) ?Zf ?Zlo) ?_
    case Zf => intro _; rfl
    case Ze => wtm_at "g"
    case Zlo =>
      refine' Lo.turn (by rfl) (As.name ?Zs1) ?Zx1 ?Zl1
      case Zs1 => wtm_at "sto"
      case Zx1 =>
        ((refine' Ex.cons (Ex1.assign (by wtm_at "rr") ?Ze ?Zs ?Zw) ?_); (case Zw => rfl); (case Ze => wtm_at "g"); (case Zs => wtm_at "sto"))
        ((refine' Ex.cons (Ex1.assign (by wtm_at "rr") ?Ze ?Zs ?Zw) ?_); (case Zw => rfl); (case Ze => wtm_at "g"); (case Zs => wtm_at "sto"))
        ((refine' Ex.cons (Ex1.assign (by wtm_at "rr") ?Ze ?Zs ?Zw) ?_); (case Zw => rfl); (case Ze => wtm_at "g"); (case Zs => wtm_at "sto"))
        exact Ex.nil
      refine' Lo.turn (by rfl) (As.name ?Zs2) ?Zx2 ?Zl2
      case Zs2 => wtm_at "sto"
      case Zx2 =>
        ((refine' Ex.cons (Ex1.assign (by wtm_at "rr") ?Ze ?Zs ?Zw) ?_); (case Zw => rfl); (case Ze => wtm_at "g"); (case Zs => wtm_at "sto"))
        ((refine' Ex.cons (Ex1.assign (by wtm_at "rr") ?Ze ?Zs ?Zw) ?_); (case Zw => rfl); (case Ze => wtm_at "g"); (case Zs => wtm_at "sto"))
        ((refine' Ex.cons (Ex1.assign (by wtm_at "rr") ?Ze ?Zs ?Zw) ?_); (case Zw => rfl); (case Ze => wtm_at "g"); (case Zs => wtm_at "sto"))
        exact Ex.nil
      refine' Lo.turn (by rfl) (As.name ?Zs3) ?Zx3 ?Zl3
      case Zs3 => wtm_at "sto"
      case Zx3 =>
        ((refine' Ex.cons (Ex1.assign (by wtm_at "rr") ?Ze ?Zs ?Zw) ?_); (case Zw => rfl); (case Ze => wtm_at "g"); (case Zs => wtm_at "sto"))
        ((refine' Ex.cons (Ex1.assign (by wtm_at "rr") ?Ze ?Zs ?Zw) ?_); (case Zw => rfl); (case Ze => wtm_at "g"); (case Zs => wtm_at "sto"))
        ((refine' Ex.cons (Ex1.assign (by wtm_at "rr") ?Ze ?Zs ?Zw) ?_); (case Zw => rfl); (case Ze => wtm_at "g"); (case Zs => wtm_at "sto"))
        exact Ex.nil
      refine' Lo.turn (by rfl) (As.name ?Zs4) ?Zx4 ?Zl4
      case Zs4 => wtm_at "sto"
      case Zx4 =>
        ((refine' Ex.cons (Ex1.assign (by wtm_at "rr") ?Ze ?Zs ?Zw) ?_); (case Zw => rfl); (case Ze => wtm_at "g"); (case Zs => wtm_at "sto"))
        ((refine' Ex.cons (Ex1.assign (by wtm_at "rr") ?Ze ?Zs ?Zw) ?_); (case Zw => rfl); (case Ze => wtm_at "g"); (case Zs => wtm_at "sto"))
        ((refine' Ex.cons (Ex1.assign (by wtm_at "rr") ?Ze ?Zs ?Zw) ?_); (case Zw => rfl); (case Ze => wtm_at "g"); (case Zs => wtm_at "sto"))
        exact Ex.nil
      exact Lo.end_ (by rfl)
    refine' Ex.ret (Ex1.ret Rel.kf ?Zr)
    case Zr => wtm_at "g"
  case Zfin => rfl
end
end
section
variable {X : Addr → Prop}
noncomputable abbrev dI (l : List Int) : D := .list (l.map D.int)
noncomputable abbrev dR (l : List (List Int)) : D := .list (l.map dI)
theorem dI_at {l : List Int} {i : Int} (h0 : 0 ≤ i) (h1 : i < l.length) : (l.map D.int)[i.toNat]? = some (.int (l.getD i.toNat 0)) := by
  have : i.toNat < l.length := by lia
  simp [List.getD, this]
theorem dR_at {l : List (List Int)} {i : Int} (h0 : 0 ≤ i) (h1 : i < l.length) : (l.map dI)[i.toNat]? = some (dI (l.getD i.toNat [])) := by
  have : i.toNat < l.length := by lia
  simp [List.getD, this]
-- the place of an item
noncomputable def idx (l : List Int) (a : Int) : Nat := l.findIdx (· == a)
theorem idx_at {l : List Int} {a : Int} (h : a ∈ l) : l[idx l a]? = some a ∧ ∀ m, m < idx l a → l[m]? ≠ some a := by
  have hlt : idx l a < l.length := List.findIdx_lt_length_of_exists ⟨a, h, by simp⟩
  constructor
  · have := List.findIdx_getElem (w := hlt)
    rw [List.getElem?_eq_getElem hlt]
    exact congrArg some (beq_iff_eq.mp this)
  · intro m hm e
    have := List.not_of_lt_findIdx (p := (· == a)) hm
    have hml : m < l.length := Nat.lt_trans hm hlt
    rw [List.getElem?_eq_getElem hml] at e
    simp at e
    simp [e] at this
-- a class likes a file better than whom it has
noncomputable def likes (worth : List (List Int)) (way : List Int) (one : Int) (p : Int) : Bool :=
  decide ((worth.getD p.toNat []).getD one.toNat 0 > (worth.getD p.toNat []).getD (idx way p) 0)
section
variable {prog : Program} {w : World} {mg mb : Str → Option Value} {k : Nat} {fr : Option (List Env)}
noncomputable def stableB (way : List Int) (wishes worth : List (List Int)) : Bool :=
  (List.range 4).all fun one => ((wishes.getD one []).take (idx (wishes.getD one []) (way.getD one 0))).all fun p => !likes worth way one p
noncomputable def forBody : List Stmt → List Stmt
  | .For _ _ b _ _ :: _ => b
  | _ => []
noncomputable def ifTest : List Stmt → Expr
  | .If t _ _ _ :: _ => t
  | _ => .Constant .none 0 ⟨0, 0, 0, 0⟩
noncomputable def forIter : List Stmt → Expr
  | .For _ it _ _ _ :: _ => it
  | _ => .Constant .none 0 ⟨0, 0, 0, 0⟩
noncomputable def forTarget : List Stmt → Expr
  | .For t _ _ _ _ :: _ => t
  | _ => .Constant .none 0 ⟨0, 0, 0, 0⟩
structure StableOk (way : List Int) (wishes worth : List (List Int)) : Prop where
  way4 : way.length = 4
  wishes4 : wishes.length = 4
  worth4 : worth.length = 4
  row4 : ∀ p : Nat, p < 4 → (worth.getD p []).length = 4
  has : ∀ i : Nat, i < 4 → way.getD i 0 ∈ wishes.getD i []
  len : ∀ i : Nat, i < 4 → (wishes.getD i []).length = 4
  in4 : ∀ i : Nat, i < 4 → ∀ p ∈ wishes.getD i [], 0 ≤ p ∧ p < 4 ∧ p ∈ way
theorem idx_lt {l : List Int} {a : Int} (h : a ∈ l) : idx l a < l.length := List.findIdx_lt_length_of_exists ⟨a, h, by simp⟩
theorem ca_stable {way : List Int} {wishes worth : List (List Int)} (ok : StableOk way wishes worth) : Ca prog w X Kf (fun h => Gs w mg mb h ∧ Up X h) ⟨k + 1, fr, true⟩ (.ref 175) [dI way, dR wishes, dR worth] (.bool (stableB way wishes worth)) := by
  refine Ca.at 175 174 (names := ["way", "wishes", "worth"]) (by rfl) (by intro h; cases h) (by rfl) (by rfl) (by rfl) (by rfl) (by intro h; cases h) ⟨_, _, by rfl, by rfl⟩ (by rfl) (by rfl) (by rfl) (by rfl) (by kernel_rfl) (by rfl)
    (len3 (fun a0 a1 a2 => by kernel_rfl)) (fun n => allC (.inl (by rfl)) (allC (.inl (by rfl)) (allC (.inl (by rfl)) all0))) fun h₀ G => ?_
  generalize hfr : (Option.map (callEnvC (fdAt w 175) h₀.objs.size 175 :: ·) fr) = fr2
  obtain ⟨h1, h2, h3, h4, h5, h6, h7⟩ := ok
  have inner : ∀ i : Nat, i < 4 →
      ((((wishes.getD i []).take (idx (wishes.getD i []) (way.getD i 0))).all fun p => !likes worth way i p) = true → Ex prog w X Kf (Gs w mg mb) ⟨k, fr2, true⟩ h₀ (callEnvC (fdAt w 175) h₀.objs.size 175) (upd (rho0 (fun _ => none) ["way", "wishes", "worth"] [dI way, dR wishes, dR worth]) "one" (.int i)) (forBody (bodyAt w 175)) (.next (upd (rho0 (fun _ => none) ["way", "wishes", "worth"] [dI way, dR wishes, dR worth]) "one" (.int i)))) ∧
      ((((wishes.getD i []).take (idx (wishes.getD i []) (way.getD i 0))).all fun p => !likes worth way i p) = false → Ex prog w X Kf (Gs w mg mb) ⟨k, fr2, true⟩ h₀ (callEnvC (fdAt w 175) h₀.objs.size 175) (upd (rho0 (fun _ => none) ["way", "wishes", "worth"] [dI way, dR wishes, dR worth]) "one" (.int i)) (forBody (bodyAt w 175)) (.ret (.bool false))) := by
    intro i hi
    have ti : ((i : Int)).toNat = i := by simp
    have wl : (wishes.getD i []).length = 4 := h6 i hi
    have ja := idx_at (h5 i hi)
    have jl : idx (wishes.getD i []) (way.getD i 0) < 4 := by have := idx_lt (h5 i hi); lia
    have tst : ∀ p : Int, p ∈ wishes.getD i [] → Tr prog w Kf (St X Kf (Gs w mg mb) h₀ (callEnvC (fdAt w 175) h₀.objs.size 175) (upd (upd (rho0 (fun _ => none) ["way", "wishes", "worth"] [dI way, dR wishes, dR worth]) "one" (.int i)) "place" (.int p))) ⟨k, fr2, true⟩ (callEnvC (fdAt w 175) h₀.objs.size 175)
        (ifTest (forBody (forBody (bodyAt w 175)))) (likes worth way i p) := by
      intro p hp
      obtain ⟨p0, p4, pw⟩ := h7 i hi p hp
      have pl : idx way p < 4 := by have := idx_lt pw; lia
      have jp := idx_at pw
      have rp : (worth.getD p.toNat []).length = 4 := h4 p.toNat (by lia)
      refine' Tr.cmp Rel.kf (St.stab Rel.kf) ?Zm ?Za ?Zb ?Zo
      case Zm => with_unfolding_all rfl
      case Za =>
        refine' Ev.sub Rel.kf (St.stab Rel.kf) ?Zv ?Zi ?Zo1
        case Zv =>
          refine' Ev.sub Rel.kf (St.stab Rel.kf) ?Zv1 ?Zi1 ?Zo2
          case Zv1 => wtm_at "g"
          case Zi1 => wtm_at "g"
          case Zo2 => exact Op.itemL Rel.kf isPlainIx_name p0 (by lia) (dR_at p0 (by lia))
        case Zi => wtm_at "g"
        case Zo1 => exact Op.itemL Rel.kf isPlainIx_name (by lia) (by lia) (dI_at (by lia) (by lia))
      case Zb =>
        refine' Ev.sub Rel.kf (St.stab Rel.kf) ?Zv3 ?Zi3 ?Zo3
        case Zv3 =>
          refine' Ev.sub Rel.kf (St.stab Rel.kf) ?Zv4 ?Zi4 ?Zo4
          case Zv4 => wtm_at "g"
          case Zi4 => wtm_at "g"
          case Zo4 => exact Op.itemL Rel.kf isPlainIx_name p0 (by lia) (dR_at p0 (by lia))
        case Zi3 =>
          refine' Ev.meth Rel.kf (St.stab Rel.kf) ?Zhb ?Zhf ?Zhl F.plainAttrs_list F.slot_list_index F.type_list_index (typeList _) ?Zhp ?Zhq ?Zhv ?Zha (Ca.indexL Rel.kf jp.1 jp.2 (by rw [h1]; decide))
          case Zhb => rfl
          case Zhf => rfl
          case Zhl => rfl
          case Zhp => intro _; rfl
          case Zhq => rfl
          case Zhv => wtm_at "g"
          case Zha => wtm_at "g"
        case Zo3 => exact Op.itemL Rel.kf (fun _ _ => rfl) (by lia) (by lia) (dI_at (by lia) (by lia))
      case Zo =>
        unfold likes
        rw [ti]
        exact Op.gtI Rel.kf
    have psub : ∀ p ∈ (wishes.getD i []).take (idx (wishes.getD i []) (way.getD i 0)), p ∈ wishes.getD i [] := fun p hp => List.mem_of_mem_take hp
    have ext : Ev prog w X Kf (St X Kf (Gs w mg mb) h₀ (callEnvC (fdAt w 175) h₀.objs.size 175) (upd (rho0 (fun _ => none) ["way", "wishes", "worth"] [dI way, dR wishes, dR worth]) "one" (.int i))) ⟨k, fr2, true⟩ (callEnvC (fdAt w 175) h₀.objs.size 175)
        (forIter (forBody (bodyAt w 175))) (dI ((wishes.getD i []).take (idx (wishes.getD i []) (way.getD i 0)))) := by
      have row : ∀ (p q pos : Pos), Ev prog w X Kf (St X Kf (Gs w mg mb) h₀ (callEnvC (fdAt w 175) h₀.objs.size 175) (upd (rho0 (fun _ => none) ["way", "wishes", "worth"] [dI way, dR wishes, dR worth]) "one" (.int i))) ⟨k, fr2, true⟩ (callEnvC (fdAt w 175) h₀.objs.size 175)
          (.Subscript (.Name "wishes" p) (.Name "one" q) pos) (dI (wishes.getD i [])) := by
        intro p q pos
        refine' Ev.sub Rel.kf (St.stab Rel.kf) ?Zv1 ?Zi1 ?Zo2
        case Zv1 => wtm_at "g"
        case Zi1 => wtm_at "g"
        case Zo2 =>
          have := dR_at (l := wishes) (i := (i : Int)) (by lia) (by lia)
          rw [ti] at this
          exact Op.itemL Rel.kf isPlainIx_name (by lia) (by lia) (by rw [ti]; exact this)
      refine Ev.of_eq (Ev.sliceL Rel.kf (St.stab Rel.kf) (sp := none) (lo := none) (hi := some ((idx (wishes.getD i []) (way.getD i 0) : Nat) : Int)) (fun h S => S.up) (row _ _ _) (Pt.none Rel.kf) (Pt.some ?Zix) (Pt.none Rel.kf) (by intro h; cases h) (by rw [List.length_map, wl]; decide)) ?Zeq
      case Zix =>
        refine' Ev.meth Rel.kf (St.stab Rel.kf) ?Zhb ?Zhf ?Zhl F.plainAttrs_list F.slot_list_index F.type_list_index (typeList _) ?Zhp ?Zhq ?Zhv ?Zha (Ca.indexL Rel.kf ja.1 ja.2 (by rw [wl]; decide))
        case Zhb => rfl
        case Zhf => rfl
        case Zhl => rfl
        case Zhp => intro _; rfl
        case Zhq => rfl
        case Zhv => exact row _ _ _
        case Zha =>
          refine' EvL.cons Rel.kf (St.stab Rel.kf) ?Zpp ?Zaa (EvL.nil Rel.kf)
          case Zpp => intro _; rfl
          case Zaa =>
            refine' Ev.sub Rel.kf (St.stab Rel.kf) ?Zv1 ?Zi1 ?Zo2
            case Zv1 => wtm_at "g"
            case Zi1 => wtm_at "g"
            case Zo2 =>
              have := dI_at (l := way) (i := (i : Int)) (by lia) (by lia)
              rw [ti] at this
              exact Op.itemL Rel.kf isPlainIx_name (by lia) (by lia) (by rw [ti]; exact this)
      case Zeq => rw [pick_take _ (by rw [List.length_map, wl]; lia)]; simp only [dI, List.map_take]
    have item : ∀ {m : Nat} {d : D}, (((wishes.getD i []).take (idx (wishes.getD i []) (way.getD i 0))).map D.int)[m]? = some d → ∃ p, ((wishes.getD i []).take (idx (wishes.getD i []) (way.getD i 0)))[m]? = some p ∧ d = .int p := by
      intro m d e
      rw [List.getElem?_map] at e
      cases q : ((wishes.getD i []).take (idx (wishes.getD i []) (way.getD i 0)))[m]? with
      | none => rw [q] at e; cases e
      | some p => rw [q] at e; cases e; exact ⟨p, rfl, rfl⟩
    have sto : ∀ p : Int, As prog w X Kf (Gs w mg mb) h₀ (callEnvC (fdAt w 175) h₀.objs.size 175) (upd (rho0 (fun _ => none) ["way", "wishes", "worth"] [dI way, dR wishes, dR worth]) "one" (.int i)) (forTarget (forBody (bodyAt w 175))) (.int p)
        (upd (upd (rho0 (fun _ => none) ["way", "wishes", "worth"] [dI way, dR wishes, dR worth]) "one" (.int i)) "place" (.int p)) := fun p => As.name (by wtm_at "sto")
    have goes : ∀ p : Int, p ∈ wishes.getD i [] → likes worth way i p = false → Ex prog w X Kf (Gs w mg mb) ⟨k, fr2, true⟩ h₀ (callEnvC (fdAt w 175) h₀.objs.size 175) (upd (upd (rho0 (fun _ => none) ["way", "wishes", "worth"] [dI way, dR wishes, dR worth]) "one" (.int i)) "place" (.int p))
        (forBody (forBody (bodyAt w 175))) (.next (upd (rho0 (fun _ => none) ["way", "wishes", "worth"] [dI way, dR wishes, dR worth]) "one" (.int i))) := fun p hp hl =>
      Ex.weak (upd_weak (x := "place") (d := .int p) (by rfl)) (Ex.cons (Ex1.ifs Rel.kf (tst p hp) (fun h => by rw [hl] at h; cases h) (fun _ => Ex.nil)) Ex.nil)
    have ends : ∀ p : Int, p ∈ wishes.getD i [] → likes worth way i p = true → Ex prog w X Kf (Gs w mg mb) ⟨k, fr2, true⟩ h₀ (callEnvC (fdAt w 175) h₀.objs.size 175) (upd (upd (rho0 (fun _ => none) ["way", "wishes", "worth"] [dI way, dR wishes, dR worth]) "one" (.int i)) "place" (.int p))
        (forBody (forBody (bodyAt w 175))) (.ret (.bool false)) := fun p hp hl =>
      Ex.ret (Ex1.ifs Rel.kf (tst p hp) (fun _ => Ex.ret (Ex1.ret Rel.kf (Ev.bool Rel.kf))) (fun h => by rw [hl] at h; cases h))
    constructor
    · intro hall
      rw [List.all_eq_true] at hall
      refine Ex.cons (Ex1.fors Rel.kf rfl ext (.list _) (fun _ => rfl) (Lo.all (fun m d e => ?_) _ 0 rfl)) Ex.nil
      obtain ⟨p, e1, rfl⟩ := item e
      have hm := List.mem_of_getElem? e1
      exact ⟨_, sto p, goes p (psub p hm) (by simpa using hall p hm)⟩
    · intro hnot
      rw [List.all_eq_false] at hnot
      obtain ⟨p, hp, hl⟩ := hnot
      have lt := List.findIdx_lt_length_of_exists (p := fun p => likes worth way i p) ⟨p, hp, by simpa using hl⟩
      refine Ex.ret (Ex1.fors Rel.kf rfl ext (.list _) (fun _ => rfl) (Lo.leave (j := List.findIdx (fun p => likes worth way i p) ((wishes.getD i []).take (idx (wishes.getD i []) (way.getD i 0)))) (by rw [List.length_map]; exact lt) (fun m d lm e => ?_) (fun d e => ?_) _ 0 rfl))
      · obtain ⟨q, e1, rfl⟩ := item e
        have hm := List.mem_of_getElem? e1
        refine ⟨_, sto q, goes q (psub q hm) ?_⟩
        have := List.not_of_lt_findIdx lm
        have e2 := (List.getElem?_eq_some_iff.mp e1).2
        rw [e2] at this
        simpa using this
      · obtain ⟨q, e1, rfl⟩ := item e
        have hm := List.mem_of_getElem? e1
        refine ⟨_, sto q, ends q (psub q hm) ?_⟩
        have := List.findIdx_getElem (w := lt)
        have e2 := (List.getElem?_eq_some_iff.mp e1).2
        rw [e2] at this
        simpa using this
  have sto : ∀ i : Nat, As prog w X Kf (Gs w mg mb) h₀ (callEnvC (fdAt w 175) h₀.objs.size 175) (rho0 (fun _ => none) ["way", "wishes", "worth"] [dI way, dR wishes, dR worth]) (forTarget (bodyAt w 175)) (.int i)
      (upd (rho0 (fun _ => none) ["way", "wishes", "worth"] [dI way, dR wishes, dR worth]) "one" (.int i)) := fun i => As.name (by wtm_at "sto")
  have rng : Ev prog w X Kf (St X Kf (Gs w mg mb) h₀ (callEnvC (fdAt w 175) h₀.objs.size 175) (rho0 (fun _ => none) ["way", "wishes", "worth"] [dI way, dR wishes, dR worth])) ⟨k, fr2, true⟩ (callEnvC (fdAt w 175) h₀.objs.size 175) (forIter (bodyAt w 175)) (.rng 4) := by
    refine' Ev.rangeC Rel.kf (St.stab Rel.kf) ?Zru ?Zrg ?Zrp ?Zra ?Zrn
    case Zrp => intro _; rfl
    case Zru => exact fun _ S => S.up
    case Zrg =>
      refine' Ev.name Rel.kf ?Zrh1 ?Zrh2 ?Zrl
      case Zrh1 => rfl
      case Zrh2 => rfl
      case Zrl => intro h S; exact (S.gh Rel.kf Gs.stat).glo (by rfl) (by rfl)
    case Zra => wtm_at "g"
    case Zrn => rfl
  have item : ∀ {m : Nat} {d : D}, ((List.range 4).map fun (j : Nat) => D.int (j : Int))[m]? = some d → m < 4 ∧ d = .int m := by
    intro m d e
    have hm : m < 4 := by have := (List.getElem?_eq_some_iff.mp e).1; simpa using this
    rw [List.getElem?_map, List.getElem?_range hm] at e
    cases e; exact ⟨hm, rfl⟩
  cases hs : stableB way wishes worth with
  | true =>
    unfold stableB at hs
    rw [List.all_eq_true] at hs
    refine Ex.cons (Ex1.fors Rel.kf rfl rng (.rng 4 (by decide)) (fun _ => rfl) (Lo.all (fun m d e => ?_) _ 0 rfl)) (Ex.ret (Ex1.ret Rel.kf (Ev.bool Rel.kf)))
    obtain ⟨hm, rfl⟩ := item e
    exact ⟨_, sto m, Ex.weak (upd_weak (x := "one") (d := .int m) (by rfl)) ((inner m hm).1 (hs m (by simpa using hm)))⟩
  | false =>
    unfold stableB at hs
    rw [List.all_eq_false] at hs
    obtain ⟨o, ho, hl⟩ := hs
    have lt := List.findIdx_lt_length_of_exists (p := fun one => !(((wishes.getD one []).take (idx (wishes.getD one []) (way.getD one 0))).all fun p => !likes worth way one p)) ⟨o, ho, by simpa using hl⟩
    refine Ex.ret (Ex1.fors Rel.kf rfl rng (.rng 4 (by decide)) (fun _ => rfl) (Lo.leave (j := List.findIdx (fun one => !(((wishes.getD one []).take (idx (wishes.getD one []) (way.getD one 0))).all fun p => !likes worth way one p)) (List.range 4)) (by rw [List.length_map]; exact lt) (fun m d lm e => ?_) (fun d e => ?_) _ 0 rfl))
    · obtain ⟨hm, rfl⟩ := item e
      refine ⟨_, sto m, Ex.weak (upd_weak (x := "one") (d := .int m) (by rfl)) ((inner m hm).1 ?_)⟩
      have := List.not_of_lt_findIdx lm
      simpa using this
    · obtain ⟨hm, rfl⟩ := item e
      refine ⟨_, sto _, (inner _ hm).2 ?_⟩
      have := List.findIdx_getElem (w := lt)
      simpa using this
end
end
section
variable {X : Addr → Prop}
section
variable {prog : Program} {w : World} {mg mb : Str → Option Value} {k : Nat} {fr : Option (List Env)}
noncomputable def bitOf (n : Int) (b : Bool) : Int := if b then n else 0
noncomputable def isIn (x y : Str) : Bool := !(Builtin.Str.occurrences x y 0 x.length 1).isEmpty
noncomputable def dig3 (sign : Str) (k : Int) : Int := bitOf 4 (Txt.item sign k == "r") + bitOf 2 (Txt.item sign (k + 1) == "w") + bitOf 1 (isIn "xst" (Txt.item sign (k + 2)))
noncomputable def digitsOf (sign : Str) : List Int := [dig3 sign 1, dig3 sign 4, dig3 sign 7, bitOf 4 (isIn "sS" (Txt.item sign 3)) + bitOf 2 (isIn "sS" (Txt.item sign 6)) + bitOf 1 (isIn "tT" (Txt.item sign 9))]
theorem ca_digits {sign : Str} (hl : sign.length = 10) : Ca prog w X Kf (fun h => Gs w mg mb h ∧ Up X h) ⟨k + 1, fr, true⟩ (.ref 163) [.str sign] (.list ((digitsOf sign).map D.int)) := by
  refine Ca.at 163 162 (names := ["sign"]) (by rfl) (by intro h; cases h) (by rfl) (by rfl) (by rfl) (by rfl) (by intro h; cases h) ⟨_, _, by rfl, by rfl⟩ (by rfl) (by rfl) (by rfl) (by rfl) (by kernel_rfl) (by rfl)
    (len1 (fun a0 => by kernel_rfl)) (fun n => allC (.inl (by rfl)) all0) fun h₀ G => ?_
  refine Ex.of_eq (d := ?Zdd) ?Zbd ?Zfin
  case Zbd =>
    refine' Ex.fill Rel.kf (EvL.nil Rel.kf) (by decide) (by rfl) (by rfl) (by rfl) (by rfl) ?Zrest
    case Zrest =>
    intro L
    refine' ExF.cons (Ex1F.fors Rel.kf ?Zhc ?Ze (.tup _) ?Zf ?Zlo) ?Zr2
    case Zhc => rfl
    case Zf => intro _; rfl
    case Ze => wtm_at "g"
    case Zlo =>
      refine' LoF.turn (by rfl) (As.name ?Zs1) ?Zx1 ?Zl1
      case Zs1 => wtm_at "sto"
      case Zx1 =>
        refine' ExF.cons (Ex1F.append Rel.kf (by rfl) (by rfl) (by rfl) (by rfl) (by rfl) (by rfl) (by rfl) (by rfl) (by rfl) (by intro _; rfl) ?Zea (by wtm_at "size")) ExF.nil
        case Zea => wtm_at "g"
      refine' LoF.turn (by rfl) (As.name ?Zs2) ?Zx2 ?Zl2
      case Zs2 => wtm_at "sto"
      case Zx2 =>
        refine' ExF.cons (Ex1F.append Rel.kf (by rfl) (by rfl) (by rfl) (by rfl) (by rfl) (by rfl) (by rfl) (by rfl) (by rfl) (by intro _; rfl) ?Zea2 (by wtm_at "size")) ExF.nil
        case Zea2 => wtm_at "g"
      refine' LoF.turn (by rfl) (As.name ?Zs3) ?Zx3 ?Zl3
      case Zs3 => wtm_at "sto"
      case Zx3 =>
        refine' ExF.cons (Ex1F.append Rel.kf (by rfl) (by rfl) (by rfl) (by rfl) (by rfl) (by rfl) (by rfl) (by rfl) (by rfl) (by intro _; rfl) ?Zea3 (by wtm_at "size")) ExF.nil
        case Zea3 => wtm_at "g"
      exact LoF.end_ (by rfl)
    case Zr2 =>
    refine' ExF.freeze (x := "digits") (by rfl) ?Zr3
    case Zr3 =>
    refine' Ex.ret (Ex1.ret Rel.kf ?Zr)
    case Zr => wtm_at "g"
  case Zfin => rfl
end
end
section
variable {X : Addr → Prop}
section
variable {prog : Program} {w : World} {mg mb : Str → Option Value} {k : Nat} {fr : Option (List Env)}
local macro_rules | `(tactic| wtm_at "g") => `(tactic| first
  | ((with_reducible first | refine' Ev.replaceC .. | refine' Op.mulS ..) <;> first | show (_ : Type) | exact Rel.kf | rfl | assumption | decide +kernel | wtm_at "size")
  | ((with_reducible refine' Ev.callT ..) <;> first | exact fun _ => rfl | ((with_reducible show EvL _ _ _ _ _ _ _ _ _); wtm_at "g") | wtm_at "fn" | (refine Ca.str Rel.kf ?_; first | assumption | omega) | wtm_at "g"))
noncomputable abbrev sO (x : String) : Str := Str.ofString x
noncomputable def talkSuf (p : Nat) : Str := if p = 1 then sO " made" else if p = 2 then sO " \"new\"" else sO ""
noncomputable def talkMark (p : Nat) : Str := Txt.item (sO "|!x(") (p : Int)
noncomputable def tell257 (t : Str) (p : Nat) : Str := sO "257 \"" ++ Txt.replace t (sO "\"") (sO "\"\"") ++ sO "\"" ++ talkSuf p
noncomputable def tell229 (m : Int) (p : Nat) : Str := sO "229 it lies at (" ++ Txt.mul (talkMark p) 3 ++ Str.ofString (toString m) ++ talkMark p ++ sO ") (|||7|)"
noncomputable def talkOf (t0 t1 t2 t3 : Str) (m0 m1 m2 m3 : Int) (s0 s1 s2 s3 : List Str) : List Str :=
  [sO "226 all told"] ++ [tell257 t0 0] ++ s0 ++ [tell229 m0 0] ++ [tell257 t1 1] ++ s1 ++ [tell229 m1 1] ++ [tell257 t2 2] ++ s2 ++ [tell229 m2 2] ++ [tell257 t3 3] ++ s3 ++ [tell229 m3 3]
structure TextOk (t : Str) : Prop where
  a : t.length + (t.length + 1) * (Str.ofString "\"\"").length ≤ 16777216
  b : (Txt.replace t (Str.ofString "\"") (Str.ofString "\"\"")).length ≤ 1000
structure ModeOk (m : Int) : Prop where
  a : m.natAbs.log2 < 1920
  b : (Str.ofString (toString m)).length ≤ 1000
theorem len_mul {x : Str} (h : x.length ≤ 1) : (Txt.mul x 3).length ≤ 3 := by
  unfold Txt.mul
  simp only [show ¬ ((3 : Int) < 1) by decide, if_false]
  split
  · omega
  · simp only [Int.reduceToNat, List.replicate, List.foldl, Str.length] at h ⊢
    simp
    omega
noncomputable def talkBody (w : World) : List Stmt := match bodyAt w 135 with
  | _ :: .For _ _ b _ _ :: _ => b
  | _ => []
theorem ExF.to {R : Heap → Heap → Prop} {G : Heap → Prop} {k : Room} {h₀ : Heap} {env : Env} {L : Addr} {ρ : Rho} {acc : List D} {ss : List Stmt} {o o' : OutF} (h : ExF prog w X R G k h₀ env L ρ acc ss o) (e : o = o') : ExF prog w X R G k h₀ env L ρ acc ss o' := e ▸ h
theorem talk_turn {h₀ : Heap} {L : Addr} {ρ : Rho} {acc T M S : List D} {n : Nat} {t : Str} {m : Int} {s : List Str} (hn : n < 4) (hP : ρ "place" = some (.int n)) (hT : ρ "texts" = some (.list T)) (hM : ρ "modes" = some (.list M)) (hS : ρ "spoiled" = some (.list S)) (hL : ρ "talk" = some (.val (.ref L)))
    (eT : T[n]? = some (.str t)) (eM : M[n]? = some (.int m)) (eS : S[n]? = some (.list (s.map D.str))) (ht : TextOk t) (hm : ModeOk m) (hs : s.length ≤ 2) (ha : acc.length ≤ 100) :
    ExF prog w X Kf (Gs w mg mb) ⟨k, fr.map (callEnvC (fdAt w 135) h₀.objs.size 135 :: ·), true⟩ h₀ (callEnvC (fdAt w 135) h₀.objs.size 135) L ρ acc (talkBody w) (.next (upd ρ "mark" (.str (talkMark n))) (acc ++ [.str (tell257 t n)] ++ s.map D.str ++ [.str (tell229 m n)])) := by
  obtain ⟨a0, b0⟩ := ht
  obtain ⟨d0, e0⟩ := hm
  have lm0 := len_mul (x := Txt.item (Str.ofString "|!x(") (n : Int)) (by rw [len_item]; decide)
  have n4 : n = 0 ∨ n = 1 ∨ n = 2 ∨ n = 3 := by omega
  have ls : (talkSuf n).length ≤ 6 := by rcases n4 with rfl | rfl | rfl | rfl <;> decide +kernel
  have q0 : (Str.ofString "257 \"").length = 5 := by decide +kernel
  have q1 : (Str.ofString "\"").length = 1 := by decide +kernel
  have q5 : (Str.ofString "229 it lies at (").length = 16 := by decide +kernel
  have q6 : (Str.ofString ") (|||7|)").length = 9 := by decide +kernel
  refine ExF.to (o := .next ?Zoa ?Zob) ?Zbd ?Zfin
  case Zbd =>
    refine' ExF.cons (Ex1F.of (Ex1.assign Rel.kf ?Zma0 ?Zmb0 ?Zmc0)) ?Zy0
    case Zma0 => wtm_at "g"
    case Zmb0 => wtm_at "sto"
    case Zmc0 => rfl
    case Zy0 =>
    refine' ExF.cons (Ex1F.append Rel.kf hL (by rfl) (by rfl) (by rfl) (by rfl) (by rfl) (by rfl) (by rfl) (by rfl) (by intro _; rfl) ?Zea0 ?Zeb0) ?Zec0
    case Zea0 =>
      refine' Ev.bin Rel.kf (St.stab Rel.kf) ?Zla9 ?Zlb9 (Op.addS Rel.kf ?Zlo9)
      case Zla9 => wtm_at "g"
      case Zlb9 =>
        refine' Ev.sub (d := .str (talkSuf n)) Rel.kf (St.stab Rel.kf) ?Zsb9 ?Zix9 (Op.itemL Rel.kf ?Zpp9 ?Zqa9 ?Zqb9 ?Zqc9)
        case Zsb9 => wtm_at "g"
        case Zix9 => wtm_at "g"
        case Zpp9 => exact fun _ _ => rfl
        case Zqa9 => omega
        case Zqb9 => omega
        case Zqc9 => rcases n4 with rfl | rfl | rfl | rfl <;> rfl
      case Zlo9 => wtm_at "size"
    case Zeb0 => wtm_at "size"
    case Zec0 =>
    refine' ExF.cons (Ex1F.extend Rel.kf hL (by rfl) (by rfl) (by rfl) (by rfl) (by rfl) (by rfl) (by rfl) (by rfl) (by intro _; rfl) ?Zfa0 ?Zfb0) ?Zfc0
    case Zfa0 => wtm_at "g"
    case Zfb0 => wtm_at "size"
    case Zfc0 =>
    refine' ExF.cons (Ex1F.append Rel.kf hL (by rfl) (by rfl) (by rfl) (by rfl) (by rfl) (by rfl) (by rfl) (by rfl) (by intro _; rfl) ?Zga0 ?Zgb0) ExF.nil
    case Zga0 => wtm_at "g"
    case Zgb0 => wtm_at "size"
  case Zfin => simp only [List.append_assoc]; rfl
theorem ca_talk {t0 t1 t2 t3 : Str} {m0 m1 m2 m3 : Int} {s0 s1 s2 s3 : List Str} (ht0 : TextOk t0) (ht1 : TextOk t1) (ht2 : TextOk t2) (ht3 : TextOk t3) (hm0 : ModeOk m0) (hm1 : ModeOk m1) (hm2 : ModeOk m2) (hm3 : ModeOk m3)
    (hs0 : s0.length ≤ 2) (hs1 : s1.length ≤ 2) (hs2 : s2.length ≤ 2) (hs3 : s3.length ≤ 2) :
    Ca prog w X Kf (fun h => Gs w mg mb h ∧ Up X h) ⟨k + 1, fr, true⟩ (.ref 135) [.list [.str t0, .str t1, .str t2, .str t3], .list [.int m0, .int m1, .int m2, .int m3], .list [.list (s0.map D.str), .list (s1.map D.str), .list (s2.map D.str), .list (s3.map D.str)]]
      (.list ((talkOf t0 t1 t2 t3 m0 m1 m2 m3 s0 s1 s2 s3).map D.str)) := by
  refine Ca.at 135 134 (names := ["texts", "modes", "spoiled"]) (by rfl) (by intro h; cases h) (by rfl) (by rfl) (by rfl) (by rfl) (by intro h; cases h) ⟨_, _, by rfl, by rfl⟩ (by rfl) (by rfl) (by rfl) (by rfl) (by kernel_rfl) (by rfl)
    (len3 (fun a0 a1 a2 => by kernel_rfl)) (fun n => allC (.inl (by rfl)) (allC (.inl (by rfl)) (allC (.inl (by rfl)) all0))) fun h₀ G => ?_
  refine Ex.of_eq (d := ?Zdd) ?Zbd ?Zfin
  case Zbd =>
    refine' Ex.fill Rel.kf ?Zes ?Zhz (by rfl) (by rfl) (by rfl) (by rfl) ?Zrest
    case Zes => wtm_at "g"
    case Zhz => decide
    case Zrest =>
    intro L
    refine' ExF.cons (Ex1F.fors Rel.kf ?Zhc ?Ze (.rng 4 (by decide)) ?Zf ?Zlo) ?Zr2
    case Zhc => rfl
    case Zf => intro _; rfl
    case Ze =>
      refine' Ev.rangeC Rel.kf (St.stab Rel.kf) ?Zru ?Zrg ?Zrp ?Zra ?Zrn
      case Zrp => intro _; rfl
      case Zru => exact fun _ S => S.up
      case Zrg => wtm_at "fn"
      case Zra => wtm_at "g"
      case Zrn => rfl
    case Zlo =>
      refine' LoF.turn (d := .int ((0 : Nat) : Int)) (by rfl) (As.name ?Zs0) (talk_turn (n := 0) (by decide) (by rfl) (by rfl) (by rfl) (by rfl) (by rfl) (by rfl) (by rfl) (by rfl) ht0 hm0 hs0 ?Zz0) ?Zl0
      case Zs0 => wtm_at "sto"
      case Zz0 => simp only [List.length_append, List.length_cons, List.length_nil, List.length_map]; omega
      refine' LoF.turn (d := .int ((1 : Nat) : Int)) (by rfl) (As.name ?Zs1) (talk_turn (n := 1) (by decide) (by rfl) (by rfl) (by rfl) (by rfl) (by rfl) (by rfl) (by rfl) (by rfl) ht1 hm1 hs1 ?Zz1) ?Zl1
      case Zs1 => wtm_at "sto"
      case Zz1 => simp only [List.length_append, List.length_cons, List.length_nil, List.length_map]; omega
      refine' LoF.turn (d := .int ((2 : Nat) : Int)) (by rfl) (As.name ?Zs2) (talk_turn (n := 2) (by decide) (by rfl) (by rfl) (by rfl) (by rfl) (by rfl) (by rfl) (by rfl) (by rfl) ht2 hm2 hs2 ?Zz2) ?Zl2
      case Zs2 => wtm_at "sto"
      case Zz2 => simp only [List.length_append, List.length_cons, List.length_nil, List.length_map]; omega
      refine' LoF.turn (d := .int ((3 : Nat) : Int)) (by rfl) (As.name ?Zs3) (talk_turn (n := 3) (by decide) (by rfl) (by rfl) (by rfl) (by rfl) (by rfl) (by rfl) (by rfl) (by rfl) ht3 hm3 hs3 ?Zz3) ?Zl3
      case Zs3 => wtm_at "sto"
      case Zz3 => simp only [List.length_append, List.length_cons, List.length_nil, List.length_map]; omega
      exact LoF.end_ (by rfl)
    case Zr2 =>
    refine' ExF.freeze (x := "talk") (by rfl) ?Zr3
    case Zr3 =>
    refine' Ex.ret (Ex1.ret Rel.kf ?Zr)
    case Zr => wtm_at "g"
  case Zfin => simp only [talkOf, List.map_append, List.map_cons, List.map_nil]
end
end
section
variable {X : Addr → Prop}
structure AskOk (wishes ranks : List (List Int)) (free tried held : List Int) : Prop where
  w4 : wishes.length = 4
  wr : ∀ i : Nat, i < 4 → (wishes.getD i []).length = 4
  wv : ∀ i : Nat, i < 4 → ∀ p ∈ wishes.getD i [], 0 ≤ p ∧ p < 4
  r4 : ranks.length = 4
  rl : ∀ i : Nat, i < 4 → (ranks.getD i []).length = 4
  rv : ∀ i : Nat, i < 4 → ∀ o : Int, 0 ≤ o → o < 4 → o ∈ ranks.getD i []
  t4 : tried.length = 4
  h4 : held.length = 4
  hv : ∀ x ∈ held, -1 ≤ x ∧ x < 4
  fv : ∀ o ∈ free, 0 ≤ o ∧ o < 4
  fl : free.length ≤ 4
  ft : ∀ o ∈ free, 0 ≤ tried.getD o.toNat 0 ∧ tried.getD o.toNat 0 < 4
noncomputable def askOne (free : List Int) (turn : Int) : Int := if turn == 1 then free.getD 0 0 else free.getD (free.length - 1) 0
noncomputable def askRest (free : List Int) (turn : Int) : List Int := if turn == 1 then free.drop 1 else free.dropLast
noncomputable def askPlace (wishes : List (List Int)) (tried : List Int) (one : Int) : Int := (wishes.getD one.toNat []).getD (tried.getD one.toNat 0).toNat 0
noncomputable def askTried (tried : List Int) (one : Int) : List Int := (List.range 4).map fun (k : Nat) => if (k : Int) == one then tried.getD k 0 + 1 else tried.getD k 0
noncomputable def askHeld (held : List Int) (one place : Int) : List Int := held.take place.toNat ++ [one] ++ held.drop (place.toNat + 1)
noncomputable def asked (wishes ranks : List (List Int)) (s : List Int × List Int × List Int) (turn : Int) : List Int × List Int × List Int :=
  if s.1 = [] then s else
    let one := askOne s.1 turn
    let place := askPlace wishes s.2.1 one
    let ho := s.2.2.getD place.toNat 0
    if ho == -1 then (askRest s.1 turn, askTried s.2.1 one, askHeld s.2.2 one place)
    else if idx (ranks.getD place.toNat []) one < idx (ranks.getD place.toNat []) ho then (askRest s.1 turn ++ [ho], askTried s.2.1 one, askHeld s.2.2 one place)
    else (askRest s.1 turn ++ [one], askTried s.2.1 one, s.2.2)
noncomputable abbrev dS (s : List Int × List Int × List Int) : D := .tup [dI s.1, dI s.2.1, dI s.2.2]
theorem getD_mem {l : List Int} {i : Nat} (h : i < l.length) : l.getD i 0 ∈ l := by
  rw [List.getD_eq_getElem?_getD, List.getElem?_eq_getElem h]; exact List.getElem_mem h
theorem getDL_mem {l : List (List Int)} {i : Nat} (h : i < l.length) : l.getD i [] ∈ l := by
  rw [List.getD_eq_getElem?_getD, List.getElem?_eq_getElem h]; exact List.getElem_mem h
theorem askOne_mem {free : List Int} {turn : Int} (h : free ≠ []) : askOne free turn ∈ free := by
  have : 0 < free.length := List.length_pos_iff.mpr h
  unfold askOne
  split
  · exact getD_mem this
  · exact getD_mem (by lia)
noncomputable def askedEnd3 (ranks : List (List Int)) (rest tried held : List Int) (one place ho : Int) : List Int × List Int × List Int :=
  if ho == -1 then (rest, askTried tried one, askHeld held one place)
  else if idx (ranks.getD place.toNat []) one < idx (ranks.getD place.toNat []) ho then (rest ++ [ho], askTried tried one, askHeld held one place)
  else (rest ++ [one], askTried tried one, held)
noncomputable def askedEnd2 (ranks : List (List Int)) (rest tried held : List Int) (one place : Int) : List Int × List Int × List Int := askedEnd3 ranks rest tried held one place (held.getD place.toNat 0)
noncomputable def askedEnd (wishes ranks : List (List Int)) (rest tried held : List Int) (one : Int) : List Int × List Int × List Int := askedEnd2 ranks rest tried held one (askPlace wishes tried one)
local macro_rules | `(tactic| wtm_at "g") => `(tactic| first
  | ((with_reducible first | refine' Ev.sliceIto .. | refine' Ev.sliceIfrom ..) <;> first | exact fun _ S => S.up | wtm_at "g" | wtm_at "num")
  | ((with_reducible first | refine' Op.addI .. | refine' Op.addI1 ..) <;> first | show (_ : Type) | exact Rel.kf | exact fun _ S => S.up | wtm_at "num"))
section
variable {prog : Program} {w : World} {mg mb : Str → Option Value} {k : Nat} {fr : Option (List Env)}
theorem ca_asked {wishes ranks : List (List Int)} {free tried held : List Int} {turn : Int} (ok : AskOk wishes ranks free tried held) :
    Ca prog w X Kf (fun h => Gs w mg mb h ∧ Up X h) ⟨k + 1, fr, true⟩ (.ref 168) [.tup [dI free, dI tried, dI held], dR wishes, dR ranks, .int turn] (dS (asked wishes ranks (free, tried, held) turn)) := by
  refine Ca.at 168 167 (names := ["state", "wishes", "ranks", "turn"]) (by rfl) (by intro h; cases h) (by rfl) (by rfl) (by rfl) (by rfl) (by intro h; cases h) ⟨_, _, by rfl, by rfl⟩ (by rfl) (by rfl) (by rfl) (by rfl) (by kernel_rfl) (by rfl)
    (len4 (fun a0 a1 a2 a3 => by kernel_rfl)) (fun n => allC (.inl (by rfl)) (allC (.inl (by rfl)) (allC (.inl (by rfl)) (allC (.inl (by rfl)) all0)))) fun h₀ G => ?_
  generalize hfr : (Option.map (callEnvC (fdAt w 168) h₀.objs.size 168 :: ·) fr) = fr2
  obtain ⟨w4, wr, wv, r4, rl, rv, t4, h4, hv, fv, fl, ft⟩ := ok
  refine' Ex.cons (Ex1.assignT Rel.kf rfl ?Ze0 (As.tup Rel.kf ?Zn0 ?Zs0 ?Za0) ?Zp0 ?Zq0) ?Zrest
  case Ze0 => wtm_at "g"
  case Zn0 => rfl
  case Zs0 => rfl
  case Zp0 => rfl
  case Zq0 => rfl
  case Za0 =>
    refine' AsL.cons (by rfl) (As.name ?Zb1) (AsL.cons (by rfl) (As.name ?Zb2) (AsL.cons (by rfl) (As.name ?Zb3) AsL.nil))
    case Zb1 => wtm_at "sto"
    case Zb2 => wtm_at "sto"
    case Zb3 => wtm_at "sto"
  case Zrest =>
  have lm : ∀ l : List Int, (l.map D.int).length = l.length := fun l => List.length_map _
  have neg1 : (-1 : Int) = -(1 : Int) := rfl
  by_cases hf : free = []
  · subst hf
    refine' Ex.of_eq (d := dS ([], tried, held)) (Ex.ret (Ex1.ifs Rel.kf (c := true) ?Zt (fun _ => Ex.ret (Ex1.ret Rel.kf ?Ze1)) (fun h => by cases h))) ?Zfin
    case Zt =>
      refine' Tr.cmp Rel.kf (St.stab Rel.kf) ?Zm ?Za ?Zb (Op.of_eq (Op.eqInts Rel.kf [] []) rfl)
      case Zm => with_unfolding_all rfl
      case Za => wtm_at "g"
      case Zb =>
        show Ev _ _ _ _ _ _ _ _ (.list [])
        wtm_at "g"
    case Ze1 => wtm_at "g"
    case Zfin => simp [asked]
  have hpos : 0 < free.length := List.length_pos_iff.mpr hf
  refine' Ex.cons (Ex1.ifs Rel.kf (c := false) ?Zt (fun h => by cases h) (fun _ => Ex.nil)) ?Zr1
  case Zt =>
    refine' Tr.cmp Rel.kf (St.stab Rel.kf) ?Zm ?Za ?Zb (Op.of_eq (Op.eqInts Rel.kf free []) (by simp [hf]))
    case Zm => with_unfolding_all rfl
    case Za => wtm_at "g"
    case Zb =>
      show Ev _ _ _ _ _ _ _ _ (.list [])
      wtm_at "g"
  case Zr1 =>
  have f0 : (free.map D.int)[Int.toNat 0]? = some (.int (free.getD 0 0)) := dI_at (by decide) (by lia)
  have f1 : (free.map D.int)[(-1 + ((free.map D.int).length : Int)).toNat]? = some (.int (free.getD (free.length - 1) 0)) := by
    have e : (-1 + ((free.map D.int).length : Int)).toNat = ((free.length - 1 : Nat) : Int).toNat := by rw [lm]; lia
    rw [e]
    exact dI_at (by lia) (by lia)
  refine' Ex.cons (Ex1.assign Rel.kf (d := .int (askOne free turn)) ?Ze2 ?Zs2 ?Zw2) ?Zr2
  case Zw2 => rfl
  case Zs2 => wtm_at "sto"
  case Ze2 =>
    unfold askOne
    refine' Ev.ifI Rel.kf (St.stab Rel.kf) ?Zta ?Ztb ?Ztc
    case Zta => wtm_at "g"
    case Ztb => wtm_at "g"
    case Ztc =>
      refine' Ev.sub Rel.kf (St.stab Rel.kf) ?Ztd ?Zte ?Ztf
      case Ztd => wtm_at "g"
      case Zte => wtm_at "g"
      case Ztf => exact Op.itemLn Rel.kf isPlainIx_un (by decide) (by rw [lm]; lia) (by decide) f1
  case Zr2 =>
  refine' Ex.cons (Ex1.assign Rel.kf (d := dI (askRest free turn)) ?Ze3 ?Zs3 ?Zw3) ?Zr3
  case Zw3 => rfl
  case Zs3 => wtm_at "sto"
  case Ze3 =>
    refine' Ev.of_eq (Ev.ifL Rel.kf (St.stab Rel.kf) ?Zt3 (Ev.sliceIfrom Rel.kf (St.stab Rel.kf) ?Zu3 ?Zv3 ?Zj3 ?Zk3 ?Zl3) (Ev.sliceIlast Rel.kf (St.stab Rel.kf) ?Zu4 ?Zv4 ?Zl4)) ?Zeq3
    case Zt3 => wtm_at "g"
    case Zu3 => exact fun _ S => S.up
    case Zv3 => wtm_at "g"
    case Zj3 => wtm_at "g"
    case Zk3 => decide
    case Zl3 => wtm_at "size"
    case Zu4 => exact fun _ S => S.up
    case Zv4 => wtm_at "g"
    case Zl4 => wtm_at "size"
    case Zeq3 =>
      unfold askRest
      cases turn == 1 <;> rfl
  case Zr3 =>
  have om := askOne_mem (turn := turn) hf
  have ra : askedEnd wishes ranks (askRest free turn) tried held (askOne free turn) = asked wishes ranks (free, tried, held) turn := by simp [asked, askedEnd, askedEnd2, askedEnd3, hf]
  rw [← ra]
  have rlen : (askRest free turn).length ≤ 4 := by unfold askRest; split <;> simp <;> lia
  generalize askOne free turn = o at om ⊢
  generalize askRest free turn = rest at rlen ⊢
  obtain ⟨o0, o4⟩ := fv o om
  obtain ⟨x0, x4⟩ := ft o om
  have on : o.toNat < 4 := by lia
  have i1 : (wishes.map dI)[o.toNat]? = some (dI (wishes.getD o.toNat [])) := dR_at o0 (by lia)
  have i2 : (tried.map D.int)[o.toNat]? = some (.int (tried.getD o.toNat 0)) := dI_at o0 (by lia)
  have i3 : ((wishes.getD o.toNat []).map D.int)[(tried.getD o.toNat 0).toNat]? = some (.int (askPlace wishes tried o)) := dI_at x0 (by have := wr o.toNat on; lia)
  have pm : askPlace wishes tried o ∈ wishes.getD o.toNat [] := getD_mem (by have := wr o.toNat on; lia)
  refine' Ex.cons (Ex1.assign Rel.kf (d := .int (askPlace wishes tried o)) ?Ze4 ?Zs4 ?Zw4) ?Zr4
  case Zw4 => rfl
  case Zs4 => wtm_at "sto"
  case Ze4 => wtm_at "g"
  case Zr4 =>
  obtain ⟨p0, p4⟩ := wv o.toNat on _ pm
  have pe : askedEnd wishes ranks rest tried held o = askedEnd2 ranks rest tried held o (askPlace wishes tried o) := rfl
  rw [pe]
  generalize askPlace wishes tried o = p at p0 p4 ⊢
  have pn : p.toNat < 4 := by lia
  refine' Ex.cons (Ex1.assign Rel.kf (d := dI (askTried tried o)) ?Ze5 ?Zs5 ?Zw5) ?Zr5
  case Zw5 => rfl
  case Zs5 => wtm_at "sto"
  case Ze5 =>
    refine' Ev.of_eq (Ev.compM (l := List.range 4) (dc := fun (j : Nat) => D.int (j : Int)) (f := fun (j : Nat) => D.int (if (j : Int) == o then tried.getD j 0 + 1 else tried.getD j 0)) Rel.kf Gs.stat rfl (scopeOk_of (by rfl) (by rfl) (by rfl) (by rfl)) (fun _ => rfl) ?Zc1 (.rng 4 (by decide)) (by decide) ?Zc2) ?Zc3
    case Zc1 => ((refine' Ev.rangeC (by wtm_at "rr") (St.stab (by wtm_at "rr")) ?Zru ?Zrg ?Zrp ?Zra ?Zrn); (case Zrp => (intro _; rfl)); (case Zru => exact fun _ S => S.up); (case Zrg => wtm_at "fn"); (case Zra => wtm_at "g"); (case Zrn => rfl))
    case Zc3 => simp [askTried, Function.comp_def]
    case Zc2 =>
      intro h₁ L C Gh lt j hj
      have j4 : j < 4 := by simpa using hj
      have ij : (tried.map D.int)[((j : Int)).toNat]? = some (.int (tried.getD j 0)) := by simp [List.getD, show j < tried.length by lia]
      refine ⟨upd _ "k" (.int j), upd_ext (by rfl), As.name ?Zsk, ?Zek⟩
      case Zsk => wtm_at "sto"
      case Zek => wtm_at "g"
  case Zr5 =>
  have hm : held.getD p.toNat 0 ∈ held := getD_mem (by lia)
  obtain ⟨y0, y4⟩ := hv _ hm
  have i4 : (held.map D.int)[p.toNat]? = some (.int (held.getD p.toNat 0)) := dI_at p0 (by lia)
  have hh : dI (askHeld held o p) = .list (((held.take p.toNat ++ [o]) ++ held.drop (p + 1).toNat).map D.int) := by
    have : (p + 1).toNat = p.toNat + 1 := by lia
    simp [askHeld, this]
  have e2 : askedEnd2 ranks rest tried held o p = askedEnd3 ranks rest tried held o p (held.getD p.toNat 0) := rfl
  rw [e2]
  generalize held.getD p.toNat 0 = q at i4 y0 y4 ⊢
  have len1 : (List.take p.toNat held).length ≤ 4 := by simp; lia
  have len2 : (List.drop (p + 1).toNat held).length ≤ 4 := by simp; lia
  by_cases hq : q = -1
  · subst hq
    refine' Ex.of_eq (d := .tup [dI rest, dI (askTried tried o), dI (askHeld held o p)]) (Ex.ret (Ex1.ifs Rel.kf (c := true) ?Zt6 (fun _ => Ex.ret (Ex1.ret Rel.kf ?Ze6)) (fun h => by cases h))) ?Zf6
    case Zt6 =>
      refine' Tr.cmp Rel.kf (St.stab Rel.kf) ?Zt6a ?Zt6b ?Zt6c (Op.of_eq (Op.eqI Rel.kf (a := -1) (b := -1)) rfl)
      case Zt6a => with_unfolding_all rfl
      case Zt6b => wtm_at "g"
      case Zt6c => wtm_at "g"
    case Zf6 => simp [askedEnd3]
    case Ze6 =>
      rw [hh]
      wtm_at "g"
  refine' Ex.cons (Ex1.ifs Rel.kf (c := false) ?Zt7 (fun h => by cases h) (fun _ => Ex.nil)) ?Zr7
  case Zt7 =>
    refine' Tr.cmp Rel.kf (St.stab Rel.kf) ?Zt7a ?Zt7b ?Zt7c (Op.of_eq (Op.eqI Rel.kf (a := q) (b := -1)) (by simpa using hq))
    case Zt7a => with_unfolding_all rfl
    case Zt7b => wtm_at "g"
    case Zt7c => wtm_at "g"
  case Zr7 =>
  have q0 : 0 ≤ q := by lia
  have i5 : (ranks.map dI)[p.toNat]? = some (dI (ranks.getD p.toNat [])) := dR_at p0 (by lia)
  have j1 := idx_at (rv p.toNat pn o o0 o4)
  have j2 := idx_at (rv p.toNat pn q q0 y4)
  have rlen2 : (ranks.getD p.toNat []).length ≤ sizeLine := by rw [rl p.toNat pn]; decide
  by_cases hl : idx (ranks.getD p.toNat []) o < idx (ranks.getD p.toNat []) q
  · refine' Ex.of_eq (d := .tup [dI (rest ++ [q]), dI (askTried tried o), dI (askHeld held o p)]) (Ex.ret (Ex1.ifs Rel.kf (c := true) ?Zt10 (fun _ => Ex.ret (Ex1.ret Rel.kf ?Ze10)) (fun h => by cases h))) ?Zf10
    case Zt10 =>
      refine' Tr.cmp Rel.kf (St.stab Rel.kf) ?Zt10a ?Zt10b ?Zt10c (Op.of_eq (Op.ltI Rel.kf (a := (idx (ranks.getD p.toNat []) o : Nat)) (b := (idx (ranks.getD p.toNat []) q : Nat))) (congrArg D.bool (decide_eq_true (by lia))))
      case Zt10a => with_unfolding_all rfl
      case Zt10b =>
        refine' Ev.indexI Rel.kf (St.stab Rel.kf) (by rfl) (by rfl) (by rfl) (fun _ => rfl) ?Zt10d ?Zt10e j1.1 j1.2 rlen2
        case Zt10d => wtm_at "g"
        case Zt10e => wtm_at "g"
      case Zt10c =>
        refine' Ev.indexI Rel.kf (St.stab Rel.kf) (by rfl) (by rfl) (by rfl) (fun _ => rfl) ?Zt10f ?Zt10g j2.1 j2.2 rlen2
        case Zt10f => wtm_at "g"
        case Zt10g => wtm_at "g"
    case Zf10 => (unfold askedEnd3; rw [if_neg (by simpa using hq), if_pos hl])
    case Ze10 =>
      rw [hh]
      wtm_at "g"
  · refine' Ex.cons (Ex1.ifs Rel.kf (c := false) ?Zt11 (fun h => by cases h) (fun _ => Ex.nil)) (Ex.of_eq (d := .tup [dI (rest ++ [o]), dI (askTried tried o), dI held]) (Ex.ret (Ex1.ret Rel.kf ?Ze11)) ?Zf11)
    case Zt11 =>
      refine' Tr.cmp Rel.kf (St.stab Rel.kf) ?Zt11a ?Zt11b ?Zt11c (Op.of_eq (Op.ltI Rel.kf (a := (idx (ranks.getD p.toNat []) o : Nat)) (b := (idx (ranks.getD p.toNat []) q : Nat))) (congrArg D.bool (decide_eq_false (by lia))))
      case Zt11a => with_unfolding_all rfl
      case Zt11b =>
        refine' Ev.indexI Rel.kf (St.stab Rel.kf) (by rfl) (by rfl) (by rfl) (fun _ => rfl) ?Zt11d ?Zt11e j1.1 j1.2 rlen2
        case Zt11d => wtm_at "g"
        case Zt11e => wtm_at "g"
      case Zt11c =>
        refine' Ev.indexI Rel.kf (St.stab Rel.kf) (by rfl) (by rfl) (by rfl) (fun _ => rfl) ?Zt11f ?Zt11g j2.1 j2.2 rlen2
        case Zt11f => wtm_at "g"
        case Zt11g => wtm_at "g"
    case Zf11 => (unfold askedEnd3; rw [if_neg (by simpa using hq), if_neg hl])
    case Ze11 => wtm_at "g"
end
end
section
variable {X : Addr → Prop}
theorem lt_of_le_ne {a b : Int} (h : a ≤ b) (n : a ≠ b) : a < b := by omega
-- one of the four
noncomputable def I4 (x : Int) : Prop := 0 ≤ x ∧ x < 4
theorem I4.nat {x : Int} (h : I4 x) : ∃ n : Fin 4, x = n := ⟨⟨x.toNat, by have := h.1; have := h.2; omega⟩, (Int.toNat_of_nonneg h.1).symm⟩
theorem four_pig {x a b c d : Int} (hx : I4 x) (ha : I4 a) (hb : I4 b) (hc : I4 c) (hd : I4 d) (ab : a ≠ b) (ac : a ≠ c) (ad : a ≠ d) (bc : b ≠ c) (bd : b ≠ d) (cd : c ≠ d) : x = a ∨ x = b ∨ x = c ∨ x = d := by
  obtain ⟨x, rfl⟩ := hx.nat
  obtain ⟨a, rfl⟩ := ha.nat
  obtain ⟨b, rfl⟩ := hb.nat
  obtain ⟨c, rfl⟩ := hc.nat
  obtain ⟨d, rfl⟩ := hd.nat
  revert ab ac ad bc bd cd
  clear hx ha hb hc hd
  revert x a b c d
  decide +kernel
-- files and classes, with their likings
structure Inst (Wi ix rk wo : Int → Int → Int) : Prop where
  wv : ∀ {x k}, I4 x → I4 k → I4 (Wi x k)
  xw : ∀ {x k}, I4 x → I4 k → ix x (Wi x k) = k
  xv : ∀ {x p}, I4 x → I4 p → I4 (ix x p)
  wx : ∀ {x p}, I4 x → I4 p → Wi x (ix x p) = p
  rw : ∀ {p i j}, I4 p → I4 i → I4 j → rk p i < rk p j → wo p j < wo p i
  ri : ∀ {p i j}, I4 p → I4 i → I4 j → rk p i = rk p j → i = j
-- a stable way
structure Stb (Wi ix wo : Int → Int → Int) (V : Int → Int) : Prop where
  val : ∀ {x}, I4 x → I4 (V x)
  inj : ∀ {x y}, I4 x → I4 y → V x = V y → x = y
  sur : ∀ {p}, I4 p → ∃ y, I4 y ∧ V y = p
  nob : ∀ {x y k}, I4 x → I4 y → 0 ≤ k → k < ix x (V x) → Wi x k = V y → wo (V y) x ≤ wo (V y) y
structure Inv (Wi ix rk wo : Int → Int → Int) (F : List Int) (T H : Int → Int) : Prop where
  nd : F.Nodup
  fv : ∀ {x}, x ∈ F → I4 x
  tb : ∀ {x}, I4 x → 0 ≤ T x ∧ T x ≤ 4
  hb : ∀ {p}, I4 p → H p = -1 ∨ (I4 (H p) ∧ H p ∉ F ∧ 1 ≤ T (H p) ∧ Wi (H p) (T (H p) - 1) = p)
  ah : ∀ {x}, I4 x → x ∈ F ∨ ∃ p, I4 p ∧ H p = x
  as : ∀ {x k}, I4 x → 0 ≤ k → k < T x → I4 (H (Wi x k)) ∧ rk (Wi x k) (H (Wi x k)) ≤ rk (Wi x k) x
  op : ∀ {V}, Stb Wi ix wo V → ∀ {x}, I4 x → (x ∈ F → T x ≤ ix x (V x)) ∧ T x - 1 ≤ ix x (V x)
section
variable {Wi ix rk wo : Int → Int → Int} {F rest : List Int} {T H : Int → Int} {one : Int}
theorem Inv.hinj (I : Inv Wi ix rk wo F T H) {p q : Int} (hp : I4 p) (hq : I4 q) (h : I4 (H p)) (e : H p = H q) : p = q := by
  rcases I.hb hp with a | ⟨_, _, _, a⟩
  · unfold I4 at h; omega
  · rcases I.hb hq with b | ⟨_, _, _, b⟩
    · unfold I4 at h; omega
    · rw [← a, ← b, e]
theorem Inv.lt4 (J : Inst Wi ix rk wo) (I : Inv Wi ix rk wo F T H) {x : Int} (hx : x ∈ F) : T x < 4 := by
  have x4 := I.fv hx
  have tb := I.tb x4
  refine lt_of_le_ne tb.2 fun e => ?_
  have all : ∀ p, I4 p → I4 (H p) ∧ H p ≠ x := fun p hp => by
    have k4 := J.xv x4 hp
    have := (I.as x4 (k := ix x p) k4.1 (by have := k4.2; omega)).1
    rw [J.wx x4 hp] at this
    refine ⟨this, fun q => ?_⟩
    rcases I.hb hp with a | ⟨_, a, _⟩
    · unfold I4 at this; omega
    · exact a (q ▸ hx)
  have i0 : I4 0 := ⟨by decide, by decide⟩
  have i1 : I4 1 := ⟨by decide, by decide⟩
  have i2 : I4 2 := ⟨by decide, by decide⟩
  have i3 : I4 3 := ⟨by decide, by decide⟩
  have inj : ∀ p q, I4 p → I4 q → p ≠ q → H p ≠ H q := fun p q hp hq n e => n (I.hinj hp hq (all p hp).1 e)
  have := four_pig x4 (all 0 i0).1 (all 1 i1).1 (all 2 i2).1 (all 3 i3).1 (inj 0 1 i0 i1 (by decide)) (inj 0 2 i0 i2 (by decide)) (inj 0 3 i0 i3 (by decide)) (inj 1 2 i1 i2 (by decide)) (inj 1 3 i1 i3 (by decide)) (inj 2 3 i2 i3 (by decide))
  rcases this with a | a | a | a
  · exact (all 0 i0).2 a.symm
  · exact (all 1 i1).2 a.symm
  · exact (all 2 i2).2 a.symm
  · exact (all 3 i3).2 a.symm
-- a file asks a class that has none
theorem Inv.take (J : Inst Wi ix rk wo) (I : Inv Wi ix rk wo F T H) {T' H' : Int → Int} (m1 : ∀ x, x ∈ F ↔ x = one ∨ x ∈ rest) (n1 : one ∉ rest) (n2 : rest.Nodup)
    (hT : ∀ x, I4 x → T' x = if x = one then T x + 1 else T x) (hH : ∀ p, I4 p → H' p = if p = Wi one (T one) then one else H p) (hn : H (Wi one (T one)) = -1) : Inv Wi ix rk wo rest T' H' := by
  have o1 : one ∈ F := (m1 one).mpr (.inl rfl)
  have o4 := I.fv o1
  have t4 : I4 (T one) := ⟨(I.tb o4).1, I.lt4 J o1⟩
  have p4 := J.wv o4 t4
  refine ⟨n2, fun h => I.fv ((m1 _).mpr (.inr h)), ?Ztb, ?Zhb, ?Zah, ?Zas, ?Zop⟩
  case Ztb =>
    intro x hx
    rw [hT x hx]
    have := I.tb hx
    split
    · rename_i e; subst e; unfold I4 at t4; omega
    · exact this
  case Zhb =>
    intro p hp
    rw [hH p hp]
    split
    · rename_i e
      refine .inr ⟨o4, n1, ?_, ?_⟩
      · rw [hT _ o4, if_pos rfl]; unfold I4 at t4; omega
      · rw [hT _ o4, if_pos rfl, e]; congr 1; omega
    · rcases I.hb hp with a | ⟨a, b, c, d⟩
      · exact .inl a
      · have ne : H p ≠ one := fun e => b (e ▸ o1)
        rw [hT _ a, if_neg ne]
        exact .inr ⟨a, fun z => b ((m1 _).mpr (.inr z)), c, d⟩
  case Zah =>
    intro x hx
    by_cases e : x = one
    · refine .inr ⟨Wi one (T one), p4, ?_⟩
      rw [hH _ p4, if_pos rfl, e]
    · rcases I.ah hx with a | ⟨p, hp, a⟩
      · rcases (m1 x).mp a with b | b
        · exact absurd b e
        · exact .inl b
      · refine .inr ⟨p, hp, ?_⟩
        rw [hH _ hp, if_neg (fun z => ?_), a]
        rw [z, hn] at a
        unfold I4 at hx; omega
  case Zas =>
    intro x k hx k0 kl
    rw [hT x hx] at kl
    have tb := I.tb hx
    have k4 : I4 k := by
      unfold I4 at t4 ⊢
      split at kl
      · rename_i e; subst e; omega
      · omega
    have w4 := J.wv hx k4
    rw [hH _ w4]
    split
    · rename_i e
      refine ⟨o4, ?_⟩
      by_cases q : x = one
      · subst q; exact Int.le_refl _
      · rw [if_neg q] at kl
        have := (I.as hx k0 kl).1
        rw [e, hn] at this
        unfold I4 at this; omega
    · rename_i ne
      by_cases q : x = one
      · subst q
        rw [if_pos rfl] at kl
        have : k < T x := by
          refine lt_of_le_ne (by omega) fun e => ne (by rw [e])
        exact I.as hx k0 this
      · rw [if_neg q] at kl
        exact I.as hx k0 kl
  case Zop =>
    intro V hV x hx
    have := I.op hV hx
    rw [hT x hx]
    by_cases q : x = one
    · subst q
      rw [if_pos rfl]
      exact ⟨fun z => absurd z n1, by have := this.1 o1; omega⟩
    · rw [if_neg q]
      exact ⟨fun z => this.1 ((m1 x).mpr (.inr z)), this.2⟩
-- a file asks a class that likes it better than whom it has
theorem Inv.swap (J : Inst Wi ix rk wo) (I : Inv Wi ix rk wo F T H) {T' H' : Int → Int} {ho : Int} (m1 : ∀ x, x ∈ F ↔ x = one ∨ x ∈ rest) (n1 : one ∉ rest) (n2 : rest.Nodup)
    (hT : ∀ x, I4 x → T' x = if x = one then T x + 1 else T x) (hH : ∀ p, I4 p → H' p = if p = Wi one (T one) then one else H p) (hn : H (Wi one (T one)) = ho) (h1 : ho ≠ -1)
    (lt : rk (Wi one (T one)) one < rk (Wi one (T one)) ho) : Inv Wi ix rk wo (rest ++ [ho]) T' H' := by
  have o1 : one ∈ F := (m1 one).mpr (.inl rfl)
  have o4 := I.fv o1
  have t4 : I4 (T one) := ⟨(I.tb o4).1, I.lt4 J o1⟩
  have p4 := J.wv o4 t4
  obtain ⟨h4, hF, ht, hw⟩ : I4 ho ∧ ho ∉ F ∧ 1 ≤ T ho ∧ Wi ho (T ho - 1) = Wi one (T one) := by
    rcases I.hb p4 with a | a
    · exact absurd (hn ▸ a) h1
    · rw [hn] at a; exact a
  have ne : ho ≠ one := fun e => hF (e ▸ o1)
  have nr : ho ∉ rest := fun z => hF ((m1 _).mpr (.inr z))
  have mm : ∀ x, x ∈ rest ++ [ho] ↔ x ∈ rest ∨ x = ho := by simp
  refine ⟨?Znd, ?Zfv, ?Ztb, ?Zhb, ?Zah, ?Zas, ?Zop⟩
  case Znd =>
    rw [List.nodup_append]
    refine ⟨n2, by simp, fun a ha b hb e => ?_⟩
    simp at hb
    subst hb
    exact nr (e ▸ ha)
  case Zfv =>
    intro x hx
    rcases (mm x).mp hx with a | a
    · exact I.fv ((m1 _).mpr (.inr a))
    · exact a ▸ h4
  case Ztb =>
    intro x hx
    rw [hT x hx]
    have := I.tb hx
    split
    · rename_i e; subst e; unfold I4 at t4; omega
    · exact this
  case Zhb =>
    intro p hp
    rw [hH p hp]
    split
    · rename_i e
      refine .inr ⟨o4, ?_, ?_, ?_⟩
      · rw [mm]; intro z; rcases z with z | z
        · exact n1 z
        · exact ne z.symm
      · rw [hT _ o4, if_pos rfl]; unfold I4 at t4; omega
      · rw [hT _ o4, if_pos rfl, e]; congr 1; omega
    · rename_i np
      rcases I.hb hp with a | ⟨a, b, c, d⟩
      · exact .inl a
      · have n3 : H p ≠ one := fun e => b (e ▸ o1)
        rw [hT _ a, if_neg n3]
        refine .inr ⟨a, ?_, c, d⟩
        rw [mm]; intro z; rcases z with z | z
        · exact b ((m1 _).mpr (.inr z))
        · exact np (I.hinj hp p4 a (by rw [hn, z]))
  case Zah =>
    intro x hx
    by_cases e : x = one
    · refine .inr ⟨Wi one (T one), p4, ?_⟩
      rw [hH _ p4, if_pos rfl, e]
    · by_cases e2 : x = ho
      · exact .inl ((mm x).mpr (.inr e2))
      · rcases I.ah hx with a | ⟨p, hp, a⟩
        · rcases (m1 x).mp a with b | b
          · exact absurd b e
          · exact .inl ((mm x).mpr (.inl b))
        · refine .inr ⟨p, hp, ?_⟩
          rw [hH _ hp, if_neg (fun z => ?_), a]
          rw [z, hn] at a
          exact e2 a.symm
  case Zas =>
    intro x k hx k0 kl
    rw [hT x hx] at kl
    have tb := I.tb hx
    have k4 : I4 k := by
      unfold I4 at t4 ⊢
      split at kl
      · rename_i e; subst e; omega
      · omega
    have w4 := J.wv hx k4
    rw [hH _ w4]
    split
    · rename_i e
      refine ⟨o4, ?_⟩
      by_cases q : x = one
      · subst q; exact Int.le_refl _
      · rw [if_neg q] at kl
        have := (I.as hx k0 kl).2
        rw [e, hn] at this
        rw [e]
        omega
    · rename_i np
      by_cases q : x = one
      · subst q
        rw [if_pos rfl] at kl
        have : k < T x := by
          refine lt_of_le_ne (by omega) fun e => np (by rw [e])
        exact I.as hx k0 this
      · rw [if_neg q] at kl
        exact I.as hx k0 kl
  case Zop =>
    intro V hV x hx
    have := I.op hV hx
    rw [hT x hx]
    by_cases q : x = one
    · subst q
      rw [if_pos rfl]
      refine ⟨fun z => ?_, by have := this.1 o1; omega⟩
      rcases (mm x).mp z with z | z
      · exact absurd z n1
      · exact absurd z.symm ne
    · rw [if_neg q]
      refine ⟨fun z => ?_, this.2⟩
      rcases (mm x).mp z with z | z
      · exact this.1 ((m1 x).mpr (.inr z))
      · subst z
        refine Int.not_lt.mp fun l => ?_
        have e1 : ix x (V x) = T x - 1 := by omega
        have tx := I.tb h4
        have k4 : I4 (T x - 1) := ⟨by omega, by omega⟩
        have e2 : V x = Wi one (T one) := by rw [← hw, ← e1, J.wx h4 (hV.val h4)]
        have v1 := (I.op hV o4).1 o1
        have n4 : ix one (V one) ≠ T one := fun e => by
          have : V one = Wi one (T one) := by rw [← e, J.wx o4 (hV.val o4)]
          exact ne (hV.inj h4 o4 (e2.trans this.symm))
        have := hV.nob (x := one) (y := x) (k := T one) o4 h4 t4.1 (by omega) e2.symm
        rw [e2] at this
        have := J.rw p4 o4 h4 lt
        omega
-- a file asks a class that likes whom it has better
theorem Inv.back (J : Inst Wi ix rk wo) (I : Inv Wi ix rk wo F T H) {T' H' : Int → Int} {ho : Int} (m1 : ∀ x, x ∈ F ↔ x = one ∨ x ∈ rest) (n1 : one ∉ rest) (n2 : rest.Nodup)
    (hT : ∀ x, I4 x → T' x = if x = one then T x + 1 else T x) (hH : ∀ p, I4 p → H' p = H p) (hn : H (Wi one (T one)) = ho) (h1 : ho ≠ -1)
    (lt : ¬ rk (Wi one (T one)) one < rk (Wi one (T one)) ho) : Inv Wi ix rk wo (rest ++ [one]) T' H' := by
  have o1 : one ∈ F := (m1 one).mpr (.inl rfl)
  have o4 := I.fv o1
  have t4 : I4 (T one) := ⟨(I.tb o4).1, I.lt4 J o1⟩
  have p4 := J.wv o4 t4
  obtain ⟨h4, hF, ht, hw⟩ : I4 ho ∧ ho ∉ F ∧ 1 ≤ T ho ∧ Wi ho (T ho - 1) = Wi one (T one) := by
    rcases I.hb p4 with a | a
    · exact absurd (hn ▸ a) h1
    · rw [hn] at a; exact a
  have ne : ho ≠ one := fun e => hF (e ▸ o1)
  have mm : ∀ x, x ∈ rest ++ [one] ↔ x ∈ F := fun x => by rw [m1]; simp [or_comm]
  refine ⟨?Znd, ?Zfv, ?Ztb, ?Zhb, ?Zah, ?Zas, ?Zop⟩
  case Znd =>
    rw [List.nodup_append]
    refine ⟨n2, by simp, fun a ha b hb e => ?_⟩
    simp at hb
    subst hb
    exact n1 (e ▸ ha)
  case Zfv => intro x hx; exact I.fv ((mm x).mp hx)
  case Ztb =>
    intro x hx
    rw [hT x hx]
    have := I.tb hx
    split
    · rename_i e; subst e; unfold I4 at t4; omega
    · exact this
  case Zhb =>
    intro p hp
    rw [hH p hp]
    rcases I.hb hp with a | ⟨a, b, c, d⟩
    · exact .inl a
    · have n3 : H p ≠ one := fun e => b (e ▸ o1)
      rw [hT _ a, if_neg n3, mm]
      exact .inr ⟨a, b, c, d⟩
  case Zah =>
    intro x hx
    rcases I.ah hx with a | ⟨p, hp, a⟩
    · exact .inl ((mm x).mpr a)
    · exact .inr ⟨p, hp, by rw [hH _ hp, a]⟩
  case Zas =>
    intro x k hx k0 kl
    rw [hT x hx] at kl
    have tb := I.tb hx
    have k4 : I4 k := by
      unfold I4 at t4 ⊢
      split at kl
      · rename_i e; subst e; omega
      · omega
    have w4 := J.wv hx k4
    rw [hH _ w4]
    by_cases q : x = one
    · subst q
      rw [if_pos rfl] at kl
      by_cases e : k = T x
      · subst e
        rw [hn]
        exact ⟨h4, by omega⟩
      · exact I.as hx k0 (by omega)
    · rw [if_neg q] at kl
      exact I.as hx k0 kl
  case Zop =>
    intro V hV x hx
    have := I.op hV hx
    rw [hT x hx]
    by_cases q : x = one
    · subst q
      rw [if_pos rfl]
      have v1 := this.1 o1
      have key : ix x (V x) ≠ T x := fun e => by
        have e2 : V x = Wi x (T x) := by rw [← e, J.wx o4 (hV.val o4)]
        have v2 := (I.op hV h4).2
        have n4 : ix ho (V ho) ≠ T ho - 1 := fun e3 => by
          have : V ho = Wi ho (T ho - 1) := by rw [← e3, J.wx h4 (hV.val h4)]
          exact ne (hV.inj h4 o4 (by rw [this, hw, e2]))
        have b := hV.nob (x := ho) (y := x) (k := T ho - 1) h4 o4 (by omega) (by omega) (by rw [hw, e2])
        rw [e2] at b
        have lt2 : rk (Wi x (T x)) ho < rk (Wi x (T x)) x := by
          refine lt_of_le_ne (by omega) fun z => ne (J.ri p4 h4 o4 z)
        have := J.rw p4 h4 o4 lt2
        omega
      exact ⟨fun _ => by omega, by omega⟩
    · rw [if_neg q]
      exact ⟨fun z => this.1 ((mm x).mp z), this.2⟩
end
end
section
variable {X : Addr → Prop}
noncomputable abbrev q1 : Str := Str.ofString "\""
noncomputable def loop257 (x : Str) : Nat → Int → Str → Str
  | 0, _, d => d
  | f + 1, i, d => if i < x.length then
      (if Txt.item x i == q1 then (if (decide (i + 1 ≥ x.length) || Txt.item x (i + 1) != q1) then d else loop257 x f (i + 1 + 1) (d ++ Txt.item x i)) else loop257 x f (i + 1) (d ++ Txt.item x i)) else d
section
variable {prog : Program} {w : World} {mg mb : Str → Option Value} {k : Nat} {fr : Option (List Env)}
variable {B : Nat} {l : List Env}
theorem ra_257 {x : Str} (hx : x.length ≤ 1000) (hb : (Txt.slice x none (some 3) != Str.ofString "257") = true) : CaR prog w X B (fun h => Gs w mg mb h ∧ Up X h) ⟨k + 1, fr, true⟩ l (.ref 81) [.str x] 53 x := by
  refine CaR.at 81 80 (names := ["resp"]) (by rfl) (by intro h; cases h) (by rfl) (by rfl) (by rfl) (by rfl) (by intro h; cases h) ⟨_, _, by rfl, by rfl⟩ (by rfl) (by rfl) (by rfl) (by rfl) (by kernel_rfl) (by rfl)
    (len1 (fun a0 => by kernel_rfl)) (fun n => allC (.inl (by rfl)) all0) fun h₀ G => ?_
  refine' ExM.ifT Rel.kf ?Zt ?Zb
  case Zt =>
    refine' Tr.cmp Rel.kf (St.stab Rel.kf) ?Zm ?Za ?Zc (Op.of_eq (Op.neS Rel.kf) (congrArg D.bool hb))
    case Zm => with_unfolding_all rfl
    case Za => wtm_at "g"
    case Zc => wtm_at "g"
  case Zb =>
    refine' ExM.raise (fun h S => (St.gh Rel.kf Gs.stat S).exc53) ?Zn (fun _ => rfl) ?Ze (by rfl)
    case Zn => wtm_at "fn"
    case Ze => wtm_at "g"
noncomputable def rho257 (x : Str) (i : Int) (d : Str) : Rho := upd (upd (upd (upd (fun _ => none) "resp" (.str x)) "n" (.int x.length)) "i" (.int i)) "dirname" (.str d)
theorem ext257 {x : Str} {i : Int} {d : Str} {ρ : Rho} (h1 : ρ "resp" = some (.str x)) (h2 : ρ "n" = some (.int x.length)) (h3 : ρ "i" = some (.int i)) (h4 : ρ "dirname" = some (.str d)) : ∀ y e, rho257 x i d y = some e → ρ y = some e := by
  intro y e h
  unfold rho257 upd at h
  split at h
  · rename_i q; subst q; cases h; exact h4
  · split at h
    · rename_i q; subst q; cases h; exact h3
    · split at h
      · rename_i q; subst q; cases h; exact h2
      · split at h
        · rename_i q; subst q; cases h; exact h1
        · cases h
noncomputable def whTest : List Stmt → Expr
  | .While t _ _ _ :: _ => t
  | _ => .Constant .none 0 ⟨0, 0, 0, 0⟩
noncomputable def whBody : List Stmt → List Stmt
  | .While _ b _ _ :: _ => b
  | _ => []
noncomputable def ifBody : List Stmt → List Stmt
  | .If _ b _ _ :: _ => b
  | _ => []
theorem Ex.pre {prog : Program} {w : World} {R : Heap → Heap → Prop} {G : Heap → Prop} {k : Room} {h₀ : Heap} {env : Env} {ρ ρ' : Rho} {ss : List Stmt} {o : Out} (hw : ∀ x d, ρ' x = some d → ρ x = some d) (h : Ex prog w X R G k h₀ env ρ' ss o) : Ex prog w X R G k h₀ env ρ ss o :=
  .mk fun A s Q E ok S q => h.run A s Q E ok (S.weak hw) q
theorem wh257 {x : Str} (hx : x.length ≤ 1000) {h₀ : Heap} {fr2 : Option (List Env)} : ∀ (f : Nat) (i : Int) (d : Str), 0 ≤ i → (x.length : Int) - i ≤ f → (d.length : Int) ≤ i →
    Wh prog w X Kf (Gs w mg mb) ⟨k, fr2, true⟩ h₀ (callEnvC (fdAt w 81) h₀.objs.size 81) (whTest ((bodyAt w 81).drop 5)) (whBody ((bodyAt w 81).drop 5)) (.next (upd (fun _ => none) "dirname" (.str (loop257 x f i d)))) f (rho257 x i d) := by
  have len1 : (Str.ofString "\"").length = 1 := by decide +kernel
  have stop : ∀ (i : Int) (d : Str) (ρ : Rho), ρ "dirname" = some (.str d) → ∀ y e, upd (fun _ => none) "dirname" (.str d) y = some e → ρ y = some e := fun i d ρ h y e q => by
    unfold upd at q
    split at q
    · rename_i z; subst z; cases q; exact h
    · cases q
  intro f
  induction f with
  | zero =>
    intro i d h0 hf hd
    refine .done ?_ (stop i d _ (by rfl)) rfl
    refine' Tr.cmp Rel.kf (St.stab Rel.kf) ?Zm ?Za ?Zc (Op.of_eq (Op.ltI Rel.kf (a := i) (b := x.length)) (congrArg D.bool (decide_eq_false (by omega))))
    case Zm => with_unfolding_all rfl
    case Za => wtm_at "g"
    case Zc => wtm_at "g"
  | succ f ih =>
    intro i d h0 hf hd
    by_cases hi : i < x.length
    · have tt : Tr prog w Kf (St X Kf (Gs w mg mb) h₀ (callEnvC (fdAt w 81) h₀.objs.size 81) (rho257 x i d)) ⟨k, fr2, true⟩ (callEnvC (fdAt w 81) h₀.objs.size 81) (whTest ((bodyAt w 81).drop 5)) true := by
        refine' Tr.cmp Rel.kf (St.stab Rel.kf) ?Zm ?Za ?Zc (Op.of_eq (Op.ltI Rel.kf (a := i) (b := x.length)) (congrArg D.bool (decide_eq_true (by omega))))
        case Zm => with_unfolding_all rfl
        case Za => wtm_at "g"
        case Zc => wtm_at "g"
      have szd : (d ++ Txt.item x i).length ≤ sizeLine := by rw [len_app, len_item]; simp only [sizeLine]; omega
      have szx : x.length ≤ sizeLine := by simp only [sizeLine]; omega
      have or_ : ∀ (c : Str) (b : Bool), b = (decide (i + 1 ≥ x.length) || Txt.item x (i + 1) != q1) → Tr prog w Kf (St X Kf (Gs w mg mb) h₀ (callEnvC (fdAt w 81) h₀.objs.size 81) (upd (upd (rho257 x i d) "c" (.str c)) "i" (.int (i + 1)))) ⟨k, fr2, true⟩ (callEnvC (fdAt w 81) h₀.objs.size 81) (ifTest (ifBody ((whBody ((bodyAt w 81).drop 5)).drop 2))) b := by
        intro c b hb
        subst hb
        refine Tr.or2 Rel.kf (St.stab Rel.kf) (ca := decide (i + 1 ≥ x.length)) ?Zoa (fun hn => ?Zob)
        case Zoa =>
          refine' Tr.cmp Rel.kf (St.stab Rel.kf) ?Zm1 ?Za1 ?Zc1 (Op.geI Rel.kf (a := i + 1) (b := x.length))
          case Zm1 => with_unfolding_all rfl
          case Za1 => wtm_at "g"
          case Zc1 => wtm_at "g"
        case Zob =>
          have hn' : i + 1 < x.length := by have := of_decide_eq_false hn; omega
          wtm_at "g"
      by_cases hq : (Txt.item x i == q1) = true
      · cases hn : (decide (i + 1 ≥ x.length) || Txt.item x (i + 1) != q1) with
        | true =>
          refine .brk (ρ' := upd (upd (rho257 x i d) "c" (.str (Txt.item x i))) "i" (.int (i + 1))) tt ?Zbody1 (stop i _ _ ?Zst1) rfl
          case Zst1 => rw [loop257, if_pos hi, if_pos hq, if_pos hn]; rfl
          case Zbody1 =>
            ((refine' Ex.cons (Ex1.assign (by wtm_at "rr") ?Ze ?Zs ?Zw) ?_); (case Zw => rfl); (case Ze => wtm_at "g"); (case Zs => wtm_at "sto"))
            ((refine' Ex.cons (Ex1.assign (by wtm_at "rr") ?Ze ?Zs ?Zw) ?_); (case Zw => rfl); (case Ze => wtm_at "g"); (case Zs => wtm_at "sto"))
            refine' Ex.brk (Ex1.ifs Rel.kf (c := true) ?Zt1 (fun _ => Ex.brk (Ex1.ifs Rel.kf (c := true) (or_ _ _ hn.symm) (fun _ => Ex.brk Ex1.brk0) (fun h => by cases h))) (fun h => by cases h))
            case Zt1 =>
              refine' Tr.cmp Rel.kf (St.stab Rel.kf) ?Zm2 ?Za2 ?Zc2 (Op.of_eq (Op.eqS Rel.kf) (congrArg D.bool hq))
              case Zm2 => with_unfolding_all rfl
              case Za2 => wtm_at "g"
              case Zc2 => wtm_at "g"
        | false =>
          have e : loop257 x (f + 1) i d = loop257 x f (i + 1 + 1) (d ++ Txt.item x i) := by rw [loop257, if_pos hi, if_pos hq, if_neg (by rw [hn]; decide)]
          rw [e]
          refine .turn (ρ' := rho257 x (i + 1 + 1) (d ++ Txt.item x i)) tt ?Zbody2 (ih _ _ (by omega) (by omega) (by rw [len_app, len_item]; omega))
          case Zbody2 =>
            refine' Ex.weak (ext257 (ρ := upd (upd (upd (upd (rho257 x i d) "c" (.str (Txt.item x i))) "i" (.int (i + 1))) "i" (.int (i + 1 + 1))) "dirname" (.str (d ++ Txt.item x i))) (by rfl) (by rfl) (by rfl) (by rfl)) ?Zbody3
            ((refine' Ex.cons (Ex1.assign (by wtm_at "rr") ?Ze ?Zs ?Zw) ?_); (case Zw => rfl); (case Ze => wtm_at "g"); (case Zs => wtm_at "sto"))
            ((refine' Ex.cons (Ex1.assign (by wtm_at "rr") ?Ze ?Zs ?Zw) ?_); (case Zw => rfl); (case Ze => wtm_at "g"); (case Zs => wtm_at "sto"))
            refine' Ex.cons (ρ' := upd (upd (upd (rho257 x i d) "c" (.str (Txt.item x i))) "i" (.int (i + 1))) "i" (.int (i + 1 + 1))) (Ex1.ifs Rel.kf (c := true) ?Zt3 (fun _ => Ex.cons (Ex1.ifs Rel.kf (c := false) (or_ _ _ hn.symm) (fun h => by cases h) (fun _ => Ex.nil)) ?Zin3) (fun h => by cases h)) ?Zout3
            case Zt3 =>
              refine' Tr.cmp Rel.kf (St.stab Rel.kf) ?Zm3 ?Za3 ?Zc3 (Op.of_eq (Op.eqS Rel.kf) (congrArg D.bool hq))
              case Zm3 => with_unfolding_all rfl
              case Za3 => wtm_at "g"
              case Zc3 => wtm_at "g"
            case Zin3 =>
              ((refine' Ex.cons (Ex1.assign (by wtm_at "rr") ?Ze ?Zs ?Zw) ?_); (case Zw => rfl); (case Ze => wtm_at "g"); (case Zs => wtm_at "sto"))
              exact Ex.nil
            case Zout3 =>
              ((refine' Ex.cons (Ex1.assign (by wtm_at "rr") ?Ze ?Zs ?Zw) ?_); (case Zw => rfl); (case Ze => wtm_at "g"); (case Zs => wtm_at "sto"))
              exact Ex.nil
      · have e : loop257 x (f + 1) i d = loop257 x f (i + 1) (d ++ Txt.item x i) := by rw [loop257, if_pos hi, if_neg hq]
        rw [e]
        refine .turn (ρ' := rho257 x (i + 1) (d ++ Txt.item x i)) tt ?Zbody4 (ih _ _ (by omega) (by omega) (by rw [len_app, len_item]; omega))
        case Zbody4 =>
          refine' Ex.weak (ext257 (ρ := upd (upd (upd (rho257 x i d) "c" (.str (Txt.item x i))) "i" (.int (i + 1))) "dirname" (.str (d ++ Txt.item x i))) (by rfl) (by rfl) (by rfl) (by rfl)) ?Zbody5
          ((refine' Ex.cons (Ex1.assign (by wtm_at "rr") ?Ze ?Zs ?Zw) ?_); (case Zw => rfl); (case Ze => wtm_at "g"); (case Zs => wtm_at "sto"))
          ((refine' Ex.cons (Ex1.assign (by wtm_at "rr") ?Ze ?Zs ?Zw) ?_); (case Zw => rfl); (case Ze => wtm_at "g"); (case Zs => wtm_at "sto"))
          refine' Ex.cons (Ex1.ifs Rel.kf (c := false) ?Zt5 (fun h => by cases h) (fun _ => Ex.nil)) ?Zout5
          case Zt5 =>
            refine' Tr.cmp Rel.kf (St.stab Rel.kf) ?Zm5 ?Za5 ?Zc5 (Op.of_eq (Op.eqS Rel.kf) (congrArg D.bool (by simpa using hq)))
            case Zm5 => with_unfolding_all rfl
            case Za5 => wtm_at "g"
            case Zc5 => wtm_at "g"
          case Zout5 =>
            ((refine' Ex.cons (Ex1.assign (by wtm_at "rr") ?Ze ?Zs ?Zw) ?_); (case Zw => rfl); (case Ze => wtm_at "g"); (case Zs => wtm_at "sto"))
            exact Ex.nil
    · refine .done ?_ (stop i _ _ ?_) rfl
      · refine' Tr.cmp Rel.kf (St.stab Rel.kf) ?Zm ?Za ?Zc (Op.of_eq (Op.ltI Rel.kf (a := i) (b := x.length)) (congrArg D.bool (decide_eq_false (by omega))))
        case Zm => with_unfolding_all rfl
        case Za => wtm_at "g"
        case Zc => wtm_at "g"
      · rw [loop257, if_neg hi]; rfl
theorem ca_257 {x : Str} (hx : x.length ≤ 1000) (hb : (Txt.slice x none (some 3) != Str.ofString "257") = false) (h5 : (Txt.slice x (some 3) (some 5) != Str.ofString " \"") = false) : Ca prog w X Kf (fun h => Gs w mg mb h ∧ Up X h) ⟨k + 1, fr, true⟩ (.ref 81) [.str x] (.str (loop257 x x.length 5 (Str.ofString ""))) := by
  refine Ca.at 81 80 (names := ["resp"]) (by rfl) (by intro h; cases h) (by rfl) (by rfl) (by rfl) (by rfl) (by intro h; cases h) ⟨_, _, by rfl, by rfl⟩ (by rfl) (by rfl) (by rfl) (by rfl) (by kernel_rfl) (by rfl)
    (len1 (fun a0 => by kernel_rfl)) (fun n => allC (.inl (by rfl)) all0) fun h₀ G => ?_
  have e0 : ((Str.ofString "").length : Int) ≤ 5 := by decide +kernel
  have szx : x.length ≤ sizeLine := by simp only [sizeLine]; omega
  refine' Ex.cons (Ex1.ifs Rel.kf (c := false) ?Zt1 (fun h => by cases h) (fun _ => Ex.nil)) ?Zr1
  case Zt1 =>
    refine' Tr.cmp Rel.kf (St.stab Rel.kf) ?Zm1 ?Za1 ?Zc1 (Op.of_eq (Op.neS Rel.kf) (congrArg D.bool hb))
    case Zm1 => with_unfolding_all rfl
    case Za1 => wtm_at "g"
    case Zc1 => wtm_at "g"
  case Zr1 =>
  refine' Ex.cons (Ex1.ifs Rel.kf (c := false) ?Zt2 (fun h => by cases h) (fun _ => Ex.nil)) ?Zr2
  case Zt2 =>
    refine' Tr.cmp Rel.kf (St.stab Rel.kf) ?Zm2 ?Za2 ?Zc2 (Op.of_eq (Op.neS Rel.kf) (congrArg D.bool h5))
    case Zm2 => with_unfolding_all rfl
    case Za2 => wtm_at "g"
    case Zc2 => wtm_at "g"
  case Zr2 =>
  ((refine' Ex.cons (Ex1.assign (by wtm_at "rr") ?Ze ?Zs ?Zw) ?_); (case Zw => rfl); (case Ze => wtm_at "g"); (case Zs => wtm_at "sto"))
  ((refine' Ex.cons (Ex1.assign (by wtm_at "rr") ?Ze ?Zs ?Zw) ?_); (case Zw => rfl); (case Ze => wtm_at "g"); (case Zs => wtm_at "sto"))
  refine' Ex.cons (Ex1.assign Rel.kf ?Ze3 ?Zs3 ?Zw3) ?Zr3
  case Zw3 => rfl
  case Ze3 =>
    refine' Ev.callB Rel.kf (St.stab Rel.kf) ?Zf3 (fun _ => rfl) (fun _ => rfl) ?Zg3 (Ca.lenS Rel.kf szx)
    case Zf3 => wtm_at "fn"
    case Zg3 => wtm_at "g"
  case Zs3 => wtm_at "sto"
  case Zr3 =>
  refine' Ex.pre (ext257 (x := x) (i := 5) (d := Str.ofString "") (by rfl) (by rfl) (by rfl) (by rfl)) ?Zr33
  case Zr33 =>
  refine' Ex.cons (Ex1.whiles Rel.kf (wh257 (k := k) hx x.length 5 (Str.ofString "") (by decide) (by omega) e0)) ?Zr4
  case Zr4 =>
  refine' Ex.ret (Ex1.ret Rel.kf ?Ze4)
  case Ze4 => wtm_at "g"
end
end
section
variable {X : Addr → Prop}
noncomputable def find3 (x y : Str) (j : Int) : Int := match Builtin.Str.occurrences x y (fromIndex x.length j) x.length 1 with | i :: _ => (i : Int) | [] => -1
noncomputable abbrev lf (x : Str) : Int := Txt.find x (Str.ofString "(")
noncomputable abbrev rt (x : Str) : Int := find3 x (Str.ofString ")") (lf x + 1)
noncomputable abbrev pts (x : Str) : List Str := Txt.split (Txt.slice x (some (lf x + 1)) (some (rt x))) (Txt.item x (lf x + 1))
section
variable {prog : Program} {w : World} {mg mb : Str → Option Value} {k : Nat} {fr : Option (List Env)}
variable {B : Nat} {l : List Env}
theorem ra_229_0 {x : Str} {host : Str} {p0 : Int} (hx : x.length ≤ 1000) (h0 : (Txt.slice x none (some 3) != Str.ofString "229") = true) : CaR prog w X B (fun h => Gs w mg mb h ∧ Up X h) ⟨k + 1, fr, true⟩ l (.ref 74) [.str x, .tup [.str host, .int p0]] 53 x := by
  refine CaR.at 74 73 (names := ["resp", "peer"]) (by rfl) (by intro h; cases h) (by rfl) (by rfl) (by rfl) (by rfl) (by intro h; cases h) ⟨_, _, by rfl, by rfl⟩ (by rfl) (by rfl) (by rfl) (by rfl) (by kernel_rfl) (by rfl)
    (len2 (fun a0 a1 => by kernel_rfl)) (fun n => allC (.inl (by rfl)) (allC (.inl (by rfl)) all0)) fun h₀ G => ?_
  have szx : x.length ≤ sizeLine := by simp only [sizeLine]; omega
  refine' ExM.ifT Rel.kf ?Zt0 ?Zb0
  case Zt0 =>
    refine' Tr.cmp (X := X) Rel.kf (St.stab Rel.kf) ?Zm0 ?Za0 ?Zc0 (Op.of_eq (Op.neS Rel.kf) (congrArg D.bool h0))
    case Zm0 => with_unfolding_all rfl
    case Za0 => wtm_at "g"
    case Zc0 => wtm_at "g"
  case Zb0 =>
    refine' ExM.raise (fun h S => (St.gh Rel.kf Gs.stat S).exc53) ?Zn (fun _ => rfl) ?Ze (by rfl)
    case Zn => wtm_at "fn"
    case Ze => wtm_at "g"
theorem ra_229_1 {x : Str} {host : Str} {p0 : Int} (hx : x.length ≤ 1000) (h0 : (Txt.slice x none (some 3) != Str.ofString "229") = false) (h1 : decide (lf x < 0) = true) : CaR prog w X B (fun h => Gs w mg mb h ∧ Up X h) ⟨k + 1, fr, true⟩ l (.ref 74) [.str x, .tup [.str host, .int p0]] 65 x := by
  refine CaR.at 74 73 (names := ["resp", "peer"]) (by rfl) (by intro h; cases h) (by rfl) (by rfl) (by rfl) (by rfl) (by intro h; cases h) ⟨_, _, by rfl, by rfl⟩ (by rfl) (by rfl) (by rfl) (by rfl) (by kernel_rfl) (by rfl)
    (len2 (fun a0 a1 => by kernel_rfl)) (fun n => allC (.inl (by rfl)) (allC (.inl (by rfl)) all0)) fun h₀ G => ?_
  have szx : x.length ≤ sizeLine := by simp only [sizeLine]; omega
  refine' ExM.cons (Ex1.ifs Rel.kf (c := false) ?Zt0 (fun h => by cases h) (fun _ => Ex.nil)) ?Zr0
  case Zt0 =>
    refine' Tr.cmp (X := X) Rel.kf (St.stab Rel.kf) ?Zm0 ?Za0 ?Zc0 (Op.of_eq (Op.neS Rel.kf) (congrArg D.bool h0))
    case Zm0 => with_unfolding_all rfl
    case Za0 => wtm_at "g"
    case Zc0 => wtm_at "g"
  case Zr0 =>
  refine' ExM.cons (Ex1.assign Rel.kf (d := .int (lf x)) ?Ze1 ?Zs1 ?Zw1) ?Zr1
  case Zw1 => rfl
  case Ze1 =>
    refine' Ev.meth Rel.kf (St.stab Rel.kf) (by rfl) (by rfl) (by rfl) F.plainAttrs_str F.slot_str_find F.type_str_find (typeStr _) (fun _ => rfl) (by rfl) ?Zv1 ?Zl1 (Ca.find Rel.kf)
    case Zv1 => wtm_at "g"
    case Zl1 => wtm_at "g"
  case Zs1 => wtm_at "sto"
  case Zr1 =>
  refine' ExM.ifT Rel.kf ?Zt2 ?Zb2
  case Zt2 =>
    refine' Tr.cmp (X := X) Rel.kf (St.stab Rel.kf) ?Zm2 ?Za2 ?Zc2 (Op.of_eq (Op.ltI Rel.kf (a := lf x) (b := 0)) (congrArg D.bool h1))
    case Zm2 => with_unfolding_all rfl
    case Za2 => wtm_at "g"
    case Zc2 => wtm_at "g"
  case Zb2 =>
    refine' ExM.raise (fun h S => (St.gh Rel.kf Gs.stat S).exc65) ?Zn (fun _ => rfl) ?Ze (by rfl)
    case Zn => wtm_at "fn"
    case Ze => wtm_at "g"
theorem ra_229_2 {x : Str} {host : Str} {p0 : Int} (hx : x.length ≤ 1000) (h0 : (Txt.slice x none (some 3) != Str.ofString "229") = false) (h1 : decide (lf x < 0) = false) (hl : lf x + 1 < x.length) (h2 : decide (rt x < 0) = true) : CaR prog w X B (fun h => Gs w mg mb h ∧ Up X h) ⟨k + 1, fr, true⟩ l (.ref 74) [.str x, .tup [.str host, .int p0]] 65 x := by
  refine CaR.at 74 73 (names := ["resp", "peer"]) (by rfl) (by intro h; cases h) (by rfl) (by rfl) (by rfl) (by rfl) (by intro h; cases h) ⟨_, _, by rfl, by rfl⟩ (by rfl) (by rfl) (by rfl) (by rfl) (by kernel_rfl) (by rfl)
    (len2 (fun a0 a1 => by kernel_rfl)) (fun n => allC (.inl (by rfl)) (allC (.inl (by rfl)) all0)) fun h₀ G => ?_
  have szx : x.length ≤ sizeLine := by simp only [sizeLine]; omega
  have l0 := of_decide_eq_false h1
  refine' ExM.cons (Ex1.ifs Rel.kf (c := false) ?Zt0 (fun h => by cases h) (fun _ => Ex.nil)) ?Zr0
  case Zt0 =>
    refine' Tr.cmp (X := X) Rel.kf (St.stab Rel.kf) ?Zm0 ?Za0 ?Zc0 (Op.of_eq (Op.neS Rel.kf) (congrArg D.bool h0))
    case Zm0 => with_unfolding_all rfl
    case Za0 => wtm_at "g"
    case Zc0 => wtm_at "g"
  case Zr0 =>
  refine' ExM.cons (Ex1.assign Rel.kf (d := .int (lf x)) ?Ze1 ?Zs1 ?Zw1) ?Zr1
  case Zw1 => rfl
  case Ze1 =>
    refine' Ev.meth Rel.kf (St.stab Rel.kf) (by rfl) (by rfl) (by rfl) F.plainAttrs_str F.slot_str_find F.type_str_find (typeStr _) (fun _ => rfl) (by rfl) ?Zv1 ?Zl1 (Ca.find Rel.kf)
    case Zv1 => wtm_at "g"
    case Zl1 => wtm_at "g"
  case Zs1 => wtm_at "sto"
  case Zr1 =>
  refine' ExM.cons (Ex1.ifs Rel.kf (c := false) ?Zt2 (fun h => by cases h) (fun _ => Ex.nil)) ?Zr2
  case Zt2 =>
    refine' Tr.cmp (X := X) Rel.kf (St.stab Rel.kf) ?Zm2 ?Za2 ?Zc2 (Op.of_eq (Op.ltI Rel.kf (a := lf x) (b := 0)) (congrArg D.bool h1))
    case Zm2 => with_unfolding_all rfl
    case Za2 => wtm_at "g"
    case Zc2 => wtm_at "g"
  case Zr2 =>
  refine' ExM.cons (Ex1.assign Rel.kf (d := .int (rt x)) ?Ze3 ?Zs3 ?Zw3) ?Zr3
  case Zw3 => rfl
  case Ze3 =>
    refine' Ev.meth Rel.kf (St.stab Rel.kf) (by rfl) (by rfl) (by rfl) F.plainAttrs_str F.slot_str_find F.type_str_find (typeStr _) (fun _ => rfl) (by rfl) ?Zv3 ?Zl3 (Ca.find3 Rel.kf)
    case Zv3 => wtm_at "g"
    case Zl3 => wtm_at "g"
  case Zs3 => wtm_at "sto"
  case Zr3 =>
  refine' ExM.ifT Rel.kf ?Zt4 ?Zb4
  case Zt4 =>
    refine' Tr.cmp (X := X) Rel.kf (St.stab Rel.kf) ?Zm4 ?Za4 ?Zc4 (Op.of_eq (Op.ltI Rel.kf (a := rt x) (b := 0)) (congrArg D.bool h2))
    case Zm4 => with_unfolding_all rfl
    case Za4 => wtm_at "g"
    case Zc4 => wtm_at "g"
  case Zb4 =>
    refine' ExM.raise (fun h S => (St.gh Rel.kf Gs.stat S).exc65) ?Zn (fun _ => rfl) ?Ze (by rfl)
    case Zn => wtm_at "fn"
    case Ze => wtm_at "g"
theorem ra_229_3 {x : Str} {host : Str} {p0 : Int} (hx : x.length ≤ 1000) (h0 : (Txt.slice x none (some 3) != Str.ofString "229") = false) (h1 : decide (lf x < 0) = false) (hl : lf x + 1 < x.length) (h2 : decide (rt x < 0) = false) (hr : 1 ≤ rt x) (hr2 : rt x ≤ x.length) (h3 : (Txt.item x (lf x + 1) != Txt.item x (rt x - 1)) = true) : CaR prog w X B (fun h => Gs w mg mb h ∧ Up X h) ⟨k + 1, fr, true⟩ l (.ref 74) [.str x, .tup [.str host, .int p0]] 65 x := by
  refine CaR.at 74 73 (names := ["resp", "peer"]) (by rfl) (by intro h; cases h) (by rfl) (by rfl) (by rfl) (by rfl) (by intro h; cases h) ⟨_, _, by rfl, by rfl⟩ (by rfl) (by rfl) (by rfl) (by rfl) (by kernel_rfl) (by rfl)
    (len2 (fun a0 a1 => by kernel_rfl)) (fun n => allC (.inl (by rfl)) (allC (.inl (by rfl)) all0)) fun h₀ G => ?_
  have szx : x.length ≤ sizeLine := by simp only [sizeLine]; omega
  have l0 := of_decide_eq_false h1
  refine' ExM.cons (Ex1.ifs Rel.kf (c := false) ?Zt0 (fun h => by cases h) (fun _ => Ex.nil)) ?Zr0
  case Zt0 =>
    refine' Tr.cmp (X := X) Rel.kf (St.stab Rel.kf) ?Zm0 ?Za0 ?Zc0 (Op.of_eq (Op.neS Rel.kf) (congrArg D.bool h0))
    case Zm0 => with_unfolding_all rfl
    case Za0 => wtm_at "g"
    case Zc0 => wtm_at "g"
  case Zr0 =>
  refine' ExM.cons (Ex1.assign Rel.kf (d := .int (lf x)) ?Ze1 ?Zs1 ?Zw1) ?Zr1
  case Zw1 => rfl
  case Ze1 =>
    refine' Ev.meth Rel.kf (St.stab Rel.kf) (by rfl) (by rfl) (by rfl) F.plainAttrs_str F.slot_str_find F.type_str_find (typeStr _) (fun _ => rfl) (by rfl) ?Zv1 ?Zl1 (Ca.find Rel.kf)
    case Zv1 => wtm_at "g"
    case Zl1 => wtm_at "g"
  case Zs1 => wtm_at "sto"
  case Zr1 =>
  refine' ExM.cons (Ex1.ifs Rel.kf (c := false) ?Zt2 (fun h => by cases h) (fun _ => Ex.nil)) ?Zr2
  case Zt2 =>
    refine' Tr.cmp (X := X) Rel.kf (St.stab Rel.kf) ?Zm2 ?Za2 ?Zc2 (Op.of_eq (Op.ltI Rel.kf (a := lf x) (b := 0)) (congrArg D.bool h1))
    case Zm2 => with_unfolding_all rfl
    case Za2 => wtm_at "g"
    case Zc2 => wtm_at "g"
  case Zr2 =>
  refine' ExM.cons (Ex1.assign Rel.kf (d := .int (rt x)) ?Ze3 ?Zs3 ?Zw3) ?Zr3
  case Zw3 => rfl
  case Ze3 =>
    refine' Ev.meth Rel.kf (St.stab Rel.kf) (by rfl) (by rfl) (by rfl) F.plainAttrs_str F.slot_str_find F.type_str_find (typeStr _) (fun _ => rfl) (by rfl) ?Zv3 ?Zl3 (Ca.find3 Rel.kf)
    case Zv3 => wtm_at "g"
    case Zl3 => wtm_at "g"
  case Zs3 => wtm_at "sto"
  case Zr3 =>
  refine' ExM.cons (Ex1.ifs Rel.kf (c := false) ?Zt4 (fun h => by cases h) (fun _ => Ex.nil)) ?Zr4
  case Zt4 =>
    refine' Tr.cmp (X := X) Rel.kf (St.stab Rel.kf) ?Zm4 ?Za4 ?Zc4 (Op.of_eq (Op.ltI Rel.kf (a := rt x) (b := 0)) (congrArg D.bool h2))
    case Zm4 => with_unfolding_all rfl
    case Za4 => wtm_at "g"
    case Zc4 => wtm_at "g"
  case Zr4 =>
  refine' ExM.ifT Rel.kf ?Zt5 ?Zb5
  case Zt5 =>
    refine' Tr.cmp (X := X) Rel.kf (St.stab Rel.kf) ?Zm5 ?Za5 ?Zc5 (Op.of_eq (Op.neS Rel.kf) (congrArg D.bool h3))
    case Zm5 => with_unfolding_all rfl
    case Za5 => wtm_at "g"
    case Zc5 => wtm_at "g"
  case Zb5 =>
    refine' ExM.raise (fun h S => (St.gh Rel.kf Gs.stat S).exc65) ?Zn (fun _ => rfl) ?Ze (by rfl)
    case Zn => wtm_at "fn"
    case Ze => wtm_at "g"
theorem ra_229_4 {x : Str} {host : Str} {p0 : Int} (hx : x.length ≤ 1000) (h0 : (Txt.slice x none (some 3) != Str.ofString "229") = false) (h1 : decide (lf x < 0) = false) (hl : lf x + 1 < x.length) (h2 : decide (rt x < 0) = false) (hr : 1 ≤ rt x) (hr2 : rt x ≤ x.length) (h3 : (Txt.item x (lf x + 1) != Txt.item x (rt x - 1)) = false) (hz : (Txt.slice x (some (lf x + 1)) (some (rt x))).length ≤ sizeLine) (hz2 : (Builtin.Str.partsBetween (Txt.slice x (some (lf x + 1)) (some (rt x))) (Builtin.Str.occurrences (Txt.slice x (some (lf x + 1)) (some (rt x))) (Txt.item x (lf x + 1)) 0 (Txt.slice x (some (lf x + 1)) (some (rt x))).length ((Txt.slice x (some (lf x + 1)) (some (rt x))).length + 1)) (Txt.item x (lf x + 1)).length).length ≤ sizeLine)
    (hp : (pts x).length ≤ sizeLine) (h4 : ((((pts x).map D.str).length : Int) != 5) = true) : CaR prog w X B (fun h => Gs w mg mb h ∧ Up X h) ⟨k + 1, fr, true⟩ l (.ref 74) [.str x, .tup [.str host, .int p0]] 65 x := by
  refine CaR.at 74 73 (names := ["resp", "peer"]) (by rfl) (by intro h; cases h) (by rfl) (by rfl) (by rfl) (by rfl) (by intro h; cases h) ⟨_, _, by rfl, by rfl⟩ (by rfl) (by rfl) (by rfl) (by rfl) (by kernel_rfl) (by rfl)
    (len2 (fun a0 a1 => by kernel_rfl)) (fun n => allC (.inl (by rfl)) (allC (.inl (by rfl)) all0)) fun h₀ G => ?_
  have szx : x.length ≤ sizeLine := by simp only [sizeLine]; omega
  have l0 := of_decide_eq_false h1
  refine' ExM.cons (Ex1.ifs Rel.kf (c := false) ?Zt0 (fun h => by cases h) (fun _ => Ex.nil)) ?Zr0
  case Zt0 =>
    refine' Tr.cmp (X := X) Rel.kf (St.stab Rel.kf) ?Zm0 ?Za0 ?Zc0 (Op.of_eq (Op.neS Rel.kf) (congrArg D.bool h0))
    case Zm0 => with_unfolding_all rfl
    case Za0 => wtm_at "g"
    case Zc0 => wtm_at "g"
  case Zr0 =>
  refine' ExM.cons (Ex1.assign Rel.kf (d := .int (lf x)) ?Ze1 ?Zs1 ?Zw1) ?Zr1
  case Zw1 => rfl
  case Ze1 =>
    refine' Ev.meth Rel.kf (St.stab Rel.kf) (by rfl) (by rfl) (by rfl) F.plainAttrs_str F.slot_str_find F.type_str_find (typeStr _) (fun _ => rfl) (by rfl) ?Zv1 ?Zl1 (Ca.find Rel.kf)
    case Zv1 => wtm_at "g"
    case Zl1 => wtm_at "g"
  case Zs1 => wtm_at "sto"
  case Zr1 =>
  refine' ExM.cons (Ex1.ifs Rel.kf (c := false) ?Zt2 (fun h => by cases h) (fun _ => Ex.nil)) ?Zr2
  case Zt2 =>
    refine' Tr.cmp (X := X) Rel.kf (St.stab Rel.kf) ?Zm2 ?Za2 ?Zc2 (Op.of_eq (Op.ltI Rel.kf (a := lf x) (b := 0)) (congrArg D.bool h1))
    case Zm2 => with_unfolding_all rfl
    case Za2 => wtm_at "g"
    case Zc2 => wtm_at "g"
  case Zr2 =>
  refine' ExM.cons (Ex1.assign Rel.kf (d := .int (rt x)) ?Ze3 ?Zs3 ?Zw3) ?Zr3
  case Zw3 => rfl
  case Ze3 =>
    refine' Ev.meth Rel.kf (St.stab Rel.kf) (by rfl) (by rfl) (by rfl) F.plainAttrs_str F.slot_str_find F.type_str_find (typeStr _) (fun _ => rfl) (by rfl) ?Zv3 ?Zl3 (Ca.find3 Rel.kf)
    case Zv3 => wtm_at "g"
    case Zl3 => wtm_at "g"
  case Zs3 => wtm_at "sto"
  case Zr3 =>
  refine' ExM.cons (Ex1.ifs Rel.kf (c := false) ?Zt4 (fun h => by cases h) (fun _ => Ex.nil)) ?Zr4
  case Zt4 =>
    refine' Tr.cmp (X := X) Rel.kf (St.stab Rel.kf) ?Zm4 ?Za4 ?Zc4 (Op.of_eq (Op.ltI Rel.kf (a := rt x) (b := 0)) (congrArg D.bool h2))
    case Zm4 => with_unfolding_all rfl
    case Za4 => wtm_at "g"
    case Zc4 => wtm_at "g"
  case Zr4 =>
  refine' ExM.cons (Ex1.ifs Rel.kf (c := false) ?Zt5 (fun h => by cases h) (fun _ => Ex.nil)) ?Zr5
  case Zt5 =>
    refine' Tr.cmp (X := X) Rel.kf (St.stab Rel.kf) ?Zm5 ?Za5 ?Zc5 (Op.of_eq (Op.neS Rel.kf) (congrArg D.bool h3))
    case Zm5 => with_unfolding_all rfl
    case Za5 => wtm_at "g"
    case Zc5 => wtm_at "g"
  case Zr5 =>
  refine' ExM.cons (Ex1.assign Rel.kf (d := .list ((pts x).map D.str)) ?Ze6 ?Zs6 ?Zw6) ?Zr6
  case Zw6 => rfl
  case Ze6 =>
    refine' Ev.meth Rel.kf (St.stab Rel.kf) (by rfl) (by rfl) (by rfl) F.plainAttrs_str F.slot_str_split F.type_str_split (typeStr _) (fun _ => rfl) (by rfl) ?Zv6 ?Zl6 (Ca.split Rel.kf (fun h S => S.up) (by rfl) hz hz2)
    case Zv6 => wtm_at "g"
    case Zl6 => wtm_at "g"
  case Zs6 => wtm_at "sto"
  case Zr6 =>
  refine' ExM.ifT Rel.kf ?Zt7 ?Zb7
  case Zt7 =>
    refine' Tr.cmp (X := X) Rel.kf (St.stab Rel.kf) ?Zm7 ?Za7 ?Zc7 (Op.of_eq (Op.neI Rel.kf (a := ((pts x).map D.str).length) (b := 5)) (congrArg D.bool h4))
    case Zm7 => with_unfolding_all rfl
    case Za7 => 
      refine' Ev.callB Rel.kf (St.stab Rel.kf) ?Zf9 (fun _ => rfl) (fun _ => rfl) ?Zg9 (Ca.lenL Rel.kf (by simpa using hp))
      case Zf9 => wtm_at "fn"
      case Zg9 => wtm_at "g"
    case Zc7 => wtm_at "g"
  case Zb7 =>
    refine' ExM.raise (fun h S => (St.gh Rel.kf Gs.stat S).exc65) ?Zn (fun _ => rfl) ?Ze (by rfl)
    case Zn => wtm_at "fn"
    case Ze => wtm_at "g"
theorem ca_229 {x : Str} {host : Str} {p0 n : Int} {p3 : Str} (hx : x.length ≤ 1000) (h0 : (Txt.slice x none (some 3) != Str.ofString "229") = false) (h1 : decide (lf x < 0) = false) (hl : lf x + 1 < x.length) (h2 : decide (rt x < 0) = false) (hr : 1 ≤ rt x) (hr2 : rt x ≤ x.length) (h3 : (Txt.item x (lf x + 1) != Txt.item x (rt x - 1)) = false) (hz : (Txt.slice x (some (lf x + 1)) (some (rt x))).length ≤ sizeLine) (hz2 : (Builtin.Str.partsBetween (Txt.slice x (some (lf x + 1)) (some (rt x))) (Builtin.Str.occurrences (Txt.slice x (some (lf x + 1)) (some (rt x))) (Txt.item x (lf x + 1)) 0 (Txt.slice x (some (lf x + 1)) (some (rt x))).length ((Txt.slice x (some (lf x + 1)) (some (rt x))).length + 1)) (Txt.item x (lf x + 1)).length).length ≤ sizeLine)
    (hp : (pts x).length ≤ sizeLine) (h4 : ((((pts x).map D.str).length : Int) != 5) = false) (h5 : (pts x)[3]? = some p3) (h6 : PySem.intText? p3 = some n) (h7 : p3.length ≤ 640) : Ca prog w X Kf (fun h => Gs w mg mb h ∧ Up X h) ⟨k + 1, fr, true⟩ (.ref 74) [.str x, .tup [.str host, .int p0]] (.tup [.str host, .int n]) := by
  refine Ca.at 74 73 (names := ["resp", "peer"]) (by rfl) (by intro h; cases h) (by rfl) (by rfl) (by rfl) (by rfl) (by intro h; cases h) ⟨_, _, by rfl, by rfl⟩ (by rfl) (by rfl) (by rfl) (by rfl) (by kernel_rfl) (by rfl)
    (len2 (fun a0 a1 => by kernel_rfl)) (fun n => allC (.inl (by rfl)) (allC (.inl (by rfl)) all0)) fun h₀ G => ?_
  have szx : x.length ≤ sizeLine := by simp only [sizeLine]; omega
  have l0 := of_decide_eq_false h1
  have i3 : ((pts x).map D.str)[Int.toNat 3]? = some (.str p3) := by simp [h5]
  refine' Ex.cons (Ex1.ifs Rel.kf (c := false) ?Zt0 (fun h => by cases h) (fun _ => Ex.nil)) ?Zr0
  case Zt0 =>
    refine' Tr.cmp (X := X) Rel.kf (St.stab Rel.kf) ?Zm0 ?Za0 ?Zc0 (Op.of_eq (Op.neS Rel.kf) (congrArg D.bool h0))
    case Zm0 => with_unfolding_all rfl
    case Za0 => wtm_at "g"
    case Zc0 => wtm_at "g"
  case Zr0 =>
  refine' Ex.cons (Ex1.assign Rel.kf (d := .int (lf x)) ?Ze1 ?Zs1 ?Zw1) ?Zr1
  case Zw1 => rfl
  case Ze1 =>
    refine' Ev.meth Rel.kf (St.stab Rel.kf) (by rfl) (by rfl) (by rfl) F.plainAttrs_str F.slot_str_find F.type_str_find (typeStr _) (fun _ => rfl) (by rfl) ?Zv1 ?Zl1 (Ca.find Rel.kf)
    case Zv1 => wtm_at "g"
    case Zl1 => wtm_at "g"
  case Zs1 => wtm_at "sto"
  case Zr1 =>
  refine' Ex.cons (Ex1.ifs Rel.kf (c := false) ?Zt2 (fun h => by cases h) (fun _ => Ex.nil)) ?Zr2
  case Zt2 =>
    refine' Tr.cmp (X := X) Rel.kf (St.stab Rel.kf) ?Zm2 ?Za2 ?Zc2 (Op.of_eq (Op.ltI Rel.kf (a := lf x) (b := 0)) (congrArg D.bool h1))
    case Zm2 => with_unfolding_all rfl
    case Za2 => wtm_at "g"
    case Zc2 => wtm_at "g"
  case Zr2 =>
  refine' Ex.cons (Ex1.assign Rel.kf (d := .int (rt x)) ?Ze3 ?Zs3 ?Zw3) ?Zr3
  case Zw3 => rfl
  case Ze3 =>
    refine' Ev.meth Rel.kf (St.stab Rel.kf) (by rfl) (by rfl) (by rfl) F.plainAttrs_str F.slot_str_find F.type_str_find (typeStr _) (fun _ => rfl) (by rfl) ?Zv3 ?Zl3 (Ca.find3 Rel.kf)
    case Zv3 => wtm_at "g"
    case Zl3 => wtm_at "g"
  case Zs3 => wtm_at "sto"
  case Zr3 =>
  refine' Ex.cons (Ex1.ifs Rel.kf (c := false) ?Zt4 (fun h => by cases h) (fun _ => Ex.nil)) ?Zr4
  case Zt4 =>
    refine' Tr.cmp (X := X) Rel.kf (St.stab Rel.kf) ?Zm4 ?Za4 ?Zc4 (Op.of_eq (Op.ltI Rel.kf (a := rt x) (b := 0)) (congrArg D.bool h2))
    case Zm4 => with_unfolding_all rfl
    case Za4 => wtm_at "g"
    case Zc4 => wtm_at "g"
  case Zr4 =>
  refine' Ex.cons (Ex1.ifs Rel.kf (c := false) ?Zt5 (fun h => by cases h) (fun _ => Ex.nil)) ?Zr5
  case Zt5 =>
    refine' Tr.cmp (X := X) Rel.kf (St.stab Rel.kf) ?Zm5 ?Za5 ?Zc5 (Op.of_eq (Op.neS Rel.kf) (congrArg D.bool h3))
    case Zm5 => with_unfolding_all rfl
    case Za5 => wtm_at "g"
    case Zc5 => wtm_at "g"
  case Zr5 =>
  refine' Ex.cons (Ex1.assign Rel.kf (d := .list ((pts x).map D.str)) ?Ze6 ?Zs6 ?Zw6) ?Zr6
  case Zw6 => rfl
  case Ze6 =>
    refine' Ev.meth Rel.kf (St.stab Rel.kf) (by rfl) (by rfl) (by rfl) F.plainAttrs_str F.slot_str_split F.type_str_split (typeStr _) (fun _ => rfl) (by rfl) ?Zv6 ?Zl6 (Ca.split Rel.kf (fun h S => S.up) (by rfl) hz hz2)
    case Zv6 => wtm_at "g"
    case Zl6 => wtm_at "g"
  case Zs6 => wtm_at "sto"
  case Zr6 =>
  refine' Ex.cons (Ex1.ifs Rel.kf (c := false) ?Zt7 (fun h => by cases h) (fun _ => Ex.nil)) ?Zr7
  case Zt7 =>
    refine' Tr.cmp (X := X) Rel.kf (St.stab Rel.kf) ?Zm7 ?Za7 ?Zc7 (Op.of_eq (Op.neI Rel.kf (a := ((pts x).map D.str).length) (b := 5)) (congrArg D.bool h4))
    case Zm7 => with_unfolding_all rfl
    case Za7 => 
      refine' Ev.callB Rel.kf (St.stab Rel.kf) ?Zf9 (fun _ => rfl) (fun _ => rfl) ?Zg9 (Ca.lenL Rel.kf (by simpa using hp))
      case Zf9 => wtm_at "fn"
      case Zg9 => wtm_at "g"
    case Zc7 => wtm_at "g"
  case Zr7 =>
  ((refine' Ex.cons (Ex1.assign (by wtm_at "rr") ?Ze ?Zs ?Zw) ?_); (case Zw => rfl); (case Ze => wtm_at "g"); (case Zs => wtm_at "sto"))
  refine' Ex.cons (Ex1.assign Rel.kf (d := .int n) ?Ze8 ?Zs8 ?Zw8) ?Zr8
  case Zw8 => rfl
  case Ze8 =>
    refine' Ev.callT Rel.kf (St.stab Rel.kf) ?Zf8 (fun _ => rfl) (fun _ => rfl) ?Zg8 (Ca.int Rel.kf h6 h7)
    case Zf8 => wtm_at "fn"
    case Zg8 => wtm_at "g"
  case Zs8 => wtm_at "sto"
  case Zr8 =>
  refine' Ex.ret (Ex1.ret Rel.kf ?Ze10)
  case Ze10 => wtm_at "g"
end
end
section
variable {X : Addr → Prop}
section
variable {prog : Program} {w : World} {mg mb : Str → Option Value} {k : Nat} {B : Nat} {TB : List Addr} {T : Heap → Prop} {l0 : Env} {ls : List Env}
theorem look_of {env : Env} {h : Heap} {x : Str} {v : Value} (e : ∃ v', Look env h x v' ∧ Rd X h (.val v) v') : Look env h x v := by
  obtain ⟨v', l, r⟩ := e
  cases r
  exact l
theorem ca_heard_ok {files refused : List D} {x : Str} (hx : x.length ≤ 1000) (hb : (Txt.slice x none (some 3) != Str.ofString "257") = false) (h5 : (Txt.slice x (some 3) (some 5) != Str.ofString " \"") = false) (kb : KB w B) (hT : HardT T) (hsz : files.length + 1 ≤ 1000) :
    Ca prog w X (Rm B TB T) (fun h => GF w mg mb B (l0 :: ls) h ∧ Up X h) ⟨k + 2, some (l0 :: ls), true⟩ (.ref 142) [.tup [.list files, .list refused], .str x] (.tup [.list (files ++ [.list [.str (loop257 x x.length 5 (Str.ofString ""))]]), .list refused]) := by
  have rx : RelX B (Rm B TB T) := Rel.rm hT
  have rrel : Rel (Rm B TB T) := rx.toRel
  have hGG : ∀ h, GF w mg mb B (l0 :: ls) h → Gs w mg mb h := fun h g => g.1
  have hst : Static (Rm B TB T) (GF w mg mb B (l0 :: ls)) := GF.stat kb hT
  refine Ca.atR rrel hGG 142 141 (names := ["state", "reply"]) (by rfl) (by intro h; cases h) (by rfl) (by rfl) (by rfl) (by rfl) (by intro h; cases h) ⟨_, _, by rfl, by rfl⟩ (by rfl) (by rfl) (by rfl) (by rfl) (by kernel_rfl) (by rfl)
    (len2 (fun a0 a1 => by kernel_rfl)) (fun n => allC (.inl (by rfl)) (allC (.inl (by rfl)) all0)) fun h₀ G0 => ?_
  refine' Ex.cons (Ex1.assignT rrel rfl ?Ze1 (As.tup rrel ?Zn1 ?Zs1 ?Za1) ?Zp1 ?Zq1) ?Zr1
  case Ze1 => wtm_at "g"
  case Zn1 => rfl
  case Zs1 => rfl
  case Zp1 => rfl
  case Zq1 => rfl
  case Za1 =>
    refine' AsL.cons (by rfl) (As.name ?Zb1) (AsL.cons (by rfl) (As.name ?Zb2) AsL.nil)
    case Zb1 => wtm_at "sto"
    case Zb2 => wtm_at "sto"
  case Zr1 =>
  refine' Ex.ret (Ex1.tryV (Ex.ret (Ex1.ret rrel ?Ze2)))
  case Ze2 =>
    refine' Ev.tupD rrel (St.stab rrel) ?Zu2 ?Zv2 ?Zz2
    case Zu2 => exact fun _ S => S.up
    case Zz2 => simp only [List.length_cons, List.length_nil, sizeLine]; lia
    case Zv2 =>
      refine' EvL.cons rrel (St.stab rrel) ?Zp3 ?Za3 ?Zb3
      case Zp3 => intro _; rfl
      case Zb3 => wtm_at "g"
      case Za3 =>
        refine' Ev.bin rrel (St.stab rrel) (a := .list files) (b := .list [.list [.str (loop257 x x.length 5 (Str.ofString ""))]]) ?Za4 ?Zb4 (Op.addL rrel ?Zu4 ?Zz4)
        case Zu4 => exact fun _ S => S.up
        case Zz4 => simp only [List.length_cons, List.length_nil, sizeLine]; lia
        case Za4 => wtm_at "g"
        case Zb4 =>
          refine' Ev.listD rrel (St.stab rrel) ?Zu5 ?Zv5 ?Zz5
          case Zu5 => exact fun _ S => S.up
          case Zz5 => simp only [List.length_cons, List.length_nil, sizeLine]; lia
          case Zv5 =>
            refine' EvL.cons rrel (St.stab rrel) ?Zp6 ?Za6 (EvL.nil rrel)
            case Zp6 => intro _; rfl
            case Za6 =>
              refine' Ev.listD rrel (St.stab rrel) ?Zu7 ?Zv7 ?Zz7
              case Zu7 => exact fun _ S => S.up
              case Zz7 => simp only [List.length_cons, List.length_nil, sizeLine]; lia
              case Zv7 =>
                refine' EvL.cons rrel (St.stab rrel) ?Zp8 ?Za8 (EvL.nil rrel)
                case Zp8 => intro _; rfl
                case Za8 =>
                  refine' Ev.callF rrel (St.stab rrel) (fa := 81) (ob := objAt w 81) (fd := fdAt w 81) ?Zf9 (by rfl) ?Zo9 (fun _ => rfl) ?Zg9 ?Zc9
                  case Zf9 => exact Ev.glo rrel hst hGG (by rfl) (by rfl)
                  case Zo9 => exact fun h S => (hGG _ (St.gh rrel hst S)).at (by rfl) (by intro h; cases h)
                  case Zg9 => wtm_at "g"
                  case Zc9 => exact Ca.lift rrel (ca_257 (k := k) (fr := none) hx hb h5) (fun h S => ⟨hGG _ (St.gh rrel hst S), S.up⟩) (Nat.le_refl _) (.inl rfl) (fun _ => rfl)
theorem ca_heard_1 {files refused : List D} {x : Str} (hx : x.length ≤ 1000) (hb : (Txt.slice x none (some 3) != Str.ofString "257") = true) (h0 : (Txt.slice x none (some 3) != Str.ofString "229") = true) (kb : KB w B) (hT : HardT T) (hsz : refused.length + 1 ≤ 1000) :
    Ca prog w X (Rm B TB T) (fun h => GF w mg mb B (l0 :: ls) h ∧ Up X h) ⟨k + 2, some (l0 :: ls), true⟩ (.ref 142) [.tup [.list files, .list refused], .str x] (.tup [.list files, .list (refused ++ [.str (Str.ofString "no " ++ x)])]) := by
  have rx : RelX B (Rm B TB T) := Rel.rm hT
  have rrel : Rel (Rm B TB T) := rx.toRel
  have hGG : ∀ h, GF w mg mb B (l0 :: ls) h → Gs w mg mb h := fun h g => g.1
  have hst : Static (Rm B TB T) (GF w mg mb B (l0 :: ls)) := GF.stat kb hT
  refine Ca.atR rrel hGG 142 141 (names := ["state", "reply"]) (by rfl) (by intro h; cases h) (by rfl) (by rfl) (by rfl) (by rfl) (by intro h; cases h) ⟨_, _, by rfl, by rfl⟩ (by rfl) (by rfl) (by rfl) (by rfl) (by kernel_rfl) (by rfl)
    (len2 (fun a0 a1 => by kernel_rfl)) (fun n => allC (.inl (by rfl)) (allC (.inl (by rfl)) all0)) fun h₀ G0 => ?_
  refine' Ex.cons (Ex1.assignT rrel rfl ?Ze1 (As.tup rrel ?Zn1 ?Zs1 ?Za1) ?Zp1 ?Zq1) ?Zr1
  case Ze1 => wtm_at "g"
  case Zn1 => rfl
  case Zs1 => rfl
  case Zp1 => rfl
  case Zq1 => rfl
  case Za1 =>
    refine' AsL.cons (by rfl) (As.name ?Zb1) (AsL.cons (by rfl) (As.name ?Zb2) AsL.nil)
    case Zb1 => wtm_at "sto"
    case Zb2 => wtm_at "sto"
  case Zr1 =>
  have szx : x.length ≤ sizeLine := by simp only [sizeLine]; lia
  refine' Ex.cons (Ex1.tryR (C := 53) (x := x) (l := l0 :: ls) (o := .next (drop (upd (upd (upd (upd (rho0 (fun _ => none) [Str.ofString "state", Str.ofString "reply"] [.tup [.list files, .list refused], .str x]) "files" (.list files)) "refused" (.list refused)) "error" (.val .none)) "words" (.str x)) "error")) rx hst (by rfl) (by rfl) (FF.size G0.2) (fun h g => g.2) (by rfl) (by rfl) ?Ztb ?Zth) ?Zr2
  case Ztb =>
    refine' ExR.ret (EvR.tup1 (fun _ => rfl) (EvR.binR (X := X) rrel (St.stab rrel) (d := .list files) ?Zfa1 (EvR.list1 (fun _ => rfl) (EvR.list1 (fun _ => rfl) (EvR.callF (X := X) rrel (St.stab rrel) (fa := 81) (ob := objAt w 81) (fd := fdAt w 81) ?Zf9 (by rfl) ?Zo9 (fun _ => rfl) ?Zg9 ?Zc9)))))
    case Zfa1 => wtm_at "g"
    case Zf9 => exact Ev.glo rrel hst hGG (by rfl) (by rfl)
    case Zo9 => exact fun h S => (hGG _ (St.gh rrel hst S)).at (by rfl) (by intro h; cases h)
    case Zg9 => wtm_at "g"
    case Zc9 => exact CaR.lift (ra_257 (k := k) (fr := none) hx hb) (fun h S => ⟨hGG _ (St.gh rrel hst S), S.up⟩) (Nat.le_refl _) (.inl rfl) (fun _ => rfl)
  case Zth =>
    intro A s Q E h₁ e ok S₁ ff fl q
    refine catchAs (u := .next (upd (upd (upd (upd (rho0 (fun _ => none) [Str.ofString "state", Str.ofString "reply"] [.tup [.list files, .list refused], .str x]) "files" (.list files)) "refused" (.list refused)) "error" (.val (.ref e))) "words" (.str x))) rx (by rfl) (by rfl) ok S₁ ff fl (by rfl) ?Zhl ?ZhC (by rfl) (by rfl) (by rfl) ?Zhs ?Zhq
    case Zhl => intro h S; have GG := hGG _ (St.gh rrel hst S); exact look_of (X := X) (GG.glo (by rfl) (by rfl))
    case ZhC => intro h S; exact (hGG _ (St.gh rrel hst S)).exc53
    case Zhs =>
      refine' ExS.assign rrel ?Zes ?Zss (by rfl)
      case Zes =>
        refine' Ev.callT rrel (IX.stab rrel) ?Zfs (fun _ => rfl) (fun _ => rfl) ?Zgs (Ca.strX rrel (K := KE w) (C := 53) (e := e) ?Zis find53)
        case Zfs =>
          refine' Ev.name rrel (by rfl) (by rfl) ?Zls
          case Zls => intro h S; have GG := hGG _ (St.gh rrel hst S.1); exact GG.glo (by rfl) (by rfl)
        case Zgs =>
          refine' EvL.cons rrel (IX.stab rrel) (fun _ => rfl) (Ev.name rrel (by rfl) (by rfl) ?Zlg) (EvL.nil rrel)
          case Zlg => intro h S; exact S.1.look (by rfl) (.inl (by rfl))
        case Zis => intro h S; exact ⟨(hGG _ (St.gh rrel hst S.1)).ke, (hGG _ (St.gh rrel hst S.1)).exc53, S.2⟩
      case Zss => wtm_at "sto"
    case Zhq =>
      have ee : ∀ v, drop (upd (upd (upd (upd (rho0 (fun _ => none) [Str.ofString "state", Str.ofString "reply"] [.tup [.list files, .list refused], .str x]) "files" (.list files)) "refused" (.list refused)) "error" (.val v)) "words" (.str x)) "error" = upd (upd (upd (rho0 (fun _ => none) [Str.ofString "state", Str.ofString "reply"] [.tup [.list files, .list refused], .str x]) "files" (.list files)) "refused" (.list refused)) "words" (.str x) := by
        intro v
        funext y
        by_cases q : y = "error"
        · subst q; rfl
        · simp [drop, upd, q]
      have q' := q
      rw [ee] at q'
      show Out.post X (Rm B TB T) (GF w mg mb B (l0 :: ls)) h₀ _ _ Q (.next _)
      rw [ee]
      exact q'
  case Zr2 =>
  have szn : (Str.ofString "no " ++ x).length ≤ sizeLine := by rw [len_app, show (Str.ofString "no ").length = 3 by decide +kernel]; simp only [sizeLine]; lia
  refine' Ex.ret (Ex1.tryR (C := 53) (x := x) (l := l0 :: ls) rx hst (by rfl) (by rfl) (FF.size G0.2) (fun h g => g.2) (by rfl) (by rfl) ?Ztb2 ?Zth2)
  case Ztb2 =>
    refine' ExR.assign (EvR.callF (X := X) rrel (St.stab rrel) (fa := 74) (ob := objAt w 74) (fd := fdAt w 74) (as := [.str x, .tup [.str (Str.ofString "peer"), .int 21]]) ?Zf9 (by rfl) ?Zo9 (fun _ => rfl) ?Zg9 ?Zc9) (by rfl)
    case Zf9 => exact Ev.glo rrel hst hGG (by rfl) (by rfl)
    case Zo9 => exact fun h S => (hGG _ (St.gh rrel hst S)).at (by rfl) (by intro h; cases h)
    case Zg9 => wtm_at "g"
    case Zc9 => exact CaR.lift (ra_229_0 (k := k) (fr := none) hx h0) (fun h S => ⟨hGG _ (St.gh rrel hst S), S.up⟩) (Nat.le_refl _) (.inl rfl) (fun _ => rfl)
  case Zth2 =>
    intro A s Q E h₁ e ok S₁ ff fl q
    refine catchAs (u := .ret (D.tup [D.list files, D.list (refused ++ [D.str (Str.ofString "no " ++ x)])])) rx (by rfl) (by rfl) ok S₁ ff fl (by rfl) ?Zhl ?ZhC (by rfl) (by rfl) (by rfl) ?Zhs q
    case Zhl => intro h S; have GG := hGG _ (St.gh rrel hst S); exact look_of (X := X) (GG.glo (by rfl) (by rfl))
    case ZhC => intro h S; exact (hGG _ (St.gh rrel hst S)).exc53
    case Zhs =>
      refine' ExS.ret rrel ?Zes
      case Zes =>
        refine' Ev.tupD rrel (IX.stab rrel) (fun h S => S.1.up) (EvL.cons rrel (IX.stab rrel) (fun _ => rfl) ?Zv1 (EvL.cons rrel (IX.stab rrel) (fun _ => rfl) ?Zv2 (EvL.nil rrel))) (by simp only [List.length_cons, List.length_nil, sizeLine]; lia)
        case Zv1 => refine' Ev.name rrel (by rfl) (by rfl) (fun h S => S.1.look (by rfl) (.inl (by rfl)))
        case Zv2 =>
          refine' Ev.bin rrel (IX.stab rrel) (a := .list refused) (b := .list [.str (Str.ofString "no " ++ x)]) ?Zv3 ?Zv4 (Op.addL rrel (fun h S => S.1.up) ?Zz4)
          case Zz4 => simp only [List.length_cons, List.length_nil, sizeLine]; lia
          case Zv3 => refine' Ev.name rrel (by rfl) (by rfl) (fun h S => S.1.look (by rfl) (.inl (by rfl)))
          case Zv4 =>
            refine' Ev.listD rrel (IX.stab rrel) (fun h S => S.1.up) (EvL.cons rrel (IX.stab rrel) (fun _ => rfl) ?Zv5 (EvL.nil rrel)) (by simp only [List.length_cons, List.length_nil, sizeLine]; lia)
            case Zv5 =>
              refine' Ev.bin rrel (IX.stab rrel) (a := .str (Str.ofString "no ")) (b := .str x) (Ev.str rrel) ?Zv6 (Op.addS rrel szn)
              case Zv6 =>
                refine' Ev.callT rrel (IX.stab rrel) ?Zfs (fun _ => rfl) (fun _ => rfl) ?Zgs (Ca.strX rrel (K := KE w) (C := 53) (e := e) ?Zis find53)
                case Zfs =>
                  refine' Ev.name rrel (by rfl) (by rfl) ?Zls
                  case Zls => intro h S; have GG := hGG _ (St.gh rrel hst S.1); exact GG.glo (by rfl) (by rfl)
                case Zgs =>
                  refine' EvL.cons rrel (IX.stab rrel) (fun _ => rfl) (Ev.name rrel (by rfl) (by rfl) ?Zlg) (EvL.nil rrel)
                  case Zlg => intro h S; exact S.1.look (by rfl) (.inl (by rfl))
                case Zis => intro h S; exact ⟨(hGG _ (St.gh rrel hst S.1)).ke, (hGG _ (St.gh rrel hst S.1)).exc53, S.2⟩
theorem ca_heard_2 {files refused : List D} {x : Str} (hx : x.length ≤ 1000) (hb : (Txt.slice x none (some 3) != Str.ofString "257") = true)
    (hr : ∀ (I : Heap → Prop) (l : List Env), (∀ h, I h → Gs w mg mb h ∧ Up X h) → CaR prog w X B I ⟨k + 1, some l, true⟩ l (.ref 74) [.str x, .tup [.str (Str.ofString "peer"), .int 21]] 65 x) (kb : KB w B) (hT : HardT T) (hsz : refused.length + 1 ≤ 1000) :
    Ca prog w X (Rm B TB T) (fun h => GF w mg mb B (l0 :: ls) h ∧ Up X h) ⟨k + 2, some (l0 :: ls), true⟩ (.ref 142) [.tup [.list files, .list refused], .str x] (.tup [.list files, .list (refused ++ [.str x])]) := by
  have rx : RelX B (Rm B TB T) := Rel.rm hT
  have rrel : Rel (Rm B TB T) := rx.toRel
  have hGG : ∀ h, GF w mg mb B (l0 :: ls) h → Gs w mg mb h := fun h g => g.1
  have hst : Static (Rm B TB T) (GF w mg mb B (l0 :: ls)) := GF.stat kb hT
  refine Ca.atR rrel hGG 142 141 (names := ["state", "reply"]) (by rfl) (by intro h; cases h) (by rfl) (by rfl) (by rfl) (by rfl) (by intro h; cases h) ⟨_, _, by rfl, by rfl⟩ (by rfl) (by rfl) (by rfl) (by rfl) (by kernel_rfl) (by rfl)
    (len2 (fun a0 a1 => by kernel_rfl)) (fun n => allC (.inl (by rfl)) (allC (.inl (by rfl)) all0)) fun h₀ G0 => ?_
  refine' Ex.cons (Ex1.assignT rrel rfl ?Ze1 (As.tup rrel ?Zn1 ?Zs1 ?Za1) ?Zp1 ?Zq1) ?Zr1
  case Ze1 => wtm_at "g"
  case Zn1 => rfl
  case Zs1 => rfl
  case Zp1 => rfl
  case Zq1 => rfl
  case Za1 =>
    refine' AsL.cons (by rfl) (As.name ?Zb1) (AsL.cons (by rfl) (As.name ?Zb2) AsL.nil)
    case Zb1 => wtm_at "sto"
    case Zb2 => wtm_at "sto"
  case Zr1 =>
  have szx : x.length ≤ sizeLine := by simp only [sizeLine]; lia
  refine' Ex.cons (Ex1.tryR (C := 53) (x := x) (l := l0 :: ls) (o := .next (drop (upd (upd (upd (upd (rho0 (fun _ => none) [Str.ofString "state", Str.ofString "reply"] [.tup [.list files, .list refused], .str x]) "files" (.list files)) "refused" (.list refused)) "error" (.val .none)) "words" (.str x)) "error")) rx hst (by rfl) (by rfl) (FF.size G0.2) (fun h g => g.2) (by rfl) (by rfl) ?Ztb ?Zth) ?Zr2
  case Ztb =>
    refine' ExR.ret (EvR.tup1 (fun _ => rfl) (EvR.binR (X := X) rrel (St.stab rrel) (d := .list files) ?Zfa1 (EvR.list1 (fun _ => rfl) (EvR.list1 (fun _ => rfl) (EvR.callF (X := X) rrel (St.stab rrel) (fa := 81) (ob := objAt w 81) (fd := fdAt w 81) ?Zf9 (by rfl) ?Zo9 (fun _ => rfl) ?Zg9 ?Zc9)))))
    case Zfa1 => wtm_at "g"
    case Zf9 => exact Ev.glo rrel hst hGG (by rfl) (by rfl)
    case Zo9 => exact fun h S => (hGG _ (St.gh rrel hst S)).at (by rfl) (by intro h; cases h)
    case Zg9 => wtm_at "g"
    case Zc9 => exact CaR.lift (ra_257 (k := k) (fr := none) hx hb) (fun h S => ⟨hGG _ (St.gh rrel hst S), S.up⟩) (Nat.le_refl _) (.inl rfl) (fun _ => rfl)
  case Zth =>
    intro A s Q E h₁ e ok S₁ ff fl q
    refine catchAs (u := .next (upd (upd (upd (upd (rho0 (fun _ => none) [Str.ofString "state", Str.ofString "reply"] [.tup [.list files, .list refused], .str x]) "files" (.list files)) "refused" (.list refused)) "error" (.val (.ref e))) "words" (.str x))) rx (by rfl) (by rfl) ok S₁ ff fl (by rfl) ?Zhl ?ZhC (by rfl) (by rfl) (by rfl) ?Zhs ?Zhq
    case Zhl => intro h S; have GG := hGG _ (St.gh rrel hst S); exact look_of (X := X) (GG.glo (by rfl) (by rfl))
    case ZhC => intro h S; exact (hGG _ (St.gh rrel hst S)).exc53
    case Zhs =>
      refine' ExS.assign rrel ?Zes ?Zss (by rfl)
      case Zes =>
        refine' Ev.callT rrel (IX.stab rrel) ?Zfs (fun _ => rfl) (fun _ => rfl) ?Zgs (Ca.strX rrel (K := KE w) (C := 53) (e := e) ?Zis find53)
        case Zfs =>
          refine' Ev.name rrel (by rfl) (by rfl) ?Zls
          case Zls => intro h S; have GG := hGG _ (St.gh rrel hst S.1); exact GG.glo (by rfl) (by rfl)
        case Zgs =>
          refine' EvL.cons rrel (IX.stab rrel) (fun _ => rfl) (Ev.name rrel (by rfl) (by rfl) ?Zlg) (EvL.nil rrel)
          case Zlg => intro h S; exact S.1.look (by rfl) (.inl (by rfl))
        case Zis => intro h S; exact ⟨(hGG _ (St.gh rrel hst S.1)).ke, (hGG _ (St.gh rrel hst S.1)).exc53, S.2⟩
      case Zss => wtm_at "sto"
    case Zhq =>
      have ee : ∀ v, drop (upd (upd (upd (upd (rho0 (fun _ => none) [Str.ofString "state", Str.ofString "reply"] [.tup [.list files, .list refused], .str x]) "files" (.list files)) "refused" (.list refused)) "error" (.val v)) "words" (.str x)) "error" = upd (upd (upd (rho0 (fun _ => none) [Str.ofString "state", Str.ofString "reply"] [.tup [.list files, .list refused], .str x]) "files" (.list files)) "refused" (.list refused)) "words" (.str x) := by
        intro v
        funext y
        by_cases q : y = "error"
        · subst q; rfl
        · simp [drop, upd, q]
      have q' := q
      rw [ee] at q'
      show Out.post X (Rm B TB T) (GF w mg mb B (l0 :: ls)) h₀ _ _ Q (.next _)
      rw [ee]
      exact q'
  case Zr2 =>
  refine' Ex.ret (Ex1.tryR (C := 65) (x := x) (l := l0 :: ls) rx hst (by rfl) (by rfl) (FF.size G0.2) (fun h g => g.2) (by rfl) (by rfl) ?Ztb2 ?Zth2)
  case Ztb2 =>
    refine' ExR.assign (EvR.callF (X := X) rrel (St.stab rrel) (fa := 74) (ob := objAt w 74) (fd := fdAt w 74) (as := [.str x, .tup [.str (Str.ofString "peer"), .int 21]]) ?Zf9 (by rfl) ?Zo9 (fun _ => rfl) ?Zg9 ?Zc9) (by rfl)
    case Zf9 => exact Ev.glo rrel hst hGG (by rfl) (by rfl)
    case Zo9 => exact fun h S => (hGG _ (St.gh rrel hst S)).at (by rfl) (by intro h; cases h)
    case Zg9 => wtm_at "g"
    case Zc9 => exact hr _ _ (fun h S => ⟨hGG _ (St.gh rrel hst S), S.up⟩)
  case Zth2 =>
    intro A s Q E h₁ e ok S₁ ff fl q
    refine catchNot (C' := 53) rx (by rfl) S₁ ff fl (by rfl) ?Zhl0 ?ZhC0 ?Zrest
    case Zhl0 => intro h S; have GG := hGG _ (St.gh rrel hst S); exact look_of (X := X) (GG.glo (by rfl) (by rfl))
    case ZhC0 => intro h S; exact ⟨(hGG _ (St.gh rrel hst S)).exc65n, (hGG _ (St.gh rrel hst S)).exc53⟩
    case Zrest =>
    refine catchAs (u := .ret (D.tup [D.list files, D.list (refused ++ [D.str x])])) rx (by rfl) (by rfl) ok S₁ ff fl (by rfl) ?Zhl ?ZhC (by rfl) (by rfl) (by rfl) ?Zhs q
    case Zhl => intro h S; have GG := hGG _ (St.gh rrel hst S); exact look_of (X := X) (GG.glo (by rfl) (by rfl))
    case ZhC => intro h S; exact (hGG _ (St.gh rrel hst S)).exc65
    case Zhs =>
      refine' ExS.ret rrel ?Zes
      case Zes =>
        refine' Ev.tupD rrel (IX.stab rrel) (fun h S => S.1.up) (EvL.cons rrel (IX.stab rrel) (fun _ => rfl) ?Zv1 (EvL.cons rrel (IX.stab rrel) (fun _ => rfl) ?Zv2 (EvL.nil rrel))) (by simp only [List.length_cons, List.length_nil, sizeLine]; lia)
        case Zv1 => refine' Ev.name rrel (by rfl) (by rfl) (fun h S => S.1.look (by rfl) (.inl (by rfl)))
        case Zv2 =>
          refine' Ev.bin rrel (IX.stab rrel) (a := .list refused) (b := .list [.str x]) ?Zv3 ?Zv4 (Op.addL rrel (fun h S => S.1.up) ?Zz4)
          case Zz4 => simp only [List.length_cons, List.length_nil, sizeLine]; lia
          case Zv3 => refine' Ev.name rrel (by rfl) (by rfl) (fun h S => S.1.look (by rfl) (.inl (by rfl)))
          case Zv4 =>
            refine' Ev.listD rrel (IX.stab rrel) (fun h S => S.1.up) (EvL.cons rrel (IX.stab rrel) (fun _ => rfl) ?Zv6 (EvL.nil rrel)) (by simp only [List.length_cons, List.length_nil, sizeLine]; lia)
            case Zv6 =>
                refine' Ev.callT rrel (IX.stab rrel) ?Zfs (fun _ => rfl) (fun _ => rfl) ?Zgs (Ca.strX rrel (K := KE w) (C := 65) (e := e) ?Zis find65)
                case Zfs =>
                  refine' Ev.name rrel (by rfl) (by rfl) ?Zls
                  case Zls => intro h S; have GG := hGG _ (St.gh rrel hst S.1); exact GG.glo (by rfl) (by rfl)
                case Zgs =>
                  refine' EvL.cons rrel (IX.stab rrel) (fun _ => rfl) (Ev.name rrel (by rfl) (by rfl) ?Zlg) (EvL.nil rrel)
                  case Zlg => intro h S; exact S.1.look (by rfl) (.inl (by rfl))
                case Zis => intro h S; exact ⟨(hGG _ (St.gh rrel hst S.1)).ke, (hGG _ (St.gh rrel hst S.1)).exc65, S.2⟩
theorem ca_heard_3 {files refused row : List D} {x : Str} {n : Int} (hx : x.length ≤ 1000) (hb : (Txt.slice x none (some 3) != Str.ofString "257") = true)
    (hr : ∀ (I : Heap → Prop) (l : List Env), (∀ h, I h → Gs w mg mb h ∧ Up X h) → Ca prog w X (Rm B TB T) I ⟨k + 1, some l, true⟩ (.ref 74) [.str x, .tup [.str (Str.ofString "peer"), .int 21]] (.tup [.str (Str.ofString "peer"), .int n])) (kb : KB w B) (hT : HardT T) (hsz : files.length + 1 ≤ 1000) (hsz2 : row.length + 1 ≤ 1000) :
    Ca prog w X (Rm B TB T) (fun h => GF w mg mb B (l0 :: ls) h ∧ Up X h) ⟨k + 2, some (l0 :: ls), true⟩ (.ref 142) [.tup [.list (files ++ [.list row]), .list refused], .str x] (.tup [.list (files ++ [.list (row ++ [.tup [.str (Str.ofString "peer"), .int n]])]), .list refused]) := by
  have rx : RelX B (Rm B TB T) := Rel.rm hT
  have rrel : Rel (Rm B TB T) := rx.toRel
  have hGG : ∀ h, GF w mg mb B (l0 :: ls) h → Gs w mg mb h := fun h g => g.1
  have hst : Static (Rm B TB T) (GF w mg mb B (l0 :: ls)) := GF.stat kb hT
  refine Ca.atR rrel hGG 142 141 (names := ["state", "reply"]) (by rfl) (by intro h; cases h) (by rfl) (by rfl) (by rfl) (by rfl) (by intro h; cases h) ⟨_, _, by rfl, by rfl⟩ (by rfl) (by rfl) (by rfl) (by rfl) (by kernel_rfl) (by rfl)
    (len2 (fun a0 a1 => by kernel_rfl)) (fun n => allC (.inl (by rfl)) (allC (.inl (by rfl)) all0)) fun h₀ G0 => ?_
  refine' Ex.cons (Ex1.assignT rrel rfl ?Ze1 (As.tup rrel ?Zn1 ?Zs1 ?Za1) ?Zp1 ?Zq1) ?Zr1
  case Ze1 => wtm_at "g"
  case Zn1 => rfl
  case Zs1 => rfl
  case Zp1 => rfl
  case Zq1 => rfl
  case Za1 =>
    refine' AsL.cons (by rfl) (As.name ?Zb1) (AsL.cons (by rfl) (As.name ?Zb2) AsL.nil)
    case Zb1 => wtm_at "sto"
    case Zb2 => wtm_at "sto"
  case Zr1 =>
  have szx : x.length ≤ sizeLine := by simp only [sizeLine]; lia
  refine' Ex.cons (Ex1.tryR (C := 53) (x := x) (l := l0 :: ls) (o := .next (drop (upd (upd (upd (upd (rho0 (fun _ => none) [Str.ofString "state", Str.ofString "reply"] [.tup [.list (files ++ [D.list row]), .list refused], .str x]) "files" (.list (files ++ [D.list row]))) "refused" (.list refused)) "error" (.val .none)) "words" (.str x)) "error")) rx hst (by rfl) (by rfl) (FF.size G0.2) (fun h g => g.2) (by rfl) (by rfl) ?Ztb ?Zth) ?Zr2
  case Ztb =>
    refine' ExR.ret (EvR.tup1 (fun _ => rfl) (EvR.binR (X := X) rrel (St.stab rrel) (d := .list (files ++ [D.list row])) ?Zfa1 (EvR.list1 (fun _ => rfl) (EvR.list1 (fun _ => rfl) (EvR.callF (X := X) rrel (St.stab rrel) (fa := 81) (ob := objAt w 81) (fd := fdAt w 81) ?Zf9 (by rfl) ?Zo9 (fun _ => rfl) ?Zg9 ?Zc9)))))
    case Zfa1 => wtm_at "g"
    case Zf9 => exact Ev.glo rrel hst hGG (by rfl) (by rfl)
    case Zo9 => exact fun h S => (hGG _ (St.gh rrel hst S)).at (by rfl) (by intro h; cases h)
    case Zg9 => wtm_at "g"
    case Zc9 => exact CaR.lift (ra_257 (k := k) (fr := none) hx hb) (fun h S => ⟨hGG _ (St.gh rrel hst S), S.up⟩) (Nat.le_refl _) (.inl rfl) (fun _ => rfl)
  case Zth =>
    intro A s Q E h₁ e ok S₁ ff fl q
    refine catchAs (u := .next (upd (upd (upd (upd (rho0 (fun _ => none) [Str.ofString "state", Str.ofString "reply"] [.tup [.list (files ++ [D.list row]), .list refused], .str x]) "files" (.list (files ++ [D.list row]))) "refused" (.list refused)) "error" (.val (.ref e))) "words" (.str x))) rx (by rfl) (by rfl) ok S₁ ff fl (by rfl) ?Zhl ?ZhC (by rfl) (by rfl) (by rfl) ?Zhs ?Zhq
    case Zhl => intro h S; have GG := hGG _ (St.gh rrel hst S); exact look_of (X := X) (GG.glo (by rfl) (by rfl))
    case ZhC => intro h S; exact (hGG _ (St.gh rrel hst S)).exc53
    case Zhs =>
      refine' ExS.assign rrel ?Zes ?Zss (by rfl)
      case Zes =>
        refine' Ev.callT rrel (IX.stab rrel) ?Zfs (fun _ => rfl) (fun _ => rfl) ?Zgs (Ca.strX rrel (K := KE w) (C := 53) (e := e) ?Zis find53)
        case Zfs =>
          refine' Ev.name rrel (by rfl) (by rfl) ?Zls
          case Zls => intro h S; have GG := hGG _ (St.gh rrel hst S.1); exact GG.glo (by rfl) (by rfl)
        case Zgs =>
          refine' EvL.cons rrel (IX.stab rrel) (fun _ => rfl) (Ev.name rrel (by rfl) (by rfl) ?Zlg) (EvL.nil rrel)
          case Zlg => intro h S; exact S.1.look (by rfl) (.inl (by rfl))
        case Zis => intro h S; exact ⟨(hGG _ (St.gh rrel hst S.1)).ke, (hGG _ (St.gh rrel hst S.1)).exc53, S.2⟩
      case Zss => wtm_at "sto"
    case Zhq =>
      have ee : ∀ v, drop (upd (upd (upd (upd (rho0 (fun _ => none) [Str.ofString "state", Str.ofString "reply"] [.tup [.list (files ++ [D.list row]), .list refused], .str x]) "files" (.list (files ++ [D.list row]))) "refused" (.list refused)) "error" (.val v)) "words" (.str x)) "error" = upd (upd (upd (rho0 (fun _ => none) [Str.ofString "state", Str.ofString "reply"] [.tup [.list (files ++ [D.list row]), .list refused], .str x]) "files" (.list (files ++ [D.list row]))) "refused" (.list refused)) "words" (.str x) := by
        intro v
        funext y
        by_cases q : y = "error"
        · subst q; rfl
        · simp [drop, upd, q]
      have q' := q
      rw [ee] at q'
      show Out.post X (Rm B TB T) (GF w mg mb B (l0 :: ls)) h₀ _ _ Q (.next _)
      rw [ee]
      exact q'
  case Zr2 =>
  have szf : (files ++ [D.list row]).length = files.length + 1 := by simp
  refine' Ex.cons (Ex1.tryN (Ex.cons (Ex1.assign rrel ?Zef ?Zsf (by rfl)) Ex.nil)) ?Zr3
  case Zef =>
    refine' Ev.callF rrel (St.stab rrel) (fa := 74) (ob := objAt w 74) (fd := fdAt w 74) (as := [.str x, .tup [.str (Str.ofString "peer"), .int 21]]) ?Zf9 (by rfl) ?Zo9 (fun _ => rfl) ?Zg9 ?Zc9
    case Zf9 => exact Ev.glo rrel hst hGG (by rfl) (by rfl)
    case Zo9 => exact fun h S => (hGG _ (St.gh rrel hst S)).at (by rfl) (by intro h; cases h)
    case Zg9 => wtm_at "g"
    case Zc9 => exact hr _ _ (fun h S => ⟨hGG _ (St.gh rrel hst S), S.up⟩)
  case Zsf => wtm_at "sto"
  case Zr3 =>
  refine' Ex.ret (Ex1.ret rrel ?Ze4)
  case Ze4 =>
    refine' Ev.tupD rrel (St.stab rrel) ?Zu2 ?Zv2 ?Zz2
    case Zu2 => exact fun _ S => S.up
    case Zz2 => simp only [List.length_cons, List.length_nil, sizeLine]; lia
    case Zv2 =>
      refine' EvL.cons rrel (St.stab rrel) ?Zp3 ?Za3 ?Zb3
      case Zp3 => intro _; rfl
      case Zb3 => wtm_at "g"
      case Za3 =>
        refine' Ev.bin rrel (St.stab rrel) (a := .list files) (b := .list [.list (row ++ [.tup [.str (Str.ofString "peer"), .int n]])]) ?Za4 ?Zb4 (Op.addL rrel ?Zu4 ?Zz4)
        case Zu4 => exact fun _ S => S.up
        case Zz4 => simp only [List.length_cons, List.length_nil, sizeLine]; lia
        case Za4 =>
          refine' Ev.of_eq (d := .list (pickD (files ++ [D.list row]) none (some (-1)) none)) ?Zsl ?Zeq
          case Zeq => exact congrArg D.list (by rw [pick_butLast]; simp)
          case Zsl =>
            refine' Ev.sliceL rrel (St.stab rrel) ?Zus ?Zvs ?Zas ?Zbs ?Zcs ?Zns ?Zzs
            case Zus => exact fun _ S => S.up
            case Zvs => wtm_at "g"
            case Zas => wtm_at "g"
            case Zbs => wtm_at "g"
            case Zcs => wtm_at "g"
            case Zns => intro h; cases h
            case Zzs => simp only [sizeLine]; lia
        case Zb4 =>
          refine' Ev.listD rrel (St.stab rrel) ?Zu5 ?Zv5 ?Zz5
          case Zu5 => exact fun _ S => S.up
          case Zz5 => simp only [List.length_cons, List.length_nil, sizeLine]; lia
          case Zv5 =>
            refine' EvL.cons rrel (St.stab rrel) ?Zp6 ?Za6 (EvL.nil rrel)
            case Zp6 => intro _; rfl
            case Za6 =>
              refine' Ev.bin rrel (St.stab rrel) (a := .list row) (b := .list [.tup [.str (Str.ofString "peer"), .int n]]) ?Za7 ?Zb7 (Op.addL rrel ?Zu7 ?Zz7)
              case Zu7 => exact fun _ S => S.up
              case Zz7 => simp only [List.length_cons, List.length_nil, sizeLine]; lia
              case Za7 =>
                refine' Ev.sub rrel (St.stab rrel) (a := .list (files ++ [D.list row])) (b := .int (-1)) ?Za8 ?Zb8 (Op.itemLn rrel ?Zpi ?Zh0 ?Zh1 ?Zh2 ?Zhd)
                case Za8 => wtm_at "g"
                case Zb8 => wtm_at "g"
                case Zpi => exact isPlainIx_un
                case Zh0 => decide
                case Zh1 => rw [szf]; lia
                case Zh2 => decide
                case Zhd => rw [szf, show ((-1 : Int) + ((files.length + 1 : Nat) : Int)).toNat = files.length by lia]; simp
              case Zb7 => wtm_at "g"
end
end
section
variable {X : Addr → Prop}
noncomputable def ifTest1 : Stmt → Expr
  | .If t _ _ _ => t
  | _ => .Constant .none 0 ⟨0, 0, 0, 0⟩
-- a chain of steps
inductive Fold (C : D → D → D → Prop) : D → List D → D → Prop
  | nil {a : D} : Fold C a [] a
  | cons {a d a' r : D} {ds : List D} : C a d a' → Fold C a' ds r → Fold C a (d :: ds) r
theorem Ca.mono {prog : Program} {w : World} {R : Heap → Heap → Prop} {I I' : Heap → Prop} {k k' : Room} {f : Value} {as : List D} {d : D} (h : Ca prog w X R I' k f as d) (hI : ∀ h, I h → I' h) (hk : k.n ≤ k'.n) (h1 : k.fr = none ∨ k.fr = k'.fr) (h2 : k.calm = true → k'.calm = true) : Ca prog w X R I k' f as d :=
  .mk fun A s Q E vals o i rs q => h.run A s Q E vals (o.le hk h1 h2) (hI _ i) rs q
noncomputable def forTgt : Stmt → Expr
  | .For t _ _ _ _ => t
  | _ => .Constant .none 0 ⟨0, 0, 0, 0⟩
noncomputable def forBodyR : Stmt → List Stmt
  | .For _ _ b _ _ => b
  | _ => []
noncomputable def nthSt (l : List Stmt) (n : Nat) : Stmt := l.getD n (.Pass ⟨0, 0, 0, 0⟩)
noncomputable def rhoR (fa : Addr) (acc : D) : Rho := upd (upd (fun _ => none) "function" (.val (.ref fa))) "value" acc
theorem extR {fa : Addr} {acc : D} {ρ : Rho} (h1 : ρ "function" = some (.val (.ref fa))) (h2 : ρ "value" = some acc) : ∀ y e, rhoR fa acc y = some e → ρ y = some e := by
  intro y e h
  unfold rhoR upd at h
  split at h
  · rename_i q; subst q; cases h; exact h2
  · split at h
    · rename_i q; subst q; cases h; exact h1
    · cases h
section
variable {prog : Program} {w : World} {mg mb : Str → Option Value} {k : Nat} {B : Nat} {R : Heap → Heap → Prop} {G : Heap → Prop} {l0 : Env} {ls : List Env}
noncomputable abbrev StepC (prog : Program) (w : World) (X : Addr → Prop) (R : Heap → Heap → Prop) (G : Heap → Prop) (B : Nat) (k : Nat) (l : List Env) (fa : Addr) (a d a' : D) : Prop :=
  ∀ env', Ca prog w X R (fun h => (G h ∧ FF B h (env' :: l)) ∧ Up X h) ⟨k, some (env' :: l), true⟩ (.ref fa) [a, d] a'
theorem loR (rrel : Rel R) (hst : Static R G) {fa : Addr} {ob : Obj} {fd : FuncData} (hob : ob.data = .func fd) (ho : ∀ h, G h → h.get? fa = some ob) {h₀ : Heap} {ds : List D} {res : D} (hB : B ≤ h₀.objs.size) :
    ∀ (rest : List D) (i : Nat) (acc : D), i + rest.length = ds.length → ds.drop i = rest → Fold (StepC prog w X R G B k (l0 :: ls) fa) acc rest res →
      Lo prog w X R (fun h => G h ∧ FF B h (l0 :: ls)) ⟨k, some (callEnvC (fdAt w 30) h₀.objs.size 30 :: l0 :: ls), true⟩ h₀ (callEnvC (fdAt w 30) h₀.objs.size 30) ds (forTgt (nthSt (bodyAt w 30) 2)) (forBodyR (nthSt (bodyAt w 30) 2)) [] (.next (rhoR fa res)) i (rhoR fa acc) := by
  have hst' : Static R (fun h => G h ∧ FF B h (l0 :: ls)) := fun h h' kk g => ⟨hst _ _ kk g.1, g.2.kp (rrel.weak kk)⟩
  intro rest
  induction rest with
  | nil =>
    intro i acc hi hd f
    cases f
    obtain rfl : i = ds.length := by simpa using hi
    exact .done Ex.nil
  | cons d rest ih =>
    intro i acc hi hd f
    cases f with | cons c f =>
    rename_i a'
    have hdi : ds[i]? = some d := by
      have := congrArg (·[0]?) hd
      simpa using this
    refine .turn (ρ₁ := upd (rhoR fa acc) "element" d) (ρ' := rhoR fa a') hdi (As.name ?Zs1) ?Zb1 (ih (i + 1) a' (by simp at hi; lia) ?Zdr f)
    case Zdr =>
      have : ds.drop (i + 1) = (ds.drop i).drop 1 := by simp
      rw [this, hd]; rfl
    case Zs1 => exact Sto.loc rrel (by rfl) (by rfl) (by rfl)
    case Zb1 =>
      refine' Ex.weak (extR (ρ := upd (upd (rhoR fa acc) "element" d) "value" a') (by rfl) (by rfl)) (Ex.cons (Ex1.assign rrel ?Zev ?Zst (by rfl)) Ex.nil)
      case Zev =>
        refine' Ev.callF rrel (St.stab rrel) (fa := fa) (as := [acc, d]) ?Zf1 hob (fun h S => ho _ (St.gh rrel hst' S).1) (fun _ => rfl) ?Zg1 ?Zc1
        case Zf1 => exact Ev.nm rrel (by rfl) (by rfl)
        case Zg1 =>
          refine' EvL.cons rrel (St.stab rrel) (fun _ => rfl) ?Zg2 (EvL.cons rrel (St.stab rrel) (fun _ => rfl) ?Zg3 (EvL.nil rrel))
          case Zg2 => exact Ev.nm rrel (by rfl) (by rfl)
          case Zg3 => exact Ev.nm rrel (by rfl) (by rfl)
        case Zc1 =>
          exact Ca.mono (c (callEnvC (fdAt w 30) h₀.objs.size 30)) (fun h S => ⟨⟨(St.gh rrel hst' S).1, ff_own rrel S (by rfl) (by rfl) hB (St.gh rrel hst' S).2⟩, S.up⟩) (Nat.le_refl _) (.inr rfl) (fun _ => rfl)
      case Zst => exact Sto.loc rrel (by rfl) (by rfl) (by rfl)
theorem isMissing (rrel : Rel R) {I : Heap → Prop} {kk : Room} (hG : ∀ h, I h → Gs w mg mb h) {ini : List D} : Op prog w X R I kk (compareOp .Is) (.tup ini) (.val (.ref 22)) (.bool false) := .mk fun A s Q E va vb o i ra rb h => by
  first | obtain ⟨_, rfl⟩ := rb.int_inv | obtain ⟨_, rfl⟩ := rb.str_inv | obtain rfl := rb.val_inv | obtain rfl := rb.bool_inv | cases rb
  obtain ⟨a, vs, n, rfl, hl, rl, p⟩ := ra.tup_inv
  have e22 : s.heap.get? 22 = some (objAt w 22) := (hG _ i).at (by rfl) (by intro h; cases h)
  have ne : a ≠ 22 := fun q => by
    subst q
    have hl' : s.heap.get? 22 = _ := hl
    rw [e22] at hl'
    have h1 := congrArg Obj.cls (Option.some.inj hl')
    have h2 : Value.type "object" = Value.type "tuple" := h1
    injection h2 with h3
    exact absurd h3 (by decide)
  show wpAny _ A (do return .bool (← isSame (.ref a) (.ref 22))) Q E s
  refine wpAny_bind ?_
  show wpAny _ A (if (a == 22) = true then pure true else _) _ E s
  rw [if_neg (by simpa using ne)]
  refine wpAny_bind (wpAny_load hl (wpAny_bind (wpAny_load e22 ?_)))
  exact wpAny_pure (wpAny_pure (h _ s.heap s.toks (rrel.refl _) (.bool false)))
theorem binds30 {s : Shared} {args : Args} {binds : List (Str × Value)} (g : Gs w mg mb s.heap) {kk : Option (Array Value) → Sem (List (Str × Value))} (h₁ : bindArgs (fdAt w 30) args = seqItems? (fdAt w 30).defaults >>= kk ) (h₂ : kk (some #[.ref 22]) = pure binds) : BindsTo s (fdAt w 30) args binds := by
  have e := g.at (a := 23) (by rfl) (by intro h; cases h)
  exact BindsTo.of_defaults (T := 23) (by rfl) e (by rfl) h₁ h₂
theorem ca_reduce3 (rrel : Rel R) (hG : ∀ h, G h → Gs w mg mb h) (hst : Static R G) {fa : Addr} {ob : Obj} {fd : FuncData} (hob : ob.data = .func fd) (ho : ∀ h, G h → h.get? fa = some ob) {ds ini : List D} {res : D}
    (fold : Fold (StepC prog w X R G B k (l0 :: ls) fa) (.tup ini) ds res) :
    Ca prog w X R (fun h => (G h ∧ FF B h (l0 :: ls)) ∧ Up X h) ⟨k + 1, some (l0 :: ls), true⟩ (.ref 30) [.val (.ref fa), .list ds, .tup ini] res := by
  have hst' : Static R (fun h => G h ∧ FF B h (l0 :: ls)) := fun h h' kk g => ⟨hst _ _ kk g.1, g.2.kp (rrel.weak kk)⟩
  have hGG : ∀ h, (G h ∧ FF B h (l0 :: ls)) → Gs w mg mb h := fun h g => hG h g.1
  refine Ca.atB rrel hGG 30 29 (names := ["function", "sequence", "initial"]) [] (by rfl) (by intro h; cases h) (by rfl) (by rfl) (by rfl) (by rfl) (by intro h; cases h) ⟨_, _, by rfl, by rfl⟩ (by rfl) (by rfl) (by rfl) (by rfl) (by kernel_rfl) (by rfl)
    (fun s vals g h => by revert vals; exact len3 fun a0 a1 a2 => binds30 (args := ⟨[a0, a1, a2], []⟩) (binds := [("function", a0), ("sequence", a1), ("initial", a2)]) g rfl (by kernel_rfl)) (fun n => allC (.inl (by rfl)) (allC (.inl (by rfl)) (allC (.inl (by rfl)) all0))) fun h₀ G0 => ?_
  refine .mk fun A s Q E o S q => ?_
  refine wpAny_execs_cons (wpAny_Assign_Name (call1B (X := X) (id := "iter") rrel (St.stab rrel) ?Zf1 (fun _ => rfl) (a := .list ds) ?Za1 o S ?Zc1) (by rfl))
  case Zf1 =>
    refine' Ev.name rrel (by rfl) (by rfl) ?Zl1
    case Zl1 => intro h S; have GG := hGG _ (St.gh rrel hst' S); exact GG.glo (by rfl) (by rfl)
  case Za1 => exact Ev.nm rrel (by rfl) (by rfl)
  case Zc1 =>
  intro v h1 t1 k1 rv
  have S1 := S.step rrel k1
  refine call_iter (X := X) (d := .none) rv fun it h2 t2 hit hnone kf x => ?_
  have S2 := S1.step rrel (rrel.full kf)
  have hit' : h₀.objs.size ≤ it := Nat.le_trans (S1.size rrel) hit
  have hx : X it := S1.up.fresh hnone
  refine (Sto.loc (x := "it") (d := .val (.ref it)) rrel (by rfl) (by rfl) (by rfl)).run A _ _ _ (.ref it) S2 (.val _) fun h3 t3 S3 ki3 => ?_
  have x3 := x.ki ki3
  refine wpAny_execs_cons ?_
  refine (Ex1.ifs rrel (c := false) (o := .next (upd (upd (rho0 (fun _ => none) ["function", "sequence", "initial"] [.val (.ref fa), .list ds, .tup ini]) "it" (.val (.ref it))) "value" (.tup ini))) ?Zt3 (fun h => by cases h) (fun _ => Ex.cons (Ex1.assign rrel ?Ze3 ?Zs3 (by rfl)) Ex.nil)).run A _ _ _ o S3 fun h4 t4 S4 ki4 => ?_
  case Zt3 =>
    refine' Tr.cmp (X := X) rrel (St.stab rrel) (by with_unfolding_all rfl) ?Za4 ?Zb4 (isMissing rrel fun h S => hGG _ (St.gh rrel hst' S))
    case Za4 => exact Ev.nm rrel (by rfl) (by rfl)
    case Zb4 =>
      refine' Ev.name rrel (by rfl) (by rfl) ?Zl4
      case Zl4 => intro h S; have GG := hGG _ (St.gh rrel hst' S); exact GG.glo (by rfl) (by rfl)
  case Ze3 => exact Ev.nm rrel (by rfl) (by rfl)
  case Zs3 => exact Sto.loc rrel (by rfl) (by rfl) (by rfl)
  have x4 := x3.ki ki4
  refine wpAny_execs_cons ?_
  have S4' : St X R (fun h => G h ∧ FF B h (l0 :: ls)) h₀ (callEnvC (fdAt w 30) h₀.objs.size 30) (upd (rhoR fa (.tup ini)) "it" (.val (.ref it))) h4 := S4.weak fun y e h => by
    by_cases q : y = "it"
    · subst q; simp [upd] at h; subst h; rfl
    · simp [upd, q] at h
      exact extR (ρ := upd (upd (rho0 (fun _ => none) ["function", "sequence", "initial"] [.val (.ref fa), .list ds, .tup ini]) "it" (.val (.ref it))) "value" (.tup ini)) (by rfl) (by rfl) y e h
  refine forIt rrel (by rfl) (it := it) (i := 0) (ds := ds) (o := .next (rhoR fa res)) (ρ' := rhoR fa (.tup ini)) o (Ev.nm rrel (by rfl) (by rfl)) S4' x4 hit' hx ?Zw5 (loR rrel hst hob ho (FF.size G0.2) ds 0 (.tup ini) (by simp) (by simp) fold) (fun _ => rfl) ?Zq5
  case Zw5 => exact extR (by rfl) (by rfl)
  case Zq5 =>
    intro h5 k5 h6 t6 kj h7 t7 S7 ki7
    refine wpAny_execs_cons ((Ex1.ret rrel (d := res) ?Ze7).run A _ _ _ o S7 fun v h8 t8 k8 rv8 => q v h8 t8 k8 rv8)
    case Ze7 => exact Ev.nm rrel (by rfl) (by rfl)
theorem ca_reduce2 (rrel : Rel R) (hG : ∀ h, G h → Gs w mg mb h) (hst : Static R G) {fa : Addr} {ob : Obj} {fd : FuncData} (hob : ob.data = .func fd) (ho : ∀ h, G h → h.get? fa = some ob) {ds : List D} {d0 res : D}
    (fold : Fold (StepC prog w X R G B k (l0 :: ls) fa) d0 ds res) :
    Ca prog w X R (fun h => (G h ∧ FF B h (l0 :: ls)) ∧ Up X h) ⟨k + 1, some (l0 :: ls), true⟩ (.ref 30) [.val (.ref fa), .list (d0 :: ds)] res := by
  have hst' : Static R (fun h => G h ∧ FF B h (l0 :: ls)) := fun h h' kk g => ⟨hst _ _ kk g.1, g.2.kp (rrel.weak kk)⟩
  have hGG : ∀ h, (G h ∧ FF B h (l0 :: ls)) → Gs w mg mb h := fun h g => hG h g.1
  refine Ca.atB rrel hGG 30 29 (names := ["function", "sequence", "initial"]) [.ref 22] (by rfl) (by intro h; cases h) (by rfl) (by rfl) (by rfl) (by rfl) (by intro h; cases h) ⟨_, _, by rfl, by rfl⟩ (by rfl) (by rfl) (by rfl) (by rfl) (by kernel_rfl) (by rfl)
    (fun s vals g h => by replace h : vals.length = 2 := Nat.succ.inj h; revert vals; exact len2 fun a0 a1 => binds30 (args := ⟨[a0, a1], []⟩) (binds := [("function", a0), ("sequence", a1), ("initial", .ref 22)]) g rfl (by kernel_rfl)) (fun n => allC (.inl (by rfl)) (allC (.inl (by rfl)) (allC (.inl (by rfl)) all0))) fun h₀ G0 => ?_
  refine .mk fun A s Q E o S q => ?_
  refine wpAny_execs_cons (wpAny_Assign_Name (call1B (X := X) (id := "iter") rrel (St.stab rrel) ?Zf1 (fun _ => rfl) (a := .list (d0 :: ds)) ?Za1 o S ?Zc1) (by rfl))
  case Zf1 =>
    refine' Ev.name rrel (by rfl) (by rfl) ?Zl1
    case Zl1 => intro h S; have GG := hGG _ (St.gh rrel hst' S); exact GG.glo (by rfl) (by rfl)
  case Za1 => exact Ev.nm rrel (by rfl) (by rfl)
  case Zc1 =>
  intro v h1 t1 k1 rv
  have S1 := S.step rrel k1
  refine call_iter (X := X) (d := .none) rv fun it h2 t2 hit hnone kf x => ?_
  have S2 := S1.step rrel (rrel.full kf)
  have hit' : h₀.objs.size ≤ it := Nat.le_trans (S1.size rrel) hit
  have hx : X it := S1.up.fresh hnone
  refine (Sto.loc (x := "it") (d := .val (.ref it)) rrel (by rfl) (by rfl) (by rfl)).run A _ _ _ (.ref it) S2 (.val _) fun h3 t3 S3 ki3 => ?_
  have x3 := x.ki ki3
  refine wpAny_execs_cons ?_
  have tr3 : Tr prog w R (St X R (fun h => G h ∧ FF B h (l0 :: ls)) h₀ (callEnvC (fdAt w 30) h₀.objs.size 30) (upd (rho0 (fun _ => none) ["function", "sequence", "initial"] [.val (.ref fa), .list (d0 :: ds), .val (.ref 22)]) "it" (.val (.ref it)))) ⟨k, some (callEnvC (fdAt w 30) h₀.objs.size 30 :: l0 :: ls), true⟩ (callEnvC (fdAt w 30) h₀.objs.size 30) (ifTest1 (nthSt (bodyAt w 30) 1)) true := by
    refine' Tr.cmp (X := X) (a := .val (.ref 22)) (b := .val (.ref 22)) (c := true) rrel (St.stab rrel) (by with_unfolding_all rfl) ?Za4 ?Zb4 ?Zo4
    case Za4 => exact Ev.nm rrel (by rfl) (by rfl)
    case Zb4 =>
      refine' Ev.name rrel (by rfl) (by rfl) ?Zl4
      case Zl4 => intro h S; have GG := hGG _ (St.gh rrel hst' S); exact GG.glo (by rfl) (by rfl)
    case Zo4 =>
      refine .mk fun A s Q E va vb o i ra rb h => ?_
      first | obtain ⟨_, rfl⟩ := ra.int_inv | obtain ⟨_, rfl⟩ := ra.str_inv | obtain rfl := ra.val_inv | obtain rfl := ra.bool_inv | cases ra
      first | obtain ⟨_, rfl⟩ := rb.int_inv | obtain ⟨_, rfl⟩ := rb.str_inv | obtain rfl := rb.val_inv | obtain rfl := rb.bool_inv | cases rb
      exact wpAny_is_ref_self (h _ s.heap s.toks (rrel.refl _) (.bool true))
  refine wpAny_If (tr3.run A _ _ _ o S3 fun h4 t4 k4 => ?_)
  have S4 := S3.step rrel k4
  have x4 := x3.ki (rrel.weak k4).ki
  simp only [if_true]
  refine wpAny_execs_cons (wpAny_Try_except (wpAny_execs_cons (wpAny_Assign_Name (call1B (X := X) (id := "next") rrel (St.stab rrel) ?Zf5 (fun _ => rfl) (a := .val (.ref it)) ?Za5 o S4 ?Zc5) (by rfl))))
  case Zf5 =>
    refine' Ev.name rrel (by rfl) (by rfl) ?Zl5
    case Zl5 => intro h S; have GG := hGG _ (St.gh rrel hst' S); exact GG.glo (by rfl) (by rfl)
  case Za5 => exact Ev.nm rrel (by rfl) (by rfl)
  case Zc5 =>
  intro v5 h5 t5 k5 rv5
  first | obtain ⟨_, rfl⟩ := rv5.int_inv | obtain ⟨_, rfl⟩ := rv5.str_inv | obtain rfl := rv5.val_inv | obtain rfl := rv5.bool_inv | cases rv5
  have S5 := S4.step rrel k5
  have x5 := x4.ki (rrel.weak k5).ki
  refine call_next x5 (d := d0) (by rfl) fun v6 h6 t6 b6 x6 rv6 => ?_
  have S6 := b6.st rrel x5.at hit' hx S5
  refine (Sto.loc (x := "value") (d := d0) rrel (by rfl) (by rfl) (by rfl)).run A _ _ _ v6 S6 rv6 fun h7 t7 S7 ki7 => ?_
  have x7 := x6.ki ki7
  refine wpAny_execs_nil (wpAny_execs_nil (wpAny_execs_nil (wpAny_execs_cons ?_)))
  refine forIt rrel (by rfl) (it := it) (i := 1) (ds := d0 :: ds) (o := .next (rhoR fa res)) (ρ' := rhoR fa d0) o (Ev.nm rrel (by rfl) (by rfl)) S7 x7 hit' hx ?Zw5 (loR rrel hst hob ho (FF.size G0.2) ds 1 d0 (by simp; lia) (by simp) fold) (fun _ => rfl) ?Zq5
  case Zw5 => exact extR (by rfl) (by rfl)
  case Zq5 =>
    intro h8 k8 h9 t9 kj h10 t10 S10 ki10
    refine wpAny_execs_cons ((Ex1.ret rrel (d := res) ?Ze7).run A _ _ _ o S10 fun v h11 t11 k11 rv11 => q v h11 t11 k11 rv11)
    case Ze7 => exact Ev.nm rrel (by rfl) (by rfl)
end
end
section
variable {X : Addr → Prop}
noncomputable def turnAt (ns : List Int) (j : Nat) : Int := ns.getD 9 0 / 2 ^ j % 2
noncomputable abbrev start3 : List Int × List Int × List Int := ([0, 1, 2, 3], [0, 0, 0, 0], [-1, -1, -1, -1])
noncomputable def askRun (wishes ranks : List (List Int)) : List Int × List Int × List Int → List Int → List Int × List Int × List Int
  | s, [] => s
  | s, t :: ts => askRun wishes ranks (asked wishes ranks s t) ts
noncomputable def AskAll (wishes ranks : List (List Int)) : List Int × List Int × List Int → List Int → Prop
  | _, [] => True
  | s, t :: ts => AskOk wishes ranks s.1 s.2.1 s.2.2 ∧ AskAll wishes ranks (asked wishes ranks s t) ts
theorem Fold.asked {C : D → D → D → Prop} {wishes ranks : List (List Int)} (h : ∀ s t, AskOk wishes ranks s.1 s.2.1 s.2.2 → C (dS s) (.int t) (dS (asked wishes ranks s t))) : ∀ (ts : List Int) (s : List Int × List Int × List Int), AskAll wishes ranks s ts → Fold C (dS s) (ts.map D.int) (dS (askRun wishes ranks s ts))
  | [], _, _ => .nil
  | t :: ts, s, a => .cons (h s t a.1) (Fold.asked h ts _ a.2)
end
section
variable {X : Addr → Prop}
theorem i4_cases {x : Int} (h : I4 x) : x = 0 ∨ x = 1 ∨ x = 2 ∨ x = 3 := by unfold I4 at h; lia
theorem i4_of (n : Nat) (h : n < 4) : I4 (n : Int) := ⟨by lia, by lia⟩
theorem Inv.fin {Wi ix rk wo : Int → Int → Int} {T H C : Int → Int} (J : Inst Wi ix rk wo) (I : Inv Wi ix rk wo [] T H) (hC : ∀ x, I4 x → I4 (C x) ∧ H (C x) = x) :
    Stb Wi ix wo C ∧ ∀ V, Stb Wi ix wo V → ∀ x, I4 x → ix x (C x) ≤ ix x (V x) := by
  have inj : ∀ {x y}, I4 x → I4 y → C x = C y → x = y := fun {x y} hx hy e => by rw [← (hC x hx).2, ← (hC y hy).2, e]
  have ixe : ∀ x, I4 x → I4 (T x - 1) ∧ Wi x (T x - 1) = C x ∧ ix x (C x) = T x - 1 := fun x hx => by
    have c := hC x hx
    rcases I.hb c.1 with a | ⟨_, _, a, b⟩
    · rw [c.2] at a; unfold I4 at hx; lia
    · rw [c.2] at a b
      have t := I.tb hx
      have t4 : I4 (T x - 1) := ⟨by lia, by lia⟩
      exact ⟨t4, b, by rw [← b, J.xw hx t4]⟩
  refine ⟨⟨fun hx => (hC _ hx).1, inj, fun {p} hp => ?_, fun {x y k} hx hy k0 kl e => ?_⟩, fun V hV x hx => ?_⟩
  · have i0 : I4 0 := ⟨by decide, by decide⟩
    have i1 : I4 1 := ⟨by decide, by decide⟩
    have i2 : I4 2 := ⟨by decide, by decide⟩
    have i3 : I4 3 := ⟨by decide, by decide⟩
    have ij : ∀ p q, I4 p → I4 q → p ≠ q → C p ≠ C q := fun p q hp hq n e => n (inj hp hq e)
    rcases four_pig hp (hC 0 i0).1 (hC 1 i1).1 (hC 2 i2).1 (hC 3 i3).1 (ij 0 1 i0 i1 (by decide)) (ij 0 2 i0 i2 (by decide)) (ij 0 3 i0 i3 (by decide)) (ij 1 2 i1 i2 (by decide)) (ij 1 3 i1 i3 (by decide)) (ij 2 3 i2 i3 (by decide)) with a | a | a | a
    · exact ⟨0, i0, a.symm⟩
    · exact ⟨1, i1, a.symm⟩
    · exact ⟨2, i2, a.symm⟩
    · exact ⟨3, i3, a.symm⟩
  · have := (ixe x hx).2.2
    have tx := I.tb hx
    have a := I.as hx k0 (by lia)
    rw [e, (hC y hy).2] at a
    by_cases q : x = y
    · subst q; exact Int.le_refl _
    · have lt : rk (C y) y < rk (C y) x := lt_of_le_ne a.2 fun z => q (J.ri (hC y hy).1 hy hx z).symm
      have := J.rw (hC y hy).1 hy hx lt
      lia
  · rw [(ixe x hx).2.2]
    exact (I.op hV hx).2
noncomputable abbrev atF (l : List Int) (x : Int) : Int := l.getD x.toNat 0
noncomputable abbrev wiF (wishes : List (List Int)) (x k : Int) : Int := (wishes.getD x.toNat []).getD k.toNat 0
noncomputable abbrev ixF (rows : List (List Int)) (x p : Int) : Int := (idx (rows.getD x.toNat []) p : Int)
structure Inv3 (wishes ranks : List (List Int)) (wo : Int → Int → Int) (s : List Int × List Int × List Int) : Prop where
  inv : Inv (wiF wishes) (ixF wishes) (ixF ranks) wo s.1 (atF s.2.1) (atF s.2.2)
  t4 : s.2.1.length = 4
  h4 : s.2.2.length = 4
  fl : s.1.length ≤ 4
structure Shape (wishes ranks : List (List Int)) : Prop where
  w4 : wishes.length = 4
  wr : ∀ i : Nat, i < 4 → (wishes.getD i []).length = 4
  wv : ∀ i : Nat, i < 4 → ∀ p ∈ wishes.getD i [], 0 ≤ p ∧ p < 4
  r4 : ranks.length = 4
  rl : ∀ i : Nat, i < 4 → (ranks.getD i []).length = 4
  rv : ∀ i : Nat, i < 4 → ∀ o : Int, 0 ≤ o → o < 4 → o ∈ ranks.getD i []
theorem list_four {α : Type} : ∀ {l : List α}, l.length = 4 → ∃ a b c d, l = [a, b, c, d]
  | [a, b, c, d], _ => ⟨a, b, c, d, rfl⟩
theorem ask_split {F : List Int} {t : Int} (h : F ≠ []) : (∀ x, x ∈ F ↔ x = askOne F t ∨ x ∈ askRest F t) ∧ (F.Nodup → askOne F t ∉ askRest F t ∧ (askRest F t).Nodup) ∧ (askRest F t).length + 1 = F.length := by
  unfold askOne askRest
  split
  · match F, h with
    | a :: r, _ => simp
  · obtain ⟨r, a, rfl⟩ : ∃ r a, F = r ++ [a] := ⟨F.dropLast, F.getLast h, (List.dropLast_concat_getLast h).symm⟩
    have e : (r ++ [a]).getD ((r ++ [a]).length - 1) 0 = a := by simp [List.getD]
    rw [e, List.dropLast_concat]
    refine ⟨fun x => by simp [or_comm], fun n => ?_, by simp⟩
    rw [List.nodup_append] at n
    exact ⟨fun z => n.2.2 a z a (by simp) rfl, n.1⟩
theorem askTried_at {tried : List Int} {one x : Int} (hx : I4 x) : atF (askTried tried one) x = if x = one then atF tried x + 1 else atF tried x := by
  have : ((List.range 4).map fun (k : Nat) => if (k : Int) == one then tried.getD k 0 + 1 else tried.getD k 0) = [if (0 : Int) == one then tried.getD 0 0 + 1 else tried.getD 0 0, if (1 : Int) == one then tried.getD 1 0 + 1 else tried.getD 1 0, if (2 : Int) == one then tried.getD 2 0 + 1 else tried.getD 2 0, if (3 : Int) == one then tried.getD 3 0 + 1 else tried.getD 3 0] := rfl
  unfold askTried atF
  rw [this]
  simp only [beq_iff_eq]
  rcases i4_cases hx with rfl | rfl | rfl | rfl <;> rfl
theorem askHeld_at {held : List Int} {one place p : Int} (hl : held.length = 4) (hp : I4 p) (hq : I4 place) : atF (askHeld held one place) p = if p = place then one else atF held p := by
  obtain ⟨a, b, c, d, rfl⟩ := list_four hl
  rcases i4_cases hp with rfl | rfl | rfl | rfl <;> rcases i4_cases hq with rfl | rfl | rfl | rfl <;> rfl
theorem askHeld_len {held : List Int} {one place : Int} (hl : held.length = 4) (hq : I4 place) : (askHeld held one place).length = 4 := by
  obtain ⟨a, b, c, d, rfl⟩ := list_four hl
  rcases i4_cases hq with rfl | rfl | rfl | rfl <;> rfl
noncomputable abbrev sumT (l : List Int) : Int := atF l 0 + atF l 1 + atF l 2 + atF l 3
theorem askTried_sum {tried : List Int} {one : Int} (h : I4 one) : sumT (askTried tried one) = sumT tried + 1 := by
  have i0 : I4 0 := ⟨by decide, by decide⟩
  have i1 : I4 1 := ⟨by decide, by decide⟩
  have i2 : I4 2 := ⟨by decide, by decide⟩
  have i3 : I4 3 := ⟨by decide, by decide⟩
  unfold sumT
  rw [askTried_at i0, askTried_at i1, askTried_at i2, askTried_at i3]
  rcases i4_cases h with rfl | rfl | rfl | rfl <;> simp <;> lia
section
variable {wishes ranks : List (List Int)} {wo : Int → Int → Int} {s : List Int × List Int × List Int} {t : Int}
theorem Inv3.ok (J : Inst (wiF wishes) (ixF wishes) (ixF ranks) wo) (S : Shape wishes ranks) (I : Inv3 wishes ranks wo s) : AskOk wishes ranks s.1 s.2.1 s.2.2 := by
  refine ⟨S.w4, S.wr, S.wv, S.r4, S.rl, S.rv, I.t4, I.h4, fun x hx => ?_, fun o ho => I.inv.fv ho, I.fl, fun o ho => ⟨(I.inv.tb (I.inv.fv ho)).1, I.inv.lt4 J ho⟩⟩
  obtain ⟨i, hi, e⟩ := List.getElem_of_mem hx
  have h4 := I.h4
  have e2 : atF s.2.2 (i : Int) = x := by simp [atF, List.getD, hi, e]
  rcases I.inv.hb (i4_of i (by lia)) with a | ⟨a, _⟩
  · rw [e2] at a; lia
  · rw [e2] at a; unfold I4 at a; lia
theorem Inv3.step (J : Inst (wiF wishes) (ixF wishes) (ixF ranks) wo) (I : Inv3 wishes ranks wo s) (hs : s.1 ≠ []) : Inv3 wishes ranks wo (asked wishes ranks s t) ∧ sumT (asked wishes ranks s t).2.1 = sumT s.2.1 + 1 := by
  obtain ⟨m1, mn, ml⟩ := ask_split (t := t) hs
  obtain ⟨n1, n2⟩ := mn I.inv.nd
  have o1 := askOne_mem (turn := t) hs
  have o4 := I.inv.fv o1
  have t4 : I4 (atF s.2.1 (askOne s.1 t)) := ⟨(I.inv.tb o4).1, I.inv.lt4 J o1⟩
  have p4 : I4 (askPlace wishes s.2.1 (askOne s.1 t)) := J.wv o4 t4
  have fl := I.fl
  have tl : (askTried s.2.1 (askOne s.1 t)).length = 4 := by simp [askTried]
  have hT : ∀ x, I4 x → atF (askTried s.2.1 (askOne s.1 t)) x = if x = askOne s.1 t then atF s.2.1 x + 1 else atF s.2.1 x := fun x hx => askTried_at hx
  have hH : ∀ p, I4 p → atF (askHeld s.2.2 (askOne s.1 t) (askPlace wishes s.2.1 (askOne s.1 t))) p = if p = wiF wishes (askOne s.1 t) (atF s.2.1 (askOne s.1 t)) then askOne s.1 t else atF s.2.2 p := fun p hp => askHeld_at I.h4 hp p4
  have sm := askTried_sum (tried := s.2.1) o4
  unfold asked
  rw [if_neg hs]
  dsimp only
  split
  · rename_i e
    exact ⟨⟨I.inv.take J m1 n1 n2 hT hH (beq_iff_eq.mp e), tl, askHeld_len I.h4 p4, by dsimp only; lia⟩, sm⟩
  · rename_i e
    have e' : s.2.2.getD (askPlace wishes s.2.1 (askOne s.1 t)).toNat 0 ≠ -1 := fun z => e (beq_iff_eq.mpr z)
    split
    · rename_i lt
      exact ⟨⟨I.inv.swap J m1 n1 n2 hT hH rfl e' (Int.ofNat_lt.mpr lt), tl, askHeld_len I.h4 p4, by dsimp only; rw [List.length_append]; simp; lia⟩, sm⟩
    · rename_i lt
      exact ⟨⟨I.inv.back J m1 n1 n2 hT (fun p hp => rfl) rfl e' (fun z => lt (Int.ofNat_lt.mp z)), tl, I.h4, by dsimp only; rw [List.length_append]; simp; lia⟩, sm⟩
theorem Inv3.run (J : Inst (wiF wishes) (ixF wishes) (ixF ranks) wo) (S : Shape wishes ranks) : ∀ (ts : List Int) (s : List Int × List Int × List Int), Inv3 wishes ranks wo s →
    AskAll wishes ranks s ts ∧ Inv3 wishes ranks wo (askRun wishes ranks s ts) ∧ ((askRun wishes ranks s ts).1 = [] ∨ sumT (askRun wishes ranks s ts).2.1 = sumT s.2.1 + ts.length)
  | [], s, I => ⟨trivial, I, .inr (by simp [askRun])⟩
  | t :: ts, s, I => by
    by_cases e : s.1 = []
    · have q : asked wishes ranks s t = s := by unfold asked; rw [if_pos e]
      obtain ⟨a, b, c⟩ := Inv3.run J S ts s I
      refine ⟨⟨I.ok J S, by rw [q]; exact a⟩, by show Inv3 _ _ _ (askRun _ _ (asked _ _ _ _) _); rw [q]; exact b, ?_⟩
      show (askRun _ _ (asked _ _ _ _) _).1 = [] ∨ _
      rw [q]
      have emp : ∀ (ts : List Int), askRun wishes ranks s ts = s := by
        intro ts
        induction ts with
        | nil => rfl
        | cons t ts ih => show askRun _ _ (asked _ _ _ _) _ = _; unfold asked; rw [if_pos e]; exact ih
      rw [emp]
      exact .inl e
    · obtain ⟨st, sm⟩ := I.step (t := t) J e
      obtain ⟨a, b, c⟩ := Inv3.run J S ts _ st
      refine ⟨⟨I.ok J S, a⟩, b, ?_⟩
      rcases c with c | c
      · exact .inl c
      · refine .inr ?_
        show sumT (askRun _ _ (asked _ _ _ _) _).2.1 = _
        rw [c, sm, List.length_cons]
        push_cast
        lia
theorem Inv3.start (J : Inst (wiF wishes) (ixF wishes) (ixF ranks) wo) : Inv3 wishes ranks wo start3 := by
  have t0 : ∀ {x}, I4 x → atF [0, 0, 0, 0] x = 0 := fun {x} hx => by rcases i4_cases hx with rfl | rfl | rfl | rfl <;> rfl
  have h0 : ∀ {x}, I4 x → atF [-1, -1, -1, -1] x = -1 := fun {x} hx => by rcases i4_cases hx with rfl | rfl | rfl | rfl <;> rfl
  refine ⟨⟨by decide, fun {x} hx => ?_, fun {x} hx => ?_, fun {p} hp => .inl (h0 hp), fun {x} hx => .inl ?_, fun {x k} hx k0 kl => ?_, fun {V} hV {x} hx => ?_⟩, rfl, rfl, by decide⟩
  · simp [start3] at hx; unfold I4; lia
  · show 0 ≤ atF [0, 0, 0, 0] x ∧ _; rw [t0 hx]; decide
  · rcases i4_cases hx with rfl | rfl | rfl | rfl <;> decide
  · rw [show atF start3.2.1 x = atF [0, 0, 0, 0] x from rfl, t0 hx] at kl; lia
  · rw [show atF start3.2.1 x = atF [0, 0, 0, 0] x from rfl, t0 hx]
    have := (J.xv hx (hV.val hx)).1
    exact ⟨fun _ => this, by lia⟩
-- sixteen turns are enough
theorem Inv3.done (J : Inst (wiF wishes) (ixF wishes) (ixF ranks) wo) (S : Shape wishes ranks) {ts : List Int} (h : ts.length = 16) :
    AskAll wishes ranks start3 ts ∧ (askRun wishes ranks start3 ts).1 = [] ∧ Inv3 wishes ranks wo (askRun wishes ranks start3 ts) := by
  obtain ⟨a, b, c⟩ := Inv3.run J S ts _ (Inv3.start J)
  refine ⟨a, ?_, b⟩
  rcases c with c | c
  · exact c
  · rw [h, show sumT start3.2.1 = 0 from rfl] at c
    generalize askRun wishes ranks start3 ts = r at b c
    match hr : r.1 with
    | [] => rfl
    | x :: l =>
      exfalso
      have xm : x ∈ r.1 := by rw [hr]; simp
      have lt := b.inv.lt4 J xm
      have x4 := b.inv.fv xm
      have i0 := b.inv.tb (x := 0) ⟨by decide, by decide⟩
      have i1 := b.inv.tb (x := 1) ⟨by decide, by decide⟩
      have i2 := b.inv.tb (x := 2) ⟨by decide, by decide⟩
      have i3 := b.inv.tb (x := 3) ⟨by decide, by decide⟩
      unfold sumT at c
      rcases i4_cases x4 with rfl | rfl | rfl | rfl <;> lia
end
end
section
variable {X : Addr → Prop}
noncomputable def lawQ : Str := "law.<locals>.<lambda>"
-- what stands below the law's own frame
noncomputable def GL (w : World) (mg mb : Str → Option Value) (B : Nat) (h : Heap) : Prop := Gs w mg mb h ∧ TT B h
noncomputable abbrev RL (B : Nat) : Heap → Heap → Prop := Rm B [16, 177] (TT B)
section
variable {prog : Program} {w : World} {A : Around} {E : Value → Shared → Prop} {h : Heap} {g : Array GenState} {d : Drawn} {t : Nat} {os : OsState} {mg mb : Str → Option Value} {B : Nat}
theorem RL.rel (B : Nat) : Rel (RL B) := (Rel.rm (TT.hard B)).toRel
theorem GL.stat (kb : KB w B) : Static (RL B) (GL w mg mb B) := fun h h' k g => ⟨g.1.rm kb (TT.hard B) k, k.2 g.2⟩
theorem lam_new {env : Env} {params : Arguments} {body : Expr} {scope : Scope} {pos : Pos} {clo : List (Str × Addr)} {Q : Value → Shared → Prop} (hcode : env.code = .ref 179) (hgl : env.globals = mainGlobals) (hq : env.qual ++ "<lambda>" = lawQ) (hclo : closureFor scope env = pure clo)
    (hdef : defaultsOf params env = ([], [])) (gl : GL w mg mb B h) (hBig : 180 < B)
    (hQ : ∀ f ct c' h' tk, RL B h h' → LamAt lawQ params body scope clo f ct c' h' → Q (.ref f) ⟨h', g, d, tk, os⟩) : wpAny (model prog w) A (eval (.Lambda params body scope pos) env) Q E ⟨h, g, d, t, os⟩ := by
  obtain ⟨G, tb, kt⟩ := gl
  rw [arm_eval_Lambda, hdef, hq]
  show wpAny _ _ (do let dv ← evalAll []; let kdv ← holding dv (evalAllOpt []); makeFunction "<lambda>" lawQ params (.expr body) scope env dv kdv [] pos pos.line) _ _ _
  refine wpAny_bind (show wpAny _ _ (pure []) _ _ _ from wpAny_pure ?_)
  refine wpAny_bind (wpAny_holding (show wpAny _ _ (pure []) _ _ _ from wpAny_pure ?_))
  refine mk_fn (c := 179) (P := 177) (qu := lamQ) G hgl hcode tb rfl hclo (fun b e => by cases e) fun f c' ct h' tk gr G' tb' cr hf0 hf => ?_
  have l177 : (177 : Nat) < B := Nat.lt_trans (by decide) hBig
  refine hQ f ct c' h' tk ?_ ⟨hf, cr⟩
  obtain ⟨ps, a, b, _⟩ := id tb
  exact (Gn.grow (B := B) (TB := [16, 177]) gr b (.inl (by simp))).rm fun _ => ⟨tb', kt.grow gr b l177 (by decide) (by decide)⟩
-- a def called with a lambda ahead of the other arguments
theorem Ev.callLam {h₀ : Heap} {env : Env} {ρ : Rho} {k : Room} {x : Str} {np pos lp : Pos} {params : Arguments} {body : Expr} {scope : Scope} {clo : List (Str × Addr)} {es : List Expr} {ds : List D} {dr : D} {fa : Addr} {ob : Obj} {fd : FuncData} (kb : KB w B) (hBig : 180 < B)
    (hcode : env.code = .ref 179) (hgl : env.globals = mainGlobals) (hq : env.qual ++ "<lambda>" = lawQ) (hclo : closureFor scope env = pure clo) (hdef : defaultsOf params env = ([], []))
    (hf : Ev prog w X (RL B) (St X (RL B) (GL w mg mb B) h₀ env ρ) k env (.Name x np) (.val (.ref fa))) (hob : ob.data = .func fd) (ho : ∀ h, Gs w mg mb h → h.get? fa = some ob)
    (ha : EvL prog w X (RL B) (St X (RL B) (GL w mg mb B) h₀ env ρ) k env es ds)
    (hc : ∀ f ct c', Ca prog w X (RL B) (fun h => St X (RL B) (GL w mg mb B) h₀ env ρ h ∧ LamAt lawQ params body scope clo f ct c' h) k (.ref fa) (.val (.ref f) :: ds) dr) :
    Ev prog w X (RL B) (St X (RL B) (GL w mg mb B) h₀ env ρ) k env (.Call (.Name x np) (.Lambda params body scope lp :: es) [] pos) dr := .mk fun A s Q E o i hq' => by
  have r := RL.rel B
  have stab := St.stab (X := X) (G := GL w mg mb B) (h₀ := h₀) (env := env) (ρ := ρ) r
  refine wpAny_Call_NameR (hf.run A s _ _ o i fun vf h1 t1 k1 rf => ?_)
  first | obtain ⟨_, rfl⟩ := rf.int_inv | obtain ⟨_, rfl⟩ := rf.str_inv | obtain rfl := rf.val_inv | obtain rfl := rf.bool_inv | cases rf
  have i1 := stab _ _ k1 i
  refine callWith_def hob (wpAny_items_cons (lam_new hcode hgl hq hclo hdef (St.gh r (GL.stat kb) i1) hBig fun f ct c' h2 t2 k2 la => ?_) rfl)
  have i2 := stab _ _ k2 i1
  refine ha.run A _ _ _ pos o i2 fun vs h3 t3 k3 rs => ?_
  have i3 := stab _ _ k3 i2
  refine ⟨ho _ (St.gh r (GL.stat kb) i3).1, ?_⟩
  refine (hc f ct c').run A _ _ _ (.ref f :: vs) o ⟨i3, la.kp (r.weak k3)⟩ (.cons (.val _) rs) fun v h4 t4 k4 rv => ?_
  exact hq' v h4 t4 (r.trans (r.trans (r.trans k1 k2) k3) k4) rv
end
end
section
variable {X : Addr → Prop}
noncomputable def kasD (F : Int → Int → Int) : List D := (kasRun (fun i j => decide (F (([0, 1, 2, 3] : List Int).getD i 0) (([0, 1, 2, 3] : List Int).getD j 0) < 0)) (kas_sort 4)).toList.map fun i : Nat => if i < 4 then D.int (i : Int) else D.none
section
variable {prog : Program} {w : World} {A : Around} {E : Value → Shared → Prop} {h : Heap} {g : Array GenState} {d : Drawn} {t : Nat} {os : OsState} {mg mb : Str → Option Value} {B : Nat}
theorem KCls.use {h₀ h : Heap} {C cell m : Addr} {om : Obj} (x : KCls w h₀ h C cell) (lim : h.NoLimit) (ic : h.IsCell cell (some (.ref m))) (hm : h.get? m = some om) : ∃ K ns k a ci cl, KUse w h K C ns k a ci cl cell m om := by
  cases x with
  | mk ns k a n0 hne e1 e2 e3 m2 m3 =>
    obtain ⟨ct2, c2, f2, r2⟩ := m2
    obtain ⟨ct3, c3, f3, r3⟩ := m3
    have all : ∀ p ∈ ([(C, kObj C ns k a), (ns, nsObj w k a), (a.mD, mObj C k), (a.a2, { cls := .type "function", data := .func (fdInit ct2 c2) }), (a.a3, { cls := .type "function", data := .func (fdLt cell ct3 c3) })] : Frag), h.get? p.1 = some p.2 := by
      intro p hp
      simp only [List.mem_cons, List.not_mem_nil, or_false] at hp
      rcases hp with rfl | rfl | rfl | rfl | rfl
      · exact e2
      · exact e1
      · exact e3
      · exact f2
      · exact f3
    obtain ⟨X, lk⟩ := frag_all all
    exact ⟨_, ns, k, a, (ct2, c2), (ct3, c3), X, ⟨lk _ (.head _), lk _ (.tail _ (.head _)), lk _ (.tail _ (.tail _ (.head _))), lk _ (.tail _ (.tail _ (.tail _ (.head _)))), lk _ (.tail _ (.tail _ (.tail _ (.tail _ (.head _)))))⟩, lim, r2, r3, ic, hm⟩
theorem Ev.sortedK {h₀ : Heap} {env : Env} {ρ : Rho} {n : Nat} {fr : Option (List Env)} {cm : Bool} {p1 p2 p3 p4 pos lp llp q0 q1 q2 q3 : Pos} {params : Arguments} {body : Expr} {scope : Scope} {clo : List (Str × Addr)} {F : Int → Int → Int} (kb : KB w B) (hBig : 180 < B) (hB0 : ∀ h, St X (RL B) (GL w mg mb B) h₀ env ρ h → B ≤ h.objs.size)
    (hcode : env.code = .ref 179) (hgl : env.globals = mainGlobals) (hq : env.qual ++ "<lambda>" = lawQ) (hclo : closureFor scope env = pure clo) (hdef : defaultsOf params env = ([], []))
    (hs : Ev prog w X (RL B) (St X (RL B) (GL w mg mb B) h₀ env ρ) ⟨n + 8, fr, cm⟩ env (.Name "sorted" p1) (.val (.builtin "sorted"))) (hcmp : Ev prog w X (RL B) (St X (RL B) (GL w mg mb B) h₀ env ρ) ⟨n + 8, fr, cm⟩ env (.Name "cmp_to_key" p2) (.val (.ref 21)))
    (hc : ∀ f ct c', ∀ i ∈ ([0, 1, 2, 3] : List Int), ∀ j ∈ ([0, 1, 2, 3] : List Int), Ca prog w X Kf (fun h => St X (RL B) (GL w mg mb B) h₀ env ρ h ∧ LamAt lawQ params body scope clo f ct c' h) ⟨n, none, false⟩ (.ref f) [.int i, .int j] (.int (F i j))) :
    Ev prog w X (RL B) (St X (RL B) (GL w mg mb B) h₀ env ρ) ⟨n + 8, fr, cm⟩ env
      (.Call (.Name "sorted" p1) [.List [.Constant (.int 0) 0 q0, .Constant (.int 1) 0 q1, .Constant (.int 2) 0 q2, .Constant (.int 3) 0 q3] llp] [⟨some "key", .Call (.Name "cmp_to_key" p2) [.Lambda params body scope lp] [] p3, p4⟩] pos) (.list (kasD F)) := .mk fun A s Q E o i hq' => by
  have r := RL.rel B
  have stab := St.stab (X := X) (G := GL w mg mb B) (h₀ := h₀) (env := env) (ρ := ρ) r
  have sg : ∀ {h}, St X (RL B) (GL w mg mb B) h₀ env ρ h → GL w mg mb B h := fun S => St.gh r (GL.stat kb) S
  show wpAny (model prog w) A (do callWith pos (← eval (.Name "sorted" p1) env) [] (backTo pos (starEach [.List [.Constant (.int 0) 0 q0, .Constant (.int 1) 0 q1, .Constant (.int 2) 0 q2, .Constant (.int 3) 0 q3] llp] env)) (backToKw pos (keywordEach [⟨some "key", .Call (.Name "cmp_to_key" p2) [.Lambda params body scope lp] [] p3, p4⟩] env))) Q E s
  refine wpAny_bind (hs.run A s _ _ o i fun vf h1 t1 k1 rf => ?_)
  first | obtain ⟨_, rfl⟩ := rf.int_inv | obtain ⟨_, rfl⟩ := rf.str_inv | obtain rfl := rf.val_inv | obtain rfl := rf.bool_inv | cases rf
  have i1 := stab _ _ k1 i
  refine callWith_kw (wpAny_items_cons ?_ rfl)
  have evl : EvL prog w X (RL B) (St X (RL B) (GL w mg mb B) h₀ env ρ) ⟨n + 8, fr, cm⟩ env [.Constant (.int 0) 0 q0, .Constant (.int 1) 0 q1, .Constant (.int 2) 0 q2, .Constant (.int 3) 0 q3] [.int 0, .int 1, .int 2, .int 3] :=
    EvL.cons r stab (fun _ => rfl) (Ev.int r) (EvL.cons r stab (fun _ => rfl) (Ev.int r) (EvL.cons r stab (fun _ => rfl) (Ev.int r) (EvL.cons r stab (fun _ => rfl) (Ev.int r) (EvL.nil r))))
  refine (Ev.listD r stab (fun h S => S.up) evl (by decide)).run A _ _ _ o i1 fun lv h2 t2 k2 rl => ?_
  have i2 := stab _ _ k2 i1
  refine wpAny_items_nil ?_
  refine kws_cons ?_
  refine wpAny_Call_NameR (hcmp.run A _ _ _ o i2 fun vf h3 t3 k3 rf => ?_)
  first | obtain ⟨_, rfl⟩ := rf.int_inv | obtain ⟨_, rfl⟩ := rf.str_inv | obtain rfl := rf.val_inv | obtain rfl := rf.bool_inv | cases rf
  have i3 := stab _ _ k3 i2
  refine callWith_def (o := objAt w 21) (fd := fdAt w 21) (by rfl) (wpAny_items_cons (lam_new hcode hgl hq hclo hdef (sg i3) hBig fun f ct c' h4 t4 k4 la => ?_) rfl)
  have i4 := stab _ _ k4 i3
  refine wpAny_items_nil ⟨(sg i4).1.at (by rfl) (by intro h; cases h), ?_⟩
  have hB4 : B ≤ h4.objs.size := hB0 _ i4
  refine ctk_call (sg i4).1 (sg i4).2.2 hB4 hBig ?_ fun hh C cell h5 t5 g5 kt5 kc5 ic5 => ?_
  · have z : A.depth + (n + 8) ≤ 990 := o.depth
    lia
  have k5 : RL B h4 h5 := (g5.more (TB' := [16, 177]) (by simp)).rm fun tt => ⟨tt.1.low g5 (Nat.lt_trans (by decide) hBig) (by decide) (Nat.lt_trans (by decide) hBig) (by decide), kt5⟩
  have i5 := stab _ _ k5 i4
  have la5 := la.kp (r.weak k5)
  refine kws_nil ?_
  obtain ⟨l, vs, nl, rfl, il, rls, xl⟩ := rl.list_inv
  have il5 : IsL h5 l vs.toArray nl := by
    have := (Rd.list (l := [.int 0, .int 1, .int 2, .int 3]) xl il rls).by r (r.trans k3 (r.trans k4 k5))
    obtain ⟨l', vs', nl', e, il', _, _⟩ := this.list_inv
    cases e
    have ks := (r.weak (r.trans k3 (r.trans k4 k5))).ks (X := X)
    exact ks _ _ xl il (.inl ⟨_, _, rfl⟩)
  have hz : IntsAre vs [0, 1, 2, 3] := by
    cases rls with | cons a rls => cases rls with | cons b rls => cases rls with | cons c rls => cases rls with | cons e rls => cases rls; cases a; cases b; cases c; cases e; exact .cons _ _ (.cons _ _ (.cons _ _ (.cons _ _ .nil)))
  have h4l : vs.length = 4 := by have := hz.length; simpa using this
  obtain ⟨K, ns, kt, ka, ci, cl, u⟩ := kc5.use (m := f) (sg i5).1.lim ic5 la5.1
  refine sort_key (XX := X) (n := n) (F := F) (fm := fdOf "<lambda>" lawQ params (.expr body) scope clo ct c') (I0 := fun h => St X (RL B) (GL w mg mb B) h₀ env ρ h ∧ LamAt lawQ params body scope clo f ct c' h)
    (o.le (by show n + 6 ≤ n + 8; lia) (.inl rfl) (by intro z; cases z)) (fun _ _ kk ii => ⟨stab _ _ (r.full kk) ii.1, ii.2.kp kk.kp⟩) ⟨i5, la5⟩ u rfl hz h4l (fun i hi j hj => hc f ct c' i hi j hj) ⟨_, il5, rfl, nl, rfl⟩ fun Dd h6 t6 c6 k6 nD eD => ?_
  refine hq' _ h6 t6 (r.trans (r.trans (r.trans (r.trans (r.trans k1 k2) k3) k4) k5) (r.full k6)) ?_
  refine .list (i5.up.fresh nD) eD ?_
  have gen : ∀ ps : List Nat, RdL X h6 (ps.map fun i : Nat => if i < 4 then D.int (i : Int) else D.none) (ps.map fun i => vs.getD i Value.none) := by
    intro ps
    induction ps with
    | nil => exact .nil
    | cons p ps ih =>
      refine .cons ?_ ih
      show Rd X h6 (if p < 4 then D.int (p : Int) else D.none) (vs.getD p Value.none)
      by_cases lp : p < 4
      · rw [if_pos lp]
        obtain ⟨tp, e⟩ := hz.get p (p : Int) (by
          rcases p with _ | _ | _ | _ | p
          · rfl
          · rfl
          · rfl
          · rfl
          · lia)
        rw [List.getD_eq_getElem?_getD, e]
        exact .int _ _
      · rw [if_neg lp, List.getD_eq_getElem?_getD, List.getElem?_eq_none (by lia)]
        exact .none
  exact gen _
end
end
section
variable {X : Addr → Prop}
-- one row of the table: its first sign that fits
noncomputable def fmRow (first : Bool) (m : Int) : List (Int × Str) → Str
  | [] => if first then sQ "?" else sQ "-"
  | (b, c) :: l => if (if first then Builtin.bitAnd m 61440 == b else Builtin.bitAnd m b == b) then c else fmRow first m l
noncomputable def fmSigns (m : Int) : Nat → List (List (Int × Str)) → List Str
  | _, [] => []
  | i, l :: ls => fmRow (i == 0) m l :: fmSigns m (i + 1) ls
noncomputable def forTgt' : Stmt → Expr
  | .For t _ _ _ _ => t
  | _ => .Constant .none 0 ⟨0, 0, 0, 0⟩
noncomputable def forTs : Stmt → List Expr
  | .For (.Tuple ts _ _) _ _ _ _ => ts
  | _ => []
noncomputable def forBody' : Stmt → List Stmt
  | .For _ _ b _ _ => b
  | _ => []
noncomputable def forElse' : Stmt → List Stmt
  | .For _ _ _ e _ => e
  | _ => []
noncomputable def nthS (l : List Stmt) (n : Nat) : Stmt := l.getD n (.Pass ⟨0, 0, 0, 0⟩)
noncomputable def ifT' : Stmt → Expr
  | .If t _ _ _ => t
  | _ => .Constant .none 0 ⟨0, 0, 0, 0⟩
noncomputable def rhoFm (m : Int) (L : Addr) : Rho := upd (upd (fun _ => none) "mode" (.int m)) "perm" (.val (.ref L))
theorem extFm {m : Int} {L : Addr} {ρ : Rho} (h1 : ρ "mode" = some (.int m)) (h2 : ρ "perm" = some (.val (.ref L))) : ∀ y e, rhoFm m L y = some e → ρ y = some e := by
  intro y e h
  unfold rhoFm upd at h
  split at h
  · rename_i q; subst q; cases h; exact h2
  · split at h
    · rename_i q; subst q; cases h; exact h1
    · cases h
theorem extFi {m i : Int} {L : Addr} {ρ : Rho} (h1 : ρ "mode" = some (.int m)) (h2 : ρ "perm" = some (.val (.ref L))) (h3 : ρ "index" = some (.int i)) : ∀ y e, upd (rhoFm m L) "index" (.int i) y = some e → ρ y = some e := by
  intro y e h
  by_cases q : y = "index"
  · subst q; rw [upd_same] at h; cases h; exact h3
  · have : rhoFm m L y = some e := by simpa [upd, q] using h
    exact extFm h1 h2 y e this
section
variable {prog : Program} {w : World} {mg mb : Str → Option Value} {k : Nat} {fr : Option (List Env)}
noncomputable abbrev oFor (w : World) : Stmt := nthS (bodyAt w 128) 1
noncomputable abbrev iFor (w : World) : Stmt := nthS (forBody' (oFor w)) 0
theorem fmInner (idx : Nat) (fst : Bool) (hfst : ((idx : Int) == 0) = fst) (m : Int) {h₀ : Heap} {fr2 : Option (List Env)} {L : Addr} {acc : List D} (hsz : acc.length ≤ sizeLine) (l : List (Int × Str)) :
    ∀ (rest : List (Int × Str)) (i : Nat), i + rest.length = l.length → l.drop i = rest →
      LoF prog w X Kf (Gs w mg mb) ⟨k + 1, fr2, true⟩ h₀ (callEnvC (fdAt w 128) h₀.objs.size 128) L (l.map pairD) (forTgt' (iFor w)) (forBody' (iFor w)) (forElse' (iFor w)) (.next (rhoFm m L) (acc ++ [.str (fmRow fst m rest)])) i (upd (rhoFm m L) "index" (.int idx)) acc := by
  intro rest
  induction rest with
  | nil =>
    intro i hi hd
    have e : i = (l.map pairD).length := by simpa using hi
    subst e
    refine .done ?_
    have tt : Tr prog w Kf (St (Less X L) Kf (Gs w mg mb) h₀ (callEnvC (fdAt w 128) h₀.objs.size 128) (upd (rhoFm m L) "index" (.int idx))) ⟨k + 1, fr2, true⟩ (callEnvC (fdAt w 128) h₀.objs.size 128) (ifT' (nthS (forElse' (iFor w)) 0)) fst := by
      refine' Tr.cmp Rel.kf (St.stab Rel.kf) ?Zm ?Za ?Zc (Op.of_eq (Op.eqI Rel.kf) (congrArg D.bool hfst))
      case Zm => with_unfolding_all rfl
      case Za => wtm_at "g"
      case Zc => wtm_at "g"
    refine' ExF.weakN (ρ' := upd (rhoFm m L) "index" (.int idx)) (extFm (by rfl) (by rfl)) ?Zb
    case Zb =>
    cases fst with
    | true =>
      refine' ExF.cons (Ex1F.ifs Rel.kf tt (fun _ => ExF.cons ?Za1 ExF.nil) (fun h => by cases h)) ExF.nil
      case Za1 => ((refine' Ex1F.append Rel.kf (by rfl) (by rfl) (by rfl) (by rfl) (by rfl) (by rfl) (by rfl) (by rfl) (by rfl) (by intro _; rfl) ?Zeap ?Zzap); (case Zeap => first | exact Ev.of_eq (Ev.str Rel.kf) rfl | wtm_at "g"); (case Zzap => first | assumption | wtm_at "size"))
    | false =>
      refine' ExF.cons (Ex1F.ifs Rel.kf tt (fun h => by cases h) (fun _ => ExF.cons ?Za2 ExF.nil)) ExF.nil
      case Za2 => ((refine' Ex1F.append Rel.kf (by rfl) (by rfl) (by rfl) (by rfl) (by rfl) (by rfl) (by rfl) (by rfl) (by rfl) (by intro _; rfl) ?Zeap ?Zzap); (case Zeap => first | exact Ev.of_eq (Ev.str Rel.kf) rfl | wtm_at "g"); (case Zzap => first | assumption | wtm_at "size"))
  | cons p rest ih =>
    obtain ⟨b, c⟩ := p
    intro i hi hd
    have hdi : (l.map pairD)[i]? = some (pairD (b, c)) := by
      have := congrArg (·[0]?) hd
      simp at this
      simp [this]
    have dr : l.drop (i + 1) = rest := by
      have : l.drop (i + 1) = (l.drop i).drop 1 := by simp
      rw [this, hd]; rfl
    have ih' := ih (i + 1) (by simp at hi; lia) dr
    have as : As prog w (Less X L) Kf (Gs w mg mb) h₀ (callEnvC (fdAt w 128) h₀.objs.size 128) (upd (rhoFm m L) "index" (.int idx)) (forTgt' (iFor w)) (pairD (b, c)) (upd (upd (upd (rhoFm m L) "index" (.int idx)) "bit" (.int b)) "char" (.str c)) := by
      refine' As.tup Rel.kf (by rfl) (by rfl) (AsL.cons (by rfl) (As.name ?Zb1) (AsL.cons (by rfl) (As.name ?Zb2) AsL.nil))
      case Zb1 => wtm_at "sto"
      case Zb2 => wtm_at "sto"
    have tt : Tr prog w Kf (St (Less X L) Kf (Gs w mg mb) h₀ (callEnvC (fdAt w 128) h₀.objs.size 128) (upd (upd (upd (rhoFm m L) "index" (.int idx)) "bit" (.int b)) "char" (.str c))) ⟨k + 1, fr2, true⟩ (callEnvC (fdAt w 128) h₀.objs.size 128) (ifT' (nthS (forBody' (iFor w)) 0)) fst := by
      refine' Tr.cmp Rel.kf (St.stab Rel.kf) ?Zm ?Za ?Zc (Op.of_eq (Op.eqI Rel.kf) (congrArg D.bool hfst))
      case Zm => with_unfolding_all rfl
      case Za => wtm_at "g"
      case Zc => wtm_at "g"
    cases fst with
    | true =>
      cases hm : (Builtin.bitAnd m 61440 == b) with
      | true =>
        have e : fmRow true m ((b, c) :: rest) = c := by simp only [fmRow, if_true]; rw [if_pos hm]
        rw [e]
        refine .brk hdi as (ρ' := rhoFm m L) (acc' := acc ++ [.str c]) ?Zbb rfl
        case Zbb =>
        refine' ExF.weakB (ρ' := upd (upd (upd (rhoFm m L) "index" (.int idx)) "bit" (.int b)) "char" (.str c)) (extFm (by rfl) (by rfl)) (ExF.brk (Ex1F.ifs Rel.kf tt (fun _ => ExF.brk (Ex1F.ifs Rel.kf (c := true) ?Zt2 (fun _ => ExF.cons ?Za3 (ExF.brk Ex1F.brk0)) (fun h => by cases h))) (fun h => by cases h)))
        case Zt2 =>
          refine' Tr.cmp (X := Less X L) Rel.kf (St.stab Rel.kf) ?Zm3 ?Zl3 ?Zc3 (Op.of_eq (Op.eqI Rel.kf (a := Builtin.bitAnd m 61440) (b := b)) (congrArg D.bool hm))
          case Zm3 => with_unfolding_all rfl
          case Zl3 =>
            refine' Ev.callF Rel.kf (St.stab Rel.kf) (fa := 88) (ob := objAt w 88) (fd := fdAt w 88) ?Zf9 (by rfl) ?Zo9 (fun _ => rfl) ?Zg9 ?Zc9
            case Zf9 => wtm_at "fn"
            case Zo9 => exact fun h S => (St.gh Rel.kf Gs.stat S).at (by rfl) (by intro h; cases h)
            case Zg9 => wtm_at "g"
            case Zc9 => exact Ca.lift Rel.kf (ca_S_IFMT (k := k) (fr := none) (cm := true)) (fun h S => ⟨St.gh Rel.kf Gs.stat S, S.up⟩) (Nat.le_refl _) (.inl rfl) (fun _ => rfl)
          case Zc3 => wtm_at "g"
        case Za3 => ((refine' Ex1F.append Rel.kf (by rfl) (by rfl) (by rfl) (by rfl) (by rfl) (by rfl) (by rfl) (by rfl) (by rfl) (by intro _; rfl) ?Zeap ?Zzap); (case Zeap => first | exact Ev.of_eq (Ev.str Rel.kf) rfl | wtm_at "g"); (case Zzap => first | assumption | wtm_at "size"))
      | false =>
        have e : fmRow true m ((b, c) :: rest) = fmRow true m rest := by
          rw [fmRow]; simp only [if_true]; rw [if_neg (by rw [hm]; decide)]
        rw [e]
        refine .turn hdi as (ρ' := upd (rhoFm m L) "index" (.int idx)) (acc' := acc) ?Zbb2 ih'
        case Zbb2 =>
        refine' ExF.weakN (ρ' := upd (upd (upd (rhoFm m L) "index" (.int idx)) "bit" (.int b)) "char" (.str c)) (extFi (by rfl) (by rfl) (by rfl)) (ExF.cons (Ex1F.ifs Rel.kf tt (fun _ => ExF.cons (Ex1F.ifs Rel.kf (c := false) ?Zt4 (fun h => by cases h) (fun _ => ExF.nil)) ExF.nil) (fun h => by cases h)) ExF.nil)
        case Zt4 =>
          refine' Tr.cmp (X := Less X L) Rel.kf (St.stab Rel.kf) ?Zm4 ?Zl4 ?Zc4 (Op.of_eq (Op.eqI Rel.kf (a := Builtin.bitAnd m 61440) (b := b)) (congrArg D.bool hm))
          case Zm4 => with_unfolding_all rfl
          case Zl4 =>
            refine' Ev.callF Rel.kf (St.stab Rel.kf) (fa := 88) (ob := objAt w 88) (fd := fdAt w 88) ?Zf8 (by rfl) ?Zo8 (fun _ => rfl) ?Zg8 ?Zc8
            case Zf8 => wtm_at "fn"
            case Zo8 => exact fun h S => (St.gh Rel.kf Gs.stat S).at (by rfl) (by intro h; cases h)
            case Zg8 => wtm_at "g"
            case Zc8 => exact Ca.lift Rel.kf (ca_S_IFMT (k := k) (fr := none) (cm := true)) (fun h S => ⟨St.gh Rel.kf Gs.stat S, S.up⟩) (Nat.le_refl _) (.inl rfl) (fun _ => rfl)
          case Zc4 => wtm_at "g"
    | false =>
      cases hm : (Builtin.bitAnd m b == b) with
      | true =>
        have e : fmRow false m ((b, c) :: rest) = c := by rw [fmRow]; simp only [Bool.false_eq_true, if_false]; rw [if_pos hm]
        rw [e]
        refine .brk hdi as (ρ' := rhoFm m L) (acc' := acc ++ [.str c]) ?Zbb3 rfl
        case Zbb3 =>
        refine' ExF.weakB (ρ' := upd (upd (upd (rhoFm m L) "index" (.int idx)) "bit" (.int b)) "char" (.str c)) (extFm (by rfl) (by rfl)) (ExF.brk (Ex1F.ifs Rel.kf tt (fun h => by cases h) (fun _ => ExF.brk (Ex1F.ifs Rel.kf (c := true) ?Zt5 (fun _ => ExF.cons ?Za5 (ExF.brk Ex1F.brk0)) (fun h => by cases h)))))
        case Zt5 =>
          refine' Tr.cmp (X := Less X L) Rel.kf (St.stab Rel.kf) ?Zm5 ?Zl5 ?Zc5 (Op.of_eq (Op.eqI Rel.kf (a := Builtin.bitAnd m b) (b := b)) (congrArg D.bool hm))
          case Zm5 => with_unfolding_all rfl
          case Zl5 => wtm_at "g"
          case Zc5 => wtm_at "g"
        case Za5 => ((refine' Ex1F.append Rel.kf (by rfl) (by rfl) (by rfl) (by rfl) (by rfl) (by rfl) (by rfl) (by rfl) (by rfl) (by intro _; rfl) ?Zeap ?Zzap); (case Zeap => first | exact Ev.of_eq (Ev.str Rel.kf) rfl | wtm_at "g"); (case Zzap => first | assumption | wtm_at "size"))
      | false =>
        have e : fmRow false m ((b, c) :: rest) = fmRow false m rest := by
          rw [fmRow]; simp only [Bool.false_eq_true, if_false]; rw [if_neg (by rw [hm]; decide)]
        rw [e]
        refine .turn hdi as (ρ' := upd (rhoFm m L) "index" (.int idx)) (acc' := acc) ?Zbb4 ih'
        case Zbb4 =>
        refine' ExF.weakN (ρ' := upd (upd (upd (rhoFm m L) "index" (.int idx)) "bit" (.int b)) "char" (.str c)) (extFi (by rfl) (by rfl) (by rfl)) (ExF.cons (Ex1F.ifs Rel.kf tt (fun h => by cases h) (fun _ => ExF.cons (Ex1F.ifs Rel.kf (c := false) ?Zt6 (fun h => by cases h) (fun _ => ExF.nil)) ExF.nil)) ExF.nil)
        case Zt6 =>
          refine' Tr.cmp (X := Less X L) Rel.kf (St.stab Rel.kf) ?Zm6 ?Zl6 ?Zc6 (Op.of_eq (Op.eqI Rel.kf (a := Builtin.bitAnd m b) (b := b)) (congrArg D.bool hm))
          case Zm6 => with_unfolding_all rfl
          case Zl6 => wtm_at "g"
          case Zc6 => wtm_at "g"
theorem extFm' {m : Int} {L : Addr} {ρ : Rho} (h : ∀ y e, rhoFm m L y = some e → ρ y = some e) : ρ "mode" = some (.int m) ∧ ρ "perm" = some (.val (.ref L)) := ⟨h _ _ (by rfl), h _ _ (by rfl)⟩
theorem fmOuter (m : Int) {h₀ : Heap} {fr2 : Option (List Env)} {L : Addr} (tabs : List (List (Int × Str))) (hl : tabs.length ≤ 100) :
    ∀ (rest : List (List (Int × Str))) (i : Nat) (acc : List D), i + rest.length = tabs.length → tabs.drop i = rest → acc.length + rest.length ≤ sizeLine →
      LoE X prog w Kf (Gs w mg mb) ⟨k + 1, fr2, true⟩ h₀ (callEnvC (fdAt w 128) h₀.objs.size 128) L (tabs.map rowD) (forTs (oFor w)) (forBody' (oFor w)) [] (.next (rhoFm m L) (acc ++ (fmSigns m i rest).map D.str)) i (rhoFm m L) acc := by
  intro rest
  induction rest with
  | nil =>
    intro i acc hi hd hs
    have e : i = (tabs.map rowD).length := by simpa using hi
    subst e
    simp only [fmSigns, List.map_nil, List.append_nil]
    exact .done .nil
  | cons l rest ih =>
    intro i acc hi hd hs
    have hdi : (tabs.map rowD)[i]? = some (rowD l) := by
      have := congrArg (·[0]?) hd
      simp at this
      simp [this]
    have dr : tabs.drop (i + 1) = rest := by
      have : tabs.drop (i + 1) = (tabs.drop i).drop 1 := by simp
      rw [this, hd]; rfl
    have ih' := ih (i + 1) (acc ++ [.str (fmRow (i == 0) m l)]) (by simp at hi; lia) dr (by simp at hs ⊢; lia)
    have eq : acc ++ (fmSigns m i (l :: rest)).map D.str = acc ++ [.str (fmRow (i == 0) m l)] ++ (fmSigns m (i + 1) rest).map D.str := by simp [fmSigns]
    rw [eq]
    refine .turn hdi (ρ₁ := upd (upd (rhoFm m L) "index" (.int i)) "table" (rowD l)) (AsL.cons (by rfl) (As.name ?Zb1) (AsL.cons (by rfl) (As.name ?Zb2) AsL.nil)) ?Zbd ih'
    case Zb1 => wtm_at "sto"
    case Zb2 => wtm_at "sto"
    case Zbd =>
    have f : (((i : Nat) : Int) == 0) = (i == 0) := by cases i <;> rfl
    have lo := fmInner (prog := prog) (w := w) (mg := mg) (mb := mb) (k := k) (X := X) i (i == 0) f m (h₀ := h₀) (fr2 := fr2) (L := L) (acc := acc) (by lia) l l 0 (by simp) (by simp)
    refine' ExF.cons (Ex1F.forsW Rel.kf rfl (d := rowD l) ?Zev2 (Goes.tup _) (fun _ => rfl) (extFi (by rfl) (by rfl) (by rfl)) lo) ExF.nil
    case Zev2 => wtm_at "g"
theorem Ex.fillN {R : Heap → Heap → Prop} {G : Heap → Prop} {h₀ : Heap} {env : Env} {ρ : Rho} {k : Room} (r : Rel R) {x : Str} {p lp pos : Pos} {ss : List Stmt} {d : D} (hw : swapsWith (.List [] lp) (some (.Name x p)) pos.line env = pure false)
    (hx : env.kindOf x = some .local) (hc : env.cells.lookup x = none) (hpl : (env.scope.kind == .class || (env.scope.kind == .module && env.locals != env.globals)) = false)
    (h : ∀ L, ExF prog w X R G k h₀ env L (upd ρ x (.val (.ref L))) [] ss (.ret d)) : Ex prog w X R G k h₀ env ρ (.Assign [.Name x p] (.List [] lp) pos :: ss) (.ret d) :=
  Ex.fill r (EvL.nil r) (by decide) hw hx hc hpl h
noncomputable def fmText (m : Int) : Str := Txt.join (sQ "") (fmSigns m 0 fmTables)
theorem ca_filemode {m : Int} (hX : ∀ a, (hd.heap_39 w.params).lookup a = some (objAt w a) → (objAt w a).cls ≠ .none → X a) (hj : JoinOk (sQ "") (fmSigns m 0 fmTables) = true) : Ca prog w X Kf (fun h => Gs w mg mb h ∧ Up X h) ⟨k + 2, fr, true⟩ (.ref 128) [.int m] (.str (fmText m)) := by
  refine Ca.at 128 127 (names := ["mode"]) (by rfl) (by intro h; cases h) (by rfl) (by rfl) (by rfl) (by rfl) (by intro h; cases h) ⟨_, _, by rfl, by rfl⟩ (by rfl) (by rfl) (by rfl) (by rfl) (by kernel_rfl) (by rfl)
    (len1 (fun a0 => by kernel_rfl)) (fun n => allC (.inl (by rfl)) all0) fun h₀ G => ?_
  refine' Ex.fillN Rel.kf (by rfl) (by rfl) (by rfl) (by rfl) ?Zbody
  case Zbody =>
  intro L
  refine' ExF.cons (Ex1F.forEnum (ds := fmTables.map rowD) (o := .next (rhoFm m L) ([] ++ (fmSigns m 0 fmTables).map D.str)) Rel.kf rfl (by rfl) (by rfl) (by rfl) ?Zlx ?Zly (by rfl) (by rfl) (fun _ => rfl) ?Zlo) ?Zrest
  case Zlx =>
    intro h F
    have GG := St.gh Rel.kf Gs.stat F.st
    obtain ⟨v', lk, rv⟩ := GG.glo (X := X) (env := callEnvC (fdAt w 128) h₀.objs.size 128) (x := "enumerate") (by rfl) (by rfl)
    first | obtain ⟨_, rfl⟩ := rv.int_inv | obtain ⟨_, rfl⟩ := rv.str_inv | obtain rfl := rv.val_inv | obtain rfl := rv.bool_inv | cases rv
    exact lk
  case Zly =>
    intro h F
    have GG := St.gh Rel.kf Gs.stat F.st
    obtain ⟨v', lk, rv⟩ := GG.glo (X := X) (env := callEnvC (fdAt w 128) h₀.objs.size 128) (x := "_filemode_table") (by rfl) (by rfl)
    first | obtain ⟨_, rfl⟩ := rv.int_inv | obtain ⟨_, rfl⟩ := rv.str_inv | obtain rfl := rv.val_inv | obtain rfl := rv.bool_inv | cases rv
    refine ⟨_, lk, rd_tab GG fun a la na => ⟨hX a la na, fun q => ?_⟩⟩
    have l1 := Heap.lt_size (F.st.g.at la na)
    rw [q] at l1
    exact absurd l1 (Nat.not_lt.mpr F.new)
  case Zlo => exact fmOuter m fmTables (by decide) fmTables 0 [] (by simp) (by simp) (by decide)
  case Zrest =>
  rw [List.nil_append]
  refine' ExF.freeze (x := "perm") (by rfl) ?Zfr
  case Zfr =>
  refine' Ex.ret (Ex1.ret Rel.kf ?Zej)
  case Zej =>
  refine' Ev.meth Rel.kf (St.stab Rel.kf) (by rfl) (by rfl) (by rfl) F.plainAttrs_str F.slot_str_join F.type_str_join (typeStr _) (fun _ => rfl) (by rfl) ?Zv1 ?Zl1 (Ca.join Rel.kf hj)
  case Zv1 => wtm_at "g"
  case Zl1 => wtm_at "g"
end
end
section
variable {X : Addr → Prop}
noncomputable def pickI (l : List Int) (lo hi st : Option Int) : List Int :=
  (sliceRange (sliceBounds lo hi st l.length).1 (sliceBounds lo hi st l.length).2.1 (sliceBounds lo hi st l.length).2.2).filterMap (l[·]?)
theorem pickD_ints (l : List Int) (lo hi st : Option Int) : pickD (l.map D.int) lo hi st = (pickI l lo hi st).map D.int := by
  unfold pickD pickI
  rw [List.length_map, List.map_filterMap]
  congr 1
  funext i
  rw [List.getElem?_map]
noncomputable abbrev lEnv (w : World) (L : Addr) : Env := callEnvC (fdAt w 180) L 180
noncomputable def ownL : List Int := [0, 1, 4, 14, 99256, 82929, 43342, 65828, 15, 21845]
-- the ten numbers
noncomputable def numAt (zs : List Int) (k : Nat) : Int := ((pickI (zs.take 60) (some (k : Int)) none (some 10)).sum + ownL.getD k 0) % 393216
noncomputable def nums (zs : List Int) : List Int := (List.range 10).map (numAt zs)
section
variable {prog : Program} {w : World} {mg mb : Str → Option Value} {k : Nat} {B : Nat} {h₀ : Heap} {ρ : Rho} {fr : Option (List Env)}

theorem law_taken (kb : KB w B) {zs : List Int} (hz : zs.length ≤ 63) (hs : ρ "script" = some (dI zs)) :
    Ex1 prog w X (RL B) (GL w mg mb B) ⟨k, fr, true⟩ h₀ (lEnv w h₀.objs.size) ρ (nthSt (bodyAt w 180) 0) (.next (upd ρ "taken" (dI (zs.take 60)))) := by
  refine' Ex1.assign (RL.rel B) ?Ze ?Zs ?Zw
  case Zw => rfl
  case Zs => wtm_at "sto"
  case Ze =>
    refine' Ev.of_eq (Ev.sliceL (l := zs.map D.int) (lo := none) (hi := some 60) (sp := none) (RL.rel B) (St.stab (RL.rel B)) ?Zu ?Zv (Pt.none (RL.rel B)) (Pt.some ?Zb) (Pt.none (RL.rel B)) ?Zn ?Zz) ?Zq
    case Zu => exact fun _ S => S.up
    case Zv => wtm_at "g"
    case Zb => wtm_at "g"
    case Zn => intro h; cases h
    case Zz => simp only [List.length_map, sizeLine]; lia
    case Zq =>
      have := pick_take (zs.map D.int) (j := min 60 zs.length) (by simp; lia)
      rw [pick_plain] at this ⊢
      simp only [Option.elim, List.length_map, Nat.sub_zero, List.drop_zero] at this ⊢
      have e : clipAt zs.length 60 = min 60 zs.length := clip_nat zs.length 60
      rw [e, ← List.map_take]
      simp only [dI, Nat.min_comm]
      congr 2
      rw [Nat.min_comm]
      rcases Nat.le_total 60 zs.length with h | h
      · rw [Nat.min_eq_left h]
      · rw [Nat.min_eq_right h, List.take_of_length_le (Nat.le_refl _), List.take_of_length_le h]
theorem law_own (kb : KB w B) :
    Ex1 prog w X (RL B) (GL w mg mb B) ⟨k, fr, true⟩ h₀ (lEnv w h₀.objs.size) ρ (nthSt (bodyAt w 180) 1) (.next (upd ρ "own" (dI ownL))) := by
  refine' Ex1.assign (RL.rel B) ?Ze ?Zs ?Zw
  case Zw => rfl
  case Zs => wtm_at "sto"
  case Ze =>
    refine' Ev.of_eq (Ev.listD (RL.rel B) (St.stab (RL.rel B)) ?Zu ?Za ?Zz) ?Zq
    case Zu => exact fun _ S => S.up
    case Za => wtm_at "g"
    case Zz => wtm_at "size"
    case Zq => rfl
theorem law_numbers (kb : KB w B) {zs : List Int} (ht : ρ "taken" = some (dI (zs.take 60))) (ho : ρ "own" = some (dI ownL)) :
    Ex1 prog w X (RL B) (GL w mg mb B) ⟨k, fr, true⟩ h₀ (lEnv w h₀.objs.size) ρ (nthSt (bodyAt w 180) 2) (.next (upd ρ "numbers" (dI (nums zs)))) := by
  refine' Ex1.assign (RL.rel B) ?Ze ?Zs ?Zw
  case Zw => rfl
  case Zs => wtm_at "sto"
  case Ze =>
    refine' Ev.of_eq (Ev.compM (l := List.range 10) (dc := fun (j : Nat) => D.int (j : Int)) (f := fun (j : Nat) => D.int (numAt zs j)) (RL.rel B) (GL.stat kb) rfl ?Zso ?Zhf ?Zit (.rng 10 (by decide)) ?Zsz ?Zh) ?Zq
    case Zso => exact scopeOk_of (by rfl) (by rfl) (by rfl) (by rfl)
    case Zhf => intro _; rfl
    case Zit => ((refine' Ev.rangeC (by wtm_at "rr") (St.stab (by wtm_at "rr")) ?Zru ?Zrg ?Zrp ?Zra ?Zrn); (case Zrp => (intro _; rfl)); (case Zru => exact fun _ S => S.up); (case Zrg => wtm_at "fn"); (case Zra => wtm_at "g"); (case Zrn => rfl))
    case Zsz => decide
    case Zq => simp [nums, dI]
    case Zh =>
      intro h₁ L C G1 hL j hj
      refine ⟨upd _ "k" (D.int (j : Int)), ?Zext, As.name ?Zst, ?Zev⟩
      case Zext => exact upd_ext (by rfl)
      case Zst => wtm_at "sto"
      case Zev =>
        have j10 : j < 10 := by simpa using hj
        have oj : (ownL.map D.int)[((j : Int)).toNat]? = some (.int (ownL.getD j 0)) := by simp [List.getD, show j < ownL.length from j10]
        have ts : (zs.take 60).length ≤ 60 := by simp; lia
        refine' Ev.bin (RL.rel B) (St.stab (RL.rel B)) (a := .int ((pickI (zs.take 60) (some (j : Int)) none (some 10)).sum + ownL.getD j 0)) (b := .int 393216) (Ev.bin (RL.rel B) (St.stab (RL.rel B)) ?Zs1 ?Zo1 (Op.add (RL.rel B))) (Ev.int (RL.rel B)) ?Zo2
        case Zo2 => exact Op.modp (RL.rel B) (by decide)
        case Zs1 =>
          refine' Ev.callB (RL.rel B) (St.stab (RL.rel B)) (id := "sum") ?Zf1 (fun _ => rfl) (by intro _; rfl) (as := [dI (pickI (zs.take 60) (some (j : Int)) none (some 10))]) ?Za1 (Ca.sum (RL.rel B))
          case Zf1 => wtm_at "fn"
          case Za1 =>
            refine' EvL.cons (RL.rel B) (St.stab (RL.rel B)) (fun _ => rfl) (Ev.of_eq (Ev.sliceL (l := (zs.take 60).map D.int) (lo := some (j : Int)) (hi := none) (sp := some 10) (RL.rel B) (St.stab (RL.rel B)) ?Zu ?Zv (Pt.some ?Zb) (Pt.none (RL.rel B)) (Pt.some ?Zb2) ?Zn ?Zz) ?Zq) (EvL.nil (RL.rel B))
            case Zu => exact fun _ S => S.up
            case Zv => wtm_at "g"
            case Zb => wtm_at "g"
            case Zb2 => wtm_at "g"
            case Zn => intro h; cases h
            case Zz => simp only [List.length_map, sizeLine]; lia
            case Zq => rw [pickD_ints]
        case Zo1 => wtm_at "g"
end
end
section
variable {X : Addr → Prop}
section
variable {prog : Program} {w : World} {mg mb : Str → Option Value} {k : Nat} {B : Nat} {h₀ : Heap} {ρ : Rho} {fr : Option (List Env)}
theorem Ev.callG {env : Env} {kk : Room} {x : Str} {np pos : Pos} {e : Expr} {es : List Expr} {fa : Addr} {as : List D} {d : D} {n : Nat} (kb : KB w B) (hf : Ev prog w X (RL B) (St X (RL B) (GL w mg mb B) h₀ env ρ) kk env (.Name x np) (.val (.ref fa)))
    (hob : (objAt w fa).data = .func (fdAt w fa)) (lk : (hd.heap_39 w.params).lookup fa = some (objAt w fa)) (nt : (objAt w fa).cls ≠ .none) (hp : plainE env e) (ha : EvL prog w X (RL B) (St X (RL B) (GL w mg mb B) h₀ env ρ) kk env (e :: es) as)
    (hc : Ca prog w X Kf (fun h => Gs w mg mb h ∧ Up X h) ⟨n, kk.fr, kk.calm⟩ (.ref fa) as d) (hn : n ≤ kk.n) : Ev prog w X (RL B) (St X (RL B) (GL w mg mb B) h₀ env ρ) kk env (.Call (.Name x np) (e :: es) [] pos) d :=
  Ev.callF (RL.rel B) (St.stab (RL.rel B)) hf hob (fun h S => (St.gh (RL.rel B) (GL.stat kb) S).1.at lk nt) hp ha (Ca.lift (RL.rel B) hc (fun h S => ⟨(St.gh (RL.rel B) (GL.stat kb) S).1, S.up⟩) hn (.inr rfl) (fun z => z))

noncomputable def litAt (j : Nat) : Str := ([sO "a\"b", sO "", sO "z", sO "\""] : List Str).getD j (sO "")
noncomputable def textAt (ns : List Int) (j : Nat) : Str := litAt j ++ sO "/" ++ order (ns.getD j 0 % 24)
theorem lit_len (j : Nat) : (litAt j).length ≤ 3 := by
  unfold litAt
  rcases j with _ | _ | _ | _ | j
  · decide +kernel
  · decide +kernel
  · decide +kernel
  · decide +kernel
  · simp [List.getD]; decide +kernel
theorem order_len (n : Int) : (order n).length ≤ 4 := by
  unfold order
  simp only [len_app, len_item]
  decide +kernel
theorem law_texts (kb : KB w B) {ns : List Int} (hn : ns.length = 10) (hs : ρ "numbers" = some (dI ns)) :
    Ex1 prog w X (RL B) (GL w mg mb B) ⟨k + 2, fr, true⟩ h₀ (lEnv w h₀.objs.size) ρ (nthSt (bodyAt w 180) 3) (.next (upd ρ "texts" (.list ((List.range 4).map fun j => D.str (textAt ns j))))) := by
  refine' Ex1.assign (RL.rel B) ?Ze ?Zs ?Zw
  case Zw => rfl
  case Zs => wtm_at "sto"
  case Ze =>
    refine' Ev.compM (l := List.range 4) (dc := fun (j : Nat) => D.int (j : Int)) (f := fun (j : Nat) => D.str (textAt ns j)) (RL.rel B) (GL.stat kb) rfl ?Zso ?Zhf ?Zit (.rng 4 (by decide)) ?Zsz ?Zh
    case Zso => exact scopeOk_of (by rfl) (by rfl) (by rfl) (by rfl)
    case Zhf => intro _; rfl
    case Zit => ((refine' Ev.rangeC (by wtm_at "rr") (St.stab (by wtm_at "rr")) ?Zru ?Zrg ?Zrp ?Zra ?Zrn); (case Zrp => (intro _; rfl)); (case Zru => exact fun _ S => S.up); (case Zrg => wtm_at "fn"); (case Zra => wtm_at "g"); (case Zrn => rfl))
    case Zsz => decide
    case Zh =>
      intro h₁ L C G1 hL j hj
      refine ⟨upd _ "k" (D.int (j : Int)), ?Zext, As.name ?Zst, ?Zev⟩
      case Zext => exact upd_ext (by rfl)
      case Zst => wtm_at "sto"
      case Zev =>
        have j4 : j < 4 := by simpa using hj
        have oj : (ns.map D.int)[((j : Int)).toNat]? = some (.int (ns.getD j 0)) := by simp [List.getD, show j < ns.length by lia]
        have lj : ([D.str (sO "a\"b"), D.str (sO ""), D.str (sO "z"), D.str (sO "\"")] : List D)[((j : Int)).toNat]? = some (.str (litAt j)) := by
          rcases j with _ | _ | _ | _ | j
          · rfl
          · rfl
          · rfl
          · rfl
          · lia
        have l1 := lit_len j
        have l2 := order_len (ns.getD j 0 % 24)
        have l3 : (sO "/").length = 1 := by decide +kernel
        refine' Ev.bin (RL.rel B) (St.stab (RL.rel B)) (a := .str (litAt j ++ sO "/")) (b := .str (order (ns.getD j 0 % 24))) (Ev.bin (RL.rel B) (St.stab (RL.rel B)) (a := .str (litAt j)) (b := .str (sO "/")) (Ev.sub (RL.rel B) (St.stab (RL.rel B)) ?Zv1 ?Zv2 ?Zv3) ?Zo1 ?Zo2) ?Zc1 ?Zo3
        case Zv1 => wtm_at "g"
        case Zv2 => wtm_at "g"
        case Zv3 => wtm_at "g"
        case Zo1 => wtm_at "g"
        case Zo2 => wtm_at "g"
        case Zo3 => exact Op.addS (RL.rel B) (by wtm_at "size")
        case Zc1 =>
          refine' Ev.callG kb (fa := 156) ?Zf1 (by rfl) (by rfl) (by intro h; cases h) (fun _ => rfl) ?Za1 (ca_order (n := ns.getD j 0 % 24) (k := 0)) (by show 1 ≤ k + 2; lia)
          case Zf1 => wtm_at "fn"
          case Za1 => wtm_at "g"
noncomputable def modeAt (n : Int) : Int := n % 131072 - 65536
theorem law_modes (kb : KB w B) {ns : List Int} (hn : ns.length = 10) (hs : ρ "numbers" = some (dI ns)) :
    Ex1 prog w X (RL B) (GL w mg mb B) ⟨k + 2, fr, true⟩ h₀ (lEnv w h₀.objs.size) ρ (nthSt (bodyAt w 180) 4) (.next (upd ρ "modes" (.list (((ns.drop 4).take 4).map fun n => D.int (modeAt n))))) := by
  refine' Ex1.assign (RL.rel B) ?Ze ?Zs ?Zw
  case Zw => rfl
  case Zs => wtm_at "sto"
  case Ze =>
    refine' Ev.compM (l := (ns.drop 4).take 4) (dc := fun (j : Int) => D.int j) (f := fun (j : Int) => D.int (modeAt j)) (RL.rel B) (GL.stat kb) rfl ?Zso ?Zhf ?Zit (.list _) ?Zsz ?Zh
    case Zso => exact scopeOk_of (by rfl) (by rfl) (by rfl) (by rfl)
    case Zhf => intro _; rfl
    case Zit =>
      refine' Ev.of_eq (Ev.sliceL (l := ns.map D.int) (lo := some 4) (hi := some 8) (sp := none) (RL.rel B) (St.stab (RL.rel B)) ?Zu ?Zv (Pt.some ?Zb) (Pt.some ?Zb2) (Pt.none (RL.rel B)) ?Zn ?Zz) ?Zq
      case Zu => exact fun _ S => S.up
      case Zv => wtm_at "g"
      case Zb => wtm_at "g"
      case Zb2 => wtm_at "g"
      case Zn => intro h; cases h
      case Zz => simp only [List.length_map, sizeLine]; lia
      case Zq =>
        rw [pick_plain]
        simp only [Option.elim, List.length_map, hn]
        have e1 : clipAt 10 4 = 4 := by decide
        have e2 : clipAt 10 8 = 8 := by decide
        rw [e1, e2]
        simp [List.map_take, List.map_drop]
    case Zsz => simp [sizeLine]; lia
    case Zh =>
      intro h₁ L C G1 hL j hj
      refine ⟨upd _ "number" (D.int j), ?Zext, As.name ?Zst, ?Zev⟩
      case Zext => exact upd_ext (by rfl)
      case Zst => wtm_at "sto"
      case Zev =>
        refine' Ev.bin (RL.rel B) (St.stab (RL.rel B)) (a := .int (j % 131072)) (b := .int 65536) (Ev.bin (RL.rel B) (St.stab (RL.rel B)) (a := .int j) (b := .int 131072) ?Za1 (Ev.int (RL.rel B)) (Op.modp (RL.rel B) (by decide))) (Ev.int (RL.rel B)) (Op.sub (RL.rel B))
        case Za1 => wtm_at "g"
noncomputable def oddL : List (List Str) := [[sO "229 at 272)"], [sO "229 at (|||7|x"], [sO "229 at (||7|)", sO "229 at (|||7||)"], [sO "229 at (|||7|!)"]]
noncomputable abbrev dSS (l : List (List Str)) : D := .list (l.map fun r => .list (r.map D.str))
theorem law_odd (kb : KB w B) :
    Ex1 prog w X (RL B) (GL w mg mb B) ⟨k + 2, fr, true⟩ h₀ (lEnv w h₀.objs.size) ρ (nthSt (bodyAt w 180) 5) (.next (upd ρ "odd" (dSS oddL))) := by
  refine' Ex1.assign (RL.rel B) ?Ze ?Zs ?Zw
  case Zw => rfl
  case Zs => wtm_at "sto"
  case Ze =>
    refine' Ev.of_eq (Ev.listD (RL.rel B) (St.stab (RL.rel B)) ?Zu ?Za ?Zz) ?Zq
    case Zu => exact fun _ S => S.up
    case Za => wtm_at "g"
    case Zz => wtm_at "size"
    case Zq => rfl
end
end
section
variable {X : Addr → Prop}
section
variable {prog : Program} {w : World} {mg mb : Str → Option Value} {k : Nat} {B : Nat} {h₀ : Heap} {ρ : Rho} {fr : Option (List Env)}

noncomputable def spoilAt (ns : List Int) (j : Nat) : List Str := if ns.getD 8 0 / 2 ^ j % 2 == 1 then oddL.getD j [] else []
theorem Op.pow2 {R : Heap → Heap → Prop} {I : Heap → Prop} {kk : Room} (r : Rel R) {j : Nat} (hj : j ≤ 20) : Op prog w X R I kk (binaryOp .Pow) (.int 2) (.int (j : Int)) (.int (2 ^ j)) := by
  refine Op.powl r (by lia) ?_ (by simp)
  have : Builtin.Int.intBits 2 = 2 := by decide +kernel
  rw [this]
  lia
theorem law_spoiled (kb : KB w B) {ns : List Int} (hn : ns.length = 10) (hs : ρ "numbers" = some (dI ns)) (ho : ρ "odd" = some (dSS oddL)) :
    Ex1 prog w X (RL B) (GL w mg mb B) ⟨k + 2, fr, true⟩ h₀ (lEnv w h₀.objs.size) ρ (nthSt (bodyAt w 180) 6) (.next (upd ρ "spoiled" (.list ((List.range 4).map fun j => D.list ((spoilAt ns j).map D.str))))) := by
  refine' Ex1.assignM (l := List.range 4) (dc := fun (j : Nat) => D.int (j : Int)) (f := fun (j : Nat) => D.list ((spoilAt ns j).map D.str)) (RL.rel B) (GL.stat kb) rfl ?Zw ?Zx ?Zxc ?Zp ?Zso ?Zhf ?Zit (.rng 4 (by decide)) ?Zsz ?Zh
  case Zw => rfl
  case Zx => rfl
  case Zxc => rfl
  case Zp => rfl
  case Zso => exact scopeOk_of (by rfl) (by rfl) (by rfl) (by rfl)
  case Zhf => intro _; rfl
  case Zit => ((refine' Ev.rangeC (by wtm_at "rr") (St.stab (by wtm_at "rr")) ?Zru ?Zrg ?Zrp ?Zra ?Zrn); (case Zrp => (intro _; rfl)); (case Zru => exact fun _ S => S.up); (case Zrg => wtm_at "fn"); (case Zra => wtm_at "g"); (case Zrn => rfl))
  case Zsz => decide
  case Zh =>
    intro h₁ L C G1 hL j hj
    refine ⟨upd _ "k" (D.int (j : Int)), ?Zext, As.name ?Zst, ?Zev⟩
    case Zext => exact upd_ext (by rfl)
    case Zst => wtm_at "sto"
    case Zev =>
      have j4 : j < 4 := by simpa using hj
      have o8 : (ns.map D.int)[((8 : Int)).toNat]? = some (.int (ns.getD 8 0)) := by simp [List.getD, show 8 < ns.length by lia]
      have oj : (oddL.map fun r => D.list (r.map D.str))[((j : Int)).toNat]? = some (.list ((oddL.getD j []).map D.str)) := by
        rcases j with _ | _ | _ | _ | j
        · rfl
        · rfl
        · rfl
        · rfl
        · lia
      have p2 : (0 : Int) < 2 ^ j := Int.pow_pos (by decide)
      have p3 : (2 : Int) ^ j < 1073741824 := by
        rcases j with _ | _ | _ | _ | j
        · decide
        · decide
        · decide
        · decide
        · lia
      refine' Ev.of_eq (Ev.ifL (RL.rel B) (St.stab (RL.rel B)) (c := decide (ns.getD 8 0 / 2 ^ j % 2 = 1)) (da := (oddL.getD j []).map D.str) (db := []) ?Zt ?Za ?Zb) ?Zq
      case Zt =>
        refine' Tr.cmp (X := Less X L) (RL.rel B) (St.stab (RL.rel B)) (a := .int (ns.getD 8 0 / 2 ^ j % 2)) (b := .int 1) ?Zm ?Zt1 ?Zt2 (Op.eqI (RL.rel B))
        case Zm => with_unfolding_all rfl
        case Zt2 => wtm_at "g"
        case Zt1 =>
          refine' Ev.bin (RL.rel B) (St.stab (RL.rel B)) (a := .int (ns.getD 8 0 / 2 ^ j)) (b := .int 2) (Ev.bin (RL.rel B) (St.stab (RL.rel B)) (a := .int (ns.getD 8 0)) (b := .int (2 ^ j)) ?Zu1 (Ev.bin (RL.rel B) (St.stab (RL.rel B)) (a := .int 2) (b := .int (j : Int)) (Ev.int (RL.rel B)) ?Zu2 (Op.pow2 (RL.rel B) (by lia))) (Op.divp (RL.rel B) p2 p3)) (Ev.int (RL.rel B)) (Op.modp (RL.rel B) (by decide))
          case Zu1 => wtm_at "g"
          case Zu2 => wtm_at "g"
      case Za => wtm_at "g"
      case Zb =>
        show Ev _ _ _ _ _ _ _ _ (.list [])
        wtm_at "g"
      case Zq =>
        unfold spoilAt
        generalize ns.getD 8 0 / 2 ^ j % 2 = y
        generalize oddL.getD j [] = o
        by_cases z : y = 1
        · subst z; rfl
        · simp [z]
theorem law_told (kb : KB w B) (hB0 : B ≤ h₀.objs.size) {t0 t1 t2 t3 : Str} {m0 m1 m2 m3 : Int} {s0 s1 s2 s3 : List Str} {told : D} (ht : ρ "texts" = some (.list [.str t0, .str t1, .str t2, .str t3])) (hm : ρ "modes" = some (.list [.int m0, .int m1, .int m2, .int m3]))
    (hs : ρ "spoiled" = some (.list [.list (s0.map D.str), .list (s1.map D.str), .list (s2.map D.str), .list (s3.map D.str)])) (ht0 : TextOk t0) (ht1 : TextOk t1) (ht2 : TextOk t2) (ht3 : TextOk t3) (hm0 : ModeOk m0) (hm1 : ModeOk m1) (hm2 : ModeOk m2) (hm3 : ModeOk m3)
    (hs0 : s0.length ≤ 2) (hs1 : s1.length ≤ 2) (hs2 : s2.length ≤ 2) (hs3 : s3.length ≤ 2)
    (fold : Fold (StepC prog w X (RL B) (GL w mg mb B) B k [lEnv w h₀.objs.size] 142) (.tup [.list [], .list []]) ((talkOf t0 t1 t2 t3 m0 m1 m2 m3 s0 s1 s2 s3).map D.str) told) :
    Ex1 prog w X (RL B) (GL w mg mb B) ⟨k + 1, some [lEnv w h₀.objs.size], true⟩ h₀ (lEnv w h₀.objs.size) ρ (nthSt (bodyAt w 180) 7) (.next (upd ρ "told" told)) := by
  refine' Ex1.assign (RL.rel B) ?Ze ?Zs ?Zw
  case Zw => rfl
  case Zs => wtm_at "sto"
  case Ze =>
    refine' Ev.callF (RL.rel B) (St.stab (RL.rel B)) (fa := 30) (ob := objAt w 30) (fd := fdAt w 30) (as := [.val (.ref 142), .list ((talkOf t0 t1 t2 t3 m0 m1 m2 m3 s0 s1 s2 s3).map D.str), .tup [.list [], .list []]]) ?Zf (by rfl) (fun h S => (St.gh (RL.rel B) (GL.stat kb) S).1.at (by rfl) (by intro h; cases h)) (fun _ => rfl) ?Za ?Zc
    case Zf => wtm_at "fn"
    case Za =>
      refine' EvL.cons (RL.rel B) (St.stab (RL.rel B)) (fun _ => rfl) ?Za1 (EvL.cons (RL.rel B) (St.stab (RL.rel B)) (fun _ => rfl) ?Za2 (EvL.cons (RL.rel B) (St.stab (RL.rel B)) (fun _ => rfl) ?Za3 (EvL.nil (RL.rel B))))
      case Za1 => wtm_at "fn"
      case Za3 => wtm_at "g"
      case Za2 =>
        refine' Ev.callG kb (fa := 135) ?Zf1 (by rfl) (by rfl) (by intro h; cases h) (fun _ => rfl) ?Zb1 (ca_talk (k := 0) ht0 ht1 ht2 ht3 hm0 hm1 hm2 hm3 hs0 hs1 hs2 hs3) (by show 1 ≤ k + 1; lia)
        case Zf1 => wtm_at "fn"
        case Zb1 => wtm_at "g"
    case Zc =>
      refine Ca.mono (ca_reduce3 (k := k) (l0 := lEnv w h₀.objs.size) (ls := []) (ob := objAt w 142) (fd := fdAt w 142) (RL.rel B) (fun h g => g.1) (GL.stat kb) (by rfl) (fun h g => g.1.at (by rfl) (by intro h; cases h)) fold) (fun h S => ⟨⟨St.gh (RL.rel B) (GL.stat kb) S, ?_⟩, S.up⟩) (Nat.le_refl _) (.inr rfl) (fun z => z)
      exact ff_own (RL.rel B) S (by rfl) (by rfl) hB0 (fun e he => by cases he)
end
end
section
variable {X : Addr → Prop}
section
variable {prog : Program} {w : World} {R : Heap → Heap → Prop} {G : Heap → Prop} {k : Room} {h₀ : Heap} {env : Env} {ρ ρ' : Rho}
-- a comprehension of two clauses
theorem Ev.comp2 (r : Rel R) (hG : Static R G) (hca : k.calm = true) {elt t1 i1 t2 i2 : Expr} {ifs2 : List Expr} {scope : Scope} {pos : Pos} {cl : List (Str × Addr)} {d : D} {α β : Type} {l : List α} {dc : α → D} {m : α → List β} {dc' : β → D} {p : α → β → Bool} {f : α → β → D}
    (so : ScopeOk scope cl env) (hf : ∀ x, foldedSetIterable i1 env x = pure x) (he : Ev prog w X R (St X R G h₀ env ρ) k env i1 d) (go : Goes d (l.map dc)) (hsz : (l.flatMap fun a => ((m a).filter (p a)).map (f a)).length ≤ sizeLine)
    (h : ∀ h₁ L C, G h₁ → (h₁.objs.size ≤ L ∧ h₁.objs.size ≤ C) → (∀ x, foldedSetIterable i2 (compEnv scope cl C env) x = pure x) ∧ ∀ a ∈ l, ∃ ρ₁, Ext (rhoC scope ρ) ρ₁ ∧ As prog w (Less X L) R G h₁ (compEnv scope cl C env) (rhoC scope ρ) t1 (dc a) ρ₁ ∧
      ∃ d', Ev prog w (Less X L) R (St (Less X L) R G h₁ (compEnv scope cl C env) ρ₁) k (compEnv scope cl C env) i2 d' ∧ Goes d' ((m a).map dc') ∧ ∀ b ∈ m a, ∃ ρ₂, Ext ρ₁ ρ₂ ∧ As prog w (Less X L) R G h₁ (compEnv scope cl C env) ρ₁ t2 (dc' b) ρ₂ ∧
        Ts prog w (Less X L) R G k h₁ (compEnv scope cl C env) ρ₂ ifs2 (p a b) ∧ (p a b = true → Ev prog w (Less X L) R (St (Less X L) R G h₁ (compEnv scope cl C env) ρ₂) k (compEnv scope cl C env) elt (f a b))) :
    Ev prog w X R (St X R G h₀ env ρ) k env (.ListComp elt [⟨t1, i1, [], 0⟩, ⟨t2, i2, ifs2, 0⟩] scope pos) (.list (l.flatMap fun a => ((m a).filter (p a)).map (f a))) :=
  Ev.comp r hG hca so hf he go hsz (fun g hg => by simp at hg; rw [hg]) fun h₁ L C G1 lt => by
    obtain ⟨hf2, h⟩ := h h₁ L C G1 lt
    refine ⟨rhoC scope ρ, ?_⟩
    have := Cl.nest (prog := prog) (w := w) (X := Less X L) (R := R) (G := G) (k := k) (h₀ := h₁) (env := compEnv scope cl C env) (ρ := rhoC scope ρ) (elt := elt) (gens := [⟨t1, i1, [], 0⟩, ⟨t2, i2, ifs2, 0⟩]) (dep := 0) (g := ⟨t1, i1, [], 0⟩) (g' := ⟨t2, i2, ifs2, 0⟩) rfl rfl hf2 dc (fun _ => true)
      (fun a => ((m a).filter (p a)).map (f a)) l [] (rhoC scope ρ) [] (Ext.refl _) (fun a ha => by
        obtain ⟨ρ₁, e1, as, d', ev, go', hb⟩ := h a ha
        refine ⟨ρ₁, e1, as, Ts.nil r, fun _ => ⟨d', (m a).map dc', ρ₁, e1, ev, go', fun acc => ?_⟩⟩
        have := Cl.last (prog := prog) (w := w) (X := Less X L) (R := R) (G := G) (k := k) (h₀ := h₁) (env := compEnv scope cl C env) (ρ := ρ₁) (elt := elt) (gens := [⟨t1, i1, [], 0⟩, ⟨t2, i2, ifs2, 0⟩]) (dep := 1) (g := ⟨t2, i2, ifs2, 0⟩) rfl rfl dc' (p a) (f a) (m a) [] ρ₁ acc (Ext.refl _) hb
        simpa using this)
    simp only [List.nil_append, List.length_nil] at this
    rw [List.filter_eq_self.mpr (fun _ _ => rfl)] at this
    exact this
theorem Op.neSelf {I : Heap → Prop} (r : Rel R) {a : D} (ha : a.pure = true) (sa : SeqAt.shaped a.py = true) : Op prog w X R I k (compareOp .NotEq) a a (.bool false) :=
  (Op.neD r ha ha sa sa).of_eq (by rw [PySem.SeqAt.eqv_refl _ (SeqAt.canLay_of_shaped sa)]; rfl)
end
section
variable {prog : Program} {w : World} {mg mb : Str → Option Value} {k : Nat} {B : Nat} {h₀ : Heap} {ρ : Rho} {fr : Option (List Env)}

theorem flat_strs (sp : List (List Str)) : (sp.flatMap fun part => (part.filter fun _ => true).map D.str) = sp.flatten.map D.str := by
  induction sp with
  | nil => rfl
  | cons a sp ih => rw [List.flatMap_cons, ih, List.filter_eq_self.mpr (fun _ _ => rfl), List.flatten_cons, List.map_append]
theorem law_refused (kb : KB w B) {sp : List (List Str)} (hs : ρ "spoiled" = some (dSS sp)) (hl : sp.flatten.length ≤ 1000) :
    Ex1 prog w X (RL B) (GL w mg mb B) ⟨k + 2, fr, true⟩ h₀ (lEnv w h₀.objs.size) ρ (nthSt (bodyAt w 180) 8) (.next (upd ρ "refused" (.list ((sO "no 226 all told" :: sp.flatten).map D.str)))) := by
  refine' Ex1.assign (RL.rel B) ?Ze ?Zs ?Zw
  case Zw => rfl
  case Zs => wtm_at "sto"
  case Ze =>
    refine' Ev.of_eq (Ev.bin (RL.rel B) (St.stab (RL.rel B)) (a := .list [.str (sO "no 226 all told")]) (b := .list (sp.flatMap fun part => (part.filter fun _ => true).map D.str)) ?Za ?Zb ?Zo) ?Zq
    case Za => wtm_at "g"
    case Zo =>
      refine Op.addL (RL.rel B) (fun h S => S.up) ?_
      simp only [flat_strs, List.length_cons, List.length_nil, List.length_map, sizeLine]
      lia
    case Zq => rw [flat_strs]; rfl
    case Zb =>
      refine' Ev.comp2 (l := sp) (dc := fun part => D.list (part.map D.str)) (m := fun part => part) (dc' := D.str) (p := fun _ _ => true) (f := fun _ x => D.str x) (RL.rel B) (GL.stat kb) rfl ?Zso ?Zhf ?Zit (.list _) ?Zsz ?Zh
      case Zso => exact scopeOk_of (by rfl) (by rfl) (by rfl) (by rfl)
      case Zhf => intro _; rfl
      case Zit => wtm_at "g"
      case Zsz => rw [flat_strs, List.length_map]; simp only [sizeLine]; lia
      case Zh =>
        intro h₁ L C G1 hL
        refine ⟨fun _ => rfl, fun part hp => ⟨upd _ "part" (D.list (part.map D.str)), upd_ext (by rfl), As.name ?Zst, _, ?Zev, .list _, fun x hx => ⟨upd _ "text" (D.str x), upd_ext (by rfl), As.name ?Zst2, Ts.nil (RL.rel B), fun _ => ?Zev2⟩⟩⟩
        case Zst => wtm_at "sto"
        case Zst2 => wtm_at "sto"
        case Zev => wtm_at "g"
        case Zev2 => wtm_at "g"
end
section
variable {prog : Program} {w : World} {mg mb : Str → Option Value} {k : Nat} {B : Nat} {h₀ : Heap} {ρ : Rho} {fr : Option (List Env)}

noncomputable abbrev toldRow (t : Str) (m : Int) : D := .list [.str t, .tup [.str (sO "peer"), .int m]]
noncomputable abbrev toldD (ts : List Str) (ms : List Int) (ref : List Str) : D := .tup [.list ((List.range 4).map fun j => toldRow (ts.getD j (sO "")) (ms.getD j 0)), .list (ref.map D.str)]
theorem law_if_told (kb : KB w B) {ts : List Str} {ms : List Int} {ref : List Str} (ht : ρ "texts" = some (.list (ts.map D.str))) (hm : ρ "modes" = some (dI ms)) (hr : ρ "refused" = some (.list (ref.map D.str))) (hd : ρ "told" = some (toldD ts ms ref)) (lt : ts.length = 4) (lm : ms.length = 4)
    (hp : D.pure (toldD ts ms ref) = true) (hs : SeqAt.shaped (D.py (toldD ts ms ref)) = true) :
    Ex1 prog w X (RL B) (GL w mg mb B) ⟨k + 2, fr, true⟩ h₀ (lEnv w h₀.objs.size) ρ (nthSt (bodyAt w 180) 9) (.next ρ) := by
  refine' Ex1.ifs (RL.rel B) (c := false) ?Zt (fun h => by cases h) (fun _ => Ex.nil)
  case Zt =>
    refine' Tr.cmp (X := X) (RL.rel B) (St.stab (RL.rel B)) (a := toldD ts ms ref) (b := toldD ts ms ref) ?Zm ?Za ?Zb (Op.neSelf (RL.rel B) hp hs)
    case Zm => with_unfolding_all rfl
    case Za => wtm_at "g"
    case Zb =>
      refine' Ev.tupD (RL.rel B) (St.stab (RL.rel B)) ?Zu (EvL.cons (RL.rel B) (St.stab (RL.rel B)) (fun _ => rfl) ?Zc1 (EvL.cons (RL.rel B) (St.stab (RL.rel B)) (fun _ => rfl) ?Zc2 (EvL.nil (RL.rel B)))) ?Zz
      case Zu => exact fun _ S => S.up
      case Zz => wtm_at "size"
      case Zc2 => wtm_at "g"
      case Zc1 =>
        refine' Ev.compM (l := List.range 4) (dc := fun (j : Nat) => D.int (j : Int)) (f := fun (j : Nat) => toldRow (ts.getD j (sO "")) (ms.getD j 0)) (RL.rel B) (GL.stat kb) rfl ?Zso ?Zhf ?Zit (.rng 4 (by decide)) ?Zsz ?Zh
        case Zso => exact scopeOk_of (by rfl) (by rfl) (by rfl) (by rfl)
        case Zhf => intro _; rfl
        case Zit => ((refine' Ev.rangeC (by wtm_at "rr") (St.stab (by wtm_at "rr")) ?Zru ?Zrg ?Zrp ?Zra ?Zrn); (case Zrp => (intro _; rfl)); (case Zru => exact fun _ S => S.up); (case Zrg => wtm_at "fn"); (case Zra => wtm_at "g"); (case Zrn => rfl))
        case Zsz => decide
        case Zh =>
          intro h₁ L C G1 hL j hj
          have j4 : j < 4 := by simpa using hj
          have e1 : (ts.map D.str)[((j : Int)).toNat]? = some (.str (ts.getD j (sO ""))) := by simp [List.getD, show j < ts.length by lia]
          have e2 : (ms.map D.int)[((j : Int)).toNat]? = some (.int (ms.getD j 0)) := by simp [List.getD, show j < ms.length by lia]
          refine ⟨upd _ "k" (D.int (j : Int)), upd_ext (by rfl), As.name ?Zst, ?Zev⟩
          case Zst => wtm_at "sto"
          case Zev => wtm_at "g"
theorem law_signs (kb : KB w B) (hX : ∀ a, (hd.heap_39 w.params).lookup a = some (objAt w a) → (objAt w a).cls ≠ .none → X a) {ts : List Str} {ms : List Int} {ref : List Str} (hd' : ρ "told" = some (toldD ts ms ref)) (hJ : ∀ m : Int, JoinOk (sQ "") (fmSigns m 0 fmTables) = true) :
    Ex1 prog w X (RL B) (GL w mg mb B) ⟨k + 2, fr, true⟩ h₀ (lEnv w h₀.objs.size) ρ (nthSt (bodyAt w 180) 10) (.next (upd ρ "signs" (.list ((List.range 4).map fun j => D.str (fmText (ms.getD j 0)))))) := by
  refine' Ex1.assignM (l := List.range 4) (dc := fun (j : Nat) => toldRow (ts.getD j (sO "")) (ms.getD j 0)) (f := fun (j : Nat) => D.str (fmText (ms.getD j 0))) (RL.rel B) (GL.stat kb) rfl ?Zw ?Zx ?Zxc ?Zp ?Zso ?Zhf ?Zit (.list _) ?Zsz ?Zh
  case Zw => rfl
  case Zx => rfl
  case Zxc => rfl
  case Zp => rfl
  case Zso => exact scopeOk_of (by rfl) (by rfl) (by rfl) (by rfl)
  case Zhf => intro _; rfl
  case Zit =>
    refine' Ev.sub (RL.rel B) (St.stab (RL.rel B)) (a := toldD ts ms ref) (b := .int 0) ?Zv ?Zi (Op.itemT (RL.rel B) ?Zp1 ?Zp2 ?Zp3 rfl)
    case Zv => wtm_at "g"
    case Zi => wtm_at "g"
    case Zp1 => exact fun _ _ => rfl
    case Zp2 => wtm_at "num"
    case Zp3 => wtm_at "num"
  case Zsz => decide
  case Zh =>
    intro h₁ L C G1 hL j hj
    refine ⟨upd _ "row" (toldRow (ts.getD j (sO "")) (ms.getD j 0)), upd_ext (by rfl), As.name ?Zst, ?Zev⟩
    case Zst => wtm_at "sto"
    case Zev =>
      refine' Ev.callG kb (fa := 128) ?Zf1 (by rfl) (by rfl) (by intro h; cases h) (fun _ => rfl) ?Za1 (ca_filemode (k := 0) (m := ms.getD j 0) ?Zhx (hJ _)) (by show 2 ≤ k + 2; lia)
      case Zf1 => wtm_at "fn"
      case Zhx =>
        intro a la na
        refine ⟨hX a la na, fun q => ?_⟩
        subst q
        exact absurd (Heap.lt_size (G1.1.at la na)) (Nat.not_lt.mpr hL.1)
      case Za1 =>
        refine EvL.cons (RL.rel B) (St.stab (RL.rel B)) (fun _ => rfl) ?Zx1 (EvL.nil (RL.rel B))
        refine' Ev.sub (RL.rel B) (St.stab (RL.rel B)) (a := .tup [.str (sO "peer"), .int (ms.getD j 0)]) (b := .int 1) (Ev.sub (RL.rel B) (St.stab (RL.rel B)) (a := toldRow (ts.getD j (sO "")) (ms.getD j 0)) (b := .int 1) ?Zv1 (Ev.int (RL.rel B)) (Op.itemL (RL.rel B) ?Zp4 (by decide) (by decide) rfl)) (Ev.int (RL.rel B)) (Op.itemT (RL.rel B) ?Zp5 ?Zp6 ?Zp7 rfl)
        case Zv1 => wtm_at "g"
        case Zp4 => exact fun _ _ => rfl
        case Zp5 => exact fun _ _ => rfl
        case Zp6 => wtm_at "num"
        case Zp7 => wtm_at "num"
end
end
section
variable {X : Addr → Prop}
section
variable {prog : Program} {w : World} {mg mb : Str → Option Value} {k : Nat} {B : Nat} {h₀ : Heap} {ρ : Rho} {fr : Option (List Env)}

theorem four_of {ms : List Int} : ms.length = 4 → ∃ a b c d, ms = [a, b, c, d] := len4 (P := fun ms => ∃ a b c d, ms = [a, b, c, d]) (fun a b c d => ⟨a, b, c, d, rfl⟩) ms
theorem map_four {ms : List Int} (h : ms.length = 4) (g : Int → D) : ms.map g = (List.range 4).map fun j => g (ms.getD j 0) := by
  obtain ⟨a, b, c, d, rfl⟩ := four_of h
  rfl
noncomputable abbrev signsD (ms : List Int) : D := .list ((List.range 4).map fun j => D.str (listText (ms.getD j 0)))
theorem law_if_signs (kb : KB w B) {ms : List Int} (hs : ρ "signs" = some (signsD ms)) (hm : ρ "modes" = some (dI ms)) (lm : ms.length = 4) (hp : D.pure (signsD ms) = true) (hsh : SeqAt.shaped (D.py (signsD ms)) = true) :
    Ex1 prog w X (RL B) (GL w mg mb B) ⟨k + 2, fr, true⟩ h₀ (lEnv w h₀.objs.size) ρ (nthSt (bodyAt w 180) 11) (.next ρ) := by
  refine' Ex1.ifs (RL.rel B) (c := false) ?Zt (fun h => by cases h) (fun _ => Ex.nil)
  case Zt =>
    refine' Tr.cmp (X := X) (RL.rel B) (St.stab (RL.rel B)) (a := signsD ms) (b := signsD ms) ?Zm ?Za ?Zb (Op.neSelf (RL.rel B) hp hsh)
    case Zm => with_unfolding_all rfl
    case Za => wtm_at "g"
    case Zb =>
      refine' Ev.of_eq (Ev.compM (l := ms) (dc := D.int) (f := fun m => D.str (listText m)) (RL.rel B) (GL.stat kb) rfl ?Zso ?Zhf ?Zit (.list _) ?Zsz ?Zh) ?Zq
      case Zso => exact scopeOk_of (by rfl) (by rfl) (by rfl) (by rfl)
      case Zhf => intro _; rfl
      case Zit => wtm_at "g"
      case Zsz => simp only [sizeLine]; lia
      case Zq => exact congrArg D.list (map_four lm fun m => D.str (listText m))
      case Zh =>
        intro h₁ L C G1 hL m hm
        refine ⟨upd _ "mode" (D.int m), upd_ext (by rfl), As.name ?Zst, ?Zev⟩
        case Zst => wtm_at "sto"
        case Zev =>
          have cl : Ca prog w (Less X L) Kf (fun h => Gs w mg mb h ∧ Up (Less X L) h) ⟨0 + 1, fr, true⟩ (.ref 149) [.int m] (.str (listText m)) := ca_listing
          show Ev _ _ _ _ _ _ _ _ (D.str (listText m))
          generalize listText m = T at cl ⊢
          refine' Ev.callG kb (fa := 149) ?Zf1 (by rfl) (by rfl) (by intro h; cases h) (fun _ => rfl) ?Za1 cl (by show 1 ≤ k + 2; lia)
          case Zf1 => wtm_at "fn"
          case Za1 => wtm_at "g"
noncomputable abbrev digs (ms : List Int) : List (List Int) := (List.range 4).map fun j => digitsOf (listText (ms.getD j 0))
theorem law_digits (kb : KB w B) {ms : List Int} (hs : ρ "signs" = some (signsD ms)) (hl : ∀ m : Int, (listText m).length = 10) :
    Ex1 prog w X (RL B) (GL w mg mb B) ⟨k + 2, fr, true⟩ h₀ (lEnv w h₀.objs.size) ρ (nthSt (bodyAt w 180) 12) (.next (upd ρ "digits" (dR (digs ms)))) := by
  refine' Ex1.assign (RL.rel B) ?Ze ?Zs ?Zw
  case Zw => rfl
  case Zs => wtm_at "sto"
  case Ze =>
    refine' Ev.of_eq (Ev.compM (l := List.range 4) (dc := fun (j : Nat) => D.str (listText (ms.getD j 0))) (f := fun (j : Nat) => dI (digitsOf (listText (ms.getD j 0)))) (RL.rel B) (GL.stat kb) rfl ?Zso ?Zhf ?Zit (.list _) ?Zsz ?Zh) ?Zq
    case Zso => exact scopeOk_of (by rfl) (by rfl) (by rfl) (by rfl)
    case Zhf => intro _; rfl
    case Zit => wtm_at "g"
    case Zsz => decide
    case Zq => rfl
    case Zh =>
      intro h₁ L C G1 hL j hj
      refine ⟨upd _ "sign" (D.str (listText (ms.getD j 0))), upd_ext (by rfl), As.name ?Zst, ?Zev⟩
      case Zst => wtm_at "sto"
      case Zev =>
        refine' Ev.callG kb (fa := 163) ?Zf1 (by rfl) (by rfl) (by intro h; cases h) (fun _ => rfl) ?Za1 (ca_digits (k := 0) (hl _)) (by show 1 ≤ k + 2; lia)
        case Zf1 => wtm_at "fn"
        case Za1 => wtm_at "g"
noncomputable def ixOf (c : Nat) : Nat := if c = 117 then 0 else if c = 103 then 1 else if c = 111 then 2 else 3
structure Wish (t o : Str) : Prop where
  sp : ∃ a, Txt.split t (sO "/") = [a, o]
  len : t.length ≤ 1000
  prt : (Builtin.Str.partsBetween t (Builtin.Str.occurrences t (sO "/") 0 t.length (t.length + 1)) (sO "/").length).length ≤ sizeLine
  asc : o.cps.all (· < 128) = true
  ix : ∀ c ∈ o.cps.toList, ∃ rest, Builtin.Str.occurrences (sO "ugos") ⟨#[c]⟩ 0 (sO "ugos").length 1 = ixOf c :: rest
  lo : o.cps.toList.length = 4
noncomputable abbrev wishL (os : List Str) : List (List Int) := (List.range 4).map fun j => (os.getD j (sO "")).cps.toList.map fun c => (ixOf c : Int)
theorem law_wishes (kb : KB w B) {ts os : List Str} {ms : List Int} {ref : List Str} (hd' : ρ "told" = some (toldD ts ms ref)) (hw : ∀ j < 4, Wish (ts.getD j (sO "")) (os.getD j (sO ""))) :
    Ex1 prog w X (RL B) (GL w mg mb B) ⟨k + 2, fr, true⟩ h₀ (lEnv w h₀.objs.size) ρ (nthSt (bodyAt w 180) 13) (.next (upd ρ "wishes" (dR (wishL os)))) := by
  refine' Ex1.assign (RL.rel B) ?Ze ?Zs ?Zw
  case Zw => rfl
  case Zs => wtm_at "sto"
  case Ze =>
    refine' Ev.of_eq (Ev.compM (l := List.range 4) (dc := fun (j : Nat) => toldRow (ts.getD j (sO "")) (ms.getD j 0)) (f := fun (j : Nat) => D.list ((os.getD j (sO "")).cps.toList.map fun c => D.int (ixOf c))) (RL.rel B) (GL.stat kb) rfl ?Zso ?Zhf ?Zit (.list _) ?Zsz ?Zh) ?Zq
    case Zso => exact scopeOk_of (by rfl) (by rfl) (by rfl) (by rfl)
    case Zhf => intro _; rfl
    case Zq => simp [wishL, Function.comp_def]
    case Zit =>
      refine' Ev.sub (RL.rel B) (St.stab (RL.rel B)) (a := toldD ts ms ref) (b := .int 0) ?Zv ?Zi (Op.itemT (RL.rel B) ?Zp1 ?Zp2 ?Zp3 rfl)
      case Zv => wtm_at "g"
      case Zi => wtm_at "g"
      case Zp1 => exact fun _ _ => rfl
      case Zp2 => wtm_at "num"
      case Zp3 => wtm_at "num"
    case Zsz => decide
    case Zh =>
      intro h₁ L C G1 hL j hj
      have j4 : j < 4 := by simpa using hj
      obtain ⟨⟨a0, sp⟩, len, prt, asc, ix, lo⟩ := hw j j4
      refine ⟨upd _ "row" (toldRow (ts.getD j (sO "")) (ms.getD j 0)), upd_ext (by rfl), As.name ?Zst, ?Zev⟩
      case Zst => wtm_at "sto"
      case Zev =>
        refine' Ev.compM (l := (os.getD j (sO "")).cps.toList) (dc := fun c => D.str ⟨#[c]⟩) (f := fun c => D.int (ixOf c)) (RL.rel B) (GL.stat kb) rfl ?Zso2 ?Zhf2 ?Zit2 (.sta _ asc) ?Zsz2 ?Zh2
        case Zso2 => exact scopeOk_of (by rfl) (by rfl) (by rfl) (by rfl)
        case Zhf2 => intro _; rfl
        case Zsz2 => rw [lo]; decide
        case Zit2 =>
          refine' Ev.sub (RL.rel B) (St.stab (RL.rel B)) (a := .list ((Txt.split (ts.getD j (sO "")) (sO "/")).map D.str)) (b := .int 1) ?Zv1 (Ev.int (RL.rel B)) (Op.itemL (RL.rel B) ?Zq1 (by decide) (by decide) (by rw [sp]; rfl))
          case Zq1 => exact fun _ _ => rfl
          case Zv1 =>
            refine' Ev.meth (RL.rel B) (St.stab (RL.rel B)) (by rfl) (by rfl) (by rfl) F.plainAttrs_str F.slot_str_split F.type_str_split (typeStr (ts.getD j (sO ""))) (fun _ => rfl) (by rfl) ?Zv6 ?Zl6 (Ca.split (RL.rel B) (fun h S => S.up) (by decide +kernel) (by simp only [sizeLine]; lia) prt)
            case Zl6 => wtm_at "g"
            case Zv6 =>
              refine' Ev.sub (RL.rel B) (St.stab (RL.rel B)) (a := toldRow (ts.getD j (sO "")) (ms.getD j 0)) (b := .int 0) ?Zv2 (Ev.int (RL.rel B)) (Op.itemL (RL.rel B) ?Zq2 (by decide) (by decide) rfl)
              case Zv2 => wtm_at "g"
              case Zq2 => exact fun _ _ => rfl
        case Zh2 =>
          intro h₂ L2 C2 G2 hL2 c hc
          obtain ⟨rest, hix⟩ := ix c hc
          refine ⟨upd _ "letter" (D.str ⟨#[c]⟩), upd_ext (by rfl), As.name ?Zst3, ?Zev3⟩
          case Zst3 => wtm_at "sto"
          case Zev3 =>
            refine' Ev.meth (RL.rel B) (St.stab (RL.rel B)) (by rfl) (by rfl) (by rfl) F.plainAttrs_str F.slot_str_index F.type_str_index (typeStr (sO "ugos")) (fun _ => rfl) (by rfl) ?Zv7 ?Zl7 (Ca.indexS (RL.rel B) hix)
            case Zv7 => wtm_at "g"
            case Zl7 => wtm_at "g"
end
end
section
variable {X : Addr → Prop}
noncomputable def kasEnd {α : Type} (p : α → Bool) : KasT α → Bool
  | .ret a => p a
  | .ask _ _ k => kasEnd p (k true) && kasEnd p (k false)
theorem kasEnd_run {α : Type} {p : α → Bool} {lt : Nat → Nat → Bool} : ∀ (T : KasT α), kasEnd p T = true → p (kasRun lt T) = true
  | .ret a, h => h
  | .ask i j k, h => by
    simp only [kasEnd, Bool.and_eq_true] at h
    show p (kasRun lt (k (lt i j))) = true
    cases lt i j
    · exact kasEnd_run (k false) h.2
    · exact kasEnd_run (k true) h.1
theorem kasPerm4 : kasEnd (fun a => (a.toList.length == 4 && a.toList.all (· < 4)) && (a.toList.contains 0 && a.toList.contains 1 && a.toList.contains 2 && a.toList.contains 3)) (kas_sort 4) = true := by decide +kernel
noncomputable def kasN (F : Int → Int → Int) : List Nat := (kasRun (fun i j => decide (F (([0, 1, 2, 3] : List Int).getD i 0) (([0, 1, 2, 3] : List Int).getD j 0) < 0)) (kas_sort 4)).toList
noncomputable def kasI (F : Int → Int → Int) : List Int := (kasN F).map fun i : Nat => (i : Int)
theorem kasN_ok (F : Int → Int → Int) : (kasN F).length = 4 ∧ (∀ i ∈ kasN F, i < 4) ∧ ∀ i < 4, i ∈ kasN F := by
  have h := kasEnd_run (lt := fun i j => decide (F (([0, 1, 2, 3] : List Int).getD i 0) (([0, 1, 2, 3] : List Int).getD j 0) < 0)) (kas_sort 4) kasPerm4
  simp only [Bool.and_eq_true, beq_iff_eq, List.all_eq_true, decide_eq_true_eq, List.contains_iff_mem] at h
  obtain ⟨⟨h1, h2⟩, ⟨⟨h3, h4⟩, h5⟩, h6⟩ := h
  refine ⟨h1, h2, fun i hi => ?_⟩
  rcases i with _ | _ | _ | _ | i
  · exact h3
  · exact h4
  · exact h5
  · exact h6
  · lia
theorem kasD_eq (F : Int → Int → Int) : kasD F = (kasI F).map D.int := by
  unfold kasI
  rw [List.map_map]
  show (kasN F).map (fun i : Nat => if i < 4 then D.int (i : Int) else D.none) = _
  exact List.map_congr_left fun i hi => by rw [if_pos ((kasN_ok F).2.1 i hi)]; rfl
noncomputable def rankF (dg : List (List Int)) (p : Nat) (i j : Int) : Int := (dg.getD j.toNat []).getD p 0 - (dg.getD i.toNat []).getD p 0
noncomputable abbrev ranksL (dg : List (List Int)) : List (List Int) := (List.range 4).map fun p => kasI (rankF dg p)
theorem hclo_of {clo : List (Str × Addr)} {env : Env} {scope : Scope} (h : ∀ p ∈ clo, env.cells.lookup p.1 = some p.2 ∧ scope.names.lookup p.1 = some .free) : ∀ x c, clo.lookup x = some c → env.cells.lookup x = some c ∧ scope.names.lookup x = some .free :=
  fun x c e => h (x, c) (lookup_mem e)
section
variable {prog : Program} {w : World} {mg mb : Str → Option Value} {k : Nat} {B : Nat} {h₀ : Heap} {ρ : Rho} {fr : Option (List Env)}

set_option hygiene false in
local macro_rules | `(tactic| wtm_at "itx") => `(tactic| first | rfl | assumption | exact hij | exact hjj | exact hpi | exact hpj)
theorem law_ranks (kb : KB w B) (hBig : 180 < B) (hB0 : B ≤ h₀.objs.size) {dg : List (List Int)} (hdg : ρ "digits" = some (dR dg)) (ld : dg.length = 4) (lr : ∀ r ∈ dg, r.length = 4) :
    Ex1 prog w X (RL B) (GL w mg mb B) ⟨k + 12, fr, true⟩ h₀ (lEnv w h₀.objs.size) ρ (nthSt (bodyAt w 180) 14) (.next (upd ρ "ranks" (dR (ranksL dg)))) := by
  refine' Ex1.assign (RL.rel B) ?Ze ?Zs ?Zw
  case Zw => rfl
  case Zs => wtm_at "sto"
  case Ze =>
    refine' Ev.of_eq (Ev.compM (l := List.range 4) (dc := fun (j : Nat) => D.int (j : Int)) (f := fun (p : Nat) => D.list (kasD (rankF dg p))) (RL.rel B) (GL.stat kb) rfl ?Zso ?Zhf ?Zit (.rng 4 (by decide)) ?Zsz ?Zh) ?Zq
    case Zso => exact scopeOk_of (by rfl) (by rfl) (by rfl) (by rfl)
    case Zhf => intro _; rfl
    case Zit => ((refine' Ev.rangeC (by wtm_at "rr") (St.stab (by wtm_at "rr")) ?Zru ?Zrg ?Zrp ?Zra ?Zrn); (case Zrp => (intro _; rfl)); (case Zru => exact fun _ S => S.up); (case Zrg => wtm_at "fn"); (case Zra => wtm_at "g"); (case Zrn => rfl))
    case Zsz => decide
    case Zq => simp [kasD_eq, ranksL, Function.comp_def]
    case Zh =>
      intro h₁ L C G1 hL p hp
      obtain ⟨hL1, hL2⟩ := hL
      have p4 : p < 4 := by simpa using hp
      refine ⟨upd _ "place" (D.int (p : Int)), upd_ext (by rfl), As.name ?Zst, ?Zev⟩
      case Zst => wtm_at "sto"
      case Zev =>
        refine' Ev.sortedK (n := k + 4) (F := rankF dg p) kb hBig ?Zhb ?Zw1 ?Zw2 ?Zw3 (clo := [(Str.ofString "place", C + 1), (Str.ofString "digits", ((lEnv w h₀.objs.size).cells.lookup (Str.ofString "digits")).getD 0)]) ?Zclo ?Zw4 ?Zsrt ?Zctk ?Zlam
        case Zw1 => rfl
        case Zw2 => rfl
        case Zw3 => kernel_rfl
        case Zw4 => rfl
        case Zhb =>
          intro h S
          obtain ⟨v, ⟨o, e, _⟩, _⟩ := S.cel (Str.ofString "digits") (((lEnv w h₀.objs.size).cells.lookup (Str.ofString "digits")).getD 0) (by rfl)
          refine Nat.le_trans ?_ (Nat.le_of_lt (Heap.lt_size e))
          refine Nat.le_trans hB0 ?_
          first
          | exact Nat.le_add_right h₀.objs.size 0
          | exact Nat.le_add_right h₀.objs.size 1
          | exact Nat.le_add_right h₀.objs.size 2
          | exact Nat.le_add_right h₀.objs.size 3
          | exact Nat.le_add_right h₀.objs.size 4
          | exact Nat.le_add_right h₀.objs.size 5
          | exact Nat.le_add_right h₀.objs.size 6
          | exact Nat.le_add_right h₀.objs.size 7
          | exact Nat.le_add_right h₀.objs.size 8
          | exact Nat.le_add_right h₀.objs.size 9
          | exact Nat.le_add_right h₀.objs.size 10
          | exact Nat.le_add_right h₀.objs.size 11
        case Zclo => rfl
        case Zsrt => wtm_at "fn"
        case Zctk => wtm_at "fn"
        case Zlam =>
          intro f ct c' i hi j hj
          have hi' : 0 ≤ i ∧ i < 4 := by simp at hi; lia
          have hj' : 0 ≤ j ∧ j < 4 := by simp at hj; lia
          have hij : (dg.map dI)[i.toNat]? = some (dI (dg.getD i.toNat [])) := dR_at hi'.1 (by lia)
          have hjj : (dg.map dI)[j.toNat]? = some (dI (dg.getD j.toNat [])) := dR_at hj'.1 (by lia)
          have li := lr _ (getDL_mem (l := dg) (i := i.toNat) (by lia))
          have lj := lr _ (getDL_mem (l := dg) (i := j.toNat) (by lia))
          have hpi : ((dg.getD i.toNat []).map D.int)[((p : Int)).toNat]? = some (.int ((dg.getD i.toNat []).getD p 0)) := by simp [List.getD, show p < (dg[i.toNat]?.getD []).length by rw [← List.getD_eq_getElem?_getD, li]; exact p4]
          have hpj : ((dg.getD j.toNat []).map D.int)[((p : Int)).toNat]? = some (.int ((dg.getD j.toNat []).getD p 0)) := by simp [List.getD, show p < (dg[j.toNat]?.getD []).length by rw [← List.getD_eq_getElem?_getD, lj]; exact p4]
          obtain ⟨hi0, hi4⟩ := hi'
          obtain ⟨hj0, hj4⟩ := hj'
          refine Ca.lam (names := ["one", "other"]) (n := k + 3) (RL.rel B) (GL.stat kb) (fun h g => g.1) (hclo_of ?Zc1) rfl ?Zbind ?Zloc ?Zcell rfl rfl rfl (fun h₂ G2 => ?Zbody)
          case Zc1 =>
            intro q hq
            simp only [List.mem_cons, List.not_mem_nil, or_false] at hq
            rcases hq with rfl | rfl
            · exact ⟨by rfl, by rfl⟩
            · exact ⟨by rfl, by rfl⟩
          case Zbind => exact len2 (fun a0 a1 => by kernel_rfl)
          case Zloc =>
            intro x hx
            simp only [List.mem_cons, List.not_mem_nil, or_false] at hx
            rcases hx with rfl | rfl <;> rfl
          case Zcell => decide +kernel
          case Zbody =>
            refine' Ev.bin Rel.kf (St.stab Rel.kf) (a := .int ((dg.getD j.toNat []).getD p 0)) (b := .int ((dg.getD i.toNat []).getD p 0)) ?Zx ?Zy (Op.sub Rel.kf)
            case Zx => wtm_at "g"
            case Zy => wtm_at "g"
end
end
section
variable {X : Addr → Prop}
section
variable {prog : Program} {w : World} {mg mb : Str → Option Value} {k : Nat} {B : Nat} {h₀ : Heap} {ρ : Rho} {fr : Option (List Env)}

theorem law_turns (kb : KB w B) {ns : List Int} (hn : ns.length = 10) (hs : ρ "numbers" = some (dI ns)) :
    Ex1 prog w X (RL B) (GL w mg mb B) ⟨k + 2, fr, true⟩ h₀ (lEnv w h₀.objs.size) ρ (nthSt (bodyAt w 180) 15) (.next (upd ρ "turns" (.list ((List.range 16).map fun j => D.int (turnAt ns j))))) := by
  refine' Ex1.assignM (l := List.range 16) (dc := fun (j : Nat) => D.int (j : Int)) (f := fun (j : Nat) => D.int (turnAt ns j)) (RL.rel B) (GL.stat kb) rfl ?Zw ?Zx ?Zxc ?Zp ?Zso ?Zhf ?Zit (.rng 16 (by decide)) ?Zsz ?Zh
  case Zw => rfl
  case Zx => rfl
  case Zxc => rfl
  case Zp => rfl
  case Zso => exact scopeOk_of (by rfl) (by rfl) (by rfl) (by rfl)
  case Zhf => intro _; rfl
  case Zit => ((refine' Ev.rangeC (by wtm_at "rr") (St.stab (by wtm_at "rr")) ?Zru ?Zrg ?Zrp ?Zra ?Zrn); (case Zrp => (intro _; rfl)); (case Zru => exact fun _ S => S.up); (case Zrg => wtm_at "fn"); (case Zra => wtm_at "g"); (case Zrn => rfl))
  case Zsz => decide
  case Zh =>
    intro h₁ L C G1 hL j hj
    have j16 : j < 16 := by simpa using hj
    have o9 : (ns.map D.int)[((9 : Int)).toNat]? = some (.int (ns.getD 9 0)) := by simp [List.getD, show 9 < ns.length by lia]
    have p2 : (0 : Int) < 2 ^ j := Int.pow_pos (by decide)
    have p3 : (2 : Int) ^ j < 1073741824 := by
      have : (2 : Int) ^ j ≤ 2 ^ 16 := by exact_mod_cast Nat.pow_le_pow_right (by decide) (Nat.le_of_lt j16)
      lia
    refine ⟨upd _ "k" (D.int (j : Int)), upd_ext (by rfl), As.name ?Zst, ?Zev⟩
    case Zst => wtm_at "sto"
    case Zev =>
      refine' Ev.bin (RL.rel B) (St.stab (RL.rel B)) (a := .int (ns.getD 9 0 / 2 ^ j)) (b := .int 2) (Ev.bin (RL.rel B) (St.stab (RL.rel B)) (a := .int (ns.getD 9 0)) (b := .int (2 ^ j)) ?Zu1 (Ev.bin (RL.rel B) (St.stab (RL.rel B)) (a := .int 2) (b := .int (j : Int)) (Ev.int (RL.rel B)) ?Zu2 (Op.pow2 (RL.rel B) (by lia))) (Op.divp (RL.rel B) p2 p3)) (Ev.int (RL.rel B)) (Op.modp (RL.rel B) (by decide))
      case Zu1 => wtm_at "g"
      case Zu2 => wtm_at "g"
theorem law_start (kb : KB w B) :
    Ex1 prog w X (RL B) (GL w mg mb B) ⟨k + 2, fr, true⟩ h₀ (lEnv w h₀.objs.size) ρ (nthSt (bodyAt w 180) 16) (.next (upd ρ "start" (dS start3))) := by
  refine' Ex1.assign (RL.rel B) ?Ze ?Zs ?Zw
  case Zw => rfl
  case Zs => wtm_at "sto"
  case Ze =>
    refine' Ev.of_eq (Ev.tupD (RL.rel B) (St.stab (RL.rel B)) ?Zu ?Za ?Zz) ?Zq
    case Zu => exact fun _ S => S.up
    case Za => wtm_at "g"
    case Zz => wtm_at "size"
    case Zq => rfl
theorem law_asks (kb : KB w B) (hBig : 180 < B) (hB0 : B ≤ h₀.objs.size) {wishes ranks : List (List Int)} {ts : List Int} (hw : ρ "wishes" = some (dR wishes)) (hr : ρ "ranks" = some (dR ranks)) (ht : ρ "turns" = some (dI ts)) (hs : ρ "start" = some (dS start3))
    (ok : AskAll wishes ranks start3 ts) :
    Ex1 prog w X (RL B) (GL w mg mb B) ⟨k + 6, some [lEnv w h₀.objs.size], true⟩ h₀ (lEnv w h₀.objs.size) ρ (nthSt (bodyAt w 180) 17)
      (.next (upd (upd (upd ρ "free" (dI (askRun wishes ranks start3 ts).1)) "tried" (dI (askRun wishes ranks start3 ts).2.1)) "held" (dI (askRun wishes ranks start3 ts).2.2))) := by
  refine' Ex1.assignT (RL.rel B) rfl (d := dS (askRun wishes ranks start3 ts)) ?Ze0 (As.tup (RL.rel B) ?Zn0 ?Zs0 ?Za0) ?Zp0 ?Zq0
  case Zn0 => rfl
  case Zs0 => rfl
  case Zp0 => rfl
  case Zq0 => rfl
  case Za0 =>
    refine' AsL.cons (by rfl) (As.name ?Zb1) (AsL.cons (by rfl) (As.name ?Zb2) (AsL.cons (by rfl) (As.name ?Zb3) AsL.nil))
    case Zb1 => wtm_at "sto"
    case Zb2 => wtm_at "sto"
    case Zb3 => wtm_at "sto"
  case Ze0 =>
    refine' Ev.callLam (clo := [(Str.ofString "wishes", ((lEnv w h₀.objs.size).cells.lookup (Str.ofString "wishes")).getD 0), (Str.ofString "ranks", ((lEnv w h₀.objs.size).cells.lookup (Str.ofString "ranks")).getD 0)]) (fa := 30) (ob := objAt w 30) (fd := fdAt w 30) (ds := [dI ts, dS start3]) kb hBig (by rfl) (by rfl) ?Zw3 (by rfl) (by rfl) ?Zf (by rfl) (fun h G => G.at (by rfl) (by intro h; cases h)) ?Za ?Zc
    case Zw3 => kernel_rfl
    case Zf => wtm_at "fn"
    case Za => wtm_at "g"
    case Zc =>
      intro f ct c'
      refine Ca.mono (ca_reduce3 (B := B) (k := k + 5) (l0 := lEnv w h₀.objs.size) (ls := []) (G := fun h => St X (RL B) (GL w mg mb B) h₀ (lEnv w h₀.objs.size) ρ h ∧ LamAt lawQ _ _ _ _ f ct c' h) (RL.rel B) (fun h g => (St.gh (RL.rel B) (GL.stat kb) g.1).1) (fun h h' kk g => ⟨St.step (RL.rel B) g.1 kk, g.2.kp ((RL.rel B).weak kk)⟩) (fd := fdOf "<lambda>" lawQ _ _ _ _ ct c') rfl (fun h g => g.2.1)
        (Fold.asked (fun s t ok env' => ?Zstep) ts start3 ok)) (fun h S => ⟨⟨S, ?Zff⟩, S.1.up⟩) (Nat.le_refl _) (.inr rfl) (fun z => z)
      case Zff => exact ff_own (RL.rel B) S.1 (by rfl) (by rfl) hB0 (fun e he => by cases he)
      case Zstep =>
        refine Ca.lift (RL.rel B) (Ca.lam (names := ["state", "turn"]) (n := k + 4) (fr := some (env' :: [lEnv w h₀.objs.size])) (cm := true) (RL.rel B) (GL.stat kb) (fun h g => g.1) (hclo_of ?Zc1) rfl ?Zbind ?Zloc ?Zcell rfl rfl rfl (fun h₂ G2 => ?Zbody)) (fun h g => g.1.1) (Nat.le_refl _) (.inr rfl) (fun z => z)
        case Zc1 =>
          intro q hq
          simp only [List.mem_cons, List.not_mem_nil, or_false] at hq
          rcases hq with rfl | rfl
          · exact ⟨by rfl, by rfl⟩
          · exact ⟨by rfl, by rfl⟩
        case Zbind => exact len2 (fun a0 a1 => by kernel_rfl)
        case Zloc =>
          intro x hx
          simp only [List.mem_cons, List.not_mem_nil, or_false] at hx
          rcases hx with rfl | rfl <;> rfl
        case Zcell => decide +kernel
        case Zbody =>
          refine' Ev.callF Rel.kf (St.stab Rel.kf) (fa := 168) (ob := objAt w 168) (fd := fdAt w 168) (as := [dS s, dR wishes, dR ranks, .int t]) ?Zg1 (by rfl) (fun h S => (St.gh Rel.kf Gs.stat S).at (by rfl) (by intro h; cases h)) (fun _ => rfl) ?Zg2 (Ca.lift Rel.kf (ca_asked (k := 0) ok) (fun h S => ⟨St.gh Rel.kf Gs.stat S, S.up⟩) (by show 1 ≤ k + 4; lia) (.inr rfl) (fun z => z))
          case Zg1 => exact Ev.glo Rel.kf Gs.stat (fun _ g => g) (by rfl) (by rfl)
          case Zg2 =>
            refine EvL.cons Rel.kf (St.stab Rel.kf) (fun _ => rfl) ?Zx1 (EvL.cons Rel.kf (St.stab Rel.kf) (fun _ => rfl) ?Zx2 (EvL.cons Rel.kf (St.stab Rel.kf) (fun _ => rfl) ?Zx3 (EvL.cons Rel.kf (St.stab Rel.kf) (fun _ => rfl) ?Zx4 (EvL.nil Rel.kf))))
            case Zx1 => wtm_at "g"
            case Zx2 => wtm_at "g"
            case Zx3 => wtm_at "g"
            case Zx4 => wtm_at "g"
end
end
section
variable {X : Addr → Prop}
section
variable {prog : Program} {w : World} {R : Heap → Heap → Prop} {I : Heap → Prop} {k : Room}
theorem Ca.min (r : Rel R) (hc : k.calm = true := by rfl) {ns : List Int} {m : Int} (hm : m ∈ ns) (hl : ∀ x ∈ ns, m ≤ x) : Ca prog w X R I k (.builtin "min") [.list (ns.map D.int)] (.int m) := .mk fun A s Q E vals o i rs h => by
  obtain ⟨v, rfl, rv⟩ := rs.one
  obtain ⟨a, vs, n, rfl, hls, rl, _⟩ := rv.list_inv
  have hpos : 0 < ns.length := List.length_pos_of_mem hm
  have hlen : vs.length = ns.length := by rw [rl.length]; simp
  refine call_min_walk (wpAny_pyIter_list hls.isList ?_)
  have hlt : a < s.heap.objs.size := Heap.lt_size hls
  have kf := Kf.push s.heap { cls := .type "list_iterator", data := .fields #[.ref a, .int 0 0] }
  have W := Walks.list (prog := prog) (w := w) (A := A.in1) (o.handled hc) s.heap.objs.size a (Nat.ne_of_lt hlt) vs.toArray
  have at_ : ∀ (i : Nat) (v : Value), vs.toArray[i]? = some v → ∃ t, v = .int (ns.getD i 0) t := by
    intro i v e
    have e' : vs[i]? = some v := by simpa using e
    have hi : i < (ns.map D.int).length := by rw [← rl.length]; exact (List.getElem?_eq_some_iff.mp e').1
    have hi' : i < ns.length := by simpa using hi
    obtain ⟨v', e1, rv'⟩ := rl.get (i := i) (d := D.int (ns[i])) (by simp [hi'])
    rw [e'] at e1; cases e1
    cases rv' with | int _ t => exact ⟨t, by simp [List.getD, hi']⟩
  refine ⟨s.heap.objs.size, _, _, _, _, _, _, rfl, W, ⟨⟨_, Heap.get?_push_size _ rfl, rfl, rfl⟩, ⟨_, kf _ _ hls, rfl, _, rfl⟩⟩, ?_, ?_, CmpOf.ints_lt (fun i => ns.getD i 0) at_, ?_⟩
  · intro b hb
    simp at hb
    rcases hb with rfl | rfl
    · show _ < (s.heap.push _).objs.size; rw [Heap.size_push]; exact Nat.lt_succ_self _
    · show _ < (s.heap.push _).objs.size; rw [Heap.size_push]; exact Nat.lt_succ_of_lt hlt
  · simpa [hlen] using hpos
  · intro v h' tk hP mh
    obtain ⟨b1, b2⟩ := argBest_lt (fun i => ns.getD i 0) (vs.toArray.size - 1)
    generalize argBest (fun i j => decide (ns.getD i 0 < ns.getD j 0)) (vs.toArray.size - 1) = q at hP b1 b2
    obtain ⟨t, rfl⟩ := at_ _ _ hP
    have hq : q < ns.length := by
      have : vs.toArray.size = ns.length := by simp [hlen]
      lia
    have e : ns.getD q 0 = m := by
      obtain ⟨j, hj, ej⟩ := List.getElem_of_mem hm
      have h1 := hl (ns.getD q 0) (getD_mem hq)
      have h2 := b2 j (by simp [hlen]; lia)
      simp only [List.getD, List.getElem?_eq_getElem hj, Option.getD_some, ej] at h2
      simp only [List.getD] at h1 ⊢
      lia
    rw [e]
    refine h _ h' tk (r.full fun b o' e' => mh b o' ?_ (kf b o' e')) (.int _ _)
    simp
    exact Nat.ne_of_lt (Heap.lt_size e')
end
section
variable {prog : Program} {w : World} {mg mb : Str → Option Value} {k : Nat} {B : Nat} {h₀ : Heap} {ρ : Rho} {fr : Option (List Env)}

theorem law_if_free (kb : KB w B) (hf : ρ "free" = some (dI [])) :
    Ex1 prog w X (RL B) (GL w mg mb B) ⟨k + 2, fr, true⟩ h₀ (lEnv w h₀.objs.size) ρ (nthSt (bodyAt w 180) 18) (.next ρ) := by
  refine' Ex1.ifs (RL.rel B) (c := false) ?Zt (fun h => by cases h) (fun _ => Ex.nil)
  case Zt =>
    refine' Tr.cmp (X := X) (RL.rel B) (St.stab (RL.rel B)) (a := .list []) (b := .list []) ?Zm ?Za ?Zb (Op.neSelf (RL.rel B) rfl rfl)
    case Zm => with_unfolding_all rfl
    case Za => exact (show Ev _ _ _ _ _ _ _ _ (dI []) by wtm_at "g")
    case Zb => wtm_at "g"
noncomputable abbrev comeL (held : List Int) : List Int := (List.range 4).map fun (j : Nat) => (idx held (j : Int) : Int)
theorem law_come (kb : KB w B) {held : List Int} (hh : ρ "held" = some (dI held)) (hl : held.length = 4) (hm : ∀ j : Nat, j < 4 → (j : Int) ∈ held) :
    Ex1 prog w X (RL B) (GL w mg mb B) ⟨k + 2, fr, true⟩ h₀ (lEnv w h₀.objs.size) ρ (nthSt (bodyAt w 180) 19) (.next (upd ρ "come" (dI (comeL held)))) := by
  refine' Ex1.assign (RL.rel B) ?Ze ?Zs ?Zw
  case Zw => rfl
  case Zs => wtm_at "sto"
  case Ze =>
    refine' Ev.of_eq (Ev.compM (l := List.range 4) (dc := fun (j : Nat) => D.int (j : Int)) (f := fun (j : Nat) => D.int (idx held (j : Int))) (RL.rel B) (GL.stat kb) rfl ?Zso ?Zhf ?Zit (.rng 4 (by decide)) ?Zsz ?Zh) ?Zq
    case Zso => exact scopeOk_of (by rfl) (by rfl) (by rfl) (by rfl)
    case Zhf => intro _; rfl
    case Zit => ((refine' Ev.rangeC (by wtm_at "rr") (St.stab (by wtm_at "rr")) ?Zru ?Zrg ?Zrp ?Zra ?Zrn); (case Zrp => (intro _; rfl)); (case Zru => exact fun _ S => S.up); (case Zrg => wtm_at "fn"); (case Zra => wtm_at "g"); (case Zrn => rfl))
    case Zsz => decide
    case Zq => simp [comeL, Function.comp_def]
    case Zh =>
      intro h₁ L C G1 hL j hj
      have j4 : j < 4 := by simpa using hj
      obtain ⟨i1, i2⟩ := idx_at (hm j j4)
      refine ⟨upd _ "one" (D.int (j : Int)), upd_ext (by rfl), As.name ?Zst, ?Zev⟩
      case Zst => wtm_at "sto"
      case Zev =>
        refine' Ev.indexI (RL.rel B) (St.stab (RL.rel B)) (by rfl) (by rfl) (by rfl) (fun _ => rfl) ?Zv ?Ze i1 i2 (by rw [hl]; decide)
        case Zv => wtm_at "g"
        case Ze => wtm_at "g"
noncomputable abbrev worthRow (ms : List Int) (u : Int) : List Int := (List.range 4).map fun (j : Nat) => 4 * (ms.getD j 0 / u % 8) - (j : Int)
noncomputable abbrev worthL (ms : List Int) : List (List Int) := ([64, 8, 1, 512] : List Int).map (worthRow ms)
theorem law_worth (kb : KB w B) {ms : List Int} (hm : ρ "modes" = some (dI ms)) (hl : ms.length = 4) :
    Ex1 prog w X (RL B) (GL w mg mb B) ⟨k + 2, fr, true⟩ h₀ (lEnv w h₀.objs.size) ρ (nthSt (bodyAt w 180) 20) (.next (upd ρ "worth" (dR (worthL ms)))) := by
  refine' Ex1.assign (RL.rel B) ?Ze ?Zs ?Zw
  case Zw => rfl
  case Zs => wtm_at "sto"
  case Ze =>
    refine' Ev.of_eq (Ev.compM (l := ([64, 8, 1, 512] : List Int)) (dc := D.int) (f := fun u => D.list ((List.range 4).map fun (j : Nat) => D.int (4 * (ms.getD j 0 / u % 8) - (j : Int)))) (RL.rel B) (GL.stat kb) rfl ?Zso ?Zhf ?Zit (.tup _) ?Zsz ?Zh) ?Zq
    case Zso => exact scopeOk_of (by rfl) (by rfl) (by rfl) (by rfl)
    case Zhf => intro _; rfl
    case Zit => exact (show Ev _ _ _ _ _ _ _ _ (D.tup [D.int 64, D.int 8, D.int 1, D.int 512]) by wtm_at "g")
    case Zsz => decide
    case Zq => simp [worthL, worthRow, Function.comp_def]
    case Zh =>
      intro h₁ L C G1 hL u hu
      have up : 0 < u ∧ u < 1073741824 := by simp at hu; lia
      refine ⟨upd _ "unit" (D.int u), upd_ext (by rfl), As.name ?Zst, ?Zev⟩
      case Zst => wtm_at "sto"
      case Zev =>
        refine' Ev.compM (l := List.range 4) (dc := fun (j : Nat) => D.int (j : Int)) (f := fun (j : Nat) => D.int (4 * (ms.getD j 0 / u % 8) - (j : Int))) (RL.rel B) (GL.stat kb) rfl ?Zso2 ?Zhf2 ?Zit2 (.rng 4 (by decide)) ?Zsz2 ?Zh2
        case Zso2 => exact scopeOk_of (by rfl) (by rfl) (by rfl) (by rfl)
        case Zhf2 => intro _; rfl
        case Zit2 => ((refine' Ev.rangeC (by wtm_at "rr") (St.stab (by wtm_at "rr")) ?Zru ?Zrg ?Zrp ?Zra ?Zrn); (case Zrp => (intro _; rfl)); (case Zru => exact fun _ S => S.up); (case Zrg => wtm_at "fn"); (case Zra => wtm_at "g"); (case Zrn => rfl))
        case Zsz2 => decide
        case Zh2 =>
          intro h₂ L2 C2 G2 hL2 j hj
          have j4 : j < 4 := by simpa using hj
          have oj : (ms.map D.int)[((j : Int)).toNat]? = some (.int (ms.getD j 0)) := by simp [List.getD, show j < ms.length by lia]
          refine ⟨upd _ "one" (D.int (j : Int)), upd_ext (by rfl), As.name ?Zst2, ?Zev2⟩
          case Zst2 => wtm_at "sto"
          case Zev2 =>
            refine' Ev.bin (RL.rel B) (St.stab (RL.rel B)) (a := .int (4 * (ms.getD j 0 / u % 8))) (b := .int (j : Int)) (Ev.bin (RL.rel B) (St.stab (RL.rel B)) (a := .int 4) (b := .int (ms.getD j 0 / u % 8)) (Ev.int (RL.rel B)) (Ev.bin (RL.rel B) (St.stab (RL.rel B)) (a := .int (ms.getD j 0 / u)) (b := .int 8) (Ev.bin (RL.rel B) (St.stab (RL.rel B)) (a := .int (ms.getD j 0)) (b := .int u) ?Zu1 ?Zu2 (Op.divp (RL.rel B) up.1 up.2)) (Ev.int (RL.rel B)) (Op.modp (RL.rel B) (by decide))) ?Zom) ?Zu3 (Op.sub (RL.rel B))
            case Zu1 => wtm_at "g"
            case Zu2 => wtm_at "g"
            case Zu3 => wtm_at "g"
            case Zom => exact Op.mul (RL.rel B) (IntMulOk.of_left (by decide +kernel))
end
end
section
variable {X : Addr → Prop}
section
variable {prog : Program} {w : World} {R : Heap → Heap → Prop} {G : Heap → Prop} {k : Room} {h₀ : Heap} {env : Env} {ρ ρ' : Rho}
-- a comprehension of three clauses
theorem Ex1.assign3 (r : Rel R) (hG : Static R G) (hca : k.calm = true) {x : Str} {ap cpos : Pos} {elt t1 i1 t2 i2 t3 i3 : Expr} {ifs2 ifs3 : List Expr} {scope : Scope} {pos : Pos} {cl : List (Str × Addr)} {d : D} {α β γ : Type} {l : List α} {dc : α → D} {m : α → List β} {dc' : β → D} {p : α → β → Bool}
    {m3 : α → β → List γ} {dc3 : γ → D} {p3 : α → β → γ → Bool} {f : α → β → γ → D}
    (hw : swapsWith (.ListComp elt [⟨t1, i1, [], 0⟩, ⟨t2, i2, ifs2, 0⟩, ⟨t3, i3, ifs3, 0⟩] scope cpos) (some (.Name x ap)) pos.line env = pure true)
    (hx : env.kindOf x = some .local) (hxc : env.cells.lookup x = none) (hp : (env.scope.kind == .class || (env.scope.kind == .module && env.locals != env.globals)) = false)
    (so : ScopeOk scope cl env) (hf : ∀ x, foldedSetIterable i1 env x = pure x) (he : Ev prog w X R (St X R G h₀ env ρ) k env i1 d) (go : Goes d (l.map dc)) (hsz : (l.flatMap fun a => ((m a).filter (p a)).flatMap fun b => ((m3 a b).filter (p3 a b)).map (f a b)).length ≤ sizeLine)
    (h : ∀ h₁ L C, G h₁ → (h₁.objs.size ≤ L ∧ h₁.objs.size ≤ C) → (∀ x, foldedSetIterable i2 (compEnv scope cl C env) x = pure x) ∧ (∀ x, foldedSetIterable i3 (compEnv scope cl C env) x = pure x) ∧ ∀ a ∈ l, ∃ ρ₁, Ext (rhoC scope ρ) ρ₁ ∧ As prog w (Less X L) R G h₁ (compEnv scope cl C env) (rhoC scope ρ) t1 (dc a) ρ₁ ∧
      ∃ d', Ev prog w (Less X L) R (St (Less X L) R G h₁ (compEnv scope cl C env) ρ₁) k (compEnv scope cl C env) i2 d' ∧ Goes d' ((m a).map dc') ∧ ∀ b ∈ m a, ∃ ρ₂, Ext ρ₁ ρ₂ ∧ As prog w (Less X L) R G h₁ (compEnv scope cl C env) ρ₁ t2 (dc' b) ρ₂ ∧
        Ts prog w (Less X L) R G k h₁ (compEnv scope cl C env) ρ₂ ifs2 (p a b) ∧ (p a b = true → ∃ d3, Ev prog w (Less X L) R (St (Less X L) R G h₁ (compEnv scope cl C env) ρ₂) k (compEnv scope cl C env) i3 d3 ∧ Goes d3 ((m3 a b).map dc3) ∧
          ∀ c ∈ m3 a b, ∃ ρ₃, Ext ρ₂ ρ₃ ∧ As prog w (Less X L) R G h₁ (compEnv scope cl C env) ρ₂ t3 (dc3 c) ρ₃ ∧ Ts prog w (Less X L) R G k h₁ (compEnv scope cl C env) ρ₃ ifs3 (p3 a b c) ∧
            (p3 a b c = true → Ev prog w (Less X L) R (St (Less X L) R G h₁ (compEnv scope cl C env) ρ₃) k (compEnv scope cl C env) elt (f a b c)))) :
    Ex1 prog w X R G k h₀ env ρ (.Assign [.Name x ap] (.ListComp elt [⟨t1, i1, [], 0⟩, ⟨t2, i2, ifs2, 0⟩, ⟨t3, i3, ifs3, 0⟩] scope cpos) pos) (.next (upd ρ x (.list (l.flatMap fun a => ((m a).filter (p a)).flatMap fun b => ((m3 a b).filter (p3 a b)).map (f a b))))) :=
  Ex1.assignC r hG hca hw hx hxc hp so hf he go hsz (fun g hg => by simp at hg; rcases hg with rfl | rfl <;> rfl) fun h₁ L C G1 lt => by
    obtain ⟨hf2, hf3, h⟩ := h h₁ L C G1 lt
    refine ⟨rhoC scope ρ, ?_⟩
    have := Cl.nest (prog := prog) (w := w) (X := Less X L) (R := R) (G := G) (k := k) (h₀ := h₁) (env := compEnv scope cl C env) (ρ := rhoC scope ρ) (elt := elt) (gens := [⟨t1, i1, [], 0⟩, ⟨t2, i2, ifs2, 0⟩, ⟨t3, i3, ifs3, 0⟩]) (dep := 0) (g := ⟨t1, i1, [], 0⟩) (g' := ⟨t2, i2, ifs2, 0⟩) rfl rfl hf2 dc (fun _ => true)
      (fun a => ((m a).filter (p a)).flatMap fun b => ((m3 a b).filter (p3 a b)).map (f a b)) l [] (rhoC scope ρ) [] (Ext.refl _) (fun a ha => by
        obtain ⟨ρ₁, e1, as, d', ev, go', hb⟩ := h a ha
        refine ⟨ρ₁, e1, as, Ts.nil r, fun _ => ⟨d', (m a).map dc', ρ₁, e1, ev, go', fun acc => ?_⟩⟩
        have := Cl.nest (prog := prog) (w := w) (X := Less X L) (R := R) (G := G) (k := k) (h₀ := h₁) (env := compEnv scope cl C env) (ρ := ρ₁) (elt := elt) (gens := [⟨t1, i1, [], 0⟩, ⟨t2, i2, ifs2, 0⟩, ⟨t3, i3, ifs3, 0⟩]) (dep := 1) (g := ⟨t2, i2, ifs2, 0⟩) (g' := ⟨t3, i3, ifs3, 0⟩) rfl rfl hf3 dc' (p a)
          (fun b => ((m3 a b).filter (p3 a b)).map (f a b)) (m a) [] ρ₁ acc (Ext.refl _) (fun b hbm => by
            obtain ⟨ρ₂, e2, as2, ts2, nx⟩ := hb b hbm
            refine ⟨ρ₂, e2, as2, ts2, fun pb => ?_⟩
            obtain ⟨d3, ev3, go3, hc⟩ := nx pb
            refine ⟨d3, _, ρ₂, e2, ev3, go3, fun acc => ?_⟩
            have := Cl.last (prog := prog) (w := w) (X := Less X L) (R := R) (G := G) (k := k) (h₀ := h₁) (env := compEnv scope cl C env) (ρ := ρ₂) (elt := elt) (gens := [⟨t1, i1, [], 0⟩, ⟨t2, i2, ifs2, 0⟩, ⟨t3, i3, ifs3, 0⟩]) (dep := 2) (g := ⟨t3, i3, ifs3, 0⟩) rfl rfl dc3 (p3 a b) (f a b) (m3 a b) [] ρ₂ acc (Ext.refl _) hc
            simpa using this)
        simpa using this)
    simp only [List.nil_append, List.length_nil] at this
    rw [List.filter_eq_self.mpr (fun _ _ => rfl)] at this
    exact this
theorem Ex1.of_eq {s : Stmt} {x : Str} {d d' : D} (h : Ex1 prog w X R G k h₀ env ρ s (.next (upd ρ x d))) (e : d = d') : Ex1 prog w X R G k h₀ env ρ s (.next (upd ρ x d')) := e ▸ h
-- a comprehension of one clause with conditions, bound to a local name on its own line
theorem Ex1.assign1 (r : Rel R) (hG : Static R G) (hca : k.calm = true) {x : Str} {p pos cpos : Pos} {elt target iter : Expr} {ifs : List Expr} {scope : Scope} {cl : List (Str × Addr)} {d : D} {α : Type} {l : List α} {dc : α → D} {q : α → Bool} {f : α → D}
    (hw : swapsWith (.ListComp elt [⟨target, iter, ifs, 0⟩] scope cpos) (some (.Name x p)) pos.line env = pure true)
    (hx : env.kindOf x = some .local) (hxc : env.cells.lookup x = none) (hp : (env.scope.kind == .class || (env.scope.kind == .module && env.locals != env.globals)) = false)
    (so : ScopeOk scope cl env) (hf : ∀ x, foldedSetIterable iter env x = pure x) (he : Ev prog w X R (St X R G h₀ env ρ) k env iter d) (go : Goes d (l.map dc)) (hsz : l.length ≤ sizeLine)
    (h : ∀ h₁ L C, G h₁ → (h₁.objs.size ≤ L ∧ h₁.objs.size ≤ C) → ∀ a ∈ l, ∃ ρ₁, Ext (rhoC scope ρ) ρ₁ ∧ As prog w (Less X L) R G h₁ (compEnv scope cl C env) (rhoC scope ρ) target (dc a) ρ₁ ∧ Ts prog w (Less X L) R G k h₁ (compEnv scope cl C env) ρ₁ ifs (q a) ∧
      (q a = true → Ev prog w (Less X L) R (St (Less X L) R G h₁ (compEnv scope cl C env) ρ₁) k (compEnv scope cl C env) elt (f a))) :
    Ex1 prog w X R G k h₀ env ρ (.Assign [.Name x p] (.ListComp elt [⟨target, iter, ifs, 0⟩] scope cpos) pos) (.next (upd ρ x (.list ((l.filter q).map f)))) :=
  Ex1.assignC r hG hca hw hx hxc hp so hf he go (by rw [List.length_map]; exact Nat.le_trans (List.length_filter_le ..) hsz) (fun _ h => nomatch h) fun h₁ L C G lt =>
    ⟨_, by simpa using Cl.last (g := ⟨target, iter, ifs, 0⟩) (gens := [⟨target, iter, ifs, 0⟩]) (dep := 0) rfl rfl dc q f l [] (rhoC scope ρ) [] (Ext.refl _) (h h₁ L C G lt)⟩
end
section
variable {prog : Program} {w : World} {mg mb : Str → Option Value} {k : Nat} {B : Nat} {h₀ : Heap} {ρ : Rho} {fr : Option (List Env)}

noncomputable def waysL : List (List Int) :=
  [[0, 1, 2, 3], [0, 1, 3, 2], [0, 2, 1, 3], [0, 2, 3, 1], [0, 3, 1, 2], [0, 3, 2, 1], [1, 0, 2, 3], [1, 0, 3, 2], [1, 2, 0, 3], [1, 2, 3, 0], [1, 3, 0, 2], [1, 3, 2, 0],
   [2, 0, 1, 3], [2, 0, 3, 1], [2, 1, 0, 3], [2, 1, 3, 0], [2, 3, 0, 1], [2, 3, 1, 0], [3, 0, 1, 2], [3, 0, 2, 1], [3, 1, 0, 2], [3, 1, 2, 0], [3, 2, 0, 1], [3, 2, 1, 0]]
noncomputable def ways3 : List (List Int) := (List.range 4).flatMap fun (a : Nat) => ((List.range 4).filter fun (b : Nat) => (b : Int) != (a : Int)).flatMap fun (b : Nat) => ((List.range 4).filter fun (c : Nat) => !(((a : Int) == (c : Int)) || ((b : Int) == (c : Int)))).map fun (c : Nat) => [(a : Int), (b : Int), (c : Int), 6 - (a : Int) - (b : Int) - (c : Int)]
theorem ways_eq : ways3 = waysL := by decide +kernel
theorem law_ways (kb : KB w B) :
    Ex1 prog w X (RL B) (GL w mg mb B) ⟨k + 2, fr, true⟩ h₀ (lEnv w h₀.objs.size) ρ (nthSt (bodyAt w 180) 21) (.next (upd ρ "ways" (dR waysL))) := by
  refine' Ex1.of_eq (Ex1.assign3 (l := List.range 4) (dc := fun (a : Nat) => D.int (a : Int)) (m := fun _ => List.range 4) (dc' := fun (b : Nat) => D.int (b : Int)) (p := fun a b => (b : Int) != (a : Int)) (m3 := fun _ _ => List.range 4) (dc3 := fun (c : Nat) => D.int (c : Int))
      (p3 := fun a b c => !(((a : Int) == (c : Int)) || ((b : Int) == (c : Int)))) (f := fun a b c => dI [(a : Int), (b : Int), (c : Int), 6 - (a : Int) - (b : Int) - (c : Int)]) (RL.rel B) (GL.stat kb) rfl ?Zw ?Zx ?Zxc ?Zp ?Zso ?Zhf ?Zit (.rng 4 (by decide)) ?Zsz ?Zh) ?Zq
  case Zw => rfl
  case Zx => rfl
  case Zxc => rfl
  case Zp => rfl
  case Zso => exact scopeOk_of (by rfl) (by rfl) (by rfl) (by rfl)
  case Zhf => intro _; rfl
  case Zit => ((refine' Ev.rangeC (by wtm_at "rr") (St.stab (by wtm_at "rr")) ?Zru ?Zrg ?Zrp ?Zra ?Zrn); (case Zrp => (intro _; rfl)); (case Zru => exact fun _ S => S.up); (case Zrg => wtm_at "fn"); (case Zra => wtm_at "g"); (case Zrn => rfl))
  case Zsz =>
    refine Nat.le_trans (m := 24) ?_ (by decide)
    simp only [List.length_flatMap, List.length_map]
    decide +kernel
  case Zq =>
    rw [← ways_eq]
    simp only [ways3, dR, List.map_flatMap, List.map_map]
    rfl
  case Zh =>
    intro h₁ L C G1 hL
    refine ⟨fun _ => rfl, fun _ => rfl, fun a ha => ⟨upd _ "a" (D.int (a : Int)), upd_ext (by rfl), As.name ?Zst1, _, ?Zev1, .rng 4 (by decide), fun b hb => ⟨upd _ "b" (D.int (b : Int)), upd_ext (by rfl), As.name ?Zst2, Ts.one ?Zt2, fun _ => ⟨_, ?Zev2, .rng 4 (by decide), fun c hc => ⟨upd _ "c" (D.int (c : Int)), upd_ext (by rfl), As.name ?Zst3, Ts.one ?Zt3, fun _ => ?Zev3⟩⟩⟩⟩⟩
    case Zst1 => wtm_at "sto"
    case Zst2 => wtm_at "sto"
    case Zst3 => wtm_at "sto"
    case Zev1 => ((refine' Ev.rangeC (by wtm_at "rr") (St.stab (by wtm_at "rr")) ?Zru ?Zrg ?Zrp ?Zra ?Zrn); (case Zrp => (intro _; rfl)); (case Zru => exact fun _ S => S.up); (case Zrg => wtm_at "fn"); (case Zra => wtm_at "g"); (case Zrn => rfl))
    case Zev2 => ((refine' Ev.rangeC (by wtm_at "rr") (St.stab (by wtm_at "rr")) ?Zru ?Zrg ?Zrp ?Zra ?Zrn); (case Zrp => (intro _; rfl)); (case Zru => exact fun _ S => S.up); (case Zrg => wtm_at "fn"); (case Zra => wtm_at "g"); (case Zrn => rfl))
    case Zev3 => exact (show Ev _ _ _ _ _ _ _ _ (.list [.int (a : Int), .int (b : Int), .int (c : Int), .int (6 - (a : Int) - (b : Int) - (c : Int))]) by wtm_at "g")
    case Zt2 =>
      refine' Tr.cmp (X := Less X L) (RL.rel B) (St.stab (RL.rel B)) (a := .int (b : Int)) (b := .int (a : Int)) ?Zm ?Zx ?Zy (Op.neI (RL.rel B))
      case Zm => with_unfolding_all rfl
      case Zx => wtm_at "g"
      case Zy => wtm_at "g"
    case Zt3 =>
      refine' Tr.cmp (X := Less X L) (RL.rel B) (St.stab (RL.rel B)) (a := .int (c : Int)) (b := .tup [.int (a : Int), .int (b : Int)]) ?Zm ?Zx ?Zy (Op.of_eq (Op.notInT (RL.rel B) rfl rfl rfl rfl (by simp [D.py, PyData.depth])) ?Zq)
      case Zm => with_unfolding_all rfl
      case Zx => wtm_at "g"
      case Zy => wtm_at "g"
      case Zq => simp [D.pys, D.py, PyData.eqv]
noncomputable abbrev stableL (ways wishes worth : List (List Int)) : List (List Int) := ways.filter fun way => stableB way wishes worth
theorem law_stable (kb : KB w B) {ways wishes worth : List (List Int)} (h1 : ρ "ways" = some (dR ways)) (h2 : ρ "wishes" = some (dR wishes)) (h3 : ρ "worth" = some (dR worth)) (hl : ways.length ≤ 24) (ok : ∀ way ∈ ways, StableOk way wishes worth) :
    Ex1 prog w X (RL B) (GL w mg mb B) ⟨k + 2, fr, true⟩ h₀ (lEnv w h₀.objs.size) ρ (nthSt (bodyAt w 180) 22) (.next (upd ρ "stable" (dR (stableL ways wishes worth)))) := by
  refine' Ex1.assign1 (l := ways) (dc := dI) (q := fun way => stableB way wishes worth) (f := dI) (RL.rel B) (GL.stat kb) rfl ?Zw ?Zx ?Zxc ?Zp ?Zso ?Zhf ?Zit (.list _) ?Zsz ?Zh
  case Zw => rfl
  case Zx => rfl
  case Zxc => rfl
  case Zp => rfl
  case Zso => exact scopeOk_of (by rfl) (by rfl) (by rfl) (by rfl)
  case Zhf => intro _; rfl
  case Zit => wtm_at "g"
  case Zsz => simp only [sizeLine]; lia
  case Zh =>
    intro h₁ L C G1 hL way hway
    refine ⟨upd _ "way" (dI way), upd_ext (by rfl), As.name ?Zst, Ts.one (Tr.val (X := Less X L) (fun _ => rfl) ?Zev), fun _ => ?Zev2⟩
    case Zst => wtm_at "sto"
    case Zev2 => wtm_at "g"
    case Zev =>
      refine' Ev.callG kb (fa := 175) ?Zf1 (by rfl) (by rfl) (by intro h; cases h) (fun _ => rfl) ?Za1 (ca_stable (k := 0) (ok way hway)) (by show 1 ≤ k + 2; lia)
      case Zf1 => wtm_at "fn"
      case Za1 => wtm_at "g"
end
end
section
variable {X : Addr → Prop}
theorem rows_pures : ∀ l : List (List Int), D.pures (l.map dI) = true
  | [] => rfl
  | a :: l => by simp [D.pures, D.pure, pures_ints, rows_pures l]
theorem rows_lay : ∀ l : List (List Int), PyData.canLayAll0 (D.pys (l.map dI)) = true
  | [] => rfl
  | a :: l => by simp [D.pys, D.py, PyData.canLayAll0, PyData.canLay0, pys_ints, ints_lay, rows_lay l]
theorem rows_any (a : List Int) : ∀ l : List (List Int), ((D.pys (l.map dI)).any fun y => PyData.eqv y (D.py (dI a))) = decide (a ∈ l)
  | [] => by simp [D.pys]
  | b :: l => by
    have := rows_any a l
    simp only [List.map_cons, D.pys, List.any_cons, this]
    simp [D.py, pys_ints, PyData.eqv, ints_eqv, eq_comm]
-- the places of the wishes
noncomputable abbrev placeOf (wishes : List (List Int)) (way : List Int) (j : Nat) : Int := (idx (wishes.getD j []) (way.getD j 0) : Int)
noncomputable abbrev behindRow (wishes : List (List Int)) (way : List Int) : List Int := ([3, 2, 1, 0] : List Nat).map (placeOf wishes way)
structure WayOk (wishes : List (List Int)) (way : List Int) : Prop where
  l4 : way.length = 4
  has : ∀ j : Nat, j < 4 → way.getD j 0 ∈ wishes.getD j []
section
variable {prog : Program} {w : World} {mg mb : Str → Option Value} {k : Nat} {B : Nat} {h₀ : Heap} {ρ : Rho} {fr : Option (List Env)}

theorem law_if_come (kb : KB w B) {wishes stable : List (List Int)} {come : List Int} (h1 : ρ "come" = some (dI come)) (h2 : ρ "stable" = some (dR stable)) (h3 : ρ "wishes" = some (dR wishes)) (hw : wishes.length = 4) (hr : ∀ j : Nat, j < 4 → (wishes.getD j []).length = 4) (hc : WayOk wishes come) (hs : ∀ way ∈ stable, WayOk wishes way)
    (hm : come ∈ stable) (opt : ∀ way ∈ stable, ∀ j : Nat, j < 4 → placeOf wishes come j ≤ placeOf wishes way j) :
    Ex1 prog w X (RL B) (GL w mg mb B) ⟨k + 2, fr, true⟩ h₀ (lEnv w h₀.objs.size) ρ (nthSt (bodyAt w 180) 23) (.next ρ) := by
  refine' Ex1.ifs (RL.rel B) (c := (false || false)) ?Zt (fun h => by cases h) (fun _ => Ex.nil)
  case Zt =>
    refine' Tr.or2 (RL.rel B) (St.stab (RL.rel B)) ?Zt1 (fun _ => ?Zt2)
    case Zt1 =>
      refine' Tr.cmp (X := X) (RL.rel B) (St.stab (RL.rel B)) (a := dI come) (b := dR stable) ?Zm ?Za ?Zb (Op.of_eq (Op.notInL (RL.rel B) ?Zq1 (rows_pures stable) ?Zq2 (rows_lay stable) ?Zq3) ?Zq4)
      case Zm => with_unfolding_all rfl
      case Za => wtm_at "g"
      case Zb => wtm_at "g"
      case Zq1 => simp [D.pure, pures_ints]
      case Zq2 => simp [D.py, pys_ints, PyData.canLay0, ints_lay]
      case Zq3 => simp [D.py, pys_ints, PyData.depth, ints_depth]
      case Zq4 => rw [rows_any, decide_eq_true hm]; rfl
    case Zt2 =>
      refine' Tr.cmp (X := X) (RL.rel B) (St.stab (RL.rel B)) (a := .list []) (b := .list []) ?Zm2 ?Za2 ?Zb2 (Op.neSelf (RL.rel B) rfl rfl)
      case Zm2 => with_unfolding_all rfl
      case Zb2 => wtm_at "g"
      case Za2 =>
        have emp : (stable.flatMap fun way => ((List.range 4).filter fun (j : Nat) => decide (placeOf wishes way j < placeOf wishes come j)).map fun _ => dI way) = [] := by
          rw [List.flatMap_eq_nil_iff]
          intro way hway
          rw [List.map_eq_nil_iff, List.filter_eq_nil_iff]
          intro j hj
          have := opt way hway j (by simpa using hj)
          simp only [decide_eq_true_eq]
          lia
        refine' Ev.of_eq (Ev.comp2 (l := stable) (dc := dI) (m := fun _ => List.range 4) (dc' := fun (j : Nat) => D.int (j : Int)) (p := fun way j => decide (placeOf wishes way j < placeOf wishes come j)) (f := fun way _ => dI way) (RL.rel B) (GL.stat kb) rfl ?Zso ?Zhf ?Zit (.list _) ?Zsz ?Zh) (congrArg D.list emp)
        case Zso => exact scopeOk_of (by rfl) (by rfl) (by rfl) (by rfl)
        case Zhf => intro _; rfl
        case Zit => wtm_at "g"
        case Zsz => rw [emp]; decide
        case Zh =>
          intro h₁ L C G1 hL
          refine ⟨fun _ => rfl, fun way hway => ⟨upd _ "way" (dI way), upd_ext (by rfl), As.name ?Zst, _, ?Zev, .rng 4 (by decide), fun j hj => ⟨upd _ "one" (D.int (j : Int)), upd_ext (by rfl), As.name ?Zst2, Ts.one ?Ztr, fun _ => ?Zev2⟩⟩⟩
          case Zst => wtm_at "sto"
          case Zst2 => wtm_at "sto"
          case Zev => ((refine' Ev.rangeC (by wtm_at "rr") (St.stab (by wtm_at "rr")) ?Zru ?Zrg ?Zrp ?Zra ?Zrn); (case Zrp => (intro _; rfl)); (case Zru => exact fun _ S => S.up); (case Zrg => wtm_at "fn"); (case Zra => wtm_at "g"); (case Zrn => rfl))
          case Zev2 => wtm_at "g"
          case Ztr =>
            have j4 : j < 4 := by simpa using hj
            have hj1 := hr j j4
            obtain ⟨i1, i2⟩ := idx_at ((hs way hway).has j j4)
            obtain ⟨i3, i4⟩ := idx_at (hc.has j j4)
            have wl := (hs way hway).l4
            have cl := hc.l4
            have e1 : (wishes.map dI)[((j : Int)).toNat]? = some (dI (wishes.getD j [])) := by simp [List.getD, show j < wishes.length by lia]
            have e2 : (way.map D.int)[((j : Int)).toNat]? = some (.int (way.getD j 0)) := by simp [List.getD, show j < way.length by lia]
            have e3 : (come.map D.int)[((j : Int)).toNat]? = some (.int (come.getD j 0)) := by simp [List.getD, show j < come.length by lia]
            refine' Tr.cmp (X := Less X L) (RL.rel B) (St.stab (RL.rel B)) (a := .int (placeOf wishes way j)) (b := .int (placeOf wishes come j)) ?Zm3 ?Zx ?Zy (Op.ltI (RL.rel B))
            case Zm3 => with_unfolding_all rfl
            case Zx =>
              refine' Ev.indexI (l := wishes.getD j []) (a := way.getD j 0) (RL.rel B) (St.stab (RL.rel B)) (by rfl) (by rfl) (by rfl) (fun _ => rfl) ?Zv ?Ze i1 i2 (by rw [hj1]; decide)
              case Zv => wtm_at "g"
              case Ze => wtm_at "g"
            case Zy =>
              refine' Ev.indexI (l := wishes.getD j []) (a := come.getD j 0) (RL.rel B) (St.stab (RL.rel B)) (by rfl) (by rfl) (by rfl) (fun _ => rfl) ?Zv2 ?Ze2 i3 i4 (by rw [hj1]; decide)
              case Zv2 => wtm_at "g"
              case Ze2 => wtm_at "g"
theorem law_behind (kb : KB w B) {wishes stable : List (List Int)} (h2 : ρ "stable" = some (dR stable)) (h3 : ρ "wishes" = some (dR wishes)) (hw : wishes.length = 4) (hr : ∀ j : Nat, j < 4 → (wishes.getD j []).length = 4) (hs : ∀ way ∈ stable, WayOk wishes way) (hl : stable.length ≤ 24) :
    Ex1 prog w X (RL B) (GL w mg mb B) ⟨k + 2, fr, true⟩ h₀ (lEnv w h₀.objs.size) ρ (nthSt (bodyAt w 180) 24) (.next (upd ρ "behind" (dR (stable.map (behindRow wishes))))) := by
  refine' Ex1.of_eq (Ex1.assignM (l := stable) (dc := dI) (f := fun way => D.list (([3, 2, 1, 0] : List Nat).map fun j => D.int (placeOf wishes way j))) (RL.rel B) (GL.stat kb) rfl ?Zw ?Zx ?Zxc ?Zp ?Zso ?Zhf ?Zit (.list _) ?Zsz ?Zh) ?Zq
  case Zw => rfl
  case Zx => rfl
  case Zxc => rfl
  case Zp => rfl
  case Zso => exact scopeOk_of (by rfl) (by rfl) (by rfl) (by rfl)
  case Zhf => intro _; rfl
  case Zit => wtm_at "g"
  case Zsz => simp only [sizeLine]; lia
  case Zq => simp only [dR, List.map_map]; rfl
  case Zh =>
    intro h₁ L C G1 hL way hway
    refine ⟨upd _ "way" (dI way), upd_ext (by rfl), As.name ?Zst, ?Zev⟩
    case Zst => wtm_at "sto"
    case Zev =>
      refine' Ev.compM (l := ([3, 2, 1, 0] : List Nat)) (dc := fun (j : Nat) => D.int (j : Int)) (f := fun j => D.int (placeOf wishes way j)) (RL.rel B) (GL.stat kb) rfl ?Zso2 ?Zhf2 ?Zit2 (.tup _) ?Zsz2 ?Zh2
      case Zso2 => exact scopeOk_of (by rfl) (by rfl) (by rfl) (by rfl)
      case Zhf2 => intro _; rfl
      case Zit2 => exact (show Ev _ _ _ _ _ _ _ _ (D.tup [D.int 3, D.int 2, D.int 1, D.int 0]) by wtm_at "g")
      case Zsz2 => decide
      case Zh2 =>
        intro h₂ L2 C2 G2 hL2 j hj
        have j4 : j < 4 := by simp at hj; lia
        have hj1 := hr j j4
        obtain ⟨i1, i2⟩ := idx_at ((hs way hway).has j j4)
        have wl := (hs way hway).l4
        have e1 : (wishes.map dI)[((j : Int)).toNat]? = some (dI (wishes.getD j [])) := by simp [List.getD, show j < wishes.length by lia]
        have e2 : (way.map D.int)[((j : Int)).toNat]? = some (.int (way.getD j 0)) := by simp [List.getD, show j < way.length by lia]
        refine ⟨upd _ "one" (D.int (j : Int)), upd_ext (by rfl), As.name ?Zst2, ?Zev2⟩
        case Zst2 => wtm_at "sto"
        case Zev2 =>
          refine' Ev.indexI (l := wishes.getD j []) (a := way.getD j 0) (RL.rel B) (St.stab (RL.rel B)) (by rfl) (by rfl) (by rfl) (fun _ => rfl) ?Zv ?Ze i1 i2 (by rw [hj1]; decide)
          case Zv => wtm_at "g"
          case Ze => wtm_at "g"
end
end
section
variable {X : Addr → Prop}
theorem Fold.adds {C : D → D → D → Prop} (h : ∀ x y : Int, C (.int x) (.int y) (.int (x + y))) (a b c d : Int) : Fold C (.int a) [.int b, .int c, .int d] (.int (a + b + c + d)) := .cons (h _ _) (.cons (h _ _) (.cons (h _ _) .nil))
section
variable {prog : Program} {w : World} {mg mb : Str → Option Value} {k : Nat} {B : Nat} {h₀ : Heap} {ρ : Rho} {fr : Option (List Env)}

theorem law_return (kb : KB w B) (hBig : 180 < B) (hB0 : B ≤ h₀.objs.size) {wishes behind : List (List Int)} {come : List Int} {m : Int} (h1 : ρ "come" = some (dI come)) (h3 : ρ "wishes" = some (dR wishes)) (h4 : ρ "behind" = some (dR behind)) (hw : wishes.length = 4) (hr : ∀ j : Nat, j < 4 → (wishes.getD j []).length = 4) (hc : WayOk wishes come) (hl : behind.length ≤ 24)
    (hm : m ∈ behind.map List.sum) (hle : ∀ x ∈ behind.map List.sum, m ≤ x) (he : placeOf wishes come 3 + placeOf wishes come 2 + placeOf wishes come 1 + placeOf wishes come 0 = m) :
    Ex1 prog w X (RL B) (GL w mg mb B) ⟨k + 6, some [lEnv w h₀.objs.size], true⟩ h₀ (lEnv w h₀.objs.size) ρ (nthSt (bodyAt w 180) 25) (.ret (.bool true)) := by
  refine' Ex1.ret (RL.rel B) (Ev.cmp (RL.rel B) (St.stab (RL.rel B)) (a := .int (placeOf wishes come 3 + placeOf wishes come 2 + placeOf wishes come 1 + placeOf wishes come 0)) (b := .int m) ?Zm ?Za ?Zb (Op.of_eq (Op.eqI (RL.rel B)) (by rw [he]; simp)))
  case Zm => with_unfolding_all rfl
  case Zb =>
    refine' Ev.callB (RL.rel B) (St.stab (RL.rel B)) (id := "min") ?Zf1 (fun _ => rfl) (by intro _; rfl) (as := [dI (behind.map List.sum)]) ?Za1 (Ca.min (RL.rel B) rfl hm hle)
    case Zf1 => wtm_at "fn"
    case Za1 =>
      refine' EvL.cons (RL.rel B) (St.stab (RL.rel B)) (fun _ => rfl) (Ev.of_eq (Ev.compM (l := behind) (dc := dI) (f := fun row => D.int row.sum) (RL.rel B) (GL.stat kb) rfl ?Zso ?Zhf ?Zit (.list _) ?Zsz ?Zh) ?Zq) (EvL.nil (RL.rel B))
      case Zso => exact scopeOk_of (by rfl) (by rfl) (by rfl) (by rfl)
      case Zhf => intro _; rfl
      case Zit => wtm_at "g"
      case Zsz => simp only [sizeLine]; lia
      case Zq => simp only [dI, List.map_map]; rfl
      case Zh =>
        intro h₁ L C G1 hL row hrow
        refine ⟨upd _ "row" (dI row), upd_ext (by rfl), As.name ?Zst, ?Zev⟩
        case Zst => wtm_at "sto"
        case Zev =>
          refine' Ev.callB (RL.rel B) (St.stab (RL.rel B)) (id := "sum") ?Zf2 (fun _ => rfl) (by intro _; rfl) (as := [dI row]) ?Za2 (Ca.sum (RL.rel B))
          case Zf2 => wtm_at "fn"
          case Za2 => wtm_at "g"
  case Za =>
    refine' Ev.callLam (clo := []) (fa := 30) (ob := objAt w 30) (fd := fdAt w 30) (ds := [.list [.int (placeOf wishes come 3), .int (placeOf wishes come 2), .int (placeOf wishes come 1), .int (placeOf wishes come 0)]]) kb hBig (by rfl) (by rfl) ?Zw3 (by rfl) (by rfl) ?Zf3 (by rfl) (fun h G => G.at (by rfl) (by intro h; cases h)) ?Za3 ?Zc
    case Zw3 => kernel_rfl
    case Zf3 => wtm_at "fn"
    case Za3 =>
      refine' EvL.cons (RL.rel B) (St.stab (RL.rel B)) (fun _ => rfl) (Ev.of_eq (Ev.compM (l := ([3, 2, 1, 0] : List Nat)) (dc := fun (j : Nat) => D.int (j : Int)) (f := fun j => D.int (placeOf wishes come j)) (RL.rel B) (GL.stat kb) rfl ?Zso2 ?Zhf2 ?Zit2 (.tup _) ?Zsz2 ?Zh2) rfl) (EvL.nil (RL.rel B))
      case Zso2 => exact scopeOk_of (by rfl) (by rfl) (by rfl) (by rfl)
      case Zhf2 => intro _; rfl
      case Zit2 => exact (show Ev _ _ _ _ _ _ _ _ (D.tup [D.int 3, D.int 2, D.int 1, D.int 0]) by wtm_at "g")
      case Zsz2 => decide
      case Zh2 =>
        intro h₂ L2 C2 G2 hL2 j hj
        have j4 : j < 4 := by simp at hj; lia
        have hj1 := hr j j4
        obtain ⟨i1, i2⟩ := idx_at (hc.has j j4)
        have wl := hc.l4
        have e1 : (wishes.map dI)[((j : Int)).toNat]? = some (dI (wishes.getD j [])) := by simp [List.getD, show j < wishes.length by lia]
        have e2 : (come.map D.int)[((j : Int)).toNat]? = some (.int (come.getD j 0)) := by simp [List.getD, show j < come.length by lia]
        refine ⟨upd _ "one" (D.int (j : Int)), upd_ext (by rfl), As.name ?Zst2, ?Zev2⟩
        case Zst2 => wtm_at "sto"
        case Zev2 =>
          refine' Ev.indexI (l := wishes.getD j []) (a := come.getD j 0) (RL.rel B) (St.stab (RL.rel B)) (by rfl) (by rfl) (by rfl) (fun _ => rfl) ?Zv ?Ze i1 i2 (by rw [hj1]; decide)
          case Zv => wtm_at "g"
          case Ze => wtm_at "g"
    case Zc =>
      intro f ct c'
      refine Ca.mono (ca_reduce2 (B := B) (k := k + 5) (l0 := lEnv w h₀.objs.size) (ls := []) (G := fun h => St X (RL B) (GL w mg mb B) h₀ (lEnv w h₀.objs.size) ρ h ∧ LamAt lawQ _ _ _ _ f ct c' h) (RL.rel B) (fun h g => (St.gh (RL.rel B) (GL.stat kb) g.1).1) (fun h h' kk g => ⟨St.step (RL.rel B) g.1 kk, g.2.kp ((RL.rel B).weak kk)⟩) (fd := fdOf "<lambda>" lawQ _ _ _ _ ct c') rfl (fun h g => g.2.1)
        (Fold.adds (fun x y env' => ?Zstep) _ _ _ _)) (fun h S => ⟨⟨S, ?Zff⟩, S.1.up⟩) (Nat.le_refl _) (.inr rfl) (fun z => z)
      case Zff => exact ff_own (RL.rel B) S.1 (by rfl) (by rfl) hB0 (fun e he => by cases he)
      case Zstep =>
        refine Ca.lift (RL.rel B) (Ca.lam (names := ["one", "other"]) (n := k + 4) (fr := some (env' :: [lEnv w h₀.objs.size])) (cm := true) (RL.rel B) (GL.stat kb) (fun h g => g.1) (hclo_of ?Zc1) rfl ?Zbind ?Zloc ?Zcell rfl rfl rfl (fun h₂ G2 => ?Zbody)) (fun h g => g.1.1) (Nat.le_refl _) (.inr rfl) (fun z => z)
        case Zc1 =>
          intro q hq
          exact absurd hq (List.not_mem_nil)
        case Zbind => exact len2 (fun a0 a1 => by kernel_rfl)
        case Zloc =>
          intro x hx
          simp only [List.mem_cons, List.not_mem_nil, or_false] at hx
          rcases hx with rfl | rfl <;> rfl
        case Zcell => decide +kernel
        case Zbody =>
          refine' Ev.bin Rel.kf (St.stab Rel.kf) (a := .int x) (b := .int y) ?Zx1 ?Zx2 (Op.add Rel.kf)
          case Zx1 => wtm_at "g"
          case Zx2 => wtm_at "g"
end
end
section
theorem nat_mask (n k s : Nat) : n &&& ((2 ^ s - 1) * 2 ^ k) = n / 2 ^ k % 2 ^ s * 2 ^ k := by
  refine Nat.eq_of_testBit_eq fun i => ?_
  rw [Nat.testBit_and, Nat.testBit_mul_two_pow, Nat.testBit_mul_two_pow, Nat.testBit_mod_two_pow, Nat.testBit_div_two_pow, Nat.testBit_two_pow_sub_one]
  by_cases h : k ≤ i
  · rw [show i - k + k = i from Nat.sub_add_cancel h, decide_eq_true h, Bool.true_and, Bool.true_and, Bool.and_comm]
  · rw [decide_eq_false h, Bool.false_and, Bool.and_false, Bool.false_and]
theorem bit_pos (n b : Nat) : Builtin.bitAnd (n : Int) (b : Int) = ((n &&& b : Nat) : Int) := by
  unfold Builtin.bitAnd
  rw [decide_eq_true (Int.natCast_nonneg n), decide_eq_true (Int.natCast_nonneg b)]
  rfl
theorem not_neg (n : Nat) : (Builtin.bitNot (Int.negSucc n)).toNat = n := by
  show (-(Int.negSucc n) - 1).toNat = n
  rw [Int.neg_negSucc, Int.natCast_succ, Int.add_sub_cancel]
  rfl
theorem bit_neg (n b : Nat) : Builtin.bitAnd (Int.negSucc n) (b : Int) = (b : Int) - ((n &&& b : Nat) : Int) := by
  unfold Builtin.bitAnd
  rw [decide_eq_false (Int.not_le.mpr (Int.negSucc_lt_zero n)), decide_eq_true (Int.natCast_nonneg b), not_neg]
  show (b : Int) - ((b &&& n : Nat) : Int) = _
  rw [Nat.and_comm]
-- a mask of s bits
theorem mask (m : Int) (k s b S c : Nat) (hb : 2 ^ k = b) (hS : 2 ^ s = S) (hc : (S - 1) * b = c) : Builtin.bitAnd m (c : Int) = m / b % S * b := by
  have h := fun n => nat_mask n k s
  rw [hb, hS, hc] at h
  have S0 : 0 < S := hS ▸ Nat.two_pow_pos s
  have b0 : 0 < b := hb ▸ Nat.two_pow_pos k
  cases m with
  | ofNat n => exact (bit_pos n c).trans (congrArg _ (h n))
  | negSucc n =>
    rw [bit_neg, h, Int.negSucc_ediv n (Int.ofNat_lt.mpr b0)]
    show _ = (Int.negSucc (n / b)) % S * b
    rw [Int.negSucc_emod _ (Int.ofNat_lt.mpr S0), ← hc, Int.natCast_mul, Int.natCast_mul, ← Int.sub_mul, Int.natCast_sub S0]
    rfl
-- two masks
theorem mask2 (m : Int) (a b : Nat) (hd : ∀ n : Nat, n &&& (a + b) = (n &&& a) + (n &&& b)) : Builtin.bitAnd m ((a + b : Nat) : Int) = Builtin.bitAnd m a + Builtin.bitAnd m b := by
  cases m with
  | ofNat n => rw [show Int.ofNat n = ((n : Nat) : Int) from rfl, bit_pos, bit_pos, bit_pos, hd, Int.natCast_add]
  | negSucc n => rw [bit_neg, bit_neg, bit_neg, hd, Int.natCast_add, Int.natCast_add]; omega
theorem two_bits (n j k a b : Nat) (ha : 2 ^ j = a) (hb : 2 ^ k = b) (hd : a ||| b = a + b) : n &&& (a + b) = (n &&& a) + (n &&& b) := by
  have h1 := nat_mask n j 1
  have h2 := nat_mask n k 1
  rw [show (2 ^ 1 - 1) = 1 from rfl, Nat.one_mul, ha] at h1
  rw [show (2 ^ 1 - 1) = 1 from rfl, Nat.one_mul, hb] at h2
  rw [← hd, Nat.and_or_distrib_left, h1, h2]
  rcases Nat.mod_two_eq_zero_or_one (n / a) with p | p <;> rcases Nat.mod_two_eq_zero_or_one (n / b) with q | q <;> simp [p, q, hd]
-- a mask of one bit
theorem bit1 (m : Int) (k b : Nat) (hb : 2 ^ k = b) : Builtin.bitAnd m (b : Int) = m / b % 2 * b := mask m k 1 b 2 b hb rfl (Nat.one_mul b)
theorem bit4 (m : Int) : Builtin.bitAnd m 61440 = m / 4096 % 16 * 4096 := mask m 12 4 4096 16 61440 rfl rfl rfl
-- the signs, one by one
theorem row0 (m : Int) : fmRow true m (fmTables.headD []) = Txt.item (Str.ofString "?pc?d?b?-?l?s???") (m / 4096 % 16) := by
  have h0 := Int.emod_nonneg (m / 4096) (show (16 : Int) ≠ 0 by decide)
  have h1 := Int.emod_lt_of_pos (m / 4096) (show (0 : Int) < 16 by decide)
  have h := bit4 m
  simp only [fmTables, List.headD_cons, fmRow, if_true]
  rw [h]
  generalize m / 4096 % 16 = v at *
  obtain ⟨n, rfl⟩ := Int.eq_ofNat_of_zero_le h0
  have hn : n < 16 := Int.ofNat_lt.mp h1
  clear h h0 h1
  revert n
  decide +kernel
theorem rowB (m : Int) (k b : Nat) (hb : 2 ^ k = b) (c : Str) : fmRow false m [((b : Int), c)] = if m / b % 2 = 1 then c else sQ "-" := by
  have h := bit1 m k b hb
  have b0 : (b : Int) ≠ 0 := by have : 0 < b := by { rw [← hb]; exact Nat.two_pow_pos _ }; omega
  simp only [fmRow, Bool.false_eq_true, if_false]
  rw [h]
  have : m / b % 2 = 0 ∨ m / b % 2 = 1 := Int.emod_two_eq _
  rcases this with e | e
  · rw [e]; simp [Ne.symm b0]
  · rw [e]; simp
theorem rowC (m : Int) (j k a b c : Nat) (ha : 2 ^ j = a) (hb : 2 ^ k = b) (hd : a ||| b = a + b) (hc : a + b = c) (hne : a ≠ b) (x y z : Str) : fmRow false m [((c : Int), x), ((b : Int), y), ((a : Int), z)] = if m / a % 2 = 1 then (if m / b % 2 = 1 then x else z) else if m / b % 2 = 1 then y else sQ "-" := by
  have h1 := bit1 m j a ha
  have h2 := bit1 m k b hb
  have h : Builtin.bitAnd m (c : Int) = m / a % 2 * a + m / b % 2 * b := by rw [← hc, mask2 m a b fun n => two_bits n j k a b ha hb hd, h1, h2]
  have a0 : 0 < a := by rw [← ha]; exact Nat.two_pow_pos _
  have b0 : 0 < b := by rw [← hb]; exact Nat.two_pow_pos _
  simp only [fmRow, Bool.false_eq_true, if_false]
  rw [h, h1, h2]
  have e1 := Int.emod_two_eq (m / a)
  have e2 := Int.emod_two_eq (m / b)
  have c1 : ¬ ((0 : Int) = c) := by omega
  have c2 : ¬ ((a : Int) = c) := by omega
  have c3 : ¬ ((b : Int) = c) := by omega
  have c4 : ¬ ((0 : Int) = a) := by omega
  have c5 : ¬ ((0 : Int) = b) := by omega
  have c6 : (a : Int) + b = c := by omega
  rcases e1 with e | e <;> rcases e2 with f | f <;> rw [e, f] <;> simp [c1, c2, c3, c4, c5, c6]
end
section
theorem join10 (a b c d e f g h i j : Str) : Txt.join (sQ "") [a, b, c, d, e, f, g, h, i, j] = a ++ b ++ c ++ d ++ e ++ f ++ g ++ h ++ i ++ j := by
  have q : (sQ "").cps = #[] := by decide +kernel
  show Builtin.Str.glued _ _ = _
  unfold Builtin.Str.glued
  simp only [List.drop_succ_cons, List.drop_zero, List.foldl_cons, List.foldl_nil, List.headD_cons, q, Array.append_empty]
  rfl
theorem sign2 (i : Int) (a b : Str) (x : Str) (h0 : Txt.item x 0 = a) (h1 : Txt.item x 1 = b) (hi : i = 0 ∨ i = 1) : (if i = 1 then b else a) = Txt.item x i := by
  rcases hi with h | h <;> subst h <;> simp [h0, h1]
theorem sign4 (u v : Int) (a b c d : Str) (x : Str) (h0 : Txt.item x 0 = a) (h1 : Txt.item x 1 = b) (h2 : Txt.item x 2 = c) (h3 : Txt.item x 3 = d) (hu : u = 0 ∨ u = 1) (hv : v = 0 ∨ v = 1) :
    (if u = 1 then (if v = 1 then d else b) else if v = 1 then c else a) = Txt.item x (u + v * 2) := by
  rcases hu with h | h <;> rcases hv with h' | h' <;> subst h <;> subst h' <;> simp [h0, h1, h2, h3]
theorem e81 (x : Int) : x % 8 % 2 = x % 2 := Int.emod_emod_of_dvd x (by decide)
theorem fin8 (x : Int) : ∃ u : Fin 8, x % 8 = (u.val : Int) := ⟨⟨(x % 8).toNat, (Int.toNat_lt (Int.emod_nonneg x (by decide))).mpr (Int.emod_lt_of_pos x (by decide))⟩, (Int.toNat_of_nonneg (Int.emod_nonneg x (by decide))).symm⟩
theorem fin2 (x : Int) : ∃ u : Fin 2, x % 2 = (u.val : Int) := ⟨⟨(x % 2).toNat, (Int.toNat_lt (Int.emod_nonneg x (by decide))).mpr (Int.emod_lt_of_pos x (by decide))⟩, (Int.toNat_of_nonneg (Int.emod_nonneg x (by decide))).symm⟩
theorem e84 (x : Int) : x % 8 / 4 = x / 4 % 2 := by
  have h : x / 4 = x % 8 / 4 + 2 * (x / 8) := (congrArg (· / 4) ((Int.emod_add_mul_ediv x 8).symm.trans (congrArg (x % 8 + ·) (Int.mul_assoc 4 2 _)))).trans (Int.add_mul_ediv_left _ _ (by decide))
  rw [h, Int.add_mul_emod_self_left]
  obtain ⟨u, hu⟩ := fin8 x
  rw [hu]; clear hu; revert u; decide
theorem e82 (x : Int) : x % 8 / 2 % 2 = x / 2 % 2 := by
  have h : x / 2 = x % 8 / 2 + 2 * (2 * (x / 8)) := (congrArg (· / 2) ((Int.emod_add_mul_ediv x 8).symm.trans (congrArg (x % 8 + ·) ((Int.mul_assoc 2 4 _).trans (congrArg (2 * ·) (Int.mul_assoc 2 2 _)))))).trans (Int.add_mul_ediv_left _ _ (by decide))
  rw [h, Int.add_mul_emod_self_left]
theorem fm_signs (m : Int) : fmSigns m 0 fmTables = [Txt.item (Str.ofString "?pc?d?b?-?l?s???") (m / 4096 % 16), Txt.item (Str.ofString "-r") (m / 64 % 8 / 4), Txt.item (Str.ofString "-w") (m / 64 % 8 / 2 % 2), Txt.item (Str.ofString "-xSs") (m / 64 % 8 % 2 + m / 512 / 4 % 2 * 2),
      Txt.item (Str.ofString "-r") (m / 8 % 8 / 4), Txt.item (Str.ofString "-w") (m / 8 % 8 / 2 % 2), Txt.item (Str.ofString "-xSs") (m / 8 % 8 % 2 + m / 512 / 2 % 2 * 2),
      Txt.item (Str.ofString "-r") (m / 1 % 8 / 4), Txt.item (Str.ofString "-w") (m / 1 % 8 / 2 % 2), Txt.item (Str.ofString "-xTt") (m / 1 % 8 % 2 + m / 512 / 1 % 2 * 2)] := by
  have r0 := row0 m
  simp only [fmTables, List.headD_cons] at r0
  simp only [fmTables, fmSigns]
  have z : ∀ n : Nat, ((0 + 1 + n) == 0) = false := fun n => by simp
  have c1 := rowB m 8 256 (by decide) (sQ "r")
  have c2 := rowB m 7 128 (by decide) (sQ "w")
  have c3 := rowC m 6 11 64 2048 2112 (by decide) (by decide) (by decide) (by decide) (by decide) (sQ "s") (sQ "S") (sQ "x")
  have c4 := rowB m 5 32 (by decide) (sQ "r")
  have c5 := rowB m 4 16 (by decide) (sQ "w")
  have c6 := rowC m 3 10 8 1024 1032 (by decide) (by decide) (by decide) (by decide) (by decide) (sQ "s") (sQ "S") (sQ "x")
  have c7 := rowB m 2 4 (by decide) (sQ "r")
  have c8 := rowB m 1 2 (by decide) (sQ "w")
  have c9 := rowC m 0 9 1 512 513 (by decide) (by decide) (by decide) (by decide) (by decide) (sQ "t") (sQ "T") (sQ "x")
  have p1 := sign2 (m / 256 % 2) (sQ "-") (sQ "r") (sQ "-r") (by decide +kernel) (by decide +kernel) (Int.emod_two_eq _)
  have p2 := sign2 (m / 128 % 2) (sQ "-") (sQ "w") (sQ "-w") (by decide +kernel) (by decide +kernel) (Int.emod_two_eq _)
  have p3 := sign4 (m / 64 % 2) (m / 2048 % 2) (sQ "-") (sQ "x") (sQ "S") (sQ "s") (sQ "-xSs") (by decide +kernel) (by decide +kernel) (by decide +kernel) (by decide +kernel) (Int.emod_two_eq _) (Int.emod_two_eq _)
  have p4 := sign2 (m / 32 % 2) (sQ "-") (sQ "r") (sQ "-r") (by decide +kernel) (by decide +kernel) (Int.emod_two_eq _)
  have p5 := sign2 (m / 16 % 2) (sQ "-") (sQ "w") (sQ "-w") (by decide +kernel) (by decide +kernel) (Int.emod_two_eq _)
  have p6 := sign4 (m / 8 % 2) (m / 1024 % 2) (sQ "-") (sQ "x") (sQ "S") (sQ "s") (sQ "-xSs") (by decide +kernel) (by decide +kernel) (by decide +kernel) (by decide +kernel) (Int.emod_two_eq _) (Int.emod_two_eq _)
  have p7 := sign2 (m / 4 % 2) (sQ "-") (sQ "r") (sQ "-r") (by decide +kernel) (by decide +kernel) (Int.emod_two_eq _)
  have p8 := sign2 (m / 2 % 2) (sQ "-") (sQ "w") (sQ "-w") (by decide +kernel) (by decide +kernel) (Int.emod_two_eq _)
  have p9 := sign4 (m / 1 % 2) (m / 512 % 2) (sQ "-") (sQ "x") (sQ "T") (sQ "t") (sQ "-xTt") (by decide +kernel) (by decide +kernel) (by decide +kernel) (by decide +kernel) (Int.emod_two_eq _) (Int.emod_two_eq _)
  have q1 : m / 64 % 8 / 4 = m / 256 % 2 := by rw [e84, Int.ediv_ediv_of_nonneg (by decide)]; rfl
  have q2 : m / 64 % 8 / 2 % 2 = m / 128 % 2 := by rw [e82, Int.ediv_ediv_of_nonneg (by decide)]; rfl
  have q3 : m / 64 % 8 % 2 + m / 512 / 4 % 2 * 2 = m / 64 % 2 + m / 2048 % 2 * 2 := by rw [e81, Int.ediv_ediv_of_nonneg (by decide)]; rfl
  have q4 : m / 8 % 8 / 4 = m / 32 % 2 := by rw [e84, Int.ediv_ediv_of_nonneg (by decide)]; rfl
  have q5 : m / 8 % 8 / 2 % 2 = m / 16 % 2 := by rw [e82, Int.ediv_ediv_of_nonneg (by decide)]; rfl
  have q6 : m / 8 % 8 % 2 + m / 512 / 2 % 2 * 2 = m / 8 % 2 + m / 1024 % 2 * 2 := by rw [e81, Int.ediv_ediv_of_nonneg (by decide)]; rfl
  have q7 : m / 1 % 8 / 4 = m / 4 % 2 := by rw [e84, Int.ediv_ediv_of_nonneg (by decide)]; rfl
  have q8 : m / 1 % 8 / 2 % 2 = m / 2 % 2 := by rw [e82, Int.ediv_ediv_of_nonneg (by decide)]; rfl
  have q9 : m / 1 % 8 % 2 + m / 512 / 1 % 2 * 2 = m / 1 % 2 + m / 512 % 2 * 2 := by rw [e81, Int.ediv_ediv_of_nonneg (by decide)]; rfl
  rw [q1, q2, q3, q4, q5, q6, q7, q8, q9]
  refine congr (congrArg List.cons r0) (congr (congrArg List.cons (c1.trans p1)) (congr (congrArg List.cons (c2.trans p2)) (congr (congrArg List.cons (c3.trans p3)) (congr (congrArg List.cons (c4.trans p4)) (congr (congrArg List.cons (c5.trans p5)) (congr (congrArg List.cons (c6.trans p6)) (congr (congrArg List.cons (c7.trans p7)) (congr (congrArg List.cons (c8.trans p8)) (congr (congrArg List.cons (c9.trans p9)) rfl)))))))))
theorem fm_list (m : Int) : fmText m = listText m := by
  unfold fmText
  rw [fm_signs, join10]
  rfl
end
section
variable {X : Addr → Prop}
-- what the law's ten numbers give
noncomputable def tsOf (ns : List Int) : List Str := [textAt ns 0, textAt ns 1, textAt ns 2, textAt ns 3]
noncomputable def msOf (ns : List Int) : List Int := [modeAt (ns.getD 4 0), modeAt (ns.getD 5 0), modeAt (ns.getD 6 0), modeAt (ns.getD 7 0)]
noncomputable def spOf (ns : List Int) : List (List Str) := [spoilAt ns 0, spoilAt ns 1, spoilAt ns 2, spoilAt ns 3]
noncomputable def refOf (ns : List Int) : List Str := sO "no 226 all told" :: (spOf ns).flatten
noncomputable def osOf (ns : List Int) : List Str := [order (ns.getD 0 0 % 24), order (ns.getD 1 0 % 24), order (ns.getD 2 0 % 24), order (ns.getD 3 0 % 24)]
noncomputable def wiOf (ns : List Int) : List (List Int) := wishL (osOf ns)
noncomputable def rkOf (ns : List Int) : List (List Int) := ranksL (digs (msOf ns))
noncomputable def tnOf (ns : List Int) : List Int := (List.range 16).map (turnAt ns)
noncomputable def stOf (ns : List Int) : List Int × List Int × List Int := askRun (wiOf ns) (rkOf ns) start3 (tnOf ns)
noncomputable def coOf (ns : List Int) : List Int := comeL (stOf ns).2.2
noncomputable def woOf (ns : List Int) : List (List Int) := worthL (msOf ns)
noncomputable def sbOf (ns : List Int) : List (List Int) := stableL waysL (wiOf ns) (woOf ns)
structure LawOk (ns : List Int) : Prop where
  len : ns.length = 10
  txt : ∀ j : Nat, j < 4 → TextOk (textAt ns j)
  mode : ∀ n : Int, ModeOk (modeAt n)
  sp2 : ∀ j : Nat, j < 4 → (spoilAt ns j).length ≤ 2
  spl : (spOf ns).flatten.length ≤ 1000
  join : ∀ m : Int, JoinOk (sQ "") (fmSigns m 0 fmTables) = true
  lt10 : ∀ m : Int, (listText m).length = 10
  wish : ∀ j : Nat, j < 4 → Wish ((tsOf ns).getD j (sO "")) ((osOf ns).getD j (sO ""))
  p1 : D.pure (toldD (tsOf ns) (msOf ns) (refOf ns)) = true
  s1 : SeqAt.shaped (D.py (toldD (tsOf ns) (msOf ns) (refOf ns))) = true
  p2 : D.pure (signsD (msOf ns)) = true
  s2 : SeqAt.shaped (D.py (signsD (msOf ns))) = true
  dl : ∀ r ∈ digs (msOf ns), r.length = 4
  ask : AskAll (wiOf ns) (rkOf ns) start3 (tnOf ns)
  free : (stOf ns).1 = []
  hl : (stOf ns).2.2.length = 4
  hm : ∀ j : Nat, j < 4 → (j : Int) ∈ (stOf ns).2.2
  sok : ∀ way ∈ waysL, StableOk way (wiOf ns) (woOf ns)
  wl : (wiOf ns).length = 4
  wr : ∀ j : Nat, j < 4 → ((wiOf ns).getD j []).length = 4
  wco : WayOk (wiOf ns) (coOf ns)
  wst : ∀ way ∈ sbOf ns, WayOk (wiOf ns) way
  cin : coOf ns ∈ sbOf ns
  opt : ∀ way ∈ sbOf ns, ∀ j : Nat, j < 4 → placeOf (wiOf ns) (coOf ns) j ≤ placeOf (wiOf ns) way j
theorem ms_eq {ns : List Int} (h : ns.length = 10) : (((ns.drop 4).take 4).map fun n => D.int (modeAt n)) = (msOf ns).map D.int := by
  revert ns
  exact @(lenS fun a0 => lenS fun a1 => lenS fun a2 => lenS fun a3 => lenS fun a4 => lenS fun a5 => len4 fun a6 a7 a8 a9 => rfl)
theorem sb_len (ns : List Int) : (sbOf ns).length ≤ 24 := Nat.le_trans (List.length_filter_le ..) (by decide)
section
variable {prog : Program} {w : World} {R : Heap → Heap → Prop} {G G' : Heap → Prop} {k : Room} {h₀ : Heap} {env : Env} {ρ ρ' : Rho}
theorem Ex.step {st : Stmt} {ss : List Stmt} {o : Out} {x : Str} {d : D} (h1 : Ex1 prog w X R G k h₀ env ρ st (.next (upd ρ x d))) (h2 : ∀ ρ' : Rho, ρ' x = some d → (∀ y, y ≠ x → ρ' y = ρ y) → Ex prog w X R G k h₀ env ρ' ss o) : Ex prog w X R G k h₀ env ρ (st :: ss) o :=
  Ex.cons h1 (h2 _ (upd_same ..) fun y n => if_neg n)
theorem Ex.step3 {st : Stmt} {ss : List Stmt} {o : Out} {x y z : Str} {d e f : D} (n1 : x ≠ y) (n2 : x ≠ z) (n3 : y ≠ z) (h1 : Ex1 prog w X R G k h₀ env ρ st (.next (upd (upd (upd ρ x d) y e) z f)))
    (h2 : ∀ ρ' : Rho, ρ' x = some d → ρ' y = some e → ρ' z = some f → (∀ u, u ≠ x → u ≠ y → u ≠ z → ρ' u = ρ u) → Ex prog w X R G k h₀ env ρ' ss o) : Ex prog w X R G k h₀ env ρ (st :: ss) o :=
  Ex.cons h1 (h2 _ (by simp [upd, n1, n2]) (by simp [upd, n3]) (by simp [upd]) fun u a b c => by simp [upd, a, b, c])
theorem Ex.weakG {ss : List Stmt} {d : D} (h : ∀ h, G' h → G h) (e : Ex prog w X R G k h₀ env ρ ss (.ret d)) : Ex prog w X R G' k h₀ env ρ ss (.ret d) := .mk fun A s Q E ok S hp =>
  e.run A s Q E ok { S with g := h _ S.g } hp
end
section
variable {prog : Program} {w : World} {mg mb : Str → Option Value} {k : Nat} {B : Nat} {h₀ : Heap} {ρ : Rho} {fr : Option (List Env)}
theorem law_body (kb : KB w B) (hBig : 180 < B) (hB0 : B ≤ h₀.objs.size) (hX : ∀ a, (hd.heap_39 w.params).lookup a = some (objAt w a) → (objAt w a).cls ≠ .none → X a) {zs : List Int} (hz : zs.length ≤ 63) (ok : LawOk (nums zs))
    (fold : ∀ h₀ : Heap, Fold (StepC prog w X (RL B) (GL w mg mb B) B (k + 11) [lEnv w h₀.objs.size] 142) (.tup [.list [], .list []]) ((talkOf (textAt (nums zs) 0) (textAt (nums zs) 1) (textAt (nums zs) 2) (textAt (nums zs) 3) (modeAt ((nums zs).getD 4 0)) (modeAt ((nums zs).getD 5 0)) (modeAt ((nums zs).getD 6 0)) (modeAt ((nums zs).getD 7 0)) (spoilAt (nums zs) 0) (spoilAt (nums zs) 1) (spoilAt (nums zs) 2) (spoilAt (nums zs) 3)).map D.str) (toldD (tsOf (nums zs)) (msOf (nums zs)) (refOf (nums zs))))
    (h_script_0 : ρ "script" = some (dI zs)) :
    Ex prog w X (RL B) (GL w mg mb B) ⟨k + 12, some [lEnv w h₀.objs.size], true⟩ h₀ (lEnv w h₀.objs.size) ρ (bodyAt w 180) (.ret (.bool true)) := by
  have split : bodyAt w 180 = [nthSt (bodyAt w 180) 0, nthSt (bodyAt w 180) 1, nthSt (bodyAt w 180) 2, nthSt (bodyAt w 180) 3, nthSt (bodyAt w 180) 4, nthSt (bodyAt w 180) 5, nthSt (bodyAt w 180) 6, nthSt (bodyAt w 180) 7, nthSt (bodyAt w 180) 8, nthSt (bodyAt w 180) 9, nthSt (bodyAt w 180) 10, nthSt (bodyAt w 180) 11, nthSt (bodyAt w 180) 12, nthSt (bodyAt w 180) 13, nthSt (bodyAt w 180) 14, nthSt (bodyAt w 180) 15, nthSt (bodyAt w 180) 16, nthSt (bodyAt w 180) 17, nthSt (bodyAt w 180) 18, nthSt (bodyAt w 180) 19, nthSt (bodyAt w 180) 20, nthSt (bodyAt w 180) 21, nthSt (bodyAt w 180) 22, nthSt (bodyAt w 180) 23, nthSt (bodyAt w 180) 24, nthSt (bodyAt w 180) 25] := by rfl
  rw [split]
  refine @Ex.step X prog w _ _ _ h₀ _ ρ _ _ _ "taken" (dI (zs.take 60)) (@law_taken X prog w mg mb (k + 12) B h₀ ρ _ kb _ hz h_script_0) fun ρ0 n0 k0 => ?_
  refine @Ex.step X prog w _ _ _ h₀ _ ρ0 _ _ _ "own" (dI ownL) (@law_own X prog w mg mb (k + 12) B h₀ ρ0 _ kb) fun ρ1 n1 k1 => ?_
  have h_taken_1 : ρ1 "taken" = _ := (k1 _ (by decide +kernel)).trans n0
  refine @Ex.step X prog w _ _ _ h₀ _ ρ1 _ _ _ "numbers" (dI (nums zs)) (@law_numbers X prog w mg mb (k + 12) B h₀ ρ1 _ kb _ h_taken_1 n1) fun ρ2 n2 k2 => ?_
  refine @Ex.step X prog w _ _ _ h₀ _ ρ2 _ _ _ "texts" (.list ((tsOf (nums zs)).map D.str)) (@Ex1.of_eq X prog w _ _ _ h₀ _ ρ2 _ "texts" _ (.list ((tsOf (nums zs)).map D.str)) (@law_texts X prog w mg mb (k + 10) B h₀ ρ2 _ kb _ ok.len n2) (rfl)) fun ρ3 n3 k3 => ?_
  have h_numbers_3 : ρ3 "numbers" = _ := (k3 _ (by decide +kernel)).trans n2
  refine @Ex.step X prog w _ _ _ h₀ _ ρ3 _ _ _ "modes" (dI (msOf (nums zs))) (@Ex1.of_eq X prog w _ _ _ h₀ _ ρ3 _ "modes" _ (dI (msOf (nums zs))) (@law_modes X prog w mg mb (k + 10) B h₀ ρ3 _ kb _ ok.len h_numbers_3) (congrArg D.list (ms_eq ok.len))) fun ρ4 n4 k4 => ?_
  have h_numbers_4 : ρ4 "numbers" = _ := (k4 _ (by decide +kernel)).trans h_numbers_3
  have h_texts_4 : ρ4 "texts" = _ := (k4 _ (by decide +kernel)).trans n3
  refine @Ex.step X prog w _ _ _ h₀ _ ρ4 _ _ _ "odd" (dSS oddL) (@law_odd X prog w mg mb (k + 10) B h₀ ρ4 _ kb) fun ρ5 n5 k5 => ?_
  have h_numbers_5 : ρ5 "numbers" = _ := (k5 _ (by decide +kernel)).trans h_numbers_4
  have h_texts_5 : ρ5 "texts" = _ := (k5 _ (by decide +kernel)).trans h_texts_4
  have h_modes_5 : ρ5 "modes" = _ := (k5 _ (by decide +kernel)).trans n4
  refine @Ex.step X prog w _ _ _ h₀ _ ρ5 _ _ _ "spoiled" (dSS (spOf (nums zs))) (@Ex1.of_eq X prog w _ _ _ h₀ _ ρ5 _ "spoiled" _ (dSS (spOf (nums zs))) (@law_spoiled X prog w mg mb (k + 10) B h₀ ρ5 _ kb _ ok.len h_numbers_5 n5) (rfl)) fun ρ6 n6 k6 => ?_
  have h_numbers_6 : ρ6 "numbers" = _ := (k6 _ (by decide +kernel)).trans h_numbers_5
  have h_texts_6 : ρ6 "texts" = _ := (k6 _ (by decide +kernel)).trans h_texts_5
  have h_modes_6 : ρ6 "modes" = _ := (k6 _ (by decide +kernel)).trans h_modes_5
  refine @Ex.step X prog w _ _ _ h₀ _ ρ6 _ _ _ "told" (toldD (tsOf (nums zs)) (msOf (nums zs)) (refOf (nums zs))) (@law_told X prog w mg mb (k + 11) B h₀ ρ6 kb hB0 (textAt (nums zs) 0) (textAt (nums zs) 1) (textAt (nums zs) 2) (textAt (nums zs) 3) (modeAt ((nums zs).getD 4 0)) (modeAt ((nums zs).getD 5 0)) (modeAt ((nums zs).getD 6 0)) (modeAt ((nums zs).getD 7 0)) (spoilAt (nums zs) 0) (spoilAt (nums zs) 1) (spoilAt (nums zs) 2) (spoilAt (nums zs) 3) _ h_texts_6 h_modes_6 n6 (ok.txt 0 (by decide)) (ok.txt 1 (by decide)) (ok.txt 2 (by decide)) (ok.txt 3 (by decide)) (ok.mode _) (ok.mode _) (ok.mode _) (ok.mode _) (ok.sp2 0 (by decide)) (ok.sp2 1 (by decide)) (ok.sp2 2 (by decide)) (ok.sp2 3 (by decide)) (fold h₀)) fun ρ7 n7 k7 => ?_
  have h_numbers_7 : ρ7 "numbers" = _ := (k7 _ (by decide +kernel)).trans h_numbers_6
  have h_texts_7 : ρ7 "texts" = _ := (k7 _ (by decide +kernel)).trans h_texts_6
  have h_modes_7 : ρ7 "modes" = _ := (k7 _ (by decide +kernel)).trans h_modes_6
  have h_spoiled_7 : ρ7 "spoiled" = _ := (k7 _ (by decide +kernel)).trans n6
  refine @Ex.step X prog w _ _ _ h₀ _ ρ7 _ _ _ "refused" (.list ((refOf (nums zs)).map D.str)) (@Ex1.of_eq X prog w _ _ _ h₀ _ ρ7 _ "refused" _ (.list ((refOf (nums zs)).map D.str)) (@law_refused X prog w mg mb (k + 10) B h₀ ρ7 _ kb (spOf (nums zs)) h_spoiled_7 ok.spl) (rfl)) fun ρ8 n8 k8 => ?_
  have h_numbers_8 : ρ8 "numbers" = _ := (k8 _ (by decide +kernel)).trans h_numbers_7
  have h_texts_8 : ρ8 "texts" = _ := (k8 _ (by decide +kernel)).trans h_texts_7
  have h_modes_8 : ρ8 "modes" = _ := (k8 _ (by decide +kernel)).trans h_modes_7
  have h_told_8 : ρ8 "told" = _ := (k8 _ (by decide +kernel)).trans n7
  refine @Ex.cons X prog w _ _ _ h₀ _ ρ8 _ _ _ _ (@law_if_told X prog w mg mb (k + 10) B h₀ ρ8 _ kb _ _ _ h_texts_8 h_modes_8 n8 h_told_8 rfl rfl ok.p1 ok.s1) ?_
  refine @Ex.step X prog w _ _ _ h₀ _ ρ8 _ _ _ "signs" (signsD (msOf (nums zs))) (@Ex1.of_eq X prog w _ _ _ h₀ _ ρ8 _ "signs" _ (signsD (msOf (nums zs))) (@law_signs X prog w mg mb (k + 10) B h₀ ρ8 _ kb hX _ _ _ h_told_8 ok.join) (congrArg D.list (List.map_congr_left fun j _ => congrArg D.str (fm_list _)))) fun ρ10 n10 k10 => ?_
  have h_numbers_10 : ρ10 "numbers" = _ := (k10 _ (by decide +kernel)).trans h_numbers_8
  have h_modes_10 : ρ10 "modes" = _ := (k10 _ (by decide +kernel)).trans h_modes_8
  have h_told_10 : ρ10 "told" = _ := (k10 _ (by decide +kernel)).trans h_told_8
  refine @Ex.cons X prog w _ _ _ h₀ _ ρ10 _ _ _ _ (@law_if_signs X prog w mg mb (k + 10) B h₀ ρ10 _ kb _ n10 h_modes_10 rfl ok.p2 ok.s2) ?_
  refine @Ex.step X prog w _ _ _ h₀ _ ρ10 _ _ _ "digits" (dR (digs (msOf (nums zs)))) (@law_digits X prog w mg mb (k + 10) B h₀ ρ10 _ kb _ n10 ok.lt10) fun ρ12 n12 k12 => ?_
  have h_numbers_12 : ρ12 "numbers" = _ := (k12 _ (by decide +kernel)).trans h_numbers_10
  have h_modes_12 : ρ12 "modes" = _ := (k12 _ (by decide +kernel)).trans h_modes_10
  have h_told_12 : ρ12 "told" = _ := (k12 _ (by decide +kernel)).trans h_told_10
  refine @Ex.step X prog w _ _ _ h₀ _ ρ12 _ _ _ "wishes" (dR (wiOf (nums zs))) (@Ex1.of_eq X prog w _ _ _ h₀ _ ρ12 _ "wishes" _ (dR (wiOf (nums zs))) (@law_wishes X prog w mg mb (k + 10) B h₀ ρ12 _ kb _ _ _ _ h_told_12 ok.wish) (rfl)) fun ρ13 n13 k13 => ?_
  have h_numbers_13 : ρ13 "numbers" = _ := (k13 _ (by decide +kernel)).trans h_numbers_12
  have h_modes_13 : ρ13 "modes" = _ := (k13 _ (by decide +kernel)).trans h_modes_12
  have h_digits_13 : ρ13 "digits" = _ := (k13 _ (by decide +kernel)).trans n12
  refine @Ex.step X prog w _ _ _ h₀ _ ρ13 _ _ _ "ranks" (dR (rkOf (nums zs))) (@Ex1.of_eq X prog w _ _ _ h₀ _ ρ13 _ "ranks" _ (dR (rkOf (nums zs))) (@law_ranks X prog w mg mb (k) B h₀ ρ13 _ kb hBig hB0 _ h_digits_13 rfl ok.dl) (rfl)) fun ρ14 n14 k14 => ?_
  have h_numbers_14 : ρ14 "numbers" = _ := (k14 _ (by decide +kernel)).trans h_numbers_13
  have h_modes_14 : ρ14 "modes" = _ := (k14 _ (by decide +kernel)).trans h_modes_13
  have h_wishes_14 : ρ14 "wishes" = _ := (k14 _ (by decide +kernel)).trans n13
  refine @Ex.step X prog w _ _ _ h₀ _ ρ14 _ _ _ "turns" (dI (tnOf (nums zs))) (@Ex1.of_eq X prog w _ _ _ h₀ _ ρ14 _ "turns" _ (dI (tnOf (nums zs))) (@law_turns X prog w mg mb (k + 10) B h₀ ρ14 _ kb _ ok.len h_numbers_14) (rfl)) fun ρ15 n15 k15 => ?_
  have h_modes_15 : ρ15 "modes" = _ := (k15 _ (by decide +kernel)).trans h_modes_14
  have h_wishes_15 : ρ15 "wishes" = _ := (k15 _ (by decide +kernel)).trans h_wishes_14
  have h_ranks_15 : ρ15 "ranks" = _ := (k15 _ (by decide +kernel)).trans n14
  refine @Ex.step X prog w _ _ _ h₀ _ ρ15 _ _ _ "start" (dS start3) (@law_start X prog w mg mb (k + 10) B h₀ ρ15 _ kb) fun ρ16 n16 k16 => ?_
  have h_modes_16 : ρ16 "modes" = _ := (k16 _ (by decide +kernel)).trans h_modes_15
  have h_wishes_16 : ρ16 "wishes" = _ := (k16 _ (by decide +kernel)).trans h_wishes_15
  have h_ranks_16 : ρ16 "ranks" = _ := (k16 _ (by decide +kernel)).trans h_ranks_15
  have h_turns_16 : ρ16 "turns" = _ := (k16 _ (by decide +kernel)).trans n15
  refine @Ex.step3 X prog w _ _ _ h₀ _ ρ16 _ _ _ "free" "tried" "held" _ _ _ (by decide +kernel) (by decide +kernel) (by decide +kernel) (@law_asks X prog w mg mb (k + 6) B h₀ ρ16 kb hBig hB0 _ _ _ h_wishes_16 h_ranks_16 h_turns_16 n16 ok.ask) fun ρ17 n1 n2 n3 k17 => ?_
  have h_free : ρ17 "free" = some (dI []) := n1.trans (congrArg (fun l => some (dI l)) ok.free)
  have h_held : ρ17 "held" = some (dI (stOf (nums zs)).2.2) := n3
  have h_modes_17 : ρ17 "modes" = _ := (k17 _ (by decide +kernel) (by decide +kernel) (by decide +kernel)).trans h_modes_16
  have h_wishes_17 : ρ17 "wishes" = _ := (k17 _ (by decide +kernel) (by decide +kernel) (by decide +kernel)).trans h_wishes_16
  refine @Ex.cons X prog w _ _ _ h₀ _ ρ17 _ _ _ _ (@law_if_free X prog w mg mb (k + 10) B h₀ ρ17 _ kb h_free) ?_
  refine @Ex.step X prog w _ _ _ h₀ _ ρ17 _ _ _ "come" (dI (coOf (nums zs))) (@Ex1.of_eq X prog w _ _ _ h₀ _ ρ17 _ "come" _ (dI (coOf (nums zs))) (@law_come X prog w mg mb (k + 10) B h₀ ρ17 _ kb _ h_held ok.hl ok.hm) (rfl)) fun ρ19 n19 k19 => ?_
  have h_modes_19 : ρ19 "modes" = _ := (k19 _ (by decide +kernel)).trans h_modes_17
  have h_wishes_19 : ρ19 "wishes" = _ := (k19 _ (by decide +kernel)).trans h_wishes_17
  refine @Ex.step X prog w _ _ _ h₀ _ ρ19 _ _ _ "worth" (dR (woOf (nums zs))) (@Ex1.of_eq X prog w _ _ _ h₀ _ ρ19 _ "worth" _ (dR (woOf (nums zs))) (@law_worth X prog w mg mb (k + 10) B h₀ ρ19 _ kb _ h_modes_19 rfl) (rfl)) fun ρ20 n20 k20 => ?_
  have h_wishes_20 : ρ20 "wishes" = _ := (k20 _ (by decide +kernel)).trans h_wishes_19
  have h_come_20 : ρ20 "come" = _ := (k20 _ (by decide +kernel)).trans n19
  refine @Ex.step X prog w _ _ _ h₀ _ ρ20 _ _ _ "ways" (dR waysL) (@law_ways X prog w mg mb (k + 10) B h₀ ρ20 _ kb) fun ρ21 n21 k21 => ?_
  have h_wishes_21 : ρ21 "wishes" = _ := (k21 _ (by decide +kernel)).trans h_wishes_20
  have h_come_21 : ρ21 "come" = _ := (k21 _ (by decide +kernel)).trans h_come_20
  have h_worth_21 : ρ21 "worth" = _ := (k21 _ (by decide +kernel)).trans n20
  refine @Ex.step X prog w _ _ _ h₀ _ ρ21 _ _ _ "stable" (dR (sbOf (nums zs))) (@Ex1.of_eq X prog w _ _ _ h₀ _ ρ21 _ "stable" _ (dR (sbOf (nums zs))) (@law_stable X prog w mg mb (k + 10) B h₀ ρ21 _ kb _ _ _ n21 h_wishes_21 h_worth_21 (by decide) ok.sok) (rfl)) fun ρ22 n22 k22 => ?_
  have h_wishes_22 : ρ22 "wishes" = _ := (k22 _ (by decide +kernel)).trans h_wishes_21
  have h_come_22 : ρ22 "come" = _ := (k22 _ (by decide +kernel)).trans h_come_21
  refine @Ex.cons X prog w _ _ _ h₀ _ ρ22 _ _ _ _ (@law_if_come X prog w mg mb (k + 10) B h₀ ρ22 _ kb _ _ _ h_come_22 n22 h_wishes_22 ok.wl ok.wr ok.wco ok.wst ok.cin ok.opt) ?_
  refine @Ex.step X prog w _ _ _ h₀ _ ρ22 _ _ _ "behind" (dR ((sbOf (nums zs)).map (behindRow (wiOf (nums zs))))) (@law_behind X prog w mg mb (k + 10) B h₀ ρ22 _ kb _ _ n22 h_wishes_22 ok.wl ok.wr ok.wst (sb_len _)) fun ρ24 n24 k24 => ?_
  have h_wishes_24 : ρ24 "wishes" = _ := (k24 _ (by decide +kernel)).trans h_wishes_22
  have h_come_24 : ρ24 "come" = _ := (k24 _ (by decide +kernel)).trans h_come_22
  have e0 : ∀ way, (behindRow (wiOf (nums zs)) way).sum = placeOf (wiOf (nums zs)) way 3 + (placeOf (wiOf (nums zs)) way 2 + (placeOf (wiOf (nums zs)) way 1 + (placeOf (wiOf (nums zs)) way 0 + 0))) := fun way => rfl
  refine @Ex.ret X prog w _ _ _ h₀ _ ρ24 _ _ _ (@law_return X prog w mg mb (k + 6) B h₀ ρ24 kb hBig hB0 _ _ _ ((behindRow (wiOf (nums zs)) (coOf (nums zs))).sum) h_come_24 h_wishes_24 n24 ok.wl ok.wr ok.wco (by rw [List.length_map]; exact sb_len _) ?_ ?_ ?_)
  · rw [List.map_map]
    exact List.mem_map.mpr ⟨_, ok.cin, rfl⟩
  · intro x hx
    rw [List.map_map] at hx
    obtain ⟨way, hw, rfl⟩ := List.mem_map.mp hx
    have o0 := ok.opt way hw 0 (by decide)
    have o1 := ok.opt way hw 1 (by decide)
    have o2 := ok.opt way hw 2 (by decide)
    have o3 := ok.opt way hw 3 (by decide)
    show _ ≤ (behindRow (wiOf (nums zs)) way).sum
    rw [e0, e0]
    lia
  · rw [e0]
    lia
end
end
section
variable {X : Addr → Prop}
section
variable {prog : Program} {w : World} {mg mb : Str → Option Value} {k : Nat} {B : Nat}
noncomputable abbrev FoldOk (prog : Program) (w : World) (X : Addr → Prop) (mg mb : Str → Option Value) (B k : Nat) (zs : List Int) : Prop :=
  ∀ h₀ : Heap, Fold (StepC prog w X (RL B) (GL w mg mb B) B (k + 11) [lEnv w h₀.objs.size] 142) (.tup [.list [], .list []]) ((talkOf (textAt (nums zs) 0) (textAt (nums zs) 1) (textAt (nums zs) 2) (textAt (nums zs) 3) (modeAt ((nums zs).getD 4 0)) (modeAt ((nums zs).getD 5 0)) (modeAt ((nums zs).getD 6 0)) (modeAt ((nums zs).getD 7 0)) (spoilAt (nums zs) 0) (spoilAt (nums zs) 1) (spoilAt (nums zs) 2) (spoilAt (nums zs) 3)).map D.str) (toldD (tsOf (nums zs)) (msOf (nums zs)) (refOf (nums zs)))
theorem law_ca (kb : KB w B) (hBig : 180 < B) (hX : ∀ a, (hd.heap_39 w.params).lookup a = some (objAt w a) → (objAt w a).cls ≠ .none → X a) {zs : List Int} (hz : zs.length ≤ 63) (ok : LawOk (nums zs)) (fold : FoldOk prog w X mg mb B k zs) :
    Ca prog w X (RL B) (fun h => (GL w mg mb B h ∧ B ≤ h.objs.size) ∧ Up X h) ⟨k + 12 + 1, some [], true⟩ (.ref 180) [dI zs] (.bool true) :=
  Ca.atR (k := k + 12) (RL.rel B) (G := fun h => GL w mg mb B h ∧ B ≤ h.objs.size) (fun h g => g.1.1) 180 179 (names := ["script"]) (by rfl) (by intro h; cases h) (by rfl) (by rfl) (by rfl) (by rfl) (by intro h; cases h) ⟨_, _, by rfl, by rfl⟩ (by rfl) (by rfl) (by rfl) (by rfl) (by kernel_rfl) (by rfl)
    (len1 (fun a0 => by kernel_rfl)) (fun n x hx => by
      simp at hx
      subst hx
      exact .inl (by rfl)) fun h₀ g0 => @Ex.weakG X prog w _ _ _ _ h₀ _ _ _ _ (fun h g => g.1) (@law_body X prog w mg mb k B h₀ _ kb hBig g0.2 hX zs hz ok fold (by rfl))
end
end
section
open PySem.W.X
theorem ints_rd {X : Addr → Prop} {P : Params} {h : Heap} : ∀ {zs : List Int} {vs : List Value}, WellAll P h vs (ofPys (zs.map PyData.int)) → RdL X h (zs.map D.int) vs
  | [], _, w => by
    cases w
    exact .nil
  | z :: zs, _, w => by
    cases w with
    | cons a b =>
      cases a
      exact .cons (.int _ _) (ints_rd b)
theorem list_rd {P : Params} {h : Heap} {zs : List Int} {v : Value} (w : Well P h v (ofPy (PyData.list (zs.map PyData.int)))) : Rd (fun _ => True) h (dI zs) v := by
  simp only [ofPy] at w
  cases w with
  | list a b => exact .list trivial a (ints_rd b)
noncomputable def dataFields : Data → Array Value
  | .fields vs => vs
  | _ => #[]
theorem tt_of {w : World} {h : Heap} (KX : (hd.heap_39 w.params).In h) (i1 : ∃ P, h.IsCode 179 P #[] ∧ h.TableAt 179 P #[]) (i2 : ∃ P, h.IsCode 20 P #[] ∧ h.TableAt 20 P #[]) (B : Nat) : TT B h := by
  have e1 : h.get? 179 = some (objAt w 179) := KX _ _ (by rfl)
  have e2 : h.get? 20 = some (objAt w 20) := KX _ _ (by rfl)
  have g1 : (dataFields (objAt w 179).data)[11]? = some (.ref 177) := by rfl
  have g2 : (dataFields (objAt w 20).data)[11]? = some (.ref 16) := by rfl
  obtain ⟨P1, a1, b1⟩ := i1
  obtain ⟨P2, a2, b2⟩ := i2
  obtain rfl : P1 = 177 := by
    obtain ⟨⟨o, vs, f1, f2, f3, f4⟩, _⟩ := b1
    rw [e1] at f1
    cases f1
    rw [f3] at g1
    have : some (Value.ref P1) = some (.ref 177) := f4.symm.trans g1
    simpa using this
  obtain rfl : P2 = 16 := by
    obtain ⟨⟨o, vs, f1, f2, f3, f4⟩, _⟩ := b2
    rw [e2] at f1
    cases f1
    rw [f3] at g2
    have : some (Value.ref P2) = some (.ref 16) := f4.symm.trans g2
    simpa using this
  exact ⟨⟨_, a1, b1, fun pos v e => by cases e⟩, .inl ⟨_, a2, b2, rfl⟩⟩
theorem fa_of {w : World} {h : Heap} {mg : Str → Option Value} (KX : (hd.heap_39 w.params).In h) (g : h.Ns mainGlobals mg) : mg "law" = some (.ref 180) ∧ mg "cmp_to_key" = some (.ref 21) := by
  have k3 : (K3 w).In h := fun a o e => by
    unfold K3 at e
    rw [List.lookup_cons] at e
    split at e
    · rename_i q
      cases e
      have : a = 3 := by simpa [mainGlobals] using q
      subst this
      exact KX _ _ (by rfl)
    · cases e
  exact ⟨mg_of k3 g (by kernel_rfl), mg_of k3 g (by kernel_rfl)⟩
theorem kb_of {w : World} {h : Heap} (KX : (hd.heap_39 w.params).In h) : KB w h.objs.size := fun a o e => Heap.lt_size (KX a o e)
theorem top (pl : ∀ zs : List Int, zs.length ≤ 63 → LawOk (nums zs) ∧ ∀ (prog : Program) (w : World) (mg mb : Str → Option Value) (B : Nat), KB w B → FoldOk prog w (fun _ => True) mg mb B 10 zs) : PySem.Challenge.rw_oy0140_01.Holds := hd (by rfl) (by rfl) (by rfl) (by
  intro w s₀ s₁ mg mb G Y fa o pm cd doc dV kV ho hd' hcd hD hmg hg args vals as hpre hlay hrd hwl hlo
  have KX := kIn_of Y
  have T := G.T
  clear G Y hD hd' hcd ho
  wrow_args hpre hlay hrd hwl hlo
  rename_i zs e1 e2 e3 e4 e5 as1 as2 la vs as3 hL ra w1 r0 hI hr hc1 hc2
  have hz : zs.length ≤ 63 := by omega
  obtain ⟨ok, fold⟩ := pl zs hz
  have kb := kb_of KX
  have hfa := fa_of KX T.g
  obtain rfl : fa = 180 := by
    have := hmg.symm.trans hfa.1
    simpa using this
  have gs : Gs w mg mb s₁.heap := ⟨fun a o e _ => KX a o e, T.g, T.b, T.nolimit, T.builtins⟩
  have tb : ∀ d ∈ recsOf hd.view_39, ∀ a, mg d.name = some (.ref a) → ∀ c, (fdAt w a).code = .ref c → (objAt w a).data = .func (fdAt w a) → s₁.heap.get? a = some (objAt w a) → ∃ P, s₁.heap.IsCode c P #[] ∧ s₁.heap.TableAt c P #[] := by
    intro d hd1 a ha c hc hob hga
    obtain ⟨a', o', fd', c', P', q1, q2, q3, q4, q5, q6⟩ := T.tab d hd1
    rw [ha] at q1
    cases q1
    rw [hga] at q2
    cases q2
    rw [hob] at q3
    cases q3
    rw [hc] at q4
    cases q4
    exact ⟨P', q5, q6⟩
  have r1 : ∃ d ∈ recsOf hd.view_39, d.name = "law" := by
    have : (recsOf hd.view_39).any (fun d => d.name == "law") = true := by decide +kernel
    obtain ⟨d, a, b⟩ := List.any_eq_true.mp this
    exact ⟨d, a, beq_iff_eq.mp b⟩
  have r2 : ∃ d ∈ recsOf hd.view_39, d.name = "cmp_to_key" := by
    have : (recsOf hd.view_39).any (fun d => d.name == "cmp_to_key") = true := by decide +kernel
    obtain ⟨d, a, b⟩ := List.any_eq_true.mp this
    exact ⟨d, a, beq_iff_eq.mp b⟩
  have t1 : ∃ P, s₁.heap.IsCode 179 P #[] ∧ s₁.heap.TableAt 179 P #[] := by
    obtain ⟨d, a, b⟩ := r1
    exact tb d a 180 (b ▸ hfa.1) 179 (by rfl) (by rfl) (KX _ _ (by rfl))
  have t2 : ∃ P, s₁.heap.IsCode 20 P #[] ∧ s₁.heap.TableAt 20 P #[] := by
    obtain ⟨d, a, b⟩ := r2
    exact tb d a 21 (b ▸ hfa.2) 20 (by rfl) (by rfl) (KX _ _ (by rfl))
  have tt : TT s₁.heap.objs.size s₁.heap := tt_of KX t1 t2 _
  have hBig : 180 < s₁.heap.objs.size := kb 180 (objAt w 180) (by rfl)
  have c1 : ∀ b ∈ [16, 177], isCodeTable s₁.heap b := by
    intro b hb
    obtain ⟨⟨p1, _, x1, _⟩, y⟩ := tt
    simp only [List.mem_cons, List.not_mem_nil, or_false] at hb
    rcases hb with rfl | rfl
    · rcases y with ⟨_, _, y, _⟩ | ⟨_, _, _, _, y, _⟩
      · exact y.isCodeTable
      · exact y.isCodeTable
    · exact x1.isCodeTable
  refine (law_ca (k := 10) (X := fun _ => True) kb hBig (fun _ _ _ => trivial) hz ok (fold _ _ _ _ _ kb)).run callerA s₁ _ _ [.ref la] ⟨fun _ => rfl, by decide, by decide, fun l e => by cases e; rfl⟩ ⟨⟨⟨gs, tt⟩, Nat.le_refl _⟩, fun a n => absurd trivial n⟩ (.cons (list_rd w1) .nil) (fun v h' t hr rv => ?_)
  cases rv
  refine ⟨.inl ⟨_, _, [], rfl, fun _ => rfl, ReadsW.bool true, ?_, fun _ => ⟨List.nodup_nil, fun _ hm => (nomatch hm)⟩⟩, Rm.oldK hr c1, rfl, ?_⟩
  · first | rfl | wrow_post
  · rw [hg]
    exact AllBare.empty)
end
section
variable {X : Addr → Prop}
-- the digits of the listing
theorem ten_chars (c0 c1 c2 c3 c4 c5 c6 c7 c8 c9 : Nat) : ((⟨#[c0]⟩ : Str) ++ ⟨#[c1]⟩ ++ ⟨#[c2]⟩ ++ ⟨#[c3]⟩ ++ ⟨#[c4]⟩ ++ ⟨#[c5]⟩ ++ ⟨#[c6]⟩ ++ ⟨#[c7]⟩ ++ ⟨#[c8]⟩ ++ ⟨#[c9]⟩ : Str) = ⟨#[c0, c1, c2, c3, c4, c5, c6, c7, c8, c9]⟩ := rfl
noncomputable def d3 (a b c : Str) : Int := bitOf 4 (a == "r") + bitOf 2 (b == "w") + bitOf 1 (isIn "xst" c)
theorem digits_chars (c0 c1 c2 c3 c4 c5 c6 c7 c8 c9 : Nat) : digitsOf ⟨#[c0, c1, c2, c3, c4, c5, c6, c7, c8, c9]⟩ = [d3 ⟨#[c1]⟩ ⟨#[c2]⟩ ⟨#[c3]⟩, d3 ⟨#[c4]⟩ ⟨#[c5]⟩ ⟨#[c6]⟩, d3 ⟨#[c7]⟩ ⟨#[c8]⟩ ⟨#[c9]⟩, bitOf 4 (isIn "sS" ⟨#[c3]⟩) + bitOf 2 (isIn "sS" ⟨#[c6]⟩) + bitOf 1 (isIn "tT" ⟨#[c9]⟩)] := rfl
theorem one_char (x : Str) (i : Int) : ∃ c : Nat, Txt.item x i = ⟨#[c]⟩ := ⟨_, rfl⟩
theorem list_digits (x0 x1 x2 x3 x4 x5 x6 x7 x8 x9 : Str) (h0 : ∃ c : Nat, x0 = ⟨#[c]⟩) (h1 : ∃ c : Nat, x1 = ⟨#[c]⟩) (h2 : ∃ c : Nat, x2 = ⟨#[c]⟩) (h3 : ∃ c : Nat, x3 = ⟨#[c]⟩) (h4 : ∃ c : Nat, x4 = ⟨#[c]⟩) (h5 : ∃ c : Nat, x5 = ⟨#[c]⟩) (h6 : ∃ c : Nat, x6 = ⟨#[c]⟩) (h7 : ∃ c : Nat, x7 = ⟨#[c]⟩) (h8 : ∃ c : Nat, x8 = ⟨#[c]⟩) (h9 : ∃ c : Nat, x9 = ⟨#[c]⟩) :
    (x0 ++ x1 ++ x2 ++ x3 ++ x4 ++ x5 ++ x6 ++ x7 ++ x8 ++ x9).length = 10 ∧ digitsOf (x0 ++ x1 ++ x2 ++ x3 ++ x4 ++ x5 ++ x6 ++ x7 ++ x8 ++ x9) = [d3 x1 x2 x3, d3 x4 x5 x6, d3 x7 x8 x9, bitOf 4 (isIn "sS" x3) + bitOf 2 (isIn "sS" x6) + bitOf 1 (isIn "tT" x9)] := by
  obtain ⟨c0, rfl⟩ := h0
  obtain ⟨c1, rfl⟩ := h1
  obtain ⟨c2, rfl⟩ := h2
  obtain ⟨c3, rfl⟩ := h3
  obtain ⟨c4, rfl⟩ := h4
  obtain ⟨c5, rfl⟩ := h5
  obtain ⟨c6, rfl⟩ := h6
  obtain ⟨c7, rfl⟩ := h7
  obtain ⟨c8, rfl⟩ := h8
  obtain ⟨c9, rfl⟩ := h9
  rw [ten_chars]
  exact ⟨rfl, digits_chars ..⟩
theorem list_len (m : Int) : (listText m).length = 10 := (list_digits _ _ _ _ _ _ _ _ _ _ (one_char _ _) (one_char _ _) (one_char _ _) (one_char _ _) (one_char _ _) (one_char _ _) (one_char _ _) (one_char _ _) (one_char _ _) (one_char _ _)).1
theorem d3_xs : ∀ u : Fin 8, ∀ a : Fin 2, d3 (Txt.item (Str.ofString "-r") ((u.val : Int) / 4)) (Txt.item (Str.ofString "-w") ((u.val : Int) / 2 % 2)) (Txt.item (Str.ofString "-xSs") ((u.val : Int) % 2 + (a.val : Int) * 2)) = (u.val : Int) ∧ bitOf 1 (isIn "sS" (Txt.item (Str.ofString "-xSs") ((u.val : Int) % 2 + (a.val : Int) * 2))) = (a.val : Int) := by decide +kernel
theorem d3_xt : ∀ u : Fin 8, ∀ a : Fin 2, d3 (Txt.item (Str.ofString "-r") ((u.val : Int) / 4)) (Txt.item (Str.ofString "-w") ((u.val : Int) / 2 % 2)) (Txt.item (Str.ofString "-xTt") ((u.val : Int) % 2 + (a.val : Int) * 2)) = (u.val : Int) ∧ bitOf 1 (isIn "tT" (Txt.item (Str.ofString "-xTt") ((u.val : Int) % 2 + (a.val : Int) * 2))) = (a.val : Int) := by decide +kernel
theorem bit_mul (n : Int) (b : Bool) : bitOf n b = n * bitOf 1 b := by cases b <;> simp [bitOf]
theorem digits_of_mode (m : Int) : digitsOf (listText m) = [m / 64 % 8, m / 8 % 8, m / 1 % 8, m / 512 % 8] := by
  obtain ⟨u, hu⟩ := fin8 (m / 64)
  obtain ⟨g, hg⟩ := fin8 (m / 8)
  obtain ⟨o, ho⟩ := fin8 (m / 1)
  obtain ⟨a, ha⟩ := fin2 (m / 512 / 4)
  obtain ⟨b, hb⟩ := fin2 (m / 512 / 2)
  obtain ⟨c, hc⟩ := fin2 (m / 512 / 1)
  have s : m / 512 % 8 = 4 * (m / 512 / 4 % 2) + 2 * (m / 512 / 2 % 2) + 1 * (m / 512 / 1 % 2) := by
    rw [← e84, ← e82, Int.ediv_one, ← Int.emod_emod_of_dvd (m / 512) (show (2 : Int) ∣ 8 by decide)]
    obtain ⟨v, hv⟩ := fin8 (m / 512)
    rw [hv]; clear hv; revert v; decide
  refine (list_digits _ _ _ _ _ _ _ _ _ _ (one_char _ _) (one_char _ _) (one_char _ _) (one_char _ _) (one_char _ _) (one_char _ _) (one_char _ _) (one_char _ _) (one_char _ _) (one_char _ _)).2.trans ?_
  rw [s, bit_mul 4, bit_mul 2, hu, hg, ho, ha, hb, hc, (d3_xs u a).1, (d3_xs g b).1, (d3_xt o c).1, (d3_xs u a).2, (d3_xs g b).2, (d3_xt o c).2, Int.one_mul]
-- the ranks
noncomputable def qN (d0 d1 d2 d3 : Nat) : Nat → Nat
  | 0 => d0
  | 1 => d1
  | 2 => d2
  | 3 => d3
  | _ => d0
noncomputable def ltN (d0 d1 d2 d3 : Nat) (i j : Nat) : Bool := decide (qN d0 d1 d2 d3 j < qN d0 d1 d2 d3 i)
noncomputable def srtN (d0 d1 d2 d3 : Nat) : Bool :=
  match (kasRun (ltN d0 d1 d2 d3) (kas_sort 4)).toList with
  | [a, b, c, d] => decide (4 * qN d0 d1 d2 d3 b + a < 4 * qN d0 d1 d2 d3 a + b) && decide (4 * qN d0 d1 d2 d3 c + b < 4 * qN d0 d1 d2 d3 b + c) && decide (4 * qN d0 d1 d2 d3 d + c < 4 * qN d0 d1 d2 d3 c + d)
  | _ => false
theorem srt_all : ((List.range 8).all fun d0 => (List.range 8).all fun d1 => (List.range 8).all fun d2 => (List.range 8).all fun d3 => srtN d0 d1 d2 d3) = true := by decide +kernel
end
section
variable {X : Addr → Prop}
theorem ways_len : ∀ l ∈ waysL, l.length = 4 ∧ ∀ p ∈ l, 0 ≤ p ∧ p < 4 := by decide +kernel
theorem ways_ix : ∀ l ∈ waysL, ∀ k : Fin 4, idx l (l.getD k.val 0) = k.val ∧ idx l (k.val : Int) < 4 ∧ l.getD (idx l (k.val : Int)) 0 = (k.val : Int) ∧ (k.val : Int) ∈ l := by decide +kernel
theorem ways_all : ∀ a b c d : Fin 4, a ≠ b → a ≠ c → a ≠ d → b ≠ c → b ≠ d → c ≠ d → [(a.val : Int), (b.val : Int), (c.val : Int), (d.val : Int)] ∈ waysL := by decide +kernel
theorem ways_has : ∀ a b c d : Fin 4, ([a.val, b.val, c.val, d.val].contains 0 && [a.val, b.val, c.val, d.val].contains 1 && [a.val, b.val, c.val, d.val].contains 2 && [a.val, b.val, c.val, d.val].contains 3) = true → [(a.val : Int), (b.val : Int), (c.val : Int), (d.val : Int)] ∈ waysL := by decide +kernel
theorem i4_nat {x : Int} (h : I4 x) : ∃ n : Nat, n < 4 ∧ x = (n : Int) := ⟨x.toNat, by unfold I4 at h; lia, by unfold I4 at h; lia⟩
section
variable {wishes ranks worth : List (List Int)} {way : List Int}
noncomputable abbrev woF (worth : List (List Int)) (p i : Int) : Int := (worth.getD p.toNat []).getD i.toNat 0
-- the rows are permutations
structure Rows (wishes ranks worth : List (List Int)) : Prop where
  lw : wishes.length = 4
  lr : ranks.length = 4
  lo : worth.length = 4
  hw : ∀ j : Nat, j < 4 → wishes.getD j [] ∈ waysL
  hr : ∀ j : Nat, j < 4 → ranks.getD j [] ∈ waysL
  ho : ∀ p : Nat, p < 4 → (worth.getD p []).length = 4
  dec : ∀ p i j : Nat, p < 4 → i < 4 → j < 4 → idx (ranks.getD p []) (i : Int) < idx (ranks.getD p []) (j : Int) → (worth.getD p []).getD j 0 < (worth.getD p []).getD i 0
theorem Rows.shape (R : Rows wishes ranks worth) : Shape wishes ranks where
  w4 := R.lw
  wr := fun i hi => (ways_len _ (R.hw i hi)).1
  wv := fun i hi => (ways_len _ (R.hw i hi)).2
  r4 := R.lr
  rl := fun i hi => (ways_len _ (R.hr i hi)).1
  rv := fun i hi o h0 h1 => by
    obtain ⟨n, hn, rfl⟩ := i4_nat ⟨h0, h1⟩
    exact (ways_ix _ (R.hr i hi) ⟨n, hn⟩).2.2.2
theorem Rows.inst (R : Rows wishes ranks worth) : Inst (wiF wishes) (ixF wishes) (ixF ranks) (woF worth) where
  wv := fun {x k} hx hk => by
    obtain ⟨n, hn, rfl⟩ := i4_nat hx
    obtain ⟨m, hm, rfl⟩ := i4_nat hk
    have L := ways_len _ (R.hw n hn)
    exact L.2 _ (getD_mem (show m < (wishes.getD n []).length by rw [L.1]; exact hm))
  xw := fun {x k} hx hk => by
    obtain ⟨n, hn, rfl⟩ := i4_nat hx
    obtain ⟨m, hm, rfl⟩ := i4_nat hk
    exact congrArg Nat.cast (ways_ix _ (R.hw n hn) ⟨m, hm⟩).1
  xv := fun {x p} hx hp => by
    obtain ⟨n, hn, rfl⟩ := i4_nat hx
    obtain ⟨m, hm, rfl⟩ := i4_nat hp
    exact i4_of _ (ways_ix _ (R.hw n hn) ⟨m, hm⟩).2.1
  wx := fun {x p} hx hp => by
    obtain ⟨n, hn, rfl⟩ := i4_nat hx
    obtain ⟨m, hm, rfl⟩ := i4_nat hp
    exact (ways_ix _ (R.hw n hn) ⟨m, hm⟩).2.2.1
  rw := fun {p i j} hp hi hj h => by
    obtain ⟨n, hn, rfl⟩ := i4_nat hp
    obtain ⟨m, hm, rfl⟩ := i4_nat hi
    obtain ⟨l, hl, rfl⟩ := i4_nat hj
    exact R.dec n m l hn hm hl (Int.ofNat_lt.mp h)
  ri := fun {p i j} hp hi hj h => by
    obtain ⟨n, hn, rfl⟩ := i4_nat hp
    obtain ⟨m, hm, rfl⟩ := i4_nat hi
    obtain ⟨l, hl, rfl⟩ := i4_nat hj
    have h' : idx (ranks.getD n []) (m : Int) = idx (ranks.getD n []) (l : Int) := Int.ofNat.inj h
    have a := (ways_ix _ (R.hr n hn) ⟨m, hm⟩).2.2.1
    have b := (ways_ix _ (R.hr n hn) ⟨l, hl⟩).2.2.1
    simp only at a b
    rw [← a, ← b, h']
theorem Rows.sok (R : Rows wishes ranks worth) (h : way ∈ waysL) : StableOk way wishes worth where
  way4 := (ways_len _ h).1
  wishes4 := R.lw
  worth4 := R.lo
  row4 := R.ho
  has := fun i hi => by
    have L := ways_len _ h
    obtain ⟨n, hn, e⟩ := i4_nat (L.2 _ (getD_mem (l := way) (i := i) (by rw [L.1]; exact hi)))
    rw [e]
    exact (ways_ix _ (R.hw i hi) ⟨n, hn⟩).2.2.2
  len := fun i hi => (ways_len _ (R.hw i hi)).1
  in4 := fun i hi p hp => by
    have L := (ways_len _ (R.hw i hi)).2 p hp
    obtain ⟨n, hn, rfl⟩ := i4_nat L
    exact ⟨L.1, L.2, (ways_ix _ h ⟨n, hn⟩).2.2.2⟩
theorem Rows.wok (R : Rows wishes ranks worth) (h : way ∈ waysL) : WayOk wishes way := ⟨(R.sok h).way4, (R.sok h).has⟩
theorem Rows.stb (R : Rows wishes ranks worth) (h : way ∈ waysL) (hs : stableB way wishes worth = true) : Stb (wiF wishes) (ixF wishes) (woF worth) (atF way) where
  val := fun {x} hx => by
    obtain ⟨n, hn, rfl⟩ := i4_nat hx
    have L := ways_len _ h
    exact L.2 _ (getD_mem (l := way) (i := n) (by rw [L.1]; exact hn))
  inj := fun {x y} hx hy e => by
    obtain ⟨n, hn, rfl⟩ := i4_nat hx
    obtain ⟨m, hm, rfl⟩ := i4_nat hy
    have a := (ways_ix _ h ⟨n, hn⟩).1
    have b := (ways_ix _ h ⟨m, hm⟩).1
    have e' : way.getD n 0 = way.getD m 0 := e
    simp only at a b
    rw [← a, ← b, e']
  sur := fun {p} hp => by
    obtain ⟨n, hn, rfl⟩ := i4_nat hp
    have a := ways_ix _ h ⟨n, hn⟩
    exact ⟨_, i4_of _ a.2.1, a.2.2.1⟩
  nob := fun {x y k} hx hy k0 kl e => by
    obtain ⟨n, hn, rfl⟩ := i4_nat hx
    obtain ⟨m, hm, rfl⟩ := i4_nat hy
    obtain ⟨j, rfl⟩ := Int.eq_ofNat_of_zero_le k0
    have kl' : j < idx (wishes.getD n []) (way.getD n 0) := Int.ofNat_lt.mp kl
    have e' : (wishes.getD n []).getD j 0 = way.getD m 0 := e
    have L := ways_len _ (R.hw n hn)
    have W := ways_len _ h
    have hm4 : way.getD n 0 ∈ wishes.getD n [] := (R.sok h).has n hn
    have jl : j < (wishes.getD n []).length := Nat.lt_trans kl' (idx_lt hm4)
    have mem : way.getD m 0 ∈ (wishes.getD n []).take (idx (wishes.getD n []) (way.getD n 0)) := by
      rw [List.mem_iff_getElem?]
      refine ⟨j, ?_⟩
      rw [List.getElem?_take, if_pos kl', ← e']
      generalize wishes.getD n [] = r at jl
      simp [List.getD, jl]
    unfold stableB at hs
    have := List.all_eq_true.mp (List.all_eq_true.mp hs n (by simpa using hn)) _ mem
    simp only [likes, Bool.not_eq_true', decide_eq_false_iff_not, gt_iff_lt, Int.not_lt] at this
    have a := (ways_ix _ h ⟨m, hm⟩).1
    simp only at a
    rw [a] at this
    exact this
theorem stable_of (R : Rows wishes ranks worth) (h : way ∈ waysL) (S : Stb (wiF wishes) (ixF wishes) (woF worth) (atF way)) : stableB way wishes worth = true := by
  unfold stableB
  refine List.all_eq_true.mpr fun n hn => List.all_eq_true.mpr fun p hp => ?_
  have hn : n < 4 := by simpa using hn
  obtain ⟨j, hj⟩ := List.mem_iff_getElem?.mp hp
  rw [List.getElem?_take] at hj
  split at hj
  · rename_i jl
    have pm : p ∈ wishes.getD n [] := List.mem_of_getElem? hj
    obtain ⟨m, hm, rfl⟩ := i4_nat ((ways_len _ (R.hw n hn)).2 p pm)
    have a := ways_ix _ h ⟨m, hm⟩
    simp only at a
    have e : (wishes.getD n []).getD j 0 = (m : Int) := by rw [List.getD_eq_getElem?_getD, hj]; rfl
    have := S.nob (x := (n : Int)) (y := (idx way (m : Int) : Int)) (k := (j : Int)) (i4_of n hn) (i4_of _ a.2.1) (by lia) (Int.ofNat_lt.mpr jl) (e.trans a.2.2.1.symm)
    have w2 : atF way (idx way (m : Int) : Int) = (m : Int) := a.2.2.1
    rw [w2] at this
    simp only [likes, Bool.not_eq_true', decide_eq_false_iff_not, gt_iff_lt, Int.not_lt]
    exact this
  · cases hj
theorem way_in {l : List Int} (hl : l.length = 4) (hv : ∀ x, I4 x → I4 (atF l x)) (hi : ∀ x y, I4 x → I4 y → atF l x = atF l y → x = y) : l ∈ waysL := by
  obtain ⟨a, b, c, d, rfl⟩ := list_four hl
  have i0 : I4 0 := ⟨by decide, by decide⟩
  have i1 : I4 1 := ⟨by decide, by decide⟩
  have i2 : I4 2 := ⟨by decide, by decide⟩
  have i3 : I4 3 := ⟨by decide, by decide⟩
  have ha : I4 a := hv 0 i0
  have hb : I4 b := hv 1 i1
  have hc : I4 c := hv 2 i2
  have hd : I4 d := hv 3 i3
  have ab : a ≠ b := fun e => absurd (hi 0 1 i0 i1 e) (by decide)
  have ac : a ≠ c := fun e => absurd (hi 0 2 i0 i2 e) (by decide)
  have ad : a ≠ d := fun e => absurd (hi 0 3 i0 i3 e) (by decide)
  have bc : b ≠ c := fun e => absurd (hi 1 2 i1 i2 e) (by decide)
  have bd : b ≠ d := fun e => absurd (hi 1 3 i1 i3 e) (by decide)
  have cd : c ≠ d := fun e => absurd (hi 2 3 i2 i3 e) (by decide)
  obtain ⟨na, la, rfl⟩ := i4_nat ha
  obtain ⟨nb, lb, rfl⟩ := i4_nat hb
  obtain ⟨nc, lc, rfl⟩ := i4_nat hc
  obtain ⟨nd, ld, rfl⟩ := i4_nat hd
  refine ways_all ⟨na, la⟩ ⟨nb, lb⟩ ⟨nc, lc⟩ ⟨nd, ld⟩ ?_ ?_ ?_ ?_ ?_ ?_ <;> (rw [ne_eq, Fin.mk.injEq]; lia)
-- what comes of the turns
structure Done (wishes ranks worth : List (List Int)) (ts : List Int) : Prop where
  ask : AskAll wishes ranks start3 ts
  free : (askRun wishes ranks start3 ts).1 = []
  hl : (askRun wishes ranks start3 ts).2.2.length = 4
  hm : ∀ j : Nat, j < 4 → (j : Int) ∈ (askRun wishes ranks start3 ts).2.2
  cw : comeL (askRun wishes ranks start3 ts).2.2 ∈ waysL
  cs : stableB (comeL (askRun wishes ranks start3 ts).2.2) wishes worth = true
  opt : ∀ way ∈ waysL, stableB way wishes worth = true → ∀ j : Nat, j < 4 → placeOf wishes (comeL (askRun wishes ranks start3 ts).2.2) j ≤ placeOf wishes way j
theorem Rows.done (R : Rows wishes ranks worth) {ts : List Int} (h : ts.length = 16) : Done wishes ranks worth ts := by
  obtain ⟨ask, free, I⟩ := Inv3.done R.inst R.shape h
  generalize hst : askRun wishes ranks start3 ts = s at free I
  obtain ⟨F, T, H⟩ := s
  simp only at free
  subst free
  have h4 : H.length = 4 := I.h4
  have hm : ∀ j : Nat, j < 4 → (j : Int) ∈ H := fun j hj => by
    rcases I.inv.ah (i4_of j hj) with a | ⟨p, hp, e⟩
    · cases a
    · obtain ⟨n, hn, rfl⟩ := i4_nat hp
      have e' : H.getD n 0 = (j : Int) := e
      rw [← e']
      exact getD_mem (by lia)
  have at4 : ∀ n : Nat, n < 4 → atF (comeL H) (n : Int) = (idx H (n : Int) : Int) := fun n hn => by
    rcases n with _ | _ | _ | _ | n
    · rfl
    · rfl
    · rfl
    · rfl
    · lia
  have hC : ∀ x, I4 x → I4 (atF (comeL H) x) ∧ atF H (atF (comeL H) x) = x := fun x hx => by
    obtain ⟨n, hn, rfl⟩ := i4_nat hx
    rw [at4 n hn]
    have := idx_lt (hm n hn)
    obtain ⟨q, _⟩ := idx_at (hm n hn)
    refine ⟨i4_of _ (by lia), ?_⟩
    show H.getD (idx H (n : Int)) 0 = _
    rw [List.getD_eq_getElem?_getD, q]
    rfl
  obtain ⟨st, op⟩ := I.inv.fin R.inst hC
  have cw : comeL H ∈ waysL := way_in rfl (fun x hx => (hC x hx).1) fun x y hx hy e => st.inj hx hy e
  exact ⟨ask, by rw [hst], by rw [hst]; exact h4, by rw [hst]; exact hm, by rw [hst]; exact cw, by rw [hst]; exact stable_of R cw st, by rw [hst]; exact fun way hw hs j hj => op _ (R.stb hw hs) _ (i4_of j hj)⟩
end
end
section
variable {X : Addr → Prop}
open PySem.Builtin PySem.Builtin.Str
-- the places of a sign
noncomputable def posL (c : Nat) : Nat → List Nat → List Nat
  | _, [] => []
  | i, a :: as => if a = c then i :: posL c (i + 1) as else posL c (i + 1) as
theorem posL_app (c : Nat) : ∀ (as bs : List Nat) (i : Nat), posL c i (as ++ bs) = posL c i as ++ posL c (i + as.length) bs
  | [], bs, i => by simp [posL]
  | a :: as, bs, i => by
    simp only [List.cons_append, posL, posL_app c as bs (i + 1), List.length_cons]
    have : i + 1 + as.length = i + (as.length + 1) := by lia
    split <;> simp [this]
theorem posL_none (c : Nat) : ∀ (as : List Nat) (i : Nat), (∀ a ∈ as, a ≠ c) → posL c i as = []
  | [], i, _ => rfl
  | a :: as, i, h => by
    simp only [posL]
    rw [if_neg (h a (List.mem_cons_self ..)), posL_none c as (i + 1) fun b hb => h b (List.mem_cons_of_mem _ hb)]
theorem sub_one (x : Str) (c i : Nat) : subAt x ⟨#[c]⟩ i = decide (x.cps.toList[i]? = some c) := by
  unfold subAt
  have e : (x.cps.extract i (i + (⟨#[c]⟩ : Str).length) == (⟨#[c]⟩ : Str).cps) = decide (x.cps.extract i (i + 1) = #[c]) := by
    show (x.cps.extract i (i + 1) == #[c]) = _
    rw [Bool.eq_iff_iff]
    simp
  rw [e]
  congr 1
  rw [← Array.toList_inj]
  have q : (x.cps.extract i (i + 1)).toList = (x.cps.toList.drop i).take 1 := by
    rw [Array.toList_extract]
    simp [List.extract]
  rw [q]
  have z : ∀ l : List Nat, (l.drop i).take 1 = l[i]?.toList := by
    intro l
    clear q e
    induction l generalizing i with
    | nil => simp
    | cons a l ih =>
      cases i with
      | zero => simp
      | succ i => simpa using ih i
  rw [z]
  cases x.cps.toList[i]? with
  | none => simp
  | some a => simp
theorem occ_run (x : Str) (c limit : Nat) : ∀ (cs : List Nat) (i : Nat) (found : Array Nat) (free : Nat), x.cps.toList.drop i = cs → i + cs.length = x.length → free ≤ i →
    (forIn (List.range' i (cs.length + 1)) (found, free) (PySem.StrLaws.occBody x ⟨#[c]⟩ x.length limit)).run.fst.toList = found.toList ++ (posL c i cs).take (limit - found.size)
  | [], i, found, free, hd, hl, hf => by
    have e : List.range' i (([] : List Nat).length + 1) = [i] := by simp [List.range']
    rw [e, List.forIn_cons]
    unfold PySem.StrLaws.occBody
    have hn : ¬ (((found.size < limit ∧ free ≤ i) ∧ i + (⟨#[c]⟩ : Str).length ≤ x.length) ∧ subAt x ⟨#[c]⟩ i = true) := by
      intro h
      have : i + 1 ≤ x.length := h.1.2
      simp at hl
      lia
    rw [if_neg hn]
    simp [posL]
  | a :: cs, i, found, free, hd, hl, hf => by
    have e : List.range' i ((a :: cs).length + 1) = i :: List.range' (i + 1) (cs.length + 1) := by simp [List.range']
    rw [e, List.forIn_cons]
    have ha : x.cps.toList[i]? = some a := by
      have := congrArg (fun l => l[0]?) hd
      simpa using this
    have hd' : x.cps.toList.drop (i + 1) = cs := by
      have := congrArg (List.drop 1) hd
      simpa [List.drop_drop, Nat.add_comm] using this
    have hl' : i + 1 + cs.length = x.length := by simp at hl; lia
    unfold PySem.StrLaws.occBody
    by_cases hc : a = c
    · by_cases hs : found.size < limit
      · have hp : (((found.size < limit ∧ free ≤ i) ∧ i + (⟨#[c]⟩ : Str).length ≤ x.length) ∧ subAt x ⟨#[c]⟩ i = true) := by
          refine ⟨⟨⟨hs, hf⟩, ?_⟩, by rw [sub_one, ha, hc]; simp⟩
          show i + 1 ≤ x.length
          lia
        rw [if_pos hp]
        have ih := occ_run x c limit cs (i + 1) (found.push i) (i + 1) hd' hl' (Nat.le_refl _)
        refine ih.trans ?_
        simp only [posL, if_pos hc, Array.toList_push, Array.size_push]
        have : limit - found.size = (limit - (found.size + 1)) + 1 := by lia
        rw [this, List.take_succ_cons]
        simp
      · have hp : ¬ (((found.size < limit ∧ free ≤ i) ∧ i + (⟨#[c]⟩ : Str).length ≤ x.length) ∧ subAt x ⟨#[c]⟩ i = true) := fun h => hs h.1.1.1
        rw [if_neg hp]
        have ih := occ_run x c limit cs (i + 1) found free hd' hl' (by lia)
        refine ih.trans ?_
        have : limit - found.size = 0 := by lia
        rw [this]
        simp
    · have hp : ¬ (((found.size < limit ∧ free ≤ i) ∧ i + (⟨#[c]⟩ : Str).length ≤ x.length) ∧ subAt x ⟨#[c]⟩ i = true) := fun h => by
        have := h.2
        rw [sub_one, ha] at this
        simp at this
        exact hc this
      rw [if_neg hp]
      have ih := occ_run x c limit cs (i + 1) found free hd' hl' (by lia)
      refine ih.trans ?_
      simp only [posL, if_neg hc]
theorem occ_one (x : Str) (c limit lo : Nat) (h : lo ≤ x.length) : occurrences x ⟨#[c]⟩ lo x.length limit = (posL c lo (x.cps.toList.drop lo)).take limit := by
  have hl : x.cps.toList.length = x.length := by rw [Array.length_toList]; rfl
  have e : x.length + 1 - lo = (x.cps.toList.drop lo).length + 1 := by rw [List.length_drop, hl]; lia
  rw [PySem.StrLaws.occ_eq, e, occ_run x c limit _ lo #[] lo rfl (by rw [List.length_drop, hl]; lia) (Nat.le_refl _)]
  simp
theorem item_nat (x : Str) (i : Nat) (c : Nat) (h : x.cps.toList[i]? = some c) : Txt.item x (i : Int) = ⟨#[c]⟩ := by
  have hl : x.cps.toList.length = x.length := by rw [Array.length_toList]; rfl
  have lt : i < x.length := by rw [← hl]; exact (List.getElem?_eq_some_iff.mp h).1
  unfold Txt.item Txt.charAt seqIndex?
  have h1 : ¬ ((i : Int) < 0) := by lia
  have h2 : (0 : Int) ≤ (i : Int) := by lia
  have h3 : (i : Int) < (x.length : Int) := by lia
  simp only [h1, h2, h3, if_false, decide_true, Bool.and_self, if_true, Int.toNat_natCast, Option.bind_some]
  have : x.cps[i]? = some c := by rw [← Array.getElem?_toList]; exact h
  rw [this]
  rfl
theorem str_ext {x y : Str} (h : x.cps.toList = y.cps.toList) : x = y := by
  cases x; cases y
  simpa using h
noncomputable abbrev preL : List Nat := [50, 50, 57, 32, 105, 116, 32, 108, 105, 101, 115, 32, 97, 116, 32, 40]
noncomputable abbrev sufL : List Nat := [41, 32, 40, 124, 124, 124, 55, 124, 41]
structure Read229 (x : Str) (m : Int) : Prop where
  hx : x.length ≤ 1000
  h0 : (Txt.slice x none (some 3) != Str.ofString "229") = false
  hb : (Txt.slice x none (some 3) != Str.ofString "257") = true
  h1 : decide (lf x < 0) = false
  hl : lf x + 1 < x.length
  h2 : decide (rt x < 0) = false
  hr : 1 ≤ rt x
  hr2 : rt x ≤ x.length
  h3 : (Txt.item x (lf x + 1) != Txt.item x (rt x - 1)) = false
  hz : (Txt.slice x (some (lf x + 1)) (some (rt x))).length ≤ sizeLine
  hz2 : (partsBetween (Txt.slice x (some (lf x + 1)) (some (rt x))) (occurrences (Txt.slice x (some (lf x + 1)) (some (rt x))) (Txt.item x (lf x + 1)) 0 (Txt.slice x (some (lf x + 1)) (some (rt x))).length ((Txt.slice x (some (lf x + 1)) (some (rt x))).length + 1)) (Txt.item x (lf x + 1)).length).length ≤ sizeLine
  hp : (pts x).length ≤ sizeLine
  h4 : ((((pts x).map D.str).length : Int) != 5) = false
  p3 : ∃ p3, (pts x)[3]? = some p3 ∧ PySem.intText? p3 = some m ∧ p3.length ≤ 640
theorem read229 {k : Nat} (hk : k = 124 ∨ k = 33 ∨ k = 120 ∨ k = 40) {x : Str} {dl : List Nat} {m : Int} (hx : x.cps.toList = preL ++ ([k, k, k] ++ (dl ++ ([k] ++ sufL)))) (hD : ∀ c ∈ dl, c = 45 ∨ (48 ≤ c ∧ c ≤ 57)) (hl : dl.length ≤ 11) (hi : PySem.intText? ⟨dl.toArray⟩ = some m) : Read229 x m := by
  have xl : x.cps.toList.length = x.length := by rw [Array.length_toList]; rfl
  have len : x.length = 29 + dl.length := by rw [← xl, hx]; simp; lia
  have e1 : lf x = 15 := by
    have q : occurrences x (Str.ofString "(") 0 x.length 1 = [15] := by
      show occurrences x ⟨#[40]⟩ 0 x.length 1 = [15]
      rw [occ_one x 40 1 0 (Nat.zero_le _), hx, List.drop_zero, posL_app]
      rfl
    show (match occurrences x (Str.ofString "(") 0 x.length 1 with | i :: _ => (i : Int) | [] => -1) = 15
    rw [q]
    rfl
  have dr : x.cps.toList.drop 16 = [k, k, k] ++ (dl ++ ([k] ++ sufL)) := by rw [hx]; rfl
  have k41 : k ≠ 41 := by lia
  have e2 : rt x = ((20 + dl.length : Nat) : Int) := by
    have q : occurrences x (Str.ofString ")") 16 x.length 1 = [20 + dl.length] := by
      show occurrences x ⟨#[41]⟩ 16 x.length 1 = _
      rw [occ_one x 41 1 16 (by lia), dr, posL_app, posL_app, posL_app, posL_none 41 [k, k, k] _ (by simp [k41]), posL_none 41 dl _ (fun a ha => by have := hD a ha; lia), posL_none 41 [k] _ (by simp [k41])]
      simp only [List.nil_append, List.length_cons, List.length_nil, sufL, posL, if_pos, List.take_succ_cons, List.take_zero]
      congr 1
      lia
    show (match occurrences x (Str.ofString ")") (fromIndex x.length (lf x + 1)) x.length 1 with | i :: _ => (i : Int) | [] => -1) = _
    have f : fromIndex x.length (lf x + 1) = 16 := by rw [e1]; rfl
    rw [f, q]
  have l16 : lf x + 1 = 16 := by rw [e1]; rfl
  have i16 : Txt.item x 16 = ⟨#[k]⟩ := item_nat x 16 k (by rw [hx]; rfl)
  have r1 : rt x - 1 = ((19 + dl.length : Nat) : Int) := by rw [e2]; lia
  have ir : Txt.item x (rt x - 1) = ⟨#[k]⟩ := by
    rw [r1]
    refine item_nat x _ k ?_
    have : 19 + dl.length = 16 + (3 + dl.length) := by lia
    rw [this, ← List.getElem?_drop, dr, List.getElem?_append_right (by simp), List.getElem?_append_right (by simp)]
    simp
  have c16 : clipAt x.length 16 = 16 := by unfold clipAt; rw [if_neg (by lia)]; lia
  have cr : clipAt x.length ((20 + dl.length : Nat) : Int) = 20 + dl.length := by unfold clipAt; rw [if_neg (by lia)]; lia
  have sl : (Txt.slice x (some (lf x + 1)) (some (rt x))).cps.toList = [k, k, k] ++ (dl ++ [k]) := by
    rw [l16, e2, slice_list]
    simp only [Option.elim, c16, cr]
    rw [dr, show 20 + dl.length - 16 = ([k, k, k] ++ (dl ++ [k])).length by simp; lia]
    rw [show [k, k, k] ++ (dl ++ ([k] ++ sufL)) = ([k, k, k] ++ (dl ++ [k])) ++ sufL by simp]
    exact List.take_left
  generalize hs : Txt.slice x (some (lf x + 1)) (some (rt x)) = s at sl
  have sll : s.cps.toList.length = s.length := by rw [Array.length_toList]; rfl
  have slen : s.length = 4 + dl.length := by rw [← sll, sl]; simp; lia
  have oc : occurrences s ⟨#[k]⟩ 0 s.length (s.length + 1) = [0, 1, 2, 3 + dl.length] := by
    rw [occ_one s k _ 0 (Nat.zero_le _), List.drop_zero, sl, posL_app, posL_app, posL_none k dl _ (fun a ha => by have := hD a ha; lia)]
    simp only [posL, if_pos, List.length_cons, List.length_nil, List.nil_append, List.append_nil]
    rw [slen, List.take_of_length_le (by simp; lia)]
    simp
  have pt : partsBetween s [0, 1, 2, 3 + dl.length] 1 = [strSub s 0 0, strSub s 1 1, strSub s 2 2, strSub s 3 (3 + dl.length), strSub s (3 + dl.length + 1) s.length] := rfl
  have kind : decide (strKind s < strKind ⟨#[k]⟩) = false := by
    have : strKind ⟨#[k]⟩ = 1 := by rcases hk with rfl | rfl | rfl | rfl <;> decide +kernel
    rw [this]
    unfold Builtin.Str.strKind
    split
    · decide
    · split <;> decide
  have sp : Txt.split s ⟨#[k]⟩ = [strSub s 0 0, strSub s 1 1, strSub s 2 2, strSub s 3 (3 + dl.length), strSub s (3 + dl.length + 1) s.length] := by
    unfold Txt.split
    have z : (decide (s.length < (⟨#[k]⟩ : Str).length) || decide (strKind s < strKind ⟨#[k]⟩)) = false := by
      rw [kind]
      simp only [Bool.or_false, decide_eq_false_iff_not]
      show ¬ s.length < 1
      lia
    rw [z, oc]
    exact pt
  have d3 : strSub s 3 (3 + dl.length) = ⟨dl.toArray⟩ := by
    refine str_ext ?_
    show (s.cps.extract 3 (3 + dl.length)).toList = _
    rw [Array.toList_extract, sl]
    simp [List.extract]
  have s3 : (Txt.slice x none (some 3)).cps.toList = [50, 50, 57] := by
    rw [slice_list]
    have c3 : clipAt x.length 3 = 3 := by unfold clipAt; rw [if_neg (by lia)]; lia
    simp only [Option.elim, c3]
    rw [hx]
    rfl
  have s3' : Txt.slice x none (some 3) = Str.ofString "229" := str_ext (s3.trans (by rfl))
  have big : sizeLine = 16777216 := by decide
  refine ⟨by lia, by rw [s3']; decide, by rw [s3']; decide, by rw [e1]; rfl, by rw [e1, len]; lia, ?_, by rw [e2]; lia, by rw [e2, len]; lia, ?_, ?_, ?_, ?_, ?_, ?_⟩
  · rw [e2]; simp; lia
  · rw [ir, l16, i16]; simp
  · rw [hs, slen]; lia
  · rw [hs, l16, i16, oc, show (⟨#[k]⟩ : Str).length = 1 from rfl, pt]; show (5 : Nat) ≤ sizeLine; decide
  · show (Txt.split (Txt.slice x (some (lf x + 1)) (some (rt x))) (Txt.item x (lf x + 1))).length ≤ sizeLine
    rw [hs, l16, i16, sp]; show (5 : Nat) ≤ sizeLine; decide
  · show (((((Txt.split (Txt.slice x (some (lf x + 1)) (some (rt x))) (Txt.item x (lf x + 1)))).map D.str).length : Int) != 5) = false
    rw [hs, l16, i16, sp]; rfl
  · refine ⟨_, ?_, hi, ?_⟩
    · show (Txt.split (Txt.slice x (some (lf x + 1)) (some (rt x))) (Txt.item x (lf x + 1)))[3]? = _
      rw [hs, l16, i16, sp, ← d3]
      rfl
    · show dl.toArray.size ≤ 640
      simp
      lia
-- a number written out
theorem num_txt (m : Int) (h0 : -10000 * 1000 < m) (h1 : m < 10000 * 1000) : (∀ c ∈ (Str.ofString (toString m)).cps.toList, c = 45 ∨ (48 ≤ c ∧ c ≤ 57)) ∧ (Str.ofString (toString m)).cps.toList.length ≤ 11 ∧ PySem.intText? (Str.ofString (toString m)) = some m := by
  have digs : ∀ n : Nat, ∀ c ∈ (Nat.toDigits 10 n).map Char.toNat, 48 ≤ c ∧ c ≤ 57 := by
    intro n c hc
    obtain ⟨ch, hch, e⟩ := List.mem_map.mp hc
    have r := digit_range (Nat.isDigit_of_mem_toDigits (by decide) (by decide) hch)
    rw [← e]
    exact r
  have nl : ∀ n : Nat, n < 10 ^ 10 → ((Nat.toDigits 10 n).map Char.toNat).length ≤ 10 := by
    intro n hn
    have := PySem.W.KT.len_num (n := (n : Int)) (by lia) (by lia)
    have e : (Str.ofString (toString (n : Int))).cps.toList.length = (Str.ofString (toString (n : Int))).length := by rw [Array.length_toList]; rfl
    rw [PySem.W.KIN.signs_num] at e
    lia
  rcases Int.lt_or_le m 0 with hm | hm
  · obtain ⟨j, rfl⟩ : ∃ j : Nat, m = Int.negSucc j := ⟨(-m - 1).toNat, by lia⟩
    have e : (Str.ofString (toString (Int.negSucc j))).cps.toList = 45 :: (Nat.toDigits 10 (j + 1)).map Char.toNat := by
      rw [signs_ofString]
      show ("-" ++ Nat.repr (j + 1)).toList.map Char.toNat = _
      rw [String.toList_append, List.map_append, Nat.toList_repr]
      rfl
    have lt : j + 1 < 10 ^ 10 := by lia
    refine ⟨?_, ?_, ?_⟩
    · rw [e]
      intro c hc
      rcases List.mem_cons.mp hc with rfl | hc
      · exact .inl rfl
      · exact .inr (digs _ c hc)
    · rw [e]
      have := nl _ lt
      simp only [List.length_cons]
      lia
    · have ne : (Nat.toDigits 10 (j + 1)).map Char.toNat ≠ [] := by
        intro z
        have h := toDigits_len_ge 10 (j + 1)
        rw [List.map_eq_nil_iff.mp z] at h
        exact absurd h (by decide)
      have sz : (Str.ofString (toString (Int.negSucc j))).length ≤ 4300 := by
        have e2 : (Str.ofString (toString (Int.negSucc j))).cps.toList.length = (Str.ofString (toString (Int.negSucc j))).length := by rw [Array.length_toList]; rfl
        rw [e] at e2
        have := nl _ lt
        simp only [List.length_cons] at e2
        lia
      rw [intText_neg e (fun c hc => digs _ c hc) ne sz, PySem.W.KIN.val_back]
      congr 1
  · have e := PySem.W.KIN.num_reads hm (by lia)
    obtain ⟨n, rfl⟩ := Int.eq_ofNat_of_zero_le hm
    refine ⟨?_, ?_, e⟩
    · rw [PySem.W.KIN.signs_num]
      exact fun c hc => .inr (digs _ c hc)
    · rw [PySem.W.KIN.signs_num]
      have := nl n (by lia)
      lia
end
section
variable {X : Addr → Prop}
-- the talk, heard
structure Say257 (x t : Str) : Prop where
  hx : x.length ≤ 1000
  hb : (Txt.slice x none (some 3) != Str.ofString "257") = false
  h5 : (Txt.slice x (some 3) (some 5) != Str.ofString " \"") = false
  eq : loop257 x x.length 5 (Str.ofString "") = t
noncomputable def say257 (x t : Str) : Bool := decide (x.length ≤ 1000) && (!(Txt.slice x none (some 3) != Str.ofString "257") && (!(Txt.slice x (some 3) (some 5) != Str.ofString " \"") && decide (loop257 x x.length 5 (Str.ofString "") = t)))
theorem Say257.of {x t : Str} (h : say257 x t = true) : Say257 x t := by
  unfold say257 at h
  simp only [Bool.and_eq_true, decide_eq_true_eq, Bool.not_eq_true'] at h
  exact ⟨h.1, h.2.1, h.2.2.1, h.2.2.2⟩
theorem Fold.app {C : D → D → D → Prop} {a b c : D} {l m : List D} (h : Fold C a l b) (h2 : Fold C b m c) : Fold C a (l ++ m) c := by
  induction h with
  | nil => exact h2
  | cons x _ ih => exact .cons x (ih h2)
theorem Ca.eqTo {prog : Program} {w : World} {R : Heap → Heap → Prop} {I : Heap → Prop} {k : Room} {f : Value} {as : List D} {d d' : D} (h : Ca prog w X R I k f as d) (e : d = d') : Ca prog w X R I k f as d' := e ▸ h
theorem Fold.one {C : D → D → D → Prop} {a d b : D} (h : C a d b) : Fold C a [d] b := .cons h .nil
section
variable {prog : Program} {w : World} {mg mb : Str → Option Value} {k : Nat} {B : Nat} {ls : List Env}
theorem step_of {kk : Nat} {a d a' : D} (h : ∀ l0 : Env, Ca prog w X (RL B) (fun h => GF w mg mb B (l0 :: ls) h ∧ Up X h) ⟨kk, some (l0 :: ls), true⟩ (.ref 142) [a, d] a') : StepC prog w X (RL B) (GL w mg mb B) B kk ls 142 a d a' :=
  fun env' => Ca.mono (h env') (fun h g => ⟨⟨g.1.1.1, g.1.2⟩, g.2⟩) (Nat.le_refl _) (.inr rfl) (fun z => z)
theorem step_226 (kb : KB w B) {files refused : List D} (hsz : refused.length + 1 ≤ 1000) : StepC prog w X (RL B) (GL w mg mb B) B (k + 2) ls 142 (.tup [.list files, .list refused]) (.str (sO "226 all told")) (.tup [.list files, .list (refused ++ [.str (sO "no 226 all told")])]) :=
  step_of fun l0 => (ca_heard_1 (k := k) (files := files) (refused := refused) (x := sO "226 all told") (by decide +kernel) (by decide +kernel) (by decide +kernel) kb (TT.hard B) hsz).eqTo (by
    have : Str.ofString "no " ++ sO "226 all told" = sO "no 226 all told" := by decide +kernel
    rw [this])
theorem step_257 (kb : KB w B) {files refused : List D} {x t : Str} (s : Say257 x t) (hsz : files.length + 1 ≤ 1000) : StepC prog w X (RL B) (GL w mg mb B) B (k + 2) ls 142 (.tup [.list files, .list refused]) (.str x) (.tup [.list (files ++ [.list [.str t]]), .list refused]) :=
  step_of fun l0 => (ca_heard_ok (k := k) (files := files) (refused := refused) s.hx s.hb s.h5 kb (TT.hard B) hsz).eqTo (by rw [s.eq])
theorem step_229 (kb : KB w B) {files refused row : List D} {x : Str} {m : Int} (s : Read229 x m) (hsz : files.length + 1 ≤ 1000) (hsz2 : row.length + 1 ≤ 1000) : StepC prog w X (RL B) (GL w mg mb B) B (k + 2) ls 142 (.tup [.list (files ++ [.list row]), .list refused]) (.str x) (.tup [.list (files ++ [.list (row ++ [.tup [.str (sO "peer"), .int m]])]), .list refused]) :=
  step_of fun l0 => ca_heard_3 (k := k) (files := files) (refused := refused) s.hx s.hb (fun I l hI => by
    obtain ⟨p3, a, b, c⟩ := s.p3
    exact Ca.lift (Rel.rm (TT.hard B)).toRel (ca_229 (k := k) s.hx s.h0 s.h1 s.hl s.h2 s.hr s.hr2 s.h3 s.hz s.hz2 s.hp s.h4 a b c) hI (Nat.le_refl _) (.inr rfl) (fun z => z)) kb (TT.hard B) hsz hsz2
-- a spoiled reply
noncomputable def Bad229 (x : Str) : Prop := x.length ≤ 1000 ∧ (Txt.slice x none (some 3) != Str.ofString "257") = true ∧ ∀ (prog : Program) (w : World) (X : Addr → Prop) (mg mb : Str → Option Value) (k B : Nat) (fr : Option (List Env)) (l : List Env), CaR prog w X B (fun h => Gs w mg mb h ∧ Up X h) ⟨k + 1, fr, true⟩ l (.ref 74) [.str x, .tup [.str (Str.ofString "peer"), .int 21]] 65 x
theorem step_bad (kb : KB w B) {files refused : List D} {x : Str} (s : Bad229 x) (hsz : refused.length + 1 ≤ 1000) : StepC prog w X (RL B) (GL w mg mb B) B (k + 2) ls 142 (.tup [.list files, .list refused]) (.str x) (.tup [.list files, .list (refused ++ [.str x])]) :=
  step_of fun l0 => ca_heard_2 (k := k) (files := files) (refused := refused) s.1 s.2.1 (fun I l hI => CaR.lift (s.2.2 prog w X mg mb k B _ l) hI (Nat.le_refl _) (.inr rfl) (fun z => z)) kb (TT.hard B) hsz
theorem bad_0 : Bad229 (sO "229 at 272)") := ⟨by decide +kernel, by decide +kernel, fun _ _ _ _ _ _ _ _ _ => ra_229_1 (by decide +kernel) (by decide +kernel) (by decide +kernel)⟩
theorem bad_1 : Bad229 (sO "229 at (|||7|x") := ⟨by decide +kernel, by decide +kernel, fun _ _ _ _ _ _ _ _ _ => ra_229_2 (by decide +kernel) (by decide +kernel) (by decide +kernel) (by decide +kernel) (by decide +kernel)⟩
theorem bad_2 : Bad229 (sO "229 at (||7|)") := ⟨by decide +kernel, by decide +kernel, fun _ _ _ _ _ _ _ _ _ => ra_229_4 (by decide +kernel) (by decide +kernel) (by decide +kernel) (by decide +kernel) (by decide +kernel) (by decide +kernel) (by decide +kernel) (by decide +kernel) (by decide +kernel) (by decide +kernel) (by decide +kernel) (by rw [List.length_map]; decide +kernel)⟩
theorem bad_3 : Bad229 (sO "229 at (|||7||)") := ⟨by decide +kernel, by decide +kernel, fun _ _ _ _ _ _ _ _ _ => ra_229_4 (by decide +kernel) (by decide +kernel) (by decide +kernel) (by decide +kernel) (by decide +kernel) (by decide +kernel) (by decide +kernel) (by decide +kernel) (by decide +kernel) (by decide +kernel) (by decide +kernel) (by rw [List.length_map]; decide +kernel)⟩
theorem bad_4 : Bad229 (sO "229 at (|||7|!)") := ⟨by decide +kernel, by decide +kernel, fun _ _ _ _ _ _ _ _ _ => ra_229_3 (by decide +kernel) (by decide +kernel) (by decide +kernel) (by decide +kernel) (by decide +kernel) (by decide +kernel) (by decide +kernel) (by decide +kernel)⟩
theorem bad_all : ∀ x ∈ oddL.flatten, Bad229 x := by
  intro x hx
  simp only [oddL, List.flatten_cons, List.flatten_nil, List.cons_append, List.nil_append, List.mem_cons, List.not_mem_nil, or_false] at hx
  rcases hx with rfl | rfl | rfl | rfl | rfl
  · exact bad_0
  · exact bad_1
  · exact bad_2
  · exact bad_3
  · exact bad_4
theorem fold_bad (kb : KB w B) {files : List D} : ∀ (s refused : List Str), (∀ x ∈ s, Bad229 x) → refused.length + s.length ≤ 1000 → Fold (StepC prog w X (RL B) (GL w mg mb B) B (k + 2) ls 142) (.tup [.list files, .list (refused.map D.str)]) (s.map D.str) (.tup [.list files, .list ((refused ++ s).map D.str)])
  | [], refused, _, _ => by rw [List.append_nil]; exact .nil
  | x :: s, refused, h, hz => by
    have hl : (refused.map D.str).length + 1 ≤ 1000 := by rw [List.length_map]; simp at hz; lia
    have st := step_bad (prog := prog) (w := w) (X := X) (mg := mg) (mb := mb) (k := k) (ls := ls) kb (files := files) (h x (List.mem_cons_self ..)) hl
    have r := fold_bad kb (files := files) s (refused ++ [x]) (fun y hy => h y (List.mem_cons_of_mem _ hy)) (by simp at hz ⊢; lia)
    rw [List.map_append] at r
    rw [List.append_assoc] at r
    exact .cons st r
theorem fold_block (kb : KB w B) {files : List D} {refused s : List Str} {x y t : Str} {m : Int} (h1 : Say257 x t) (h2 : ∀ z ∈ s, Bad229 z) (h3 : Read229 y m) (hf : files.length + 1 ≤ 1000) (hz : refused.length + s.length ≤ 1000) :
    Fold (StepC prog w X (RL B) (GL w mg mb B) B (k + 2) ls 142) (.tup [.list files, .list (refused.map D.str)]) ([D.str x] ++ s.map D.str ++ [D.str y]) (.tup [.list (files ++ [toldRow t m]), .list ((refused ++ s).map D.str)]) :=
  ((Fold.one (step_257 kb h1 hf)).app (fold_bad kb s refused h2 hz)).app (Fold.one (step_229 kb (row := [.str t]) h3 hf (by simp)))
end
end
section
variable {X : Addr → Prop}
-- the talk's texts
noncomputable def lit24 (j n : Nat) : Str := litAt j ++ sO "/" ++ order (n : Int)
theorem text_24 (ns : List Int) (j : Nat) : ∃ n : Nat, n < 24 ∧ order (ns.getD j 0 % 24) = order (n : Int) ∧ textAt ns j = lit24 j n :=
  ⟨(ns.getD j 0 % 24).toNat, by lia, by
    have : (((ns.getD j 0 % 24).toNat : Nat) : Int) = ns.getD j 0 % 24 := by lia
    rw [this], by
    have : (((ns.getD j 0 % 24).toNat : Nat) : Int) = ns.getD j 0 % 24 := by lia
    unfold textAt lit24
    rw [this]⟩
theorem say_0 : ((List.range 24).all fun n => say257 (tell257 (lit24 0 n) 0) (lit24 0 n)) = true := by decide +kernel
theorem say_1 : ((List.range 24).all fun n => say257 (tell257 (lit24 1 n) 1) (lit24 1 n)) = true := by decide +kernel
theorem say_2 : ((List.range 24).all fun n => say257 (tell257 (lit24 2 n) 2) (lit24 2 n)) = true := by decide +kernel
theorem say_3 : ((List.range 24).all fun n => say257 (tell257 (lit24 3 n) 3) (lit24 3 n)) = true := by decide +kernel
theorem say_all (ns : List Int) (j : Nat) (h : j < 4) : Say257 (tell257 (textAt ns j) j) (textAt ns j) := by
  obtain ⟨n, hn, _, e⟩ := text_24 ns j
  rw [e]
  refine Say257.of ?_
  have hm : n ∈ List.range 24 := by simpa using hn
  rcases j with _ | _ | _ | _ | j
  · exact List.all_eq_true.mp say_0 n hm
  · exact List.all_eq_true.mp say_1 n hm
  · exact List.all_eq_true.mp say_2 n hm
  · exact List.all_eq_true.mp say_3 n hm
  · lia
theorem mode_in (n : Int) : -65536 ≤ modeAt n ∧ modeAt n < 65536 := by unfold modeAt; lia
theorem cps_app (x y : Str) : (x ++ y).cps.toList = x.cps.toList ++ y.cps.toList := Array.toList_append
theorem tell_229 (m : Int) (p : Nat) {k : Nat} (hk : k = 124 ∨ k = 33 ∨ k = 120 ∨ k = 40) (e3 : Txt.mul (talkMark p) 3 = ⟨#[k, k, k]⟩) (e1 : talkMark p = ⟨#[k]⟩) (h0 : -65536 ≤ m) (h1 : m < 65536) : Read229 (tell229 m p) m := by
  obtain ⟨a, b, c⟩ := num_txt m (by lia) (by lia)
  refine read229 hk (dl := (Str.ofString (toString m)).cps.toList) ?_ a b ?_
  · unfold tell229
    rw [e3, e1, cps_app, cps_app, cps_app, cps_app]
    have p1 : (sO "229 it lies at (").cps.toList = preL := by decide +kernel
    have p2 : (sO ") (|||7|)").cps.toList = sufL := by decide +kernel
    rw [p1, p2]
    simp only [List.append_assoc]
  · have : (⟨(Str.ofString (toString m)).cps.toList.toArray⟩ : Str) = Str.ofString (toString m) := rfl
    rw [this]
    exact c
theorem read_all (m : Int) (h0 : -65536 ≤ m) (h1 : m < 65536) (p : Nat) (h : p < 4) : Read229 (tell229 m p) m := by
  rcases p with _ | _ | _ | _ | p
  · exact tell_229 m 0 (k := 124) (by decide) (by decide +kernel) (by decide +kernel) h0 h1
  · exact tell_229 m 1 (k := 33) (by decide) (by decide +kernel) (by decide +kernel) h0 h1
  · exact tell_229 m 2 (k := 120) (by decide) (by decide +kernel) (by decide +kernel) h0 h1
  · exact tell_229 m 3 (k := 40) (by decide) (by decide +kernel) (by decide +kernel) h0 h1
  · lia
theorem spoil_bad (ns : List Int) (j : Nat) : ∀ x ∈ spoilAt ns j, Bad229 x := by
  intro x hx
  unfold spoilAt at hx
  split at hx
  · refine bad_all x ?_
    rcases j with _ | _ | _ | _ | j
    · exact List.mem_flatten.mpr ⟨_, by simp [oddL], hx⟩
    · exact List.mem_flatten.mpr ⟨_, by simp [oddL], hx⟩
    · exact List.mem_flatten.mpr ⟨_, by simp [oddL], hx⟩
    · exact List.mem_flatten.mpr ⟨_, by simp [oddL], hx⟩
    · simp [oddL, List.getD] at hx
  · cases hx
theorem spoil_len (ns : List Int) (j : Nat) : (spoilAt ns j).length ≤ 2 := by
  unfold spoilAt
  split
  · rcases j with _ | _ | _ | _ | j
    · simp [oddL, List.getD]
    · simp [oddL, List.getD]
    · simp [oddL, List.getD]
    · simp [oddL, List.getD]
    · simp [oddL, List.getD]
  · simp
theorem fold_law {prog : Program} {w : World} {mg mb : Str → Option Value} {B : Nat} (kb : KB w B) {k : Nat} (zs : List Int) : FoldOk prog w X mg mb B k zs := by
  intro h₀
  generalize nums zs = ns
  have l0 := spoil_len ns 0
  have l1 := spoil_len ns 1
  have l2 := spoil_len ns 2
  have l3 := spoil_len ns 3
  have md : ∀ n, -65536 ≤ modeAt n ∧ modeAt n < 65536 := mode_in
  have f0 := Fold.one (step_226 (X := X) (prog := prog) (mg := mg) (mb := mb) (k := k + 9) (ls := [lEnv w h₀.objs.size]) kb (files := []) (refused := []) (by decide))
  have b0 := fold_block (X := X) (prog := prog) (mg := mg) (mb := mb) (k := k + 9) (ls := [lEnv w h₀.objs.size]) kb (files := []) (refused := [sO "no 226 all told"]) (s := spoilAt ns 0) (say_all ns 0 (by decide)) (spoil_bad ns 0) (read_all (modeAt (ns.getD 4 0)) (md _).1 (md _).2 0 (by decide)) (by decide) (by simp; lia)
  have b1 := fold_block (X := X) (prog := prog) (mg := mg) (mb := mb) (k := k + 9) (ls := [lEnv w h₀.objs.size]) kb (files := [toldRow (textAt ns 0) (modeAt (ns.getD 4 0))]) (refused := [sO "no 226 all told"] ++ spoilAt ns 0) (s := spoilAt ns 1) (say_all ns 1 (by decide)) (spoil_bad ns 1) (read_all (modeAt (ns.getD 5 0)) (md _).1 (md _).2 1 (by decide)) (by simp) (by simp; lia)
  have b2 := fold_block (X := X) (prog := prog) (mg := mg) (mb := mb) (k := k + 9) (ls := [lEnv w h₀.objs.size]) kb (files := [toldRow (textAt ns 0) (modeAt (ns.getD 4 0)), toldRow (textAt ns 1) (modeAt (ns.getD 5 0))]) (refused := [sO "no 226 all told"] ++ spoilAt ns 0 ++ spoilAt ns 1) (s := spoilAt ns 2) (say_all ns 2 (by decide)) (spoil_bad ns 2) (read_all (modeAt (ns.getD 6 0)) (md _).1 (md _).2 2 (by decide)) (by simp) (by simp; lia)
  have b3 := fold_block (X := X) (prog := prog) (mg := mg) (mb := mb) (k := k + 9) (ls := [lEnv w h₀.objs.size]) kb (files := [toldRow (textAt ns 0) (modeAt (ns.getD 4 0)), toldRow (textAt ns 1) (modeAt (ns.getD 5 0)), toldRow (textAt ns 2) (modeAt (ns.getD 6 0))]) (refused := [sO "no 226 all told"] ++ spoilAt ns 0 ++ spoilAt ns 1 ++ spoilAt ns 2) (s := spoilAt ns 3) (say_all ns 3 (by decide)) (spoil_bad ns 3) (read_all (modeAt (ns.getD 7 0)) (md _).1 (md _).2 3 (by decide)) (by simp) (by simp; lia)
  have all := (((f0.app b0).app b1).app b2).app b3
  have e1 : ∀ s0 s1 s2 s3 : List Str, (talkOf (textAt ns 0) (textAt ns 1) (textAt ns 2) (textAt ns 3) (modeAt (ns.getD 4 0)) (modeAt (ns.getD 5 0)) (modeAt (ns.getD 6 0)) (modeAt (ns.getD 7 0)) s0 s1 s2 s3).map D.str = [D.str (sO "226 all told")] ++ ([D.str (tell257 (textAt ns 0) 0)] ++ s0.map D.str ++ [D.str (tell229 (modeAt (ns.getD 4 0)) 0)]) ++ ([D.str (tell257 (textAt ns 1) 1)] ++ s1.map D.str ++ [D.str (tell229 (modeAt (ns.getD 5 0)) 1)]) ++ ([D.str (tell257 (textAt ns 2) 2)] ++ s2.map D.str ++ [D.str (tell229 (modeAt (ns.getD 6 0)) 2)]) ++ ([D.str (tell257 (textAt ns 3) 3)] ++ s3.map D.str ++ [D.str (tell229 (modeAt (ns.getD 7 0)) 3)]) := by
    intro s0 s1 s2 s3
    unfold talkOf
    simp only [List.map_append, List.map_cons, List.map_nil, List.append_assoc]
  rw [e1]
  have e2 : ([sO "no 226 all told"] ++ spoilAt ns 0 ++ spoilAt ns 1 ++ spoilAt ns 2 ++ spoilAt ns 3).map D.str = (refOf ns).map D.str := by
    unfold refOf spOf
    simp
  rw [e2] at all
  exact all
end
section
variable {X : Addr → Prop}
-- the ranks of the law
theorem qN_at (q : Nat → Nat) : ∀ a : Nat, a < 4 → qN (q 0) (q 1) (q 2) (q 3) a = q a
  | 0, _ => rfl
  | 1, _ => rfl
  | 2, _ => rfl
  | 3, _ => rfl
  | n + 4, h => by lia
theorem kasN_eq {dg : List (List Int)} {p : Nat} {q : Nat → Nat} (hd : ∀ x : Nat, x < 4 → (dg.getD x []).getD p 0 = (q x : Int)) : kasN (rankF dg p) = (kasRun (ltN (q 0) (q 1) (q 2) (q 3)) (kas_sort 4)).toList := by
  unfold kasN
  have e : (fun i j : Nat => decide (rankF dg p (([0, 1, 2, 3] : List Int).getD i 0) (([0, 1, 2, 3] : List Int).getD j 0) < 0)) = ltN (q 0) (q 1) (q 2) (q 3) := by
    have a : ∀ i : Nat, (dg.getD (([0, 1, 2, 3] : List Int).getD i 0).toNat []).getD p 0 = (qN (q 0) (q 1) (q 2) (q 3) i : Int) := by
      intro i
      rcases i with _ | _ | _ | _ | i
      · exact hd 0 (by decide)
      · exact hd 1 (by decide)
      · exact hd 2 (by decide)
      · exact hd 3 (by decide)
      · exact hd 0 (by decide)
    funext i j
    unfold rankF ltN
    rw [a, a, decide_eq_decide]
    lia
  rw [e]
theorem pair4 : ∀ x y : Fin 4, x.val < y.val → (x.val = 0 ∧ y.val = 1) ∨ (x.val = 0 ∧ y.val = 2) ∨ (x.val = 0 ∧ y.val = 3) ∨ (x.val = 1 ∧ y.val = 2) ∨ (x.val = 1 ∧ y.val = 3) ∨ (x.val = 2 ∧ y.val = 3) := by decide
theorem rank_row {dg : List (List Int)} {wr : List Int} {p : Nat} (q : Nat → Nat) (hq : ∀ x : Nat, x < 4 → q x < 8) (hd : ∀ x : Nat, x < 4 → (dg.getD x []).getD p 0 = (q x : Int)) (hw : ∀ x : Nat, x < 4 → wr.getD x 0 = 4 * (q x : Int) - (x : Int)) :
    kasI (rankF dg p) ∈ waysL ∧ ∀ i j : Nat, i < 4 → j < 4 → idx (kasI (rankF dg p)) (i : Int) < idx (kasI (rankF dg p)) (j : Int) → wr.getD j 0 < wr.getD i 0 := by
  obtain ⟨hl, h4, hin⟩ := kasN_ok (rankF dg p)
  have r8 : ∀ x : Nat, x < 4 → q x ∈ List.range 8 := fun x hx => List.mem_range.mpr (hq x hx)
  have s := List.all_eq_true.mp (List.all_eq_true.mp (List.all_eq_true.mp (List.all_eq_true.mp srt_all (q 0) (r8 0 (by decide))) (q 1) (r8 1 (by decide))) (q 2) (r8 2 (by decide))) (q 3) (r8 3 (by decide))
  unfold srtN at s
  rw [← kasN_eq hd] at s
  unfold kasI
  generalize kasN (rankF dg p) = l at hl h4 hin s
  obtain ⟨a, b, c, d, rfl⟩ := list_four hl
  have la := h4 a (by simp)
  have lb := h4 b (by simp)
  have lc := h4 c (by simp)
  have ld := h4 d (by simp)
  simp only [Bool.and_eq_true, decide_eq_true_eq] at s
  rw [qN_at q a la, qN_at q b lb, qN_at q c lc, qN_at q d ld] at s
  obtain ⟨⟨s1, s2⟩, s3⟩ := s
  have mem : [(a : Int), (b : Int), (c : Int), (d : Int)] ∈ waysL := ways_has ⟨a, la⟩ ⟨b, lb⟩ ⟨c, lc⟩ ⟨d, ld⟩ (by
    simp only [Bool.and_eq_true, List.contains_iff_mem]
    exact ⟨⟨⟨hin 0 (by decide), hin 1 (by decide)⟩, hin 2 (by decide)⟩, hin 3 (by decide)⟩)
  refine ⟨mem, fun i j hi hj lt => ?_⟩
  have lt' : idx [(a : Int), (b : Int), (c : Int), (d : Int)] (i : Int) < idx [(a : Int), (b : Int), (c : Int), (d : Int)] (j : Int) := lt
  have wi := ways_ix _ mem ⟨i, hi⟩
  have wj := ways_ix _ mem ⟨j, hj⟩
  simp only at wi wj
  obtain ⟨_, xl, xe, _⟩ := wi
  obtain ⟨_, yl, ye, _⟩ := wj
  generalize idx [(a : Int), (b : Int), (c : Int), (d : Int)] (i : Int) = x at lt' xl xe
  generalize idx [(a : Int), (b : Int), (c : Int), (d : Int)] (j : Int) = y at lt' yl ye
  rw [hw i hi, hw j hj]
  have at4 : ∀ x : Nat, x < 4 → ([(a : Int), (b : Int), (c : Int), (d : Int)].getD x 0) = ((([a, b, c, d] : List Nat).getD x 0 : Nat) : Int) := by
    intro x hx
    rcases x with _ | _ | _ | _ | x
    · rfl
    · rfl
    · rfl
    · rfl
    · lia
  rw [at4 x xl] at xe
  rw [at4 y yl] at ye
  obtain rfl := Int.ofNat.inj xe
  obtain rfl := Int.ofNat.inj ye
  clear xe ye hi hj lt
  have c1 := pair4 ⟨x, xl⟩ ⟨y, yl⟩ lt'
  rcases c1 with ⟨rfl, rfl⟩ | ⟨rfl, rfl⟩ | ⟨rfl, rfl⟩ | ⟨rfl, rfl⟩ | ⟨rfl, rfl⟩ | ⟨rfl, rfl⟩
  · show 4 * (q b : Int) - (b : Int) < 4 * (q a : Int) - (a : Int); lia
  · show 4 * (q c : Int) - (c : Int) < 4 * (q a : Int) - (a : Int); lia
  · show 4 * (q d : Int) - (d : Int) < 4 * (q a : Int) - (a : Int); lia
  · show 4 * (q c : Int) - (c : Int) < 4 * (q b : Int) - (b : Int); lia
  · show 4 * (q d : Int) - (d : Int) < 4 * (q b : Int) - (b : Int); lia
  · show 4 * (q d : Int) - (d : Int) < 4 * (q c : Int) - (c : Int); lia
noncomputable def unitAt (p : Nat) : Int := ([64, 8, 1, 512] : List Int).getD p 0
theorem dig_at (ms : List Int) (x p : Nat) (hx : x < 4) (hp : p < 4) : ((digs ms).getD x []).getD p 0 = ms.getD x 0 / unitAt p % 8 := by
  have e : (digs ms).getD x [] = [ms.getD x 0 / 64 % 8, ms.getD x 0 / 8 % 8, ms.getD x 0 / 1 % 8, ms.getD x 0 / 512 % 8] := by
    rcases x with _ | _ | _ | _ | x
    · exact digits_of_mode _
    · exact digits_of_mode _
    · exact digits_of_mode _
    · exact digits_of_mode _
    · lia
  rw [e]
  rcases p with _ | _ | _ | _ | p
  · rfl
  · rfl
  · rfl
  · rfl
  · lia
theorem worth_at (ms : List Int) (x p : Nat) (hx : x < 4) (hp : p < 4) : ((worthL ms).getD p []).getD x 0 = 4 * (ms.getD x 0 / unitAt p % 8) - (x : Int) := by
  have e : (worthL ms).getD p [] = worthRow ms (unitAt p) := by
    rcases p with _ | _ | _ | _ | p
    · rfl
    · rfl
    · rfl
    · rfl
    · lia
  rw [e]
  rcases x with _ | _ | _ | _ | x
  · rfl
  · rfl
  · rfl
  · rfl
  · lia
theorem map4 {α : Type} (f : Nat → α) (d : α) (p : Nat) (hp : p < 4) : ((List.range 4).map f).getD p d = f p := by
  rcases p with _ | _ | _ | _ | p
  · rfl
  · rfl
  · rfl
  · rfl
  · lia
theorem rank_at (ms : List Int) (p : Nat) (hp : p < 4) : (ranksL (digs ms)).getD p [] = kasI (rankF (digs ms) p) := map4 (fun p => kasI (rankF (digs ms) p)) [] p hp
theorem rank_ok (ms : List Int) (p : Nat) (hp : p < 4) : (ranksL (digs ms)).getD p [] ∈ waysL ∧ ∀ i j : Nat, i < 4 → j < 4 → idx ((ranksL (digs ms)).getD p []) (i : Int) < idx ((ranksL (digs ms)).getD p []) (j : Int) → ((worthL ms).getD p []).getD j 0 < ((worthL ms).getD p []).getD i 0 := by
  rw [rank_at ms p hp]
  have c : ∀ x : Nat, ((ms.getD x 0 / unitAt p % 8).toNat : Int) = ms.getD x 0 / unitAt p % 8 := fun x => by
    generalize ms.getD x 0 / unitAt p = y
    lia
  refine rank_row (fun x => (ms.getD x 0 / unitAt p % 8).toNat) (fun x _ => ?_) (fun x hx => ?_) (fun x hx => ?_)
  · generalize ms.getD x 0 / unitAt p = y
    show (y % 8).toNat < 8
    lia
  · rw [dig_at ms x p hx hp]
    exact (c x).symm
  · rw [worth_at ms x p hx hp]
    show _ = 4 * (((ms.getD x 0 / unitAt p % 8).toNat : Nat) : Int) - (x : Int)
    rw [c x]
theorem wish_24 : ((List.range 24).all fun n => decide (((order (n : Int)).cps.toList.map fun c => (ixOf c : Int)) ∈ waysL)) = true := by decide +kernel
theorem wish_at (ns : List Int) (j : Nat) (h : j < 4) : (wiOf ns).getD j [] ∈ waysL := by
  obtain ⟨n, hn, e, _⟩ := text_24 ns j
  have k : (wiOf ns).getD j [] = (order (ns.getD j 0 % 24)).cps.toList.map fun c => (ixOf c : Int) := by
    rcases j with _ | _ | _ | _ | j
    · rfl
    · rfl
    · rfl
    · rfl
    · lia
  rw [k, e]
  exact of_decide_eq_true (List.all_eq_true.mp wish_24 n (List.mem_range.mpr hn))
theorem rows_of (ns : List Int) : Rows (wiOf ns) (rkOf ns) (woOf ns) where
  lw := by simp [wiOf]
  lr := by simp [rkOf]
  lo := by simp [woOf]
  hw := fun j hj => wish_at ns j hj
  hr := fun j hj => (rank_ok (msOf ns) j hj).1
  ho := fun p hp => by
    unfold woOf
    rcases p with _ | _ | _ | _ | p
    · rfl
    · rfl
    · rfl
    · rfl
    · lia
  dec := fun p i j hp hi hj h => (rank_ok (msOf ns) p hp).2 i j hi hj h
-- the texts
noncomputable def wishB (t l o : Str) : Bool := decide (Txt.split t (sO "/") = [l, o]) && (decide (t.length ≤ 1000) && (decide ((Builtin.Str.partsBetween t (Builtin.Str.occurrences t (sO "/") 0 t.length (t.length + 1)) (sO "/").length).length ≤ sizeLine) && (o.cps.all (· < 128) && (o.cps.toList.all (fun c => decide ((Builtin.Str.occurrences (sO "ugos") ⟨#[c]⟩ 0 (sO "ugos").length 1).head? = some (ixOf c))) && decide (o.cps.toList.length = 4)))))
theorem wish_of {t l o : Str} (h : wishB t l o = true) : Wish t o := by
  unfold wishB at h
  simp only [Bool.and_eq_true, decide_eq_true_eq, List.all_eq_true] at h
  obtain ⟨h1, h2, h3, h4, h5, h6⟩ := h
  refine ⟨⟨l, h1⟩, h2, h3, h4, fun c hc => ?_, h6⟩
  have := h5 c hc
  match hh : Builtin.Str.occurrences (sO "ugos") ⟨#[c]⟩ 0 (sO "ugos").length 1, this with
  | a :: r, e => exact ⟨r, by simp at e; rw [e]⟩
  | [], e => simp at e
noncomputable def textB (t : Str) : Bool := decide (t.length + (t.length + 1) * (Str.ofString "\"\"").length ≤ 16777216) && (decide ((Txt.replace t (Str.ofString "\"") (Str.ofString "\"\"")).length ≤ 1000) && PyData.strOk t)
theorem txt_0 : ((List.range 24).all fun n => textB (lit24 0 n) && wishB (lit24 0 n) (litAt 0) (order (n : Int))) = true := by decide +kernel
theorem txt_1 : ((List.range 24).all fun n => textB (lit24 1 n) && wishB (lit24 1 n) (litAt 1) (order (n : Int))) = true := by decide +kernel
theorem txt_2 : ((List.range 24).all fun n => textB (lit24 2 n) && wishB (lit24 2 n) (litAt 2) (order (n : Int))) = true := by decide +kernel
theorem txt_3 : ((List.range 24).all fun n => textB (lit24 3 n) && wishB (lit24 3 n) (litAt 3) (order (n : Int))) = true := by decide +kernel
theorem txt_all (ns : List Int) (j : Nat) (h : j < 4) : textB (textAt ns j) = true ∧ Wish (textAt ns j) (order (ns.getD j 0 % 24)) := by
  obtain ⟨n, hn, e1, e2⟩ := text_24 ns j
  rw [e1, e2]
  have hm : n ∈ List.range 24 := List.mem_range.mpr hn
  have k : (textB (lit24 j n) && wishB (lit24 j n) (litAt j) (order (n : Int))) = true := by
    rcases j with _ | _ | _ | _ | j
    · exact List.all_eq_true.mp txt_0 n hm
    · exact List.all_eq_true.mp txt_1 n hm
    · exact List.all_eq_true.mp txt_2 n hm
    · exact List.all_eq_true.mp txt_3 n hm
    · lia
  rw [Bool.and_eq_true] at k
  exact ⟨k.1, wish_of k.2⟩
theorem pures_str : ∀ l : List Str, D.pures (l.map D.str) = true
  | [] => rfl
  | x :: l => by
    show (D.pure (.str x) && D.pures (l.map D.str)) = true
    rw [pures_str l]
    rfl
theorem pys_str : ∀ l : List Str, D.pys (l.map D.str) = l.map PyData.str
  | [] => rfl
  | x :: l => by
    show D.py (.str x) :: D.pys (l.map D.str) = _
    rw [pys_str l]
    rfl
theorem lay_str : ∀ l : List Str, (∀ x ∈ l, PyData.strOk x = true) → PyData.canLayAll0 (l.map PyData.str) = true
  | [], _ => rfl
  | x :: l, h => by
    show (PyData.strOk x && PyData.canLayAll0 (l.map PyData.str)) = true
    rw [lay_str l fun y hy => h y (List.mem_cons_of_mem _ hy), h x (List.mem_cons_self ..)]
    rfl
theorem deep_str : ∀ l : List Str, PyData.depthAll (l.map PyData.str) = 0
  | [] => rfl
  | x :: l => by
    show max 0 (PyData.depthAll (l.map PyData.str)) = 0
    rw [deep_str l]
    rfl
theorem pure_told (ts : List Str) (ms : List Int) (ref : List Str) : D.pure (toldD ts ms ref) = true := by
  show (D.pures ((List.range 4).map fun j => toldRow (ts.getD j (sO "")) (ms.getD j 0)) && (D.pures (ref.map D.str) && true)) = true
  rw [pures_str]
  rfl
theorem shaped_told (ts : List Str) (ms : List Int) (ref : List Str) (h1 : ∀ j : Nat, j < 4 → PyData.strOk (ts.getD j (sO "")) = true) (h2 : ∀ x ∈ ref, PyData.strOk x = true) : SeqAt.shaped (D.py (toldD ts ms ref)) = true := by
  have e : D.py (toldD ts ms ref) = .tuple [.list [.list [.str (ts.getD 0 (sO "")), .tuple [.str (sO "peer"), .int (ms.getD 0 0)]], .list [.str (ts.getD 1 (sO "")), .tuple [.str (sO "peer"), .int (ms.getD 1 0)]], .list [.str (ts.getD 2 (sO "")), .tuple [.str (sO "peer"), .int (ms.getD 2 0)]], .list [.str (ts.getD 3 (sO "")), .tuple [.str (sO "peer"), .int (ms.getD 3 0)]]], .list (ref.map PyData.str)] := by
    rw [← pys_str]
    rfl
  have p : PyData.strOk (sO "peer") = true := by decide +kernel
  rw [e]
  unfold SeqAt.shaped
  simp only [PyData.canLay0, PyData.canLayAll0, PyData.depth, PyData.depthAll, lay_str _ h2, deep_str, p, h1 0 (by decide), h1 1 (by decide), h1 2 (by decide), h1 3 (by decide)]
  decide
theorem pure_signs (ms : List Int) : D.pure (signsD ms) = true := rfl
theorem ok_item (x : Str) (i : Int) (h : PyData.strOk x = true) : PyData.strOk (Txt.item x i) = true := by
  show (#[(Txt.charAt x i).getD 0] : Array Nat).all (· < 0x110000) = true
  have : (Txt.charAt x i).getD 0 < 0x110000 := by
    unfold Txt.charAt
    cases seqIndex? i x.length with
    | none => exact (by decide : (0 : Nat) < 0x110000)
    | some n =>
      show (x.cps[n]?).getD 0 < 0x110000
      cases hh : x.cps[n]? with
      | none => exact (by decide : (0 : Nat) < 0x110000)
      | some c =>
        unfold PyData.strOk at h
        rw [Array.all_eq_true] at h
        obtain ⟨lt, e⟩ := Array.getElem?_eq_some_iff.mp hh
        have := h n lt
        rw [e] at this
        exact of_decide_eq_true this
  simp [this]
theorem ok_app (x y : Str) (h1 : PyData.strOk x = true) (h2 : PyData.strOk y = true) : PyData.strOk (x ++ y) = true := by
  unfold PyData.strOk at *
  show (x.cps ++ y.cps).all _ = true
  rw [Array.all_append, h1, h2]
  rfl
theorem ok_list (m : Int) : PyData.strOk (listText m) = true := by
  unfold listText
  have a0 : PyData.strOk (Str.ofString "?pc?d?b?-?l?s???") = true := by decide +kernel
  have a1 : PyData.strOk (Str.ofString "-r") = true := by decide +kernel
  have a2 : PyData.strOk (Str.ofString "-w") = true := by decide +kernel
  have a3 : PyData.strOk (Str.ofString "-xSs") = true := by decide +kernel
  have a4 : PyData.strOk (Str.ofString "-xTt") = true := by decide +kernel
  exact ok_app _ _ (ok_app _ _ (ok_app _ _ (ok_app _ _ (ok_app _ _ (ok_app _ _ (ok_app _ _ (ok_app _ _ (ok_app _ _ (ok_item _ _ a0) (ok_item _ _ a1)) (ok_item _ _ a2)) (ok_item _ _ a3)) (ok_item _ _ a1)) (ok_item _ _ a2)) (ok_item _ _ a3)) (ok_item _ _ a1)) (ok_item _ _ a2)) (ok_item _ _ a4)
theorem shaped_signs (ms : List Int) : SeqAt.shaped (D.py (signsD ms)) = true := by
  have e : D.py (signsD ms) = .list [.str (listText (ms.getD 0 0)), .str (listText (ms.getD 1 0)), .str (listText (ms.getD 2 0)), .str (listText (ms.getD 3 0))] := rfl
  rw [e]
  unfold SeqAt.shaped
  simp only [PyData.canLay0, PyData.canLayAll0, PyData.depth, PyData.depthAll, ok_list]
  rfl
theorem join_ok (m : Int) : JoinOk (sQ "") (fmSigns m 0 fmTables) = true := by
  rw [fm_signs]
  rfl
theorem odd_ok : ∀ x ∈ oddL.flatten, PyData.strOk x = true := by decide +kernel
theorem spoil_odd (ns : List Int) (j : Nat) : ∀ x ∈ spoilAt ns j, x ∈ oddL.flatten := by
  intro x hx
  unfold spoilAt at hx
  split at hx
  · rcases j with _ | _ | _ | _ | j
    · exact List.mem_flatten.mpr ⟨_, by simp [oddL], hx⟩
    · exact List.mem_flatten.mpr ⟨_, by simp [oddL], hx⟩
    · exact List.mem_flatten.mpr ⟨_, by simp [oddL], hx⟩
    · exact List.mem_flatten.mpr ⟨_, by simp [oddL], hx⟩
    · simp [oddL, List.getD] at hx
  · cases hx
theorem law_ok (zs : List Int) : LawOk (nums zs) := by
  have hlen : (nums zs).length = 10 := by simp [nums]
  generalize nums zs = ns at hlen
  have R := rows_of ns
  have tn : (tnOf ns).length = 16 := by simp [tnOf]
  have Dn := R.done (ts := tnOf ns) tn
  have l0 := spoil_len ns 0
  have l1 := spoil_len ns 1
  have l2 := spoil_len ns 2
  have l3 := spoil_len ns 3
  have tt : ∀ j : Nat, j < 4 → (tsOf ns).getD j (sO "") = textAt ns j := fun j hj => by
    rcases j with _ | _ | _ | _ | j
    · rfl
    · rfl
    · rfl
    · rfl
    · lia
  have oo : ∀ j : Nat, j < 4 → (osOf ns).getD j (sO "") = order (ns.getD j 0 % 24) := fun j hj => by
    rcases j with _ | _ | _ | _ | j
    · rfl
    · rfl
    · rfl
    · rfl
    · lia
  have tb : ∀ j : Nat, j < 4 → textB (textAt ns j) = true := fun j hj => (txt_all ns j hj).1
  have tok : ∀ j : Nat, j < 4 → PyData.strOk (textAt ns j) = true := fun j hj => by
    have := tb j hj
    unfold textB at this
    simp only [Bool.and_eq_true] at this
    exact this.2.2
  have cin : coOf ns ∈ sbOf ns := List.mem_filter.mpr ⟨Dn.cw, Dn.cs⟩
  have sbw : ∀ way ∈ sbOf ns, way ∈ waysL ∧ stableB way (wiOf ns) (woOf ns) = true := fun way h => List.mem_filter.mp h
  exact
    { len := hlen
      txt := fun j hj => by
        have := tb j hj
        unfold textB at this
        simp only [Bool.and_eq_true, decide_eq_true_eq] at this
        exact ⟨this.1, this.2.1⟩
      mode := fun n => by
        have md := mode_in n
        obtain ⟨_, b, _⟩ := num_txt (modeAt n) (by lia) (by lia)
        refine ⟨?_, ?_⟩
        · have lt : (modeAt n).natAbs < 2 ^ 17 := by lia
          by_cases z : (modeAt n).natAbs = 0
          · rw [z]; decide
          · have := (Nat.log2_lt z).mpr lt
            lia
        · have e : (Str.ofString (toString (modeAt n))).cps.toList.length = (Str.ofString (toString (modeAt n))).length := by rw [Array.length_toList]; rfl
          lia
      sp2 := fun j _ => spoil_len ns j
      spl := by
        unfold spOf
        simp only [List.flatten_cons, List.flatten_nil, List.append_nil, List.length_append]
        lia
      join := join_ok
      lt10 := list_len
      wish := fun j hj => by rw [tt j hj, oo j hj]; exact (txt_all ns j hj).2
      p1 := pure_told ..
      s1 := shaped_told _ _ _ (fun j hj => by rw [tt j hj]; exact tok j hj) (fun x hx => by
        unfold refOf at hx
        rcases List.mem_cons.mp hx with rfl | hx
        · decide +kernel
        · refine odd_ok x ?_
          unfold spOf at hx
          simp only [List.flatten_cons, List.flatten_nil, List.append_nil, List.mem_append] at hx
          rcases hx with h | h | h | h <;> exact spoil_odd ns _ x h)
      p2 := pure_signs _
      s2 := shaped_signs _
      dl := fun r hr => by
        obtain ⟨j, _, rfl⟩ := List.mem_map.mp hr
        rfl
      ask := Dn.ask
      free := Dn.free
      hl := Dn.hl
      hm := Dn.hm
      sok := fun way h => R.sok h
      wl := R.lw
      wr := fun j hj => (ways_len _ (R.hw j hj)).1
      wco := R.wok Dn.cw
      wst := fun way h => R.wok (sbw way h).1
      cin := cin
      opt := fun way h j hj => Dn.opt way (sbw way h).1 (sbw way h).2 j hj }
end
section
open PySem.W.X
theorem law_holds : PySem.Challenge.rw_oy0140_01.Holds := top fun zs _ => ⟨law_ok zs, fun _ _ _ _ _ kb => fold_law kb zs⟩
end
end
end Mine.Internal
theorem PySem.Challenge.cw_oy0140_01_holds : PySem.Challenge.rw_oy0140_01.Holds :=
  Mine.Internal.law_holds
