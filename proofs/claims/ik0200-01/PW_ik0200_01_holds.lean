import PyProof.Rows.All
import Wide.All
import Open.Line
import Wide.FinOn
import PySem.Challenge.RW_ik0200_01
set_option Elab.async false
set_option maxRecDepth 100000
set_option linter.all false

namespace Mine
open PySem PySem.W PyProof.Rows PySem.Calls

inductive Dt where
  | none
  | bool (b : Bool)
  | int (i : Int)
  | str (x : PySem.Str)
  | list (ds : List Dt)
  | tup (ds : List Dt)
  | sdict (ps : List (PySem.Str × PySem.Str))
  | range (n : Nat)
  | typ (T : String)

abbrev Mu := Addr → Prop

structure Cx where
  prog : Program
  w : World
  p : Program
  loose : List PySem.Str
  mean : ExcName → Option Value
  mg : PySem.Str → Option Value
  mb : PySem.Str → Option Value
  base : Heap
  top : Top p loose mean mg mb base

variable (C : Cx)

mutual
def D (h : Heap) (M : Mu) : Dt → Value → Prop
  | .none, v => v = .none
  | .bool b, v => v = .bool b
  | .int i, v => ∃ t, v = .int i t
  | .str x, v => ∃ t, v = .str x t
  | .list ds, v => ∃ a vs, v = .ref a ∧ ¬ M a ∧ h.IsList a vs.toArray ∧ DA h M ds vs
  | .tup ds, v => ∃ a vs, v = .ref a ∧ ¬ M a ∧ IsTup h a vs.toArray ∧ DA h M ds vs
  | .sdict ps, v => ∃ a f, v = .ref a ∧ ¬ M a ∧ h.MapOf (PySem.strKind C.prog C.w) a f ∧ ∀ k, match ps.lookup k with
      | some x => ∃ t, f k = some (.str x t)
      | none => f k = none
  | .range n, v => ∃ a t1 t2 t3, v = .ref a ∧ ¬ M a ∧ IsRange h a 0 n 1 t1 t2 t3
  | .typ T, v => v = .type T
def DA (h : Heap) (M : Mu) : List Dt → List Value → Prop
  | [], vs => vs = []
  | d :: ds, vs => ∃ v r, vs = v :: r ∧ D h M d v ∧ DA h M ds r
end

variable {C}
section
variable {h h' : Heap} {M M' : Mu}

theorem IsList.off {a : Addr} {its : Array Value} (x : h.IsList a its) (e : ∀ o, h.get? a = some o → h'.get? a = some o) : h'.IsList a its := x.at e
theorem IsTup.off {a : Addr} {its : Array Value} (x : IsTup h a its) (e : ∀ o, h.get? a = some o → h'.get? a = some o) : IsTup h' a its := let ⟨o, ho, r⟩ := x; ⟨o, e o ho, r⟩
theorem MapOf.off {prog : Program} {w : World} {a : Addr} {f} (x : h.MapOf (PySem.strKind prog w) a f) (e : ∀ o, h.get? a = some o → h'.get? a = some o) : h'.MapOf (PySem.strKind prog w) a f :=
  let ⟨o, es, ep, ho, r⟩ := x; ⟨o, es, ep, e o ho, r⟩

mutual
theorem D.mono (hk : ∀ b o, ¬ M b → h.get? b = some o → h'.get? b = some o) (hM : ∀ b o, h.get? b = some o → M' b → M b) : ∀ {d : Dt} {v : Value}, D C h M d v → D C h' M' d v
  | .none, _, x => x
  | .bool _, _, x => x
  | .int _, _, x => x
  | .str _, _, x => x
  | .list ds, _, ⟨a, vs, e, hm, hl, r⟩ => ⟨a, vs, e, fun q => hm (by obtain ⟨o, ho, _⟩ := hl; exact hM _ o ho q), IsList.off hl fun o => hk a o hm, DA.mono hk hM r⟩
  | .tup ds, _, ⟨a, vs, e, hm, hl, r⟩ => ⟨a, vs, e, fun q => hm (by obtain ⟨o, ho, _⟩ := hl; exact hM _ o ho q), IsTup.off hl fun o => hk a o hm, DA.mono hk hM r⟩
  | .sdict ps, _, ⟨a, f, e, hm, hl, r⟩ => ⟨a, f, e, fun q => hm (by obtain ⟨o, _, _, ho, _⟩ := hl; exact hM _ o ho q), MapOf.off hl fun o => hk a o hm, r⟩
  | .range n, _, ⟨a, t1, t2, t3, e, hm, hl⟩ => ⟨a, t1, t2, t3, e, fun q => hm (hM _ _ hl q), hk a _ hm hl⟩
  | .typ T, _, x => x
theorem DA.mono (hk : ∀ b o, ¬ M b → h.get? b = some o → h'.get? b = some o) (hM : ∀ b o, h.get? b = some o → M' b → M b) : ∀ {ds : List Dt} {vs : List Value}, DA C h M ds vs → DA C h' M' ds vs
  | [], _, x => x
  | _ :: _, _, ⟨v, r, e, x, y⟩ => ⟨v, r, e, D.mono hk hM x, DA.mono hk hM y⟩
end

theorem D.up (hk : ∀ b o, h.get? b = some o → h'.get? b = some o) {d : Dt} {v : Value} (x : D C h M d v) : D C h' M d v := D.mono (fun b o _ => hk b o) (fun _ _ _ => id) x
theorem DA.up (hk : ∀ b o, h.get? b = some o → h'.get? b = some o) {d : List Dt} {v : List Value} (x : DA C h M d v) : DA C h' M d v := DA.mono (fun b o _ => hk b o) (fun _ _ _ => id) x

theorem DA.length : ∀ {ds : List Dt} {vs : List Value}, DA C h M ds vs → vs.length = ds.length
  | [], _, x => by cases x; rfl
  | _ :: _, _, ⟨_, _, e, _, y⟩ => by subst e; rw [List.length_cons, List.length_cons, y.length]
theorem DA.get : ∀ {ds : List Dt} {vs : List Value}, DA C h M ds vs → ∀ {i : Nat} {d : Dt}, ds[i]? = some d → ∃ v, vs[i]? = some v ∧ D C h M d v
  | [], _, _, i, d, e => by cases e
  | d :: ds, _, ⟨v, r, e, x, y⟩, 0, d', q => by subst e; cases q; exact ⟨v, rfl, x⟩
  | d :: ds, _, ⟨v, r, e, x, y⟩, i + 1, d', q => by subst e; exact y.get (i := i) q
theorem DA.at : ∀ {ds : List Dt} {vs : List Value}, DA C h M ds vs → ∀ {i : Nat} {v : Value}, vs[i]? = some v → ∃ d, ds[i]? = some d ∧ D C h M d v
  | [], _, x, i, d, e => by cases x; cases e
  | d :: ds, _, ⟨v, r, e, x, y⟩, 0, d', q => by subst e; cases q; exact ⟨d, rfl, x⟩
  | d :: ds, _, ⟨v, r, e, x, y⟩, i + 1, d', q => by subst e; exact y.at (i := i) q
theorem DA.append : ∀ {ds es : List Dt} {vs us : List Value}, DA C h M ds vs → DA C h M es us → DA C h M (ds ++ es) (vs ++ us)
  | [], _, _, _, x, y => by cases x; exact y
  | _ :: _, _, _, _, ⟨v, r, e, x, z⟩, y => ⟨v, r ++ _, by rw [e]; rfl, x, z.append y⟩
theorem DA.one {d : Dt} {v : Value} (x : D C h M d v) : DA C h M [d] [v] := ⟨v, [], rfl, x, rfl⟩
theorem DA.split : ∀ {ds es : List Dt} {vs : List Value}, DA C h M (ds ++ es) vs → ∃ us ws, vs = us ++ ws ∧ DA C h M ds us ∧ DA C h M es ws
  | [], _, vs, x => ⟨[], vs, rfl, rfl, x⟩
  | _ :: _, _, _, ⟨v, r, e, x, y⟩ => let ⟨us, ws, q, a, b⟩ := y.split; ⟨v :: us, ws, by rw [e, q]; rfl, ⟨v, us, rfl, x, a⟩, b⟩
theorem DA.take {ds : List Dt} {vs : List Value} (x : DA C h M ds vs) (n : Nat) : DA C h M (ds.take n) (vs.take n) := by
  induction n generalizing ds vs with
  | zero => exact rfl
  | succ n ih =>
    cases ds with
    | nil => cases x; exact rfl
    | cons d ds => obtain ⟨v, r, rfl, a, b⟩ := x; exact ⟨v, r.take n, rfl, a, ih b⟩
theorem DA.drop {ds : List Dt} {vs : List Value} (x : DA C h M ds vs) (n : Nat) : DA C h M (ds.drop n) (vs.drop n) := by
  induction n generalizing ds vs with
  | zero => exact x
  | succ n ih =>
    cases ds with
    | nil => cases x; exact rfl
    | cons d ds => obtain ⟨v, r, rfl, a, b⟩ := x; exact ih b
end

theorem kp_refl (s : Shared) : Keeps s s := ⟨s.heap, s.toks, rfl, fun _ _ e => e⟩
theorem kp_trans {s s' s'' : Shared} (x : Keeps s s') (y : Keeps s' s'') : Keeps s s'' := by
  obtain ⟨h, t, rfl, k⟩ := x
  obtain ⟨h', t', rfl, k'⟩ := y
  exact ⟨h', t', rfl, fun b o e => k' b o (k b o e)⟩
theorem kp_heap {s s' : Shared} (x : Keeps s s') : ∀ b o, s.heap.get? b = some o → s'.heap.get? b = some o := by
  obtain ⟨h, t, rfl, k⟩ := x
  exact k
theorem kp_tok (s : Shared) (t : Nat) : Keeps s { s with toks := t } := ⟨s.heap, t, rfl, fun _ _ e => e⟩
theorem kp_push (s : Shared) (o : Obj) (t : Nat) : Keeps s { s with heap := s.heap.push o, toks := t } := ⟨_, t, rfl, fun _ _ e => Heap.get?_push_of_some _ e⟩
theorem kp_push0 (s : Shared) (o : Obj) : Keeps s { s with heap := s.heap.push o } := ⟨_, s.toks, rfl, fun _ _ e => Heap.get?_push_of_some _ e⟩
theorem kp_mk {s : Shared} {h : Heap} {t : Nat} (k : ∀ b o, s.heap.get? b = some o → h.get? b = some o) : Keeps s { s with heap := h, toks := t } := ⟨h, t, rfl, k⟩
theorem kp_mk0 {s : Shared} {h : Heap} (k : ∀ b o, s.heap.get? b = some o → h.get? b = some o) : Keeps s { s with heap := h } := ⟨h, s.toks, rfl, k⟩

/-- the world as far as it matters: the base is kept; what may change lies off the base and holds an object -/
structure Wd (C : Cx) (M : Mu) (s : Shared) : Prop where
  base : ∀ b o, C.base.get? b = some o → s.heap.get? b = some o
  off : ∀ b, M b → C.base.get? b = none
  own : ∀ b, M b → ∃ o, s.heap.get? b = some o

section
variable {M : Mu} {s s' : Shared}
theorem Wd.keeps (x : Wd C M s) (k : Keeps s s') : Wd C M s' where
  base := fun b o e => kp_heap k b o (x.base b o e)
  off := x.off
  own := fun b hb => let ⟨o, ho⟩ := x.own b hb; ⟨o, kp_heap k b o ho⟩
theorem Wd.top (x : Wd C M s) : Top C.p C.loose C.mean C.mg C.mb s.heap := C.top.keeps x.base
theorem Wd.lt (x : Wd C M s) {b : Addr} (hb : M b) : b < s.heap.objs.size := let ⟨_, ho⟩ := x.own b hb; Heap.lt_size ho
/-- a fresh address is not mutable -/
theorem Wd.fresh (x : Wd C M s) {a : Addr} (h : s.heap.objs.size ≤ a) : ¬ M a := fun hm => Nat.lt_irrefl _ (Nat.lt_of_lt_of_le (x.lt hm) h)
end

def Room (n : Nat) (A : Around) : Prop := A.depth + n < recursionLimit ∧ A.units + 10 * n + 100 < cLine ∧ A.handled = none
section
variable {n m : Nat} {A : Around}
theorem Room.depth (x : Room n A) : A.depth < recursionLimit := Nat.lt_of_le_of_lt (Nat.le_add_right _ _) x.1
theorem Room.units (x : Room n A) : A.units < cLine := by have := x.2.1; omega
theorem Room.none (x : Room n A) : A.handled = .none := x.2.2
theorem Room.le (x : Room n A) (h : m ≤ n) : Room m A := ⟨by have := x.1; omega, by have := x.2.1; omega, x.2.2⟩
theorem Room.deeper (x : Room (n + 1) A) (env : Env) : Room n (A.deeper env) :=
  ⟨by have := x.1; show A.depth + 1 + n < _; omega, by have := x.2.1; show A.units + 3 + 10 * n + 100 < _; omega, x.2.2⟩
end

/-- what a name of the block stands for: its locals' map m, its cells' map cm -/
def getv (env : Env) (m cm : PySem.Str → Option Value) (x : PySem.Str) : Option Value :=
  match env.kindOf x with
  | some .local => m x
  | some .cell => match env.cells.lookup x with
    | some _ => cm x
    | none => none
  | some .free => match env.cells.lookup x with
    | some _ => cm x
    | none => none
  | _ => none

/-- the names that a block reads, by their data; ow: the one list that it still changes -/
structure Rd (C : Cx) (env : Env) (M : Mu) (σ : List (PySem.Str × Dt)) (ow : Option (PySem.Str × List Dt)) (s : Shared) : Prop extends Wd C M s where
  names : ∃ m cm, s.heap.Ns env.locals m ∧ (∀ x c, env.cells.lookup x = some c → s.heap.IsCell c (cm x)) ∧
    (∀ x d, σ.lookup x = some d → ∃ v, getv env m cm x = some v ∧ D C s.heap M d v) ∧
    ∀ x ds, ow = some (x, ds) → ∃ a vs, getv env m cm x = some (.ref a) ∧ s.heap.IsList a vs.toArray ∧ DA C s.heap M ds vs

theorem Rd.keeps {env : Env} {M : Mu} {σ : List (PySem.Str × Dt)} {ow : Option (PySem.Str × List Dt)} {s s' : Shared} (x : Rd C env M σ ow s) (k : Keeps s s') : Rd C env M σ ow s' where
  toWd := x.toWd.keeps k
  names := by
    obtain ⟨m, cm, h1, h2, h3, h4⟩ := x.names
    refine ⟨m, cm, h1.keeps (kp_heap k), fun y c e => (h2 y c e).keeps (kp_heap k), fun y d e => ?_, fun y ds e => ?_⟩
    · obtain ⟨v, e1, e2⟩ := h3 y d e
      exact ⟨v, e1, e2.up (kp_heap k)⟩
    · obtain ⟨a, vs, e1, e2, e3⟩ := h4 y ds e
      exact ⟨a, vs, e1, IsList.off e2 fun o => kp_heap k a o, e3.up (kp_heap k)⟩

/-- the value judgements: a tree that makes a datum and keeps the heap -/
abbrev Gv (C : Cx) (A : Around) (M : Mu) (d : Dt) (t : Sem Value) (E : Value → Shared → Prop) (s : Shared) : Prop :=
  ∀ Q : Value → Shared → Prop, (∀ v s', Keeps s s' → D C s'.heap M d v → Q v s') → wpAny (model C.prog C.w) A t Q E s
abbrev Gb (C : Cx) (A : Around) (b : Bool) (t : Sem Bool) (E : Value → Shared → Prop) (s : Shared) : Prop :=
  ∀ Q : Bool → Shared → Prop, (∀ s', Keeps s s' → Q b s') → wpAny (model C.prog C.w) A t Q E s

/-- an expression gives a datum -/
def Ev (C : Cx) (n : Nat) (env : Env) (σ : List (PySem.Str × Dt)) (ow : Option (PySem.Str × List Dt)) (e : PySem.Expr) (d : Dt) : Prop :=
  ∀ A M s E, Room n A → Rd C env M σ ow s → Gv C A M d (eval e env) E s
/-- expressions in a row -/
inductive Evs (C : Cx) (n : Nat) (env : Env) (σ : List (PySem.Str × Dt)) (ow : Option (PySem.Str × List Dt)) : List PySem.Expr → List Dt → Prop
  | nil : Evs C n env σ ow [] []
  | cons {e es d ds} : Ev C n env σ ow e d → Evs C n env σ ow es ds → Evs C n env σ ow (e :: es) (d :: ds)
/-- a test -/
def Tt (C : Cx) (n : Nat) (env : Env) (σ : List (PySem.Str × Dt)) (ow : Option (PySem.Str × List Dt)) (e : PySem.Expr) (b : Bool) : Prop :=
  ∀ A M s E, Room n A → Rd C env M σ ow s → Gb C A b (isTrue e env (eval e env)) E s
/-- one value in, one out; two in, one out; many in, one out -/
def V1 (C : Cx) (n : Nat) (f : Value → Sem Value) (d r : Dt) : Prop := ∀ A M s E v, Room n A → Wd C M s → D C s.heap M d v → Gv C A M r (f v) E s
def V2 (C : Cx) (n : Nat) (f : Value → Value → Sem Value) (d e r : Dt) : Prop := ∀ A M s E v u, Room n A → Wd C M s → D C s.heap M d v → D C s.heap M e u → Gv C A M r (f v u) E s
def Vs (C : Cx) (n : Nat) (f : List Value → Sem Value) (ds : List Dt) (r : Dt) : Prop := ∀ A M s E vs, Room n A → Wd C M s → DA C s.heap M ds vs → Gv C A M r (f vs) E s
def B1 (C : Cx) (n : Nat) (f : Value → Sem Bool) (d : Dt) (b : Bool) : Prop := ∀ A M s E v, Room n A → Wd C M s → D C s.heap M d v → Gb C A b (f v) E s

section
variable {n : Nat} {env : Env} {σ : List (PySem.Str × Dt)} {ow : Option (PySem.Str × List Dt)} {pos : Pos} {k : Nat} {x : PySem.Str} {e l r e1 e2 e3 : PySem.Expr} {d da db d1 d2 d3 : Dt} {op : PySem.Operator}

theorem Ev.le {m : Nat} (h : Ev C m env σ ow e d) (hm : m ≤ n) : Ev C n env σ ow e d := fun A M s E hA hr Q hQ => h A M s E (hA.le hm) hr Q hQ

theorem Ev.int {i : Int} : Ev C n env σ ow (.Constant (.int i) k pos) (.int i) := fun A M s E hA hr Q hQ => wpAny_Constant_int (hQ _ _ (kp_tok s _) ⟨_, rfl⟩)
theorem Ev.str {y : PySem.Str} : Ev C n env σ ow (.Constant (.str y) k pos) (.str y) := fun A M s E hA hr Q hQ => Constant_str (hQ _ _ (kp_tok s _) ⟨_, rfl⟩)
theorem Ev.bool {b : Bool} : Ev C n env σ ow (.Constant (.bool b) k pos) (.bool b) := fun A M s E hA hr Q hQ => by
  rw [eval_Constant]; exact wpAny_pure (hQ _ _ (kp_refl s) rfl)
theorem Ev.none : Ev C n env σ ow (.Constant .none k pos) .none := fun A M s E hA hr Q hQ => by
  rw [eval_Constant]; exact wpAny_pure (hQ _ _ (kp_refl s) rfl)

theorem load_name {m cm : PySem.Str → Option Value} {A : Around} {s : Shared} {E : Value → Shared → Prop} {v : Value} {Q : Value → Shared → Prop} (hk : env.scope.kind = .function) (hcd : (x == ("__classdict__" : PySem.Str)) = false)
    (h1 : s.heap.Ns env.locals m) (h2 : ∀ x c, env.cells.lookup x = some c → s.heap.IsCell c (cm x)) (hv : getv env m cm x = some v) (h : Q v s) : wpAny (model C.prog C.w) A (loadName env x) Q E s := by
  unfold getv at hv
  split at hv
  · rename_i q; exact wpAny_loadName_local hk q h1 hv h
  · rename_i q
    split at hv
    · rename_i c e; exact wpAny_loadName_cell hk q e (hv ▸ h2 _ _ e) h
    · cases hv
  · rename_i q
    split at hv
    · rename_i c e; exact wpAny_loadName_free hk q e (hv ▸ h2 _ _ e) h hcd
    · cases hv
  · cases hv

theorem Ev.name (h : σ.lookup x = some d) (hk : env.scope.kind = .function := by rfl) (hd : (x == ("__debug__" : PySem.Str)) = false := by decide +kernel) (hcd : (x == ("__classdict__" : PySem.Str)) = false := by decide +kernel) :
    Ev C n env σ ow (.Name x pos) d := fun A M s E hA hr Q hQ => by
  obtain ⟨m, cm, h1, h2, h3, _⟩ := hr.names
  obtain ⟨v, e1, e2⟩ := h3 x d h
  exact wpAny_Name (load_name hk hcd h1 h2 e1 (hQ v s (kp_refl s) e2)) hd

theorem Ev.binop (hl : Ev C n env σ ow l da) (hr : Ev C n env σ ow r db) (hop : V2 C n (binaryOp op) da db d) : Ev C n env σ ow (.BinOp l op r pos) d := fun A M s E hA hrd Q hQ =>
  wpAny_BinOp (hl A M s E hA hrd _ fun v s1 k1 d1 => hr A M s1 E hA (hrd.keeps k1) _ fun u s2 k2 d2 =>
    hop A M s2 E v u hA (hrd.keeps (kp_trans k1 k2)).toWd (d1.up (kp_heap k2)) d2 _ fun y s3 k3 d3 => hQ y s3 (kp_trans k1 (kp_trans k2 k3)) d3)
theorem Ev.cmp {op : PySem.CmpOp} (hl : Ev C n env σ ow l da) (hr : Ev C n env σ ow r db) (hop : V2 C n (compareOp op) da db d) (hm : behindInMarks op r = false := by with_unfolding_all rfl) : Ev C n env σ ow (.Compare l [op] [r] pos) d := fun A M s E hA hrd Q hQ =>
  wpAny_Compare1 (hl A M s E hA hrd _ fun v s1 k1 d1 => hr A M s1 E hA (hrd.keeps k1) _ fun u s2 k2 d2 =>
    hop A M s2 E v u hA (hrd.keeps (kp_trans k1 k2)).toWd (d1.up (kp_heap k2)) d2 _ fun y s3 k3 d3 => hQ y s3 (kp_trans k1 (kp_trans k2 k3)) d3) hm

theorem Tt.cmp {op : PySem.CmpOp} {b : Bool} {whole} (hl : Ev C n env σ ow l da) (hr : Ev C n env σ ow r db) (hop : V2 C n (compareOp op) da db (.bool b)) (hm : behindInMarks op r = false := by with_unfolding_all rfl)
    (A M s E) (hA : Room n A) (hrd : Rd C env M σ ow s) : Gb C A b (isTrue (.Compare l [op] [r] pos) env whole) E s := fun Q hQ =>
  wpAny_isTrue_Compare1 (hl A M s E hA hrd _ fun v s1 k1 d1 => hr A M s1 E hA (hrd.keeps k1) _ fun u s2 k2 d2 =>
    hop A M s2 E v u hA (hrd.keeps (kp_trans k1 k2)).toWd (d1.up (kp_heap k2)) d2 _ fun y s3 k3 d3 => by
      cases (d3 : y = _)
      exact wpAny_truthy_bool (hQ s3 (kp_trans k1 (kp_trans k2 k3)))) hm
end
end Mine

namespace Mine
open PySem PySem.W PyProof.Rows PySem.Calls

variable {C : Cx}
section
variable {n : Nat} {env : Env} {σ : List (PySem.Str × Dt)} {ow : Option (PySem.Str × List Dt)} {pos apos : Pos} {k : Nat} {x y : PySem.Str} {e l r o a e1 e2 e3 : PySem.Expr} {d da db d1 d2 d3 : Dt} {op : PySem.Operator} {es : List PySem.Expr} {ds : List Dt} {b b1 b2 : Bool} {i j : Int}

/-! values -/
theorem V2.add_int : V2 C n (binaryOp .Add) (.int i) (.int j) (.int (i + j)) := fun A M s E v u hA hw hv hu Q hQ => by
  obtain ⟨t, rfl⟩ := hv; obtain ⟨t', rfl⟩ := hu
  exact PyProof.Rows.add_int (hQ _ _ (kp_tok s _) ⟨_, rfl⟩)
theorem V2.sub_int : V2 C n (binaryOp .Sub) (.int i) (.int j) (.int (i - j)) := fun A M s E v u hA hw hv hu Q hQ => by
  obtain ⟨t, rfl⟩ := hv; obtain ⟨t', rfl⟩ := hu
  exact PyProof.Rows.sub_int (hQ _ _ (kp_tok s _) ⟨_, rfl⟩)
theorem V2.mul_int (hm : IntMulOk i j) : V2 C n (binaryOp .Mult) (.int i) (.int j) (.int (i * j)) := fun A M s E v u hA hw hv hu Q hQ => by
  obtain ⟨t, rfl⟩ := hv; obtain ⟨t', rfl⟩ := hu
  exact PyProof.Rows.mul_int (hQ _ _ (kp_tok s _) ⟨_, rfl⟩) hm
theorem V2.mod_int (h : j ≠ 0) : V2 C n (binaryOp .Mod) (.int i) (.int j) (.int (i.fmod j)) := fun A M s E v u hA hw hv hu Q hQ => by
  obtain ⟨t, rfl⟩ := hv; obtain ⟨t', rfl⟩ := hu
  exact PyProof.Rows.mod_int h (hQ _ _ (kp_tok s _) ⟨_, rfl⟩)
theorem V2.fdiv_int (h : j ≠ 0) (hp : j.natAbs < 1073741824) : V2 C n (binaryOp .FloorDiv) (.int i) (.int j) (.int (i.fdiv j)) := fun A M s E v u hA hw hv hu Q hQ => by
  obtain ⟨t, rfl⟩ := hv; obtain ⟨t', rfl⟩ := hu
  exact PyProof.Rows.floordiv_int h (hQ _ _ (kp_tok s _) ⟨_, rfl⟩) (.inl (PyProof.noPylong_small hp))
theorem V2.and_int : V2 C n (binaryOp .BitAnd) (.int i) (.int j) (.int (Builtin.bitAnd i j)) := fun A M s E v u hA hw hv hu Q hQ => by
  obtain ⟨t, rfl⟩ := hv; obtain ⟨t', rfl⟩ := hu
  exact PyProof.Rows.and_int (hQ _ _ (kp_tok s _) ⟨_, rfl⟩)
theorem V2.add_str (hsz : x.length + y.length ≤ sizeLine) : V2 C n (binaryOp .Add) (.str x) (.str y) (.str (x ++ y)) := fun A M s E v u hA hw hv hu Q hQ => by
  obtain ⟨t, rfl⟩ := hv; obtain ⟨t', rfl⟩ := hu
  exact PyProof.Rows.add_str (fun t' tk => hQ _ _ (kp_tok s tk) ⟨t', rfl⟩) hsz
theorem V2.eq_int : V2 C n (compareOp .Eq) (.int i) (.int j) (.bool (i == j)) := fun A M s E v u hA hw hv hu Q hQ => by
  obtain ⟨t, rfl⟩ := hv; obtain ⟨t', rfl⟩ := hu
  exact PyProof.Rows.eq_int (hQ _ _ (kp_refl s) rfl)
theorem V2.ne_int : V2 C n (compareOp .NotEq) (.int i) (.int j) (.bool (i != j)) := fun A M s E v u hA hw hv hu Q hQ => by
  obtain ⟨t, rfl⟩ := hv; obtain ⟨t', rfl⟩ := hu
  exact PyProof.Rows.ne_int (hQ _ _ (kp_refl s) rfl)
theorem V2.lt_int : V2 C n (compareOp .Lt) (.int i) (.int j) (.bool (decide (i < j))) := fun A M s E v u hA hw hv hu Q hQ => by
  obtain ⟨t, rfl⟩ := hv; obtain ⟨t', rfl⟩ := hu
  exact PyProof.Rows.lt_int (hQ _ _ (kp_refl s) rfl)
theorem V2.gt_int : V2 C n (compareOp .Gt) (.int i) (.int j) (.bool (decide (j < i))) := fun A M s E v u hA hw hv hu Q hQ => by
  obtain ⟨t, rfl⟩ := hv; obtain ⟨t', rfl⟩ := hu
  exact PyProof.Rows.gt_int (hQ _ _ (kp_refl s) rfl)
theorem V2.le_int : V2 C n (compareOp .LtE) (.int i) (.int j) (.bool (decide (i ≤ j))) := fun A M s E v u hA hw hv hu Q hQ => by
  obtain ⟨t, rfl⟩ := hv; obtain ⟨t', rfl⟩ := hu
  exact PyProof.Rows.le_int (hQ _ _ (kp_refl s) rfl)
theorem V2.ge_int : V2 C n (compareOp .GtE) (.int i) (.int j) (.bool (decide (j ≤ i))) := fun A M s E v u hA hw hv hu Q hQ => by
  obtain ⟨t, rfl⟩ := hv; obtain ⟨t', rfl⟩ := hu
  exact PyProof.Rows.ge_int (hQ _ _ (kp_refl s) rfl)
theorem V2.eq_str : V2 C n (compareOp .Eq) (.str x) (.str y) (.bool (x == y)) := fun A M s E v u hA hw hv hu Q hQ => by
  obtain ⟨t, rfl⟩ := hv; obtain ⟨t', rfl⟩ := hu
  exact PyProof.Rows.eq_str (hQ _ _ (kp_refl s) rfl)
theorem V2.ne_str : V2 C n (compareOp .NotEq) (.str x) (.str y) (.bool (x != y)) := fun A M s E v u hA hw hv hu Q hQ => by
  obtain ⟨t, rfl⟩ := hv; obtain ⟨t', rfl⟩ := hu
  exact PyProof.Rows.ne_str (hQ _ _ (kp_refl s) rfl)

theorem B1.bool : B1 C n truthy (.bool b) b := fun A M s E v hA hw hv Q hQ => by
  cases (hv : v = _); exact wpAny_truthy_bool (hQ s (kp_refl s))
theorem B1.str (h : x.length ≤ 2 ^ 60) : B1 C n truthy (.str x) ((x.length : Int) != 0) := fun A M s E v hA hw hv Q hQ => by
  obtain ⟨t, rfl⟩ := hv
  exact PySem.P.truthy_str (by omega) (hQ _ (kp_tok s _))
theorem B1.list (h : ds.length ≤ 2 ^ 60) : B1 C n truthy (.list ds) (!ds.isEmpty) := fun A M s E v hA hw hv Q hQ => by
  obtain ⟨a, vs, rfl, hm, hl, hd⟩ := hv
  have e := hd.length
  refine wpAny_truthy_list hl (by simp; omega) ?_
  have q : vs.toArray.isEmpty = ds.isEmpty := by cases ds <;> cases vs <;> simp_all
  rw [q]; exact hQ _ (kp_tok s _)
theorem B1.tup0 : B1 C n truthy .none false := fun A M s E v hA hw hv Q hQ => by
  cases (hv : v = _)
  show wpAny _ _ (pure false) _ _ _
  exact wpAny_pure (hQ s (kp_refl s))

/-! tests -/
theorem Tt.cmp' {op : PySem.CmpOp} (hl : Ev C n env σ ow l da) (hr : Ev C n env σ ow r db) (hop : V2 C n (compareOp op) da db (.bool b)) (hm : behindInMarks op r = false := by with_unfolding_all rfl) : Tt C n env σ ow (.Compare l [op] [r] pos) b :=
  fun A M s E hA hrd => Tt.cmp hl hr hop hm A M s E hA hrd
theorem Tt.not (h : Tt C n env σ ow e b) : Tt C n env σ ow (.UnaryOp .Not e pos) (!b) := fun A M s E hA hrd Q hQ =>
  isTrue_not (h A M s E hA hrd _ fun s' k => hQ s' k)
theorem Tt.plain (h : Ev C n env σ ow e d) (ht : B1 C n truthy d b) (he : ∀ whole : Sem Value, isTrue e env whole = (do let v ← whole; standAt e.pos; holding [v] (truthy v)) := by intro _; rfl) : Tt C n env σ ow e b := fun A M s E hA hrd Q hQ =>
  isTrue_plain (h A M s E hA hrd _ fun v s1 k1 d1 => ht A M s1 E v hA (hrd.keeps k1).toWd d1 _ fun s2 k2 => hQ s2 (kp_trans k1 k2)) (he _)
theorem Tt.andB (h1 : Tt C n env σ ow e1 b1) (h2 : b1 = true → Tt C n env σ ow (.BoolOp .And es pos) b2) (hb : b = (b1 && b2)) : Tt C n env σ ow (.BoolOp .And (e1 :: es) pos) b := fun A M s E hA hrd Q hQ => by
  subst hb
  refine isTrue_and (h1 A M s E hA hrd _ fun s1 k1 => ?_)
  cases b1 with
  | false => exact hQ s1 k1
  | true => exact h2 rfl A M s1 E hA (hrd.keeps k1) _ fun s2 k2 => hQ s2 (kp_trans k1 k2)
theorem Tt.and0 : Tt C n env σ ow (.BoolOp .And [] pos) true := fun A M s E hA hrd Q hQ => isTrue_and_nil (hQ s (kp_refl s))
theorem Tt.orB (h1 : Tt C n env σ ow e1 b1) (h2 : b1 = false → Tt C n env σ ow (.BoolOp .Or es pos) b2) (hb : b = (b1 || b2)) : Tt C n env σ ow (.BoolOp .Or (e1 :: es) pos) b := fun A M s E hA hrd Q hQ => by
  subst hb
  refine isTrue_or (h1 A M s E hA hrd _ fun s1 k1 => ?_)
  cases b1 with
  | true => exact hQ s1 k1
  | false => exact h2 rfl A M s1 E hA (hrd.keeps k1) _ fun s2 k2 => hQ s2 (kp_trans k1 k2)
theorem Tt.or0 : Tt C n env σ ow (.BoolOp .Or [] pos) false := fun A M s E hA hrd Q hQ => isTrue_or_nil (hQ s (kp_refl s))

/-! and, or as values; if-expressions -/
theorem Ev.and1 (h : Ev C n env σ ow e d) : Ev C n env σ ow (.BoolOp op' [e] pos) d := fun A M s E hA hrd Q hQ => by
  rw [arm_eval_BoolOp]; exact h A M s E hA hrd Q hQ
theorem Ev.andB (h1 : Ev C n env σ ow e1 d1) (ht : B1 C n truthy d1 b1) (h2 : b1 = true → Ev C n env σ ow (.BoolOp .And (e2 :: es) pos) d2) (hd : d = if b1 then d2 else d1) : Ev C n env σ ow (.BoolOp .And (e1 :: e2 :: es) pos) d := fun A M s E hA hrd Q hQ => by
  subst hd
  have h2' := fun q => h2 q A
  rw [arm_eval_BoolOp] at h2' ⊢
  show wpAny _ A (do let v ← eval e1 env; standAt pos; let t ← holding [v] (truthy v); (match BoolOp.And, t with | .And, false | .Or, true => pure v | _, _ => boolOp pos .And (evalEach (e2 :: es) env))) Q E s
  refine wpAny_bind (h1 A M s E hA hrd _ fun v s1 k1 g1 => wpAny_bind (wpAny_standAt (wpAny_bind (wpAny_holding (ht A M s1 E v hA (hrd.keeps k1).toWd g1 _ fun s2 k2 => ?_)))))
  cases b1 with
  | false => exact wpAny_pure (hQ v s2 (kp_trans k1 k2) (g1.up (kp_heap k2)))
  | true => exact h2' rfl M s2 E hA (hrd.keeps (kp_trans k1 k2)) _ fun v s3 k3 g3 => hQ v s3 (kp_trans k1 (kp_trans k2 k3)) g3
theorem Ev.orB (h1 : Ev C n env σ ow e1 d1) (ht : B1 C n truthy d1 b1) (h2 : b1 = false → Ev C n env σ ow (.BoolOp .Or (e2 :: es) pos) d2) (hd : d = if b1 then d1 else d2) : Ev C n env σ ow (.BoolOp .Or (e1 :: e2 :: es) pos) d := fun A M s E hA hrd Q hQ => by
  subst hd
  have h2' := fun q => h2 q A
  rw [arm_eval_BoolOp] at h2' ⊢
  show wpAny _ A (do let v ← eval e1 env; standAt pos; let t ← holding [v] (truthy v); (match BoolOp.Or, t with | .And, false | .Or, true => pure v | _, _ => boolOp pos .Or (evalEach (e2 :: es) env))) Q E s
  refine wpAny_bind (h1 A M s E hA hrd _ fun v s1 k1 g1 => wpAny_bind (wpAny_standAt (wpAny_bind (wpAny_holding (ht A M s1 E v hA (hrd.keeps k1).toWd g1 _ fun s2 k2 => ?_)))))
  cases b1 with
  | true => exact wpAny_pure (hQ v s2 (kp_trans k1 k2) (g1.up (kp_heap k2)))
  | false => exact h2' rfl M s2 E hA (hrd.keeps (kp_trans k1 k2)) _ fun v s3 k3 g3 => hQ v s3 (kp_trans k1 (kp_trans k2 k3)) g3
theorem Ev.ifexp (ht : Tt C n env σ ow e b) (h1 : b = true → Ev C n env σ ow e1 d1) (h2 : b = false → Ev C n env σ ow e2 d2) (hd : d = if b then d1 else d2) : Ev C n env σ ow (.IfExp e e1 e2 pos) d := fun A M s E hA hrd Q hQ => by
  subst hd
  refine IfExp_ (ht A M s E hA hrd _ fun s1 k1 => ?_)
  cases b with
  | true => exact h1 rfl A M s1 E hA (hrd.keeps k1) _ fun v s2 k2 g => hQ v s2 (kp_trans k1 k2) g
  | false => exact h2 rfl A M s1 E hA (hrd.keeps k1) _ fun v s2 k2 g => hQ v s2 (kp_trans k1 k2) g
theorem Ev.neg_int : Ev C n env σ ow (.UnaryOp .USub (.Constant (.int i) k pos) apos) (.int (-i)) := fun A M s E hA hrd Q hQ =>
  wpAny_UnaryOp (wpAny_Constant_int (PyProof.Rows.neg_int (hQ _ _ (kp_tok s _) ⟨_, rfl⟩)))

/-! arguments -/
def noStar : PySem.Expr → Bool
  | .Starred .. => false
  | _ => true
theorem starEach_plain {e : PySem.Expr} {es : List PySem.Expr} (h : noStar e = true) : starEach (e :: es) env = (false, eval e env) :: starEach es env := by cases e <;> first | rfl | cases h
theorem args_plain : ∀ {es : List PySem.Expr}, es.all noStar = true → backTo pos (starEach es env) = es.map fun e => (false, eval e env)
  | [], _ => rfl
  | e :: es, h => by
    simp only [List.all_cons, Bool.and_eq_true] at h
    rw [starEach_plain h.1]
    show (false, if (false : Bool) = true then _ else eval e env) :: backTo pos (starEach es env) = _
    rw [args_plain h.2]; rfl
theorem spliced_of {A : Around} {M : Mu} {E : Value → Shared → Prop} : ∀ {es : List PySem.Expr} {ds : List Dt} {s : Shared}, Evs C n env σ ow es ds → Room n A → Rd C env M σ ow s →
    ∀ Q : List Value → Shared → Prop, (∀ vs s', Keeps s s' → DA C s'.heap M ds vs → Q vs s') → wpAny (model C.prog C.w) A (spliced (es.map fun e => (false, eval e env))) Q E s
  | [], _, s, .nil, hA, hrd, Q, hQ => spliced_nil (hQ [] s (kp_refl s) rfl)
  | e :: es, _, s, .cons h hs, hA, hrd, Q, hQ => spliced_cons (h A M s E hA hrd _ fun v s1 k1 g1 => spliced_of hs hA (hrd.keeps k1) _ fun vs s2 k2 g2 => hQ _ s2 (kp_trans k1 k2) ⟨v, vs, rfl, g1.up (kp_heap k2), g2⟩)

theorem Ev.listD (h : Evs C n env σ ow es ds) (hp : es.all noStar = true := by rfl) (hl : ds.length ≤ 2 ^ 20) : Ev C n env σ ow (.List es pos) (.list ds) := fun A M s E hA hrd Q hQ => by
  refine wpAny_List ?_
  rw [args_plain hp]
  refine spliced_of h hA hrd _ fun vs s1 k1 g1 => ⟨by have := g1.length; have e : sizeLine = 2 ^ 24 := rfl; omega, hQ _ _ (kp_trans k1 (kp_push0 s1 _)) ⟨_, vs, rfl, (hrd.keeps k1).toWd.fresh (Nat.le_refl _), ⟨_, Heap.get?_push_size _ rfl, rfl, _, rfl⟩, g1.up fun b o e => Heap.get?_push_of_some _ e⟩⟩
theorem Ev.tupD (h : Evs C n env σ ow es ds) (hp : es.all noStar = true := by rfl) (hl : ds.length ≤ 2 ^ 20) : Ev C n env σ ow (.Tuple es k pos) (.tup ds) := fun A M s E hA hrd Q hQ => by
  refine wpAny_Tuple ?_
  rw [args_plain hp]
  refine spliced_of h hA hrd _ fun vs s1 k1 g1 => ⟨by have := g1.length; have e : sizeLine = 2 ^ 24 := rfl; omega, hQ _ _ (kp_trans k1 (kp_push0 s1 _)) ⟨_, vs, rfl, (hrd.keeps k1).toWd.fresh (Nat.le_refl _), ⟨_, Heap.get?_push_size _ rfl, rfl, _, rfl⟩, g1.up fun b o e => Heap.get?_push_of_some _ e⟩⟩
end
end Mine

namespace Mine
open PySem PySem.W PyProof.Rows PySem.Calls

variable {C : Cx}
section
variable {n : Nat} {env : Env} {σ : List (PySem.Str × Dt)} {ow : Option (PySem.Str × List Dt)} {pos apos : Pos} {k : Nat} {x y name : PySem.Str} {e l r o a value slice e1 e2 e3 : PySem.Expr} {d da db d1 d2 d3 : Dt} {op : PySem.Operator} {es : List PySem.Expr} {ds : List Dt} {b b1 b2 : Bool} {i j : Int}

/-! subscripts -/
theorem seqIdx {i : Int} {n : Nat} (h0 : 0 ≤ i) (h : i.toNat < n) : seqIndex? i n = some i.toNat := by
  have h1 : ¬ i < 0 := by omega
  have h2 : i < (n : Int) := by omega
  simp [seqIndex?, h1, h0, h2]
theorem subs_ops (slice : PySem.Expr) (o i : Value) : ∃ ops, subscripted slice false o i = operate ops (getItem o i) := by
  unfold subscripted
  split <;> first | exact ⟨_, rfl⟩ | (rename_i h; cases h)

theorem Ev.sub (hv : Ev C n env σ ow value da) (hi : Ev C n env σ ow slice db)
    (hg : ∀ A M s E v u, Room n A → Wd C M s → D C s.heap M da v → D C s.heap M db u → Gv C A M d (subscriptTail value slice v u) E s) : Ev C n env σ ow (.Subscript value slice pos) d := fun A M s E hA hrd Q hQ =>
  Subscript_ (hv A M s E hA hrd _ fun v s1 k1 g1 => hi A M s1 E hA (hrd.keeps k1) _ fun u s2 k2 g2 =>
    hg A M s2 E v u hA (hrd.keeps (kp_trans k1 k2)).toWd (g1.up (kp_heap k2)) g2 _ fun y s3 k3 g3 => hQ y s3 (kp_trans k1 (kp_trans k2 k3)) g3)

theorem Ev.itemL (hv : Ev C n env σ ow value (.list ds)) (hi : Ev C n env σ ow slice (.int i)) (h0 : 0 ≤ i) (hd : ds[i.toNat]? = some d) (hb : ds.length ≤ 2 ^ 60) : Ev C n env σ ow (.Subscript value slice pos) d :=
  Ev.sub hv hi fun A M s E v u hA hw gv gu Q hQ => by
    obtain ⟨l, vs, rfl, hm, hl, hD⟩ := gv
    obtain ⟨t, rfl⟩ := gu
    obtain ⟨v, hv, g⟩ := hD.get hd
    obtain ⟨ops, hs⟩ := subs_ops slice (.ref l) (.int i t)
    have hlt := (List.getElem?_eq_some_iff.mp hd).1
    exact tail_any hl.typeIs slot_list_getitem.lookup (wpAny_getItem_list hl h0 (by omega) (by simpa using hv) (hQ _ _ (kp_refl s) g)) hs
theorem Ev.itemLneg (hv : Ev C n env σ ow value (.list ds)) (hi : Ev C n env σ ow slice (.int i)) (h0 : i < 0) (h1 : -(ds.length : Int) ≤ i) (hd : ds[(i + ds.length).toNat]? = some d) (hb : ds.length ≤ 2 ^ 60) : Ev C n env σ ow (.Subscript value slice pos) d :=
  Ev.sub hv hi fun A M s E v u hA hw gv gu Q hQ => by
    obtain ⟨l, vs, rfl, hm, hl, hD⟩ := gv
    obtain ⟨t, rfl⟩ := gu
    obtain ⟨v, hv, g⟩ := hD.get hd
    have hlen := hD.length
    obtain ⟨ops, hs⟩ := subs_ops slice (.ref l) (.int i t)
    exact tail_any hl.typeIs slot_list_getitem.lookup (wpAny_getItem_list_neg hl h0 (by simpa [hlen] using h1) (by omega) (by simpa [hlen] using hv) (hQ _ _ (kp_refl s) g)) hs
theorem Ev.itemT (hv : Ev C n env σ ow value (.tup ds)) (hi : Ev C n env σ ow slice (.int i)) (h0 : 0 ≤ i) (hd : ds[i.toNat]? = some d) (hb : ds.length ≤ 2 ^ 60) : Ev C n env σ ow (.Subscript value slice pos) d :=
  Ev.sub hv hi fun A M s E v u hA hw gv gu Q hQ => by
    obtain ⟨l, vs, rfl, hm, hl, hD⟩ := gv
    obtain ⟨t, rfl⟩ := gu
    obtain ⟨v, hv, g⟩ := hD.get hd
    have hlt := (List.getElem?_eq_some_iff.mp hd).1
    have hlen := hD.length
    obtain ⟨ops, hs⟩ := subs_ops slice (.ref l) (.int i t)
    have hj : seqIndex? i vs.toArray.size = some i.toNat := seqIdx h0 (by simp only [List.size_toArray]; omega)
    exact tail_any hl.typeIs slot_tuple_getitem.lookup (getItem_tuple hl (by omega) (by omega) hj (by simpa using hv) (hQ _ _ (kp_refl s) g)) hs
/-- a sign of a text -/
theorem Ev.itemS {c : Nat} (hv : Ev C n env σ ow value (.str x)) (hi : Ev C n env σ ow slice (.int i)) (h0 : 0 ≤ i) (hd : x.cps[i.toNat]? = some c) (hb : x.length ≤ 2 ^ 60) : Ev C n env σ ow (.Subscript value slice pos) (.str ⟨#[c]⟩) :=
  Ev.sub hv hi fun A M s E v u hA hw gv gu Q hQ => by
    obtain ⟨t, rfl⟩ := gv
    obtain ⟨t', rfl⟩ := gu
    obtain ⟨ops, hs⟩ := subs_ops slice (.str x t) (.int i t')
    have hlt : i.toNat < x.length := by
      have := (Array.getElem?_eq_some_iff.mp hd).1
      exact this
    have hj : (seqIndex? i x.length).bind (x.cps[·]?) = some c := by
      rw [seqIdx h0 hlt]
      exact hd
    exact tail_any (typeIs_str _ _ _) F.slot_str_getitem.lookup (PyProof.Rows.getItem_str (by simp; omega) hj (hQ _ _ (kp_tok s _) ⟨_, rfl⟩)) hs
theorem Ev.itemD {ps : List (PySem.Str × PySem.Str)} (hv : Ev C n env σ ow value (.sdict ps)) (hi : Ev C n env σ ow slice (.str x)) (hd : ps.lookup x = some y) : Ev C n env σ ow (.Subscript value slice pos) (.str y) :=
  Ev.sub hv hi fun A M s E v u hA hw gv gu Q hQ => by
    obtain ⟨l, f, rfl, hm, hl, hf⟩ := gv
    obtain ⟨t, rfl⟩ := gu
    obtain ⟨ops, hs⟩ := subs_ops slice (.ref l) (.str x t)
    have hx := hf x
    rw [hd] at hx
    obtain ⟨t', hx⟩ := hx
    exact tail_any hl.typeIs slot_dict_getitem.lookup (wpAny_getItem_of (strKind_is C.prog C.w x t) hl hx (hQ _ _ (kp_tok s _) ⟨_, rfl⟩)) hs

/-! slices -/
/-- a slice's part: none or an int -/
inductive Pt (C : Cx) (n : Nat) (env : Env) (σ : List (PySem.Str × Dt)) (ow : Option (PySem.Str × List Dt)) : Option PySem.Expr → Option Int → Prop
  | none : Pt C n env σ ow .none .none
  | some {e : PySem.Expr} {i : Int} : Ev C n env σ ow e (.int i) → Pt C n env σ ow (.some e) (.some i)
theorem Pt.eval {p : Option PySem.Expr} {k : Option Int} (h : Pt C n env σ ow p k) {A M s E} (hA : Room n A) (hrd : Rd C env M σ ow s) (Q : Value → Shared → Prop) (hQ : ∀ v s', Keeps s s' → IsPart v k → Q v s') :
    wpAny (model C.prog C.w) A (evalPart p env) Q E s := by
  cases h with
  | none => exact wpAny_evalPart_none (hQ _ _ (kp_refl s) .none)
  | some h => exact wpAny_evalPart_some (h A M s E hA hrd _ fun v s1 k1 g1 => by obtain ⟨t, rfl⟩ := g1; exact hQ _ _ k1 (.int _ _))

def dsl (ds : List Dt) (lo hi st : Option Int) : List Dt := (sliceRange (sliceBounds lo hi st ds.length).1 (sliceBounds lo hi st ds.length).2.1 (sliceBounds lo hi st ds.length).2.2).filterMap (ds[·]?)
theorem DA.pick {h : Heap} {M : Mu} {ds : List Dt} {vs : List Value} (x : DA C h M ds vs) : ∀ l : List Nat, DA C h M (l.filterMap (ds[·]?)) (l.filterMap (vs[·]?))
  | [] => rfl
  | i :: l => by
    simp only [List.filterMap_cons]
    cases hd : ds[i]? with
    | none =>
      have : vs[i]? = none := by
        have := x.length
        rw [List.getElem?_eq_none_iff] at hd ⊢
        omega
      rw [this]; exact x.pick l
    | some d =>
      obtain ⟨v, hv, g⟩ := x.get hd
      rw [hv]
      exact ⟨v, _, rfl, g, x.pick l⟩
theorem Ev.sliceL {lo hi st : Option PySem.Expr} {p : Pos} {a b c : Option Int} (hv : Ev C n env σ ow value (.list ds)) (h1 : Pt C n env σ ow lo a) (h2 : Pt C n env σ ow hi b) (h3 : Pt C n env σ ow st c) (h0 : c ≠ some 0) (hb : ds.length ≤ 2 ^ 20) :
    Ev C n env σ ow (.Subscript value (.Slice lo hi st p) pos) (.list (dsl ds a b c)) := fun A M s E hA hrd Q hQ => by
  refine Subscript_ (hv A M s E hA hrd _ fun v s1 k1 g1 => wpAny_Slice (h1.eval hA (hrd.keeps k1) _ fun vl s2 k2 p2 => h2.eval hA (hrd.keeps (kp_trans k1 k2)) _ fun vu s3 k3 p3 => h3.eval hA (hrd.keeps (kp_trans k1 (kp_trans k2 k3))) _ fun vst s4 k4 p4 => ?_))
  have k14 := kp_trans k2 (kp_trans k3 k4)
  have g := g1.up (kp_heap k14)
  obtain ⟨l, vs, rfl, hm, hl, hD⟩ := g
  obtain ⟨ops, hs⟩ := subs_ops (.Slice lo hi st p) (.ref l) (.ref s4.heap.objs.size)
  have hlen := hD.length
  have hw := (hrd.keeps (kp_trans k1 k14)).toWd
  have e24 : sizeLine = 2 ^ 24 := rfl
  refine tail_any (hl.push _).typeIs slot_list_getitem.lookup (wpAny_getItem_list_slice (hl.push _) (Heap.IsSliceOf.new ..) p2 p3 p4 h0 ?_ (by simp only [List.size_toArray]; omega)) hs
  have kk : Keeps s4 { s4 with heap := (s4.heap.push { cls := .type "slice", data := .fields #[vl, vu, vst] }).push { cls := .type "list", data := .seq (slicePick vs.toArray a b c) } } :=
    kp_mk0 fun b o e => Heap.get?_push_of_some _ (Heap.get?_push_of_some _ e)
  refine hQ _ _ (kp_trans k1 (kp_trans k14 kk)) ⟨_, _, rfl, hw.fresh (by show s4.heap.objs.size ≤ (s4.heap.push _).objs.size; rw [Heap.size_push]; omega), ⟨_, Heap.get?_push_size _ rfl, rfl, _, rfl⟩, ?_⟩
  have := (hD.pick (sliceRange (sliceBounds a b c ds.length).1 (sliceBounds a b c ds.length).2.1 (sliceBounds a b c ds.length).2.2)).up (kp_heap kk)
  unfold dsl
  simpa [hlen] using this
theorem Ev.sliceS {lo hi : Option PySem.Expr} {p : Pos} {a b : Option Int} (hv : Ev C n env σ ow value (.str x)) (h1 : Pt C n env σ ow lo a) (h2 : Pt C n env σ ow hi b) (hb : x.length ≤ 2 ^ 20) :
    Ev C n env σ ow (.Subscript value (.Slice lo hi Option.none p) pos) (.str (Txt.slice x a b)) := fun A M s E hA hrd Q hQ => by
  refine Subscript_ (hv A M s E hA hrd _ fun v s1 k1 g1 => wpAny_Slice (h1.eval hA (hrd.keeps k1) _ fun vl s2 k2 p2 => h2.eval hA (hrd.keeps (kp_trans k1 k2)) _ fun vu s3 k3 p3 => wpAny_evalPart_none ?_))
  have k13 := kp_trans k2 k3
  obtain ⟨t, rfl⟩ := g1
  obtain ⟨ops, hs⟩ := subs_ops (.Slice lo hi Option.none p) (.str x t) (.ref s3.heap.objs.size)
  have ht : ∀ r, letTemporaryGo value (.str x t) r = pure () := by intro r; cases value <;> rfl
  have e24 : sizeLine = 2 ^ 24 := rfl
  have hK : KeptH fun h => ∀ b o, s3.heap.get? b = some o → h.get? b = some o := fun h ob hh b o e => Heap.get?_push_of_some _ (hh b o e)
  have fin : ∀ h' t' k, (∀ b o, s3.heap.get? b = some o → h'.get? b = some o) → Q (.str (Txt.slice x a b) t') { s3 with heap := h', toks := k } := fun h' t' k hk => hQ _ _ (kp_trans k1 (kp_trans k13 (kp_mk hk))) ⟨t', rfl⟩
  refine tail_of_ItemOn ?_ hs ht
  cases p2 <;> cases p3
  · exact SBH.sliceItem_nn hK (fun _ _ e => e) fin (by omega)
  · exact SBH.sliceItem_ns hK (fun _ _ e => e) fin (by omega)
  · exact SBH.sliceItem_sn hK (fun _ _ e => e) fin (by omega)
  · exact SBH.sliceItem_ss hK (fun _ _ e => e) fin (by omega)

/-! calls -/
/-- a def of the text, by its name: the call of it on data gives a datum -/
def Con (C : Cx) (n : Nat) (f : PySem.Str) (ds : List Dt) (r : Dt) : Prop :=
  ∃ a o fd, C.mg f = some (.ref a) ∧ C.base.get? a = some o ∧ o.data = .func fd ∧ Vs C n (fun vs => call (.ref a) vs) ds r

theorem callWith_other {A : Around} {E : Value → Shared → Prop} {s : Shared} {pos : Pos} {f : Value} {first : List Value} {args : List (Bool × Sem Value)} {Q : Value → Shared → Prop} (hf : ∀ a, f ≠ .ref a) (hplain : args.any (·.1) = false)
    (h : wpAny (model C.prog C.w) A (evalArgs f true args []) (fun a s₁ => wpAny (model C.prog C.w) A (call f (first ++ a.pos) a.kw) Q E s₁) E s) :
    wpAny (model C.prog C.w) A (callWith pos f first args []) Q E s := by
  have hk : keeperOf f = pure .machine := by cases f <;> first | rfl | exact absurd rfl (hf _)
  unfold callWith
  refine wpAny_bind (wpAny_holding (wpAny_mono h (fun a s₁ h₁ => wpAny_bind (wpAny_standAt ?_)) fun _ _ x => x))
  simp only [hplain, List.any_nil, Bool.or_false, hk]
  refine wpAny_bind (wpAny_pure ?_)
  exact wpAny_bind (wpAny_mono h₁ (fun r s₂ hr => wpAny_bind (wpAny_holding (wpAny_point (wpAny_pure hr)))) fun _ _ x => x)

theorem args_eval {A : Around} {M : Mu} {E : Value → Shared → Prop} {s : Shared} {f : Value} {es : List PySem.Expr} {ds : List Dt} (h : Evs C n env σ ow es ds) (hA : Room n A) (hrd : Rd C env M σ ow s)
    (Q : Args → Shared → Prop) (hQ : ∀ vs s', Keeps s s' → DA C s'.heap M ds vs → Q ⟨vs, []⟩ s') : wpAny (model C.prog C.w) A (evalArgs f true (es.map fun e => (false, eval e env)) []) Q E s := by
  cases h with
  | nil => exact PyProof.Rows.evalArgs_none (hQ [] s (kp_refl s) rfl)
  | cons h hs => exact evalArgs_plain (spliced_of (.cons h hs) hA hrd _ hQ)

/-- a call of what a global name stands for -/
theorem call_global {A : Around} {M : Mu} {E : Value → Shared → Prop} {s : Shared} {f : PySem.Str} {fv : Value} {p : Pos} {Q : Value → Shared → Prop} (hx : env.kindOf f = some .globalImplicit) (hp : es.all noStar = true)
    (hl : wpAny (model C.prog C.w) A (loadGlobal env f) (fun v s' => v = fv ∧ s' = s) E s)
    (h : wpAny (model C.prog C.w) A (callWith pos fv [] (es.map fun e => (false, eval e env)) []) Q E s) (hk : env.scope.kind = .function := by rfl) (hd : (f == ("__debug__" : PySem.Str)) = false := by decide +kernel) :
    wpAny (model C.prog C.w) A (eval (.Call (.Name f p) es [] pos) env) Q E s := by
  show wpAny _ A (do callWith pos (← eval (.Name f p) env) [] (backTo pos (starEach es env)) (backToKw pos (keywordEach [] env))) Q E s
  refine wpAny_bind (Calls.Name_function_global hk hx (wpAny_mono hl (fun v s' e => ?_) fun _ _ x => x) hd)
  obtain ⟨rfl, rfl⟩ := e
  rw [args_plain hp]
  exact h

theorem Ev.callF {f : PySem.Str} {p : Pos} (hf : Con C n f ds d) (ha : Evs C n env σ ow es ds) (hx : env.kindOf f = some .globalImplicit := by rfl) (hg : env.globals = mainGlobals := by rfl) (hp : es.all noStar = true := by rfl)
    (hk : env.scope.kind = .function := by rfl) (hd : (f == ("__debug__" : PySem.Str)) = false := by decide +kernel) : Ev C n env σ ow (.Call (.Name f p) es [] pos) d := fun A M s E hA hrd Q hQ => by
  obtain ⟨a, o, fd, h1, h2, h3, h4⟩ := hf
  refine call_global (fv := .ref a) (M := M) hx hp (Calls.loadGlobal_global (by rw [hg]; exact hrd.toWd.top.g) h1 ⟨rfl, rfl⟩) ?_ hk hd
  refine Calls.callWith_function (o := o) (fd := fd) (args_eval ha hA hrd _ fun vs s1 k1 g1 => ⟨⟨(hrd.keeps k1).toWd.base _ _ h2, h3⟩, ?_⟩)
  exact h4 A M s1 E vs hA (hrd.keeps k1).toWd g1 _ fun v s2 k2 g2 => hQ v s2 (kp_trans k1 k2) g2

/-- a call of a built-in function or type by its name -/
theorem Ev.callB {f : PySem.Str} {p : Pos} {fv : Value} (hf : Vs C n (fun vs => call fv vs) ds d) (ha : Evs C n env σ ow es ds) (hm : C.mg f = Option.none) (hb : C.mb f = some fv) (hr : ∀ a, fv ≠ .ref a := by intro _ q; cases q) (hx : env.kindOf f = some .globalImplicit := by rfl) (hg : env.globals = mainGlobals := by rfl) (hgb : env.builtins = builtinsNs := by rfl) (hp : es.all noStar = true := by rfl)
    (hk : env.scope.kind = .function := by rfl) (hd : (f == ("__debug__" : PySem.Str)) = false := by decide +kernel) : Ev C n env σ ow (.Call (.Name f p) es [] pos) d := fun A M s E hA hrd Q hQ => by
  refine call_global (fv := fv) (M := M) hx hp (Calls.loadGlobal_builtin (by rw [hg]; exact hrd.toWd.top.g) hm (by rw [hgb]; exact hrd.toWd.top.b) hb ⟨rfl, rfl⟩) ?_ hk hd
  refine callWith_other hr (by simp) (args_eval ha hA hrd _ fun vs s1 k1 g1 => ?_)
  exact hf A M s1 E vs hA (hrd.keeps k1).toWd g1 _ fun v s2 k2 g2 => hQ v s2 (kp_trans k1 k2) g2

/-- a text's method -/
theorem Ev.methS {id : String} (ho : Ev C n env σ ow o (.str x)) (ha : Evs C n env σ ow es ds) (hc : Vs C n (fun vs => call (.builtin id) vs) (.str x :: ds) d)
    (hgm : ∀ (A : Around) (s : Shared) (E : Value → Shared → Prop) (t : Tok) (pl : Sem Bool) (Q : Value × List Value → Shared → Prop), Q (.builtin id, [.str x t]) s → wpAny (model C.prog C.w) A (getMethod (.str x t) name pl) Q E s)
    (hp : es.all noStar = true := by rfl)
    (he : ∃ pl : Sem Bool, eval (.Call (.Attribute o name apos) es [] pos) env = (do
      let ov ← eval o env
      standAt apos.atName
      let (f, first) ← holding [ov] (getMethod ov name pl)
      callWith pos f first (backTo pos (starEach es env)) []) := by exact ⟨_, rfl⟩) : Ev C n env σ ow (.Call (.Attribute o name apos) es [] pos) d := fun A M s E hA hrd Q hQ => by
  obtain ⟨pl, he⟩ := he
  refine MethodCall_ (pl := pl) (ho A M s E hA hrd _ fun v s1 k1 g1 => ?_) he
  obtain ⟨t, rfl⟩ := g1
  refine hgm A s1 E t pl _ ?_
  rw [args_plain hp]
  have g1 : D C s1.heap M (.str x) (.str x t) := ⟨t, rfl⟩
  refine callWith_other (by intro _ q; cases q) (by simp) (args_eval ha hA (hrd.keeps k1) _ fun vs s2 k2 g2 => ?_)
  exact hc A M s2 E _ hA (hrd.keeps (kp_trans k1 k2)).toWd ⟨_, vs, rfl, ⟨t, rfl⟩, g2⟩ _ fun v s3 k3 g3 => hQ v s3 (kp_trans k1 (kp_trans k2 k3)) g3
end
end Mine

namespace Mine
open PySem PySem.W PyProof.Rows PySem.Calls

abbrev Sto := List (PySem.Str × Dt)
abbrev Own := Option (PySem.Str × List Dt)

/-- what may change: what the caller may change, the block's names, its cells, its own list -/
def mu (M₀ : Mu) (env : Env) (oa : Option Addr) : Mu := fun b => M₀ b ∨ b = env.locals ∨ (∃ x, (x, b) ∈ env.cells) ∨ oa = some b

structure Nm (C : Cx) (M₀ : Mu) (env : Env) (oa : Option Addr) (σ : Sto) (ow : Own) (h : Heap) (m cm : PySem.Str → Option Value) : Prop where
  ns : h.Ns env.locals m
  cells : ∀ x c, env.cells.lookup x = some c → h.IsCell c (cm x)
  vars : ∀ x d, σ.lookup x = some d → ∃ v, getv env m cm x = some v ∧ D C h (mu M₀ env oa) d v
  owns : ∀ x ds, ow = some (x, ds) → ∃ a vs, oa = some a ∧ getv env m cm x = some (.ref a) ∧ h.PlainList a vs.toArray ∧ DA C h (mu M₀ env oa) ds vs

structure St (C : Cx) (s₀ : Shared) (env : Env) (M₀ : Mu) (oa : Option Addr) (σ : Sto) (ow : Own) (s : Shared) : Prop where
  wd : Wd C (mu M₀ env oa) s
  same : ∃ h tk, s = { s₀ with heap := h, toks := tk }
  keep : ∀ b o, s₀.heap.get? b = some o → s.heap.get? b = some o
  fr : s₀.heap.objs.size ≤ env.locals
  cl : ∀ x c, (x, c) ∈ env.cells → s₀.heap.objs.size ≤ c ∧ env.locals ≠ c
  ap : env.cells.Pairwise fun x y => x.2 ≠ y.2
  oaf : ∀ a, oa = some a → s₀.heap.objs.size ≤ a ∧ a ≠ env.locals ∧ (∀ x, (x, a) ∉ env.cells) ∧ ¬ M₀ a
  fn : env.scope.kind = .function
  names : ∃ m cm, Nm C M₀ env oa σ ow s.heap m cm

/-- the block changes its names, its cells, its own list and nothing else; a new own list is a new object -/
structure Fk (env : Env) (oa oa' : Option Addr) (s s' : Shared) : Prop where
  keep : ∀ b o, s.heap.get? b = some o → b ≠ env.locals → (∀ x, (x, b) ∉ env.cells) → oa ≠ some b → s'.heap.get? b = some o
  new : ∀ a, oa' = some a → oa = some a ∨ s.heap.get? a = none

variable {C : Cx}
section
variable {s₀ s s' : Shared} {env : Env} {M₀ M : Mu} {oa oa' : Option Addr} {σ σ' : Sto} {ow ow' : Own} {n : Nat}

theorem Fk.refl : Fk env oa oa s s := ⟨fun _ _ e _ _ _ => e, fun _ e => .inl e⟩
theorem Fk.keeps (k : Keeps s s') : Fk env oa oa s s' := ⟨fun b o e _ _ _ => kp_heap k b o e, fun _ e => .inl e⟩
theorem Fk.none (k : Fk env oa oa' s s') : Fk env oa .none s s' := ⟨k.keep, fun _ e => by cases e⟩
theorem Fk.trans {s'' : Shared} {oa'' : Option Addr} (x : Fk env oa oa' s s') (y : Fk env oa' oa'' s' s'') (hs : ∀ a, oa'' = some a → a ≠ env.locals ∧ ∀ x, (x, a) ∉ env.cells) : Fk env oa oa'' s s'' where
  keep := fun b o e h1 h2 h3 => y.keep b o (x.keep b o e h1 h2 h3) h1 h2 fun q => by
    rcases x.new b q with h | h
    · exact h3 h
    · rw [e] at h; cases h
  new := fun a e => by
    obtain ⟨g1, g2⟩ := hs a e
    rcases y.new a e with h | h
    · exact x.new a h
    · by_cases q : oa = some a
      · exact .inl q
      · refine .inr ?_
        cases q2 : s.heap.get? a with
        | none => rfl
        | some o => rw [x.keep a o q2 g1 g2 q] at h; cases h

theorem St.rd (x : St C s₀ env M₀ oa σ ow s) : Rd C env (mu M₀ env oa) σ ow s where
  toWd := x.wd
  names := by
    obtain ⟨m, cm, N⟩ := x.names
    refine ⟨m, cm, N.ns, N.cells, N.vars, fun y ds e => ?_⟩
    obtain ⟨a, vs, e1, e2, e3, e4⟩ := N.owns y ds e
    exact ⟨a, vs, e2, e3.isList, e4⟩
theorem Nm.keeps {h h' : Heap} {m cm} (x : Nm C M₀ env oa σ ow h m cm) (k : ∀ b o, h.get? b = some o → h'.get? b = some o) : Nm C M₀ env oa σ ow h' m cm where
  ns := x.ns.keeps k
  cells := fun y c e => (x.cells y c e).keeps k
  vars := fun y d e => let ⟨v, e1, e2⟩ := x.vars y d e; ⟨v, e1, e2.up k⟩
  owns := fun y ds e => let ⟨a, vs, e1, e2, e3, e4⟩ := x.owns y ds e; ⟨a, vs, e1, e2, e3.at fun o => k a o, e4.up k⟩
theorem St.keeps (x : St C s₀ env M₀ oa σ ow s) (k : Keeps s s') : St C s₀ env M₀ oa σ ow s' where
  wd := x.wd.keeps k
  same := by
    obtain ⟨h, tk, rfl⟩ := x.same
    obtain ⟨h', tk', rfl, _⟩ := k
    exact ⟨h', tk', rfl⟩
  keep := fun b o e => kp_heap k b o (x.keep b o e)
  fr := x.fr
  cl := x.cl
  ap := x.ap
  oaf := x.oaf
  fn := x.fn
  names := let ⟨m, cm, N⟩ := x.names; ⟨m, cm, N.keeps (kp_heap k)⟩

def Sub (σ σ' : Sto) : Prop := ∀ x d, σ'.lookup x = some d → σ.lookup x = some d
theorem Sub.refl : Sub σ σ := fun _ _ e => e
theorem St.sub (x : St C s₀ env M₀ oa σ ow s) (h : Sub σ σ') : St C s₀ env M₀ oa σ' ow s :=
  { x with names := let ⟨m, cm, N⟩ := x.names; ⟨m, cm, { N with vars := fun y d e => N.vars y d (h y d e) }⟩ }
theorem Sub.nil : Sub σ [] := fun _ _ e => by cases e
theorem Sub.cons {x : PySem.Str} {d : Dt} (h : σ.lookup x = some d) (r : Sub σ σ') : Sub σ ((x, d) :: σ') := fun y e q => by
  rw [List.lookup_cons] at q
  cases hb : y == x with
  | true => rw [hb] at q; cases q; rw [beq_iff_eq.mp hb]; exact h
  | false => rw [hb] at q; exact r y e q
theorem Sub.trans {σ'' : Sto} (h : Sub σ σ') (r : Sub σ' σ'') : Sub σ σ'' := fun x d e => h x d (r x d e)
theorem Sub.push {x : PySem.Str} {d : Dt} (h : Sub σ σ') : Sub ((x, d) :: σ) ((x, d) :: σ') := fun y e q => by
  rw [List.lookup_cons] at q ⊢
  cases hb : y == x with
  | true => rw [hb] at q; exact q
  | false => rw [hb] at q; exact h y e q

/-- the own list becomes a list like others -/
theorem St.freeze {x : PySem.Str} {ds : List Dt} (y : St C s₀ env M₀ oa σ (some (x, ds)) s) : St C s₀ env M₀ none ((x, .list ds) :: σ) none s := by
  have hM : ∀ b, mu M₀ env none b → mu M₀ env oa b := fun b hb => by
    rcases hb with h | h | h | h
    · exact .inl h
    · exact .inr (.inl h)
    · exact .inr (.inr (.inl h))
    · cases h
  refine { y with wd := ⟨y.wd.base, fun b hb => y.wd.off b (hM b hb), fun b hb => y.wd.own b (hM b hb)⟩, oaf := (fun _ e => by cases e), names := ?_ }
  obtain ⟨m, cm, N⟩ := y.names
  obtain ⟨a, vs, e1, e2, e3, e4⟩ := N.owns x ds rfl
  have dn : ∀ {d v}, D C s.heap (mu M₀ env oa) d v → D C s.heap (mu M₀ env none) d v := fun h => D.mono (fun _ _ _ e => e) (fun b _ _ => hM b) h
  have dna : ∀ {d v}, DA C s.heap (mu M₀ env oa) d v → DA C s.heap (mu M₀ env none) d v := fun h => DA.mono (fun _ _ _ e => e) (fun b _ _ => hM b) h
  refine ⟨m, cm, N.ns, N.cells, fun z d e => ?_, fun _ _ e => by cases e⟩
  rw [List.lookup_cons] at e
  cases hb : z == x with
  | true =>
    rw [hb] at e; cases e
    rw [beq_iff_eq.mp hb]
    refine ⟨_, e2, a, vs, rfl, ?_, e3.isList, dna e4⟩
    obtain ⟨f1, f2, f3, f4⟩ := y.oaf a e1
    rintro (h | h | ⟨z, h⟩ | h)
    · exact f4 h
    · exact f2 h
    · exact f3 _ h
    · cases h
  | false =>
    rw [hb] at e
    obtain ⟨v, e1, e2⟩ := N.vars z d e
    exact ⟨v, e1, dn e2⟩
end

/-- a flow and its datum -/
inductive Fl where
  | next
  | brk
  | cont
  | ret (d : Dt)
def FlD (C : Cx) (h : Heap) (M : Mu) : Fl → Flow → Prop
  | .next, .next => True
  | .brk, .brk => True
  | .cont, .cont => True
  | .ret d, .ret v => D C h M d v
  | _, _ => False

abbrev Post := Fl → Sto → Own → Prop

/-- a tree of flows in a block, from a store to a store -/
def Fx (C : Cx) (n : Nat) (env : Env) (σ : Sto) (ow : Own) (t : Sem Flow) (Φ : Post) : Prop :=
  ∀ A s₀ M₀ s oa (E : Value → Shared → Prop) (Q : Flow → Shared → Prop), Room n A → St C s₀ env M₀ oa σ ow s →
    (∀ fl f s' oa' σ' ow', St C s₀ env M₀ oa' σ' ow' s' → Fk env oa oa' s s' → FlD C s'.heap (mu M₀ env oa') f fl → Φ f σ' ow' → Q fl s') → wpAny (model C.prog C.w) A t Q E s
abbrev Ex (C : Cx) (n : Nat) (env : Env) (σ : Sto) (ow : Own) (ss : List Stmt) (Φ : Post) : Prop := Fx C n env σ ow (execs ss env) Φ
abbrev Ex1 (C : Cx) (n : Nat) (env : Env) (σ : Sto) (ow : Own) (st : Stmt) (Φ : Post) : Prop := Fx C n env σ ow (exec st env) Φ
end Mine

namespace Mine
open PySem PySem.W PyProof.Rows PySem.Calls

variable {C : Cx}
section
variable {s₀ s s' : Shared} {env : Env} {M₀ M : Mu} {oa oa' : Option Addr} {σ σ' : Sto} {ow ow' : Own} {n : Nat} {Φ Ψ : Post} {x y : PySem.Str} {d d1 d2 : Dt} {ds : List Dt} {pos apos p px : Pos} {e value test : PySem.Expr} {ss body orelse : List Stmt} {b : Bool} {A : Around} {E : Value → Shared → Prop}

theorem St.done {oa' : Option Addr} (h : St C s₀ env M₀ oa' σ ow s) : ∀ a, oa' = some a → a ≠ env.locals ∧ ∀ x, (x, a) ∉ env.cells := fun a e => ⟨(h.oaf a e).2.1, (h.oaf a e).2.2.1⟩

theorem mem_lookup {l : List (PySem.Str × Addr)} {x : PySem.Str} {c : Addr} (h : l.lookup x = some c) : (x, c) ∈ l := mem_of_lookup h

/-- is the name stored here -/
def stored (env : Env) (x : PySem.Str) : Bool := env.kindOf x == some .local || (env.kindOf x == some .cell && (env.cells.lookup x).isSome)

theorem not_own {x : PySem.Str} (h : ow.all (fun q => !(q.1 == x)) = true) {z ds} (e : ow = some (z, ds)) : z ≠ x := by
  subst e
  intro q
  subst q
  simp at h

/-- a name is bound -/
theorem store (S : St C s₀ env M₀ oa σ ow s) {v : Value} (g : D C s.heap (mu M₀ env oa) d v) (hs : stored env x = true) (ho : ow.all (fun q => !(q.1 == x)) = true)
    (Q : Unit → Shared → Prop) (hQ : ∀ s', St C s₀ env M₀ oa ((x, d) :: σ) ow s' → Fk env oa oa s s' → Q () s') : wpAny (model C.prog C.w) A (storeName env x v) Q E s := by
  obtain ⟨m, cm, N⟩ := S.names
  obtain ⟨h0, tk0, hs0⟩ := S.same
  unfold stored at hs
  by_cases hl : env.kindOf x = some .local
  · refine wpAny_storeName_local hl N.ns (fun h' hn hsb => ?_) (by rw [S.fn]; rfl)
    have up : ∀ b o, b ≠ env.locals → s.heap.get? b = some o → h'.get? b = some o := fun b o hb e => (hsb.2 b hb).trans e
    have upM : ∀ b o, ¬ mu M₀ env oa b → s.heap.get? b = some o → h'.get? b = some o := fun b o hb e => up b o (fun q => hb (.inr (.inl q))) e
    have gd : ∀ {d v}, D C s.heap (mu M₀ env oa) d v → D C h' (mu M₀ env oa) d v := fun z => D.mono upM (fun _ _ _ => id) z
    have gda : ∀ {d v}, DA C s.heap (mu M₀ env oa) d v → DA C h' (mu M₀ env oa) d v := fun z => DA.mono upM (fun _ _ _ => id) z
    have hv : ∀ y, getv env (fun z => if z = x then some v else m z) cm y = if y = x then some v else getv env m cm y := fun y => by
      by_cases q : y = x
      · subst q; simp [getv, hl]
      · simp only [getv, q, if_false]
    refine hQ _ ⟨⟨fun b o e => ?_, S.wd.off, fun b hb => ?_⟩, ⟨h', s.toks + 1, by rw [hs0]⟩, fun b o e => up b o ?_ (S.keep b o e), S.fr, S.cl, S.ap, S.oaf, S.fn, _, cm, hn, fun y c e => ?_, fun y dd e => ?_, fun y dd e => ?_⟩ ⟨fun b o e h1 _ _ => up b o h1 e, fun _ e => .inl e⟩
    · exact up b o (fun q => by have := S.wd.off b (.inr (.inl q)); rw [e] at this; cases this) (S.wd.base b o e)
    · by_cases q : b = env.locals
      · obtain ⟨o, _, _, ho, _⟩ := hn; exact ⟨o, q ▸ ho⟩
      · obtain ⟨o, ho⟩ := S.wd.own b hb; exact ⟨o, up b o q ho⟩
    · exact fun q => Nat.lt_irrefl _ (Nat.lt_of_lt_of_le (Heap.lt_size e) (q ▸ S.fr))
    · exact (N.cells y c e).sameBut hsb (S.cl y c (mem_lookup e)).2.symm
    · rw [List.lookup_cons] at e
      rw [hv]
      cases hb : y == x with
      | true => rw [hb] at e; cases e; rw [if_pos (beq_iff_eq.mp hb)]; exact ⟨v, rfl, gd g⟩
      | false =>
        rw [hb] at e
        rw [if_neg (fun q => by rw [q] at hb; simp at hb)]
        obtain ⟨u, e1, e2⟩ := N.vars y dd e
        exact ⟨u, e1, gd e2⟩
    · obtain ⟨a, vs, e1, e2, e3, e4⟩ := N.owns y dd e
      rw [hv, if_neg (not_own ho e)]
      exact ⟨a, vs, e1, e2, e3.at fun o => up a o (S.oaf a e1).2.1, gda e4⟩
  · have hs' : env.kindOf x = some .cell ∧ (env.cells.lookup x).isSome = true := by
      simpa [hl] using hs
    obtain ⟨hc, hl2⟩ := hs'
    obtain ⟨c, hcl⟩ := Option.isSome_iff_exists.mp hl2
    have hcc := S.cl x c (mem_lookup hcl)
    refine wpAny_storeName_cell S.fn hc hcl (N.cells x c hcl) fun h' hcn hsb => ?_
    have up : ∀ b o, b ≠ c → s.heap.get? b = some o → h'.get? b = some o := fun b o hb e => (hsb.2 b hb).trans e
    have hMc : mu M₀ env oa c := .inr (.inr (.inl ⟨x, mem_lookup hcl⟩))
    have upM : ∀ b o, ¬ mu M₀ env oa b → s.heap.get? b = some o → h'.get? b = some o := fun b o hb e => up b o (fun q => hb (q ▸ hMc)) e
    have gd : ∀ {d v}, D C s.heap (mu M₀ env oa) d v → D C h' (mu M₀ env oa) d v := fun z => D.mono upM (fun _ _ _ => id) z
    have gda : ∀ {d v}, DA C s.heap (mu M₀ env oa) d v → DA C h' (mu M₀ env oa) d v := fun z => DA.mono upM (fun _ _ _ => id) z
    have hv : ∀ y, getv env m (fun z => if z = x then some v else cm z) y = if y = x then some v else getv env m cm y := fun y => by
      by_cases q : y = x
      · subst q; simp [getv, hc, hcl]
      · simp only [getv, q, if_false]
    refine hQ _ ⟨⟨fun b o e => ?_, S.wd.off, fun b hb => ?_⟩, ⟨h', s.toks, by rw [hs0]⟩, fun b o e => up b o ?_ (S.keep b o e), S.fr, S.cl, S.ap, S.oaf, S.fn, m, (fun z => if z = x then some v else cm z), N.ns.sameBut hsb hcc.2, fun y c' e => ?_, fun y dd e => ?_, fun y dd e => ?_⟩ ⟨fun b o e _ h2 _ => up b o (fun q => h2 x (q ▸ mem_lookup hcl)) e, fun _ e => .inl e⟩
    · exact up b o (fun q => by have := S.wd.off b (q ▸ hMc); rw [e] at this; cases this) (S.wd.base b o e)
    · by_cases q : b = c
      · obtain ⟨o, ho, _⟩ := hcn; exact ⟨o, q ▸ ho⟩
      · obtain ⟨o, ho⟩ := S.wd.own b hb; exact ⟨o, up b o q ho⟩
    · exact fun q => Nat.lt_irrefl _ (Nat.lt_of_lt_of_le (Heap.lt_size e) (q ▸ hcc.1))
    · by_cases q : y = x
      · subst q; rw [hcl] at e; cases e; simpa using hcn
      · rw [if_neg q]
        exact (N.cells y c' e).sameBut hsb fun z => q (name_of_addr S.ap (mem_lookup e) (z ▸ mem_lookup hcl))
    · rw [List.lookup_cons] at e
      rw [hv]
      cases hb : y == x with
      | true => rw [hb] at e; cases e; rw [if_pos (beq_iff_eq.mp hb)]; exact ⟨v, rfl, gd g⟩
      | false =>
        rw [hb] at e
        rw [if_neg (fun q => by rw [q] at hb; simp at hb)]
        obtain ⟨u, e1, e2⟩ := N.vars y dd e
        exact ⟨u, e1, gd e2⟩
    · obtain ⟨a, vs, e1, e2, e3, e4⟩ := N.owns y dd e
      rw [hv, if_neg (not_own ho e)]
      refine ⟨a, vs, e1, e2, e3.at fun o => up a o ?_, gda e4⟩
      exact fun q => (S.oaf a e1).2.2.1 x (q ▸ mem_lookup hcl)

/-! statements -/
theorem Fx.mono {t : Sem Flow} (h : Fx C n env σ ow t Φ) (hΦ : ∀ f σ ow, Φ f σ ow → Ψ f σ ow) : Fx C n env σ ow t Ψ := fun A s₀ M₀ s oa E Q hA S hQ =>
  h A s₀ M₀ s oa E Q hA S fun fl f s' oa' σ' ow' S' k g z => hQ fl f s' oa' σ' ow' S' k g (hΦ _ _ _ z)
theorem Fx.sub {t : Sem Flow} (h : Fx C n env σ' ow t Φ) (hs : Sub σ σ') : Fx C n env σ ow t Φ := fun A s₀ M₀ s oa E Q hA S hQ => h A s₀ M₀ s oa E Q hA (S.sub hs) hQ
theorem Ex.nil (h : Φ .next σ ow) : Ex C n env σ ow [] Φ := fun A s₀ M₀ s oa E Q hA S hQ => wpAny_execs_nil (hQ .next .next s oa σ ow S Fk.refl trivial h)
theorem Ex.cons {st : Stmt} (h : Ex1 C n env σ ow st fun f σ' ow' => match f with | .next => Ex C n env σ' ow' ss Φ | f => Φ f σ' ow') : Ex C n env σ ow (st :: ss) Φ := fun A s₀ M₀ s oa E Q hA S hQ =>
  wpAny_execs_cons (h A s₀ M₀ s oa E _ hA S fun fl f s1 oa1 σ1 ow1 S1 k1 g1 z => by
    cases f <;> cases fl <;> first | exact g1.elim | skip
    · exact z A s₀ M₀ s1 oa1 E Q hA S1 fun fl f s2 oa2 σ2 ow2 S2 k2 g2 z2 => hQ fl f s2 oa2 σ2 ow2 S2 (k1.trans k2 S2.done) g2 z2
    · exact hQ .brk .brk s1 oa1 σ1 ow1 S1 k1 trivial z
    · exact hQ .cont .cont s1 oa1 σ1 ow1 S1 k1 trivial z
    · exact hQ _ (.ret _) s1 oa1 σ1 ow1 S1 k1 g1 z)
theorem Ex1.pass (h : Φ .next σ ow) : Ex1 C n env σ ow (.Pass pos) Φ := fun A s₀ M₀ s oa E Q hA S hQ => wpAny_Pass (hQ .next .next s oa σ ow S Fk.refl trivial h)
theorem Ex1.break (h : Φ .brk σ ow) : Ex1 C n env σ ow (.Break pos) Φ := fun A s₀ M₀ s oa E Q hA S hQ => wpAny_Break (hQ .brk .brk s oa σ ow S Fk.refl trivial h)
theorem Ex1.continue (h : Φ .cont σ ow) : Ex1 C n env σ ow (.Continue pos) Φ := fun A s₀ M₀ s oa E Q hA S hQ => wpAny_Continue (hQ .cont .cont s oa σ ow S Fk.refl trivial h)
theorem Ex1.ret (he : Ev C n env σ ow e d) (h : Φ (.ret d) σ ow) : Ex1 C n env σ ow (.Return (some e) pos) Φ := fun A s₀ M₀ s oa E Q hA S hQ =>
  wpAny_Return_some (he A _ s E hA S.rd _ fun v s1 k1 g1 => hQ (.ret v) (.ret d) s1 oa σ ow (S.keeps k1) (Fk.keeps k1) g1 h)
theorem Ex1.ite (ht : Tt C n env σ ow test b) (h1 : b = true → Ex C n env σ ow body Φ) (h2 : b = false → Ex C n env σ ow orelse Φ) : Ex1 C n env σ ow (.If test body orelse pos) Φ := fun A s₀ M₀ s oa E Q hA S hQ =>
  wpAny_If (ht A _ s E hA S.rd _ fun s1 k1 => by
    cases b with
    | true => exact h1 rfl A s₀ M₀ s1 oa E Q hA (S.keeps k1) fun fl f s2 oa2 σ2 ow2 S2 k2 g2 z2 => hQ fl f s2 oa2 σ2 ow2 S2 ((Fk.keeps k1).trans k2 S2.done) g2 z2
    | false => exact h2 rfl A s₀ M₀ s1 oa E Q hA (S.keeps k1) fun fl f s2 oa2 σ2 ow2 S2 k2 g2 z2 => hQ fl f s2 oa2 σ2 ow2 S2 ((Fk.keeps k1).trans k2 S2.done) g2 z2)
theorem Ex1.asg (he : Ev C n env σ ow value d) (h : Φ .next ((x, d) :: σ) ow) (hs : stored env x = true := by rfl) (ho : ow.all (fun q => !(q.1 == x)) = true := by rfl) (hw : swapsWith value (some (.Name x p)) pos.line env = pure false := by rfl) :
    Ex1 C n env σ ow (.Assign [.Name x p] value pos) Φ := fun A s₀ M₀ s oa E Q hA S hQ =>
  wpAny_Assign_Name (he A _ s E hA S.rd _ fun v s1 k1 g1 => store (S.keeps k1) g1 hs ho _ fun s2 S2 k2 => hQ .next .next s2 oa _ ow S2 ((Fk.keeps k1).trans k2 S2.done) trivial h) hw
theorem Ex1.aug {op : PySem.Operator} (hl : σ.lookup x = some d1) (he : Ev C n env σ ow value d2) (hop : V2 C n (inplaceOp op) d1 d2 d) (h : Φ .next ((x, d) :: σ) ow) (hs : stored env x = true := by rfl) (ho : ow.all (fun q => !(q.1 == x)) = true := by rfl)
    (hcd : (x == ("__classdict__" : PySem.Str)) = false := by decide +kernel) : Ex1 C n env σ ow (.AugAssign (.Name x p) op value pos) Φ := fun A s₀ M₀ s oa E Q hA S hQ => by
  obtain ⟨m, cm, N⟩ := S.names
  obtain ⟨v, e1, g1⟩ := N.vars x d1 hl
  exact wpAny_AugAssign_Name (load_name S.fn hcd N.ns N.cells e1 (he A _ s E hA S.rd _ fun u s2 k2 g2 => hop A _ s2 E v u hA (S.keeps k2).wd (g1.up (kp_heap k2)) g2 _ fun r s3 k3 g3 =>
    store (S.keeps (kp_trans k2 k3)) g3 hs ho _ fun s4 S4 k4 => hQ .next .next s4 oa _ ow S4 ((Fk.keeps (kp_trans k2 k3)).trans k4 S4.done) trivial h))

/-! a list of the block's own -/
theorem Ex1.own (h : Φ .next σ (some (x, []))) (hs : env.kindOf x = some .local := by rfl) (hn : ow = none := by rfl) (hw : swapsWith (.List [] apos) (some (.Name x p)) pos.line env = pure false := by rfl) (hσ : ∀ d, σ.lookup x ≠ some d := by intro d e; cases e) :
    Ex1 C n env σ ow (.Assign [.Name x p] (.List [] apos) pos) Φ := fun A s₀ M₀ s oa E Q hA S hQ => by
  subst hn
  refine wpAny_Assign_Name (wpAny_List (spliced_nil ⟨Nat.zero_le _, ?_⟩)) hw
  generalize hs1 : ({ s with heap := s.heap.push { cls := .type "list", data := .seq ([] : List Value).toArray } } : Shared) = s1
  have k1 : Keeps s s1 := hs1 ▸ kp_push0 s _
  have S1 := S.keeps k1
  have fresh : s.heap.get? s.heap.objs.size = none := by
    cases q : s.heap.get? s.heap.objs.size with
    | none => rfl
    | some o => exact absurd (Heap.lt_size q) (Nat.lt_irrefl _)
  have hpl : s1.heap.PlainList s.heap.objs.size #[] := by subst hs1; exact ⟨_, Heap.get?_push_size _ rfl⟩
  obtain ⟨m, cm, N⟩ := S1.names
  have aL : s.heap.objs.size ≠ env.locals := fun q => by
    obtain ⟨m, cm, N⟩ := S.names
    obtain ⟨o, _, _, ho, _⟩ := N.ns
    rw [← q, fresh] at ho; cases ho
  have aC : ∀ z, (z, s.heap.objs.size) ∉ env.cells := fun z q => by
    obtain ⟨o, ho⟩ := S.wd.own _ (.inr (.inr (.inl ⟨z, q⟩)))
    rw [fresh] at ho; cases ho
  have aM : ¬ mu M₀ env oa s.heap.objs.size := fun q => by
    obtain ⟨o, ho⟩ := S.wd.own _ q
    rw [fresh] at ho; cases ho
  have s0le : s₀.heap.objs.size ≤ s.heap.objs.size := by
    obtain ⟨m, cm, N⟩ := S.names
    exact Nat.le_trans S.fr (Nat.le_of_lt N.ns.lt)
  refine wpAny_storeName_local hs N.ns (fun h' hn hsb => ?_) (by rw [S.fn]; rfl)
  have up : ∀ b o, b ≠ env.locals → s1.heap.get? b = some o → h'.get? b = some o := fun b o hb e => (hsb.2 b hb).trans e
  -- the new list may change; nothing that was known reaches it
  have gd : ∀ {d v}, D C s.heap (mu M₀ env oa) d v → D C h' (mu M₀ env (some s.heap.objs.size)) d v := fun {d v} z => D.mono (fun b o hb e => up b o (fun q => hb (.inr (.inl q))) (kp_heap k1 b o e)) (fun b o e hb => by
    rcases hb with q | q | q | q
    · exact .inl q
    · exact .inr (.inl q)
    · exact .inr (.inr (.inl q))
    · cases q; rw [fresh] at e; cases e) z
  have hv : ∀ y, getv env (fun z => if z = x then some (.ref s.heap.objs.size) else m z) cm y = if y = x then some (.ref s.heap.objs.size) else getv env m cm y := fun y => by
    by_cases q : y = x
    · subst q; simp [getv, hs]
    · simp only [getv, q, if_false]
  obtain ⟨h0, tk0, hs0⟩ := S1.same
  obtain ⟨m0, cm0, N0⟩ := S.names
  have em : m = m0 := (N.ns.eq_nsMap).trans (((N0.keeps (kp_heap k1)).ns.eq_nsMap).symm)
  refine hQ .next .next _ (some s.heap.objs.size) _ _ ⟨⟨fun b o e => ?_, fun b hb => ?_, fun b hb => ?_⟩, ⟨h', s1.toks + 1, by rw [hs0]⟩, fun b o e => up b o ?_ (S1.keep b o e), S.fr, S.cl, S.ap, fun a e => ?_, S.fn, (fun z => if z = x then some (.ref s.heap.objs.size) else m0 z), cm0, em ▸ hn, fun y c e => ?_, fun y dd e => ?_, fun y dd e => ?_⟩ ⟨fun b o e h1 _ _ => up b o h1 (kp_heap k1 b o e), fun a e => .inr (by cases e; exact fresh)⟩ trivial h
  · exact up b o (fun q => by have := S.wd.off b (.inr (.inl q)); rw [e] at this; cases this) (S1.wd.base b o e)
  · rcases hb with q | q | q | q
    · exact S.wd.off b (.inl q)
    · exact S.wd.off b (.inr (.inl q))
    · exact S.wd.off b (.inr (.inr (.inl q)))
    · cases q
      cases q2 : C.base.get? s.heap.objs.size with
      | none => rfl
      | some o => have := S.wd.base _ _ q2; rw [fresh] at this; cases this
  · by_cases q : b = env.locals
    · obtain ⟨o, _, _, ho, _⟩ := hn; exact ⟨o, q ▸ ho⟩
    · by_cases q2 : b = s.heap.objs.size
      · obtain ⟨nn, ho⟩ := hpl; exact ⟨_, up b _ q (q2 ▸ ho)⟩
      · have : mu M₀ env oa b := by
          rcases hb with z | z | z | z
          · exact .inl z
          · exact .inr (.inl z)
          · exact .inr (.inr (.inl z))
          · cases z; exact absurd rfl q2
        obtain ⟨o, ho⟩ := S1.wd.own b this; exact ⟨o, up b o q ho⟩
  · exact fun q => Nat.lt_irrefl _ (Nat.lt_of_lt_of_le (Heap.lt_size e) (q ▸ S.fr))
  · cases e; exact ⟨s0le, aL, aC, fun q => aM (.inl q)⟩
  · exact ((N0.cells y c e).keeps (kp_heap k1)).sameBut hsb (S.cl y c (mem_lookup e)).2.symm
  · have hne : y ≠ x := fun q => hσ dd (q ▸ e)
    obtain ⟨u, e1, e2⟩ := N0.vars y dd e
    have hv0 : getv env (fun z => if z = x then some (.ref s.heap.objs.size) else m0 z) cm0 y = getv env m0 cm0 y := by simp only [getv, hne, if_false]
    exact ⟨u, hv0.trans e1, gd e2⟩
  · cases e
    refine ⟨s.heap.objs.size, [], rfl, ?_, hpl.at fun o => up _ o aL, rfl⟩
    simp [getv, hs]
end
end Mine

namespace Mine
open PySem PySem.W PyProof.Rows PySem.Calls

variable {C : Cx}
section
variable {s₀ s s' : Shared} {env : Env} {M₀ M : Mu} {oa oa' : Option Addr} {σ σ' : Sto} {ow ow' : Own} {n : Nat} {Φ Ψ : Post} {x y : PySem.Str} {d d1 d2 : Dt} {ds : List Dt} {pos apos p px : Pos} {e value test iter : PySem.Expr} {ss body orelse : List Stmt} {b : Bool} {A : Around} {E : Value → Shared → Prop}

/-! the own list -/
theorem Fx.freeze {t : Sem Flow} (h : Fx C n env ((x, .list ds) :: σ) none t Φ) : Fx C n env σ (some (x, ds)) t Φ := fun A s₀ M₀ s oa E Q hA S hQ =>
  h A s₀ M₀ s none E Q hA S.freeze fun fl f s' oa' σ' ow' S' k g z => hQ fl f s' oa' σ' ow' S' ⟨fun b o e h1 h2 h3 => k.keep b o e h1 h2 (by intro q; cases q), fun a e => by
    rcases k.new a e with q | q
    · cases q
    · exact .inr q⟩ g z

/-- the own list is changed in place -/
theorem St.change {a : Addr} {vs' : List Value} {ds ds' : List Dt} {m cm : PySem.Str → Option Value} (S : St C s₀ env M₀ oa σ (some (x, ds)) s) (N : Nm C M₀ env oa σ (some (x, ds)) s.heap m cm) (e1 : oa = some a) (e2 : getv env m cm x = some (.ref a)) {h' : Heap}
    (hp : h'.PlainList a vs'.toArray) (hsb : Heap.SameBut a s.heap h') (g : DA C s.heap (mu M₀ env oa) ds' vs') {tk : Nat} : St C s₀ env M₀ oa σ (some (x, ds')) { s with heap := h', toks := tk } ∧ Fk env oa oa s { s with heap := h', toks := tk } := by
  obtain ⟨h0, tk0, hs0⟩ := S.same
  obtain ⟨f1, f2, f3, f4⟩ := S.oaf a e1
  have hMa : mu M₀ env oa a := .inr (.inr (.inr e1))
  have up : ∀ b o, b ≠ a → s.heap.get? b = some o → h'.get? b = some o := fun b o hb e => (hsb.2 b hb).trans e
  have upM : ∀ b o, ¬ mu M₀ env oa b → s.heap.get? b = some o → h'.get? b = some o := fun b o hb e => up b o (fun q => hb (q ▸ hMa)) e
  refine ⟨⟨⟨fun b o e => up b o (fun q => ?_) (S.wd.base b o e), S.wd.off, fun b hb => ?_⟩, ⟨h', tk, by rw [hs0]⟩, fun b o e => up b o (fun q => ?_) (S.keep b o e), S.fr, S.cl, S.ap, S.oaf, S.fn, m, cm, ?_, fun y c e => ?_, fun y dd e => ?_, fun y dd e => ?_⟩, fun b o e _ _ h3 => up b o (fun q => h3 (by rw [q, e1])) e, fun _ e => .inl e⟩
  · have := S.wd.off b (q ▸ hMa); rw [e] at this; cases this
  · by_cases q : b = a
    · obtain ⟨nn, ho⟩ := hp; exact ⟨_, q ▸ ho⟩
    · obtain ⟨o, ho⟩ := S.wd.own b hb; exact ⟨o, up b o q ho⟩
  · exact Nat.lt_irrefl _ (Nat.lt_of_lt_of_le (Heap.lt_size e) (q ▸ f1))
  · exact N.ns.sameBut hsb (Ne.symm f2)
  · exact (N.cells y c e).sameBut hsb fun q => f3 y (q ▸ mem_lookup e)
  · obtain ⟨v, g1, g2⟩ := N.vars y dd e
    exact ⟨v, g1, D.mono upM (fun _ _ _ => id) g2⟩
  · cases e
    exact ⟨a, vs', e1, e2, hp, DA.mono upM (fun _ _ _ => id) g⟩

theorem Ex1.append (he : Ev C n env σ (some (x, ds)) e d) (h : Φ .next σ (some (x, ds ++ [d]))) (hl : ds.length ≤ 2 ^ 20) (hn : noStar e = true := by rfl) (hcd : (x == ("__classdict__" : PySem.Str)) = false := by decide +kernel) (hdb : (x == ("__debug__" : PySem.Str)) = false := by decide +kernel)
    (hi : interactive env = false := by rfl) (hw : swapsWith (.Call (.Attribute (.Name x p) "append" apos) [e] [] px) none pos.line env = pure false := by rfl)
    (he' : ∃ pl : Sem Bool, eval (.Call (.Attribute (.Name x p) "append" apos) [e] [] px) env = (do
      let ov ← eval (.Name x p) env
      standAt apos.atName
      let (f, first) ← holding [ov] (getMethod ov "append" pl)
      callWith px f first (backTo px (starEach [e] env)) []) := by exact ⟨_, rfl⟩) :
    Ex1 C n env σ (some (x, ds)) (.Expr (.Call (.Attribute (.Name x p) "append" apos) [e] [] px) pos) Φ := fun A s₀ M₀ s oa E Q hA S hQ => by
  obtain ⟨m, cm, N⟩ := S.names
  obtain ⟨a, vs, e1, e2, e3, e4⟩ := N.owns x ds rfl
  obtain ⟨pl, he'⟩ := he'
  obtain ⟨nn, ho⟩ := id e3
  refine wpAny_Expr (MethodCall_ (pl := pl) (wpAny_Name (load_name S.fn hcd N.ns N.cells e2 (getMethod_list_append ho rfl rfl ?_)) hdb) he') hi hw
  have hs : [e].all noStar = true := by simp [hn]
  rw [args_plain hs]
  refine Calls.callWith_builtin (by simp) (args_eval (C := C) (σ := σ) (.cons he .nil) hA S.rd _ fun us s1 k1 g1 => ?_)
  obtain ⟨v, r, rfl, gv, rfl⟩ := g1
  have S1 := S.keeps k1
  have N1 := N.keeps (kp_heap k1)
  have hlen := e4.length
  have e24 : sizeLine = 2 ^ 24 := rfl
  refine wpAny_list_append_plain (e3.at fun o => kp_heap k1 a o) (fun h' hp hsb => ?_) (by simp only [List.size_toArray]; omega)
  obtain ⟨S2, k2⟩ := S1.change N1 e1 e2 (vs' := vs ++ [v]) (ds' := ds ++ [d]) (tk := s1.toks) (by simpa using hp) hsb ((e4.up (kp_heap k1)).append (.one gv))
  exact hQ .next .next _ oa σ _ S2 ((Fk.keeps k1).trans k2 S2.done) trivial h

theorem Ex1.pop (hd : ∀ h M v, D C h M d v → ∀ a, v ≠ .ref a) (h : Φ .next σ (some (x, ds))) (hl : ds.length < 2 ^ 20) (hcd : (x == ("__classdict__" : PySem.Str)) = false := by decide +kernel) (hdb : (x == ("__debug__" : PySem.Str)) = false := by decide +kernel)
    (hi : interactive env = false := by rfl) (hw : swapsWith (.Call (.Attribute (.Name x p) "pop" apos) [] [] px) none pos.line env = pure false := by rfl)
    (he' : ∃ pl : Sem Bool, eval (.Call (.Attribute (.Name x p) "pop" apos) [] [] px) env = (do
      let ov ← eval (.Name x p) env
      standAt apos.atName
      let (f, first) ← holding [ov] (getMethod ov "pop" pl)
      callWith px f first (backTo px (starEach [] env)) []) := by exact ⟨_, rfl⟩) :
    Ex1 C n env σ (some (x, ds ++ [d])) (.Expr (.Call (.Attribute (.Name x p) "pop" apos) [] [] px) pos) Φ := fun A s₀ M₀ s oa E Q hA S hQ => by
  obtain ⟨m, cm, N⟩ := S.names
  obtain ⟨a, vs, e1, e2, e3, e4⟩ := N.owns x _ rfl
  obtain ⟨pl, he'⟩ := he'
  obtain ⟨nn, ho⟩ := id e3
  obtain ⟨us, ws, rfl, g1, v, r, rfl, gv, rfl⟩ := e4.split
  have hlen := g1.length
  have e24 : sizeLine = 2 ^ 24 := rfl
  refine wpAny_Expr (MethodCall_ (pl := pl) (wpAny_Name (load_name S.fn hcd N.ns N.cells e2 (getMethod_list_of F.slot_list_pop (by show builtinType _ = _; rw [builtinType_eq_fast]; kernel_rfl) e3.isList ⟨_, ho, rfl⟩ ?_)) hdb) he') hi hw
  refine PySem.P.pop_list (items := (us ++ [v]).toArray) (n := nn) ho (y := v) (by simp) ?_ (by simp; omega)
  obtain ⟨S2, k2⟩ := S.change N e1 e2 (vs' := us) (ds' := ds) (tk := s.toks) (h' := s.heap.update a (Obj.mapSeq fun xs => xs.eraseIdxIfInBounds ((us ++ [v]).toArray.size - 1))) (by
    obtain ⟨nn', q⟩ : ∃ e1, (s.heap.update a (Obj.mapSeq fun xs => xs.eraseIdxIfInBounds ((us ++ [v]).toArray.size - 1))).get? a = some (seqObj "list" ((us ++ [v]).toArray.eraseIdxIfInBounds ((us ++ [v]).toArray.size - 1)) e1) := ⟨_, get?_update_seq ho (fun xs => xs.eraseIdxIfInBounds ((us ++ [v]).toArray.size - 1))⟩
    have hne : ((us ++ [v]).toArray.eraseIdxIfInBounds ((us ++ [v]).toArray.size - 1)) = us.toArray := by
      simp [Array.eraseIdxIfInBounds]
      rw [List.eraseIdx_append_of_length_le (Nat.le_refl _)]; simp
    rw [hne] at q
    exact ⟨nn', q⟩) (Heap.SameBut.update ..) g1
  have := hQ .next .next _ oa σ _ S2 k2 trivial h
  cases v <;> first | exact this | exact absurd rfl (hd _ _ _ gv _)
end
end Mine

namespace Mine
open PySem PySem.W PyProof.Rows PySem.Calls

variable {C : Cx}

/-- the kinds of iterators that keep no tuple of their own -/
def plainIter (T : String) : Bool := !(["enumerate", "zip", "dict_itemiterator", "dict_reverseitemiterator", "odict_iterator", "itertools.zip_longest", "itertools.pairwise"].contains T)

theorem none_at (s : Shared) : s.heap.get? s.heap.objs.size = none := by
  cases q : s.heap.get? s.heap.objs.size with
  | none => rfl
  | some o => exact absurd (Heap.lt_size q) (Nat.lt_irrefl _)

/-- an iterator I upon the items ds, laid at the heap h₀; wr is what it changes; t the target that its items go to -/
structure Iter (C : Cx) (t : PySem.Expr) (I : Addr) (wr fp : List Addr) (h₀ : Heap) (M : Mu) (ds : List Dt) (Stt : Nat → Heap → Prop) : Prop where
  frame : ∀ i h h', Stt i h → (∀ b ∈ fp, ∀ o, h.get? b = some o → h'.get? b = some o) → Stt i h'
  fpok : ∀ b ∈ fp, b ∈ wr ∨ (¬ M b ∧ ∃ o, h₀.get? b = some o)
  new : ∀ b ∈ wr, h₀.get? b = none
  live : ∀ i h, Stt i h → ∀ b ∈ wr, ∃ o, h.get? b = some o
  self : ∀ (A : Around) (i : Nat) (s : Shared) (Q : Value → Shared → Prop) (E : Value → Shared → Prop), A.handled = none → Stt i s.heap → Q (.ref I) s → wpAny (model C.prog C.w) A (pyIter (.ref I)) Q E s
  item : ∀ (A : Around) (i : Nat) (s : Shared) (M' : Mu) (Q : Value → Shared → Prop) (E : Value → Shared → Prop), A.handled = none → i < ds.length → Stt i s.heap →
    (∀ b, M' b → ∃ o, s.heap.get? b = some o) → (∀ b o, h₀.get? b = some o → M' b → M b) → (∀ b o, ¬ M b → ¬ M' b → h₀.get? b = some o → s.heap.get? b = some o) →
    (∀ v d h' tk, ds[i]? = some d → D C h' M' d v → Stt (i + 1) h' → (∀ b o, b ∉ wr → s.heap.get? b = some o → h'.get? b = some o) → Q v { s with heap := h', toks := tk }) →
    wpAny (model C.prog C.w) A (pyNext (.ref I)) (fun r s1 => ∃ v, r = some v ∧ wpAny (model C.prog C.w) A (letOwnedTupleGo t (.ref I) v) (fun _ s2 => Q v s2) E s1) E s
  done : ∀ (A : Around) (s : Shared) (Q : Shared → Prop) (E : Value → Shared → Prop), A.handled = none → Stt ds.length s.heap →
    (∀ h' tk, (∀ b o, b ∉ wr → s.heap.get? b = some o → h'.get? b = some o) → Q { s with heap := h', toks := tk }) → wpAny (model C.prog C.w) A (pyNext (.ref I)) (fun r s1 => r = none ∧ Q s1) E s

/-- what a tree that makes an iterator gives -/
def Itb (C : Cx) (t : PySem.Expr) (d : Dt) (ds : List Dt) (f : Value → Sem Value) : Prop :=
  ∀ (A : Around) (M : Mu) (s : Shared) (E : Value → Shared → Prop) (v : Value) (Q : Value → Shared → Prop), Wd C M s → D C s.heap M d v →
    (∀ I wr fp Stt s', Keeps s s' → Iter C t I wr fp s.heap M ds Stt → Stt 0 s'.heap → Q (.ref I) s') → wpAny (model C.prog C.w) A (f v) Q E s

theorem letgo_plain {A : Around} {s : Shared} {E : Value → Shared → Prop} {t : PySem.Expr} {I : Addr} {v : Value} {Q : Unit → Shared → Prop} {o : Obj} {T : String} (ho : s.heap.get? I = some o) (hc : o.cls = .type T) (hT : plainIter T = true) (h : Q () s) :
    wpAny (model C.prog C.w) A (letOwnedTupleGo t (.ref I) v) Q E s := by
  unfold letOwnedTupleGo
  split
  · cases v <;> first
      | exact wpAny_pure h
      | (refine wpAny_bind (wpAny_load ho ?_)
         rw [hc]
         split
         · rename_i n vs e1 e2
           cases e1
           unfold plainIter at hT
           rw [Bool.not_eq_true'] at hT
           rw [hT]
           exact wpAny_pure h
         · exact wpAny_pure h)
  · cases v <;> first
      | exact wpAny_pure h
      | (refine wpAny_bind (wpAny_load ho ?_)
         rw [hc]
         split
         · rename_i n vs e1 e2
           cases e1
           unfold plainIter at hT
           rw [Bool.not_eq_true'] at hT
           rw [hT]
           exact wpAny_pure h
         · exact wpAny_pure h)
  · exact wpAny_pure h

/-- a plain iterator of the library's -/
theorem Iter.of {t : PySem.Expr} {I : Addr} {fp : List Addr} {h₀ : Heap} {M : Mu} {ds : List Dt} {P : Nat → Value → Prop} {Stt : Nat → Heap → Prop} (W : ∀ A' : Around, A'.handled = none → Walks C.prog C.w A' I fp [I] ds.length P Stt)
    (hI : h₀.get? I = none) (hfp : ∀ b ∈ fp, b ≠ I → ¬ M b ∧ ∃ o, h₀.get? b = some o) (hP : ∀ i u, i < ds.length → P i u → ∃ d, ds[i]? = some d ∧ D C h₀ M d u) (hl : ∀ i h, Stt i h → ∃ o T, h.get? I = some o ∧ o.cls = .type T ∧ plainIter T = true) :
    Iter C t I [I] fp h₀ M ds Stt where
  frame := fun i h h' hst hk => (W {} rfl).frame i h h' hst hk
  fpok := fun b hb => by
    by_cases q : b = I
    · exact .inl (by rw [q]; exact List.mem_singleton.mpr rfl)
    · exact .inr (hfp b hb q)
  new := fun b hb => by rw [List.mem_singleton.mp hb]; exact hI
  live := fun i h hst b hb => by rw [List.mem_singleton.mp hb]; obtain ⟨o, _, ho, _⟩ := hl i h hst; exact ⟨o, ho⟩
  self := fun A i s Q E hh hst hQ => (W A hh).self i s Q E hst hQ
  item := fun A i s M' Q E hh hi hst h1 h2 h3 hQ => by
    refine (W A hh).item i s _ E hi hst fun v h' tk hPv hst' hk => ⟨v, rfl, ?_⟩
    obtain ⟨o, T, ho, hc, hT⟩ := hl _ _ hst'
    obtain ⟨d, hd, g⟩ := hP i v hi hPv
    refine letgo_plain ho hc hT (hQ v d h' tk hd ?_ hst' hk)
    exact D.mono (fun b o hb e => hk b o (fun q => by rw [List.mem_singleton.mp q, hI] at e; cases e) (h3 b o hb (fun q => hb (h2 b o e q)) e)) h2 g
  done := fun A s Q E hh hst hQ => (W A hh).done s _ E hst fun h' tk hk => ⟨rfl, hQ h' tk hk⟩

theorem Itb.list {t : PySem.Expr} {ds : List Dt} : Itb C t (.list ds) ds pyIter := fun A M s E v Q hw g hQ => by
  obtain ⟨a, vs, rfl, hm, hl, hD⟩ := g
  have hlt : a < s.heap.objs.size := by obtain ⟨o, ho, _⟩ := hl; exact Heap.lt_size ho
  have hsz : vs.toArray.size = ds.length := by simp [hD.length]
  refine wpAny_pyIter_list hl (hQ s.heap.objs.size [s.heap.objs.size] [s.heap.objs.size, a] (fun i h => h.IsListIter s.heap.objs.size a i ∧ h.IsList a vs.toArray) _ (kp_push0 s _) (Iter.of (P := fun i v => vs.toArray[i]? = some v) (fun A' hh => hsz ▸ Walks.list hh _ _ (Nat.ne_of_lt hlt) _) (none_at s) (fun b hb hne => ?_) (fun i u _ hu => ?_) fun i h hst => ?_) ⟨⟨_, Heap.get?_push_size _ rfl, rfl, rfl⟩, hl.push _⟩)
  · rcases List.mem_cons.mp hb with q | q
    · exact absurd q hne
    · rw [List.mem_singleton.mp q]; obtain ⟨o, ho, _⟩ := hl; exact ⟨hm, o, ho⟩
  · exact hD.at (by simpa using hu)
  · obtain ⟨⟨o, ho, hc, _⟩, _⟩ := hst
    exact ⟨o, "list_iterator", ho, hc, by decide⟩
theorem Itb.tup {t : PySem.Expr} {ds : List Dt} : Itb C t (.tup ds) ds pyIter := fun A M s E v Q hw g hQ => by
  obtain ⟨a, vs, rfl, hm, hl, hD⟩ := g
  have hlt : a < s.heap.objs.size := by obtain ⟨o, ho, _⟩ := hl; exact Heap.lt_size ho
  have hsz : vs.toArray.size = ds.length := by simp [hD.length]
  have hl2 : (s.heap.push { cls := .type "tuple_iterator", data := .fields #[.ref a, .int 0 0] }).IsTuple a vs.toArray := by obtain ⟨o, ho, r⟩ := hl; exact ⟨o, Heap.get?_push_of_some _ ho, r⟩
  refine wpAny_pyIter_tuple hl (hQ s.heap.objs.size [s.heap.objs.size] [s.heap.objs.size, a] (fun i h => h.IsTupleIter s.heap.objs.size a i ∧ h.IsTuple a vs.toArray) _ (kp_push0 s _) (Iter.of (P := fun i v => vs.toArray[i]? = some v) (fun A' hh => hsz ▸ Walks.tuple hh _ _ (Nat.ne_of_lt hlt) _) (none_at s) (fun b hb hne => ?_) (fun i u _ hu => ?_) fun i h hst => ?_) ⟨⟨_, Heap.get?_push_size _ rfl, rfl, rfl⟩, hl2⟩)
  · rcases List.mem_cons.mp hb with q | q
    · exact absurd q hne
    · rw [List.mem_singleton.mp q]; obtain ⟨o, ho, _⟩ := hl; exact ⟨hm, o, ho⟩
  · exact hD.at (by simpa using hu)
  · obtain ⟨⟨o, ho, hc, _⟩, _⟩ := hst
    exact ⟨o, "tuple_iterator", ho, hc, by decide⟩
theorem Itb.range {t : PySem.Expr} {n : Nat} (hn : n ≤ 2 ^ 20) : Itb C t (.range n) ((List.range n).map fun i : Nat => Dt.int (i : Int)) pyIter := fun A M s E v Q hw g hQ => by
  obtain ⟨a, t1, t2, t3, rfl, hm, hr⟩ := g
  have hsz : Builtin.Range.rangeSize 0 n 1 = (n : Int) := by
    unfold Builtin.Range.rangeSize
    by_cases h : (0 : Int) < n <;> simp [h] <;> omega
  refine wpAny_pyIter_range hr ?_ ?_
  · exact small_one (by decide) (by decide) (by omega) (by omega)
  rw [hsz]
  refine hQ s.heap.objs.size [s.heap.objs.size] [s.heap.objs.size] (fun i h => IsRangeIter h s.heap.objs.size (0 + (i : Nat) * 1) ((n : Int) - (i : Nat)) 1) _ (kp_push0 s _) (Iter.of (P := fun i v => ∃ t, v = .int (0 + i * 1) t) (fun A' hh => by simpa using Walks.range hh _ 0 1 n) (none_at s) (fun b hb hne => ?_) (fun i u hi hu => ?_) fun i h hst => ?_) ?_
  · exact absurd (List.mem_singleton.mp hb) hne
  · obtain ⟨t, rfl⟩ := hu
    simp only [List.length_map, List.length_range] at hi
    exact ⟨.int (i : Int), by simp [hi], t, by simp⟩
  · exact ⟨_, "range_iterator", hst, rfl, by decide⟩
  · have : (s.heap.push { cls := .type "range_iterator", data := .fields #[rawInt 0, rawInt n, rawInt 1] }).get? s.heap.objs.size = some { cls := .type "range_iterator", data := .fields #[rawInt 0, rawInt n, rawInt 1] } := Heap.get?_push_size _ rfl
    simpa [IsRangeIter] using this

def addM (M : Mu) (I : List Addr) : Mu := fun b => M b ∨ b ∈ I

section
variable {s₀ s s' : Shared} {env : Env} {M₀ M : Mu} {oa oa' : Option Addr} {σ σ' : Sto} {ow ow' : Own} {n : Nat} {Φ Ψ : Post} {x y : PySem.Str} {d d1 d2 : Dt} {ds : List Dt} {pos apos p px : Pos} {e value test iter : PySem.Expr} {ss body orelse : List Stmt} {b : Bool} {A : Around} {E : Value → Shared → Prop} {I : List Addr}

theorem mu_add {b : Addr} : mu (addM M₀ I) env oa b ↔ mu M₀ env oa b ∨ b ∈ I := by
  unfold mu addM
  constructor
  · rintro ((h | h) | h | h | h)
    · exact .inl (.inl h)
    · exact .inr h
    · exact .inl (.inr (.inl h))
    · exact .inl (.inr (.inr (.inl h)))
    · exact .inl (.inr (.inr (.inr h)))
  · rintro ((h | h | h | h) | h)
    · exact .inl (.inl h)
    · exact .inr (.inl h)
    · exact .inr (.inr (.inl h))
    · exact .inr (.inr (.inr h))
    · exact .inl (.inr h)

/-- what I is: objects that are not the block's, not the base's, not what the block found -/
structure Out (C : Cx) (s₀ : Shared) (env : Env) (I : List Addr) : Prop where
  base : ∀ b ∈ I, C.base.get? b = none
  old : ∀ b ∈ I, s₀.heap.get? b = none
  loc : env.locals ∉ I
  cell : ∀ x c, (x, c) ∈ env.cells → c ∉ I

/-- all but I is kept -/
theorem Nm.but {M₁ M₂ : Mu} {h h' : Heap} {m cm : PySem.Str → Option Value} (N : Nm C M₁ env oa σ ow h m cm) (k : ∀ b o, b ∉ I → h.get? b = some o → h'.get? b = some o) (h1 : env.locals ∉ I) (h2 : ∀ x c, (x, c) ∈ env.cells → c ∉ I) (h3 : ∀ a, oa = some a → a ∉ I)
    (hD : ∀ d v, D C h (mu M₁ env oa) d v → D C h' (mu M₂ env oa) d v) (hA : ∀ d v, DA C h (mu M₁ env oa) d v → DA C h' (mu M₂ env oa) d v) : Nm C M₂ env oa σ ow h' m cm where
  ns := N.ns.at' fun o e => k _ o h1 e
  cells := fun y c e => let ⟨o, ho, hd⟩ := N.cells y c e; ⟨o, k c o (h2 y c (mem_lookup e)) ho, hd⟩
  vars := fun y d e => let ⟨v, e1, e2⟩ := N.vars y d e; ⟨v, e1, hD _ _ e2⟩
  owns := fun y ds e => let ⟨a, vs, e1, e2, e3, e4⟩ := N.owns y ds e; ⟨a, vs, e1, e2, e3.at fun o => k a o (h3 a e1), hA _ _ e4⟩

theorem St.add (S : St C s₀ env M₀ oa σ ow s) (k : Keeps s s') (hI : ∀ b ∈ I, s.heap.get? b = none) (ho : ∀ b ∈ I, ∃ o, s'.heap.get? b = some o) : St C s₀ env (addM M₀ I) oa σ ow s' ∧ Out C s₀ env I ∧ ∀ a, oa = some a → a ∉ I := by
  have nM : ∀ b ∈ I, ¬ mu M₀ env oa b := fun b hb q => by obtain ⟨o, h⟩ := S.wd.own b q; rw [hI b hb] at h; cases h
  have hb0 : ∀ b ∈ I, C.base.get? b = none := fun b hb => by
    cases q : C.base.get? b with
    | none => rfl
    | some o => exact absurd ((S.wd.base _ _ q).symm.trans (hI b hb)) (by simp)
  have hs0 : ∀ b ∈ I, s₀.heap.get? b = none := fun b hb => by
    cases q : s₀.heap.get? b with
    | none => rfl
    | some o => exact absurd ((S.keep _ _ q).symm.trans (hI b hb)) (by simp)
  have hO : Out C s₀ env I := ⟨hb0, hs0, fun q => nM _ q (.inr (.inl rfl)), fun x c h q => nM c q (.inr (.inr (.inl ⟨x, h⟩)))⟩
  have hoa : ∀ a, oa = some a → a ∉ I := fun a e q => nM a q (.inr (.inr (.inr e)))
  refine ⟨?_, hO, hoa⟩
  obtain ⟨h, tk, rfl⟩ := S.same
  obtain ⟨h', tk', rfl, kk⟩ := k
  obtain ⟨m, cm, N⟩ := S.names
  have hM : ∀ b o, h.get? b = some o → mu (addM M₀ I) env oa b → mu M₀ env oa b := fun b o e q => (mu_add.mp q).elim id fun z => by rw [hI b z] at e; cases e
  refine ⟨⟨fun b o e => kk b o (S.wd.base b o e), fun b hb => ?_, fun b hb => ?_⟩, ⟨h', tk', rfl⟩, fun b o e => kk b o (S.keep b o e), S.fr, S.cl, S.ap, fun a e => ?_, S.fn, m, cm, N.but (I := I) (fun b o _ e => kk b o e) hO.loc hO.cell hoa (fun d v z => D.mono (fun b o _ => kk b o) hM z) (fun d v z => DA.mono (fun b o _ => kk b o) hM z)⟩
  · rcases mu_add.mp hb with q | q
    · exact S.wd.off b q
    · exact hb0 b q
  · rcases mu_add.mp hb with q | q
    · obtain ⟨o, z⟩ := S.wd.own b q; exact ⟨o, kk b o z⟩
    · exact ho b q
  · obtain ⟨f1, f2, f3, f4⟩ := S.oaf a e
    exact ⟨f1, f2, f3, fun q => q.elim f4 fun z => hoa a e z⟩

/-- I was changed; it holds objects yet -/
theorem St.turn (S : St C s₀ env (addM M₀ I) oa σ ow s) (hO : Out C s₀ env I) (hoa : ∀ a, oa = some a → a ∉ I) {h' : Heap} {tk : Nat} (kk : ∀ b o, b ∉ I → s.heap.get? b = some o → h'.get? b = some o) (ho : ∀ b ∈ I, ∃ o, h'.get? b = some o) :
    St C s₀ env (addM M₀ I) oa σ ow { s with heap := h', toks := tk } := by
  obtain ⟨h, tk0, rfl⟩ := S.same
  obtain ⟨m, cm, N⟩ := S.names
  have upM : ∀ b o, ¬ mu (addM M₀ I) env oa b → h.get? b = some o → h'.get? b = some o := fun b o hb e => kk b o (fun q => hb (mu_add.mpr (.inr q))) e
  refine ⟨⟨fun b o e => kk b o (fun q => ?_) (S.wd.base b o e), S.wd.off, fun b hb => ?_⟩, ⟨h', tk, rfl⟩, fun b o e => kk b o (fun q => ?_) (S.keep b o e), S.fr, S.cl, S.ap, S.oaf, S.fn, m, cm, N.but kk hO.loc hO.cell hoa (fun d v z => D.mono upM (fun _ _ _ => id) z) (fun d v z => DA.mono upM (fun _ _ _ => id) z)⟩
  · have := hO.base b q; rw [e] at this; cases this
  · by_cases q : b ∈ I
    · exact ho b q
    · obtain ⟨o, z⟩ := S.wd.own b hb; exact ⟨o, kk b o q z⟩
  · have := hO.old b q; rw [e] at this; cases this

theorem mu_drop {d : Dt} {v : Value} {h h' : Heap} (kk : ∀ b o, b ∉ I → h.get? b = some o → h'.get? b = some o) (z : D C h (mu (addM M₀ I) env oa) d v) : D C h' (mu M₀ env oa) d v :=
  D.mono (fun b o hb e => kk b o (fun q => hb (mu_add.mpr (.inr q))) e) (fun b _ _ q => mu_add.mpr (.inl q)) z
theorem muA_drop {d : List Dt} {v : List Value} {h h' : Heap} (kk : ∀ b o, b ∉ I → h.get? b = some o → h'.get? b = some o) (z : DA C h (mu (addM M₀ I) env oa) d v) : DA C h' (mu M₀ env oa) d v :=
  DA.mono (fun b o hb e => kk b o (fun q => hb (mu_add.mpr (.inr q))) e) (fun b _ _ q => mu_add.mpr (.inl q)) z
/-- the loop lets I go -/
theorem St.drop (S : St C s₀ env (addM M₀ I) oa σ ow s) (hO : Out C s₀ env I) (hoa : ∀ a, oa = some a → a ∉ I) (hM : ∀ b ∈ I, ¬ M₀ b) {h' : Heap} {tk : Nat} (kk : ∀ b o, b ∉ I → s.heap.get? b = some o → h'.get? b = some o) :
    St C s₀ env M₀ oa σ ow { s with heap := h', toks := tk } := by
  obtain ⟨h, tk0, rfl⟩ := S.same
  obtain ⟨m, cm, N⟩ := S.names
  have nI : ∀ b, mu M₀ env oa b → b ∉ I := fun b hb q => by
    rcases hb with z | z | ⟨x, z⟩ | z
    · exact hM b q z
    · exact hO.loc (z ▸ q)
    · exact hO.cell x b z q
    · exact hoa b z q
  refine ⟨⟨fun b o e => kk b o (fun q => ?_) (S.wd.base b o e), fun b hb => S.wd.off b (mu_add.mpr (.inl hb)), fun b hb => ?_⟩, ⟨h', tk, rfl⟩, fun b o e => kk b o (fun q => ?_) (S.keep b o e), S.fr, S.cl, S.ap, fun a e => ?_, S.fn, m, cm, N.but kk hO.loc hO.cell hoa (fun d v z => mu_drop kk z) (fun d v z => muA_drop kk z)⟩
  · have := hO.base b q; rw [e] at this; cases this
  · obtain ⟨o, z⟩ := S.wd.own b (mu_add.mpr (.inl hb)); exact ⟨o, kk b o (nI b hb) z⟩
  · have := hO.old b q; rw [e] at this; cases this
  · obtain ⟨f1, f2, f3, f4⟩ := S.oaf a e
    exact ⟨f1, f2, f3, fun q => f4 (.inl q)⟩
end
end Mine

namespace Mine
open PySem PySem.W PyProof.Rows PySem.Calls

variable {C : Cx}
section
variable {s₀ s s' s'' : Shared} {env : Env} {M₀ M : Mu} {oa oa' : Option Addr} {σ σ' : Sto} {ow ow' : Own} {n : Nat} {Φ Ψ : Post} {x y z : PySem.Str} {d d1 d2 d3 di : Dt} {ds : List Dt} {pos apos p px py pz : Pos} {t e value test iter : PySem.Expr} {ss body orelse : List Stmt} {b : Bool} {A : Around} {E : Value → Shared → Prop} {I : List Addr} {k : Nat}

/-- a target of an assignment -/
def Tg (C : Cx) (env : Env) (t : PySem.Expr) (d : Dt) (ext : Sto) (ow : Own) : Prop :=
  ∀ (A : Around) (s₀ : Shared) (M₀ : Mu) (s : Shared) (oa : Option Addr) (σ : Sto) (E : Value → Shared → Prop) (v : Value) (Q : Unit → Shared → Prop), A.handled = none → St C s₀ env M₀ oa σ ow s → D C s.heap (mu M₀ env oa) d v →
    (∀ s', St C s₀ env M₀ oa (ext ++ σ) ow s' → Fk env oa oa s s' → Q () s') → wpAny (model C.prog C.w) A (assign t env v) Q E s
theorem Tg.name (hs : stored env x = true := by rfl) (ho : ow.all (fun q => !(q.1 == x)) = true := by rfl) : Tg C env (.Name x p) d [(x, d)] ow := fun A s₀ M₀ s oa σ E v Q hh S g hQ =>
  wpAny_assign_Name (store S g hs ho _ hQ)
theorem Tg.tup2 (h1 : Tg C env (.Name x px) d1 [(x, d1)] ow) (h2 : Tg C env (.Name y py) d2 [(y, d2)] ow) : Tg C env (.Tuple [.Name x px, .Name y py] k p) (.tup [d1, d2]) [(y, d2), (x, d1)] ow := fun A s₀ M₀ s oa σ E v Q hh S g hQ => by
  obtain ⟨a, vs, rfl, hm, ht, v1, r1, rfl, g1, v2, r2, rfl, g2, rfl⟩ := g
  refine wpAny_assign_Tuple hh ht rfl rfl fun h' hx => ?_
  have kk : Keeps s { s with heap := h' } := kp_mk0 fun b o e => hx b o (Nat.ne_of_lt (Heap.lt_size e)) e
  refine PyProof.Rows.assignInOrder_cons (h1 A s₀ M₀ _ oa σ E v1 _ hh (S.keeps kk) (g1.up (kp_heap kk)) fun s1 S1 k1 => ?_)
  have g2' : D C s1.heap (mu M₀ env oa) d2 v2 := D.mono (fun b o hb e => k1.keep b o (kp_heap kk b o e) (fun q => hb (.inr (.inl q))) (fun z q => hb (.inr (.inr (.inl ⟨z, q⟩)))) fun q => hb (.inr (.inr (.inr q)))) (fun _ _ _ => id) g2
  refine PyProof.Rows.assignInOrder_cons (h2 A s₀ M₀ _ oa _ E v2 _ hh S1 g2' fun s2 S2 k2 => ?_)
  exact wpAny_pure (hQ s2 S2 ((Fk.keeps kk).trans (k1.trans k2 S2.done) S2.done))
theorem Tg.tup3 (h1 : Tg C env (.Name x px) d1 [(x, d1)] ow) (h2 : Tg C env (.Name y py) d2 [(y, d2)] ow) (h3 : Tg C env (.Name z pz) d3 [(z, d3)] ow) : Tg C env (.Tuple [.Name x px, .Name y py, .Name z pz] k p) (.tup [d1, d2, d3]) [(z, d3), (y, d2), (x, d1)] ow := fun A s₀ M₀ s oa σ E v Q hh S g hQ => by
  obtain ⟨a, vs, rfl, hm, ht, v1, r1, rfl, g1, v2, r2, rfl, g2, v3, r3, rfl, g3, rfl⟩ := g
  refine wpAny_assign_Tuple hh ht rfl rfl fun h' hx => ?_
  have kk : Keeps s { s with heap := h' } := kp_mk0 fun b o e => hx b o (Nat.ne_of_lt (Heap.lt_size e)) e
  refine PyProof.Rows.assignInOrder_cons (h1 A s₀ M₀ _ oa σ E v1 _ hh (S.keeps kk) (g1.up (kp_heap kk)) fun s1 S1 k1 => ?_)
  have up1 : ∀ {d v}, D C s.heap (mu M₀ env oa) d v → D C s1.heap (mu M₀ env oa) d v := fun g => D.mono (fun b o hb e => k1.keep b o (kp_heap kk b o e) (fun q => hb (.inr (.inl q))) (fun z q => hb (.inr (.inr (.inl ⟨z, q⟩)))) fun q => hb (.inr (.inr (.inr q)))) (fun _ _ _ => id) g
  refine PyProof.Rows.assignInOrder_cons (h2 A s₀ M₀ _ oa _ E v2 _ hh S1 (up1 g2) fun s2 S2 k2 => ?_)
  have up2 : ∀ {d v}, D C s1.heap (mu M₀ env oa) d v → D C s2.heap (mu M₀ env oa) d v := fun g => D.mono (fun b o hb e => k2.keep b o e (fun q => hb (.inr (.inl q))) (fun z q => hb (.inr (.inr (.inl ⟨z, q⟩)))) fun q => hb (.inr (.inr (.inr q)))) (fun _ _ _ => id) g
  refine PyProof.Rows.assignInOrder_cons (h3 A s₀ M₀ _ oa _ E v3 _ hh S2 (up2 (up1 g3)) fun s3 S3 k3 => ?_)
  exact wpAny_pure (hQ s3 S3 ((Fk.keeps kk).trans (k1.trans (k2.trans k3 S3.done) S3.done) S3.done))
theorem Ex1.asgT {elts : List PySem.Expr} {ext : Sto} (he : Ev C n env σ ow value d) (ht : Tg C env (.Tuple elts k p) d ext ow) (h : Φ .next (ext ++ σ) ow) (hs : swapsWithSole [.Tuple elts k p] value pos.line env = pure false := by rfl)
    (hw : swappedStores [.Tuple elts k p] value env = pure none := by rfl) : Ex1 C n env σ ow (.Assign [.Tuple elts k p] value pos) Φ := fun A s₀ M₀ s oa E Q hA S hQ =>
  Assign_Tuple (he A _ s E hA S.rd _ fun v s1 k1 g1 => ht A s₀ M₀ s1 oa σ E v _ hA.none (S.keeps k1) g1 fun s2 S2 k2 => hQ .next .next s2 oa _ ow S2 ((Fk.keeps k1).trans k2 S2.done) trivial h) hs hw

theorem FlD.drop {f : Fl} {fl : Flow} {h : Heap} (g : FlD C h (mu (addM M₀ I) env oa) f fl) : FlD C h (mu M₀ env oa) f fl := by
  cases f <;> cases fl <;> first | exact g | exact mu_drop (fun _ _ _ e => e) g
theorem Fk.thru (k : Fk env oa oa' s s') (hw : ∀ b ∈ I, s.heap.get? b = Option.none) (hk : ∀ b o, b ∉ I → s'.heap.get? b = some o → s''.heap.get? b = some o) : Fk env oa oa' s s'' :=
  ⟨fun b o e h1 h2 h3 => hk b o (fun q => by rw [hw b q] at e; cases e) (k.keep b o e h1 h2 h3), k.new⟩

def LoopPost (Φ : Post) (σ' : Sto) (ow' : Own) : Post := fun f σ ow => match f with
  | .next => Sub σ σ' ∧ ow = ow'
  | .cont => Sub σ σ' ∧ ow = ow'
  | .brk => Φ .next σ ow
  | .ret r => Φ (.ret r) σ ow

theorem Ex1.for (he : Ev C n env σ ow iter di) (hI : Itb C t di ds pyIter) (S : Nat → Sto) (W : Nat → Own) (ext : Nat → Sto) (hS : Sub σ (S 0)) (hW : W 0 = ow)
    (tg : ∀ i d, ds[i]? = some d → Tg C env t d (ext i) (W i))
    (turn : ∀ i d, ds[i]? = some d → Ex C n env (ext i ++ S i) (W i) body (LoopPost Φ (S (i + 1)) (W (i + 1))))
    (done : Ex C n env (S ds.length) (W ds.length) orelse Φ)
    (hs : ∀ x, foldedSetIterable iter env x = pure x := by intro _; rfl) : Ex1 C n env σ ow (.For t iter body orelse pos) Φ := fun A s₀ M₀ s oa E Q hA St0 hQ => by
  subst hW
  refine wpAny_For (he A _ s E hA St0.rd _ fun v s1 k1 g1 => hI A _ s1 E v _ (St0.keeps k1).wd g1 fun It wr fp Stt s2 k2 IT st0 => ?_) hs
  have S1 := St0.keeps k1
  obtain ⟨S2, hO, hoa0⟩ := S1.add k2 IT.new (IT.live 0 _ st0)
  have hMw : ∀ b ∈ wr, ¬ M₀ b := fun b hb q => by
    obtain ⟨o, ho⟩ := S1.wd.own b (.inl q)
    rw [IT.new b hb] at ho; cases ho
  have f12 : Fk env oa oa s1 s2 := Fk.keeps k2
  refine codeAny_forLoop_any (fun kk s' => ∃ i oa', kk = ds.length + 1 - i ∧ i ≤ ds.length ∧ St C s₀ env (addM M₀ wr) oa' (S i) (W i) s' ∧ Stt i s'.heap ∧ Fk env oa oa' s1 s') ?_ (ds.length + 1)
    ⟨0, oa, by omega, Nat.zero_le _, S2.sub hS, st0, f12⟩
  rintro kk s' ⟨i, oa', rfl, hi, S', st', f'⟩
  have hoa' : ∀ a, oa' = some a → a ∉ wr := fun a e q => (S'.oaf a e).2.2.2 (.inr q)
  have hfp : ∀ b ∈ fp, b ≠ env.locals ∧ (∀ z, (z, b) ∉ env.cells) ∧ oa' ≠ some b := fun b hb => by
    rcases IT.fpok b hb with q | ⟨q, o, ho⟩
    · exact ⟨fun e => hO.loc (e ▸ q), fun z h => hO.cell z b h q, fun e => hoa' b e q⟩
    · refine ⟨fun e => q (.inr (.inl e)), fun z h => q (.inr (.inr (.inl ⟨z, h⟩))), fun e => ?_⟩
      rcases f'.new b e with h | h
      · exact q (.inr (.inr (.inr h)))
      · rw [ho] at h; cases h
  by_cases hlt : i < ds.length
  · refine wpAny_mono (IT.item A i s' (mu (addM M₀ wr) env oa') (fun v s3 => wpAny (model C.prog C.w) A (assign t env v) (fun _ s₂ => wpAny (model C.prog C.w) A (execs body env) (fun f s₃ => match f with
            | .next | .cont => ∃ m, m < ds.length + 1 - i ∧ (∃ i_1 oa', m = ds.length + 1 - i_1 ∧ i_1 ≤ ds.length ∧ St C s₀ env (addM M₀ wr) oa' (S i_1) (W i_1) s₃ ∧ Stt i_1 s₃.heap ∧ Fk env oa oa' s1 s₃)
            | .brk => Q .next s₃
            | .ret v => Q (.ret v) s₃) (notedBy (model C.prog C.w) A env fun e s' => cameBackBy (model C.prog C.w) A env E e s') s₂) (notedBy (model C.prog C.w) A env fun e s' => cameBackBy (model C.prog C.w) A env E e s') s3) _ hA.none hlt st' (fun b hb => S'.wd.own b hb) (fun b o e hb => ?_) (fun b o h1 h2 e => ?_) fun v d h3 tk3 hd g3 st3 k3 => ?_) (fun r s3 h => ?_) fun _ _ x => x
    · rcases hb with (q | q) | q | q | q
      · exact .inl q
      · rw [IT.new b q] at e; cases e
      · exact .inr (.inl q)
      · exact .inr (.inr (.inl q))
      · rcases f'.new b q with h | h
        · exact .inr (.inr (.inr h))
        · rw [h] at e; cases e
    · exact f'.keep b o e (fun q => h1 (.inr (.inl q))) (fun z q => h1 (.inr (.inr (.inl ⟨z, q⟩)))) fun q => h1 (.inr (.inr (.inr q)))
    · -- the item is assigned, the body runs
      have S3 := S'.turn hO hoa' (tk := tk3) k3 (IT.live _ _ st3)
      have f3 : Fk env oa oa' s1 { s' with heap := h3, toks := tk3 } := f'.thru IT.new k3
      refine tg i d hd A s₀ _ _ oa' (S i) _ v _ hA.none S3 g3 fun s4 S4 k4 => ?_
      have f4 : Fk env oa oa' s1 s4 := f3.trans k4 S4.done
      have st4 : Stt (i + 1) s4.heap := IT.frame _ _ _ st3 fun b hb o e => let ⟨q1, q2, q3⟩ := hfp b hb; k4.keep b o e q1 q2 q3
      refine turn i d hd A s₀ _ s4 oa' _ _ hA S4 fun fl f s5 oa5 σ5 ow5 S5 k5 g5 z5 => ?_
      have f5 : Fk env oa oa5 s1 s5 := f4.trans k5 S5.done
      have st5 : Stt (i + 1) s5.heap := IT.frame _ _ _ st4 fun b hb o e => let ⟨q1, q2, q3⟩ := hfp b hb; k5.keep b o e q1 q2 q3
      have hoa5 : ∀ a, oa5 = some a → a ∉ wr := fun a e q => (S5.oaf a e).2.2.2 (.inr q)
      have Sd : St C s₀ env M₀ oa5 σ5 ow5 s5 := S5.drop hO hoa5 hMw (tk := s5.toks) (h' := s5.heap) fun _ _ _ e => e
      cases f <;> cases fl <;> first | exact g5.elim | skip
      · obtain ⟨z1, rfl⟩ := z5
        exact ⟨ds.length + 1 - (i + 1), by omega, i + 1, oa5, rfl, hlt, S5.sub z1, st5, f5⟩
      · exact hQ .next .next s5 oa5 σ5 ow5 Sd ((Fk.keeps k1).trans f5 Sd.done) trivial z5
      · obtain ⟨z1, rfl⟩ := z5
        exact ⟨ds.length + 1 - (i + 1), by omega, i + 1, oa5, rfl, hlt, S5.sub z1, st5, f5⟩
      · exact hQ _ _ s5 oa5 σ5 ow5 Sd ((Fk.keeps k1).trans f5 Sd.done) (FlD.drop g5) z5
    · obtain ⟨v, rfl, h⟩ := h
      exact h
  · have hin : i = ds.length := by omega
    subst hin
    refine wpAny_mono (IT.done A s' (fun s3 => wpAny (model C.prog C.w) A (execs orelse env) (fun f s₃ => Q f s₃) (notedBy (model C.prog C.w) A env fun e s' => cameBackBy (model C.prog C.w) A env E e s') s3) _ hA.none st' fun h3 tk3 k3 => ?_) (fun r s3 h => ?_) fun _ _ x => x
    · have Sd := S'.drop hO hoa' hMw (tk := tk3) k3
      have f3 : Fk env oa oa' s1 { s' with heap := h3, toks := tk3 } := f'.thru IT.new k3
      exact done A s₀ M₀ _ oa' _ _ hA Sd fun fl f s5 oa5 σ5 ow5 S5 k5 g5 z5 => hQ fl f s5 oa5 σ5 ow5 S5 ((Fk.keeps k1).trans (f3.trans k5 S5.done) S5.done) g5 z5
    · obtain ⟨rfl, h⟩ := h
      exact h

theorem Ex1.while (S : Nat → Sto) (N : Nat) (hS : Sub σ (S 0)) (tt : ∀ i, i < N → Tt C n env (S i) ow test true) (te : Tt C n env (S N) ow test false)
    (turn : ∀ i, i < N → Ex C n env (S i) ow body (LoopPost Φ (S (i + 1)) ow)) (done : Ex C n env (S N) ow orelse Φ) : Ex1 C n env σ ow (.While test body orelse pos) Φ := fun A s₀ M₀ s oa E Q hA St0 hQ => by
  refine wpAny_While (codeAny_whileLoop (fun kk s' => ∃ i oa', kk = N + 1 - i ∧ i ≤ N ∧ St C s₀ env M₀ oa' (S i) ow s' ∧ Fk env oa oa' s s') ?_ (N + 1) ⟨0, oa, by omega, Nat.zero_le _, St0.sub hS, Fk.refl⟩)
  rintro kk s' ⟨i, oa', rfl, hi, S', f'⟩
  by_cases hlt : i < N
  · refine tt i hlt A _ s' _ hA S'.rd _ fun s1 k1 => ?_
    simp only [if_true]
    refine turn i hlt A s₀ M₀ s1 oa' _ _ hA (S'.keeps k1) fun fl f s5 oa5 σ5 ow5 S5 k5 g5 z5 => ?_
    have f5 : Fk env oa oa5 s s5 := f'.trans ((Fk.keeps k1).trans k5 S5.done) S5.done
    cases f <;> cases fl <;> first | exact g5.elim | skip
    · obtain ⟨z1, rfl⟩ := z5
      exact ⟨N + 1 - (i + 1), by omega, i + 1, oa5, rfl, hlt, S5.sub z1, f5⟩
    · exact hQ .next .next s5 oa5 σ5 ow5 S5 f5 trivial z5
    · obtain ⟨z1, rfl⟩ := z5
      exact ⟨N + 1 - (i + 1), by omega, i + 1, oa5, rfl, hlt, S5.sub z1, f5⟩
    · exact hQ _ _ s5 oa5 σ5 ow5 S5 f5 g5 z5
  · have hin : i = N := by omega
    subst hin
    refine te A _ s' _ hA S'.rd _ fun s1 k1 => ?_
    simp only [Bool.false_eq_true, if_false]
    exact done A s₀ M₀ s1 oa' _ _ hA (S'.keeps k1) fun fl f s5 oa5 σ5 ow5 S5 k5 g5 z5 => hQ fl f s5 oa5 σ5 ow5 S5 (f'.trans ((Fk.keeps k1).trans k5 S5.done) S5.done) g5 z5

theorem Ex1.try {h₀ : ExceptHandler} {hs : List ExceptHandler} (h : Ex C n env σ ow body fun f σ' ow' => match f with | .next => Ex C n env σ' ow' orelse Φ | f => Φ f σ' ow') : Ex1 C n env σ ow (.Try body (h₀ :: hs) orelse [] pos) Φ := fun A s₀ M₀ s oa E Q hA S hQ =>
  wpAny_Try_except (h A s₀ M₀ s oa _ _ hA S fun fl f s1 oa1 σ1 ow1 S1 k1 g1 z => by
    cases f <;> cases fl <;> first | exact g1.elim | skip
    · exact z A s₀ M₀ s1 oa1 E Q hA S1 fun fl f s2 oa2 σ2 ow2 S2 k2 g2 z2 => hQ fl f s2 oa2 σ2 ow2 S2 (k1.trans k2 S2.done) g2 z2
    · exact hQ .brk .brk s1 oa1 σ1 ow1 S1 k1 trivial z
    · exact hQ .cont .cont s1 oa1 σ1 ow1 S1 k1 trivial z
    · exact hQ _ (.ret _) s1 oa1 σ1 ow1 S1 k1 g1 z)
end
end Mine

namespace Mine
open PySem PySem.W PyProof.Rows PySem.Calls

variable {C : Cx}

/-- the block of a call -/
abbrev fenv (nm : PySem.Str) (sc : Scope) (L a : Addr) (cd : Value) : Env :=
  { scope := sc, locals := L, globals := mainGlobals, cells := cellsFrom (L + 1) sc.names [], qual := nm ++ ".<locals>.", func := some a, code := cd, frame := some L, builtins := builtinsNs }

theorem getv_bind {env : Env} : ∀ (binds : List (PySem.Str × Value)) (m cm : PySem.Str → Option Value), (∀ p ∈ binds, env.kindOf p.1 = some .local ∨ (env.kindOf p.1 = some .cell ∧ (env.cells.lookup p.1).isSome = true)) →
    ∀ x, getv env (bindL env.kindOf binds m) (bindC env.kindOf binds cm) x = (binds.reverse.lookup x).or (getv env m cm x)
  | [], m, cm, _, x => rfl
  | (y, v) :: r, m, cm, hk, x => by
    unfold bindL bindC
    rw [getv_bind r _ _ (fun p hp => hk p (.tail _ hp)) x, List.reverse_cons, List.lookup_append, Option.or_assoc]
    congr 1
    rcases hk (y, v) (.head _) with h | ⟨h, h2⟩
    · dsimp only at h
      simp only [h, if_true]
      by_cases q : x = y
      · subst q; simp [getv, h]
      · simp [getv, q, List.lookup_cons, List.lookup_nil, beq_eq_false_iff_ne.mpr q]
    · dsimp only at h h2
      have hn : ¬ (env.kindOf y = some .local) := by rw [h]; decide
      simp only [hn, if_false]
      obtain ⟨c, hc⟩ := Option.isSome_iff_exists.mp h2
      by_cases q : x = y
      · subst q; simp [getv, h, hc]
      · simp [getv, q, List.lookup_cons, List.lookup_nil, beq_eq_false_iff_ne.mpr q]

theorem zip_lookup {h : Heap} {M : Mu} : ∀ {names : List PySem.Str} {ds : List Dt} {vs : List Value}, DA C h M ds vs → ∀ {x d}, (names.zip ds).reverse.lookup x = some d → ∃ v, (names.zip vs).reverse.lookup x = some v ∧ D C h M d v
  | [], _, _, _, x, d, e => by simp at e
  | n :: names, [], _, _, x, d, e => by simp at e
  | n :: names, d0 :: ds, _, ⟨v0, r, rfl, g, gs⟩, x, d, e => by
    simp only [List.zip_cons_cons, List.reverse_cons, List.lookup_append] at e ⊢
    cases q : (names.zip ds).reverse.lookup x with
    | some d' =>
      rw [q] at e; cases e
      obtain ⟨v, hv, gv⟩ := zip_lookup gs q
      exact ⟨v, by rw [hv]; rfl, gv⟩
    | none =>
      rw [q] at e
      have hv : (names.zip r).reverse.lookup x = none := by
        rw [List.lookup_eq_none_iff] at q ⊢
        intro p hp
        have hp' := List.mem_reverse.mp hp
        obtain ⟨i, hi, rfl⟩ := List.getElem_of_mem hp'
        have hlen := gs.length
        simp only [List.length_zip] at hi
        have : ((names.zip ds)[i]'(by simp only [List.length_zip]; omega)).1 = ((names.zip r)[i]'(by simp only [List.length_zip]; omega)).1 := by simp
        rw [← this]
        exact q _ (List.mem_reverse.mpr (List.getElem_mem _))
      rw [hv]
      simp only [Option.none_or, List.lookup_cons, List.lookup_nil] at e ⊢
      cases hb : x == n with
      | true => rw [hb] at e; cases e; exact ⟨v0, rfl, g⟩
      | false => rw [hb] at e; cases e

theorem cellsFrom_names : ∀ (l : List (PySem.Str × NameKind)) (n m : Nat) (acc acc' : List (PySem.Str × Addr)), acc.map (·.1) = acc'.map (·.1) → (cellsFrom n l acc).map (·.1) = (cellsFrom m l acc').map (·.1)
  | [], _, _, _, _, h => h
  | (x, k) :: r, n, m, acc, acc', h => by
    unfold cellsFrom
    split
    · exact cellsFrom_names r _ _ _ _ (by simp [h])
    · exact cellsFrom_names r _ _ _ _ h
theorem lookup_of_mem : ∀ {l : List (PySem.Str × Addr)}, (l.map (·.1)).Nodup → ∀ {x c}, (x, c) ∈ l → l.lookup x = some c
  | (y, b) :: r, hn, x, c, h => by
    simp only [List.map_cons, List.nodup_cons] at hn
    rcases List.mem_cons.mp h with e | h
    · cases e; simp [List.lookup_cons]
    · have hne : x ≠ y := fun q => hn.1 (q ▸ List.mem_map_of_mem (f := (·.1)) h)
      rw [List.lookup_cons, beq_eq_false_iff_ne.mpr hne]
      exact lookup_of_mem hn.2 h

theorem Con.core {n : Nat} {dd : DefRec} {names : List PySem.Str} {ds : List Dt} {r : Dt} {a : Addr} {code : Value} {A : Around} {M : Mu} {s : Shared} {vs : List Value} {E : Value → Shared → Prop} {R : Result → Shared → Prop} (hn : names.length = ds.length)
    (hk : ∀ L, ∀ x ∈ names, dd.scope.names.lookup x = some .local ∨ (dd.scope.names.lookup x = some .cell ∧ ((cellsFrom L dd.scope.names []).lookup x).isSome = true))
    (body : ∀ L a cd, Ex C n (fenv dd.name dd.scope L a cd) (names.zip ds).reverse none dd.body fun f _ _ => f = .ret r)
    (hnd : ((cellsFrom 0 dd.scope.names []).map (·.1)).Nodup) (hkf : dd.scope.kind = .function)
    (hA : Room (n + 1) A) (hw : Wd C M s) (g : DA C s.heap M ds vs) (hQ : ∀ v s', Keeps s s' → D C s'.heap M r v → R (.ok (.ret v)) s') :
    wpAny (model C.prog C.w) A.in1 (newFunctionEnv dd.scope mainGlobals [] (names.zip vs) (dd.name ++ ".<locals>.") (some a) code none builtinsNs) (fun env s₂ => s₂.heap.NoLimit ∧ codeAny (model C.prog C.w) A (.func dd.body env) R s₂) E s := by
  have hlen := g.length
  have hzip : ∀ x ∈ names.zip vs, x.1 ∈ names := fun x hx => (List.of_mem_zip hx).1
  have hL : ∀ c : Addr, s.heap.objs.size ≤ c → s.heap.get? c = none := fun c hc => by
    cases q : s.heap.get? c with
    | none => rfl
    | some o => exact absurd (Heap.lt_size q) (Nat.not_lt.mpr hc)
  refine wpAny_newFunctionEnv_cells hkf (fun x hx => hk _ x.1 (hzip x hx)) fun env he s₁ X => ?_
  subst he
  refine ⟨hw.top.nolimit.keeps X.toInCall.keep, codeAny_func ?_⟩
  generalize hLs : s.heap.objs.size = L at X ⊢
  have env_eq : newEnv dd.scope L mainGlobals (cellsFrom (L + 1) dd.scope.names []) (dd.name ++ ".<locals>.") (some a) code none builtinsNs = fenv dd.name dd.scope L a code := rfl
  rw [env_eq] at X ⊢
  have XI := X.toInCall
  have fr := XI.fresh
  have nb : ∀ c : Addr, L ≤ c → C.base.get? c = none := fun c hc => by
    cases q : C.base.get? c with
    | none => rfl
    | some o => have := hw.base _ _ q; rw [hL c (hLs ▸ hc)] at this; cases this
  have hcells : ∀ x c, (x, c) ∈ (fenv dd.name dd.scope L a code).cells → L < c := fun x c h => X.above x c h
  have hMlt : ∀ b, M b → b < L := fun b hb => hLs ▸ hw.lt hb
  have hMn : ∀ b o, s.heap.get? b = some o → mu M (fenv dd.name dd.scope L a code) none b → M b := fun b o e q => by
    have hbl : b < L := hLs ▸ Heap.lt_size e
    rcases q with q | q | ⟨x, q⟩ | q
    · exact q
    · exact absurd (show b = L from q) (Nat.ne_of_lt hbl)
    · exact absurd (Nat.lt_trans (hcells x b q) hbl) (Nat.lt_irrefl _)
    · cases q
  have cell_ok : ∀ x c, (x, c) ∈ (fenv dd.name dd.scope L a code).cells → ∃ o, s₁.heap.get? c = some o := fun x c h => by
    obtain ⟨o, ho, _⟩ := X.cell x c (lookup_of_mem (by rw [cellsFrom_names _ _ 0 [] [] rfl]; exact hnd) h)
    exact ⟨o, ho⟩
  have S : St C s (fenv dd.name dd.scope L a code) M none (names.zip ds).reverse none s₁ := by
    refine ⟨⟨fun b o e => XI.keep b o (hw.base b o e), fun b hb => ?_, fun b hb => ?_⟩, XI.same, XI.keep, Nat.le_of_eq hLs, fun x c h => ⟨hLs ▸ Nat.le_of_lt (hcells x c h), fun q => absurd (show L = c from q) (Nat.ne_of_lt (hcells x c h))⟩, X.apart, (fun a e => by cases e), hkf, _, _, XI.ns, X.cell, fun x d e => ?_, (fun _ _ e => by cases e)⟩
    · rcases hb with q | q | ⟨x, q⟩ | q
      · exact hw.off b q
      · exact nb b (Nat.le_of_eq q.symm)
      · exact nb b (Nat.le_of_lt (hcells x b q))
      · cases q
    · rcases hb with q | q | ⟨x, q⟩ | q
      · obtain ⟨o, ho⟩ := hw.own b q; exact ⟨o, XI.keep b o ho⟩
      · obtain ⟨o, _, _, ho, _⟩ := XI.ns; exact ⟨o, q ▸ ho⟩
      · exact cell_ok x b q
      · cases q
    · obtain ⟨v, hv, gv⟩ := zip_lookup (names := names) g e
      refine ⟨v, ?_, D.mono (fun b o _ => XI.keep b o) hMn gv⟩
      rw [getv_bind (env := fenv dd.name dd.scope L a code) (names.zip vs) _ _ (fun p hp => hk (L + 1) p.1 (hzip p hp)) x, hv]; rfl
  refine wpAny_mono (body L a code (A.deeper _) s M s₁ none (fun _ _ => False) (fun fl s' => ∃ v, fl = .ret v ∧ R (.ok (.ret v)) s') (hA.deeper _) S fun fl f s' oa' σ' ow' S' k' g' z => ?_) (fun fl s' h => ?_) fun _ _ x => x.elim
  · subst z
    cases fl <;> first | exact g'.elim | skip
    rename_i v
    refine ⟨v, rfl, hQ v s' ?_ (D.mono (fun _ _ _ e => e) (fun b _ _ q => .inl q) g')⟩
    obtain ⟨h', tk, rfl⟩ := S'.same
    exact ⟨h', tk, rfl, S'.keep⟩
  · obtain ⟨v, rfl, h⟩ := h
    exact h

theorem Con.of {n : Nat} {dd : DefRec} {names : List PySem.Str} {ds : List Dt} {r : Dt} (hd : dd ∈ recsOf C.p) (hn : names.length = ds.length)
    (hb : ∀ pm code doc vs, vs.length = names.length → bindArgs (docDef dd.name dd.params dd.body dd.scope pm code doc) ⟨vs, []⟩ = pure (names.zip vs))
    (hk : ∀ L, ∀ x ∈ names, dd.scope.names.lookup x = some .local ∨ (dd.scope.names.lookup x = some .cell ∧ ((cellsFrom L dd.scope.names []).lookup x).isSome = true))
    (body : ∀ L a cd, Ex C n (fenv dd.name dd.scope L a cd) (names.zip ds).reverse none dd.body fun f _ _ => f = .ret r)
    (hnd : ((cellsFrom 0 dd.scope.names []).map (·.1)).Nodup := by decide +kernel) (hco : dd.scope.isCoroutine = false := by rfl) (hgen : dd.scope.isGenerator = false := by rfl) (hkf : dd.scope.kind = .function := by rfl) : Con C (n + 1) dd.name ds r := by
  obtain ⟨a, o, pm, code, doc, h1, h2, h3, h4⟩ := C.top.fn dd hd
  refine ⟨a, o, _, h1, h2, h3, fun A M s E vs hA hw g Q hQ => ?_⟩
  refine wpAny_call (codeAny_call_function (body := dd.body) hA.depth (hw.base _ _ h2) h3 hco hgen rfl (h4.keeps hw.base) ?_)
  rw [hb pm code doc vs (g.length.trans hn.symm)]
  exact wpAny_pure (Con.core hn hk body hnd hkf hA hw g hQ)

/-- a def of one argument and a star, called with two -/
theorem Con.ofStar {n : Nat} {dd : DefRec} {n1 n2 : PySem.Str} {d1 d2 : Dt} {r : Dt} (hd : dd ∈ recsOf C.p)
    (hb : ∀ pm code doc u v, bindArgs (docDef dd.name dd.params dd.body dd.scope pm code doc) ⟨[u, v], []⟩ = (do let t ← newTuple [v]; pure [(n1, u), (n2, t)]))
    (hk : ∀ L, ∀ x ∈ [n1, n2], dd.scope.names.lookup x = some .local ∨ (dd.scope.names.lookup x = some .cell ∧ ((cellsFrom L dd.scope.names []).lookup x).isSome = true))
    (body : ∀ L a cd, Ex C n (fenv dd.name dd.scope L a cd) [(n2, .tup [d2]), (n1, d1)] none dd.body fun f _ _ => f = .ret r)
    (hnd : ((cellsFrom 0 dd.scope.names []).map (·.1)).Nodup := by decide +kernel) (hco : dd.scope.isCoroutine = false := by rfl) (hgen : dd.scope.isGenerator = false := by rfl) (hkf : dd.scope.kind = .function := by rfl) : Con C (n + 1) dd.name [d1, d2] r := by
  obtain ⟨a, o, pm, code, doc, h1, h2, h3, h4⟩ := C.top.fn dd hd
  refine ⟨a, o, _, h1, h2, h3, fun A M s E vs hA hw g Q hQ => ?_⟩
  obtain ⟨u, r1, rfl, g1, v, r2, rfl, g2, rfl⟩ := g
  refine wpAny_call (codeAny_call_function (body := dd.body) hA.depth (hw.base _ _ h2) h3 hco hgen rfl (h4.keeps hw.base) ?_)
  rw [hb pm code doc u v]
  refine wpAny_bind (wpAny_newTuple (wpAny_pure ?_) (by show 1 ≤ 2 ^ 24; omega))
  have kk := kp_push0 s { cls := .type "tuple", data := .seq [v].toArray }
  refine Con.core (names := [n1, n2]) (ds := [d1, .tup [d2]]) (vs := [u, .ref s.heap.objs.size]) rfl hk body hnd hkf hA (hw.keeps kk) ⟨_, _, rfl, g1.up (kp_heap kk), _, _, rfl, ⟨_, [v], rfl, hw.fresh (Nat.le_refl _), ⟨_, Heap.get?_push_size _ rfl, rfl, _, rfl⟩, _, _, rfl, g2.up (kp_heap kk), rfl⟩, rfl⟩ fun v s' k' g' => hQ v s' (kp_trans kk k') g'
end Mine

namespace Mine
open PySem PySem.W PyProof.Rows PySem.Calls

section
variable {prog : Program} {w : World} {A : Around} {E : Value → Shared → Prop} {s : Shared}
theorem kind_issub : builtinKind "issubclass" = none := by decide +kernel
theorem plain_issub : plainId "issubclass" = true := by decide +kernel
theorem args_issub (a b : Value) : argsOk "issubclass" ⟨[a, b], []⟩ := by unfold argsOk; kernel_rfl
theorem entry_issub : entryFor table "issubclass" = some Builtin.«issubclass» := entryFor_of_tree (by kernel_rfl)
theorem entry_issub_n : entryFor table "issubclass.nested" = some Builtin.«issubclass.nested» := entryFor_of_tree (by kernel_rfl)
theorem kind_issub_n : builtinKind "issubclass.nested" = none := by decide +kernel
theorem plain_issub_n : plainId "issubclass.nested" = true := by decide +kernel
theorem args_issub_n (a b : Value) (k : Int) (t : Tok) : argsOk "issubclass.nested" ⟨[a, b, .int k t], []⟩ := by unfold argsOk; kernel_rfl
theorem sub_str : isSubtype (.type "str") (.type "str") = pure true := by rw [isSubtype_type]; kernel_rfl
theorem sub_type : isSubtype (.type "type") (.type "type") = pure true := by rw [isSubtype_type]; kernel_rfl
theorem sub_tuple : isSubtype (.type "tuple") (.type "tuple") = pure true := by rw [isSubtype_type]; kernel_rfl
theorem ty_str : typeOf (.type "str") = pure (.type "type") := by kernel_rfl

theorem issub_inner {k : Int} {t : Tok} {Q : Fin → Shared → Prop} (h : Q (.done (.ret (.bool true))) s) : wpAny (model prog w) A (Builtin.«issubclass.nested» ⟨[.type "str", .type "str", .int k t], []⟩) Q E s := by
  have f1 := sub_str
  have f2 := sub_type
  have f3 := ty_str
  repeat (any_goals (first | assumption | wp_step))

theorem issub_tuple {tp : Addr} {k : Int} {t : Tok} {vs : List Value} {Q : Fin → Shared → Prop} (htp : IsTup s.heap tp (Value.type "str" :: vs).toArray) (hk : k = 0)
    (hq : ∀ tk', Q (.done (.ret (.bool true))) { s with toks := tk' }) : wpAny (model prog w) A (Builtin.«issubclass.nested» ⟨[.type "str", .ref tp, .int k t], []⟩) Q E s := by
  subst hk
  obtain ⟨o, ho, hc, nn, hd⟩ := htp
  obtain ⟨h, g, d, t, os⟩ := s
  have hT2 : (⟨h, g, d, t, os⟩ : Shared).TypeIs (.ref tp) "tuple" := ⟨o, ho, hc⟩
  have f1 := sub_tuple
  repeat (any_goals (first | assumption | wp_step))
  rw [hd]
  refine wpAny_pure (wpAny_bind (wpAny_arrayLoop ?_))
  simp only [Option.getD_some, List.toList_toArray]
  rw [List.forIn_cons]
  refine wpAny_bind (wpAny_bind (Calls.call_function_entry (kind_issub_n) plain_issub_n entry_issub_n (args_issub_n _ _ _ _) (issub_inner ⟨_, rfl, ?_⟩)))
  repeat (any_goals (first | assumption | wp_step))
  exact hq t
theorem call_issub {tp : Addr} {vs : List Value} {Q : Value → Shared → Prop} (htp : IsTup s.heap tp (Value.type "str" :: vs).toArray) (hq : ∀ tk', Q (.bool true) { s with toks := tk' }) :
    wpAny (model prog w) A (call (.builtin "issubclass") [.type "str", .ref tp]) Q E s := by
  refine call_function_tree kind_issub plain_issub entry_issub (args_issub _ _) ?_
  obtain ⟨h, g, d, t, os⟩ := s
  repeat (any_goals (first | assumption | wp_step))
  refine ⟨Code.quiet_builtin _ (by decide +kernel), codeAny_builtin entry_issub_n ?_⟩
  exact issub_tuple htp rfl fun tk' => hq tk'
end

variable {C : Cx}

/-- a name of the interpreter's that the text does not bind -/
structure Bi (C : Cx) (f : PySem.Str) (fv : Value) : Prop where
  free : C.mg f = none
  val : C.mb f = some fv

section
variable {n : Nat} {env : Env} {σ : Sto} {ow : Own} {pos apos p : Pos} {k : Nat} {x y name f : PySem.Str} {e l r o a value slice e1 e2 e3 : PySem.Expr} {d da db d1 d2 d3 : Dt} {es : List PySem.Expr} {ds : List Dt} {b b1 b2 : Bool} {i j : Int} {T : String} {fv : Value}

theorem Ev.callBi (hb : Bi C f fv) (hf : Vs C n (fun vs => call fv vs) ds d) (ha : Evs C n env σ ow es ds) (hr : ∀ a, fv ≠ .ref a := by intro _ q; cases q) (hx : env.kindOf f = some .globalImplicit := by rfl) (hg : env.globals = mainGlobals := by rfl) (hgb : env.builtins = builtinsNs := by rfl) (hp : es.all noStar = true := by rfl)
    (hk : env.scope.kind = .function := by rfl) (hd : (f == ("__debug__" : PySem.Str)) = false := by decide +kernel) : Ev C n env σ ow (.Call (.Name f p) es [] pos) d := Ev.callB hf ha hb.free hb.val hr hx hg hgb hp hk hd
theorem Ev.typ (hb : Bi C f (.type T)) (hx : env.kindOf f = some .globalImplicit := by rfl) (hg : env.globals = mainGlobals := by rfl) (hgb : env.builtins = builtinsNs := by rfl) (hk : env.scope.kind = .function := by rfl) (hd : (f == ("__debug__" : PySem.Str)) = false := by decide +kernel) :
    Ev C n env σ ow (.Name f p) (.typ T) := fun A M s E hA hrd Q hQ =>
  Calls.Name_function_global hk hx (Calls.loadGlobal_builtin (by rw [hg]; exact hrd.toWd.top.g) hb.free (by rw [hgb]; exact hrd.toWd.top.b) hb.val (hQ _ _ (kp_refl s) rfl)) hd

/-! built-in functions -/
theorem Vs.len_list (h : ds.length ≤ 2 ^ 60) : Vs C n (fun vs => call (.builtin "len") vs) [.list ds] (.int ds.length) := fun A M s E vs hA hw g Q hQ => by
  obtain ⟨v, r, rfl, ⟨a, us, rfl, hm, hl, hD⟩, rfl⟩ := g
  have e := hD.length
  refine Calls.call_len_list hl (by simp; omega) ?_
  have q : (us.toArray.size : Int) = ds.length := by simp [e]
  rw [q]
  exact hQ _ _ (kp_tok s _) ⟨_, rfl⟩
theorem Vs.len_str (h : x.length ≤ 2 ^ 60) : Vs C n (fun vs => call (.builtin "len") vs) [.str x] (.int x.length) := fun A M s E vs hA hw g Q hQ => by
  obtain ⟨v, r, rfl, ⟨t, rfl⟩, rfl⟩ := g
  exact PyProof.Rows.len_str (by omega) (hQ _ _ (kp_tok s _) ⟨_, rfl⟩)
theorem Vs.startswith : Vs C n (fun vs => call (.builtin "str.startswith") vs) [.str x, .str y] (.bool (Txt.startswith x y)) := fun A M s E vs hA hw g Q hQ => by
  obtain ⟨v, r, rfl, ⟨t, rfl⟩, v2, r2, rfl, ⟨t2, rfl⟩, rfl⟩ := g
  exact PySem.SC.startswith (hQ _ _ (kp_refl s) rfl)
theorem Vs.endswith : Vs C n (fun vs => call (.builtin "str.endswith") vs) [.str x, .str y] (.bool (Txt.endswith x y)) := fun A M s E vs hA hw g Q hQ => by
  obtain ⟨v, r, rfl, ⟨t, rfl⟩, v2, r2, rfl, ⟨t2, rfl⟩, rfl⟩ := g
  exact PySem.SC.endswith (hQ _ _ (kp_refl s) rfl)
theorem Vs.rfind : Vs C n (fun vs => call (.builtin "str.rfind") vs) [.str x, .str y] (.int (Txt.rfind x y)) := fun A M s E vs hA hw g Q hQ => by
  obtain ⟨v, r, rfl, ⟨t, rfl⟩, v2, r2, rfl, ⟨t2, rfl⟩, rfl⟩ := g
  exact PySem.SC.rfind (hQ _ _ (kp_tok s _) ⟨_, rfl⟩)
theorem Vs.rstrip (h : x.length ≤ 2 ^ 20) : Vs C n (fun vs => call (.builtin "str.rstrip") vs) [.str x, .str y] (.str (Txt.rstripChars x y)) := fun A M s E vs hA hw g Q hQ => by
  obtain ⟨v, r, rfl, ⟨t, rfl⟩, v2, r2, rfl, ⟨t2, rfl⟩, rfl⟩ := g
  have e24 : sizeLine = 2 ^ 24 := rfl
  exact PySem.SC.rstripChars (fun t' k => hQ _ _ (kp_tok s k) ⟨_, rfl⟩) (by omega)
theorem Vs.type_str : Vs C n (fun vs => call (.type "type") vs) [.str x] (.typ "str") := fun A M s E vs hA hw g Q hQ => by
  obtain ⟨v, r, rfl, ⟨t, rfl⟩, rfl⟩ := g
  exact call_type_of (typeIs_str _ _ _) (by decide) (hQ _ _ (kp_refl s) rfl)
theorem Vs.issub : Vs C n (fun vs => call (.builtin "issubclass") vs) [.typ "str", .tup (.typ "str" :: ds)] (.bool true) := fun A M s E vs hA hw g Q hQ => by
  obtain ⟨v, r, rfl, hv, v2, r2, rfl, ⟨a, us, rfl, hm, hl, u, us', rfl, hu, _⟩, rfl⟩ := g
  cases (hv : v = _)
  cases (hu : u = _)
  exact call_issub hl fun tk' => hQ _ _ (kp_tok s tk') rfl
theorem Vs.isi_str_bytes : Vs C n (fun vs => call (.builtin "isinstance") vs) [.str x, .typ "bytes"] (.bool false) := fun A M s E vs hA hw g Q hQ => by
  obtain ⟨v, r, rfl, ⟨t, rfl⟩, v2, r2, rfl, hv, rfl⟩ := g
  cases (hv : v2 = _)
  exact call_isinstance (isinstance_false_str (by decide) (by kernel_rfl) (by rw [isSubtype_type]; kernel_rfl)) (hQ _ _ (kp_tok s _) rfl)

theorem ints_are {h : Heap} {M : Mu} : ∀ {ns : List Int} {vs : List Value}, DA C h M (ns.map Dt.int) vs → IntsAre vs ns
  | [], _, g => by cases g; exact .nil
  | n :: ns, _, ⟨v, r, e, ⟨t, hv⟩, g⟩ => by subst e; subst hv; exact .cons n t (ints_are g)
theorem are_ints {h : Heap} {M : Mu} {vs : List Value} {ns : List Int} (g : IntsAre vs ns) : DA C h M (ns.map Dt.int) vs := by
  induction g with
  | nil => exact rfl
  | cons n t _ ih => exact ⟨_, _, rfl, ⟨t, rfl⟩, ih⟩
theorem strs_are {h : Heap} {M : Mu} : ∀ {ns : List PySem.Str} {vs : List Value}, DA C h M (ns.map Dt.str) vs → StrsAre vs ns
  | [], _, g => by cases g; exact .nil
  | n :: ns, _, ⟨v, r, e, ⟨t, hv⟩, g⟩ => by subst e; subst hv; exact .cons n t (strs_are g)
theorem are_strs {h : Heap} {M : Mu} {vs : List Value} {ns : List PySem.Str} (g : StrsAre vs ns) : DA C h M (ns.map Dt.str) vs := by
  induction g with
  | nil => exact rfl
  | cons n t _ ih => exact ⟨_, _, rfl, ⟨t, rfl⟩, ih⟩
theorem carried_ints {vs : List Value} {ns : List Int} (g : IntsAre vs ns) : CarriedAll vs (ns.map PyData.int) := by
  induction g with
  | nil => exact .nil
  | cons n t _ ih => exact .cons (.int _ _) ih
theorem shaped_ints (ns : List Int) : SeqAt.shaped (.list (ns.map PyData.int)) = true := by
  simp only [SeqAt.shaped, PyData.canLay0, PyData.depth, PyProof.Rows.canLayAll_ints, PyProof.Rows.depthAll_ints]
  decide
theorem sameAll_ints : ∀ ns ms : List Int, PySem.Spec.sameAll (ns.map PyData.int) (ms.map PyData.int) = decide (ns = ms)
  | [], [] => by simp [PySem.Spec.sameAll]
  | [], _ :: _ => by simp [PySem.Spec.sameAll]
  | _ :: _, [] => by simp [PySem.Spec.sameAll]
  | a :: r, b :: t => by
    simp only [List.map_cons, PySem.Spec.sameAll, PySem.Spec.same, sameAll_ints r t]
    by_cases h : a = b <;> by_cases h' : r = t <;> simp [h, h']
theorem ne_ints_ {prog : Program} {w : World} {A : Around} {E : Value → Shared → Prop} {s : Shared} {a b : Addr} {vs us : List Value} {ns ms : List Int} {Q : Value → Shared → Prop} (h1 : s.heap.IsList a vs.toArray) (h2 : s.heap.IsList b us.toArray) (g1 : IntsAre vs ns) (g2 : IntsAre us ms) (hu : A.units + 64 < cLine) (h : Q (.bool (!decide (ns = ms))) s) :
    wpAny (model prog w) A (compareOp .NotEq (.ref a) (.ref b)) Q E s := by
  refine ne_dataH_same (reads_newData h1 (carried_ints g1)) (reads_newData h2 (carried_ints g2)) (shaped_ints ns) (shaped_ints ms) hu (SeqAt.noMix_of_shape (.list .int) rfl _ _ (list_map_has fun _ => rfl) (list_map_has fun _ => rfl)) ?_
  simp only [PySem.Spec.same]
  rw [sameAll_ints]
  exact h
theorem carried_strs {vs : List Value} {ns : List PySem.Str} (g : StrsAre vs ns) : CarriedAll vs (ns.map PyData.str) := by
  induction g with
  | nil => exact .nil
  | cons n t _ ih => exact .cons (.str _ _) ih

theorem V2.ne_ints {ns ms : List Int} : V2 C n (compareOp .NotEq) (.list (ns.map Dt.int)) (.list (ms.map Dt.int)) (.bool (!decide (ns = ms))) := fun A M s E v u hA hw hv hu Q hQ => by
  obtain ⟨a, vs, rfl, hm, hl, hD⟩ := hv
  obtain ⟨a', vs', rfl, hm', hl', hD'⟩ := hu
  exact ne_ints_ hl hl' (ints_are hD) (ints_are hD') (by have := hA.2.1; omega) (hQ _ _ (kp_refl s) rfl)
theorem V2.in_ints {ns : List Int} : V2 C n (compareOp .In) (.int i) (.list (ns.map Dt.int)) (.bool (ns.any (· == i))) := fun A M s E v u hA hw hv hu Q hQ => by
  obtain ⟨t, rfl⟩ := hv
  obtain ⟨a', vs', rfl, hm', hl', hD'⟩ := hu
  exact in_list_ints hl' (ints_are hD') (hQ _ _ (kp_refl s) rfl)
theorem V2.in_str : V2 C n (compareOp .In) (.str y) (.str x) (.bool (!(Builtin.Str.occurrences x y 0 x.length 1).isEmpty)) := fun A M s E v u hA hw hv hu Q hQ => by
  obtain ⟨t, rfl⟩ := hv
  obtain ⟨t', rfl⟩ := hu
  exact PyProof.Rows.in_str (hQ _ _ (kp_refl s) rfl)

theorem canLayAll0_strs : ∀ ns : List PySem.Str, PyData.canLayAll0 (ns.map PyData.str) = ns.all PyData.strOk := canLayAll_strs'
theorem shaped_strs {ns : List PySem.Str} (h : ns.all PyData.strOk = true) : SeqAt.shaped (.list (ns.map PyData.str)) = true := by
  simp only [SeqAt.shaped, PyData.canLay0, PyData.depth, canLayAll0_strs, h, depthAll_strs']
  decide
theorem sameAll_strs : ∀ ns ms : List PySem.Str, PySem.Spec.sameAll (ns.map PyData.str) (ms.map PyData.str) = decide (ns = ms)
  | [], [] => by simp [PySem.Spec.sameAll]
  | [], _ :: _ => by simp [PySem.Spec.sameAll]
  | _ :: _, [] => by simp [PySem.Spec.sameAll]
  | a :: r, b :: t => by
    simp only [List.map_cons, PySem.Spec.sameAll, PySem.Spec.same, sameAll_strs r t]
    by_cases h : a = b <;> by_cases h' : r = t <;> simp [h, h']
theorem V2.ne_strs {ns ms : List PySem.Str} (h1 : ns.all PyData.strOk = true) (h2 : ms.all PyData.strOk = true) : V2 C n (compareOp .NotEq) (.list (ns.map Dt.str)) (.list (ms.map Dt.str)) (.bool (!decide (ns = ms))) := fun A M s E v u hA hw hv hu Q hQ => by
  obtain ⟨a, vs, rfl, hm, hl, hD⟩ := hv
  obtain ⟨a', vs', rfl, hm', hl', hD'⟩ := hu
  refine ne_dataH_same (reads_newData hl (carried_strs (strs_are hD))) (reads_newData hl' (carried_strs (strs_are hD'))) (shaped_strs h1) (shaped_strs h2) (by have := hA.2.1; omega) (SeqAt.noMix_of_shape (.list .str) rfl _ _ (list_map_has fun _ => rfl) (list_map_has fun _ => rfl)) ?_
  simp only [PySem.Spec.same]
  rw [sameAll_strs]
  exact hQ _ _ (kp_refl s) rfl

theorem Vs.sorted_strs {ns : List PySem.Str} (h : ns.length < 64) (hn : ∀ ms : List PySem.Str, ms.Perm ns → sortedS ms = true → d = .list (ms.map Dt.str)) : Vs C n (fun vs => call (.builtin "sorted") vs) [.list (ns.map Dt.str)] d := fun A M s E vs hA hw g Q hQ => by
  obtain ⟨v, r, rfl, ⟨a, us, rfl, hm, hl, hD⟩, rfl⟩ := g
  have e := hD.length
  rw [List.length_map] at e
  refine PyProof.Rows.sorted_strs hl (strs_are hD) (by omega) fun out ss h1 h2 h3 => ?_
  obtain ⟨ep, ho⟩ := sortedAll_at s.heap us out
  rw [hn ss h2 h3] at hQ
  exact hQ _ _ (kp_mk0 fun b o e => sortedAll_old e) ⟨_, out.toList, rfl, hw.fresh (Nat.le_succ _), ⟨_, ho, rfl, _, rfl⟩, are_strs h1⟩

theorem V2.add_list {ds es : List Dt} (h1 : ds.length ≤ 2 ^ 20) (h2 : es.length ≤ 2 ^ 20) : V2 C n (binaryOp .Add) (.list ds) (.list es) (.list (ds ++ es)) := fun A M s E v u hA hw hv hu Q hQ => by
  obtain ⟨l, vs, rfl, hm, hl, hD⟩ := hv
  obtain ⟨b, ws, rfl, hm', hb, hD'⟩ := hu
  have e1 := hD.length
  have e2 := hD'.length
  have e24 : sizeLine = 2 ^ 24 := rfl
  obtain ⟨⟨cls, dd, data, sl⟩, ho, hc, n1, hd⟩ := id hl
  obtain ⟨⟨cls2, dd2, data2, sl2⟩, ho2, hc2, n2, hd2⟩ := id hb
  simp only at hc hd hc2 hd2
  subst hc hd hc2 hd2
  refine concat_meets ⟨_, ho, rfl⟩ ⟨_, ho2, rfl⟩ noFill_list_add seq_list_add PySem.F.slot_list_add PySem.F.entry_list_add (PySem.F.args_list_add_2 _ _) (list_addW l b vs.toArray ws.toArray n1 n2 dd dd2 sl sl2 (by simp; omega)) ⟨ho, ho2, ?_⟩
  have e : vs.toArray ++ ws.toArray = (vs ++ ws).toArray := by simp
  rw [e]
  exact hQ _ _ (kp_push0 s _) ⟨_, vs ++ ws, rfl, hw.fresh (Nat.le_refl _), ⟨_, Heap.get?_push_size _ rfl, rfl, _, rfl⟩, (hD.append hD').up fun b o e => Heap.get?_push_of_some _ e⟩

theorem Vs.split (hx : x.length ≤ 2 ^ 20) (hy : (y.length == 0) = false) : Vs C n (fun vs => call (.builtin "str.split") vs) [.str x, .str y] (.list ((Txt.split x y).map Dt.str)) := fun A M s E vs hA hw g Q hQ => by
  obtain ⟨v, r, rfl, ⟨t, rfl⟩, v2, r2, rfl, ⟨u, rfl⟩, rfl⟩ := g
  have e24 : sizeLine = 2 ^ 24 := rfl
  have hn : (Builtin.Str.partsBetween x (Builtin.Str.occurrences x y 0 x.length (x.length + 1)) y.length).length ≤ sizeLine := by
    have e1 := StrLaws.occ_length_le x y 0 x.length (x.length + 1)
    rw [length_partsBetween]; omega
  have fin : ∀ (l : List (PySem.Str × Tok)) (tk : Nat), l.map (·.1) = Txt.split x y → Q (.ref s.heap.objs.size) { s with toks := tk, heap := s.heap.push { cls := .type "list", data := .seq (strValues l).toArray } } := fun l tk e =>
    hQ _ _ ⟨_, tk, rfl, fun b o e => Heap.get?_push_of_some _ e⟩ ⟨_, strValues l, rfl, hw.fresh (Nat.le_refl _), ⟨_, Heap.get?_push_size _ rfl, rfl, _, rfl⟩, e ▸ are_strs (strsAre_of_values l)⟩
  cases h1 : (decide (x.length < y.length) || decide (Builtin.Str.strKind x < Builtin.Str.strKind y))
  · cases hf : (Builtin.Str.occurrences x y 0 x.length (x.length + 1)).isEmpty
    · refine call_meets F.slot_str_split (typeIs_str _ _ _) F.entry_str_split (F.args_str_split_2 _ _) (meets_str_split_sep x y t u h1 hy hf (by omega) hn) ?_
      rw [strsFrom_eq]
      exact fin (numbered s.toks _) _ ((numbered_texts _ _).trans ((if_neg (ne_true_of_eq_false h1)).trans (if_neg (ne_true_of_eq_false hf))).symm)
    · exact call_meets F.slot_str_split (typeIs_str _ _ _) F.entry_str_split (F.args_str_split_2 _ _) (meets_str_split_not_found x y t u h1 hy hf) (fin [(x, t)] s.toks ((if_neg (ne_true_of_eq_false h1)).trans (if_pos hf)).symm)
  · exact call_meets F.slot_str_split (typeIs_str _ _ _) F.entry_str_split (F.args_str_split_2 _ _) (meets_str_split_cannot_occur x y t u h1) (fin [(x, t)] s.toks (if_pos h1).symm)

theorem Vs.join {ys : List PySem.Str} (hok : (ys.map (·.length)).sum + ys.length * x.length ≤ 16777216) : Vs C n (fun vs => call (.builtin "str.join") vs) [.str x, .list (ys.map Dt.str)] (.str (Txt.join x ys)) := fun A M s E vs hA hw g Q hQ => by
  obtain ⟨v, r, rfl, ⟨t, rfl⟩, v2, r2, rfl, ⟨a, us, rfl, hm, hl, hD⟩, rfl⟩ := g
  exact join_list hl (by simpa using strs_are hD) hok fun t' k => hQ _ _ (kp_tok s k) ⟨_, rfl⟩

theorem Vs.sum {ns : List Int} : Vs C n (fun vs => call (.builtin "sum") vs) [.list (ns.map Dt.int)] (.int ns.sum) := fun A M s E vs hA hw g Q hQ => by
  obtain ⟨v, r, rfl, ⟨a, us, rfl, hm, hl, hD⟩, rfl⟩ := g
  have hi := ints_are hD
  obtain ⟨xs, hx⟩ := hi.allInts.items
  have hl' : s.heap.IsList a (intItems xs) := hx ▸ hl
  have e1 : ns = xs.toList.map (·.1) := by
    rw [← nums_intItems, ← hx]
    exact (show numsOf us.toArray.toList = ns from hi.numsOf).symm
  have e2 : preSum (numAt xs) xs.size = ns.sum := by
    rw [preSum_eq, List.take_of_length_le (by simp), e1]
  refine sum_intListG hA.none hl' fun h' tk t' hk => ?_
  rw [e2]
  exact hQ _ _ (kp_mk hk) ⟨_, rfl⟩

theorem Vs.max2 : Vs C n (fun vs => call (.builtin "max") vs) [.int i, .int j] (.int (if j > i then j else i)) := fun A M s E vs hA hw g Q hQ => by
  obtain ⟨v, r, rfl, ⟨t, rfl⟩, v2, r2, rfl, ⟨u, rfl⟩, rfl⟩ := g
  refine max_two_ints hA.none fun h' tk hk => ?_
  by_cases q : j > i
  · rw [if_pos q] at hQ ⊢; exact hQ _ _ (kp_mk hk) ⟨_, rfl⟩
  · rw [if_neg q] at hQ ⊢; exact hQ _ _ (kp_mk hk) ⟨_, rfl⟩

theorem Vs.range {m : Nat} : Vs C n (fun vs => call (.type "range") vs) [.int (m : Int)] (.range m) := fun A M s E vs hA hw g Q hQ => by
  obtain ⟨v, r, rfl, ⟨t, rfl⟩, rfl⟩ := g
  exact call_range_1 (hQ _ _ ⟨_, _, rfl, fun b o e => Heap.get?_push_of_some _ e⟩ ⟨_, _, _, _, rfl, hw.fresh (Nat.le_refl _), IsRange.new ..⟩)
end
end Mine

namespace Mine
open PySem PySem.W PyProof.Rows PySem.Calls

variable {C : Cx}

/-- the tests of a comprehension -/
inductive TT (C : Cx) (n : Nat) (env : Env) (σ : Sto) : List PySem.Expr → Bool → Prop
  | nil : TT C n env σ [] true
  | one {e : PySem.Expr} {b : Bool} : Tt C n env σ none e b → TT C n env σ [e] b

/-- the captured names: what they stand for within is what they stand for without -/
def capB (env : Env) (scope : Scope) (cl : List (PySem.Str × Addr)) (σc : Sto) : Prop :=
  ∀ y d, σc.lookup y = some d → ((relabel scope env).names.lookup y = some .cell ∨ (relabel scope env).names.lookup y = some .free) ∧ ∃ c, cl.lookup y = some c ∧ env.cells.lookup y = some c ∧ (env.kindOf y = some .cell ∨ env.kindOf y = some .free)
theorem capB.nil {env : Env} {scope : Scope} {cl : List (PySem.Str × Addr)} : capB env scope cl [] := fun _ _ e => by cases e
theorem capB.cons {env : Env} {scope : Scope} {cl : List (PySem.Str × Addr)} {x : PySem.Str} {d : Dt} {σc : Sto} {c : Addr} {k1 k2 : NameKind} (h1 : (relabel scope env).names.lookup x = some k1) (h2 : (k1 == .cell || k1 == .free) = true) (h3 : cl.lookup x = some c) (h4 : env.cells.lookup x = some c) (h5 : env.kindOf x = some k2) (h6 : (k2 == .cell || k2 == .free) = true) (r : capB env scope cl σc) : capB env scope cl ((x, d) :: σc) := fun y e q => by
  rw [List.lookup_cons] at q
  cases hb : y == x with
  | true =>
    have := beq_iff_eq.mp hb
    subst this
    refine ⟨?_, c, h3, h4, ?_⟩
    · simp only [Bool.or_eq_true, beq_iff_eq] at h2; rcases h2 with rfl | rfl
      · exact .inl h1
      · exact .inr h1
    · simp only [Bool.or_eq_true, beq_iff_eq] at h6; rcases h6 with rfl | rfl
      · exact .inl h5
      · exact .inr h5
  | false => rw [hb] at q; exact r y e q

theorem take_map_filter {α β : Type} (p : α → Bool) (g : α → β) (xs : List α) (i : Nat) (a : α) (h : xs[i]? = some a) : ((xs.take (i + 1)).filter p).map g = ((xs.take i).filter p).map g ++ if p a then [g a] else [] := by
  rw [take_succ_filter p xs i a h, List.map_append]
  cases p a <;> rfl

theorem comp_core {α : Type} {n : Nat} {A : Around} {M : Mu} {E : Value → Shared → Prop} {s₁ s₂ : Shared} {env : Env} {σ σc : Sto} {ow : Own} {scope : Scope} {cl : List (PySem.Str × Addr)} {x : PySem.Str} {px pos : Pos} {elt iter : PySem.Expr} {ifs : List PySem.Expr}
    {xs : List α} {di : α → Dt} {p : α → Bool} {g : α → Dt} {I : Addr} {wr fp : List Addr} {Stt : Nat → Heap → Prop} {RR : Value → Addr → Result → Shared → Prop}
    (hA : Room n A) (hrd : Rd C env M σ ow s₁) (k12 : Keeps s₁ s₂) (IT : Iter C (.Name x px) I wr fp s₁.heap M (xs.map di) Stt) (st0 : Stt 0 s₂.heap)
    (hcell : ∀ y ∈ scope.names, y.2 ≠ .cell) (hkind : scope.kind = .function) (hx : (relabel scope env).names.lookup x = some .local) (hsub : Sub σ σc) (hcap : capB env scope cl σc) (hxs : xs.length ≤ 2 ^ 20)
    (htest : ∀ Cf, ∀ a ∈ xs, TT C n (compEnvC scope cl Cf env) ((x, di a) :: σc) ifs (p a))
    (helt : ∀ Cf, ∀ a ∈ xs, p a = true → Ev C n (compEnvC scope cl Cf env) ((x, di a) :: σc) none elt (g a))
    (hcl : ∀ y c, cl.lookup y = some c → env.cells.lookup y = some c)
    (hRR : ∀ D Cf s', Keeps s₁ s' → s₁.heap.get? Cf = none → (∃ m, s'.heap.Ns Cf m) → Mine.D C s'.heap (addM M [Cf]) (.list ((xs.filter p).map g)) (.ref D) → RR (.ref D) Cf (.ok .next) s') :
    wpAny (model C.prog C.w) A (newList []) (fun acc s₃ => wpAny (model C.prog C.w) A (newFunctionEnv scope env.globals cl [] env.qual none .none (some env)) (fun cenv s₄ =>
      codeAny (model C.prog C.w) A (.compStart (.ListComp elt [⟨.Name x px, iter, ifs, 0⟩] scope pos) 0 (.ref I) acc { cenv with scope := relabel scope env }) (RR acc cenv.locals) s₄) E s₃) E s₂ := by
  refine wpAny_newObj_type (wpAny_newFunctionEnv hcell (by intro y hy; simp at hy) (fun h₁ hns₁ hsb₁ => ?_) hkind)
  dsimp only at hns₁ hsb₁ ⊢
  generalize hH2 : s₂.heap.push { cls := .type "list", dict := none, data := .seq ([] : List Value).toArray } = H2 at hns₁ hsb₁ ⊢
  generalize hDd : s₂.heap.objs.size = Dd
  have hC : H2.objs.size = Dd + 1 := by rw [← hH2, Heap.size_push, hDd]
  generalize hCf : H2.objs.size = Cf at hns₁ hsb₁ ⊢
  rw [hCf] at hC
  have noneAt : ∀ b : Addr, Dd ≤ b → s₂.heap.get? b = none := fun b hb => by
    cases q : s₂.heap.get? b with
    | none => rfl
    | some o => exact absurd (Heap.lt_size q) (Nat.not_lt.mpr (hDd ▸ hb))
  have none1 : ∀ b, s₂.heap.get? b = none → s₁.heap.get? b = none := fun b hb => by
    cases q : s₁.heap.get? b with
    | none => rfl
    | some o => exact absurd ((kp_heap k12 b o q).symm.trans hb) (by simp)
  have hD1 : s₁.heap.get? Dd = none := none1 _ (noneAt _ (Nat.le_refl _))
  have hC1 : s₁.heap.get? Cf = none := none1 _ (noneAt _ (by rw [hC]; exact Nat.le_succ _))
  have hDC : Dd ≠ Cf := by rw [hC]; exact Nat.ne_of_lt (Nat.lt_succ_self _)
  have wrD : Dd ∉ wr := fun h => by obtain ⟨o, ho⟩ := IT.live 0 _ st0 Dd h; rw [noneAt _ (Nat.le_refl _)] at ho; cases ho
  have wrC : Cf ∉ wr := fun h => by obtain ⟨o, ho⟩ := IT.live 0 _ st0 Cf h; rw [noneAt _ (by rw [hC]; exact Nat.le_succ _)] at ho; cases ho
  have old : ∀ b o, s₂.heap.get? b = some o → h₁.get? b = some o := fun b o e => hsb₁.extBut b o (fun q => by rw [q, noneAt _ (by rw [hC]; exact Nat.le_succ _)] at e; cases e) (Heap.get?_push_of_some _ (hH2 ▸ Heap.get?_push_of_some _ e))
  have old1 : ∀ b o, s₁.heap.get? b = some o → h₁.get? b = some o := fun b o e => old b o (kp_heap k12 b o e)
  have fpok : ∀ b ∈ fp, b ≠ Cf ∧ b ≠ Dd := fun b hb => by
    rcases IT.fpok b hb with q | ⟨_, o, ho⟩
    · exact ⟨fun e => wrC (e ▸ q), fun e => wrD (e ▸ q)⟩
    · exact ⟨fun e => (by rw [e, hC1] at ho; cases ho), fun e => (by rw [e, hD1] at ho; cases ho)⟩
  have hacc : h₁.PlainList Dd #[] := ⟨_, hsb₁.extBut _ _ hDC (Heap.get?_push_of_some _ (hH2 ▸ hDd ▸ Heap.get?_push_size _ rfl))⟩
  have st1 : Stt 0 h₁ := IT.frame _ _ _ st0 fun b _ o e => old b o e
  -- what changes while it runs
  have hMM : ∀ b o, s₁.heap.get? b = some o → addM M (Cf :: Dd :: wr) b → M b := fun b o e q => by
    rcases q with q | q
    · exact q
    · rcases List.mem_cons.mp q with q | q
      · rw [q, hC1] at e; cases e
      · rcases List.mem_cons.mp q with q | q
        · rw [q, hD1] at e; cases e
        · rw [IT.new b q] at e; cases e
  obtain ⟨m₀, cm, hNs, hCells, hVars, _⟩ := hrd.names
  -- the loop
  have loop : ∀ s₃ : Shared, s₃ = { s₂ with heap := h₁, toks := s₂.toks + ([] : List (PySem.Str × Value)).length } →
      codeAny (model C.prog C.w) A (.compLoop (.ListComp elt [⟨.Name x px, iter, ifs, 0⟩] scope pos) 0 (.ref I) (.ref Dd) (compEnvC scope cl Cf env)) (RR (.ref Dd) Cf) s₃ := by
    rintro s₃ rfl
    have k13 : Keeps s₁ { s₂ with heap := h₁, toks := s₂.toks + ([] : List (PySem.Str × Value)).length } := by
      obtain ⟨h', tk', e, _⟩ := k12
      exact ⟨h₁, s₂.toks + ([] : List (PySem.Str × Value)).length, by rw [e], old1⟩
    refine codeAny_compLoop_tests (fun kk s' => ∃ (i : Nat) (m : PySem.Str → Option Value) (ys : List Value), kk = xs.length + 1 - i ∧ i ≤ xs.length ∧ Keeps s₁ s' ∧ Stt i s'.heap ∧ s'.heap.Ns Cf m ∧ s'.heap.PlainList Dd ys.toArray ∧
      DA C s'.heap (addM M (Cf :: Dd :: wr)) (((xs.take i).filter p).map g) ys) ?_ (xs.length + 1) ⟨0, _, [], by omega, Nat.zero_le _, k13, st1, hns₁, hacc, by simp [DA]⟩
    rintro kk s' ⟨i, m, ys, rfl, hi, k', st', hm, hp, hys⟩
    have hM'own : ∀ b, addM M (Cf :: Dd :: wr) b → ∃ o, s'.heap.get? b = some o := fun b hb => by
      rcases hb with q | q
      · obtain ⟨o, ho⟩ := hrd.own b q; exact ⟨o, kp_heap k' b o ho⟩
      · rcases List.mem_cons.mp q with q | q
        · obtain ⟨o, _, _, ho, _⟩ := hm; exact ⟨o, q ▸ ho⟩
        · rcases List.mem_cons.mp q with q | q
          · obtain ⟨nn, ho⟩ := hp; exact ⟨_, q ▸ ho⟩
          · exact IT.live _ _ st' b q
    by_cases hlt : i < xs.length
    · have hlt' : i < (xs.map di).length := by rw [List.length_map]; exact hlt
      have ha : xs[i]? = some xs[i] := List.getElem?_eq_getElem hlt
      have hmem : xs[i] ∈ xs := List.getElem_mem hlt
      refine wpAny_mono (IT.item A i s' (addM M (Cf :: Dd :: wr)) (fun v s3 => wpAny (model C.prog C.w) A (assign (.Name x px) (compEnvC scope cl Cf env) v) (fun _ s₂ => wpAny (model C.prog C.w) A (forIn ifs true fun c r => if r = true then do let ok ← isTrue c (compEnvC scope cl Cf env) (eval c (compEnvC scope cl Cf env)); pure (ForInStep.yield ok) else pure (ForInStep.yield r)) (fun ok s₃ =>
            if ok = true then wpAny (model C.prog C.w) A (eval elt (compEnvC scope cl Cf env)) (fun x s₄ =>
              wpAny (model C.prog C.w) A (call (.builtin "list.append") [.ref Dd, x]) (fun _ s₅ => ∃ m, m < xs.length + 1 - i ∧ ∃ (i : Nat) (m_1 : PySem.Str → Option Value) (ys : List Value), m = xs.length + 1 - i ∧ i ≤ xs.length ∧ Keeps s₁ s₅ ∧ Stt i s₅.heap ∧ s₅.heap.Ns Cf m_1 ∧ s₅.heap.PlainList Dd ys.toArray ∧
      DA C s₅.heap (addM M (Cf :: Dd :: wr)) (((xs.take i).filter p).map g) ys) (notedBy (model C.prog C.w) A (compEnvC scope cl Cf env) fun e s' => RR (.ref Dd) Cf (.error e) s') s₄) (notedBy (model C.prog C.w) A (compEnvC scope cl Cf env) fun e s' => RR (.ref Dd) Cf (.error e) s') s₃
            else ∃ m, m < xs.length + 1 - i ∧ ∃ (i : Nat) (m_1 : PySem.Str → Option Value) (ys : List Value), m = xs.length + 1 - i ∧ i ≤ xs.length ∧ Keeps s₁ s₃ ∧ Stt i s₃.heap ∧ s₃.heap.Ns Cf m_1 ∧ s₃.heap.PlainList Dd ys.toArray ∧
      DA C s₃.heap (addM M (Cf :: Dd :: wr)) (((xs.take i).filter p).map g) ys) (notedBy (model C.prog C.w) A (compEnvC scope cl Cf env) fun e s' => RR (.ref Dd) Cf (.error e) s') s₂) (notedBy (model C.prog C.w) A (compEnvC scope cl Cf env) fun e s' => RR (.ref Dd) Cf (.error e) s') s3) _ hA.none hlt' st' hM'own hMM (fun b o _ _ e => kp_heap k' b o e) fun v d h3 tk3 hd g3 st3 k3 => ?_) (fun r s3 h => ?_) fun _ _ x => x
      · -- assign
        rw [List.getElem?_map, ha] at hd
        cases hd
        have up3 : ∀ b o, ¬ addM M (Cf :: Dd :: wr) b → s'.heap.get? b = some o → h3.get? b = some o := fun b o hb e => k3 b o (fun q => hb (.inr (.tail _ (.tail _ q)))) e
        have hm3 : h3.Ns Cf m := hm.at' fun o e => k3 Cf o wrC e
        have hp3 : h3.PlainList Dd ys.toArray := hp.at fun o e => k3 Dd o wrD e
        have key3 : ∀ b o, s₁.heap.get? b = some o → h3.get? b = some o := fun b o e => k3 b o (fun q => by rw [IT.new b q] at e; cases e) (kp_heap k' b o e)
        refine wpAny_assign_Name (wpAny_storeName_local (env := compEnvC scope cl Cf env) hx hm3 (fun h4 hn4 hs4 => ?_) (by simp [compEnvC, relabel, hkind]))
        replace hn4 : h4.Ns Cf (fun y => if y = x then some v else m y) := hn4
        replace hs4 : Heap.SameBut Cf h3 h4 := hs4
        have up4 : ∀ b o, ¬ addM M (Cf :: Dd :: wr) b → s'.heap.get? b = some o → h4.get? b = some o := fun b o hb e => hs4.extBut b o (fun q => hb (.inr (q ▸ .head _))) (up3 b o hb e)
        have key4 : ∀ b o, s₁.heap.get? b = some o → h4.get? b = some o := fun b o e => hs4.extBut b o (fun q => by rw [q, hC1] at e; cases e) (key3 b o e)
        have st4 : Stt (i + 1) h4 := IT.frame _ _ _ st3 fun b hb o e => hs4.extBut b o (fpok b hb).1 e
        have hp4 : h4.PlainList Dd ys.toArray := hp3.at fun o e => hs4.extBut Dd o hDC e
        have hys4 : DA C h4 (addM M (Cf :: Dd :: wr)) (((xs.take i).filter p).map g) ys := DA.mono up4 (fun _ _ _ => id) hys
        have gv4 : Mine.D C h4 (addM M (Cf :: Dd :: wr)) (di xs[i]) v := D.mono (fun b o hb e => hs4.extBut b o (fun q => hb (.inr (q ▸ .head _))) e) (fun _ _ _ => id) g3
        generalize hs4' : ({ s' with heap := h4, toks := tk3 + 1 } : Shared) = s4
        have e4h : s4.heap = h4 := by rw [← hs4']
        have k14 : Keeps s₁ s4 := by
          obtain ⟨h', tk', e, _⟩ := k'
          exact ⟨h4, tk3 + 1, by rw [← hs4', e], key4⟩
        -- the inner names
        have R4 : Rd C (compEnvC scope cl Cf env) (addM M (Cf :: Dd :: wr)) ((x, di xs[i]) :: σc) none s4 := by
          refine ⟨⟨fun b o e => kp_heap k14 b o (hrd.base b o e), fun b hb => ?_, fun b hb => ?_⟩, (fun y => if y = x then some v else m y), cm, e4h ▸ hn4, fun y c e => (hCells y c (hcl y c e)).keeps (kp_heap k14), fun y d e => ?_, fun _ _ e => by cases e⟩
          · rcases hb with q | q
            · exact hrd.off b q
            · cases q2 : C.base.get? b with
              | none => rfl
              | some o =>
                have h1 := hrd.base b o q2
                rcases List.mem_cons.mp q with q | q
                · rw [q, hC1] at h1; cases h1
                · rcases List.mem_cons.mp q with q | q
                  · rw [q, hD1] at h1; cases h1
                  · rw [IT.new b q] at h1; cases h1
          · rw [e4h]
            rcases hb with q | q
            · obtain ⟨o, ho⟩ := hrd.own b q; exact ⟨o, key4 b o ho⟩
            · rcases List.mem_cons.mp q with q | q
              · obtain ⟨o, _, _, ho, _⟩ := hn4; exact ⟨o, q ▸ ho⟩
              · rcases List.mem_cons.mp q with q | q
                · obtain ⟨nn, ho⟩ := hp4; exact ⟨_, q ▸ ho⟩
                · exact IT.live _ _ st4 b q
          · rw [List.lookup_cons] at e
            cases hb : y == x with
            | true =>
              rw [hb] at e; cases e
              have := beq_iff_eq.mp hb
              subst this
              refine ⟨v, ?_, e4h ▸ gv4⟩
              simp [getv, Env.kindOf, compEnvC, hx]
            | false =>
              rw [hb] at e
              obtain ⟨hk1, c, hc1, hc2, hk2⟩ := hcap y d e
              obtain ⟨u, hu1, hu2⟩ := hVars y d (hsub y d e)
              refine ⟨u, ?_, D.mono (fun b o _ e => kp_heap k14 b o e) hMM hu2⟩
              have hu3 : cm y = some u := by
                unfold getv at hu1
                rcases hk2 with q | q <;> rw [q, hc2] at hu1 <;> exact hu1
              unfold getv
              show (match (relabel scope env).names.lookup y with
                | some .local => _
                | some .cell => match cl.lookup y with
                  | some _ => cm y
                  | none => none
                | some .free => match cl.lookup y with
                  | some _ => cm y
                  | none => none
                | _ => none) = some u
              rcases hk1 with q | q <;> rw [q, hc1] <;> exact hu3
        -- the tests
        have tests : ∀ Q : Bool → Shared → Prop, (∀ s5, Keeps s4 s5 → Q (p xs[i]) s5) → wpAny (model C.prog C.w) A (forIn ifs true fun c r => if r = true then do let ok ← isTrue c (compEnvC scope cl Cf env) (eval c (compEnvC scope cl Cf env)); pure (ForInStep.yield ok) else pure (ForInStep.yield r)) Q (notedBy (model C.prog C.w) A (compEnvC scope cl Cf env) fun e s' => RR (.ref Dd) Cf (.error e) s') s4 := fun Q hQ => by
          have tt := htest Cf xs[i] hmem
          generalize p xs[i] = pb at tt hQ
          cases tt with
          | nil => exact wpAny_tests_nil (hQ s4 (kp_refl s4))
          | one h => exact wpAny_tests_one (h A _ s4 _ hA R4 _ hQ)
        refine tests _ fun s5 k5 => ?_
        have st5 : Stt (i + 1) s5.heap := IT.frame _ _ _ st4 fun b _ o e => kp_heap k5 b o (e4h ▸ e)
        have hn5 : s5.heap.Ns Cf (fun y => if y = x then some v else m y) := (e4h ▸ hn4).keeps (kp_heap k5)
        have hp5 : s5.heap.PlainList Dd ys.toArray := (e4h ▸ hp4).at fun o => kp_heap k5 Dd o
        have hys5 : DA C s5.heap (addM M (Cf :: Dd :: wr)) (((xs.take i).filter p).map g) ys := (e4h ▸ hys4).up (kp_heap k5)
        cases hpa : p xs[i] with
        | false =>
          simp only [Bool.false_eq_true, if_false]
          refine ⟨xs.length + 1 - (i + 1), by omega, i + 1, _, ys, rfl, hlt, kp_trans k14 k5, st5, hn5, hp5, ?_⟩
          rw [take_map_filter p g xs i _ ha, hpa]
          simpa using hys5
        | true =>
          simp only [if_true]
          refine helt Cf xs[i] hmem hpa A _ s5 _ hA (R4.keeps k5) _ fun y s6 k6 g6 => ?_
          have hlen := hys5.length
          have hle : (((xs.take i).filter p).map g).length ≤ xs.length := by
            rw [List.length_map]
            exact Nat.le_trans (List.length_filter_le _ _) (by rw [List.length_take]; omega)
          have e24 : sizeLine = 2 ^ 24 := rfl
          refine wpAny_list_append_plain (hp5.at fun o => kp_heap k6 Dd o) (fun h7 hp7 hs7 => ?_) (by simp only [List.size_toArray]; omega)
          have up7 : ∀ b o, ¬ addM M (Cf :: Dd :: wr) b → s6.heap.get? b = some o → h7.get? b = some o := fun b o hb e => hs7.extBut b o (fun q => hb (.inr (q ▸ .tail _ (.head _)))) e
          refine ⟨xs.length + 1 - (i + 1), by omega, i + 1, _, ys ++ [y], rfl, hlt, ?_, ?_, ((hn5.keeps (kp_heap k6)).sameBut hs7 (Ne.symm hDC)), by simpa using hp7, ?_⟩
          · have kk := kp_trans k14 (kp_trans k5 k6)
            obtain ⟨h', tk', e, kk'⟩ := kk
            subst e
            exact ⟨h7, tk', rfl, fun b o e => hs7.extBut b o (fun q => by rw [q, hD1] at e; cases e) (kk' b o e)⟩
          · exact IT.frame _ _ _ st5 fun b hb o e => hs7.extBut b o (fpok b hb).2 (kp_heap k6 b o e)
          · rw [take_map_filter p g xs i _ ha, hpa]
            exact (DA.mono up7 (fun _ _ _ => id) (hys5.up (kp_heap k6))).append (.one (D.mono up7 (fun _ _ _ => id) g6))
      · obtain ⟨v, rfl, h⟩ := h
        have hl : letOwnedTupleGo (.Name x px) (.ref I) v = pure () := rfl
        rw [hl] at h
        exact fun Γ p hΓ => h Γ p hΓ Γ p hΓ
    · have hin : i = xs.length := by omega
      subst hin
      refine wpAny_mono (IT.done A s' (fun s3 => RR (.ref Dd) Cf (.ok .next) s3) _ hA.none (by rw [List.length_map]; exact st') fun h3 tk3 k3 => ?_) (fun r s3 h => by obtain ⟨rfl, h⟩ := h; exact h) fun _ _ x => x
      rw [List.take_length] at hys
      refine hRR Dd Cf _ ?_ hC1 ⟨m, hm.at' fun o e => k3 Cf o wrC e⟩ ⟨Dd, ys, rfl, ?_, (hp.at fun o e => k3 Dd o wrD e).isList, ?_⟩
      · obtain ⟨h', tk', e, kk'⟩ := k'
        subst e
        exact ⟨h3, tk3, rfl, fun b o e => k3 b o (fun q => by rw [IT.new b q] at e; cases e) (kk' b o e)⟩
      · rintro (q | q)
        · obtain ⟨o, ho⟩ := hrd.own Dd q; rw [hD1] at ho; cases ho
        · exact hDC (List.mem_singleton.mp q)
      · refine DA.mono (fun b o hb e => k3 b o (fun q => hb (.inr (.tail _ (.tail _ q)))) e) (fun b o _ q => ?_) hys
        rcases q with q | q
        · exact .inl q
        · exact .inr (by rw [List.mem_singleton.mp q]; exact .head _)
  exact codeAny_compStart_list (loop _ rfl) (IT.self A 0 _ _ _ hA.none st1 (loop _ rfl))
end Mine

namespace Mine
open PySem PySem.W PyProof.Rows PySem.Calls

variable {C : Cx}
section
variable {α : Type} {n : Nat} {env : Env} {σ σc : Sto} {ow : Own} {scope : Scope} {cl : List (PySem.Str × Addr)} {x y : PySem.Str} {px py pos spos : Pos} {elt iter : PySem.Expr} {ifs : List PySem.Expr} {dl : Dt}
    {xs : List α} {di : α → Dt} {p : α → Bool} {g : α → Dt} {Φ : Post}

/-- what a comprehension wants -/
structure CompOk (C : Cx) (n : Nat) (env : Env) (σ σc : Sto) (ow : Own) (scope : Scope) (cl : List (PySem.Str × Addr)) (x : PySem.Str) (px : Pos) (elt iter : PySem.Expr) (ifs : List PySem.Expr) (dl : Dt) (xs : List α) (di : α → Dt) (p : α → Bool) (g : α → Dt) : Prop where
  it : Ev C n env σ ow iter dl
  itb : Itb C (.Name x px) dl (xs.map di) pyIter
  test : ∀ Cf, ∀ a ∈ xs, TT C n (compEnvC scope cl Cf env) ((x, di a) :: σc) ifs (p a)
  elt : ∀ Cf, ∀ a ∈ xs, p a = true → Ev C n (compEnvC scope cl Cf env) ((x, di a) :: σc) none elt (g a)
  clos : closureFor scope env = pure cl
  cell : ∀ y ∈ scope.names, y.2 ≠ .cell
  kind : scope.kind = .function
  names : ∀ y ∈ scope.names, y.2 = .local → scope.names.lookup y.1 = some .local
  var : (relabel scope env).names.lookup x = some .local
  sub : Sub σ σc
  cap : capB env scope cl σc
  few : xs.length ≤ 2 ^ 20
  cl : ∀ y c, cl.lookup y = some c → env.cells.lookup y = some c

theorem Ev.comp (h : CompOk C n env σ σc ow scope cl x px elt iter ifs dl xs di p g) (hs : ∀ x, foldedSetIterable iter env x = pure x := by intro _; rfl) :
    Ev C n env σ ow (.ListComp elt [⟨.Name x px, iter, ifs, 0⟩] scope pos) (.list ((xs.filter p).map g)) := fun A M s E hA hrd Q hQ => by
  rw [eval_ListComp]
  refine wpAny_comprehension_free (use := Option.none) rfl hs h.clos h.kind h.names (h.it A M s E hA hrd _ fun v s1 k1 g1 => h.itb A M s1 E v _ (hrd.keeps k1).toWd g1 fun I wr fp Stt s2 k2 IT st0 => ?_)
  refine comp_core (RR := fun acc Cf => compPost (model C.prog C.w) A E Option.none Q acc Cf) hA (hrd.keeps k1) k2 IT st0 h.cell h.kind h.var h.sub h.cap h.few h.test h.elt h.cl fun Dd Cf s' k' hCf hm hD => ?_
  obtain ⟨m, hm⟩ := hm
  refine ⟨m, hm, fun h' hsb => hQ _ _ (kp_trans k1 ?_) ?_⟩
  · obtain ⟨h0, t0, e, kk⟩ := k'
    subst e
    exact ⟨h', t0, rfl, fun b o e => hsb.extBut b o (fun q => by rw [q, hCf] at e; cases e) (kk b o e)⟩
  · exact D.mono (fun b o hb e => hsb.extBut b o (fun q => hb (.inr (List.mem_singleton.mpr q))) e) (fun b _ _ q => .inl q) hD

theorem Ex1.asgComp (h : CompOk C n env σ σc ow scope cl x px elt iter ifs dl xs di p g) (hΦ : Φ .next ((y, .list ((xs.filter p).map g)) :: σ) ow) (hst : stored env y = true := by rfl) (ho : ow.all (fun q => !(q.1 == y)) = true := by rfl)
    (hsw : swapsWith (.ListComp elt [⟨.Name x px, iter, ifs, 0⟩] scope pos) (some (.Name y py)) spos.line env = pure true := by rfl) (hs : ∀ x, foldedSetIterable iter env x = pure x := by intro _; rfl) :
    Ex1 C n env σ ow (.Assign [.Name y py] (.ListComp elt [⟨.Name x px, iter, ifs, 0⟩] scope pos) spos) Φ := fun A s₀ M₀ s oa E Q hA S hQ => by
  rw [exec_Assign_Name_used _ _ _ _ hsw]
  refine wpAny_bind (wpAny_standAt (wpAny_bind ?_))
  show wpAny _ A (do let _ ← comprehension (.ListComp elt [⟨.Name x px, iter, ifs, 0⟩] scope pos) scope env _ (newList []) false (eval iter env) (some (assign (.Name y py) env))) _ _ s
  refine wpAny_bind (wpAny_mono (wpAny_comprehension_free (use := some (assign (.Name y py) env)) (Q := fun _ s' => Q .next s') rfl hs h.clos h.kind h.names (h.it A _ s E hA S.rd _ fun v s1 k1 g1 => h.itb A _ s1 E v _ (S.keeps k1).wd g1 fun I wr fp Stt s2 k2 IT st0 => ?_))
    (fun _ s' hq => wpAny_pure (wpAny_pure hq)) fun _ _ e => e)
  have S1 := S.keeps k1
  refine comp_core (RR := fun acc Cf => compPost (model C.prog C.w) A E (some (assign (.Name y py) env)) (fun _ s' => Q .next s') acc Cf) hA S1.rd k2 IT st0 h.cell h.kind h.var h.sub h.cap h.few h.test h.elt h.cl fun Dd Cf s' k' hCf hm hD => ?_
  obtain ⟨m, hm⟩ := hm
  obtain ⟨S', hO, hoa⟩ := S1.add (I := [Cf]) k' (fun b hb => by rw [List.mem_singleton.mp hb]; exact hCf) (fun b hb => by rw [List.mem_singleton.mp hb]; obtain ⟨o, _, _, ho, _⟩ := hm; exact ⟨o, ho⟩)
  have hCL : Cf ≠ env.locals := fun q => hO.loc (q ▸ List.mem_singleton.mpr rfl)
  have hMC : ¬ M₀ Cf := fun q => by obtain ⟨o, ho⟩ := S1.wd.own Cf (.inl q); rw [hCf] at ho; cases ho
  have hD' : Mine.D C s'.heap (mu (addM M₀ [Cf]) env oa) (.list ((xs.filter p).map g)) (.ref Dd) := D.mono (fun _ _ _ e => e) (fun b _ _ q => (mu_add.mp q).elim .inl .inr) hD
  refine (Tg.name hst ho) A s₀ _ s' oa σ E _ _ hA.none S' hD' fun s3 S3 k3 => ?_
  have kC : ∀ o, s'.heap.get? Cf = some o → s3.heap.get? Cf = some o := fun o e => k3.keep Cf o e hCL (fun z q => hO.cell z Cf q (List.mem_singleton.mpr rfl)) (fun q => hoa Cf q (List.mem_singleton.mpr rfl))
  refine ⟨m, hm.at' kC, fun h' hsb => ?_⟩
  have Sd := S3.drop hO hoa (fun b hb => by rw [List.mem_singleton.mp hb]; exact hMC) (h' := h') (tk := s3.toks) fun b o hb e => hsb.extBut b o (fun q => hb (List.mem_singleton.mpr q)) e
  refine hQ .next .next _ oa _ ow Sd ?_ trivial hΦ
  refine (Fk.keeps (kp_trans k1 k')).trans k3 S3.done |>.thru (I := [Cf]) (fun b hb => ?_) fun b o hb e => hsb.extBut b o (fun q => hb (List.mem_singleton.mpr q)) e
  rw [List.mem_singleton.mp hb]
  cases q : s.heap.get? Cf with
  | none => rfl
  | some o => rw [kp_heap k1 Cf o q] at hCf; cases hCf
end
end Mine

namespace Mine
open PySem PySem.W PyProof.Rows PySem.Calls

def recAt (p : Program) (k : Nat) : DefRec := match p.main.body[k]? with
  | some (.FunctionDef name a b _ _ _ sc _ _ pos) => ⟨name, a, b, sc, pos⟩
  | _ => ⟨"", { posonlyargs := [], args := [], vararg := none, kwonlyargs := [], kw_defaults := [], kwarg := none, defaults := [] }, [], { kind := .function, names := [], isGenerator := false, isCoroutine := false }, ⟨0, 0, 0, 0⟩⟩
abbrev rAt (k : Nat) : DefRec := recAt PySem.Challenge.pw_ik0200_01 k

/-- what is asked of the top -/
structure Prg (C : Cx) : Prop where
  mem : ∀ k ∈ [3, 4, 13, 17, 18, 19, 20, 21, 22, 24, 45, 47, 48, 49, 50, 51, 52, 53], rAt k ∈ recsOf C.p
  b_len : Bi C "len" (.builtin "len")
  b_sorted : Bi C "sorted" (.builtin "sorted")
  b_sum : Bi C "sum" (.builtin "sum")
  b_max : Bi C "max" (.builtin "max")
  b_min : Bi C "min" (.builtin "min")
  b_isinstance : Bi C "isinstance" (.builtin "isinstance")
  b_issubclass : Bi C "issubclass" (.builtin "issubclass")
  b_type : Bi C "type" (.type "type")
  b_str : Bi C "str" (.type "str")
  b_bytes : Bi C "bytes" (.type "bytes")
  b_range : Bi C "range" (.type "range")
  b_tuple : Bi C "tuple" (.type "tuple")
  b_map : Bi C "map" (.type "map")
  b_enumerate : Bi C "enumerate" (.type "enumerate")

variable {C : Cx}

theorem len1 {vs : List Value} (h : vs.length = 1) : ∃ a, vs = [a] := by
  match vs, h with
  | [a], _ => exact ⟨a, rfl⟩
theorem len2 {vs : List Value} (h : vs.length = 2) : ∃ a b, vs = [a, b] := by
  match vs, h with
  | [a, b], _ => exact ⟨a, b, rfl⟩
theorem len3 {vs : List Value} (h : vs.length = 3) : ∃ a b c, vs = [a, b, c] := by
  match vs, h with
  | [a, b, c], _ => exact ⟨a, b, c, rfl⟩

theorem con_ifmt (P : Prg C) {n : Nat} (i : Int) : Con C (n + 1) "S_IFMT" [.int i] (.int (Builtin.bitAnd i 61440)) := by
  refine Con.of (dd := rAt 24) (names := ["mode"]) (P.mem 24 (by decide)) rfl (fun pm code doc vs h => ?_) (fun L x hx => ?_) fun L a cd => ?_
  · obtain ⟨v, rfl⟩ := len1 h
    rfl
  · simp only [List.mem_singleton] at hx
    subst hx
    exact .inl rfl
  · apply Ex.cons
    apply Ex1.ret (d := .int (Builtin.bitAnd i 61440))
    · refine Ev.binop (Ev.name rfl) Ev.int V2.and_int
    · rfl

theorem con_fspath (P : Prg C) {n : Nat} (x : PySem.Str) : Con C (n + 1) "fspath" [.str x] (.str x) := by
  refine Con.of (dd := rAt 13) (names := ["path"]) (P.mem 13 (by decide)) rfl (fun pm code doc vs h => ?_) (fun L x hx => ?_) fun L a cd => ?_
  · obtain ⟨v, rfl⟩ := len1 h
    rfl
  · simp only [List.mem_singleton] at hx
    subst hx
    exact .inl rfl
  · apply Ex.cons
    apply Ex1.asg (d := .typ "str")
    · exact Ev.callBi P.b_type Vs.type_str (.cons (Ev.name rfl) .nil)
    apply Ex.cons
    apply Ex1.ite (b := true)
    · exact Tt.plain (Ev.callBi P.b_issubclass Vs.issub (.cons (Ev.name rfl) (.cons (Ev.tupD (.cons (Ev.typ P.b_str) (.cons (Ev.typ P.b_bytes) .nil)) rfl (by decide)) .nil))) B1.bool
    · intro _
      apply Ex.cons
      apply Ex1.ret (Ev.name rfl)
      rfl
    · intro h; cases h
end Mine

namespace Mine
open PySem PySem.W PyProof.Rows PySem.Calls
variable {C : Cx}

abbrev sl : PySem.Str := "/"
theorem not_bytes {x : PySem.Str} {n : Nat} {env : Env} {σ : Sto} {ow : Own} {e : PySem.Expr} {p1 p2 pos : Pos} (P : Prg C) (he : Ev C n env σ ow e (.str x)) (hx : env.kindOf "isinstance" = some .globalImplicit := by rfl) (hx2 : env.kindOf "bytes" = some .globalImplicit := by rfl) (hg : env.globals = mainGlobals := by rfl) (hgb : env.builtins = builtinsNs := by rfl) (hp : noStar e = true := by rfl) (hk : env.scope.kind = .function := by rfl) :
    Tt C n env σ ow (.Call (.Name "isinstance" p1) [e, .Name "bytes" p2] [] pos) false :=
  Tt.plain (Ev.callBi P.b_isinstance Vs.isi_str_bytes (.cons he (.cons (Ev.typ P.b_bytes hx2 hg hgb hk) .nil)) (by intro _ q; cases q) hx hg hgb (by simp only [List.all_cons, List.all_nil, hp]; rfl) hk) B1.bool

theorem con_sep (P : Prg C) {n : Nat} (x : PySem.Str) : Con C (n + 1) "_get_sep" [.str x] (.str sl) := by
  refine Con.of (dd := rAt 17) (names := ["path"]) (P.mem 17 (by decide)) rfl (fun pm code doc vs h => ?_) (fun L x hx => ?_) fun L a cd => ?_
  · obtain ⟨v, rfl⟩ := len1 h
    rfl
  · simp only [List.mem_singleton] at hx
    subst hx
    exact .inl rfl
  · apply Ex.cons
    apply Ex1.ite (b := false)
    · exact not_bytes P (Ev.name rfl)
    · intro h; cases h
    · intro _
      apply Ex.cons
      apply Ex1.ret Ev.str
      rfl

def joinF (a b : PySem.Str) : PySem.Str := if Txt.startswith b sl || (a.length == 0) then b else if Txt.endswith a sl then a ++ b else a ++ (sl ++ b)

theorem len_app (x y : PySem.Str) : (x ++ y).length = x.length + y.length := PySem.Str.length_append x y

theorem V2.iadd_str {n : Nat} {x y : PySem.Str} (hsz : x.length + y.length ≤ sizeLine) : V2 C n (inplaceOp .Add) (.str x) (.str y) (.str (x ++ y)) := fun A M s E v u hA hw hv hu Q hQ => by
  obtain ⟨t, rfl⟩ := hv; obtain ⟨t', rfl⟩ := hu
  exact PyProof.Rows.iadd_str (fun t' tk => hQ _ _ (kp_tok s tk) ⟨t', rfl⟩) hsz

set_option maxHeartbeats 2000000 in
theorem con_join (P : Prg C) {n : Nat} (a b : PySem.Str) (ha : a.length ≤ 2 ^ 10) (hb : b.length ≤ 2 ^ 10) : Con C (n + 2) "join" [.str a, .str b] (.str (joinF a b)) := by
  have e24 : sizeLine = 2 ^ 24 := rfl
  refine Con.ofStar (dd := rAt 18) (n1 := "a") (n2 := "p") (P.mem 18 (by decide)) (fun pm code doc u v => by rfl) (fun L x hx => ?_) fun L ad cd => ?_
  · simp only [List.mem_cons, List.not_mem_nil, or_false] at hx
    rcases hx with rfl | rfl <;> exact .inl rfl
  · apply Ex.cons
    apply Ex1.asg (d := .str a) (Ev.callF (con_fspath P a) (.cons (Ev.name rfl) .nil))
    apply Ex.cons
    apply Ex1.asg (d := .str sl) (Ev.callF (con_sep P a) (.cons (Ev.name rfl) .nil))
    apply Ex.cons
    apply Ex1.asg (d := .str a) (Ev.name rfl)
    apply Ex.cons
    apply Ex1.try
    apply Ex.cons
    apply Ex1.for (di := .tup [.str b]) (ds := [.str b]) (Ev.name rfl) Itb.tup
      (S := fun i => [("path", .str (match i with | 0 => a | _ + 1 => joinF a b)), ("sep", .str sl), ("a", .str a), ("p", .tup [.str b])]) (W := fun _ => none) (ext := fun _ => [("b", .str b)])
    · exact .cons rfl (.cons rfl (.cons rfl (.cons rfl .nil)))
    · rfl
    · intro i d hd
      have : d = .str b := by
        match i, hd with
        | 0, hd => cases hd; rfl
      subst this
      exact Tg.name
    · intro i d hd
      have hi : i = 0 := by
        match i, hd with
        | 0, hd => rfl
      subst hi
      apply Ex.cons
      apply Ex1.asg (d := .str b) (Ev.callF (con_fspath P b) (.cons (Ev.name rfl) .nil))
      apply Ex.cons
      apply Ex1.ite (b := Txt.startswith b sl || !((a.length : Int) != 0))
      · refine Tt.orB (Tt.plain (Ev.methS (Ev.name rfl) (.cons (Ev.name rfl) .nil) Vs.startswith (fun A s E t pl Q h => GM.startswith h)) B1.bool) (fun _ => Tt.orB (Tt.not (Tt.plain (Ev.name rfl) (B1.str (x := a) (by omega)))) (fun _ => Tt.or0) rfl) (by simp)
      · intro h
        apply Ex.cons
        apply Ex1.asg (d := .str b) (Ev.name rfl)
        apply Ex.nil
        apply Ex.nil
        refine ⟨.cons ?_ (.cons rfl (.cons rfl (.cons rfl .nil))), rfl⟩
        have : joinF a b = b := by
          unfold joinF
          rw [if_pos]
          simp only [Bool.or_eq_true, Bool.not_eq_true', bne_eq_false_iff_eq, beq_iff_eq] at h ⊢
          rcases h with h | h
          · exact .inl h
          · exact .inr (by omega)
        show some (Dt.str b) = some (Dt.str (joinF a b))
        rw [this]
      · intro h
        have h0 : ¬ ((Txt.startswith b sl || (a.length == 0)) = true) := by
          simp only [Bool.or_eq_false_iff, Bool.not_eq_false', bne_iff_ne, ne_eq] at h
          simp only [Bool.or_eq_true, beq_iff_eq, not_or]
          exact ⟨by rw [h.1]; simp, by omega⟩
        apply Ex.cons
        apply Ex1.ite (b := Txt.endswith a sl)
        · exact Tt.plain (Ev.methS (Ev.name rfl) (.cons (Ev.name rfl) .nil) Vs.endswith (fun A s E t pl Q h => GM.endswith h)) B1.bool
        · intro h1
          apply Ex.cons
          apply Ex1.aug (d1 := .str a) (d2 := .str b) rfl (Ev.name rfl) (V2.iadd_str (by omega))
          apply Ex.nil
          apply Ex.nil
          apply Ex.nil
          refine ⟨.cons ?_ (.cons rfl (.cons rfl (.cons rfl .nil))), rfl⟩
          show some (Dt.str (a ++ b)) = some (Dt.str (joinF a b))
          unfold joinF
          rw [if_neg h0, if_pos h1]
        · intro h1
          apply Ex.cons
          apply Ex1.aug (d1 := .str a) (d2 := .str (sl ++ b)) rfl (Ev.binop (Ev.name rfl) (Ev.name rfl) (V2.add_str (by have : sl.length = 1 := rfl; omega))) (V2.iadd_str (by rw [len_app]; have : sl.length = 1 := rfl; omega))
          apply Ex.nil
          apply Ex.nil
          apply Ex.nil
          refine ⟨.cons ?_ (.cons rfl (.cons rfl (.cons rfl .nil))), rfl⟩
          show some (Dt.str (a ++ (sl ++ b))) = some (Dt.str (joinF a b))
          unfold joinF
          rw [if_neg h0, if_neg (by rw [h1]; simp)]
    · apply Ex.nil
      apply Ex.nil
      apply Ex.nil
      apply Ex.cons
      apply Ex1.ret (Ev.name rfl)
      rfl
end Mine

namespace Mine
open PySem PySem.W PyProof.Rows PySem.Calls
variable {C : Cx}

abbrev dt1 : PySem.Str := "."
abbrev dt2 : PySem.Str := ".."
def dirHead (p : PySem.Str) : PySem.Str := Txt.slice p none (some (Txt.rfind p sl + 1))
def dirF (p : PySem.Str) : PySem.Str := if (((dirHead p).length : Int) != 0) && (dirHead p != Txt.mul sl (dirHead p).length) then Txt.rstripChars (dirHead p) sl else dirHead p
def rootF (p : PySem.Str) : PySem.Str × PySem.Str := 
  if Txt.slice p none (some 1) != sl then ("", p) else if Txt.slice p (some 1) (some 2) != sl || Txt.slice p (some 2) (some 3) == sl then (sl, Txt.slice p (some 1) none) else (Txt.slice p none (some 2), Txt.slice p (some 2) none)

theorem V2.mul_str {n : Nat} {x : PySem.Str} {i : Int} (h : MulOk x i) : V2 C n (binaryOp .Mult) (.str x) (.int i) (.str (Txt.mul x i)) := fun A M s E v u hA hw hv hu Q hQ => by
  obtain ⟨t, rfl⟩ := hv; obtain ⟨t', rfl⟩ := hu
  exact SB.mul h fun t' tk => hQ _ _ (kp_tok s tk) ⟨t', rfl⟩

theorem one_arg {dd : DefRec} {nm : PySem.Str} (h : dd.scope.names.lookup nm = some .local) : ∀ L : Nat, ∀ x ∈ [nm], dd.scope.names.lookup x = some .local ∨ (dd.scope.names.lookup x = some .cell ∧ ((cellsFrom L dd.scope.names []).lookup x).isSome = true) := fun L x hx => by
  simp only [List.mem_singleton] at hx
  subst hx
  exact .inl h
theorem two_args {dd : DefRec} {n1 n2 : PySem.Str} (h : dd.scope.names.lookup n1 = some .local) (h2 : dd.scope.names.lookup n2 = some .local) : ∀ L : Nat, ∀ x ∈ [n1, n2], dd.scope.names.lookup x = some .local ∨ (dd.scope.names.lookup x = some .cell ∧ ((cellsFrom L dd.scope.names []).lookup x).isSome = true) := fun L x hx => by
  simp only [List.mem_cons, List.not_mem_nil, or_false] at hx
  rcases hx with rfl | rfl
  · exact .inl h
  · exact .inl h2

theorem con_dirname (P : Prg C) {n : Nat} (p : PySem.Str) (hp : p.length ≤ 2 ^ 10) : Con C (n + 2) "dirname" [.str p] (.str (dirF p)) := by
  have e24 : sizeLine = 2 ^ 24 := rfl
  have hh : (dirHead p).length ≤ p.length := Txt.slice_le _ _ _
  refine Con.of (dd := rAt 20) (names := ["p"]) (P.mem 20 (by decide)) rfl (fun pm code doc vs h => ?_) (one_arg rfl) fun L a cd => ?_
  · obtain ⟨v, rfl⟩ := len1 h
    rfl
  · apply Ex.cons
    apply Ex1.asg (d := .str p) (Ev.callF (con_fspath P p) (.cons (Ev.name rfl) .nil))
    apply Ex.cons
    apply Ex1.asg (d := .str sl) (Ev.callF (con_sep P p) (.cons (Ev.name rfl) .nil))
    apply Ex.cons
    apply Ex1.asg (d := .int (Txt.rfind p sl + 1)) (Ev.binop (Ev.methS (Ev.name rfl) (.cons (Ev.name rfl) .nil) Vs.rfind (fun A s E t pl Q h => GM.rfind h)) Ev.int V2.add_int)
    apply Ex.cons
    apply Ex1.asg (d := .str (dirHead p)) (Ev.sliceS (Ev.name rfl) .none (.some (Ev.name rfl)) (by omega))
    apply Ex.cons
    apply Ex1.ite (b := (((dirHead p).length : Int) != 0) && (dirHead p != Txt.mul sl (dirHead p).length))
    · refine Tt.andB (Tt.plain (Ev.name rfl) (B1.str (x := dirHead p) (by omega))) (fun _ => Tt.andB (Tt.cmp' (Ev.name rfl) (Ev.binop (Ev.name rfl) (Ev.callBi P.b_len (Vs.len_str (x := dirHead p) (by omega)) (.cons (Ev.name rfl) .nil)) (V2.mul_str (mulOk_of 1 1024 (by decide) (by omega) (by omega) (by decide) (by decide)))) V2.ne_str) (fun _ => Tt.and0) rfl) (by simp)
    · intro h
      apply Ex.cons
      apply Ex1.asg (d := .str (Txt.rstripChars (dirHead p) sl)) (Ev.methS (Ev.name rfl) (.cons (Ev.name rfl) .nil) (Vs.rstrip (x := dirHead p) (by omega)) (fun A s E t pl Q h => GM.rstrip h))
      apply Ex.nil
      apply Ex.cons
      apply Ex1.ret (Ev.name rfl)
      show Fl.ret (Dt.str _) = Fl.ret (Dt.str _)
      unfold dirF
      rw [if_pos h]
    · intro h
      apply Ex.nil
      apply Ex.cons
      apply Ex1.ret (Ev.name rfl)
      show Fl.ret (Dt.str _) = Fl.ret (Dt.str _)
      unfold dirF
      rw [if_neg (by rw [h]; simp)]

theorem con_root (P : Prg C) {n : Nat} (p : PySem.Str) (hp : p.length ≤ 2 ^ 10) : Con C (n + 2) "splitroot" [.str p] (.tup [.str "", .str (rootF p).1, .str (rootF p).2]) := by
  refine Con.of (dd := rAt 19) (names := ["p"]) (P.mem 19 (by decide)) rfl (fun pm code doc vs h => ?_) (one_arg rfl) fun L a cd => ?_
  · obtain ⟨v, rfl⟩ := len1 h
    rfl
  · apply Ex.cons
    apply Ex1.asg (d := .str p) (Ev.callF (con_fspath P p) (.cons (Ev.name rfl) .nil))
    apply Ex.cons
    apply Ex1.ite (b := false)
    · exact not_bytes P (Ev.name rfl)
    · intro h; cases h
    · intro _
      apply Ex.cons
      apply Ex1.asg Ev.str
      apply Ex.cons
      apply Ex1.asg Ev.str
      apply Ex.nil
      apply Ex.cons
      apply Ex1.ite (b := Txt.slice p none (some 1) != sl)
      · exact Tt.cmp' (Ev.sliceS (x := p) (Ev.name rfl) .none (.some Ev.int) (by omega)) (Ev.name rfl) V2.ne_str
      · intro h
        apply Ex.cons
        refine Ex1.ret (Ev.tupD (.cons (Ev.name rfl) (.cons (Ev.name rfl) (.cons (Ev.name rfl) .nil))) rfl (Nat.le_of_ble_eq_true rfl)) ?_
        unfold rootF
        rw [if_pos h]
      · intro h
        apply Ex.cons
        apply Ex1.ite (b := Txt.slice p (some 1) (some 2) != sl || Txt.slice p (some 2) (some 3) == sl)
        · exact Tt.orB (Tt.cmp' (Ev.sliceS (x := p) (Ev.name rfl) (.some Ev.int) (.some Ev.int) (by omega)) (Ev.name rfl) V2.ne_str) (fun _ => Tt.orB (Tt.cmp' (Ev.sliceS (x := p) (Ev.name rfl) (.some Ev.int) (.some Ev.int) (by omega)) (Ev.name rfl) V2.eq_str) (fun _ => Tt.or0) rfl) (by simp)
        · intro h1
          apply Ex.cons
          refine Ex1.ret (Ev.tupD (.cons (Ev.name rfl) (.cons (Ev.name rfl) (.cons (Ev.sliceS (x := p) (Ev.name rfl) (.some Ev.int) .none (by omega)) .nil))) rfl (Nat.le_of_ble_eq_true rfl)) ?_
          unfold rootF
          rw [if_neg (by rw [h]; simp), if_pos h1]
        · intro h1
          apply Ex.cons
          refine Ex1.ret (Ev.tupD (.cons (Ev.name rfl) (.cons (Ev.sliceS (x := p) (Ev.name rfl) .none (.some Ev.int) (by omega)) (.cons (Ev.sliceS (x := p) (Ev.name rfl) (.some Ev.int) .none (by omega)) .nil))) rfl (Nat.le_of_ble_eq_true rfl)) ?_
          unfold rootF
          rw [if_neg (by rw [h]; simp), if_neg (by rw [h1]; simp)]
end Mine

namespace Mine
open PySem PySem.W PyProof.Rows PySem.Calls
variable {C : Cx}

section
variable {n : Nat} {env : Env} {σ : Sto} {pos apos p : Pos} {x : PySem.Str} {ds : List Dt} {d : Dt} {slice : PySem.Expr}
/-- the own list, read -/
theorem Tt.own {b : Bool} (hbb : b = !ds.isEmpty) (hb : ds.length ≤ 2 ^ 60) (hk : env.scope.kind = .function := by rfl) (hd : (x == ("__debug__" : PySem.Str)) = false := by decide +kernel) (hcd : (x == ("__classdict__" : PySem.Str)) = false := by decide +kernel) :
    Tt C n env σ (some (x, ds)) (.Name x p) b := fun A M s E hA hrd Q hQ => by
  subst hbb
  obtain ⟨m, cm, h1, h2, _, h4⟩ := hrd.names
  obtain ⟨a, vs, e1, e2, e3⟩ := h4 x ds rfl
  refine isTrue_plain (wpAny_Name (load_name hk hcd h1 h2 e1 ?_) hd) rfl
  have e := e3.length
  refine wpAny_truthy_list e2 (by simp; omega) ?_
  have q : vs.toArray.isEmpty = ds.isEmpty := by cases ds <;> cases vs <;> simp_all
  rw [q]; exact hQ _ (kp_tok s _)
theorem Ev.ownNeg {i : Int} (hi : Ev C n env σ (some (x, ds)) slice (.int i)) (h0 : i < 0) (h1 : -(ds.length : Int) ≤ i) (hdd : ds[(i + ds.length).toNat]? = some d) (hb : ds.length ≤ 2 ^ 60) (hk : env.scope.kind = .function := by rfl) (hd : (x == ("__debug__" : PySem.Str)) = false := by decide +kernel) (hcd : (x == ("__classdict__" : PySem.Str)) = false := by decide +kernel) :
    Ev C n env σ (some (x, ds)) (.Subscript (.Name x p) slice pos) d := fun A M s E hA hrd Q hQ => by
  obtain ⟨m, cm, g1, g2, _, g4⟩ := hrd.names
  obtain ⟨a, vs, e1, e2, e3⟩ := g4 x ds rfl
  refine Subscript_ (wpAny_Name (load_name hk hcd g1 g2 e1 ?_) hd)
  refine hi A M s E hA hrd _ fun u s2 k2 gu => ?_
  obtain ⟨t, rfl⟩ := gu
  have e2' : s2.heap.IsList a vs.toArray := IsList.off e2 fun o => kp_heap k2 a o
  obtain ⟨v, hv, g⟩ := (e3.up (kp_heap k2)).get hdd
  have hlen := e3.length
  obtain ⟨ops, hs⟩ := subs_ops slice (.ref a) (.int i t)
  exact tail_any e2'.typeIs slot_list_getitem.lookup (wpAny_getItem_list_neg e2' h0 (by simpa [hlen] using h1) (by omega) (by simpa [hlen] using hv) (hQ _ _ k2 g)) hs
end

def normStep (ini : PySem.Str) (acc : List PySem.Str) (c : PySem.Str) : List PySem.Str :=
  if c.length = 0 ∨ c = dt1 then acc else if c ≠ dt2 ∨ (ini.length = 0 ∧ acc = []) ∨ acc.getLast? = some dt2 then acc ++ [c] else acc.dropLast
def normL (p : PySem.Str) : List PySem.Str := (Txt.split (rootF p).2 sl).foldl (normStep (rootF p).1) []
def normF (p : PySem.Str) : PySem.Str := if p.length = 0 then dt1 else
  let r := (rootF p).1 ++ Txt.join sl (normL p)
  if r.length = 0 then dt1 else r

theorem normStep_len (ini : PySem.Str) (acc : List PySem.Str) (c : PySem.Str) : (normStep ini acc c).length ≤ acc.length + 1 := by
  unfold normStep
  split
  · omega
  · split <;> simp <;> omega
theorem normStep_mem {ini : PySem.Str} {acc : List PySem.Str} {c y : PySem.Str} (h : y ∈ normStep ini acc c) : y ∈ acc ∨ y = c := by
  unfold normStep at h
  split at h
  · exact .inl h
  · split at h
    · rcases List.mem_append.mp h with h | h
      · exact .inl h
      · exact .inr (List.mem_singleton.mp h)
    · exact .inl (List.dropLast_subset _ h)
theorem norm_len (ini : PySem.Str) : ∀ (cs acc : List PySem.Str), (cs.foldl (normStep ini) acc).length ≤ acc.length + cs.length
  | [], acc => by simp
  | c :: cs, acc => by
    have := norm_len ini cs (normStep ini acc c)
    have := normStep_len ini acc c
    simp only [List.foldl_cons, List.length_cons]
    omega
theorem norm_sum (ini : PySem.Str) : ∀ (cs acc : List PySem.Str), ((cs.foldl (normStep ini) acc).map (·.length)).sum ≤ (acc.map (·.length)).sum + (cs.map (·.length)).sum
  | [], acc => by simp
  | c :: cs, acc => by
    have h1 := norm_sum ini cs (normStep ini acc c)
    have h2 : ((normStep ini acc c).map (·.length)).sum ≤ (acc.map (·.length)).sum + c.length := by
      unfold normStep
      split
      · omega
      · split
        · simp
        · have : (acc.dropLast.map (·.length)).sum ≤ (acc.map (·.length)).sum := by
            rcases List.eq_nil_or_concat acc with h | ⟨r, z, h⟩
            · subst h; simp
            · subst h; simp
          omega
    simp only [List.foldl_cons, List.map_cons, List.sum_cons]
    omega
theorem take_fold {α β : Type} (f : β → α → β) (z : β) (l : List α) (i : Nat) (a : α) (h : l[i]? = some a) : (l.take (i + 1)).foldl f z = f ((l.take i).foldl f z) a := by
  rw [List.take_add_one, h, List.foldl_append]; rfl

theorem len_glued (sep : PySem.Str) (l : List PySem.Str) : (Txt.join sep l).length ≤ (l.map (·.length)).sum + l.length * sep.length := by
  show (Builtin.Str.glued sep l).length ≤ _
  rw [size_glued]
  exact Nat.add_le_add_left (Nat.mul_le_mul_right _ (Nat.sub_le _ _)) _
theorem le_sum_mem : ∀ {l : List Nat} {a : Nat}, a ∈ l → a ≤ l.sum
  | b :: l, a, h => by
    rcases List.mem_cons.mp h with rfl | h
    · simp
    · have := le_sum_mem h; simp only [List.sum_cons]; omega

theorem con_norm (P : Prg C) {n : Nat} (p : PySem.Str) (hp : p.length ≤ 2 ^ 9) : Con C (n + 3) "normpath" [.str p] (.str (normF p)) := by
  have e24 : sizeLine = 2 ^ 24 := rfl
  have hr2 : (rootF p).2.length ≤ p.length := by
    unfold rootF
    split
    · exact Nat.le_refl _
    · split <;> exact Txt.slice_le _ _ _
  have hr1 : (rootF p).1.length ≤ 2 ^ 9 := by
    unfold rootF
    split
    · exact Nat.zero_le _
    · split
      · show 1 ≤ 2 ^ 9; decide
      · exact Nat.le_trans (Txt.slice_le _ _ _) hp
  have hsl : (Txt.split (rootF p).2 sl).length ≤ 2 ^ 10 := Nat.le_trans (split_le _ _) (by omega)
  have hsw := split_weight (rootF p).2 sl (Nat.le_refl 1)
  have hjw : ((normL p).map (·.length)).sum + (normL p).length * sl.length ≤ 2 ^ 12 := by
    have h1 := norm_sum (rootF p).1 (Txt.split (rootF p).2 sl) []
    have h2 := norm_len (rootF p).1 (Txt.split (rootF p).2 sl) []
    have h3 : sl.length = 1 := rfl
    unfold normL
    rw [h3]
    simp only [List.map_nil, List.sum_nil, List.length_nil] at h1 h2
    omega
  have hjl : (Txt.join sl (normL p)).length ≤ 2 ^ 13 := by
    have h1 := len_glued sl (normL p)
    omega
  refine Con.of (dd := rAt 21) (names := ["path"]) (P.mem 21 (by decide)) rfl (fun pm code doc vs h => ?_) (one_arg rfl) fun L a cd => ?_
  · obtain ⟨v, rfl⟩ := len1 h
    rfl
  · apply Ex.cons
    apply Ex1.asg (d := .str p) (Ev.callF (con_fspath P p) (.cons (Ev.name rfl) .nil))
    apply Ex.cons
    apply Ex1.ite (b := false)
    · exact not_bytes P (Ev.name rfl)
    · intro h; cases h
    · intro _
      apply Ex.cons
      apply Ex1.asg Ev.str
      apply Ex.cons
      apply Ex1.asg Ev.str
      apply Ex.cons
      apply Ex1.asg Ev.str
      apply Ex.nil
      apply Ex.cons
      apply Ex1.ite (b := !((p.length : Int) != 0)) (Tt.not (Tt.plain (Ev.name rfl) (B1.str (x := p) (by omega))))
      · intro h
        apply Ex.cons
        apply Ex1.ret (Ev.name rfl)
        show Fl.ret (Dt.str _) = Fl.ret (Dt.str _)
        unfold normF
        rw [if_pos (by simpa using h)]
      · intro h
        have hp0 : ¬ p.length = 0 := by simpa using h
        apply Ex.nil
        apply Ex.cons
        apply Ex1.asgT (Ev.callF (con_root P p (by omega)) (.cons (Ev.name rfl) .nil)) (Tg.tup3 Tg.name Tg.name Tg.name)
        apply Ex.cons
        apply Ex1.asg (d := .list ((Txt.split (rootF p).2 sl).map Dt.str)) (Ev.methS (Ev.name rfl) (.cons (Ev.name rfl) .nil) (Vs.split (by omega) rfl) (fun A s E t pl Q h => GM.split h))
        apply Ex.cons
        refine Ex1.own ?_
        apply Ex.cons
        apply Ex1.for (di := .list ((Txt.split (rootF p).2 sl).map Dt.str)) (ds := (Txt.split (rootF p).2 sl).map Dt.str) (Ev.name rfl) Itb.list
          (S := fun i => [("initial_slashes", .str (rootF p).1), ("sep", .str sl), ("dot", .str dt1), ("dotdot", .str dt2)]) (W := fun i => some ("new_comps", (((Txt.split (rootF p).2 sl).take i).foldl (normStep (rootF p).1) []).map Dt.str))
          (ext := fun i => match (Txt.split (rootF p).2 sl)[i]? with | some c => [("comp", .str c)] | none => [])
        · exact .cons rfl (.cons rfl (.cons rfl (.cons rfl .nil)))
        · rfl
        · intro i d hd
          rw [List.getElem?_map] at hd
          cases hc : (Txt.split (rootF p).2 sl)[i]? with
          | none => rw [hc] at hd; cases hd
          | some c =>
            rw [hc] at hd; cases hd
            exact Tg.name
        · intro i d hd
          rw [List.getElem?_map] at hd
          cases hc : (Txt.split (rootF p).2 sl)[i]? with
          | none => rw [hc] at hd; cases hd
          | some c =>
            rw [hc] at hd; cases hd
            have hcl : c.length ≤ 2 ^ 10 := by
              have hm : c.length ∈ (Txt.split (rootF p).2 sl).map (·.length) := List.mem_map_of_mem (List.mem_of_getElem? hc)
              have := le_sum_mem hm
              omega
            rw [take_fold _ _ _ _ _ hc]
            generalize hacc : ((Txt.split (rootF p).2 sl).take i).foldl (normStep (rootF p).1) [] = acc
            have hal : acc.length ≤ 2 ^ 10 := by
              rw [← hacc]
              have := norm_len (rootF p).1 ((Txt.split (rootF p).2 sl).take i) []
              simp only [List.length_nil, List.length_take] at this
              omega
            apply Ex.cons
            apply Ex1.ite (b := decide (c.length = 0 ∨ c = dt1))
            · refine Tt.orB (Tt.not (Tt.plain (Ev.name rfl) (B1.str (x := c) (by omega)))) (fun _ => Tt.orB (Tt.cmp' (Ev.name rfl) (Ev.name rfl) V2.eq_str) (fun _ => Tt.or0) rfl) ?_
              by_cases h1 : c.length = 0 <;> by_cases h2 : c = dt1 <;> simp [h1, h2]
            · intro h1
              apply Ex.cons
              apply Ex1.continue
              refine ⟨.cons rfl (.cons rfl (.cons rfl (.cons rfl .nil))), ?_⟩
              rw [normStep, if_pos (of_decide_eq_true h1)]
            · intro h1
              have h1 := of_decide_eq_false h1
              apply Ex.nil
              apply Ex.cons
              apply Ex1.ite (b := decide (c ≠ dt2 ∨ ((rootF p).1.length = 0 ∧ acc = []) ∨ acc.getLast? = some dt2))
              · refine Tt.orB (Tt.cmp' (Ev.name rfl) (Ev.name rfl) V2.ne_str) (fun _ => Tt.orB (b1 := decide ((rootF p).1.length = 0 ∧ acc = [])) (Tt.andB (Tt.not (Tt.plain (Ev.name rfl) (B1.str (x := (rootF p).1) (by omega)))) (fun _ => Tt.andB (Tt.not (Tt.own (b := !acc.isEmpty) (by simp) (by simp; omega))) (fun _ => Tt.and0) rfl) ?_) (fun _ => Tt.orB (b1 := decide (acc.getLast? = some dt2)) (Tt.andB (b2 := decide (acc.getLast? = some dt2)) (Tt.own (b := !acc.isEmpty) (by simp) (by simp; omega)) (fun h2 => Tt.andB (Tt.cmp' (Ev.ownNeg (d := .str (acc.getLast?.getD "")) Ev.neg_int (by decide) ?_ ?_ (by simp; omega)) (Ev.name rfl) V2.eq_str) (fun _ => Tt.and0) ?_) ?_) (fun _ => Tt.or0) rfl) rfl) ?_
                · cases acc <;> by_cases h1 : (rootF p).1.length = 0 <;> simp [h1]
                · have : acc ≠ [] := by rintro rfl; cases h2
                  have := List.length_pos_iff.mpr this
                  simp only [List.length_map]; omega
                · have : acc ≠ [] := by rintro rfl; cases h2
                  have h3 := List.length_pos_iff.mpr this
                  rw [List.getElem?_map]
                  have : ((-1 : Int) + (acc.map Dt.str).length).toNat = acc.length - 1 := by simp only [List.length_map]; omega
                  rw [this, List.getLast?_eq_getElem?]
                  rw [List.getElem?_eq_getElem (by omega)]; rfl
                · cases h3 : acc.getLast? with
                  | none => exfalso; rw [List.getLast?_eq_none_iff] at h3; subst h3; cases h2
                  | some z => by_cases h4 : z = dt2 <;> simp [h4]
                · cases acc <;> simp
                · by_cases h4 : c = dt2 <;> simp [h4]
              · intro h2
                apply Ex.cons
                apply Ex1.append (d := .str c) (Ev.name rfl) (hl := by simp; omega)
                apply Ex.nil
                apply Ex.nil
                refine ⟨.cons rfl (.cons rfl (.cons rfl (.cons rfl .nil))), ?_⟩
                rw [normStep, if_neg h1, if_pos (of_decide_eq_true h2), List.map_append]; rfl
              · intro h2
                apply Ex.cons
                apply Ex1.ite (b := !acc.isEmpty) (Tt.own (by simp) (by simp; omega))
                · intro h3
                  have hne : acc ≠ [] := by rintro rfl; cases h3
                  have ea : acc = acc.dropLast ++ [acc.getLast hne] := (List.dropLast_concat_getLast hne).symm
                  have en : acc.map Dt.str = acc.dropLast.map Dt.str ++ [Dt.str (acc.getLast hne)] := (congrArg (List.map Dt.str) ea).trans (by rw [List.map_append]; rfl)
                  rw [en]
                  apply Ex.cons
                  refine Ex1.pop (fun h M v g a => by obtain ⟨t, rfl⟩ := g; intro q; cases q) ?_ (by simp; omega)
                  apply Ex.nil
                  apply Ex.nil
                  apply Ex.nil
                  refine ⟨.cons rfl (.cons rfl (.cons rfl (.cons rfl .nil))), ?_⟩
                  rw [normStep, if_neg h1, if_neg (of_decide_eq_false h2)]
                · intro h3
                  have : acc = [] := by cases acc; rfl; cases h3
                  subst this
                  apply Ex.nil
                  apply Ex.nil
                  apply Ex.nil
                  refine ⟨.cons rfl (.cons rfl (.cons rfl (.cons rfl .nil))), ?_⟩
                  rw [normStep, if_neg h1, if_neg (of_decide_eq_false h2)]; rfl
        · apply Ex.nil
          rw [List.length_map, List.take_length]
          apply Fx.freeze
          apply Ex.cons
          apply Ex1.asg (d := .list ((normL p).map Dt.str)) (Ev.name rfl)
          apply Ex.cons
          apply Ex1.asg (d := .str ((rootF p).1 ++ Txt.join sl (normL p))) (Ev.binop (Ev.name rfl) (Ev.methS (Ev.name rfl) (.cons (Ev.name rfl) .nil) (Vs.join (ys := normL p) (by omega)) (fun A s E t pl Q h => GM.join h)) (V2.add_str (by omega)))
          apply Ex.cons
          apply Ex1.ret (d := .str (normF p))
          · refine Ev.orB (Ev.name rfl) (B1.str (x := (rootF p).1 ++ Txt.join sl (normL p)) (by rw [len_app]; omega)) (fun _ => Ev.and1 (Ev.name rfl)) ?_
            unfold normF
            rw [if_neg hp0]
            dsimp only
            by_cases h3 : ((rootF p).1 ++ Txt.join sl (normL p)).length = 0
            · simp [h3]
            · rw [if_neg h3, if_pos (by simpa using h3)]
          · rfl
end Mine

namespace Mine
open PySem PySem.W PyProof.Rows PySem.Calls
variable {C : Cx}
section
variable {s₀ s s' s'' : Shared} {env : Env} {M₀ M : Mu} {oa oa' : Option Addr} {σ σ' : Sto} {ow ow' : Own} {n : Nat} {Φ Ψ : Post} {x y z : PySem.Str} {d d1 d2 d3 di : Dt} {ds : List Dt} {pos apos p px py pz : Pos} {t e value test iter : PySem.Expr} {ss body orelse : List Stmt} {b : Bool} {A : Around} {E : Value → Shared → Prop} {I : List Addr} {k : Nat}

/-- an expression that gives an iterator, made ready -/
def Gi (C : Cx) (n : Nat) (env : Env) (σ : Sto) (ow : Own) (t iter : PySem.Expr) (ds : List Dt) : Prop :=
  ∀ (A : Around) (M : Mu) (s : Shared) (E : Value → Shared → Prop), Room n A → Rd C env M σ ow s → ∀ Q : Value → Shared → Prop,
    (∀ I wr fp Stt s1 s2, Keeps s s1 → Keeps s1 s2 → Iter C t I wr fp s1.heap M ds Stt → Stt 0 s2.heap → Q (.ref I) s2) →
    wpAny (model C.prog C.w) A (eval iter env) (fun v s1 => wpAny (model C.prog C.w) A (pyIter v) Q E s1) E s

theorem Ex1.forG (hG : Gi C n env σ ow t iter ds) (S : Nat → Sto) (W : Nat → Own) (ext : Nat → Sto) (hS : Sub σ (S 0)) (hW : W 0 = ow)
    (tg : ∀ i d, ds[i]? = some d → Tg C env t d (ext i) (W i))
    (turn : ∀ i d, ds[i]? = some d → Ex C n env (ext i ++ S i) (W i) body (LoopPost Φ (S (i + 1)) (W (i + 1))))
    (done : Ex C n env (S ds.length) (W ds.length) orelse Φ)
    (hs : ∀ x, foldedSetIterable iter env x = pure x := by intro _; rfl) : Ex1 C n env σ ow (.For t iter body orelse pos) Φ := fun A s₀ M₀ s oa E Q hA St0 hQ => by
  subst hW
  refine wpAny_For (hG A _ s E hA St0.rd _ fun It wr fp Stt s1 s2 k1 k2 IT st0 => ?_) hs
  have S1 := St0.keeps k1
  obtain ⟨S2, hO, hoa0⟩ := S1.add k2 IT.new (IT.live 0 _ st0)
  have hMw : ∀ b ∈ wr, ¬ M₀ b := fun b hb q => by
    obtain ⟨o, ho⟩ := S1.wd.own b (.inl q)
    rw [IT.new b hb] at ho; cases ho
  have f12 : Fk env oa oa s1 s2 := Fk.keeps k2
  refine codeAny_forLoop_any (fun kk s' => ∃ i oa', kk = ds.length + 1 - i ∧ i ≤ ds.length ∧ St C s₀ env (addM M₀ wr) oa' (S i) (W i) s' ∧ Stt i s'.heap ∧ Fk env oa oa' s1 s') ?_ (ds.length + 1)
    ⟨0, oa, by omega, Nat.zero_le _, S2.sub hS, st0, f12⟩
  rintro kk s' ⟨i, oa', rfl, hi, S', st', f'⟩
  have hoa' : ∀ a, oa' = some a → a ∉ wr := fun a e q => (S'.oaf a e).2.2.2 (.inr q)
  have hfp : ∀ b ∈ fp, b ≠ env.locals ∧ (∀ z, (z, b) ∉ env.cells) ∧ oa' ≠ some b := fun b hb => by
    rcases IT.fpok b hb with q | ⟨q, o, ho⟩
    · exact ⟨fun e => hO.loc (e ▸ q), fun z h => hO.cell z b h q, fun e => hoa' b e q⟩
    · refine ⟨fun e => q (.inr (.inl e)), fun z h => q (.inr (.inr (.inl ⟨z, h⟩))), fun e => ?_⟩
      rcases f'.new b e with h | h
      · exact q (.inr (.inr (.inr h)))
      · rw [ho] at h; cases h
  by_cases hlt : i < ds.length
  · refine wpAny_mono (IT.item A i s' (mu (addM M₀ wr) env oa') (fun v s3 => wpAny (model C.prog C.w) A (assign t env v) (fun _ s₂ => wpAny (model C.prog C.w) A (execs body env) (fun f s₃ => match f with
            | .next | .cont => ∃ m, m < ds.length + 1 - i ∧ (∃ i_1 oa', m = ds.length + 1 - i_1 ∧ i_1 ≤ ds.length ∧ St C s₀ env (addM M₀ wr) oa' (S i_1) (W i_1) s₃ ∧ Stt i_1 s₃.heap ∧ Fk env oa oa' s1 s₃)
            | .brk => Q .next s₃
            | .ret v => Q (.ret v) s₃) (notedBy (model C.prog C.w) A env fun e s' => cameBackBy (model C.prog C.w) A env E e s') s₂) (notedBy (model C.prog C.w) A env fun e s' => cameBackBy (model C.prog C.w) A env E e s') s3) _ hA.none hlt st' (fun b hb => S'.wd.own b hb) (fun b o e hb => ?_) (fun b o h1 h2 e => ?_) fun v d h3 tk3 hd g3 st3 k3 => ?_) (fun r s3 h => ?_) fun _ _ x => x
    · rcases hb with (q | q) | q | q | q
      · exact .inl q
      · rw [IT.new b q] at e; cases e
      · exact .inr (.inl q)
      · exact .inr (.inr (.inl q))
      · rcases f'.new b q with h | h
        · exact .inr (.inr (.inr h))
        · rw [h] at e; cases e
    · exact f'.keep b o e (fun q => h1 (.inr (.inl q))) (fun z q => h1 (.inr (.inr (.inl ⟨z, q⟩)))) fun q => h1 (.inr (.inr (.inr q)))
    · -- the item is assigned, the body runs
      have S3 := S'.turn hO hoa' (tk := tk3) k3 (IT.live _ _ st3)
      have f3 : Fk env oa oa' s1 { s' with heap := h3, toks := tk3 } := f'.thru IT.new k3
      refine tg i d hd A s₀ _ _ oa' (S i) _ v _ hA.none S3 g3 fun s4 S4 k4 => ?_
      have f4 : Fk env oa oa' s1 s4 := f3.trans k4 S4.done
      have st4 : Stt (i + 1) s4.heap := IT.frame _ _ _ st3 fun b hb o e => let ⟨q1, q2, q3⟩ := hfp b hb; k4.keep b o e q1 q2 q3
      refine turn i d hd A s₀ _ s4 oa' _ _ hA S4 fun fl f s5 oa5 σ5 ow5 S5 k5 g5 z5 => ?_
      have f5 : Fk env oa oa5 s1 s5 := f4.trans k5 S5.done
      have st5 : Stt (i + 1) s5.heap := IT.frame _ _ _ st4 fun b hb o e => let ⟨q1, q2, q3⟩ := hfp b hb; k5.keep b o e q1 q2 q3
      have hoa5 : ∀ a, oa5 = some a → a ∉ wr := fun a e q => (S5.oaf a e).2.2.2 (.inr q)
      have Sd : St C s₀ env M₀ oa5 σ5 ow5 s5 := S5.drop hO hoa5 hMw (tk := s5.toks) (h' := s5.heap) fun _ _ _ e => e
      cases f <;> cases fl <;> first | exact g5.elim | skip
      · obtain ⟨z1, rfl⟩ := z5
        exact ⟨ds.length + 1 - (i + 1), by omega, i + 1, oa5, rfl, hlt, S5.sub z1, st5, f5⟩
      · exact hQ .next .next s5 oa5 σ5 ow5 Sd ((Fk.keeps k1).trans f5 Sd.done) trivial z5
      · obtain ⟨z1, rfl⟩ := z5
        exact ⟨ds.length + 1 - (i + 1), by omega, i + 1, oa5, rfl, hlt, S5.sub z1, st5, f5⟩
      · exact hQ _ _ s5 oa5 σ5 ow5 Sd ((Fk.keeps k1).trans f5 Sd.done) (FlD.drop g5) z5
    · obtain ⟨v, rfl, h⟩ := h
      exact h
  · have hin : i = ds.length := by omega
    subst hin
    refine wpAny_mono (IT.done A s' (fun s3 => wpAny (model C.prog C.w) A (execs orelse env) (fun f s₃ => Q f s₃) (notedBy (model C.prog C.w) A env fun e s' => cameBackBy (model C.prog C.w) A env E e s') s3) _ hA.none st' fun h3 tk3 k3 => ?_) (fun r s3 h => ?_) fun _ _ x => x
    · have Sd := S'.drop hO hoa' hMw (tk := tk3) k3
      have f3 : Fk env oa oa' s1 { s' with heap := h3, toks := tk3 } := f'.thru IT.new k3
      exact done A s₀ M₀ _ oa' _ _ hA Sd fun fl f s5 oa5 σ5 ow5 S5 k5 g5 z5 => hQ fl f s5 oa5 σ5 ow5 S5 ((Fk.keeps k1).trans (f3.trans k5 S5.done) S5.done) g5 z5
    · obtain ⟨rfl, h⟩ := h
      exact h

end

section
variable {prog : Program} {w : World} {A : Around} {E : Value → Shared → Prop} {s : Shared}
theorem nextOf_tup_item {it l : Addr} {i : Nat} {items} {x : Value} {Q : Value → Shared → Prop} (hit : s.heap.IsTupleIter it l i)
    (hl : s.heap.IsTuple l items) (hx : items[i]? = some x)
    (hQ : ∀ h', h'.IsTupleIter it l (i + 1) → Heap.SameBut it s.heap h' → Q x { s with heap := h' }) :
    wpAny (model prog w) A (Builtin.SmallTypes.nextOf (.ref it)) Q E s := by
  obtain ⟨o, ho, hc, hd⟩ := id hit
  obtain ⟨ol, hol, _, nl, hdl⟩ := hl
  unfold Builtin.SmallTypes.nextOf
  refine wpAny_bind (wpAny_callSpecial?_slot (name := Str.ofString "__next__") hit.typeIs F.slot_tuple_iterator_next
    (wpAny_call_entry F.slot_tuple_iterator_next hit.typeIs F.entry_tuple_iterator_next ?_ (F.args_tuple_iterator_next_1 _)))
  show wpAny _ _ (field (.ref it) 0 >>= _) _ _ s
  refine wpAny_bind (wpAny_field ho hd (x := .ref l) rfl ?_)
  show wpAny _ _ (if (Value.ref l == Value.none) = true then _ else _) _ _ s
  rw [if_neg (show ¬ ((Value.ref l == Value.none) = true) from Bool.false_ne_true)]
  show wpAny _ _ (field (.ref it) 1 >>= _) _ _ s
  refine wpAny_bind (wpAny_field ho hd (x := .int i 0) rfl ?_)
  show wpAny _ _ (seqItems? (.ref l) >>= _) _ _ s
  refine wpAny_bind (wpAny_seqItems hol hdl ?_)
  simp only [Int.toNat_natCast, hx]
  refine wpAny_bind (wpAny_setField ho hd (by simp) (wpAny_pure ⟨x, rfl, wpAny_pure (hQ _ ?_ (Heap.SameBut.update ..))⟩))
  exact ⟨_, Heap.get?_update_self _ ho (Obj.isFreed_of_fields (Obj.data_mapFields hd _)), (Obj.cls_mapFields ..).trans hc, by
    rw [Obj.data_mapFields hd]; simp [rawInt]⟩
theorem nextOf_tup_end {it l : Addr} {i : Nat} {items} {Q : Value → Shared → Prop} (hh : A.handled = none)
    (hit : s.heap.IsTupleIter it l i) (hl : s.heap.IsTuple l items) (hx : items[i]? = none)
    (hE : ∀ h' e, Heap.ExtBut it s.heap h' → (∃ o, h'.get? e = some o ∧ o.cls = .type "StopIteration") → E (.ref e) { s with heap := h' }) :
    wpAny (model prog w) A (Builtin.SmallTypes.nextOf (.ref it)) Q E s := by
  obtain ⟨o, ho, hc, hd⟩ := id hit
  obtain ⟨ol, hol, _, nl, hdl⟩ := hl
  unfold Builtin.SmallTypes.nextOf
  refine wpAny_bind (wpAny_callSpecial?_slot (name := Str.ofString "__next__") hit.typeIs F.slot_tuple_iterator_next
    (wpAny_call_entry F.slot_tuple_iterator_next hit.typeIs F.entry_tuple_iterator_next ?_ (F.args_tuple_iterator_next_1 _)))
  show wpAny _ _ (field (.ref it) 0 >>= _) _ _ s
  refine wpAny_bind (wpAny_field ho hd (x := .ref l) rfl ?_)
  show wpAny _ _ (if (Value.ref l == Value.none) = true then _ else _) _ _ s
  rw [if_neg (show ¬ ((Value.ref l == Value.none) = true) from Bool.false_ne_true)]
  show wpAny _ _ (field (.ref it) 1 >>= _) _ _ s
  refine wpAny_bind (wpAny_field ho hd (x := .int i 0) rfl ?_)
  show wpAny _ _ (seqItems? (.ref l) >>= _) _ _ s
  refine wpAny_bind (wpAny_seqItems hol hdl ?_)
  simp only [Int.toNat_natCast, hx]
  refine wpAny_bind (wpAny_rule (wpAny_bind (wpAny_setField ho hd (by simp) ?_)))
  show wpAny _ _ (newExc (.type "StopIteration") [] >>= _) _ _ _
  refine wpAny_bind ?_
  simp only [newExc, newTuple]
  refine wpAny_bind (wpAny_newObj_type ?_ (by size_fits))
  refine wpAny_bind (m := firstArgMember _ _) (wpAny_of_eq (a := Value.none) (by first | rfl | (simp only [firstArgMember]; rfl)) ?_)
  refine wpAny_newObj_type ?_ (by size_fits)
  simp only [raiseNew]
  refine wpAny_bind (wpAny_handled ?_)
  first | rw [show A.in1.handled = none from hh] | rw [hh]
  refine wpAny_bind (wpAny_pure (wpAny_throw ?_))
  exact hE _ _ (((Heap.SameBut.update ..).extBut.push _).push _) ⟨_, Heap.get?_push_size _ rfl, rfl⟩
end
theorem Draws.tup {prog : Program} {w : World} {A : Around} (hh : A.handled = none) (it l : Addr) (hne : l ≠ it) (items : Array Value) :
    Draws prog w A it [it, l] items.size (fun i v => items[i]? = some v) (fun i h => h.IsTupleIter it l i ∧ h.IsTuple l items) where
  live := fun _ _ st => let ⟨o, ho, _⟩ := st.1; ⟨o, ho⟩
  frame := fun _ _ _ st hk => ⟨by obtain ⟨o, ho, r⟩ := st.1; exact ⟨o, hk it (by simp) o ho, r⟩, by obtain ⟨o, ho, r⟩ := st.2; exact ⟨o, hk l (by simp) o ho, r⟩⟩
  item := fun i s Q E hi st hQ => by
    refine nextOf_tup_item st.1 st.2 (x := items[i]) (by simp [hi]) fun h' hit' hs' => ?_
    exact hQ _ h' s.toks (by simp [hi]) ⟨hit', st.2.extBut hs'.extBut hne⟩ hs'
  done := fun s Q E st hE => nextOf_tup_end hh st.1 st.2 (by simp) hE

open AutoSeq1 (wpAny_loadPart') in
theorem meets_enum_tup (l : Addr) (items : Array Value) (n : Nat) (dct : Option Addr) (sl : Array (Option Value)) :
    Meets (Builtin.«enumerate.__new__» ⟨[.type "enumerate", .ref l], []⟩) (fun _ R s => s.heap.get? l = some { cls := .type "tuple", dict := dct, data := .seq items n, slots := sl } ∧
      R (.ok (.ret (.ref (s.heap.push { cls := .type "tuple_iterator", data := .fields #[.ref l, .int 0 0] }).objs.size)))
        { s with heap := (s.heap.push { cls := .type "tuple_iterator", data := .fields #[.ref l, .int 0 0] }).push { cls := .type "enumerate", data := .fields #[.none, .bool false, .ref s.heap.objs.size, rawInt 0, .none, .none] } }) :=
  .of_wp fun prog w A R s h => by
    obtain ⟨hp, g, d, tk, os⟩ := s; obtain ⟨hl, h⟩ := h
    have hsub := sub_enumerate
    have hL : Heap.IsTuple (Shared.heap ⟨hp, g, d, tk, os⟩) l items := ⟨_, hl, rfl, n, rfl⟩
    wp_walk using wpAny_loadPart' hl
    refine wpAny_stack_any fun st => wpAny_pure ?_
    split
    · rename_i c _ _ _ _ _
      cases (c == Value.type "enumerate")
      · wp_walk using wpAny_loadPart' hl, wpAny_pyIter_tuple hL
        exact ⟨_, rfl, h⟩
      · wp_walk using wpAny_loadPart' hl, wpAny_pyIter_tuple hL
        exact ⟨_, rfl, h⟩
    · wp_walk using wpAny_loadPart' hl, wpAny_pyIter_tuple hL
      exact ⟨_, rfl, h⟩

theorem call_enum_tup {prog : Program} {w : World} {A : Around} {E : Value → Shared → Prop} {s : Shared} {l : Addr} {items : Array Value} {Q : Value → Shared → Prop} (hL : s.heap.IsTuple l items)
    (h : ∀ h', IsEnum h' (s.heap.objs.size + 1) s.heap.objs.size 0 .none → h'.IsTupleIter s.heap.objs.size l 0 → h'.objs.size = s.heap.objs.size + 2 →
      (∀ b o, s.heap.get? b = some o → h'.get? b = some o) → Q (.ref (s.heap.objs.size + 1)) { s with heap := h' }) :
    wpAny (model prog w) A (call (.type "enumerate") [.ref l]) Q E s := by
  obtain ⟨⟨c, dct, dt, sl⟩, hl, hc, n, hd⟩ := hL
  replace hc : c = .type "tuple" := hc
  replace hd : dt = .seq items n := hd
  subst hc hd
  refine callType_new F.called_enumerate (by decide) (F.typeCall_enumerate_1 _) (F.newCall_enumerate_1 _) (fun obj => F.args_object_init_2 obj _) F.entry_enumerate_new
    (meets_enum_tup l items n dct sl) ⟨hl, ?_⟩
  have hz : (s.heap.push { cls := .type "tuple_iterator", data := .fields #[.ref l, .int 0 0] }).objs.size = s.heap.objs.size + 1 := Heap.size_push ..
  show _ ∧ _
  rw [hz]
  have he : IsEnum ((s.heap.push { cls := .type "tuple_iterator", data := .fields #[.ref l, .int 0 0] }).push
      { cls := .type "enumerate", data := .fields #[.none, .bool false, .ref s.heap.objs.size, rawInt 0, .none, .none] }) (s.heap.objs.size + 1) s.heap.objs.size 0 .none := by
    have := Heap.get?_push_size (s.heap.push { cls := .type "tuple_iterator", data := .fields #[.ref l, .int 0 0] })
      (o := { cls := .type "enumerate", data := .fields #[.none, .bool false, .ref s.heap.objs.size, rawInt 0, .none, .none] }) rfl
    rw [hz] at this; exact this
  refine ⟨⟨_, he, rfl⟩, h _ he ⟨_, Heap.get?_push_of_some _ (Heap.get?_push_size _ rfl), rfl, rfl⟩ (by rw [Heap.size_push, hz]) fun b o y => Heap.get?_push_of_some _ (Heap.get?_push_of_some _ y)⟩

/-- an iterator of enumerate -/
theorem Iter.enum {elts : List PySem.Expr} {kk : Nat} {pp : Pos} {e it l : Addr} {h₀ : Heap} {M : Mu} {ds : List Dt} {P : Nat → Value → Prop} {St : Nat → Heap → Prop} (Dw : ∀ A : Around, A.handled = none → Draws C.prog C.w A it [it, l] ds.length P St)
    (hei : e ≠ it) (hel : e ≠ l) (he : h₀.get? e = none) (hit : h₀.get? it = none) (hl : ¬ M l ∧ ∃ o, h₀.get? l = some o) (hP : ∀ i u, i < ds.length → P i u → ∃ d, ds[i]? = some d ∧ D C h₀ M d u) :
    Iter C (.Tuple elts kk pp) e [e, it] [e, it, l] h₀ M (ds.mapIdx fun i d => Dt.tup [.int (i : Int), d]) (fun i h => (∃ old, IsEnum h e it i old) ∧ St i h) where
  frame := fun i h h' hst hk => (WalksT.enumerateD (Dw ({} : Around).in1 rfl) e hei (by simp [hei, hel]) (by simp)).frame i h h' hst hk
  fpok := fun b hb => by
    simp only [List.mem_cons, List.not_mem_nil, or_false] at hb ⊢
    rcases hb with rfl | rfl | rfl
    · exact .inl (.inl rfl)
    · exact .inl (.inr rfl)
    · exact .inr hl
  new := fun b hb => by
    simp only [List.mem_cons, List.not_mem_nil, or_false] at hb
    rcases hb with rfl | rfl
    · exact he
    · exact hit
  live := fun i h hst b hb => by
    simp only [List.mem_cons, List.not_mem_nil, or_false] at hb
    rcases hb with rfl | rfl
    · obtain ⟨⟨old, ho⟩, _⟩ := hst; exact ⟨_, ho⟩
    · exact (Dw {} rfl).live i h hst.2
  self := fun A i s Q E hh hst hQ => (WalksT.enumerateD (Dw A.in1 hh) e hei (by simp [hei, hel]) (by simp)).self i s Q E hst hQ
  item := fun A i s M' Q E hh hi hst h1 h2 h3 hQ => by
    have W := WalksT.enumerateD (Dw A.in1 hh) e hei (by simp [hei, hel]) (by simp)
    rw [List.length_mapIdx] at hi
    refine W.item i s _ E hi hst fun T vals h' tk hPv hT htup hmid hk => ⟨.ref T, rfl, ?_⟩
    obtain ⟨t, u, hPu, rfl⟩ := hPv
    obtain ⟨d, hd, g⟩ := hP i u hi hPu
    refine W.go elts kk pp i T _ _ E hmid fun h2' hst2 hk2 => ?_
    refine hQ (.ref T) (.tup [.int (i : Int), d]) h2' tk (by simp [hd]) ?_ hst2 fun b o hb e => hk2 b o hb (hk b o hb e)
    have hTw : T ∉ [e, it] := W.apart i T _ hmid
    have nM : ¬ M' T := fun q => by
      obtain ⟨o, ho⟩ := h1 T q
      exact absurd (Heap.lt_size ho) (Nat.not_lt.mpr hT)
    obtain ⟨o, ho, hr⟩ := htup
    refine ⟨T, [.int i t, u], rfl, nM, ⟨o, hk2 T o hTw ho, hr⟩, _, _, rfl, ⟨t, rfl⟩, u, [], rfl, ?_, rfl⟩
    refine D.mono (fun b o hb eb => ?_) h2 g
    have hw : b ∉ [e, it] := fun q => by
      simp only [List.mem_cons, List.not_mem_nil, or_false] at q
      rcases q with rfl | rfl
      · rw [he] at eb; cases eb
      · rw [hit] at eb; cases eb
    exact hk2 b o hw (hk b o hw (h3 b o hb (fun q => hb (h2 b o eb q)) eb))
  done := fun A s Q E hh hst hQ => by
    rw [List.length_mapIdx] at hst
    exact (WalksT.enumerateD (Dw A.in1 hh) e hei (by simp [hei, hel]) (by simp)).done s _ E hst fun h' tk hk => ⟨rfl, hQ h' tk hk⟩

section
variable {n : Nat} {env : Env} {σ : Sto} {ow : Own} {pos p kp : Pos} {iter : PySem.Expr} {ds : List Dt} {elts : List PySem.Expr} {kk : Nat} {pp : Pos} {f : PySem.Str}
theorem Gi.of_call {ds' : List Dt} {d : Dt} {t : PySem.Expr} (hb : Bi C f (.type "enumerate")) (he : Ev C n env σ ow iter d)
    (hc : ∀ (A : Around) (M : Mu) (s : Shared) (E : Value → Shared → Prop) (v : Value) (Q : Value → Shared → Prop), A.handled = none → Wd C M s → D C s.heap M d v →
      (∀ I wr fp Stt s', Keeps s s' → Iter C t I wr fp s.heap M ds' Stt → Stt 0 s'.heap → Q (.ref I) s') → wpAny (model C.prog C.w) A (call (.type "enumerate") [v]) (fun u s1 => wpAny (model C.prog C.w) A (pyIter u) Q E s1) E s)
    (hx : env.kindOf f = some .globalImplicit := by rfl) (hg : env.globals = mainGlobals := by rfl) (hgb : env.builtins = builtinsNs := by rfl) (hp : noStar iter = true := by rfl)
    (hk : env.scope.kind = .function := by rfl) (hd : (f == ("__debug__" : PySem.Str)) = false := by decide +kernel) : Gi C n env σ ow t (.Call (.Name f p) [iter] [] pos) ds' := fun A M s E hA hrd Q hQ => by
  refine call_global (fv := .type "enumerate") (M := M) hx (by simp [hp]) (Calls.loadGlobal_builtin (by rw [hg]; exact hrd.toWd.top.g) hb.free (by rw [hgb]; exact hrd.toWd.top.b) hb.val ⟨rfl, rfl⟩) ?_ hk hd
  refine callWith_other (by intro _ q; cases q) (by simp) (args_eval (.cons he .nil) hA hrd _ fun vs s1 k1 g1 => ?_)
  obtain ⟨v, r, rfl, gv, rfl⟩ := g1
  exact hc A M s1 E v Q hA.none (hrd.keeps k1).toWd gv fun I wr fp Stt s' k' IT st => hQ I wr fp Stt s1 s' k1 k' IT st
theorem Gi.enumL (hb : Bi C f (.type "enumerate")) (he : Ev C n env σ ow iter (.list ds)) (hx : env.kindOf f = some .globalImplicit := by rfl) (hg : env.globals = mainGlobals := by rfl) (hgb : env.builtins = builtinsNs := by rfl) (hp : noStar iter = true := by rfl)
    (hk : env.scope.kind = .function := by rfl) (hd : (f == ("__debug__" : PySem.Str)) = false := by decide +kernel) : Gi C n env σ ow (.Tuple elts kk pp) (.Call (.Name f p) [iter] [] pos) (ds.mapIdx fun i d => Dt.tup [.int (i : Int), d]) :=
  Gi.of_call hb he (fun A M s E v Q hh hw g hQ => by
    obtain ⟨a, vs, rfl, hm, hl, hD⟩ := g
    have hlt : a < s.heap.objs.size := by obtain ⟨o, ho, _⟩ := hl; exact Heap.lt_size ho
    have hsz : vs.toArray.size = ds.length := by simp [hD.length]
    refine call_enumerate_list hl fun h' hE hI hs' hk' => ?_
    have IT : Iter C (.Tuple elts kk pp) (s.heap.objs.size + 1) [s.heap.objs.size + 1, s.heap.objs.size] [s.heap.objs.size + 1, s.heap.objs.size, a] s.heap M (ds.mapIdx fun i d => Dt.tup [.int (i : Int), d]) _ :=
      Iter.enum (P := fun i v => vs.toArray[i]? = some v) (fun A' hh => hsz ▸ Draws.list hh s.heap.objs.size a (Nat.ne_of_lt hlt) vs.toArray) (Nat.succ_ne_self _) (Nat.ne_of_gt (Nat.lt_succ_of_lt hlt)) (by
        cases q : s.heap.get? (s.heap.objs.size + 1) with
        | none => rfl
        | some o => exact absurd (Heap.lt_size q) (Nat.not_lt.mpr (Nat.le_succ _))) (none_at s) (by obtain ⟨o, ho, _⟩ := hl; exact ⟨hm, o, ho⟩) (fun i u _ hu => hD.at (by simpa using hu))
    have st : (∃ old, IsEnum h' (s.heap.objs.size + 1) s.heap.objs.size ((0 : Nat) : Int) old) ∧ h'.IsListIter s.heap.objs.size a 0 ∧ h'.IsList a vs.toArray := ⟨⟨_, hE⟩, hI, hl.at fun o e => hk' a o e⟩
    exact IT.self A 0 _ _ _ hh st (hQ _ _ _ _ _ (kp_mk0 hk') IT st)) hx hg hgb hp hk hd
theorem Gi.enumT (hb : Bi C f (.type "enumerate")) (he : Ev C n env σ ow iter (.tup ds)) (hx : env.kindOf f = some .globalImplicit := by rfl) (hg : env.globals = mainGlobals := by rfl) (hgb : env.builtins = builtinsNs := by rfl) (hp : noStar iter = true := by rfl)
    (hk : env.scope.kind = .function := by rfl) (hd : (f == ("__debug__" : PySem.Str)) = false := by decide +kernel) : Gi C n env σ ow (.Tuple elts kk pp) (.Call (.Name f p) [iter] [] pos) (ds.mapIdx fun i d => Dt.tup [.int (i : Int), d]) :=
  Gi.of_call hb he (fun A M s E v Q hh hw g hQ => by
    obtain ⟨a, vs, rfl, hm, hl, hD⟩ := g
    have hlt : a < s.heap.objs.size := by obtain ⟨o, ho, _⟩ := hl; exact Heap.lt_size ho
    have hsz : vs.toArray.size = ds.length := by simp [hD.length]
    have hl2 : s.heap.IsTuple a vs.toArray := hl
    refine call_enum_tup hl2 fun h' hE hI hs' hk' => ?_
    have IT : Iter C (.Tuple elts kk pp) (s.heap.objs.size + 1) [s.heap.objs.size + 1, s.heap.objs.size] [s.heap.objs.size + 1, s.heap.objs.size, a] s.heap M (ds.mapIdx fun i d => Dt.tup [.int (i : Int), d]) _ :=
      Iter.enum (P := fun i v => vs.toArray[i]? = some v) (fun A' hh => hsz ▸ Draws.tup hh s.heap.objs.size a (Nat.ne_of_lt hlt) vs.toArray) (Nat.succ_ne_self _) (Nat.ne_of_gt (Nat.lt_succ_of_lt hlt)) (by
        cases q : s.heap.get? (s.heap.objs.size + 1) with
        | none => rfl
        | some o => exact absurd (Heap.lt_size q) (Nat.not_lt.mpr (Nat.le_succ _))) (none_at s) (by obtain ⟨o, ho, _⟩ := hl; exact ⟨hm, o, ho⟩) (fun i u _ hu => hD.at (by simpa using hu))
    have st : (∃ old, IsEnum h' (s.heap.objs.size + 1) s.heap.objs.size ((0 : Nat) : Int) old) ∧ h'.IsTupleIter s.heap.objs.size a 0 ∧ h'.IsTuple a vs.toArray := ⟨⟨_, hE⟩, hI, by obtain ⟨o, ho, r⟩ := hl2; exact ⟨o, hk' a o ho, r⟩⟩
    exact IT.self A 0 _ _ _ hh st (hQ _ _ _ _ _ (kp_mk0 hk') IT st)) hx hg hgb hp hk hd
end
end Mine

namespace Mine
open PySem PySem.W PyProof.Rows PySem.Calls
variable {C : Cx}

/-! slices of lists -/
theorem dsl_plain (ds : List Dt) (lo hi : Option Int) : dsl ds lo hi none = (ds.drop (lo.elim 0 (clipAt ds.length))).take (hi.elim ds.length (clipAt ds.length) - lo.elim 0 (clipAt ds.length)) := by
  unfold dsl
  rw [sliceBounds_plain]
  simp only [sliceRange_one]
  have := pick_run ds.toArray (lo.elim 0 (clipAt ds.length)) (hi.elim ds.length (clipAt ds.length) - lo.elim 0 (clipAt ds.length))
  simpa using this
theorem dsl_from (ds : List Dt) (a : Nat) : dsl ds (some (a : Int)) none none = ds.drop a := by
  rw [dsl_plain]
  simp only [Option.elim, clipAt_nat]
  rcases Nat.le_total a ds.length with h | h
  · rw [Nat.min_eq_left h, List.take_of_length_le (by simp)]
  · rw [Nat.min_eq_right h, List.drop_of_length_le (by simp), List.drop_of_length_le (by simpa using h)]; simp
theorem dsl_upto (ds : List Dt) (b : Nat) : dsl ds none (some (b : Int)) none = ds.take b := by
  rw [dsl_plain]
  simp only [Option.elim, clipAt_nat, List.drop_zero, Nat.sub_zero]
  rcases Nat.le_total b ds.length with h | h
  · rw [Nat.min_eq_left h]
  · rw [Nat.min_eq_right h, List.take_of_length_le (by simp), List.take_of_length_le (by simpa using h)]
theorem flt {α : Type} (xs : List α) : xs.filter (fun _ => true) = xs := List.filter_eq_self.mpr fun _ _ => rfl
section
variable {n : Nat} {env : Env} {σ : Sto} {ow : Own} {pos p : Pos} {value e : PySem.Expr} {ds : List Dt} {i : Int}
theorem Ev.takeL (k : Nat) (hv : Ev C n env σ ow value (.list ds)) (h1 : Ev C n env σ ow e (.int i)) (hi : i = (k : Int)) (hb : ds.length ≤ 2 ^ 20) : Ev C n env σ ow (.Subscript value (.Slice Option.none (.some e) Option.none p) pos) (.list (ds.take k)) := by
  subst hi
  rw [← dsl_upto]
  exact Ev.sliceL hv .none (.some h1) .none (by simp) hb
theorem Ev.dropL (k : Nat) (hv : Ev C n env σ ow value (.list ds)) (h1 : Ev C n env σ ow e (.int i)) (hi : i = (k : Int)) (hb : ds.length ≤ 2 ^ 20) : Ev C n env σ ow (.Subscript value (.Slice (.some e) Option.none Option.none p) pos) (.list (ds.drop k)) := by
  subst hi
  rw [← dsl_from]
  exact Ev.sliceL hv (.some h1) .none .none (by simp) hb
end
def pick2 {α : Type} (a : Nat) (l : List α) : List α := (sliceRange (sliceBounds (some (a : Int)) none (some 2) l.length).1 (sliceBounds (some (a : Int)) none (some 2) l.length).2.1 (sliceBounds (some (a : Int)) none (some 2) l.length).2.2).filterMap (l[·]?)
theorem dsl_pick2 {α : Type} (f : α → Dt) (l : List α) (a : Nat) : dsl (l.map f) (some (a : Int)) none (some 2) = (pick2 a l).map f := by
  unfold dsl pick2
  rw [List.length_map, List.map_filterMap]
  congr 1
  funext i
  rw [List.getElem?_map]

theorem con_draws (P : Prg C) {n : Nat} (ns : List Int) (hn : ns.length ≤ 63) : Con C (n + 1) "_law_draws" [.list (ns.map Dt.int)] (.list ((((ns.take 14).map (Int.fmod · 96)) ++ [0, 1, 2, 5, 9, 24, 3, 10].drop (ns.take 14).length).map Dt.int)) := by
  have ht : (ns.take 14).length ≤ 14 := by rw [List.length_take]; omega
  refine Con.of (dd := rAt 47) (names := ["script"]) (P.mem 47 (by decide)) rfl (fun pm code doc vs h => ?_) (one_arg rfl) fun L a cd => ?_
  · obtain ⟨v, rfl⟩ := len1 h
    rfl
  · apply Ex.cons
    refine Ex1.asgComp (σc := []) (cl := []) (dl := .list ((ns.take 14).map Dt.int)) (xs := ns.take 14) (di := Dt.int) (p := fun _ => true) (g := fun i => .int (i.fmod 96)) ⟨?_, Itb.list, fun Cf a _ => .nil, fun Cf a _ _ => ?_, ?_, ?_, rfl, ?_, rfl, .nil, capB.nil, ?_, fun _ _ e => by cases e⟩ ?_
    · rw [List.map_take]
      exact Ev.takeL 14 (Ev.name rfl) Ev.int rfl (by simp; omega)
    · exact Ev.binop (Ev.name rfl) Ev.int (V2.mod_int (by decide))
    · rfl
    · decide
    · decide
    · omega
    · rw [flt]
      apply Ex.cons
      refine Ex1.ret (d := .list (((ns.take 14).map fun i => Dt.int (i.fmod 96)) ++ ([0, 1, 2, 5, 9, 24, 3, 10].map Dt.int).drop (ns.take 14).length)) (Ev.binop (Ev.name rfl) (Ev.dropL (ns.take 14).length (Ev.listD (.cons Ev.int (.cons Ev.int (.cons Ev.int (.cons Ev.int (.cons Ev.int (.cons Ev.int (.cons Ev.int (.cons Ev.int .nil)))))))) rfl (by decide)) (Ev.callBi P.b_len (Vs.len_list (by rw [List.length_map]; omega)) (.cons (Ev.name rfl) .nil)) (by rw [List.length_map]) (by decide)) (V2.add_list (by rw [List.length_map]; omega) ?_)) ?_
      · rw [List.length_drop]; simp; omega
      · rw [List.map_append, List.map_map, ← List.map_drop]
        rfl
end Mine

namespace Mine
open PySem PySem.W PyProof.Rows PySem.Calls
variable {C : Cx}

abbrev dI (ns : List Int) : Dt := .list (ns.map Dt.int)
abbrev dS (ns : List PySem.Str) : Dt := .list (ns.map Dt.str)
abbrev Fo := PySem.Str × Int × List Int
abbrev Wa := Int × Int × PySem.Str × Int
abbrev dFo (f : Fo) : Dt := .list [.str f.1, .int f.2.1, dI f.2.2]
abbrev dWa (w : Wa) : Dt := .list [.int w.1, .int w.2.1, .str w.2.2.1, .int w.2.2.2]

theorem three_args {dd : DefRec} {n1 n2 n3 : PySem.Str} (h : dd.scope.names.lookup n1 = some .local) (h2 : dd.scope.names.lookup n2 = some .local) (h3 : dd.scope.names.lookup n3 = some .local) : ∀ L : Nat, ∀ x ∈ [n1, n2, n3], dd.scope.names.lookup x = some .local ∨ (dd.scope.names.lookup x = some .cell ∧ ((cellsFrom L dd.scope.names []).lookup x).isSome = true) := fun L x hx => by
  simp only [List.mem_cons, List.not_mem_nil, or_false] at hx
  rcases hx with rfl | rfl | rfl
  · exact .inl h
  · exact .inl h2
  · exact .inl h3

/-! medians -/
theorem con_mlow (P : Prg C) {n : Nat} (ns ms : List PySem.Str) (x : PySem.Str) (h1 : 1 ≤ ns.length) (h2 : ns.length < 64) (hl : ms.length = ns.length) (hu : ∀ zs : List PySem.Str, zs.Perm ns → sortedS zs = true → zs = ms) (hx : ms[(ns.length - 1) / 2]? = some x) : Con C (n + 1) "median_low" [dS ns] (.str x) := by
  refine Con.of (dd := rAt 3) (names := ["data"]) (P.mem 3 (by decide)) rfl (fun pm code doc vs h => ?_) (one_arg rfl) fun L a cd => ?_
  · obtain ⟨v, rfl⟩ := len1 h
    rfl
  · have hgd : ∀ i : Nat, (ms.map Dt.str)[i]? = (ms[i]?).map Dt.str := fun i => List.getElem?_map ..
    apply Ex.cons
    apply Ex1.asg (d := dS ms) (Ev.callBi P.b_sorted (Vs.sorted_strs h2 fun zs a b => by rw [hu zs a b]) (.cons (Ev.name rfl) .nil))
    apply Ex.cons
    apply Ex1.asg (d := .int ms.length) (by have := Vs.len_list (C := C) (n := n) (ds := ms.map Dt.str) (by rw [List.length_map]; omega); rw [List.length_map] at this; exact Ev.callBi P.b_len this (.cons (Ev.name rfl) .nil))
    apply Ex.cons
    apply Ex1.ite (b := ((ms.length : Int) == 0)) (Tt.cmp' (Ev.name rfl) Ev.int V2.eq_int)
    · intro h; exfalso; rw [beq_iff_eq] at h; omega
    · intro _
      apply Ex.nil
      apply Ex.cons
      apply Ex1.ite (b := ((ms.length : Int).fmod 2 == 1)) (Tt.cmp' (Ev.binop (Ev.name rfl) Ev.int (V2.mod_int (by decide))) Ev.int V2.eq_int)
      · intro h
        apply Ex.cons
        refine Ex1.ret (d := .str x) (Ev.itemL (i := (ms.length : Int).fdiv 2) (Ev.name rfl) (Ev.binop (Ev.name rfl) Ev.int (V2.fdiv_int (by decide) (by decide))) ?_ ?_ (by rw [List.length_map]; omega)) rfl
        · rw [Int.fdiv_eq_ediv_of_nonneg _ (by decide)]; omega
        · rw [hgd]
          rw [Int.fdiv_eq_ediv_of_nonneg _ (by decide)]
          have : ((ms.length : Int) / 2).toNat = (ns.length - 1) / 2 := by
            rw [Int.fmod_eq_emod_of_nonneg _ (by decide), beq_iff_eq] at h
            omega
          rw [this, hx]; rfl
      · intro h
        apply Ex.cons
        refine Ex1.ret (d := .str x) (Ev.itemL (i := (ms.length : Int).fdiv 2 - 1) (Ev.name rfl) (Ev.binop (Ev.binop (Ev.name rfl) Ev.int (V2.fdiv_int (by decide) (by decide))) Ev.int V2.sub_int) ?_ ?_ (by rw [List.length_map]; omega)) rfl
        · rw [Int.fmod_eq_emod_of_nonneg _ (by decide), beq_eq_false_iff_ne] at h
          rw [Int.fdiv_eq_ediv_of_nonneg _ (by decide)]; omega
        · rw [hgd]
          rw [Int.fdiv_eq_ediv_of_nonneg _ (by decide)]
          have : ((ms.length : Int) / 2 - 1).toNat = (ns.length - 1) / 2 := by
            rw [Int.fmod_eq_emod_of_nonneg _ (by decide), beq_eq_false_iff_ne] at h
            omega
          rw [this, hx]; rfl
theorem con_mhigh (P : Prg C) {n : Nat} (ns ms : List PySem.Str) (x : PySem.Str) (h1 : 1 ≤ ns.length) (h2 : ns.length < 64) (hl : ms.length = ns.length) (hu : ∀ zs : List PySem.Str, zs.Perm ns → sortedS zs = true → zs = ms) (hx : ms[ns.length / 2]? = some x) : Con C (n + 1) "median_high" [dS ns] (.str x) := by
  refine Con.of (dd := rAt 4) (names := ["data"]) (P.mem 4 (by decide)) rfl (fun pm code doc vs h => ?_) (one_arg rfl) fun L a cd => ?_
  · obtain ⟨v, rfl⟩ := len1 h
    rfl
  · have hgd : ∀ i : Nat, (ms.map Dt.str)[i]? = (ms[i]?).map Dt.str := fun i => List.getElem?_map ..
    apply Ex.cons
    apply Ex1.asg (d := dS ms) (Ev.callBi P.b_sorted (Vs.sorted_strs h2 fun zs a b => by rw [hu zs a b]) (.cons (Ev.name rfl) .nil))
    apply Ex.cons
    apply Ex1.asg (d := .int ms.length) (by have := Vs.len_list (C := C) (n := n) (ds := ms.map Dt.str) (by rw [List.length_map]; omega); rw [List.length_map] at this; exact Ev.callBi P.b_len this (.cons (Ev.name rfl) .nil))
    apply Ex.cons
    apply Ex1.ite (b := ((ms.length : Int) == 0)) (Tt.cmp' (Ev.name rfl) Ev.int V2.eq_int)
    · intro h; exfalso; rw [beq_iff_eq] at h; omega
    · intro _
      apply Ex.nil
      apply Ex.cons
      refine Ex1.ret (d := .str x) (Ev.itemL (i := (ms.length : Int).fdiv 2) (Ev.name rfl) (Ev.binop (Ev.name rfl) Ev.int (V2.fdiv_int (by decide) (by decide))) ?_ ?_ (by rw [List.length_map]; omega)) rfl
      · rw [Int.fdiv_eq_ediv_of_nonneg _ (by decide)]; omega
      · rw [hgd]
        rw [Int.fdiv_eq_ediv_of_nonneg _ (by decide)]
        have : ((ms.length : Int) / 2).toNat = ns.length / 2 := by omega
        rw [this, hx]; rfl

/-! walkers -/
def tailT : Nat → PySem.Str
  | 0 => ""
  | 1 => "."
  | 2 => ".."
  | _ => "c/.."
def walkF (d size : Int) : Wa :=
  (d.fmod 3, size - (d.fdiv 12).fmod (size + 1), tailT (d.fmod 4).toNat,
    if tailT (d.fmod 4).toNat == ".." then (if size - (d.fdiv 12).fmod (size + 1) - 1 > 0 then size - (d.fdiv 12).fmod (size + 1) - 1 else 0) else size - (d.fdiv 12).fmod (size + 1))
theorem fmod_lt (d : Int) {k : Int} (h : 0 < k) : 0 ≤ d.fmod k ∧ d.fmod k < k := ⟨Int.fmod_nonneg_of_pos _ h, Int.fmod_lt_of_pos _ h⟩
theorem con_walker (P : Prg C) {n : Nat} (d size : Int) (hs : 0 ≤ size) : Con C (n + 1) "_law_walker" [.int d, .int size] (dWa (walkF d size)) := by
  refine Con.of (dd := rAt 49) (names := ["d", "size"]) (P.mem 49 (by decide)) rfl (fun pm code doc vs h => ?_) (two_args rfl rfl) fun L a cd => ?_
  · obtain ⟨v, u, rfl⟩ := len2 h
    rfl
  · have hm := fmod_lt d (k := 4) (by decide)
    apply Ex.cons
    apply Ex1.asg (d := .int (size - (d.fdiv 12).fmod (size + 1))) (Ev.binop (Ev.name rfl) (Ev.binop (Ev.binop (Ev.name rfl) Ev.int (V2.fdiv_int (by decide) (by decide))) (Ev.binop (Ev.name rfl) Ev.int V2.add_int) (V2.mod_int (by omega))) V2.sub_int)
    apply Ex.cons
    apply Ex1.asg (d := .str (tailT (d.fmod 4).toNat)) (Ev.itemL (ds := [.str "", .str ".", .str "..", .str "c/.."]) (Ev.listD (.cons Ev.str (.cons Ev.str (.cons Ev.str (.cons Ev.str .nil)))) rfl (by decide)) (Ev.binop (Ev.name rfl) Ev.int (V2.mod_int (by decide))) hm.1 ?_ (by decide))
    · apply Ex.cons
      refine Ex1.ret (d := dWa (walkF d size)) (Ev.listD (.cons (Ev.binop (Ev.name rfl) Ev.int (V2.mod_int (by decide))) (.cons (Ev.name rfl) (.cons (Ev.name rfl) (.cons (d := .int (walkF d size).2.2.2) (Ev.ifexp (b := tailT (d.fmod 4).toNat == "..") (Tt.cmp' (Ev.name rfl) Ev.str V2.eq_str) (fun _ => Ev.callBi P.b_max Vs.max2 (.cons Ev.int (.cons (Ev.binop (Ev.name rfl) Ev.int V2.sub_int) .nil))) (fun _ => Ev.name rfl) ?_) .nil)))) rfl (Nat.le_of_ble_eq_true rfl)) rfl
      unfold walkF
      dsimp only
      split <;> rfl
    · generalize hk : (d.fmod 4).toNat = k
      have : k < 4 := by omega
      match k, this with
      | 0, _ => rfl
      | 1, _ => rfl
      | 2, _ => rfl
      | 3, _ => rfl

theorem mulOkL {a b : Int} (h : decide (Builtin.Int.intBits a > shortFactorBits) = false) : IntMulOk a b := by
  unfold IntMulOk; rw [h]; simp
theorem mulOkR {a b : Int} (h : decide (Builtin.Int.intBits b > shortFactorBits) = false) : IntMulOk a b := by
  unfold IntMulOk; rw [h]; simp
/-! is a folder open -/
def inX (c : Nat) : Bool := !(Builtin.Str.occurrences "xst" ⟨#[c]⟩ 0 (PySem.Str.length "xst") 1).isEmpty
theorem con_open (P : Prg C) {n : Nat} (x : PySem.Str) (who : Int) (c0 c1 : Nat) (hl : x.length ≤ 2 ^ 10) (hw : 0 ≤ who) (h0 : x.cps[0]? = some c0) (h1 : x.cps[(3 + 3 * who).toNat]? = some c1) : Con C (n + 1) "_law_open" [.str x, .int who] (.bool ((c0 == 100) && inX c1)) := by
  refine Con.of (dd := rAt 50) (names := ["listing", "who"]) (P.mem 50 (by decide)) rfl (fun pm code doc vs h => ?_) (two_args rfl rfl) fun L a cd => ?_
  · obtain ⟨v, u, rfl⟩ := len2 h
    rfl
  · apply Ex.cons
    refine Ex1.ret (d := .bool ((c0 == 100) && inX c1)) (Ev.andB (b1 := (⟨#[c0]⟩ : PySem.Str) == "d") (d1 := .bool ((⟨#[c0]⟩ : PySem.Str) == "d")) (d2 := .bool (inX c1)) (Ev.cmp (Ev.itemS (i := 0) (Ev.name rfl) Ev.int (by decide) h0 (by omega)) Ev.str V2.eq_str) B1.bool (fun _ => Ev.and1 (Ev.cmp (Ev.itemS (Ev.name rfl) (Ev.binop Ev.int (Ev.binop Ev.int (Ev.name rfl) (V2.mul_int ?_)) V2.add_int) (by omega) h1 (by omega)) Ev.str V2.in_str)) ?_) rfl
    · exact mulOkL (by decide +kernel)
    · have : ((⟨#[c0]⟩ : PySem.Str) == "d") = (c0 == 100) := by
        rw [Bool.eq_iff_iff, beq_iff_eq, beq_iff_eq]
        constructor
        · intro h
          have h := congrArg PySem.Str.cps h
          have h2 : (#[c0] : Array Nat)[0]? = (PySem.Str.cps "d")[0]? := by rw [← h]
          have h3 : (PySem.Str.cps "d")[0]? = some 100 := by decide +kernel
          rw [h3] at h2
          simpa using h2
        · rintro rfl; rfl
      rw [this]
      cases c0 == 100 <;> rfl
end Mine

namespace Mine
open PySem PySem.W PyProof.Rows PySem.Calls
variable {C : Cx}

/-- where a walker stops -/
def stopAt (ch : Nat → PySem.Str) (op : Nat → Bool) : Nat → PySem.Str
  | 0 => ch 0
  | i + 1 => if op i then stopAt ch op i else dirF (ch i)
theorem con_stop (P : Prg C) {n : Nat} (ps : List (PySem.Str × PySem.Str)) (who : Int) (ch : Nat → PySem.Str) (N : Nat) (ls : Nat → PySem.Str) (c0 c1 : Nat → Nat) (hw : 0 ≤ who)
    (hd : ∀ i, i < N → ch (i + 1) = dirF (ch i)) (hN : ch N = sl) (hne : ∀ i, i < N → ch i ≠ sl) (hlen : ∀ i, i < N → (ch i).length ≤ 2 ^ 10)
    (hl : ∀ i, i < N → ps.lookup (ch i) = some (ls i)) (hll : ∀ i, i < N → (ls i).length ≤ 2 ^ 10) (h0 : ∀ i, i < N → (ls i).cps[0]? = some (c0 i)) (h1 : ∀ i, i < N → (ls i).cps[(3 + 3 * who).toNat]? = some (c1 i)) :
    Con C (n + 3) "_law_stop" [.sdict ps, .str (ch 0), .int who] (.str (stopAt ch (fun i => (c0 i == 100) && inX (c1 i)) N)) := by
  refine Con.of (dd := rAt 51) (names := ["listings", "goal", "who"]) (P.mem 51 (by decide)) rfl (fun pm code doc vs h => ?_) (three_args rfl rfl rfl) fun L a cd => ?_
  · obtain ⟨v, u, t, rfl⟩ := len3 h
    rfl
  · apply Ex.cons
    apply Ex1.asg (d := .str (ch 0)) (Ev.name rfl)
    apply Ex.cons
    apply Ex1.asg (d := .str (ch 0)) (Ev.name rfl)
    apply Ex.cons
    refine Ex1.while (S := fun i => [("here", .str (ch i)), ("stop", .str (stopAt ch (fun i => (c0 i == 100) && inX (c1 i)) i)), ("listings", .sdict ps), ("who", .int who)]) (N := N) ?_ (fun i hi => ?_) ?_ (fun i hi => ?_) ?_
    · exact .cons rfl (.cons rfl (.cons rfl (.cons rfl .nil)))
    · have : (ch i != sl) = true := by rw [bne_iff_ne]; exact hne i hi
      rw [← this]
      exact Tt.cmp' (Ev.name rfl) Ev.str V2.ne_str
    · have : (ch N != sl) = false := by rw [bne_eq_false_iff_eq]; exact hN
      rw [← this]
      exact Tt.cmp' (Ev.name rfl) Ev.str V2.ne_str
    · apply Ex.cons
      apply Ex1.ite (b := !((c0 i == 100) && inX (c1 i))) (Tt.not (Tt.plain (Ev.callF (con_open P (ls i) who (c0 i) (c1 i) (hll i hi) hw (h0 i hi) (h1 i hi)) (.cons (Ev.itemD (Ev.name rfl) (Ev.name rfl) (hl i hi)) (.cons (Ev.name rfl) .nil))) B1.bool))
      · intro h
        rw [Bool.not_eq_true'] at h
        apply Ex.cons
        apply Ex1.asg (d := .str (dirF (ch i))) (Ev.callF (con_dirname P (ch i) (hlen i hi)) (.cons (Ev.name rfl) .nil))
        apply Ex.nil
        apply Ex.cons
        apply Ex1.asg (d := .str (dirF (ch i))) (Ev.callF (con_dirname P (ch i) (hlen i hi)) (.cons (Ev.name rfl) .nil))
        apply Ex.nil
        refine ⟨.cons ?_ (.cons ?_ (.cons rfl (.cons rfl .nil))), rfl⟩
        · show some (Dt.str _) = _; rw [hd i hi]
        · show some (Dt.str _) = some (Dt.str (stopAt ch (fun i => (c0 i == 100) && inX (c1 i)) (i + 1))); rw [stopAt, h]; rfl
      · intro h
        rw [Bool.not_eq_false'] at h
        apply Ex.nil
        apply Ex.cons
        apply Ex1.asg (d := .str (dirF (ch i))) (Ev.callF (con_dirname P (ch i) (hlen i hi)) (.cons (Ev.name rfl) .nil))
        apply Ex.nil
        refine ⟨.cons ?_ (.cons ?_ (.cons rfl (.cons rfl .nil))), rfl⟩
        · show some (Dt.str _) = _; rw [hd i hi]
        · show some (Dt.str _) = some (Dt.str (stopAt ch (fun i => (c0 i == 100) && inX (c1 i)) (i + 1))); rw [stopAt, h]; rfl
    · apply Ex.nil
      apply Ex.cons
      apply Ex1.ret (Ev.name rfl)
      rfl

theorem range_at {m i : Nat} {d : Dt} (h : ((List.range m).map fun i : Nat => Dt.int (i : Int))[i]? = some d) : i < m ∧ d = .int (i : Int) := by
  rw [List.getElem?_map] at h
  by_cases hi : i < m
  · rw [List.getElem?_range hi] at h
    cases h
    exact ⟨hi, rfl⟩
  · rw [List.getElem?_eq_none (by simpa using hi)] at h
    cases h

/-- who is in, folder by folder -/
def leftF (fs : List Fo) (ws : List Wa) : Nat → List Wa
  | 0 => ws
  | k + 1 => (leftF fs ws k).filter fun w => decide ((k : Int) < w.2.2.2) && ((fs[k]?.map (·.2.2)).getD []).any (· == w.1)
theorem leftF_len (fs : List Fo) (ws : List Wa) : ∀ k, (leftF fs ws k).length ≤ ws.length
  | 0 => Nat.le_refl _
  | k + 1 => Nat.le_trans (List.length_filter_le _ _) (leftF_len fs ws k)
theorem con_inside (P : Prg C) {n : Nat} (fs : List Fo) (ws : List Wa) (hf : fs.length ≤ 2 ^ 10) (hws : ws.length ≤ 2 ^ 10) :
    Con C (n + 1) "_law_inside" [.list (fs.map dFo), .list (ws.map dWa)] (dI ((List.range fs.length).map fun k => ((leftF fs ws (k + 1)).length : Int))) := by
  refine Con.of (dd := rAt 52) (names := ["folders", "walkers"]) (P.mem 52 (by decide)) rfl (fun pm code doc vs h => ?_) (fun L x hx => ?_) fun L a cd => ?_
  · obtain ⟨v, u, rfl⟩ := len2 h
    rfl
  · simp only [List.mem_cons, List.not_mem_nil, or_false] at hx
    rcases hx with rfl | rfl
    · exact .inr ⟨rfl, rfl⟩
    · exact .inl rfl
  · apply Ex.cons
    refine Ex1.own ?_
    apply Ex.cons
    apply Ex1.asg (d := .list (ws.map dWa)) (Ev.name rfl)
    apply Ex.cons
    refine Ex1.for (di := .range fs.length) (Ev.callBi P.b_range Vs.range (.cons (by have := Vs.len_list (C := C) (n := n) (ds := fs.map dFo) (by rw [List.length_map]; omega); rw [List.length_map] at this; exact Ev.callBi P.b_len this (.cons (Ev.name rfl) .nil)) .nil)) (Itb.range (by omega))
      (fun i => [("left", .list ((leftF fs ws i).map dWa)), ("folders", .list (fs.map dFo))]) (fun i => some ("inside", ((List.range i).map fun k => ((leftF fs ws (k + 1)).length : Int)).map Dt.int)) (fun i => [("k", .int (i : Int))]) ?_ rfl (fun i d hd => ?_) (fun i d hd => ?_) ?_
    · exact .cons rfl (.cons rfl .nil)
    · obtain ⟨hi, rfl⟩ := range_at hd
      exact Tg.name
    · obtain ⟨hi, rfl⟩ := range_at hd
      have hfi : fs[i]? = some fs[i] := List.getElem?_eq_getElem hi
      have hll := leftF_len fs ws i
      have hll2 := leftF_len fs ws (i + 1)
      apply Ex.cons
      refine Ex1.asgComp (σc := [("folders", .list (fs.map dFo)), ("k", .int (i : Int))]) (cl := (cellsFrom (L + 1) (rAt 52).scope.names [])) (dl := .list ((leftF fs ws i).map dWa)) (xs := leftF fs ws i) (di := dWa) (p := fun w => decide ((i : Int) < w.2.2.2) && ((fs[i]?.map (·.2.2)).getD []).any (· == w.1)) (g := dWa)
        ⟨Ev.name rfl, Itb.list, fun Cf w _ => .one ?_, fun Cf w _ _ => Ev.name rfl, ?_, ?_, rfl, ?_, rfl, .cons rfl (.cons rfl .nil), ?_, ?_, fun _ _ e => e⟩ ?_
      · refine Tt.andB (b1 := decide ((i : Int) < w.2.2.2)) (Tt.cmp' (Ev.itemL (i := 3) (Ev.name rfl) Ev.int (by decide) rfl (Nat.le_of_ble_eq_true rfl)) (Ev.name rfl) V2.gt_int) (fun _ => Tt.andB (b1 := fs[i].2.2.any (· == w.1)) (Tt.cmp' (Ev.itemL (i := 0) (Ev.name rfl) Ev.int (by decide) rfl (Nat.le_of_ble_eq_true rfl)) (Ev.itemL (i := 2) (Ev.itemL (d := dFo fs[i]) (Ev.name rfl) (Ev.name rfl) (by omega) ?_ (by rw [List.length_map]; omega)) Ev.int (by decide) rfl (Nat.le_of_ble_eq_true rfl)) V2.in_ints) (fun _ => Tt.and0) rfl) ?_
        · rw [List.getElem?_map, Int.toNat_natCast, hfi]; rfl
        · rw [hfi]; simp
      · rfl
      · decide
      · decide
      · exact capB.cons rfl rfl rfl rfl rfl rfl (capB.cons rfl rfl rfl rfl rfl rfl capB.nil)
      · omega
      · apply Ex.cons
        refine Ex1.append (d := .int (leftF fs ws (i + 1)).length) (by have := Vs.len_list (C := C) (n := n) (ds := (leftF fs ws (i + 1)).map dWa) (by rw [List.length_map]; omega); rw [List.length_map] at this; exact Ev.callBi P.b_len this (.cons (Ev.name rfl) .nil)) ?_ (by simp; omega)
        apply Ex.nil
        refine ⟨.cons rfl (.cons rfl .nil), ?_⟩
        rw [List.range_succ, List.map_append, List.map_append]; rfl
    · rw [List.length_map, List.length_range]
      apply Ex.nil
      apply Fx.freeze
      apply Ex.cons
      apply Ex1.ret (Ev.name rfl)
      rfl
end Mine

namespace Mine
open PySem PySem.W PyProof.Rows PySem.Calls
variable {C : Cx}

theorem Ev.comp' {α : Type} {n : Nat} {env : Env} {σ σc : Sto} {ow : Own} {scope : Scope} {cl : List (PySem.Str × Addr)} {x : PySem.Str} {px pos : Pos} {elt iter : PySem.Expr} {ifs : List PySem.Expr} {dl r : Dt}
    {xs : List α} {di : α → Dt} {p : α → Bool} {g : α → Dt} (h : CompOk C n env σ σc ow scope cl x px elt iter ifs dl xs di p g) (he : .list ((xs.filter p).map g) = r) (hs : ∀ x, foldedSetIterable iter env x = pure x := by intro _; rfl) :
    Ev C n env σ ow (.ListComp elt [⟨.Name x px, iter, ifs, 0⟩] scope pos) r := he ▸ Ev.comp h hs

def letC (d : Int) : PySem.Str := ⟨#[97 + (d.fmod 3).toNat]⟩
def dAt (ds : List Int) (i : Nat) : Int := (ds[i]?).getD 0
theorem ints_at {ds : List Int} {i : Nat} {d : Dt} (h : (ds.map Dt.int)[i]? = some d) : i < ds.length ∧ d = .int (dAt ds i) := by
  rw [List.getElem?_map] at h
  cases hi : ds[i]? with
  | none => rw [hi] at h; cases h
  | some j =>
    rw [hi] at h; cases h
    exact ⟨(List.getElem?_eq_some_iff.mp hi).1, by unfold dAt; rw [hi]; rfl⟩
def placeAt (ds : List Int) : Nat → PySem.Str
  | 0 => sl
  | i + 1 => joinF (placeAt ds i) (letC (dAt ds i))
def whoT : Nat → List Int
  | 0 => [0, 1, 2]
  | 1 => [0, 1, 2]
  | 2 => [0, 1]
  | 3 => [0, 2]
  | 4 => [0, 1, 2]
  | 5 => [1, 2]
  | 6 => [0]
  | _ => [0, 1, 2]
def bitT (one : Int) : Int := match one.toNat with
  | 0 => 64
  | 1 => 8
  | _ => 1
def whoF (d : Int) : List Int := whoT (d.fmod 8).toNat
def numF (d : Int) : Int := (d.fdiv 8).fmod 8 * 512 + (if d.fmod 2 == 1 then 384 else 36) + ((whoF d).map bitT).sum
def foF (ds : List Int) (i : Nat) : Fo := if 88 ≤ dAt ds i then (placeAt ds (i + 1), 32768 + numF (dAt ds i), []) else (placeAt ds (i + 1), 16384 + numF (dAt ds i), whoF (dAt ds i))
theorem joinF_len (a b : PySem.Str) : (joinF a b).length ≤ a.length + b.length + 1 := by
  unfold joinF
  split
  · omega
  · split
    · rw [len_app]; omega
    · rw [len_app, len_app]; have : sl.length = 1 := rfl; omega
theorem letC_len (d : Int) : (letC d).length = 1 := rfl
theorem placeAt_len (ds : List Int) : ∀ i, (placeAt ds i).length ≤ 2 * i + 1
  | 0 => Nat.le_refl _
  | i + 1 => by
    have h1 := placeAt_len ds i
    have h2 := joinF_len (placeAt ds i) (letC (dAt ds i))
    have h3 := letC_len (dAt ds i)
    simp only [placeAt]
    omega
theorem whoT_mem : ∀ k, ∀ one ∈ whoT k, 0 ≤ one ∧ one < 3 := by
  intro k
  match k with
  | 0 => decide
  | 1 => decide
  | 2 => decide
  | 3 => decide
  | 4 => decide
  | 5 => decide
  | 6 => decide
  | _ + 7 => show ∀ one ∈ [(0 : Int), 1, 2], _; decide

set_option maxHeartbeats 1000000 in
theorem con_folders (P : Prg C) {n : Nat} (ds : List Int) (hd : ds.length ≤ 14) : Con C (n + 3) "_law_folders" [dI ds] (.list ((List.range ds.length).map fun i => dFo (foF ds i))) := by
  refine Con.of (dd := rAt 48) (names := ["drawn"]) (P.mem 48 (by decide)) rfl (fun pm code doc vs h => ?_) (one_arg rfl) fun L a cd => ?_
  · obtain ⟨v, rfl⟩ := len1 h
    rfl
  · apply Ex.cons
    refine Ex1.own ?_
    apply Ex.cons
    apply Ex1.asg (d := .str sl) Ev.str
    apply Ex.cons
    refine Ex1.for (di := dI ds) (ds := ds.map Dt.int) (Ev.name rfl) Itb.list
      (fun i => [("place", .str (placeAt ds i))]) (fun i => some ("folders", (List.range i).map fun i => dFo (foF ds i))) (fun i => [("d", .int (dAt ds i))]) ?_ rfl (fun i d hdi => ?_) (fun i d hdi => ?_) ?_
    · exact .cons rfl .nil
    · obtain ⟨hlt, rfl⟩ := ints_at hdi
      exact Tg.name
    · obtain ⟨hlt, rfl⟩ := ints_at hdi
      · have ep : placeAt ds (i + 1) = joinF (placeAt ds i) (letC (dAt ds i)) := rfl
        have ef : foF ds i = if 88 ≤ dAt ds i then (placeAt ds (i + 1), 32768 + numF (dAt ds i), []) else (placeAt ds (i + 1), 16384 + numF (dAt ds i), whoF (dAt ds i)) := rfl
        generalize dAt ds i = j at ep ef ⊢
        have hpl := placeAt_len ds i
        have hpl1 := placeAt_len ds (i + 1)
        have h3 := fmod_lt j (k := 3) (by decide)
        have h8 := fmod_lt j (k := 8) (by decide)
        apply Ex.cons
        apply Ex1.asg (d := .str (placeAt ds (i + 1)))
        · rw [ep]
          refine Ev.callF (con_join P (placeAt ds i) (letC j) (by omega) (by rw [letC_len]; decide)) (.cons (Ev.name rfl) (.cons (Ev.itemS (i := j.fmod 3) (c := 97 + (j.fmod 3).toNat) Ev.str (Ev.binop (Ev.name rfl) Ev.int (V2.mod_int (by decide))) h3.1 ?_ (by decide)) .nil))
          generalize hk : (j.fmod 3).toNat = k
          have : k < 3 := by omega
          match k, this with
          | 0, _ => rfl
          | 1, _ => rfl
          | 2, _ => rfl
        · with_reducible refine Ex.cons ?_
          with_reducible refine Ex1.asg (d := dI (whoF j)) ?_ ?_ ?_ ?_ ?_
          · with_reducible refine Ev.itemL (i := j.fmod 8) (ds := [dI [0, 1, 2], dI [0, 1, 2], dI [0, 1], dI [0, 2], dI [0, 1, 2], dI [1, 2], dI [0], dI [0, 1, 2]]) ?_ ?_ h8.1 ?_ ?_
            · with_reducible refine Ev.listD (.cons ?_ (.cons ?_ (.cons ?_ (.cons ?_ (.cons ?_ (.cons ?_ (.cons ?_ (.cons ?_ .nil)))))))) ?_ ?_
              · exact Ev.listD (.cons Ev.int (.cons Ev.int (.cons Ev.int .nil))) (by rfl) (by decide)
              · exact Ev.listD (.cons Ev.int (.cons Ev.int (.cons Ev.int .nil))) (by rfl) (by decide)
              · exact Ev.listD (.cons Ev.int (.cons Ev.int .nil)) (by rfl) (by decide)
              · exact Ev.listD (.cons Ev.int (.cons Ev.int .nil)) (by rfl) (by decide)
              · exact Ev.listD (.cons Ev.int (.cons Ev.int (.cons Ev.int .nil))) (by rfl) (by decide)
              · exact Ev.listD (.cons Ev.int (.cons Ev.int .nil)) (by rfl) (by decide)
              · exact Ev.listD (.cons Ev.int .nil) (by rfl) (by decide)
              · exact Ev.listD (.cons Ev.int (.cons Ev.int (.cons Ev.int .nil))) (by rfl) (by decide)
              · rfl
              · decide
            · exact Ev.binop (Ev.name rfl) Ev.int (V2.mod_int (by decide))
            · unfold whoF
              generalize hk : (j.fmod 8).toNat = k
              have : k < 8 := by omega
              match k, this with
              | 0, _ => rfl
              | 1, _ => rfl
              | 2, _ => rfl
              | 3, _ => rfl
              | 4, _ => rfl
              | 5, _ => rfl
              | 6, _ => rfl
              | 7, _ => rfl
            · decide
          · apply Ex.cons
            apply Ex1.asg (d := .int ((j.fdiv 8).fmod 8 * 512 + (if j.fmod 2 == 1 then 384 else 36))) (Ev.binop (Ev.binop (Ev.binop (Ev.binop (Ev.name rfl) Ev.int (V2.fdiv_int (by decide) (by decide))) Ev.int (V2.mod_int (by decide))) Ev.int (V2.mul_int (mulOkR (by decide +kernel)))) (Ev.ifexp (d := .int (if j.fmod 2 == 1 then 384 else 36)) (b := (j.fmod 2 == 1)) (Tt.cmp' (Ev.binop (Ev.name rfl) Ev.int (V2.mod_int (by decide))) Ev.int V2.eq_int) (fun _ => Ev.int) (fun _ => Ev.int) (by split <;> rfl)) V2.add_int)
            apply Ex.cons
            apply Ex1.asg (d := .int (numF j))
            · refine Ev.binop (Ev.name rfl) (Ev.callBi P.b_sum (Vs.sum (ns := (whoF j).map bitT)) (.cons ?_ .nil)) V2.add_int
              refine Ev.comp' (σc := []) (cl := []) (dl := dI (whoF j)) (xs := whoF j) (di := Dt.int) (p := fun _ => true) (g := fun one => .int (bitT one)) 
                ⟨Ev.name (x := "who") rfl, Itb.list, fun Cf w _ => .nil, fun Cf w hw _ => ?_, rfl, ?_, rfl, ?_, rfl, .nil, capB.nil, ?_, fun _ _ e => by cases e⟩ ?_
              · have hw := whoT_mem _ w hw
                refine Ev.itemL (i := w) (ds := [.int 64, .int 8, .int 1]) (Ev.listD (.cons Ev.int (.cons Ev.int (.cons Ev.int .nil))) rfl (by decide)) (Ev.name rfl) hw.1 ?_ (by decide)
                unfold bitT
                generalize hk : w.toNat = k
                have : k < 3 := by omega
                match k, this with
                | 0, _ => rfl
                | 1, _ => rfl
                | 2, _ => rfl
              · decide
              · decide
              · have : (whoF j).length ≤ 3 := by
                  unfold whoF
                  generalize (j.fmod 8).toNat = k
                  unfold whoT
                  split <;> decide
                omega
              · rw [flt, List.map_map]; rfl
            · apply Ex.cons
              apply Ex1.ite (b := decide (88 ≤ j)) (Tt.cmp' (Ev.name rfl) Ev.int V2.ge_int)
              · intro h
                apply Ex.cons
                refine Ex1.append (d := dFo (foF ds i)) ?_ ?_ (by simp; omega)
                · rw [ef, if_pos (of_decide_eq_true h)]
                  exact Ev.listD (.cons (Ev.name rfl) (.cons (Ev.binop Ev.int (Ev.name rfl) V2.add_int) (.cons (Ev.listD .nil rfl (Nat.zero_le _)) .nil))) (by rfl) (by exact Nat.le_of_ble_eq_true rfl)
                · apply Ex.nil
                  apply Ex.nil
                  refine ⟨.cons rfl .nil, ?_⟩
                  rw [List.range_succ, List.map_append]; rfl
              · intro h
                apply Ex.cons
                refine Ex1.append (d := dFo (foF ds i)) ?_ ?_ (by simp; omega)
                · rw [ef, if_neg (of_decide_eq_false h)]
                  exact Ev.listD (.cons (Ev.name rfl) (.cons (Ev.binop Ev.int (Ev.name rfl) V2.add_int) (.cons (Ev.name rfl) .nil))) (by rfl) (by exact Nat.le_of_ble_eq_true rfl)
                · apply Ex.nil
                  apply Ex.nil
                  refine ⟨.cons rfl .nil, ?_⟩
                  rw [List.range_succ, List.map_append]; rfl
          · rfl
          · rfl
          · rfl
    · rw [List.length_map]
      apply Ex.nil
      apply Fx.freeze
      apply Ex.cons
      apply Ex1.ret (Ev.name rfl)
      rfl
end Mine

namespace Mine
open PySem PySem.W PyProof.Rows PySem.Calls
variable {C : Cx}
section
variable {s₀ s s' s'' : Shared} {env : Env} {M₀ M : Mu} {oa oa' : Option Addr} {σ σ' : Sto} {ow ow' : Own} {n : Nat} {Φ Ψ : Post} {x y z : PySem.Str} {d d1 d2 d3 di : Dt} {ds : List Dt} {pos apos p px py pz : Pos} {t e value test iter : PySem.Expr} {ss body orelse : List Stmt} {b : Bool} {A : Around} {E : Value → Shared → Prop} {I : List Addr} {k : Nat}

def LoopPostR (Φ : Post) (σ' : Sto) (ow' : Own) (r : Prop) : Post := fun f σ ow => match f with
  | .next => (Sub σ σ' ∧ ow = ow') ∧ r
  | .cont => (Sub σ σ' ∧ ow = ow') ∧ r
  | .brk => Φ .next σ ow
  | .ret r => Φ (.ret r) σ ow
theorem Gi.ofItb (he : Ev C n env σ ow iter di) (hI : Itb C t di ds pyIter) : Gi C n env σ ow t iter ds := fun A M s E hA hrd Q hQ =>
  he A M s E hA hrd _ fun v s1 k1 g1 => hI A M s1 E v Q (hrd.keeps k1).toWd g1 fun I wr fp Stt s2 k2 IT st => hQ I wr fp Stt s1 s2 k1 k2 IT st
/-- a loop that knows what it has seen -/
theorem Ex1.forR (hG : Gi C n env σ ow t iter ds) (S : Nat → Sto) (W : Nat → Own) (R : Nat → Prop) (ext : Nat → Sto) (hS : Sub σ (S 0)) (hW : W 0 = ow) (hR : R 0)
    (tg : ∀ i d, ds[i]? = some d → Tg C env t d (ext i) (W i))
    (turn : ∀ i d, ds[i]? = some d → R i → Ex C n env (ext i ++ S i) (W i) body (LoopPostR Φ (S (i + 1)) (W (i + 1)) (R (i + 1))))
    (done : R ds.length → Ex C n env (S ds.length) (W ds.length) orelse Φ)
    (hs : ∀ x, foldedSetIterable iter env x = pure x := by intro _; rfl) : Ex1 C n env σ ow (.For t iter body orelse pos) Φ := fun A s₀ M₀ s oa E Q hA St0 hQ => by
  subst hW
  refine wpAny_For (hG A _ s E hA St0.rd _ fun It wr fp Stt s1 s2 k1 k2 IT st0 => ?_) hs
  have S1 := St0.keeps k1
  obtain ⟨S2, hO, hoa0⟩ := S1.add k2 IT.new (IT.live 0 _ st0)
  have hMw : ∀ b ∈ wr, ¬ M₀ b := fun b hb q => by
    obtain ⟨o, ho⟩ := S1.wd.own b (.inl q)
    rw [IT.new b hb] at ho; cases ho
  have f12 : Fk env oa oa s1 s2 := Fk.keeps k2
  refine codeAny_forLoop_any (fun kk s' => ∃ i oa', kk = ds.length + 1 - i ∧ (i ≤ ds.length ∧ R i) ∧ St C s₀ env (addM M₀ wr) oa' (S i) (W i) s' ∧ Stt i s'.heap ∧ Fk env oa oa' s1 s') ?_ (ds.length + 1)
    ⟨0, oa, by omega, ⟨Nat.zero_le _, hR⟩, S2.sub hS, st0, f12⟩
  rintro kk s' ⟨i, oa', rfl, ⟨hi, hRi⟩, S', st', f'⟩
  have hoa' : ∀ a, oa' = some a → a ∉ wr := fun a e q => (S'.oaf a e).2.2.2 (.inr q)
  have hfp : ∀ b ∈ fp, b ≠ env.locals ∧ (∀ z, (z, b) ∉ env.cells) ∧ oa' ≠ some b := fun b hb => by
    rcases IT.fpok b hb with q | ⟨q, o, ho⟩
    · exact ⟨fun e => hO.loc (e ▸ q), fun z h => hO.cell z b h q, fun e => hoa' b e q⟩
    · refine ⟨fun e => q (.inr (.inl e)), fun z h => q (.inr (.inr (.inl ⟨z, h⟩))), fun e => ?_⟩
      rcases f'.new b e with h | h
      · exact q (.inr (.inr (.inr h)))
      · rw [ho] at h; cases h
  by_cases hlt : i < ds.length
  · refine wpAny_mono (IT.item A i s' (mu (addM M₀ wr) env oa') (fun v s3 => wpAny (model C.prog C.w) A (assign t env v) (fun _ s₂ => wpAny (model C.prog C.w) A (execs body env) (fun f s₃ => match f with
            | .next | .cont => ∃ m, m < ds.length + 1 - i ∧ (∃ i_1 oa', m = ds.length + 1 - i_1 ∧ (i_1 ≤ ds.length ∧ R i_1) ∧ St C s₀ env (addM M₀ wr) oa' (S i_1) (W i_1) s₃ ∧ Stt i_1 s₃.heap ∧ Fk env oa oa' s1 s₃)
            | .brk => Q .next s₃
            | .ret v => Q (.ret v) s₃) (notedBy (model C.prog C.w) A env fun e s' => cameBackBy (model C.prog C.w) A env E e s') s₂) (notedBy (model C.prog C.w) A env fun e s' => cameBackBy (model C.prog C.w) A env E e s') s3) _ hA.none hlt st' (fun b hb => S'.wd.own b hb) (fun b o e hb => ?_) (fun b o h1 h2 e => ?_) fun v d h3 tk3 hd g3 st3 k3 => ?_) (fun r s3 h => ?_) fun _ _ x => x
    · rcases hb with (q | q) | q | q | q
      · exact .inl q
      · rw [IT.new b q] at e; cases e
      · exact .inr (.inl q)
      · exact .inr (.inr (.inl q))
      · rcases f'.new b q with h | h
        · exact .inr (.inr (.inr h))
        · rw [h] at e; cases e
    · exact f'.keep b o e (fun q => h1 (.inr (.inl q))) (fun z q => h1 (.inr (.inr (.inl ⟨z, q⟩)))) fun q => h1 (.inr (.inr (.inr q)))
    · -- the item is assigned, the body runs
      have S3 := S'.turn hO hoa' (tk := tk3) k3 (IT.live _ _ st3)
      have f3 : Fk env oa oa' s1 { s' with heap := h3, toks := tk3 } := f'.thru IT.new k3
      refine tg i d hd A s₀ _ _ oa' (S i) _ v _ hA.none S3 g3 fun s4 S4 k4 => ?_
      have f4 : Fk env oa oa' s1 s4 := f3.trans k4 S4.done
      have st4 : Stt (i + 1) s4.heap := IT.frame _ _ _ st3 fun b hb o e => let ⟨q1, q2, q3⟩ := hfp b hb; k4.keep b o e q1 q2 q3
      refine turn i d hd hRi A s₀ _ s4 oa' _ _ hA S4 fun fl f s5 oa5 σ5 ow5 S5 k5 g5 z5 => ?_
      have f5 : Fk env oa oa5 s1 s5 := f4.trans k5 S5.done
      have st5 : Stt (i + 1) s5.heap := IT.frame _ _ _ st4 fun b hb o e => let ⟨q1, q2, q3⟩ := hfp b hb; k5.keep b o e q1 q2 q3
      have hoa5 : ∀ a, oa5 = some a → a ∉ wr := fun a e q => (S5.oaf a e).2.2.2 (.inr q)
      have Sd : St C s₀ env M₀ oa5 σ5 ow5 s5 := S5.drop hO hoa5 hMw (tk := s5.toks) (h' := s5.heap) fun _ _ _ e => e
      cases f <;> cases fl <;> first | exact g5.elim | skip
      · obtain ⟨⟨z1, rfl⟩, z6⟩ := z5
        exact ⟨ds.length + 1 - (i + 1), by omega, i + 1, oa5, rfl, ⟨hlt, z6⟩, S5.sub z1, st5, f5⟩
      · exact hQ .next .next s5 oa5 σ5 ow5 Sd ((Fk.keeps k1).trans f5 Sd.done) trivial z5
      · obtain ⟨⟨z1, rfl⟩, z6⟩ := z5
        exact ⟨ds.length + 1 - (i + 1), by omega, i + 1, oa5, rfl, ⟨hlt, z6⟩, S5.sub z1, st5, f5⟩
      · exact hQ _ _ s5 oa5 σ5 ow5 Sd ((Fk.keeps k1).trans f5 Sd.done) (FlD.drop g5) z5
    · obtain ⟨v, rfl, h⟩ := h
      exact h
  · have hin : i = ds.length := by omega
    subst hin
    refine wpAny_mono (IT.done A s' (fun s3 => wpAny (model C.prog C.w) A (execs orelse env) (fun f s₃ => Q f s₃) (notedBy (model C.prog C.w) A env fun e s' => cameBackBy (model C.prog C.w) A env E e s') s3) _ hA.none st' fun h3 tk3 k3 => ?_) (fun r s3 h => ?_) fun _ _ x => x
    · have Sd := S'.drop hO hoa' hMw (tk := tk3) k3
      have f3 : Fk env oa oa' s1 { s' with heap := h3, toks := tk3 } := f'.thru IT.new k3
      exact done hRi A s₀ M₀ _ oa' _ _ hA Sd fun fl f s5 oa5 σ5 ow5 S5 k5 g5 z5 => hQ fl f s5 oa5 σ5 ow5 S5 ((Fk.keeps k1).trans (f3.trans k5 S5.done) S5.done) g5 z5
    · obtain ⟨rfl, h⟩ := h
      exact h

end

/-! filemode -/
def tblL : List (List (Int × Nat)) :=
  [[(40960, 108), (49152, 115), (32768, 45), (24576, 98), (16384, 100), (8192, 99), (4096, 112)], [(256, 114)], [(128, 119)], [(2112, 115), (2048, 83), (64, 120)], [(32, 114)], [(16, 119)], [(1032, 115), (1024, 83), (8, 120)], [(4, 114)], [(2, 119)], [(513, 116), (512, 84), (1, 120)]]
abbrev dE (e : Int × Nat) : Dt := .tup [.int e.1, .str ⟨#[e.2]⟩]
abbrev dRow (r : List (Int × Nat)) : Dt := .tup (r.map dE)
abbrev tblD : Dt := .tup (tblL.map dRow)
structure Tb (C : Cx) : Prop where
  val : ∃ v, C.mg "_filemode_table" = some v ∧ D C C.base (fun _ => False) tblD v
theorem Ev.glob {n : Nat} {env : Env} {σ : Sto} {ow : Own} {x : PySem.Str} {p : Pos} {d : Dt} (h : ∃ v, C.mg x = some v ∧ D C C.base (fun _ => False) d v) (hx : env.kindOf x = some .globalImplicit := by rfl) (hg : env.globals = mainGlobals := by rfl)
    (hk : env.scope.kind = .function := by rfl) (hd : (x == ("__debug__" : PySem.Str)) = false := by decide +kernel) : Ev C n env σ ow (.Name x p) d := fun A M s E hA hrd Q hQ => by
  obtain ⟨v, h1, h2⟩ := h
  refine Calls.Name_function_global hk hx (Calls.loadGlobal_global (by rw [hg]; exact hrd.toWd.top.g) h1 (hQ v s (kp_refl s) ?_)) hd
  exact D.mono (fun b o _ e => hrd.toWd.base b o e) (fun b o e q => by rw [hrd.toWd.off b q] at e; cases e) h2

def tst (i : Nat) (mode bit : Int) : Bool := if i = 0 then Builtin.bitAnd mode 61440 == bit else Builtin.bitAnd mode bit == bit
def signOf (i : Nat) (mode : Int) (row : List (Int × Nat)) : Nat := match row.find? (fun e => tst i mode e.1) with
  | some e => e.2
  | none => if i = 0 then 63 else 45
def fmL (mode : Int) : List PySem.Str := tblL.mapIdx fun i row => ⟨#[signOf i mode row]⟩
def fmS (mode : Int) : PySem.Str := Txt.join "" (fmL mode)

theorem sign_hit {i : Nat} {mode : Int} {row : List (Int × Nat)} {j : Nat} {e : Int × Nat} (he : row[j]? = some e) (ht : tst i mode e.1 = true) (hR : ∀ e ∈ row.take j, tst i mode e.1 = false) : signOf i mode row = e.2 := by
  have hs : row = row.take j ++ e :: row.drop (j + 1) := by
    have h := List.getElem?_eq_some_iff.mp he
    obtain ⟨hl, rfl⟩ := h
    rw [List.getElem_cons_drop, List.take_append_drop]
  unfold signOf
  rw [hs, List.find?_append, List.find?_eq_none.mpr (fun x hx => by rw [hR x hx]; simp)]
  simp [List.find?_cons, ht]
theorem sign_miss {i : Nat} {mode : Int} {row : List (Int × Nat)} (hR : ∀ e ∈ row.take (row.map dE).length, tst i mode e.1 = false) : signOf i mode row = if i = 0 then 63 else 45 := by
  rw [List.length_map, List.take_length] at hR
  unfold signOf
  rw [List.find?_eq_none.mpr (fun x hx => by rw [hR x hx]; simp)]
theorem tbl_at {i : Nat} {d : Dt} (h : ((tblL.map dRow).mapIdx fun i d => Dt.tup [.int (i : Int), d])[i]? = some d) : ∃ row, tblL[i]? = some row ∧ d = .tup [.int (i : Int), dRow row] := by
  rw [List.getElem?_mapIdx, List.getElem?_map] at h
  cases hi : tblL[i]? with
  | none => rw [hi] at h; cases h
  | some row => rw [hi] at h; cases h; exact ⟨row, rfl, rfl⟩

set_option maxHeartbeats 4000000 in
theorem con_filemode (P : Prg C) (T : Tb C) {n : Nat} (mode : Int) : Con C (n + 2) "filemode" [.int mode] (.str (fmS mode)) := by
  refine Con.of (dd := rAt 45) (names := ["mode"]) (P.mem 45 (by decide)) rfl (fun pm code doc vs h => ?_) (one_arg rfl) fun L a cd => ?_
  · obtain ⟨v, rfl⟩ := len1 h
    rfl
  · have hfl : (fmL mode).length = 10 := by unfold fmL; rw [List.length_mapIdx]; rfl
    apply Ex.cons
    refine Ex1.own ?_
    apply Ex.cons
    refine Ex1.forG (Gi.enumT P.b_enumerate (Ev.glob T.val)) (fun i => [("mode", .int mode)]) (fun i => some ("perm", ((fmL mode).take i).map Dt.str)) (fun i => [("table", dRow ((tblL[i]?).getD [])), ("index", .int (i : Int))]) ?_ rfl (fun i d hd => ?_) (fun i d hd => ?_) ?_
    · exact .cons rfl .nil
    · obtain ⟨row, hr, rfl⟩ := tbl_at hd
      rw [hr]
      exact Tg.tup2 Tg.name Tg.name
    · obtain ⟨row, hr, rfl⟩ := tbl_at hd
      rw [hr]
      have hlt : i < 10 := (List.getElem?_eq_some_iff.mp hr).1
      have hnx : ((fmL mode).take (i + 1)).map Dt.str = ((fmL mode).take i).map Dt.str ++ [Dt.str ⟨#[signOf i mode row]⟩] := by
        rw [List.take_add_one, List.map_append]
        congr 1
        unfold fmL
        rw [List.getElem?_mapIdx, hr]; rfl
      have hal : (((fmL mode).take i).map Dt.str).length ≤ 2 ^ 20 := by rw [List.length_map, List.length_take]; omega
      rw [hnx]
      generalize hacc : ((fmL mode).take i).map Dt.str = acc at hal ⊢
      apply Ex.cons
      refine Ex1.forR (Gi.ofItb (di := dRow row) (ds := row.map dE) (Ev.name rfl) Itb.tup) (fun j => [("index", .int (i : Int)), ("mode", .int mode)]) (fun j => some ("perm", acc)) (fun j => ∀ e ∈ row.take j, tst i mode e.1 = false) (fun j => [("char", .str ⟨#[((row[j]?).getD (0, 0)).2]⟩), ("bit", .int ((row[j]?).getD (0, 0)).1)]) ?_ rfl ?_ (fun j d hd => ?_) (fun j d hd hR => ?_) fun hR => ?_
      · exact .cons rfl (.cons rfl .nil)
      · intro e he; cases he
      · rw [List.getElem?_map] at hd
        cases hj : row[j]? with
        | none => rw [hj] at hd; cases hd
        | some e => rw [hj] at hd; cases hd; exact Tg.tup2 Tg.name Tg.name
      · rw [List.getElem?_map] at hd
        cases hj : row[j]? with
        | none => rw [hj] at hd; cases hd
        | some e =>
          rw [hj] at hd; cases hd
          have hRn : tst i mode e.1 = false → ∀ e ∈ row.take (j + 1), tst i mode e.1 = false := fun h x hx => by
            rw [List.take_add_one, hj] at hx
            rcases List.mem_append.mp hx with hx | hx
            · exact hR x hx
            · simp at hx; rw [hx]; exact h
          have hit := fun h => sign_hit hj h hR
          apply Ex.cons
          refine Ex1.ite (b := ((i : Int) == 0)) (Tt.cmp' (Ev.name rfl) Ev.int V2.eq_int) (fun h0 => ?_) (fun h0 => ?_)
          · have h0 : i = 0 := by rw [beq_iff_eq] at h0; omega
            have et : tst i mode e.1 = (Builtin.bitAnd mode 61440 == e.1) := by unfold tst; rw [if_pos h0]
            apply Ex.cons
            refine Ex1.ite (b := Builtin.bitAnd mode 61440 == e.1) (Tt.cmp' (Ev.callF (con_ifmt P mode) (.cons (Ev.name rfl) .nil)) (Ev.name rfl) V2.eq_int) (fun h => ?_) (fun h => ?_)
            · apply Ex.cons
              refine Ex1.append (d := .str ⟨#[e.2]⟩) (Ev.name rfl) ?_ hal
              apply Ex.cons
              apply Ex1.break
              apply Ex.nil
              refine ⟨.cons rfl .nil, ?_⟩
              rw [hit (et.trans h)]
            · apply Ex.nil
              apply Ex.nil
              apply Ex.nil
              exact ⟨⟨.cons rfl (.cons rfl .nil), rfl⟩, hRn (et.trans h)⟩
          · have h0 : ¬ i = 0 := by rw [beq_eq_false_iff_ne] at h0; omega
            have et : tst i mode e.1 = (Builtin.bitAnd mode e.1 == e.1) := by unfold tst; rw [if_neg h0]
            apply Ex.cons
            refine Ex1.ite (b := Builtin.bitAnd mode e.1 == e.1) (Tt.cmp' (Ev.binop (Ev.name rfl) (Ev.name rfl) V2.and_int) (Ev.name rfl) V2.eq_int) (fun h => ?_) (fun h => ?_)
            · apply Ex.cons
              refine Ex1.append (d := .str ⟨#[e.2]⟩) (Ev.name rfl) ?_ hal
              apply Ex.cons
              apply Ex1.break
              apply Ex.nil
              refine ⟨.cons rfl .nil, ?_⟩
              rw [hit (et.trans h)]
            · apply Ex.nil
              apply Ex.nil
              apply Ex.nil
              exact ⟨⟨.cons rfl (.cons rfl .nil), rfl⟩, hRn (et.trans h)⟩
      · have hm := sign_miss hR
        apply Ex.cons
        refine Ex1.ite (b := ((i : Int) == 0)) (Tt.cmp' (Ev.name rfl) Ev.int V2.eq_int) (fun h0 => ?_) (fun h0 => ?_)
        · have h0 : i = 0 := by rw [beq_iff_eq] at h0; omega
          apply Ex.cons
          refine Ex1.append (d := .str "?") Ev.str ?_ hal
          apply Ex.nil
          apply Ex.nil
          apply Ex.nil
          refine ⟨.cons rfl .nil, ?_⟩
          rw [hm, if_pos h0]; rfl
        · have h0 : ¬ i = 0 := by rw [beq_eq_false_iff_ne] at h0; omega
          apply Ex.cons
          refine Ex1.append (d := .str "-") Ev.str ?_ hal
          apply Ex.nil
          apply Ex.nil
          apply Ex.nil
          refine ⟨.cons rfl .nil, ?_⟩
          rw [hm, if_neg h0]; rfl
    · have hlen : (((tblL.map dRow).mapIdx fun i d => Dt.tup [.int (i : Int), d])).length = 10 := by rw [List.length_mapIdx]; rfl
      rw [hlen, List.take_of_length_le (by omega)]
      apply Ex.nil
      apply Fx.freeze
      apply Ex.cons
      refine Ex1.ret (d := .str (fmS mode)) (Ev.methS Ev.str (.cons (Ev.name rfl) .nil) (Vs.join (ys := fmL mode) ?_) (fun A s E t pl Q h => GM.join h)) rfl
      have hz : (PySem.Str.length "") = 0 := rfl
      have hs : ∀ k, (((tblL.take k).mapIdx fun i row => (⟨#[signOf i mode row]⟩ : PySem.Str)).map (·.length)).sum ≤ k := fun k => by
        have : ((tblL.take k).mapIdx fun i row => (⟨#[signOf i mode row]⟩ : PySem.Str)).map (·.length) = (tblL.take k).map fun _ => 1 := by
          apply List.ext_getElem?
          intro q
          rw [List.getElem?_map, List.getElem?_mapIdx, List.getElem?_map]
          cases (tblL.take k)[q]? <;> rfl
        rw [this, List.map_const', List.sum_replicate_nat, List.length_take]; omega
      have hs := hs 10
      have : ((fmL mode).map (·.length)).sum ≤ 10 := hs
      rw [hz]; omega
end Mine

namespace Mine
open PySem PySem.W PyProof.Rows PySem.Calls
variable {C : Cx}

abbrev cellOf (env : Env) (x : PySem.Str) : Addr := (env.cells.lookup x).getD 0
theorem cl1 {env : Env} {x : PySem.Str} {c : Addr} (h : env.cells.lookup x = some c) : ∀ y c', [(x, c)].lookup y = some c' → env.cells.lookup y = some c' := fun y c' e => by
  rw [List.lookup_cons] at e
  cases hb : y == x with
  | true => rw [hb] at e; cases e; rw [beq_iff_eq.mp hb]; exact h
  | false => rw [hb] at e; cases e
theorem cl2 {env : Env} {x : PySem.Str} {c : Addr} {l : List (PySem.Str × Addr)} (h : env.cells.lookup x = some c) (r : ∀ y c', l.lookup y = some c' → env.cells.lookup y = some c') : ∀ y c', ((x, c) :: l).lookup y = some c' → env.cells.lookup y = some c' := fun y c' e => by
  rw [List.lookup_cons] at e
  cases hb : y == x with
  | true => rw [hb] at e; cases e; rw [beq_iff_eq.mp hb]; exact h
  | false => rw [hb] at e; exact r y c' e
def sg (mode : Int) (k : Nat) : Nat := signOf k mode ((tblL[k]?).getD [])
theorem fmS_eq (m : Int) : fmS m = ⟨#[sg m 0, sg m 1, sg m 2, sg m 3, sg m 4, sg m 5, sg m 6, sg m 7, sg m 8, sg m 9]⟩ := by
  have e : fmL m = [⟨#[sg m 0]⟩, ⟨#[sg m 1]⟩, ⟨#[sg m 2]⟩, ⟨#[sg m 3]⟩, ⟨#[sg m 4]⟩, ⟨#[sg m 5]⟩, ⟨#[sg m 6]⟩, ⟨#[sg m 7]⟩, ⟨#[sg m 8]⟩, ⟨#[sg m 9]⟩] := rfl
  unfold fmS
  rw [e]
  show Builtin.Str.glued _ _ = _
  rfl
def openM (mode : Int) (one : Int) : Bool := (sg mode 0 == 100) && inX (sg mode (3 + 3 * one).toNat)
theorem con_openM (P : Prg C) {n : Nat} (mode : Int) (one : Int) (h : 0 ≤ one ∧ one < 3) : Con C (n + 1) "_law_open" [.str (fmS mode), .int one] (.bool (openM mode one)) := by
  refine con_open P (fmS mode) one (sg mode 0) (sg mode (3 + 3 * one).toNat) (by rw [fmS_eq]; show 10 ≤ 2 ^ 10; decide) h.1 (by rw [fmS_eq]; rfl) ?_
  rw [fmS_eq]
  have : one = 0 ∨ one = 1 ∨ one = 2 := by omega
  rcases this with rfl | rfl | rfl <;> rfl

def numAt (fs : List Fo) : Nat → Int
  | 0 => ((fs[0]?).map (·.2.1)).getD 0
  | i + 1 => Builtin.bitAnd (numAt fs i) (((fs[i]?).map (·.2.1)).getD 0)
def whoAt (fs : List Fo) : Nat → List Int
  | 0 => [0, 1, 2]
  | i + 1 => (whoAt fs i).filter fun w => ((fs[i]?.map (·.2.2)).getD []).any (· == w)
theorem whoAt_len (fs : List Fo) : ∀ i, (whoAt fs i).length ≤ 3
  | 0 => Nat.le_refl _
  | i + 1 => Nat.le_trans (List.length_filter_le _ _) (whoAt_len fs i)
def openAll (mode : Int) : List Int := ((List.range 3).filter fun i : Nat => openM mode (i : Int)).map fun i : Nat => (i : Int)

theorem con_together (P : Prg C) (T : Tb C) {n : Nat} (fs : List Fo) (h0 : fs ≠ []) (hf : fs.length ≤ 2 ^ 10) (H : ∀ i, i < fs.length → openAll (numAt fs (i + 1)) = whoAt fs (i + 1)) :
    Con C (n + 3) "_law_together" [.list (fs.map dFo)] (.bool true) := by
  have hpos := List.length_pos_iff.mpr h0
  refine Con.of (dd := rAt 53) (names := ["folders"]) (P.mem 53 (by decide)) rfl (fun pm code doc vs h => ?_) (one_arg rfl) fun L a cd => ?_
  · obtain ⟨v, rfl⟩ := len1 h
    rfl
  · apply Ex.cons
    refine Ex1.asg (d := .int (numAt fs 0)) ?_ ?_
    · refine Ev.itemL (i := 1) (Ev.itemL (i := 0) (d := dFo (fs[0]'hpos)) (Ev.name rfl) Ev.int (by decide) ?_ (by rw [List.length_map]; omega)) Ev.int (by decide) ?_ (Nat.le_of_ble_eq_true rfl)
      · rw [List.getElem?_map]; show Option.map dFo fs[0]? = _; rw [List.getElem?_eq_getElem hpos]; rfl
      · show some (Dt.int _) = some (Dt.int _); unfold numAt; rw [List.getElem?_eq_getElem hpos]; rfl
    apply Ex.cons
    refine Ex1.asg (d := dI (whoAt fs 0)) (Ev.listD (.cons Ev.int (.cons Ev.int (.cons Ev.int .nil))) rfl (Nat.le_of_ble_eq_true rfl)) ?_
    apply Ex.cons
    refine Ex1.for (di := .list (fs.map dFo)) (ds := fs.map dFo) (Ev.name rfl) Itb.list (fun i => [("number", .int (numAt fs i)), ("who", dI (whoAt fs i))]) (fun _ => none) (fun i => [("folder", dFo ((fs[i]?).getD ("", 0, [])))]) ?_ rfl (fun i d hd => ?_) (fun i d hd => ?_) ?_
    · exact .cons rfl (.cons rfl .nil)
    · rw [List.getElem?_map] at hd
      cases hi : fs[i]? with
      | none => rw [hi] at hd; cases hd
      | some f => rw [hi] at hd; cases hd; exact Tg.name
    · rw [List.getElem?_map] at hd
      cases hi : fs[i]? with
      | none => rw [hi] at hd; cases hd
      | some f =>
        rw [hi] at hd; cases hd
        have hlt := (List.getElem?_eq_some_iff.mp hi).1
        have hH := H i hlt
        have en : numAt fs (i + 1) = Builtin.bitAnd (numAt fs i) f.2.1 := by show Builtin.bitAnd _ _ = _; rw [hi]; rfl
        have ew : whoAt fs (i + 1) = (whoAt fs i).filter fun w => f.2.2.any (· == w) := by show List.filter _ _ = _; rw [hi]; rfl
        have hwl := whoAt_len fs i
        rw [en] at hH ⊢
        rw [ew] at hH ⊢
        generalize numAt fs i = nm at hH ⊢
        generalize whoAt fs i = wh at hH hwl ⊢
        apply Ex.cons
        refine Ex1.asg (d := .int (Builtin.bitAnd nm f.2.1)) (Ev.binop (Ev.name rfl) (Ev.itemL (i := 1) (Ev.name rfl) Ev.int (by decide) rfl (Nat.le_of_ble_eq_true rfl)) V2.and_int) ?_
        apply Ex.cons
        refine Ex1.asgComp (σc := [("folder", dFo f)]) (cl := [("folder", cellOf (fenv (rAt 53).name (rAt 53).scope L a cd) "folder")]) (dl := dI wh) (xs := wh) (di := Dt.int) (p := fun w => f.2.2.any (· == w)) (g := Dt.int)
          ⟨Ev.name rfl, Itb.list, fun Cf w _ => .one ?_, fun Cf w _ _ => Ev.name rfl, rfl, ?_, rfl, ?_, rfl, .cons rfl .nil, ?_, ?_, cl1 rfl⟩ ?_
        · exact Tt.cmp' (Ev.name rfl) (Ev.itemL (i := 2) (Ev.name rfl) Ev.int (by decide) rfl (Nat.le_of_ble_eq_true rfl)) V2.in_ints
        · decide
        · decide
        · exact capB.cons rfl rfl rfl rfl rfl rfl capB.nil
        · omega
        · apply Ex.cons
          refine Ex1.asg (d := .str (fmS (Builtin.bitAnd nm f.2.1))) (Ev.callF (con_filemode P T (Builtin.bitAnd nm f.2.1)) (.cons (Ev.name rfl) .nil)) ?_
          apply Ex.cons
          refine Ex1.ite (b := !decide (openAll (Builtin.bitAnd nm f.2.1) = wh.filter fun w => f.2.2.any (· == w))) (Tt.cmp' (da := dI (openAll (Builtin.bitAnd nm f.2.1))) ?_ (Ev.name rfl) V2.ne_ints) (fun h => ?_) (fun h => ?_)
          · refine Ev.comp' (σc := [("listing", .str (fmS (Builtin.bitAnd nm f.2.1)))]) (cl := [("listing", cellOf (fenv (rAt 53).name (rAt 53).scope L a cd) "listing")]) (dl := .range 3) (xs := List.range 3) (di := fun i : Nat => .int (i : Int)) (p := fun i : Nat => openM (Builtin.bitAnd nm f.2.1) (i : Int)) (g := fun i : Nat => .int (i : Int))
              ⟨Ev.callBi P.b_range (Vs.range (m := 3)) (.cons Ev.int .nil), Itb.range (by decide), fun Cf w hw => .one ?_, fun Cf w _ _ => Ev.name rfl, rfl, ?_, rfl, ?_, rfl, .cons rfl .nil, ?_, ?_, cl1 rfl⟩ ?_
            · have hw := List.mem_range.mp hw
              exact Tt.plain (Ev.callF (con_openM P (Builtin.bitAnd nm f.2.1) w (by omega)) (.cons (Ev.name rfl) (.cons (Ev.name rfl) .nil))) B1.bool
            · decide
            · decide
            · exact capB.cons rfl rfl rfl rfl rfl rfl capB.nil
            · decide
            · unfold openAll dI; rw [List.map_map]; rfl
          · rw [decide_eq_true hH] at h; cases h
          · apply Ex.nil
            apply Ex.nil
            exact ⟨.cons rfl (.cons rfl .nil), rfl⟩
    · apply Ex.nil
      apply Ex.cons
      apply Ex1.ret Ev.bool
      rfl
end Mine

namespace Mine
open PySem PySem.W PyProof.Rows PySem.Calls
section
open AutoSeq1 (wpAny_loadPart')
open MeetsSeq MeetsSeq3

theorem lt_loop (l b : Addr) (items items2 : Array Value) (n n2 : Nat) (dd dd2 : Option Addr) (sl sl2 : Array (Option Value))
    (he : ∀ j (h1 : j < items.size) (h2 : j < items2.size), ∃ x t u, items[j] = .str x t ∧ items2[j] = .str x u) (k : Nat) :
    ∀ i : Nat, min items.size items2.size - i = k → i ≤ min items.size items2.size → Meets (Builtin.«list.__eq__.loop» ⟨[.ref l, .ref b, rawInt i, rawInt 0], []⟩)
      (fun A R s => s.heap.get? l = some { cls := .type "list", dict := dd, data := .seq items n, slots := sl } ∧ s.heap.get? b = some { cls := .type "list", dict := dd2, data := .seq items2 n2, slots := sl2 } ∧
        R (.ok (.ret (.bool (decide (items.size < items2.size))))) s) := by
  induction k with
  | zero =>
    intro i hk hi prog w A R s h
    obtain ⟨hp, g, d, tk, os⟩ := s; obtain ⟨hl, hb, h⟩ := h
    wp_walk using wpAny_loadPart' hl, wpAny_loadPart' hb
    by_cases hc : items.size ≤ i
    · have hi1 : items[((i : Nat) : Int).toNat]? = none := by simp; omega
      rw [hi1]
      cases hi2 : items2[((i : Nat) : Int).toNat]?
      · wp_walk using wpAny_loadPart' hl, wpAny_loadPart' hb
        exact h
      · wp_walk using wpAny_loadPart' hl, wpAny_loadPart' hb
        exact h
    · have hi2 : items2[((i : Nat) : Int).toNat]? = none := by simp; omega
      have hi1 : items[((i : Nat) : Int).toNat]? = some (items[i]'(by omega)) := by simp
      rw [hi1, hi2]
      wp_walk using wpAny_loadPart' hl, wpAny_loadPart' hb
      exact h
  | succ k ih =>
    intro i hk hi prog w A R s h
    obtain ⟨hp, g, d, tk, os⟩ := s; obtain ⟨hl, hb, h⟩ := h
    wp_walk using wpAny_loadPart' hl, wpAny_loadPart' hb
    have hlt : i < items.size := by omega
    have hlt2 : i < items2.size := by omega
    obtain ⟨x, t, u, e1, e2⟩ := he i hlt hlt2
    have hi1 : items[((i : Nat) : Int).toNat]? = some (.str x t) := by rw [← e1]; simp [hlt]
    have hi2 : items2[((i : Nat) : Int).toNat]? = some (.str x u) := by rw [← e2]; simp [hlt2]
    have hc : ((i : Int) + 1) = ((i + 1 : Nat) : Int) := by push_cast; rfl
    rw [hi1, hi2]
    refine wpAny_bind (eqBool_str ?_)
    rw [beq_self_eq_true]
    wp_walk
    rw [hc]
    exact ⟨plainId_quiet plain_eq_loop _, codeAny_builtin entry_eq_loop (by
      rw [Around.under_plainId plain_eq_loop _]
      exact ih (i + 1) (by omega) (by omega) prog w A R _ ⟨hl, hb, h⟩)⟩
theorem lt_meets (l b : Addr) (items items2 : Array Value) (n n2 : Nat) (dd dd2 : Option Addr) (sl sl2 : Array (Option Value))
    (he : ∀ j (h1 : j < items.size) (h2 : j < items2.size), ∃ x t u, items[j] = .str x t ∧ items2[j] = .str x u) :
    Meets (Builtin.«list.__lt__» ⟨[.ref l, .ref b], []⟩)
      (fun A R s => s.heap.get? l = some { cls := .type "list", dict := dd, data := .seq items n, slots := sl } ∧ s.heap.get? b = some { cls := .type "list", dict := dd2, data := .seq items2 n2, slots := sl2 } ∧
        R (.ok (.ret (.bool (decide (items.size < items2.size))))) s) := by
  intro prog w A R s h
  obtain ⟨hp, g, d, tk, os⟩ := s; obtain ⟨hl, hb, h⟩ := h
  have f3 := AutoSeq1.sub_list_list
  wp_walk using wpAny_loadPart' hl, wpAny_loadPart' hb
  exact ⟨plainId_quiet plain_eq_loop _, codeAny_builtin entry_eq_loop (by
    rw [Around.under_plainId plain_eq_loop _]
    exact lt_loop l b items items2 n n2 dd dd2 sl sl2 he _ 0 rfl (Nat.zero_le _) prog w A R _ ⟨hl, hb, h⟩)⟩

theorem gt_loop (l b : Addr) (items items2 : Array Value) (n n2 : Nat) (dd dd2 : Option Addr) (sl sl2 : Array (Option Value))
    (he : ∀ j (h1 : j < items.size) (h2 : j < items2.size), ∃ x t u, items[j] = .str x t ∧ items2[j] = .str x u) (k : Nat) :
    ∀ i : Nat, min items.size items2.size - i = k → i ≤ min items.size items2.size → Meets (Builtin.«list.__eq__.loop» ⟨[.ref l, .ref b, rawInt i, rawInt 4], []⟩)
      (fun A R s => s.heap.get? l = some { cls := .type "list", dict := dd, data := .seq items n, slots := sl } ∧ s.heap.get? b = some { cls := .type "list", dict := dd2, data := .seq items2 n2, slots := sl2 } ∧
        R (.ok (.ret (.bool (decide (items.size > items2.size))))) s) := by
  induction k with
  | zero =>
    intro i hk hi prog w A R s h
    obtain ⟨hp, g, d, tk, os⟩ := s; obtain ⟨hl, hb, h⟩ := h
    wp_walk using wpAny_loadPart' hl, wpAny_loadPart' hb
    by_cases hc : items.size ≤ i
    · have hi1 : items[((i : Nat) : Int).toNat]? = none := by simp; omega
      rw [hi1]
      cases hi2 : items2[((i : Nat) : Int).toNat]?
      · wp_walk using wpAny_loadPart' hl, wpAny_loadPart' hb
        exact h
      · wp_walk using wpAny_loadPart' hl, wpAny_loadPart' hb
        exact h
    · have hi2 : items2[((i : Nat) : Int).toNat]? = none := by simp; omega
      have hi1 : items[((i : Nat) : Int).toNat]? = some (items[i]'(by omega)) := by simp
      rw [hi1, hi2]
      wp_walk using wpAny_loadPart' hl, wpAny_loadPart' hb
      exact h
  | succ k ih =>
    intro i hk hi prog w A R s h
    obtain ⟨hp, g, d, tk, os⟩ := s; obtain ⟨hl, hb, h⟩ := h
    wp_walk using wpAny_loadPart' hl, wpAny_loadPart' hb
    have hlt : i < items.size := by omega
    have hlt2 : i < items2.size := by omega
    obtain ⟨x, t, u, e1, e2⟩ := he i hlt hlt2
    have hi1 : items[((i : Nat) : Int).toNat]? = some (.str x t) := by rw [← e1]; simp [hlt]
    have hi2 : items2[((i : Nat) : Int).toNat]? = some (.str x u) := by rw [← e2]; simp [hlt2]
    have hc : ((i : Int) + 1) = ((i + 1 : Nat) : Int) := by push_cast; rfl
    rw [hi1, hi2]
    refine wpAny_bind (eqBool_str ?_)
    rw [beq_self_eq_true]
    wp_walk
    rw [hc]
    exact ⟨plainId_quiet plain_eq_loop _, codeAny_builtin entry_eq_loop (by
      rw [Around.under_plainId plain_eq_loop _]
      exact ih (i + 1) (by omega) (by omega) prog w A R _ ⟨hl, hb, h⟩)⟩
theorem gt_meets (l b : Addr) (items items2 : Array Value) (n n2 : Nat) (dd dd2 : Option Addr) (sl sl2 : Array (Option Value))
    (he : ∀ j (h1 : j < items.size) (h2 : j < items2.size), ∃ x t u, items[j] = .str x t ∧ items2[j] = .str x u) :
    Meets (Builtin.«list.__gt__» ⟨[.ref l, .ref b], []⟩)
      (fun A R s => s.heap.get? l = some { cls := .type "list", dict := dd, data := .seq items n, slots := sl } ∧ s.heap.get? b = some { cls := .type "list", dict := dd2, data := .seq items2 n2, slots := sl2 } ∧
        R (.ok (.ret (.bool (decide (items.size > items2.size))))) s) := by
  intro prog w A R s h
  obtain ⟨hp, g, d, tk, os⟩ := s; obtain ⟨hl, hb, h⟩ := h
  have f3 := AutoSeq1.sub_list_list
  wp_walk using wpAny_loadPart' hl, wpAny_loadPart' hb
  exact ⟨plainId_quiet plain_eq_loop _, codeAny_builtin entry_eq_loop (by
    rw [Around.under_plainId plain_eq_loop _]
    exact gt_loop l b items items2 n n2 dd dd2 sl sl2 he _ 0 rfl (Nat.zero_le _) prog w A R _ ⟨hl, hb, h⟩)⟩

end
section
variable {prog : Program} {w : World} {A : Around} {E : Value → Shared → Prop} {s : Shared}
theorem rich_lt {l b : Addr} {items items2 : Array Value} {Q : Value → Shared → Prop} (h1 : s.heap.IsList l items) (h2 : s.heap.IsList b items2) (hu : A.units < cLine)
    (he : ∀ j (h1 : j < items.size) (h2 : j < items2.size), ∃ x t u, items[j] = .str x t ∧ items2[j] = .str x u) (h : Q (.bool (decide (items.size < items2.size))) s) : wpAny (model prog w) A (richCompare .Lt (.ref l) (.ref b)) Q E s := by
  obtain ⟨⟨c, dd, dt, sl⟩, ho, hc, n, hd⟩ := id h1
  obtain ⟨⟨c2, dd2, dt2, sl2⟩, ho2, hc2, n2, hd2⟩ := id h2
  simp only at hc hd hc2 hd2
  subst hc hd hc2 hd2
  exact wpAny_richCompare_same_room h1.typeIs h2.typeIs F.slot_list_lt (call_meets F.slot_list_lt h1.typeIs F.entry_list_lt (F.args_list_lt_2 _ _) (lt_meets l b items items2 n n2 dd dd2 sl sl2 he) ⟨ho, ho2, ⟨(fun q => by cases q), h⟩⟩) hu
theorem rich_gt {l b : Addr} {items items2 : Array Value} {Q : Value → Shared → Prop} (h1 : s.heap.IsList l items) (h2 : s.heap.IsList b items2) (hu : A.units < cLine)
    (he : ∀ j (h1 : j < items.size) (h2 : j < items2.size), ∃ x t u, items[j] = .str x t ∧ items2[j] = .str x u) (h : Q (.bool (decide (items.size > items2.size))) s) : wpAny (model prog w) A (richCompare .Gt (.ref l) (.ref b)) Q E s := by
  obtain ⟨⟨c, dd, dt, sl⟩, ho, hc, n, hd⟩ := id h1
  obtain ⟨⟨c2, dd2, dt2, sl2⟩, ho2, hc2, n2, hd2⟩ := id h2
  simp only at hc hd hc2 hd2
  subst hc hd hc2 hd2
  exact wpAny_richCompare_same_room h1.typeIs h2.typeIs F.slot_list_gt (call_meets F.slot_list_gt h1.typeIs F.entry_list_gt (F.args_list_gt_2 _ _) (gt_meets l b items items2 n n2 dd dd2 sl sl2 he) ⟨ho, ho2, ⟨(fun q => by cases q), h⟩⟩) hu
end

/-- an iterator that is walked into the list S -/
structure WV (prog : Program) (w : World) (A : Around) (I S : Addr) (wr : List Addr) (n : Nat) (P : Nat → Value → Prop) (St : Nat → Shared → Prop) : Prop where
  frame : ∀ i (s : Shared) h' tk, St i s → (∀ b o, b ≠ S → s.heap.get? b = some o → h'.get? b = some o) → St i { s with heap := h', toks := tk }
  item : ∀ i (s : Shared) (Q : Option Value → Shared → Prop) (E : Value → Shared → Prop), i < n → St i s →
    (∀ v h' tk, P i v → St (i + 1) { s with heap := h', toks := tk } → (∀ b o, b ∉ wr → s.heap.get? b = some o → h'.get? b = some o) → Q (some v) { s with heap := h', toks := tk }) → wpAny (model prog w) A (pyNext (.ref I)) Q E s
  done : ∀ (s : Shared) (Q : Option Value → Shared → Prop) (E : Value → Shared → Prop), St n s →
    (∀ h' tk, (∀ b o, b ∉ wr → s.heap.get? b = some o → h'.get? b = some o) → Q none { s with heap := h', toks := tk }) → wpAny (model prog w) A (pyNext (.ref I)) Q E s
  self : ∀ i (s : Shared) (Q : Value → Shared → Prop) (E : Value → Shared → Prop), St i s → Q (.ref I) s → wpAny (model prog w) A (pyIter (.ref I)) Q E s

/-- what the builtin's own list holds: nothing, or the best yet twice -/
def held : Option Value → Array Value
  | none => #[]
  | some v => #[v, v]
/-- the best of the first i items is held -/
def Best (P : Nat → Value → Prop) (bt : Nat → Nat → Bool) : Nat → Option Value → Prop
  | 0, none => True
  | 0, some _ => False
  | j + 1, o => ∃ v, o = some v ∧ P (argBest bt j) v

theorem min_run {prog : Program} {w : World} {A : Around} {R : Result → Shared → Prop} {I S : Addr} {wr : List Addr} {n : Nat} {P : Nat → Value → Prop} {St : Nat → Shared → Prop} (W : WV prog w A.in1 I S wr n P St) {bt : Nat → Nat → Bool}
    (hcmp : ∀ (k i j : Nat) (vi vj : Value) (s : Shared) (Q : Value → Shared → Prop) (E : Value → Shared → Prop), St k s → P i vi → P j vj → Q (.bool (bt i j)) s → wpAny (model prog w) A.in1 (richCompare .Lt vi vj) Q E s) (hn : 0 < n) (hSw : S ∉ wr) :
    ∀ (k i : Nat) (s : Shared) (o : Option Value) (c : Nat), i + k = n → St i s → s.heap.get? S = some { cls := .type "list", dict := none, data := .seq (held o) c, slots := #[] } → Best P bt i o →
    (∀ v h' tk, P (argBest bt (n - 1)) v → (∀ b o, b ∉ wr → b ≠ S → s.heap.get? b = some o → h'.get? b = some o) → R (.ok (.ret v)) { s with heap := h', toks := tk }) →
    codeAny (model prog w) A (.builtin "min.loop" ⟨[.ref I, .none, .ref S], []⟩) R s
  | 0, i, s, o, c, hi, hst, hS, hb, hR => by
    obtain ⟨j, rfl⟩ : ∃ j, i = j + 1 := ⟨i - 1, by omega⟩
    obtain ⟨vb, rfl, hP⟩ := hb
    refine codeAny_builtin F.entry_min_loop ?_
    rw [Around.under_plainId F.plain_min_loop _]
    show wpAny _ A.in1 (seqItems? (.ref S) >>= _) _ _ s
    refine wpAny_bind (wpAny_seqItems hS rfl (wpAny_bind (wpAny_tryCatch (W.done s _ _ (show St n s from (show j + 1 = n by omega) ▸ hst) fun h' tk kk => ?_))))
    have hS' : h'.get? S = some { cls := .type "list", dict := none, data := .seq #[vb, vb] c, slots := #[] } := kk S _ hSw hS
    refine wpAny_bind (wpAny_updateSeq hS' rfl (wpAny_bind (wpAny_letGo (wpAny_pure (hR vb _ tk ((show n - 1 = j by omega) ▸ hP) fun b o hb hbS e => ?_)))))
    exact (Heap.get?_update_other _ _ (Ne.symm hbS)).trans (kk b o hb e)
  | k + 1, i, s, o, c, hi, hst, hS, hb, hR => by
    have hname : (toString "min" ++ toString ".loop" : String) = "min.loop" := by decide
    refine codeAny_builtin F.entry_min_loop ?_
    rw [Around.under_plainId F.plain_min_loop _]
    show wpAny _ A.in1 (seqItems? (.ref S) >>= _) _ _ s
    refine wpAny_bind (wpAny_seqItems hS rfl (wpAny_bind (wpAny_tryCatch (W.item i s _ _ (by omega) hst fun v h' tk hP hst' kk => ?_))))
    have hS' := kk S _ hSw hS
    -- the new best is laid down
    have lay : ∀ g : Array Value → Array Value, Best P bt (i + 1) (some v) → g (held o) = held (some v) → codeAny (model prog w) A (.builtin "min.loop" ⟨[.ref I, .none, .ref S], []⟩) R { s with heap := h'.update S (Obj.mapSeq g), toks := tk } := fun g hbest hg => by
      have hU := Heap.get?_update_self (Obj.mapSeq g) hS' rfl
      refine min_run W hcmp hn hSw k (i + 1) _ (some v) _ (by omega) (W.frame (i + 1) ({ s with heap := h', toks := tk } : Shared) _ tk hst' fun b o hbS e => (Heap.get?_update_other _ _ (Ne.symm hbS)).trans e) (by rw [hU]; simp only [Obj.mapSeq, hg]; rfl) hbest fun u h2 tk2 hu k2 => ?_
      exact hR u h2 tk2 hu fun b o hb hbS e => k2 b o hb hbS ((Heap.get?_update_other _ _ (Ne.symm hbS)).trans (kk b o hb e))
    cases i with
    | zero =>
      cases o with
      | some _ => exact hb.elim
      | none =>
        have hS2 : h'.get? S = some { cls := .type "list", dict := none, data := .seq #[] c, slots := #[] } := hS'
        show wpAny _ A.in1 (updateSeq S (fun _ => #[v, v]) >>= _) _ _ _
        refine wpAny_bind (wpAny_updateSeq hS2 rfl ?_)
        rw [hname]
        exact wpAny_pure ⟨plainId_quiet F.plain_min_loop _, lay _ ⟨v, rfl, hP⟩ rfl⟩
    | succ j =>
      obtain ⟨vb, rfl, hPb⟩ := hb
      show wpAny _ A.in1 (tryCatch (holding [v, v] (richCompare .Lt v vb >>= _)) _ >>= _) _ _ _
      refine wpAny_bind (wpAny_tryCatch (wpAny_holding (wpAny_bind (hcmp _ (j + 1) (argBest bt j) v vb _ _ _ hst' hP hPb (wpAny_bind (wpAny_holding (wpAny_truthy_bool (wpAny_bind (wpAny_letGo (wpAny_pure ?_))))))))))
      by_cases hbt : bt (j + 1) (argBest bt j) = true
      · rw [if_pos hbt]
        have hS2 : h'.get? S = some { cls := .type "list", dict := none, data := .seq #[vb, vb] c, slots := #[] } := hS'
        refine wpAny_bind (wpAny_updateSeq hS2 rfl (wpAny_bind (wpAny_letGo ?_)))
        rw [hname]
        exact wpAny_pure ⟨plainId_quiet F.plain_min_loop _, lay _ ⟨v, rfl, by simp only [argBest]; rw [if_pos hbt]; exact hP⟩ rfl⟩
      · rw [if_neg hbt]
        refine wpAny_bind (wpAny_letGo ?_)
        rw [hname]
        refine wpAny_pure ⟨plainId_quiet F.plain_min_loop _, min_run W hcmp hn hSw k (j + 1 + 1) _ (some vb) c (by omega) hst' hS' ⟨vb, rfl, by simp only [argBest]; rw [if_neg hbt]; exact hPb⟩ fun u h2 tk2 hu k2 => ?_⟩
        exact hR u h2 tk2 hu fun b o hb hbS e => k2 b o hb hbS (kk b o hb e)
theorem min_call {prog : Program} {w : World} {A : Around} {E : Value → Shared → Prop} {s : Shared} {x : Value} {Q : Value → Shared → Prop}
    (h : wpAny (model prog w) A.in1 (pyIter x) (fun it s₂ => ∃ I wr n P St bt, it = .ref I ∧ WV prog w A.in1 I s₂.heap.objs.size wr n P St ∧ St 0 s₂ ∧ s₂.heap.objs.size ∉ wr ∧ 0 < n ∧
      (∀ (k i j : Nat) (vi vj : Value) (s : Shared) (Q : Value → Shared → Prop) (E : Value → Shared → Prop), St k s → P i vi → P j vj → Q (.bool (bt i j)) s → wpAny (model prog w) A.in1 (richCompare .Lt vi vj) Q E s) ∧
      ∀ v h' tk, P (argBest bt (n - 1)) v → (∀ b o, b ∉ wr → s₂.heap.get? b = some o → h'.get? b = some o) → Q v { s₂ with heap := h', toks := tk }) E s) :
    wpAny (model prog w) A (call (.builtin "min") [x]) Q E s := by
  have hname : (toString "min" ++ toString ".loop" : String) = "min.loop" := by decide
  refine call_function_tree F.kind_min F.plain_min F.entry_min (F.args_min1 _) ?_
  show wpAny _ A.in1 (Builtin.Builtins.bindParams "min" ["key", "default"] 0 ⟨[], []⟩ >>= _) _ _ s
  refine wpAny_bind (wpAny_of_eq (a := [Option.none, Option.none]) rfl (wpAny_bind (wpAny_pure (wpAny_bind (wpAny_mono h (fun it s₂ h₂ => ?_) fun _ _ e => e)))))
  obtain ⟨I, wr, n, P, St, bt, rfl, W, hst, hSw, hn, hcmp, hQ⟩ := h₂
  refine wpAny_bind (wpAny_newObj_type ?_)
  rw [hname]
  refine wpAny_pure ⟨plainId_quiet F.plain_min_loop _, min_run W hcmp hn hSw n 0 _ none _ (Nat.zero_add _) (W.frame 0 s₂ _ s₂.toks hst fun b _ _ e => Heap.get?_push_of_some _ e) (Heap.get?_push_size _ rfl) trivial fun v h' tk hP hk => ?_⟩
  exact hQ v h' tk hP fun b o hb e => hk b o hb (Nat.ne_of_lt (Heap.lt_size e)) (Heap.get?_push_of_some _ e)

theorem max_run {prog : Program} {w : World} {A : Around} {R : Result → Shared → Prop} {I S : Addr} {wr : List Addr} {n : Nat} {P : Nat → Value → Prop} {St : Nat → Shared → Prop} (W : WV prog w A.in1 I S wr n P St) {bt : Nat → Nat → Bool}
    (hcmp : ∀ (k i j : Nat) (vi vj : Value) (s : Shared) (Q : Value → Shared → Prop) (E : Value → Shared → Prop), St k s → P i vi → P j vj → Q (.bool (bt i j)) s → wpAny (model prog w) A.in1 (richCompare .Gt vi vj) Q E s) (hn : 0 < n) (hSw : S ∉ wr) :
    ∀ (k i : Nat) (s : Shared) (o : Option Value) (c : Nat), i + k = n → St i s → s.heap.get? S = some { cls := .type "list", dict := none, data := .seq (held o) c, slots := #[] } → Best P bt i o →
    (∀ v h' tk, P (argBest bt (n - 1)) v → (∀ b o, b ∉ wr → b ≠ S → s.heap.get? b = some o → h'.get? b = some o) → R (.ok (.ret v)) { s with heap := h', toks := tk }) →
    codeAny (model prog w) A (.builtin "max.loop" ⟨[.ref I, .none, .ref S], []⟩) R s
  | 0, i, s, o, c, hi, hst, hS, hb, hR => by
    obtain ⟨j, rfl⟩ : ∃ j, i = j + 1 := ⟨i - 1, by omega⟩
    obtain ⟨vb, rfl, hP⟩ := hb
    refine codeAny_builtin F.entry_max_loop ?_
    rw [Around.under_plainId F.plain_max_loop _]
    show wpAny _ A.in1 (seqItems? (.ref S) >>= _) _ _ s
    refine wpAny_bind (wpAny_seqItems hS rfl (wpAny_bind (wpAny_tryCatch (W.done s _ _ (show St n s from (show j + 1 = n by omega) ▸ hst) fun h' tk kk => ?_))))
    have hS' : h'.get? S = some { cls := .type "list", dict := none, data := .seq #[vb, vb] c, slots := #[] } := kk S _ hSw hS
    refine wpAny_bind (wpAny_updateSeq hS' rfl (wpAny_bind (wpAny_letGo (wpAny_pure (hR vb _ tk ((show n - 1 = j by omega) ▸ hP) fun b o hb hbS e => ?_)))))
    exact (Heap.get?_update_other _ _ (Ne.symm hbS)).trans (kk b o hb e)
  | k + 1, i, s, o, c, hi, hst, hS, hb, hR => by
    have hname : (toString "max" ++ toString ".loop" : String) = "max.loop" := by decide
    refine codeAny_builtin F.entry_max_loop ?_
    rw [Around.under_plainId F.plain_max_loop _]
    show wpAny _ A.in1 (seqItems? (.ref S) >>= _) _ _ s
    refine wpAny_bind (wpAny_seqItems hS rfl (wpAny_bind (wpAny_tryCatch (W.item i s _ _ (by omega) hst fun v h' tk hP hst' kk => ?_))))
    have hS' := kk S _ hSw hS
    -- the new best is laid down
    have lay : ∀ g : Array Value → Array Value, Best P bt (i + 1) (some v) → g (held o) = held (some v) → codeAny (model prog w) A (.builtin "max.loop" ⟨[.ref I, .none, .ref S], []⟩) R { s with heap := h'.update S (Obj.mapSeq g), toks := tk } := fun g hbest hg => by
      have hU := Heap.get?_update_self (Obj.mapSeq g) hS' rfl
      refine max_run W hcmp hn hSw k (i + 1) _ (some v) _ (by omega) (W.frame (i + 1) ({ s with heap := h', toks := tk } : Shared) _ tk hst' fun b o hbS e => (Heap.get?_update_other _ _ (Ne.symm hbS)).trans e) (by rw [hU]; simp only [Obj.mapSeq, hg]; rfl) hbest fun u h2 tk2 hu k2 => ?_
      exact hR u h2 tk2 hu fun b o hb hbS e => k2 b o hb hbS ((Heap.get?_update_other _ _ (Ne.symm hbS)).trans (kk b o hb e))
    cases i with
    | zero =>
      cases o with
      | some _ => exact hb.elim
      | none =>
        have hS2 : h'.get? S = some { cls := .type "list", dict := none, data := .seq #[] c, slots := #[] } := hS'
        show wpAny _ A.in1 (updateSeq S (fun _ => #[v, v]) >>= _) _ _ _
        refine wpAny_bind (wpAny_updateSeq hS2 rfl ?_)
        rw [hname]
        exact wpAny_pure ⟨plainId_quiet F.plain_max_loop _, lay _ ⟨v, rfl, hP⟩ rfl⟩
    | succ j =>
      obtain ⟨vb, rfl, hPb⟩ := hb
      show wpAny _ A.in1 (tryCatch (holding [v, v] (richCompare .Gt v vb >>= _)) _ >>= _) _ _ _
      refine wpAny_bind (wpAny_tryCatch (wpAny_holding (wpAny_bind (hcmp _ (j + 1) (argBest bt j) v vb _ _ _ hst' hP hPb (wpAny_bind (wpAny_holding (wpAny_truthy_bool (wpAny_bind (wpAny_letGo (wpAny_pure ?_))))))))))
      by_cases hbt : bt (j + 1) (argBest bt j) = true
      · rw [if_pos hbt]
        have hS2 : h'.get? S = some { cls := .type "list", dict := none, data := .seq #[vb, vb] c, slots := #[] } := hS'
        refine wpAny_bind (wpAny_updateSeq hS2 rfl (wpAny_bind (wpAny_letGo ?_)))
        rw [hname]
        exact wpAny_pure ⟨plainId_quiet F.plain_max_loop _, lay _ ⟨v, rfl, by simp only [argBest]; rw [if_pos hbt]; exact hP⟩ rfl⟩
      · rw [if_neg hbt]
        refine wpAny_bind (wpAny_letGo ?_)
        rw [hname]
        refine wpAny_pure ⟨plainId_quiet F.plain_max_loop _, max_run W hcmp hn hSw k (j + 1 + 1) _ (some vb) c (by omega) hst' hS' ⟨vb, rfl, by simp only [argBest]; rw [if_neg hbt]; exact hPb⟩ fun u h2 tk2 hu k2 => ?_⟩
        exact hR u h2 tk2 hu fun b o hb hbS e => k2 b o hb hbS (kk b o hb e)
theorem max_call {prog : Program} {w : World} {A : Around} {E : Value → Shared → Prop} {s : Shared} {x : Value} {Q : Value → Shared → Prop}
    (h : wpAny (model prog w) A.in1 (pyIter x) (fun it s₂ => ∃ I wr n P St bt, it = .ref I ∧ WV prog w A.in1 I s₂.heap.objs.size wr n P St ∧ St 0 s₂ ∧ s₂.heap.objs.size ∉ wr ∧ 0 < n ∧
      (∀ (k i j : Nat) (vi vj : Value) (s : Shared) (Q : Value → Shared → Prop) (E : Value → Shared → Prop), St k s → P i vi → P j vj → Q (.bool (bt i j)) s → wpAny (model prog w) A.in1 (richCompare .Gt vi vj) Q E s) ∧
      ∀ v h' tk, P (argBest bt (n - 1)) v → (∀ b o, b ∉ wr → s₂.heap.get? b = some o → h'.get? b = some o) → Q v { s₂ with heap := h', toks := tk }) E s) :
    wpAny (model prog w) A (call (.builtin "max") [x]) Q E s := by
  have hname : (toString "max" ++ toString ".loop" : String) = "max.loop" := by decide
  refine call_function_tree F.kind_max F.plain_max F.entry_max (F.args_max1 _) ?_
  show wpAny _ A.in1 (Builtin.Builtins.bindParams "max" ["key", "default"] 0 ⟨[], []⟩ >>= _) _ _ s
  refine wpAny_bind (wpAny_of_eq (a := [Option.none, Option.none]) rfl (wpAny_bind (wpAny_pure (wpAny_bind (wpAny_mono h (fun it s₂ h₂ => ?_) fun _ _ e => e)))))
  obtain ⟨I, wr, n, P, St, bt, rfl, W, hst, hSw, hn, hcmp, hQ⟩ := h₂
  refine wpAny_bind (wpAny_newObj_type ?_)
  rw [hname]
  refine wpAny_pure ⟨plainId_quiet F.plain_max_loop _, max_run W hcmp hn hSw n 0 _ none _ (Nat.zero_add _) (W.frame 0 s₂ _ s₂.toks hst fun b _ _ e => Heap.get?_push_of_some _ e) (Heap.get?_push_size _ rfl) trivial fun v h' tk hP hk => ?_⟩
  exact hQ v h' tk hP fun b o hb e => hk b o hb (Nat.ne_of_lt (Heap.lt_size e)) (Heap.get?_push_of_some _ e)

/-- a walk of the library's, seen so -/
theorem WV.of {prog : Program} {w : World} {A : Around} {I S : Addr} {fp wr : List Addr} {n : Nat} {P : Nat → Value → Prop} {St : Nat → Heap → Prop} (W : Walks prog w A I fp wr n P St) (hS : S ∉ fp) : WV prog w A I S wr n P fun i s => St i s.heap :=
  ⟨fun i s h' tk hst hk => W.frame i _ _ hst fun b hb o e => hk b o (fun q => hS (q ▸ hb)) e, fun i s Q E hi hst hQ => W.item i s Q E hi hst fun v h' tk hP hst' hk => hQ v h' tk hP hst' hk, fun s Q E hst hQ => W.done s Q E hst hQ, fun i s Q E hst hQ => W.self i s Q E hst hQ⟩
end Mine

namespace Mine
open PySem PySem.W PyProof.Rows PySem.Calls

/-! map -/
section
open F
theorem own_map : Manifest.owners.lookup (String.ofList ['p', 'a', 'm'].reverse) = some Manifest.sig_map := by kernel_rfl
theorem slot_map_init : Slot "map" "__init__" "object.__init__" :=
  .of (owner := "object") (n := "__init__") (by rw [typeLookup_type, builtinLookup_eq_fast]; kernel_rfl) (by decide +kernel) (by decide +kernel) (by decide +kernel)
    (by first | exact .inl (by decide +kernel) | exact .inr (by decide +kernel)) (by rw [isSubtype_type]; kernel_rfl)
theorem slot_map_iter : Slot "map" "__iter__" "map.__iter__" :=
  .of (owner := "map") (n := "__iter__") (by rw [typeLookup_type, builtinLookup_eq_fast]; kernel_rfl) (by decide +kernel) (by decide +kernel) (by decide +kernel)
    (by first | exact .inl (by decide +kernel) | exact .inr (by decide +kernel)) (by rw [isSubtype_type]; kernel_rfl)
theorem slot_map_next : Slot "map" "__next__" "map.__next__" :=
  .of (owner := "map") (n := "__next__") (by rw [typeLookup_type, builtinLookup_eq_fast]; kernel_rfl) (by decide +kernel) (by decide +kernel) (by decide +kernel)
    (by first | exact .inl (by decide +kernel) | exact .inr (by decide +kernel)) (by rw [isSubtype_type]; kernel_rfl)
theorem args_map_iter (a : Value) : argsOk "map.__iter__" ⟨[a], []⟩ := by
  unfold argsOk; rw [signature?_of (id := "map.__iter__") (n := ['_', '_', 'r', 'e', 't', 'i', '_', '_']) (o := ['p', 'a', 'm']) (by kernel_rfl) own_map]; kernel_rfl
theorem args_map_next (a : Value) : argsOk "map.__next__" ⟨[a], []⟩ := by
  unfold argsOk; rw [signature?_of (id := "map.__next__") (n := ['_', '_', 't', 'x', 'e', 'n', '_', '_']) (o := ['p', 'a', 'm']) (by kernel_rfl) own_map]; kernel_rfl
theorem entry_map_next : entryFor table "map.__next__" = some Builtin.«map.__next__» := entryFor_of_tree (by kernel_rfl)
theorem entry_map_iter : entryFor table "map.__iter__" = some Builtin.«dict_keyiterator.__iter__» :=
  entryFor_alias (id' := "dict_keyiterator.__iter__") (by kernel_rfl) (by first | rfl | decide +kernel | (unfold String.splitOn; simp +decide [String.splitOnAux])) (by decide +kernel) (by kernel_rfl)
theorem mro_map : mroOf (.type "map") = pure [.type "map", .type "object"] := by rw [mroOf_type]; kernel_rfl
theorem lookup_map_new : typeLookup (.type "map") "__new__" = pure (some (.builtin "map.__new__")) := by rw [typeLookup_type, builtinLookup_eq_fast]; kernel_rfl
theorem called_map : TypeCalled "map" "map.__new__" "object.__init__" :=
  ⟨by decide +kernel, by decide +kernel, ⟨_, _, mro_map⟩, madeBy_type mro_map lookup_map_new (by decide +kernel), by decide +kernel, by rw [isSubtype_type]; kernel_rfl, slot_map_init⟩
theorem typeCall_map_2 (a b : Value) : checkTypeCall "map" ⟨[a, b], []⟩ = pure () := by kernel_rfl
theorem newCall_map_2 (a b : Value) : checkBuiltinCall "map.__new__" ⟨[.type "map", a, b], []⟩ = pure () := by kernel_rfl
theorem entry_map_new : entryFor table "map.__new__" = some Builtin.«map.__new__» := entryFor_of_tree (by kernel_rfl)
theorem map_no_len : typeLookup (.type "map") "__len__" = pure none := by rw [typeLookup_type, builtinLookup_eq_fast]; kernel_rfl
theorem map_no_hint : typeLookup (.type "map") "__length_hint__" = pure none := by rw [typeLookup_type, builtinLookup_eq_fast]; kernel_rfl
end
theorem sub_map : isSubtype (.type "map") (.type "map") = pure true := by rw [isSubtype_type]; kernel_rfl

abbrev IsMap (h : Heap) (m TI : Addr) (f : Value) : Prop := h.get? m = some { cls := .type "map", dict := none, data := .fields #[.ref TI, f], slots := #[] }
abbrev IsOne (h : Heap) (T : Addr) (a : Value) : Prop := h.get? T = some { cls := .type "tuple", data := .seq #[a] }
abbrev mapH1 (h : Heap) (l : Addr) : Heap := h.push { cls := .type "list_iterator", data := .fields #[.ref l, .int 0 0] }
abbrev mapH2 (h : Heap) (l : Addr) : Heap := (mapH1 h l).push { cls := .type "tuple", data := .seq #[.ref h.objs.size] }
abbrev mapH3 (h : Heap) (l : Addr) (f : Value) : Heap := (mapH2 h l).push { cls := .type "map", data := .fields #[.ref (mapH1 h l).objs.size, f] }
theorem meets_map_new (f : Value) (l : Addr) (xs : Array Value) :
    Meets (Builtin.«map.__new__» ⟨[.type "map", f, .ref l], []⟩) (fun _ R s => s.heap.IsList l xs ∧
      R (.ok (.ret (.ref (mapH2 s.heap l).objs.size))) { s with heap := mapH3 s.heap l f }) :=
  .of_wp fun prog w A R s h => by
    obtain ⟨hp, g, d, tk, os⟩ := s; obtain ⟨hl1, h⟩ := h
    have hsub := sub_map
    have hL1 : Heap.IsList (Shared.heap ⟨hp, g, d, tk, os⟩) l xs := hl1
    wp_walk using wpAny_pyIter_list hL1
    exact ⟨_, rfl, h⟩
end Mine

namespace Mine
open PySem PySem.W PyProof.Rows PySem.Calls

section
variable {prog : Program} {w : World} {A : Around} {E : Value → Shared → Prop} {s : Shared}
theorem call_map_2 {f : Value} {l : Addr} {xs : Array Value} {Q : Value → Shared → Prop} (hl1 : s.heap.IsList l xs)
    (h : ∀ h', IsMap h' (s.heap.objs.size + 2) (s.heap.objs.size + 1) f → IsOne h' (s.heap.objs.size + 1) (.ref s.heap.objs.size) → h'.IsListIter s.heap.objs.size l 0 → h'.objs.size = s.heap.objs.size + 3 →
      (∀ c o, s.heap.get? c = some o → h'.get? c = some o) → Q (.ref (s.heap.objs.size + 2)) { s with heap := h' }) :
    wpAny (model prog w) A (call (.type "map") [f, .ref l]) Q E s := by
  refine callType_new called_map (by decide) (typeCall_map_2 _ _) (newCall_map_2 _ _) (fun obj => F.args_object_init_3 obj _ _) entry_map_new
    (meets_map_new f l xs) ⟨hl1, ?_⟩
  have z1 : (mapH1 s.heap l).objs.size = s.heap.objs.size + 1 := Heap.size_push ..
  have z2 : (mapH2 s.heap l).objs.size = s.heap.objs.size + 2 := by rw [Heap.size_push, z1]
  have z3 : (mapH3 s.heap l f).objs.size = s.heap.objs.size + 3 := by rw [Heap.size_push, z2]
  have g3 : (mapH3 s.heap l f).get? (mapH2 s.heap l).objs.size = some _ := Heap.get?_push_size _ rfl
  have g2 : (mapH3 s.heap l f).get? (mapH1 s.heap l).objs.size = some _ := Heap.get?_push_of_some _ (Heap.get?_push_size _ rfl)
  have g1 : (mapH3 s.heap l f).get? s.heap.objs.size = some _ := Heap.get?_push_of_some _ (Heap.get?_push_of_some _ (Heap.get?_push_size _ rfl))
  show _ ∧ _
  rw [z2, z1] at g3
  rw [z1] at g2
  rw [z2]
  exact ⟨⟨_, g3, rfl⟩, h _ g3 g2 ⟨_, g1, rfl, rfl⟩ z3 fun c o x => Heap.get?_push_of_some _ (Heap.get?_push_of_some _ (Heap.get?_push_of_some _ x))⟩

theorem pyIter_map {m TI : Addr} {f : Value} {Q : Value → Shared → Prop} (he : IsMap s.heap m TI f) (h : Q (.ref m) s) : wpAny (model prog w) A (pyIter (.ref m)) Q E s := by
  have hT : s.TypeIs (.ref m) "map" := ⟨_, he, rfl⟩
  refine wpAny_pyIter_slot hT slot_map_iter (wpAny_call_entry slot_map_iter hT entry_map_iter ?_ (args_map_iter _))
  show wpAny _ _ (ret (.ref m)) _ _ s
  exact wpAny_pure ⟨_, rfl, "map", _, hT, slot_map_next.lookup, h⟩

theorem pyNext_map_item {m TI it l : Addr} {f x : Value} {i : Nat} {items : Array Value} {Q : Option Value → Shared → Prop} (he : IsMap s.heap m TI f) (ht : IsOne s.heap TI (.ref it)) (hit : s.heap.IsListIter it l i) (hl : s.heap.IsList l items) (hx : items[i]? = some x) (hmi : m ≠ it)
    (hc : ∀ (h' : Heap) (E' : Value → Shared → Prop), h'.IsListIter it l (i + 1) → Heap.SameBut it s.heap h' → wpAny (model prog w) A.in1 (call f [x]) (fun v s' => Q (some v) s') E' { s with heap := h' }) :
    wpAny (model prog w) A (pyNext (.ref m)) Q E s := by
  have hT : s.TypeIs (.ref m) "map" := ⟨_, he, rfl⟩
  unfold pyNext
  refine wpAny_bind (wpAny_attempt (wpAny_callSpecial?_slot (name := Str.ofString "__next__") hT slot_map_next
    (wpAny_call_entry slot_map_next hT entry_map_next ?_ (args_map_next _))))
  show wpAny _ _ (field (.ref m) 0 >>= _) _ _ _
  refine wpAny_bind (wpAny_field he rfl (x := .ref TI) rfl ?_)
  show wpAny _ _ (seqItems? (.ref TI) >>= _) _ _ _
  refine wpAny_bind (wpAny_seqItems ht rfl ?_)
  refine wpAny_bind (wpAny_arrayLoop ?_)
  simp only [List.forIn_cons, List.forIn_nil]
  refine wpAny_bind (wpAny_bind (wpAny_holding (wpAny_nextOf_list_item hit hl hx fun h' hit' hs' => wpAny_pure (wpAny_pure ?_))))
  have he' : IsMap h' m TI f := (hs'.2 m hmi).trans he
  show wpAny _ _ (field (.ref m) 1 >>= _) _ _ _
  refine wpAny_bind (wpAny_field he' rfl (x := f) rfl ?_)
  refine wpAny_bind (wpAny_holding (wpAny_mono (hc h' _ hit' hs') (fun v s2 hv => ?_) fun _ _ x => x))
  refine wpAny_bind (wpAny_letGo (wpAny_pure ⟨v, rfl, wpAny_pure hv⟩))
theorem pyNext_map_end {m TI it l : Addr} {f : Value} {i : Nat} {items : Array Value} {Q : Option Value → Shared → Prop} (hh : A.handled = none) (he : IsMap s.heap m TI f) (ht : IsOne s.heap TI (.ref it)) (hit : s.heap.IsListIter it l i) (hl : s.heap.IsList l items) (hx : items[i]? = none)
    (hQ : ∀ h', Heap.ExtBut it s.heap h' → Q none { s with heap := h' }) :
    wpAny (model prog w) A (pyNext (.ref m)) Q E s := by
  have hT : s.TypeIs (.ref m) "map" := ⟨_, he, rfl⟩
  unfold pyNext
  refine wpAny_bind (wpAny_attempt (wpAny_callSpecial?_slot (name := Str.ofString "__next__") hT slot_map_next
    (wpAny_call_entry slot_map_next hT entry_map_next ?_ (args_map_next _))))
  show wpAny _ _ (field (.ref m) 0 >>= _) _ _ _
  refine wpAny_bind (wpAny_field he rfl (x := .ref TI) rfl ?_)
  show wpAny _ _ (seqItems? (.ref TI) >>= _) _ _ _
  refine wpAny_bind (wpAny_seqItems ht rfl ?_)
  refine wpAny_bind (wpAny_arrayLoop ?_)
  simp only [List.forIn_cons, List.forIn_nil]
  refine wpAny_bind (wpAny_bind (wpAny_holding (wpAny_nextOf_list_end hh hit hl hx fun h' x he' hx' => ?_)))
  obtain ⟨o, ho, hc⟩ := hx'
  refine wpAny_bind (wpAny_isInstance (T := "StopIteration") (b := true) ⟨o, ho, hc⟩ isSubtype_stop ?_)
  exact wpAny_pure (hQ _ he')
end

section
variable {prog : Program} {w : World} {A : Around} {R : Result → Shared → Prop} {I S : Addr} {wr : List Addr} {n : Nat} {P : Nat → Value → Prop} {St : Nat → Shared → Prop}
theorem extend_loop (W : WV prog w A.in1 I S wr n P St) (hn : n ≤ sizeLine) (hSw : S ∉ wr) (res : Value) :
    ∀ (k i : Nat) (s : Shared) (acc : Array Value) (c : Nat), n - i = k → i ≤ n → St i s → s.heap.get? S = some { cls := .type "list", dict := none, data := .seq acc c, slots := #[] } → ItemsOf P acc i →
    (∀ h' tk acc' c', (∀ b o, b ∉ S :: wr → s.heap.get? b = some o → h'.get? b = some o) → h'.get? S = some { cls := .type "list", dict := none, data := .seq acc' c', slots := #[] } → ItemsOf P acc' n → R (.ok (.ret res)) { s with heap := h', toks := tk }) →
    codeAny (model prog w) A (.builtin "list.extend.loop" ⟨[.ref S, .ref I, res], []⟩) R s := by
  intro k
  induction k with
  | zero =>
    intro i s acc c hk hi hst hS hacc hR
    have hin : i = n := by omega
    subst hin
    refine codeAny_builtin F.entry_extend_loop ?_
    rw [Around.under_plainId F.plain_extend_loop _]
    show wpAny _ A.in1 (pyNext (.ref I) >>= _) _ _ s
    refine wpAny_bind (W.done s _ _ hst fun h' tk hm => ?_)
    exact wpAny_pure (hR h' tk acc c (fun b o hb e => hm b o (fun q => hb (.tail _ q)) e) (hm S _ hSw hS) hacc)
  | succ k ih =>
    intro i s acc c hk hi hst hS hacc hR
    have hlt : i < n := by omega
    refine codeAny_builtin F.entry_extend_loop ?_
    rw [Around.under_plainId F.plain_extend_loop _]
    show wpAny _ A.in1 (pyNext (.ref I) >>= _) _ _ s
    refine wpAny_bind (W.item i s _ _ hlt hst fun v h' tk hP hst' hm => ?_)
    have hS' := hm S _ hSw hS
    show wpAny _ A.in1 (updateSeq S (·.push v) >>= _) _ _ _
    refine wpAny_bind ?_
    refine wpAny_updateSeq hS' rfl (wpAny_pure ⟨plainId_quiet F.plain_extend_loop _, ih (i + 1) _ (acc.push v) _ (by omega) hlt (W.frame _ _ _ tk hst' fun b o hb e => ?_) (Heap.get?_update_self _ hS' rfl) (hacc.push hP) fun h'' tk'' acc' c' hm'' hS'' hacc' => ?_⟩)
      (by rw [hacc.1]; omega) (by show (acc.push v).size ≤ sizeLine + 1; rw [Array.size_push, hacc.1]; omega)
    · exact (Heap.get?_update_other _ _ (Ne.symm hb)).trans e
    · refine hR h'' tk'' acc' c' (fun b o hb e => hm'' b o hb ?_) hS'' hacc'
      exact (Heap.get?_update_other _ _ (fun h : S = b => hb (by rw [h]; exact List.mem_cons_self))).trans (hm b o (fun q => hb (.tail _ q)) e)
end

section
variable {prog : Program} {w : World} {A : Around} {E : Value → Shared → Prop} {s : Shared} {I : Addr} {wr : List Addr} {n : Nat} {P : Nat → Value → Prop} {St : Nat → Shared → Prop}
theorem collect_map {Q : List Value → Shared → Prop} (W : WV prog w A.in1 I s.heap.objs.size wr n P St) (hT : ∀ i s, St i s → s.TypeIs (.ref I) "map") (hst : St 0 s) (hSw : s.heap.objs.size ∉ wr) (hSI : s.heap.objs.size ≠ I)
    (hQ : ∀ (h' : Heap) (tk : Nat) (acc : Array Value), (∀ b o, b ∉ wr → s.heap.get? b = some o → h'.get? b = some o) → ItemsOf P acc n → Q acc.toList { s with heap := h', toks := tk }) (hn : n ≤ sizeLine) : wpAny (model prog w) A (collect (.ref I)) Q E s := by
  unfold collect
  refine wpAny_bind (wpAny_runValue (codeAny_builtin F.entry_proto_collect ?_))
  rw [Around.under_plainId F.plain_proto_collect _]
  show wpAny _ A.in1 (newList [] >>= fun l => again (.builtin "list.__iadd__" ⟨[l, .ref I], []⟩)) _ _ s
  refine wpAny_bind (wpAny_newObj_type ?_)
  refine wpAny_pure ⟨plainId_quiet F.plain_list_iadd _, codeAny_builtin F.entry_list_iadd ?_⟩
  rw [Around.under_plainId F.plain_list_iadd _]
  have hst₁ : St 0 { s with heap := s.heap.push { cls := .type "list", data := .seq ([] : List Value).toArray } } := W.frame 0 s (s.heap.push { cls := .type "list", data := .seq ([] : List Value).toArray }) s.toks hst fun b _ _ e => Heap.get?_push_of_some _ e
  show wpAny _ A.in1 (Builtin.List.listExtendWith (.ref s.heap.objs.size) (.ref I) (.ref s.heap.objs.size)) _ _ _
  unfold Builtin.List.listExtendWith
  refine wpAny_bind (wpAny_typeOf (hT 0 _ hst₁) ?_)
  have h1 : Builtin.List.listSameRef (.ref s.heap.objs.size) (.ref I) = false := by simp [Builtin.List.listSameRef, hSI]
  have h2 : (Value.type "map" == Value.type "list") = false := by decide
  have h3 : (Value.type "map" == Value.type "tuple") = false := by decide
  simp only [h1, h2, h3, Bool.or_false, Bool.false_eq_true, if_false]
  refine wpAny_bind (W.self 0 _ _ _ hst₁ ?_)
  refine wpAny_bind (wpAny_holding ?_)
  unfold Builtin.List.listLengthHint
  refine wpAny_bind (wpAny_specialOf (hT 0 _ hst₁) map_no_len ?_)
  show wpAny _ A.in1 (specialOf (Value.ref I) (Str.ofString "__length_hint__") >>= _) _ _ _
  refine wpAny_bind (wpAny_specialOf (hT 0 _ hst₁) map_no_hint ?_)
  refine wpAny_pure ?_
  show wpAny _ A.in1 (rule "list.extend.makes-room" >>= fun _ => Builtin.List.listTouch (.ref s.heap.objs.size) >>= fun _ =>
    again (.builtin "list.extend.loop" ⟨[.ref s.heap.objs.size, .ref I, .ref s.heap.objs.size], []⟩)) _ _ _
  refine wpAny_bind (wpAny_rule ?_)
  have hS₁ : (s.heap.push { cls := .type "list", data := .seq ([] : List Value).toArray }).get? s.heap.objs.size = some { cls := .type "list", data := .seq ([] : List Value).toArray } := Heap.get?_push_size _ rfl
  refine wpAny_bind ?_
  show wpAny _ A.in1 (updateSeq s.heap.objs.size (·.push .none) >>= fun _ => updateSeq s.heap.objs.size (·.pop)) _ _ _
  refine wpAny_bind (wpAny_updateSeq hS₁ rfl ?_)
  have hS₂ := Heap.get?_update_self (Obj.mapSeq (·.push Value.none)) hS₁ rfl
  refine wpAny_updateSeq hS₂ rfl ?_
  have hS₃ := Heap.get?_update_self (Obj.mapSeq (·.pop)) hS₂ rfl
  have oth : ∀ b o, b ≠ s.heap.objs.size → (s.heap.push { cls := .type "list", data := .seq ([] : List Value).toArray }).get? b = some o →
      (((s.heap.push { cls := .type "list", data := .seq ([] : List Value).toArray }).update s.heap.objs.size (Obj.mapSeq (·.push Value.none))).update s.heap.objs.size (Obj.mapSeq (·.pop))).get? b = some o :=
    fun b o hb e => (Heap.get?_update_other _ _ (Ne.symm hb)).trans ((Heap.get?_update_other _ _ (Ne.symm hb)).trans e)
  refine wpAny_pure ⟨plainId_quiet F.plain_extend_loop _, extend_loop W hn hSw _ n 0 _ _ _ rfl (Nat.zero_le _)
    (W.frame 0 ({ s with heap := s.heap.push { cls := .type "list", data := .seq ([] : List Value).toArray } } : Shared) _ s.toks hst₁ fun b o hb e => oth b o hb e) hS₃ (ItemsOf.nil P) fun h' tk acc' c' hm hS' hacc => ?_⟩
  show wpAny _ A (load s.heap.objs.size >>= _) _ _ _
  refine wpAny_bind (wpAny_load hS' ?_)
  refine wpAny_pure (hQ h' tk acc' (fun b o hb e => ?_) hacc)
  have hbS : b ≠ s.heap.objs.size := Nat.ne_of_lt (Heap.lt_size e)
  exact hm b o (fun q => (List.mem_cons.mp q).elim hbS hb) (oth b o hbS (Heap.get?_push_of_some _ e))
end

open AutoSeq1 (wpAny_loadPart') in
theorem code_tuple_map {prog : Program} {w : World} {A : Around} {E : Value → Shared → Prop} {s : Shared} {I : Addr} {wr : List Addr} {n : Nat} {P : Nat → Value → Prop} {St : Nat → Shared → Prop} {Q₁ : Value → Shared → Prop} (W : WV prog w A.in1.in1 I s.heap.objs.size wr n P St) (hT : ∀ i s, St i s → s.TypeIs (.ref I) "map") (hst : St 0 s) (hSw : s.heap.objs.size ∉ wr) (hSI : s.heap.objs.size ≠ I)
    (h : ∀ (h' : Heap) (tk : Nat) (acc : Array Value), (∀ b o, b ∉ wr → s.heap.get? b = some o → h'.get? b = some o) → ItemsOf P acc n → Q₁ (.ref h'.objs.size) { s with heap := h'.push { cls := .type "tuple", data := .seq acc }, toks := tk }) (hsz : n ≤ sizeLine) :
    codeAny (model prog w) A (.call (.builtin "tuple.__new__") ⟨[.type "tuple", .ref I], []⟩) (wants Q₁ E) s := by
  refine codeAny_of_tree ?_
  show wpAny _ A.in1 (do checkBuiltinCall "tuple.__new__" ⟨[.type "tuple", .ref I], []⟩; again (.builtin "tuple.__new__" ⟨[.type "tuple", .ref I], []⟩)) _ _ s
  refine wpAny_bind (wpAny_of_eq (F.newCall_tuple_1 _) (wpAny_pure ⟨plainId_quiet F.plain_tuple_new _, codeAny_builtin F.entry_tuple_new ?_⟩))
  rw [Around.under_plainId F.plain_tuple_new _]
  have hsub := sub_tuple_self
  have hinit := init_tuple_lookup
  have hmh := madeHere_tuple
  have hTI := hT 0 s hst
  wp_walk using wpAny_typeOf hTI, collect_map (hn := hsz) W hT hst hSw hSI
  intro h' tk acc hm hacc
  show wpAny _ _ (Builtin.Tuple.tupleExact acc.toList.toArray >>= fun v => ret v) _ _ _
  unfold Builtin.Tuple.tupleExact
  refine wpAny_bind (wpAny_newObj_type ?_ (by show acc.toList.toArray.size ≤ sizeLine; simp only [Array.toArray_toList]; rw [hacc.1]; exact hsz))
  refine wpAny_pure ?_
  have e : acc.toList.toArray = acc := by simp
  rw [e]
  exact h h' tk acc hm hacc

theorem call_tuple_map {prog : Program} {w : World} {A : Around} {E : Value → Shared → Prop} {s : Shared} {I : Addr} {wr : List Addr} {n : Nat} {P : Nat → Value → Prop} {St : Nat → Shared → Prop} {Q : Value → Shared → Prop} (W : WV prog w A.in1.in1.in1 I s.heap.objs.size wr n P St) (hT : ∀ i s, St i s → s.TypeIs (.ref I) "map") (hst : St 0 s) (hSw : s.heap.objs.size ∉ wr) (hSI : s.heap.objs.size ≠ I)
    (hQ : ∀ (h' : Heap) (tk : Nat) (acc : Array Value), (∀ b o, b ∉ wr → s.heap.get? b = some o → h'.get? b = some o) → ItemsOf P acc n → Q (.ref h'.objs.size) { s with heap := h'.push { cls := .type "tuple", data := .seq acc }, toks := tk }) (hsz : n ≤ sizeLine) :
    wpAny (model prog w) A (call (.type "tuple") [.ref I]) Q E s := by
  refine callType_codes (Q₁ := fun obj s₁ => s₁.TypeIs obj "tuple" ∧ Q obj s₁) F.called_tuple (F.typeCall_tuple_1 _) F.entry_object_init
    (code_tuple_map (hsz := hsz) W hT hst hSw hSI fun h' tk acc hm hacc => ⟨⟨_, Heap.get?_push_size _ rfl, rfl⟩, hQ h' tk acc hm hacc⟩) fun obj s₁ h₁ => ?_
  exact ⟨h₁.1, F.args_object_init_2 obj _, object_init_meets F.called_tuple.init.lookup F.called_tuple.made (by decide) prog w A.in1 _ s₁ ⟨h₁.1, rfl, h₁.2⟩⟩
end Mine

namespace Mine
open PySem PySem.W PyProof.Rows PySem.Calls
variable {C : Cx}

theorem DA.of_get {h : Heap} {M : Mu} : ∀ {ds : List Dt} {vs : List Value}, vs.length = ds.length → (∀ (i : Nat) (v : Value) (d : Dt), vs[i]? = some v → ds[i]? = some d → D C h M d v) → DA C h M ds vs
  | [], [], _, _ => rfl
  | [], _ :: _, e, _ => by cases e
  | _ :: _, [], e, _ => by cases e
  | d :: ds, v :: vs, e, h => ⟨v, vs, rfl, h 0 v d rfl rfl, DA.of_get (by simpa using e) fun i v d h1 h2 => h (i + 1) v d h1 h2⟩

section
variable {n : Nat} {env : Env} {σ : Sto} {ow : Own} {p1 p2 p3 q1 q2 : Pos} {e : PySem.Expr} {f1 f2 fn : PySem.Str} {ns : List PySem.Str}
theorem Ev.tupMap (ht : Bi C f1 (.type "tuple")) (hm : Bi C f2 (.type "map")) (hf : ∀ x, Con C n fn [.str x] (.str x)) (he : Ev C (n + 1) env σ ow e (dS ns)) (hlen : ns.length ≤ 2 ^ 10)
    (hx1 : env.kindOf f1 = some .globalImplicit := by rfl) (hx2 : env.kindOf f2 = some .globalImplicit := by rfl) (hx3 : env.kindOf fn = some .globalImplicit := by rfl) (hg : env.globals = mainGlobals := by rfl) (hgb : env.builtins = builtinsNs := by rfl) (hp : noStar e = true := by rfl)
    (hk : env.scope.kind = .function := by rfl) (hd1 : (f1 == ("__debug__" : PySem.Str)) = false := by decide +kernel) (hd2 : (f2 == ("__debug__" : PySem.Str)) = false := by decide +kernel) (hd3 : (fn == ("__debug__" : PySem.Str)) = false := by decide +kernel) :
    Ev C (n + 1) env σ ow (.Call (.Name f1 p1) [.Call (.Name f2 p2) [.Name fn p3, e] [] q2] [] q1) (.tup (ns.map Dt.str)) := fun A M s E hA hrd Q hQ => by
  obtain ⟨a, o, fd, h1, h2, h3, _⟩ := hf ""
  have hfc : ∀ x, Vs C n (fun vs => call (.ref a) vs) [.str x] (.str x) := fun x => by
    obtain ⟨a', o', fd', h1', _, _, h4⟩ := hf x
    rw [h1] at h1'; cases h1'; exact h4
  refine call_global (fv := .type "tuple") (M := M) hx1 rfl (Calls.loadGlobal_builtin (by rw [hg]; exact hrd.toWd.top.g) ht.free (by rw [hgb]; exact hrd.toWd.top.b) ht.val ⟨rfl, rfl⟩) ?_ hk hd1
  refine callWith_other (by intro _ q; cases q) (by simp) ?_
  refine evalArgs_plain (spliced_cons ?_)
  refine call_global (fv := .type "map") (M := M) hx2 (by simp only [List.all_cons, List.all_nil, hp]; rfl) (Calls.loadGlobal_builtin (by rw [hg]; exact hrd.toWd.top.g) hm.free (by rw [hgb]; exact hrd.toWd.top.b) hm.val ⟨rfl, rfl⟩) ?_ hk hd2
  refine callWith_other (by intro _ q; cases q) (by simp) ?_
  refine evalArgs_plain (spliced_cons (Calls.Name_function_global hk hx3 (Calls.loadGlobal_global (by rw [hg]; exact hrd.toWd.top.g) h1 ?_) hd3))
  refine spliced_cons (he A M s E hA hrd _ fun v s1 k1 g1 => spliced_nil ?_)
  obtain ⟨l, vs, rfl, hml, hl, hD⟩ := g1
  have hw1 := (hrd.keeps k1).toWd
  have hlt : l < s1.heap.objs.size := by obtain ⟨o, ho, _⟩ := hl; exact Heap.lt_size ho
  have hvl := hD.length
  rw [List.length_map] at hvl
  show wpAny _ A (call (.type "map") [.ref a, .ref l]) _ E s1
  refine call_map_2 hl fun h' hM hO hI hsz hk' => spliced_nil ?_
  generalize hi0 : s1.heap.objs.size = it at hM hO hI hsz hlt ⊢
  have k2 : Keeps s1 { s1 with heap := h' } := kp_mk0 hk'
  have hw2 := hw1.keeps k2
  have freshit : s1.heap.get? it = Option.none := hi0 ▸ none_at s1
  have freshb : C.base.get? it = Option.none := by
    rcases q : C.base.get? it with _ | o
    · rfl
    · exact absurd ((hw1.base _ _ q).symm.trans freshit) (by simp)
  have hl' : h'.IsList l vs.toArray := hl.at fun o e => hk' l o e
  have e24 : sizeLine = 2 ^ 24 := rfl
  have l3 : it + 2 < h'.objs.size := by rw [hsz]; exact Nat.lt_succ_self _
  have l2 : it + 1 < h'.objs.size := Nat.lt_of_succ_lt l3
  have l1 : it < h'.objs.size := Nat.lt_of_succ_lt l2
  have n2 : it + 2 ≠ h'.objs.size := Nat.ne_of_lt l3
  have n1 : it + 1 ≠ h'.objs.size := Nat.ne_of_lt l2
  have n0 : it ≠ h'.objs.size := Nat.ne_of_lt l1
  have nl : l ≠ h'.objs.size := Nat.ne_of_lt (Nat.lt_trans hlt l1)
  have W : WV C.prog C.w A.in1.in1.in1 (it + 2) h'.objs.size [it] ns.length (fun i v => ∃ x t, ns[i]? = some x ∧ v = .str x t) (fun i s => IsMap s.heap (it + 2) (it + 1) (.ref a) ∧ IsOne s.heap (it + 1) (.ref it) ∧ s.heap.IsListIter it l i ∧ s.heap.IsList l vs.toArray ∧ Wd C M s) := by
    refine ⟨fun i s h'' tk hst hkk => ?_, fun i s Q E hi hst hQ => ?_, fun s Q E hst hQ => ?_, fun i s Q E hst hQ => pyIter_map hst.1 hQ⟩
    · obtain ⟨g1, g2, g3, g4, g5⟩ := hst
      refine ⟨hkk _ _ n2 g1, hkk _ _ n1 g2, g3.at fun o e => hkk _ o n0 e, g4.at fun o e => hkk _ o nl e, fun b o e => hkk b o ?_ (g5.base b o e), g5.off, fun b hb => ?_⟩
      · exact Nat.ne_of_lt (Heap.lt_size (hw2.base b o e))
      · obtain ⟨o, ho⟩ := g5.own b hb
        exact ⟨o, hkk b o (Nat.ne_of_lt (hw2.lt hb)) ho⟩
    · obtain ⟨g1, g2, g3, g4, g5⟩ := hst
      have hi' : i < vs.length := by omega
      obtain ⟨x, hx⟩ : ∃ x, ns[i]? = some x := ⟨_, List.getElem?_eq_getElem hi⟩
      obtain ⟨u, hu, t, rfl⟩ := (hD.get (i := i) (d := .str x) (by rw [List.getElem?_map, hx]; rfl))
      refine pyNext_map_item g1 g2 g3 g4 (x := .str x t) (by simpa using hu) (Nat.ne_of_gt (Nat.lt_of_succ_lt (Nat.lt_succ_self _))) fun h3 E' hit3 hsb => ?_
      have hitM : ∀ b, M b → b ≠ it := fun b hb q => by
        obtain ⟨o, ho⟩ := hw1.own b hb
        rw [q, freshit] at ho; cases ho
      have hw3 : Wd C M { s with heap := h3 } := ⟨fun b o e => hsb.extBut b o (fun q => by rw [q, freshb] at e; cases e) (g5.base b o e), g5.off, fun b hb => by
        obtain ⟨o, ho⟩ := g5.own b hb
        exact ⟨o, hsb.extBut b o (hitM b hb) ho⟩⟩
      have hRoom : Room n A.in1.in1.in1.in1 := ⟨by have := hA.1; show A.depth + n < _; omega, by have := hA.2.1; show A.units + 1 + 1 + 1 + 1 + 10 * n + 100 < _; omega, hA.2.2⟩
      refine hfc x _ M _ E' [.str x t] hRoom hw3 ⟨_, _, rfl, ⟨t, rfl⟩, rfl⟩ _ fun v s4 k4 g6 => ?_
      obtain ⟨t', rfl⟩ := g6
      have hw4 := hw3.keeps k4
      obtain ⟨h4, tk4, rfl, kk4⟩ := k4
      refine hQ _ h4 tk4 ⟨x, t', hx, rfl⟩ ⟨kk4 _ _ (hsb.extBut _ _ (Nat.ne_of_gt (Nat.lt_of_succ_lt (Nat.lt_succ_self _))) g1), kk4 _ _ (hsb.extBut _ _ (Nat.succ_ne_self _) g2), hit3.at fun o e => kk4 _ o e, g4.at fun o e => kk4 _ o (hsb.extBut _ _ (Nat.ne_of_lt hlt) e), hw4⟩ fun b o hb e => kk4 b o (hsb.extBut b o (fun q => hb (List.mem_singleton.mpr q)) e)
    · obtain ⟨g1, g2, g3, g4, g5⟩ := hst
      exact pyNext_map_end hA.none g1 g2 g3 g4 (by simp [hvl]) fun h3 hx => hQ h3 s.toks fun b o hb e => hx b o (fun q => hb (List.mem_singleton.mpr q)) e
  refine call_tuple_map W (fun i s hst => ⟨_, hst.1, rfl⟩) ⟨hM, hO, hI, hl', hw2⟩ (by simp only [List.mem_singleton]; exact n0.symm) n2.symm (fun h3 tk acc hk3 hacc => ?_) (by omega)
  have itn : ∀ b, M b → b ∉ [it] := fun b hb q => by
    obtain ⟨o, ho⟩ := hw1.own b hb
    rw [List.mem_singleton.mp q, freshit] at ho; cases ho
  refine hQ _ _ (kp_trans k1 ?_) ⟨_, acc.toList, rfl, fun hb => ?_, ⟨_, Heap.get?_push_size _ rfl, rfl, _, rfl⟩, ?_⟩
  · exact ⟨_, tk, rfl, fun b o e => Heap.get?_push_of_some _ (hk3 b o (fun q => by rw [List.mem_singleton.mp q, freshit] at e; cases e) (hk' b o e))⟩
  · obtain ⟨o, ho⟩ := hw2.own _ hb
    exact absurd (Heap.lt_size (hk3 _ o (itn _ hb) ho)) (Nat.lt_irrefl _)
  · refine DA.of_get (by rw [List.length_map]; exact hacc.1) fun i v d e1 e2 => ?_
    obtain ⟨x, t, hx, rfl⟩ := hacc.2 i v (by simpa using e1)
    rw [List.getElem?_map, hx] at e2
    cases e2
    exact ⟨t, rfl⟩
end
end Mine

namespace Mine
open PySem PySem.W PyProof.Rows PySem.Calls
variable {C : Cx}

theorem Walks.ext {prog : Program} {w : World} {A : Around} {I : Addr} {fp wr : List Addr} {n : Nat} {P : Nat → Value → Prop} {St : Nat → Heap → Prop} (W : Walks prog w A I fp wr n P St) (X : Heap → Prop) (fx : List Addr)
    (hX : ∀ h h', X h → (∀ b ∈ fx, ∀ o, h.get? b = some o → h'.get? b = some o) → X h') (hd : ∀ b ∈ fx, b ∉ wr) : Walks prog w A I (fp ++ fx) wr n P (fun i h => St i h ∧ X h) where
  sub := fun b hb => List.mem_append_left _ (W.sub b hb)
  frame := fun i h h' hst hk => ⟨W.frame i h h' hst.1 fun b hb o e => hk b (List.mem_append_left _ hb) o e, hX h h' hst.2 fun b hb o e => hk b (List.mem_append_right _ hb) o e⟩
  item := fun i s Q E hi hst hQ => W.item i s Q E hi hst.1 fun v h' tk hP hst' hk => hQ v h' tk hP ⟨hst', hX _ _ hst.2 fun b hb o e => hk b o (hd b hb) e⟩ hk
  done := fun s Q E hst hQ => W.done s Q E hst.1 hQ
  self := fun i s Q E hst hQ => W.self i s Q E hst.1 hQ

def addrs (vs : List Value) : List Addr := vs.filterMap fun v => match v with
  | .ref a => some a
  | _ => none
theorem mem_addrs {vs : List Value} {b : Addr} (h : b ∈ addrs vs) : ∃ j : Nat, vs[j]? = some (Value.ref b) := by
  unfold addrs at h
  obtain ⟨v, hv, e⟩ := List.mem_filterMap.mp h
  cases v <;> simp at e
  subst e
  exact List.getElem?_of_mem hv
theorem addrs_mem {vs : List Value} {b : Addr} {j : Nat} (h : vs[j]? = some (.ref b)) : b ∈ addrs vs := List.mem_filterMap.mpr ⟨_, List.mem_of_getElem? h, rfl⟩
def Inner (ks : List Nat) (F : List PySem.Str) (vs : List Value) (h : Heap) : Prop := ∀ (j : Nat) (v : Value), vs[j]? = some v → ∃ a us k, v = .ref a ∧ ks[j]? = some k ∧ h.IsList a us.toArray ∧ StrsAre us (F.take k)
theorem Inner.at {ks : List Nat} {F : List PySem.Str} {vs : List Value} {h h' : Heap} (x : Inner ks F vs h) (k : ∀ b ∈ addrs vs, ∀ o, h.get? b = some o → h'.get? b = some o) : Inner ks F vs h' := fun j v e => by
  obtain ⟨a, us, q, rfl, e1, e2, e3⟩ := x j v e
  exact ⟨a, us, q, rfl, e1, e2.at fun o => k a (addrs_mem e) o, e3⟩

theorem best_lt (kf : Nat → Nat) : ∀ n, argBest (fun i j => decide (kf i < kf j)) n ≤ n ∧ ∀ i, i ≤ n → kf (argBest (fun i j => decide (kf i < kf j)) n) ≤ kf i
  | 0 => ⟨Nat.le_refl _, fun i hi => by rw [Nat.le_zero.mp hi]; exact Nat.le_refl _⟩
  | n + 1 => by
    obtain ⟨h1, h2⟩ := best_lt kf n
    simp only [argBest]
    by_cases h : kf (n + 1) < kf (argBest (fun i j => decide (kf i < kf j)) n)
    · rw [if_pos (decide_eq_true h)]
      refine ⟨Nat.le_refl _, fun i hi => ?_⟩
      rcases Nat.lt_or_ge i (n + 1) with q | q
      · have := h2 i (by omega); omega
      · rw [show i = n + 1 by omega]; exact Nat.le_refl _
    · rw [if_neg (by simpa using h)]
      refine ⟨by omega, fun i hi => ?_⟩
      rcases Nat.lt_or_ge i (n + 1) with q | q
      · exact h2 i (by omega)
      · rw [show i = n + 1 by omega]; omega
theorem best_gt (kf : Nat → Nat) : ∀ n, argBest (fun i j => decide (kf i > kf j)) n ≤ n ∧ ∀ i, i ≤ n → kf i ≤ kf (argBest (fun i j => decide (kf i > kf j)) n)
  | 0 => ⟨Nat.le_refl _, fun i hi => by rw [Nat.le_zero.mp hi]; exact Nat.le_refl _⟩
  | n + 1 => by
    obtain ⟨h1, h2⟩ := best_gt kf n
    simp only [argBest]
    by_cases h : kf (n + 1) > kf (argBest (fun i j => decide (kf i > kf j)) n)
    · rw [if_pos (decide_eq_true h)]
      refine ⟨Nat.le_refl _, fun i hi => ?_⟩
      rcases Nat.lt_or_ge i (n + 1) with q | q
      · have := h2 i (by omega); omega
      · rw [show i = n + 1 by omega]; exact Nat.le_refl _
    · rw [if_neg (by simpa using h)]
      refine ⟨by omega, fun i hi => ?_⟩
      rcases Nat.lt_or_ge i (n + 1) with q | q
      · exact h2 i (by omega)
      · rw [show i = n + 1 by omega]; omega
theorem StrsAre.length {vs : List Value} {ns : List PySem.Str} (g : StrsAre vs ns) : vs.length = ns.length := by
  induction g with
  | nil => rfl
  | cons n t _ ih => rw [List.length_cons, List.length_cons, ih]
theorem StrsAre.get {vs : List Value} {ns : List PySem.Str} (g : StrsAre vs ns) : ∀ {i : Nat} {x : PySem.Str}, ns[i]? = some x → ∃ t, vs[i]? = some (.str x t) := by
  induction g with
  | nil => intro i x e; cases e
  | cons n t _ ih =>
    intro i x e
    cases i with
    | zero => cases e; exact ⟨t, rfl⟩
    | succ i => exact ih (i := i) e

theorem Vs.min_chain {n : Nat} {F : List PySem.Str} {ks : List Nat} {m : Nat} (hne : ks ≠ []) (hk : ∀ k ∈ ks, k ≤ F.length) (hm : m ∈ ks) (hmin : ∀ k ∈ ks, m ≤ k) : Vs C n (fun vs => call (.builtin "min") vs) [.list (ks.map fun k => dS (F.take k))] (dS (F.take m)) := fun A M s E vs hA hw g Q hQ => by
  obtain ⟨v, r, rfl, ⟨l, vs, rfl, hml, hl, hD⟩, rfl⟩ := g
  have hlen := hD.length
  rw [List.length_map] at hlen
  have hlt : l < s.heap.objs.size := by obtain ⟨o, ho, _⟩ := hl; exact Heap.lt_size ho
  have hX0 : Inner ks F vs s.heap := fun j v e => by
    obtain ⟨d, hd, gd⟩ := hD.at e
    rw [List.getElem?_map] at hd
    cases hj : ks[j]? with
    | none => rw [hj] at hd; cases hd
    | some k =>
      rw [hj] at hd; cases hd
      obtain ⟨a, us, rfl, _, hla, hda⟩ := gd
      exact ⟨a, us, k, rfl, rfl, hla, strs_are hda⟩
  have W0 := Walks.list (prog := C.prog) (w := C.w) (A := A.in1) hA.none s.heap.objs.size l (Nat.ne_of_lt hlt) vs.toArray
  have hfx : ∀ b ∈ addrs vs, b < s.heap.objs.size := fun b hb => by
    obtain ⟨j, hj⟩ := mem_addrs hb
    obtain ⟨a, us, k, e, _, hla, _⟩ := hX0 j (.ref b) hj
    cases e
    obtain ⟨o, ho, _⟩ := hla
    exact Heap.lt_size ho
  have W := Walks.ext W0 (Inner ks F vs) (addrs vs) (fun h h' x kk => Inner.at x kk) (fun b hb q => by
    have := hfx b hb
    rw [List.mem_singleton.mp q] at this
    exact Nat.lt_irrefl _ this)
  have key := best_lt (fun i => ks.getD i 0)
  refine min_call (wpAny_pyIter_list hl ⟨s.heap.objs.size, _, _, _, _, fun i j => decide (ks.getD i 0 < ks.getD j 0), rfl, WV.of W (fun hb => ?_), ⟨⟨⟨_, Heap.get?_push_size _ rfl, rfl, rfl⟩, hl.push _⟩, Inner.at hX0 fun b _ o e => Heap.get?_push_of_some _ e⟩, (fun hb => by rw [List.mem_singleton] at hb; exact absurd ((Heap.size_push ..).symm.trans hb) (Nat.succ_ne_self _)), by simp only [List.size_toArray]; have := List.length_pos_iff.mpr hne; omega, fun k i j vi vj s' Q' E' hst hi hj hq => ?_, fun v h' tk hv hkk => ?_⟩)
  · have hb : (s.heap.push { cls := .type "list_iterator", data := .fields #[.ref l, .int 0 0] }).objs.size ∈ [s.heap.objs.size, l] ++ addrs vs := hb
    rw [Heap.size_push] at hb
    rcases List.mem_append.mp hb with q | q
    · simp only [List.mem_cons, List.not_mem_nil, or_false] at q
      rcases q with q | q
      · exact absurd q (Nat.succ_ne_self _)
      · exact absurd hlt (by rw [← q]; exact Nat.not_lt.mpr (Nat.le_succ _))
    · exact absurd (hfx _ q) (Nat.not_lt.mpr (Nat.le_succ _))
  · obtain ⟨a, us, k1, rfl, e1, l1, r1⟩ := hst.2 i vi (by simpa using hi)
    obtain ⟨b, us2, k2, rfl, e2, l2, r2⟩ := hst.2 j vj (by simpa using hj)
    have z1 : us.length = k1 := by have := StrsAre.length r1; rw [List.length_take] at this; have := hk k1 (List.mem_of_getElem? e1); omega
    have z2 : us2.length = k2 := by have := StrsAre.length r2; rw [List.length_take] at this; have := hk k2 (List.mem_of_getElem? e2); omega
    refine rich_lt l1 l2 (by have := hA.2.1; show A.units + 1 < _; omega) (fun j h1 h2 => ?_) ?_
    · simp only [List.size_toArray] at h1 h2
      have hF : j < F.length := by have := hk k1 (List.mem_of_getElem? e1); omega
      obtain ⟨t, ht⟩ := StrsAre.get r1 (i := j) (x := F[j]) (by rw [List.getElem?_take_of_lt (by omega), List.getElem?_eq_getElem hF])
      obtain ⟨u, hu⟩ := StrsAre.get r2 (i := j) (x := F[j]) (by rw [List.getElem?_take_of_lt (by omega), List.getElem?_eq_getElem hF])
      rw [List.getElem?_eq_getElem h1] at ht
      rw [List.getElem?_eq_getElem h2] at hu
      exact ⟨F[j], t, u, by simpa using ht, by simpa using hu⟩
    · have e1' : ks.getD i 0 = k1 := by rw [List.getD_eq_getElem?_getD, e1]; rfl
      have e2' : ks.getD j 0 = k2 := by rw [List.getD_eq_getElem?_getD, e2]; rfl
      simp only [List.size_toArray, z1, z2]
      dsimp only at hq
      rw [e1', e2'] at hq
      exact hq
  · have hv : vs[argBest (fun i j => decide (ks.getD i 0 < ks.getD j 0)) (vs.toArray.size - 1)]? = some v := by simpa using hv
    have hpos := List.length_pos_iff.mpr hne
    have hsz : vs.toArray.size = ks.length := by simp [hlen]
    rw [hsz] at hv
    obtain ⟨q1, q2⟩ := key (ks.length - 1)
    generalize argBest (fun i j => decide (ks.getD i 0 < ks.getD j 0)) (ks.length - 1) = bi at hv q1 q2
    obtain ⟨d, hd, gd⟩ := hD.at hv
    rw [List.getElem?_map] at hd
    have hbi : bi < ks.length := by omega
    rw [List.getElem?_eq_getElem hbi] at hd
    cases hd
    have em : ks[bi] = m := by
      have h1 := hmin ks[bi] (List.getElem_mem hbi)
      obtain ⟨j, hj, e⟩ := List.getElem_of_mem hm
      have h2 := q2 j (by omega)
      simp only [List.getD_eq_getElem?_getD, List.getElem?_eq_getElem hbi, List.getElem?_eq_getElem hj, Option.getD_some, e] at h2
      omega
    rw [← em] at hQ
    have kk : Keeps s { s with heap := h', toks := tk } := kp_mk fun b o e => hkk b o (fun q => by rw [List.mem_singleton.mp q, none_at s] at e; cases e) (Heap.get?_push_of_some _ e)
    exact hQ v _ kk (gd.up (kp_heap kk))

theorem Vs.max_chain {n : Nat} {F : List PySem.Str} {ks : List Nat} {m : Nat} (hne : ks ≠ []) (hk : ∀ k ∈ ks, k ≤ F.length) (hm : m ∈ ks) (hmin : ∀ k ∈ ks, k ≤ m) : Vs C n (fun vs => call (.builtin "max") vs) [.list (ks.map fun k => dS (F.take k))] (dS (F.take m)) := fun A M s E vs hA hw g Q hQ => by
  obtain ⟨v, r, rfl, ⟨l, vs, rfl, hml, hl, hD⟩, rfl⟩ := g
  have hlen := hD.length
  rw [List.length_map] at hlen
  have hlt : l < s.heap.objs.size := by obtain ⟨o, ho, _⟩ := hl; exact Heap.lt_size ho
  have hX0 : Inner ks F vs s.heap := fun j v e => by
    obtain ⟨d, hd, gd⟩ := hD.at e
    rw [List.getElem?_map] at hd
    cases hj : ks[j]? with
    | none => rw [hj] at hd; cases hd
    | some k =>
      rw [hj] at hd; cases hd
      obtain ⟨a, us, rfl, _, hla, hda⟩ := gd
      exact ⟨a, us, k, rfl, rfl, hla, strs_are hda⟩
  have W0 := Walks.list (prog := C.prog) (w := C.w) (A := A.in1) hA.none s.heap.objs.size l (Nat.ne_of_lt hlt) vs.toArray
  have hfx : ∀ b ∈ addrs vs, b < s.heap.objs.size := fun b hb => by
    obtain ⟨j, hj⟩ := mem_addrs hb
    obtain ⟨a, us, k, e, _, hla, _⟩ := hX0 j (.ref b) hj
    cases e
    obtain ⟨o, ho, _⟩ := hla
    exact Heap.lt_size ho
  have W := Walks.ext W0 (Inner ks F vs) (addrs vs) (fun h h' x kk => Inner.at x kk) (fun b hb q => by
    have := hfx b hb
    rw [List.mem_singleton.mp q] at this
    exact Nat.lt_irrefl _ this)
  have key := best_gt (fun i => ks.getD i 0)
  refine max_call (wpAny_pyIter_list hl ⟨s.heap.objs.size, _, _, _, _, fun i j => decide (ks.getD i 0 > ks.getD j 0), rfl, WV.of W (fun hb => ?_), ⟨⟨⟨_, Heap.get?_push_size _ rfl, rfl, rfl⟩, hl.push _⟩, Inner.at hX0 fun b _ o e => Heap.get?_push_of_some _ e⟩, (fun hb => by rw [List.mem_singleton] at hb; exact absurd ((Heap.size_push ..).symm.trans hb) (Nat.succ_ne_self _)), by simp only [List.size_toArray]; have := List.length_pos_iff.mpr hne; omega, fun k i j vi vj s' Q' E' hst hi hj hq => ?_, fun v h' tk hv hkk => ?_⟩)
  · have hb : (s.heap.push { cls := .type "list_iterator", data := .fields #[.ref l, .int 0 0] }).objs.size ∈ [s.heap.objs.size, l] ++ addrs vs := hb
    rw [Heap.size_push] at hb
    rcases List.mem_append.mp hb with q | q
    · simp only [List.mem_cons, List.not_mem_nil, or_false] at q
      rcases q with q | q
      · exact absurd q (Nat.succ_ne_self _)
      · exact absurd hlt (by rw [← q]; exact Nat.not_lt.mpr (Nat.le_succ _))
    · exact absurd (hfx _ q) (Nat.not_lt.mpr (Nat.le_succ _))
  · obtain ⟨a, us, k1, rfl, e1, l1, r1⟩ := hst.2 i vi (by simpa using hi)
    obtain ⟨b, us2, k2, rfl, e2, l2, r2⟩ := hst.2 j vj (by simpa using hj)
    have z1 : us.length = k1 := by have := StrsAre.length r1; rw [List.length_take] at this; have := hk k1 (List.mem_of_getElem? e1); omega
    have z2 : us2.length = k2 := by have := StrsAre.length r2; rw [List.length_take] at this; have := hk k2 (List.mem_of_getElem? e2); omega
    refine rich_gt l1 l2 (by have := hA.2.1; show A.units + 1 < _; omega) (fun j h1 h2 => ?_) ?_
    · simp only [List.size_toArray] at h1 h2
      have hF : j < F.length := by have := hk k1 (List.mem_of_getElem? e1); omega
      obtain ⟨t, ht⟩ := StrsAre.get r1 (i := j) (x := F[j]) (by rw [List.getElem?_take_of_lt (by omega), List.getElem?_eq_getElem hF])
      obtain ⟨u, hu⟩ := StrsAre.get r2 (i := j) (x := F[j]) (by rw [List.getElem?_take_of_lt (by omega), List.getElem?_eq_getElem hF])
      rw [List.getElem?_eq_getElem h1] at ht
      rw [List.getElem?_eq_getElem h2] at hu
      exact ⟨F[j], t, u, by simpa using ht, by simpa using hu⟩
    · have e1' : ks.getD i 0 = k1 := by rw [List.getD_eq_getElem?_getD, e1]; rfl
      have e2' : ks.getD j 0 = k2 := by rw [List.getD_eq_getElem?_getD, e2]; rfl
      simp only [List.size_toArray, z1, z2]
      dsimp only at hq
      rw [e1', e2'] at hq
      exact hq
  · have hv : vs[argBest (fun i j => decide (ks.getD i 0 > ks.getD j 0)) (vs.toArray.size - 1)]? = some v := by simpa using hv
    have hpos := List.length_pos_iff.mpr hne
    have hsz : vs.toArray.size = ks.length := by simp [hlen]
    rw [hsz] at hv
    obtain ⟨q1, q2⟩ := key (ks.length - 1)
    generalize argBest (fun i j => decide (ks.getD i 0 > ks.getD j 0)) (ks.length - 1) = bi at hv q1 q2
    obtain ⟨d, hd, gd⟩ := hD.at hv
    rw [List.getElem?_map] at hd
    have hbi : bi < ks.length := by omega
    rw [List.getElem?_eq_getElem hbi] at hd
    cases hd
    have em : ks[bi] = m := by
      have h1 := hmin ks[bi] (List.getElem_mem hbi)
      obtain ⟨j, hj, e⟩ := List.getElem_of_mem hm
      have h2 := q2 j (by omega)
      simp only [List.getD_eq_getElem?_getD, List.getElem?_eq_getElem hbi, List.getElem?_eq_getElem hj, Option.getD_some, e] at h2
      omega
    rw [← em] at hQ
    have kk : Keeps s { s with heap := h', toks := tk } := kp_mk fun b o e => hkk b o (fun q => by rw [List.mem_singleton.mp q, none_at s] at e; cases e) (Heap.get?_push_of_some _ e)
    exact hQ v _ kk (gd.up (kp_heap kk))
end Mine

namespace Mine
open PySem PySem.W PyProof.Rows PySem.Calls

section
variable {prog : Program} {w : World} {A : Around} {E : Value → Shared → Prop} {s : Shared}
theorem pyHash_true {Q : Int → Shared → Prop} (h : Q 1 { s with toks := s.toks + 1 }) : wpAny (model prog w) A (pyHash (.bool true)) Q E s := by
  unfold pyHash
  have hv : [Value.bool true].any Value.onHeap = false := rfl
  refine wpAny_bind ?_
  rw [cRoomFor, if_neg (by rw [hv]; exact Bool.false_ne_true)]; refine wpAny_pure ?_
  refine wpAny_bind (wpAny_specialOf (PySem.typeIs_bool s true) F.slot_bool_hash.lookup ?_)
  show wpAny _ _ (if (some (Value.builtin "int.__hash__") == some Value.none) = true then _ else _) Q E s
  rw [if_neg (by decide)]
  refine wpAny_bind (wpAny_specialOf (PySem.typeIs_bool s true) F.slot_bool_hash.lookup ?_)
  show wpAny _ _ (callSpecialIfBoundUnlessNone? (.bool true) "__hash__" _ >>= _) Q E s
  refine wpAny_bind (wpAny_callSpecialIfBoundUnlessNone?_slot (PySem.typeIs_bool s true) F.slot_bool_hash
    (wpAny_call_entry F.slot_bool_hash (PySem.typeIs_bool s true) F.entry_int_hash
      (show wpAny _ _ (do ret (← mkInt 1)) _ _ s from wpAny_ret_mkInt ?_) (F.args_int_hash_1 _)))
  exact wpAny_pure h
theorem eqBool_true {Q : Bool → Shared → Prop} (h : Q true s) : wpAny (model prog w) A (eqBool (.bool true) (.bool true)) Q E s := by
  unfold eqBool
  refine wpAny_holding ?_
  show wpAny _ _ (if (Value.bool true == Value.bool true) = true then _ else _) Q E s
  rw [if_pos (by decide)]
  exact wpAny_bind (wpAny_rule (wpAny_pure h))
end
def isTrueV : Value → Bool
  | .bool true => true
  | _ => false
theorem isTrueV_eq {v : Value} (h : isTrueV v = true) : v = .bool true := by
  unfold isTrueV at h
  split at h
  · rfl
  · cases h
def unitKind (prog : Program) (w : World) : KeyKind prog w Unit where
  is := fun _ v => isTrueV v
  hash := fun _ => 1
  inj := fun _ _ _ _ _ => rfl
  byValue := fun k v h => by rw [isTrueV_eq h]; rfl
  pyHash := fun hv h => by rw [isTrueV_eq hv]; exact pyHash_true h
  eqBool := fun hu hv h => by rw [isTrueV_eq hu, isTrueV_eq hv]; exact eqBool_true h
  «strs» := fun k x t v h => by cases h

def tab1 (led : Bool) : SetTable := { mask := 7, place := #[1], dummies := #[], finger := 0, led := led, moves := 0, plain := true }
abbrev Set0 (led : Bool) (h : Heap) (D : Addr) : Prop := h.get? D = some { cls := .type "set", dict := none, data := .set #[] 0 (.fresh 0 0 led) }
def Set1 (led : Bool) (h : Heap) (D : Addr) : Prop := ∃ ep, h.get? D = some { cls := .type "set", dict := none, data := .set #[(1, .bool true)] ep (tab1 led) }

theorem layNew1 (led : Bool) : layNew (.fresh 0 0 led) #[] 1 (.bool true) = (#[(1, .bool true)], tab1 led, false, false) := by
  cases led <;> rfl
section
variable {prog : Program} {w : World} {A : Around} {E : Value → Shared → Prop} {s : Shared} {D : Addr} {led : Bool}
theorem add_first {Q : Bool → Shared → Prop} (ho : Set0 led s.heap D) (h : ∀ h' tk b, Heap.SameBut D s.heap h' → Set1 led h' D → Q b { s with heap := h', toks := tk }) :
    wpAny (model prog w) A (setAdd D (.bool true)) Q E s := by
  have hf : (SetTable.fresh 0 0 led).fits (#[] : Array (Int × Value)).size = true := by cases led <;> rfl
  unfold setAdd
  refine wpAny_holding (wpAny_bind (pyHash_true ?_))
  unfold setAddHashed setAddHashedIn
  refine wpAny_holding (wpAny_bind (wpAny_setState_of ho rfl hf ?_))
  dsimp only
  rw [byScan_of (knd := unitKind prog w) (es := #[]) (x := .bool true) rfl (by decide) (fun e he => by simp at he)]
  simp only [↓reduceIte]
  unfold setAddByScan
  refine wpAny_bind ?_
  refine wpAny_bind (wpAny_rule ?_)
  refine wpAny_bind (wpAny_setScan_of (knd := unitKind prog w) (k := ()) rfl ho rfl hf (fun e he => by simp at he) ?_)
  simp only [List.findIdx?_nil]
  rw [layNew1]
  dsimp only
  refine wpAny_bind (wpAny_pure ?_)
  rw [show (tab1 led).plain = true from rfl]
  simp only [↓reduceIte]
  refine wpAny_bind ?_
  rw [hashByValue_scannable 8 rfl]
  refine wpAny_pure ?_
  simp only [plainKind, ↓reduceIte]
  refine wpAny_bind (wpAny_storeSet_of ho rfl ?_ (by decide))
  have ht : (!false && (tab1 led).tooFull) = false := by cases led <;> rfl
  rw [ht]
  simp only [Bool.false_eq_true, ↓reduceIte]
  refine wpAny_pure (wpAny_pure ?_)
  refine h _ _ _ (Heap.SameBut.update ..) ⟨1, ?_⟩
  have := Heap.get?_update_self (Obj.putSet #[(1, .bool true)] (tab1 led)) ho (by rfl)
  exact this
theorem add_again {Q : Bool → Shared → Prop} (ho : Set1 led s.heap D) (h : ∀ tk b, Q b { s with toks := tk }) :
    wpAny (model prog w) A (setAdd D (.bool true)) Q E s := by
  obtain ⟨ep, ho⟩ := ho
  have hf : (tab1 led).fits (#[((1 : Int), Value.bool true)] : Array (Int × Value)).size = true := by cases led <;> rfl
  unfold setAdd
  refine wpAny_holding (wpAny_bind (pyHash_true ?_))
  unfold setAddHashed setAddHashedIn
  refine wpAny_holding (wpAny_bind (wpAny_setState_of ho rfl hf ?_))
  dsimp only
  rw [byScan_of (knd := unitKind prog w) (es := #[((1 : Int), Value.bool true)]) (x := .bool true) rfl (by decide) (fun e he => by simp only [List.mem_singleton] at he; subst he; exact ⟨⟨(), rfl, rfl⟩, rfl⟩)]
  simp only [↓reduceIte]
  unfold setAddByScan
  refine wpAny_bind ?_
  refine wpAny_bind (wpAny_rule ?_)
  refine wpAny_bind (wpAny_setScan_of (knd := unitKind prog w) (k := ()) rfl ho rfl hf (fun e he => ?_) ?_)
  · simp only [List.mem_singleton] at he; subst he; exact ⟨⟨(), rfl, rfl⟩, rfl⟩
  · exact wpAny_pure (wpAny_pure (h _ _))
end
end Mine

namespace Mine
open PySem PySem.W PyProof.Rows PySem.Calls

theorem own_si : Manifest.owners.lookup (String.ofList ['r', 'o', 't', 'a', 'r', 'e', 't', 'i', '_', 't', 'e', 's'].reverse) = some Manifest.sig_set_iterator := by kernel_rfl
theorem slot_si_next : Slot "set_iterator" "__next__" "set_iterator.__next__" :=
  .of (owner := "set_iterator") (n := "__next__") (by rw [typeLookup_type, builtinLookup_eq_fast]; kernel_rfl) (by decide +kernel) (by decide +kernel) (by decide +kernel)
    (by first | exact .inl (by decide +kernel) | exact .inr (by decide +kernel)) (by rw [isSubtype_type]; kernel_rfl)
theorem args_si_next (a : Value) : argsOk "set_iterator.__next__" ⟨[a], []⟩ := by
  unfold argsOk; rw [signature?_of (id := "set_iterator.__next__") (n := ['_', '_', 't', 'x', 'e', 'n', '_', '_']) (o := ['r', 'o', 't', 'a', 'r', 'e', 't', 'i', '_', 't', 'e', 's']) (by kernel_rfl) own_si]; kernel_rfl
theorem entry_si_next : entryFor table "set_iterator.__next__" = some Builtin.«set_iterator.__next__» := entryFor_of_tree (by kernel_rfl)

section
variable {prog : Program} {w : World} {A : Around} {E : Value → Shared → Prop} {s : Shared} {D : Addr} {led : Bool} {ep : Nat}
abbrev Set1e (led : Bool) (ep : Nat) (h : Heap) (D : Addr) : Prop := h.get? D = some { cls := .type "set", dict := none, data := .set #[(1, .bool true)] ep (tab1 led) }
theorem fits1 : (tab1 led).fits (#[((1 : Int), Value.bool true)] : Array (Int × Value)).size = true := by cases led <;> rfl
def nextSlot (led : Bool) : Nat := if led then 2 else 0
theorem pick1 {α : Type} (f : Nat → Nat) (x : α) : pickOrder f #[x] = #[x] := by
  unfold pickOrder pickOrder.go
  have : f 0 % [x].length = 0 := by simp [Nat.mod_one]
  show (match ([x] : List α)[f 0 % [x].length]? with
    | some y => pickOrder.go f 0 1 (([x] : List α).eraseIdx (f 0 % [x].length)) (#[].push y)
    | none => #[]) = #[x]
  rw [this]
  rfl
theorem setNext_1 {Q : Option (Value × Nat) → Shared → Prop} (ho : Set1e led ep s.heap D) (hl : led = !w.params.followText "set-order") (h : Q (some (.bool true, nextSlot led)) s) : wpAny (model prog w) A (setNext D 0 0 ep) Q E s := by
  unfold setNext
  refine wpAny_bind (wpAny_setState_of ho rfl fits1 ?_)
  dsimp only
  unfold setsByText
  refine wpAny_bind (wpAny_bind (wpAny_askSetting (wpAny_pure ?_)))
  cases hb : w.params.followText "set-order" with
  | false =>
    rw [hb] at hl
    subst hl
    have hb' : (model prog w).w.params.followText "set-order" = false := hb
    simp only [hb', Bool.false_eq_true, ↓reduceIte]
    rw [if_neg (by decide)]
    refine wpAny_bind (wpAny_of_eq (a := ()) (by rfl) ?_)
    exact wpAny_pure h
  | true =>
    rw [hb] at hl
    subst hl
    have hb' : (model prog w).w.params.followText "set-order" = true := hb
    simp only [hb', ↓reduceIte, bne_self_eq_false, Bool.false_eq_true]
    unfold setWalk setsByText
    refine wpAny_bind (wpAny_bind (wpAny_setState_of ho rfl fits1 ?_))
    dsimp only
    refine wpAny_bind (wpAny_bind (wpAny_askSetting (wpAny_pure ?_)))
    simp only [hb', ↓reduceIte]
    refine wpAny_bind (wpAny_askSetting (wpAny_pure (wpAny_pure ?_)))
    rw [pick1]
    exact h
theorem setNext_2 {Q : Option (Value × Nat) → Shared → Prop} (ho : Set1e led ep s.heap D) (hl : led = !w.params.followText "set-order") (h : Q none s) : wpAny (model prog w) A (setNext D (nextSlot led) 1 ep) Q E s := by
  unfold setNext
  refine wpAny_bind (wpAny_setState_of ho rfl fits1 ?_)
  dsimp only
  unfold setsByText
  refine wpAny_bind (wpAny_bind (wpAny_askSetting (wpAny_pure ?_)))
  cases hb : w.params.followText "set-order" with
  | false =>
    rw [hb] at hl
    subst hl
    have hb' : (model prog w).w.params.followText "set-order" = false := hb
    simp only [hb', Bool.false_eq_true, ↓reduceIte]
    rw [if_neg (by decide)]
    refine wpAny_bind (wpAny_of_eq (a := ()) (by rfl) ?_)
    exact wpAny_pure h
  | true =>
    rw [hb] at hl
    subst hl
    have hb' : (model prog w).w.params.followText "set-order" = true := hb
    simp only [hb', ↓reduceIte, bne_self_eq_false, Bool.false_eq_true]
    unfold setWalk setsByText
    refine wpAny_bind (wpAny_bind (wpAny_setState_of ho rfl fits1 ?_))
    dsimp only
    refine wpAny_bind (wpAny_bind (wpAny_askSetting (wpAny_pure ?_)))
    simp only [hb', ↓reduceIte]
    refine wpAny_bind (wpAny_askSetting (wpAny_pure (wpAny_pure ?_)))
    rw [pick1]
    exact h

abbrev SIt (h : Heap) (I D : Addr) (slot i ep : Nat) : Prop := h.get? I = some { cls := .type "set_iterator", data := .fields #[rawInt slot, rawInt i, .ref D, rawInt 1, rawInt ep] }
theorem pyIter_set {Q : Value → Shared → Prop} (ho : Set1e led ep s.heap D) (h : SIt (s.heap.push { cls := .type "set_iterator", data := .fields #[rawInt (0 : Nat), rawInt (0 : Nat), .ref D, rawInt 1, rawInt ep] }) s.heap.objs.size D 0 0 ep → Q (.ref s.heap.objs.size) { s with heap := s.heap.push { cls := .type "set_iterator", data := .fields #[rawInt (0 : Nat), rawInt (0 : Nat), .ref D, rawInt 1, rawInt ep] } }) :
    wpAny (model prog w) A (pyIter (.ref D)) Q E s := by
  have hT : s.TypeIs (.ref D) "set" := ⟨_, ho, rfl⟩
  refine wpAny_pyIter_slot hT F.slot_set_iter (wpAny_call_entry F.slot_set_iter hT (show entryFor table "set.__iter__" = some Builtin.«frozenset.__iter__» from entryFor_alias (id' := "frozenset.__iter__") (by kernel_rfl) (by first | rfl | decide +kernel | (unfold String.splitOn; simp +decide [String.splitOnAux])) (by decide +kernel) (by kernel_rfl)) ?_ (F.args_set_iter_1 _))
  show wpAny _ _ (Builtin.Frozenset.sizeOf D >>= _) _ _ s
  unfold Builtin.Frozenset.sizeOf
  refine wpAny_bind (wpAny_bind (wpAny_setEntries_of ho rfl fits1 (wpAny_pure ?_)))
  show wpAny _ _ (setDrawn D >>= _) _ _ s
  unfold setDrawn setsByText
  refine wpAny_bind (wpAny_bind (wpAny_setState_of ho rfl fits1 ?_))
  dsimp only
  refine wpAny_bind (wpAny_bind (wpAny_askSetting (wpAny_pure (wpAny_pure ?_))))
  have hd : ∀ b : Bool, wpAny (model prog w) A.in1 (do
      let first ← if (b && false) = true then newTuple ((← drawOrder 1 (List.range 1)).map fun (i : Nat) => rawInt i) else pure (rawInt 0)
      ret (← newFields "set_iterator" [first, rawInt 0, .ref D, rawInt (1 : Nat), rawInt (← setEpoch D)])) (fun fin s' => ∃ v, fin = .done (.ret v) ∧ ∃ T' r, s'.TypeIs v T' ∧ typeLookup (.type T') "__next__" = pure (some r) ∧ Q v s') E s := fun b => by
    rw [Bool.and_false]
    simp only [Bool.false_eq_true, ↓reduceIte]
    refine wpAny_bind (wpAny_pure (wpAny_bind (wpAny_setEpoch_of ho rfl fits1 ?_)))
    exact wpAny_bind (wpAny_newObj_type (wpAny_pure ⟨_, rfl, "set_iterator", _, ⟨_, Heap.get?_push_size _ rfl, rfl⟩, slot_si_next.lookup, h (Heap.get?_push_size _ rfl)⟩))
  exact hd _
theorem pyNext_set1 {I : Addr} {Q : Option Value → Shared → Prop} (ho : Set1e led ep s.heap D) (hl : led = !w.params.followText "set-order") (hI : SIt s.heap I D 0 0 ep)
    (h : ∀ h', Heap.SameBut I s.heap h' → SIt h' I D (nextSlot led) 1 ep → Q (some (.bool true)) { s with heap := h' }) : wpAny (model prog w) A (pyNext (.ref I)) Q E s := by
  have hT : s.TypeIs (.ref I) "set_iterator" := ⟨_, hI, rfl⟩
  unfold pyNext
  refine wpAny_bind (wpAny_attempt (wpAny_callSpecial?_slot (name := Str.ofString "__next__") hT slot_si_next
    (wpAny_call_entry slot_si_next hT entry_si_next ?_ (args_si_next _))))
  show wpAny _ _ (fieldsOf (.ref I) >>= _) _ _ _
  refine wpAny_bind (wpAny_fieldsOf hI rfl ?_)
  show wpAny _ _ (setEntries D >>= _) _ _ _
  refine wpAny_bind (wpAny_setEntries_of ho rfl fits1 ?_)
  rw [if_neg (by decide)]
  show wpAny _ _ (setNext D 0 0 ep >>= _) _ _ _
  refine wpAny_bind (setNext_1 ho hl ?_)
  dsimp only
  refine wpAny_bind (wpAny_setField_rec hI (by simp) fun h1 hI1 hs1 => ?_)
  refine wpAny_bind (wpAny_setField_rec hI1 (by simp) fun h2 hI2 hs2 => ?_)
  exact wpAny_pure ⟨_, rfl, wpAny_pure (h h2 (hs1.trans hs2) (by exact hI2))⟩
theorem pyNext_set2 {I : Addr} {Q : Option Value → Shared → Prop} (hh : A.handled = none) (ho : Set1e led ep s.heap D) (hl : led = !w.params.followText "set-order") (hI : SIt s.heap I D (nextSlot led) 1 ep)
    (h : ∀ h', Heap.ExtBut I s.heap h' → Q none { s with heap := h' }) : wpAny (model prog w) A (pyNext (.ref I)) Q E s := by
  have hT : s.TypeIs (.ref I) "set_iterator" := ⟨_, hI, rfl⟩
  unfold pyNext
  refine wpAny_bind (wpAny_attempt (wpAny_callSpecial?_slot (name := Str.ofString "__next__") hT slot_si_next
    (wpAny_call_entry slot_si_next hT entry_si_next ?_ (args_si_next _))))
  show wpAny _ _ (fieldsOf (.ref I) >>= _) _ _ _
  refine wpAny_bind (wpAny_fieldsOf hI rfl ?_)
  show wpAny _ _ (setEntries D >>= _) _ _ _
  refine wpAny_bind (wpAny_setEntries_of ho rfl fits1 ?_)
  rw [if_neg (by decide)]
  show wpAny _ _ (setNext D (nextSlot led) 1 ep >>= _) _ _ _
  refine wpAny_bind (setNext_2 ho hl ?_)
  dsimp only
  refine wpAny_bind (wpAny_setField hI rfl (by simp) ?_)
  show wpAny _ _ (newExc (.type "StopIteration") [] >>= _) _ _ _
  refine wpAny_bind ?_
  simp only [newExc, newTuple]
  refine wpAny_bind (wpAny_newObj_type ?_ (by size_fits))
  refine wpAny_bind (m := firstArgMember _ _) (wpAny_of_eq (a := Value.none) (by first | rfl | (simp only [firstArgMember]; rfl)) ?_)
  refine wpAny_newObj_type ?_ (by size_fits)
  simp only [raiseNew]
  refine wpAny_bind (wpAny_handled ?_)
  first | rw [show A.in1.handled = none from hh] | rw [hh]
  refine wpAny_bind (wpAny_pure (wpAny_throw ?_))
  refine wpAny_bind (wpAny_isInstance (T := "StopIteration") (b := true) ⟨_, Heap.get?_push_size _ rfl, rfl⟩ isSubtype_stop ?_)
  exact wpAny_pure (h _ (((Heap.SameBut.update ..).extBut.push _).push _))

/-- the unpacking of a set of one -/
theorem unpack_set {Q : List Value → Shared → Prop} (hh : A.handled = none) (ho : Set1e led ep s.heap D) (hl : led = !w.params.followText "set-order")
    (h : ∀ h', (∀ b o, s.heap.get? b = some o → h'.get? b = some o) → Q [.bool true] { s with heap := h' }) : wpAny (model prog w) A (unpackItems (.ref D) 1 none) Q E s := by
  have hT : s.TypeIs (.ref D) "set" := ⟨_, ho, rfl⟩
  unfold unpackItems
  refine wpAny_bind ?_
  unfold notIterableAtAll
  refine wpAny_bind (wpAny_specialOf hT F.slot_set_iter.lookup ?_)
  simp only [Option.isSome_some, ↓reduceIte]
  refine wpAny_pure ?_
  simp only [Bool.false_eq_true, ↓reduceIte]
  refine wpAny_bind (wpAny_holding (pyIter_set ho fun hI => ?_))
  have neI : ∀ b o, s.heap.get? b = some o → b ≠ s.heap.objs.size := fun b o e => Nat.ne_of_lt (Heap.lt_size e)
  generalize hsI : s.heap.push { cls := .type "set_iterator", data := .fields #[rawInt (0 : Nat), rawInt (0 : Nat), .ref D, rawInt 1, rawInt ep] } = H0 at hI ⊢
  have k0 : ∀ b o, s.heap.get? b = some o → H0.get? b = some o := fun b o e => hsI ▸ Heap.get?_push_of_some _ e
  have ho0 : Set1e led ep H0 D := k0 _ _ ho
  refine wpAny_bind (wpAny_holding ?_)
  unfold draw
  refine wpAny_bind (pyNext_set1 ho0 hl hI fun h1 hs1 hI1 => ?_)
  dsimp only
  unfold draw
  refine wpAny_bind (wpAny_holding (wpAny_pure (wpAny_pure ?_)))
  simp only [List.length_singleton, Nat.lt_irrefl, ↓reduceIte]
  have k1 : ∀ b o, s.heap.get? b = some o → h1.get? b = some o := fun b o e => hs1.extBut b o (neI b o e) (k0 b o e)
  refine wpAny_bind (wpAny_holding (pyNext_set2 hh (k1 _ _ ho) hl hI1 fun h2 hx => ?_))
  simp only [Option.isSome_none, Bool.false_eq_true, ↓reduceIte]
  exact wpAny_pure (h h2 fun b o e => hx b o (neI b o e) (k1 b o e))
end
end Mine

namespace Mine
open PySem PySem.W PyProof.Rows PySem.Calls
variable {C : Cx}

theorem compTurn_set (elt target iter : PySem.Expr) (scope : Scope) (pos : Pos) (it acc : Value) (env : Env) :
    compTurn (.SetComp elt [⟨target, iter, [], 0⟩] scope pos) 0 it acc env = (do
      standAt iter.pos
      match ← pyNext it with
      | none => pure (.done .next)
      | some v =>
        letOwnedTupleGo target it v
        assign target env v
        (do let v ← eval elt env; standAt elt.pos; let _ ← call (.builtin "set.add") [acc, v])
        again (.compLoop (.SetComp elt [⟨target, iter, [], 0⟩] scope pos) 0 it acc env)) := by rfl
section
variable {prog : Program} {w : World} {A : Around} {E : Value → Shared → Prop} {R : Result → Shared → Prop} {s : Shared}
theorem compLoop_set {elt target iter : PySem.Expr} {scope : Scope} {pos : Pos} {it acc : Value} {env : Env} (I : Nat → Shared → Prop)
    (turn : ∀ n s, I n s → wpAny (model prog w) A (pyNext it) (fun r s₁ => match r with
      | none => R (.ok .next) s₁
      | some v => wpAny (model prog w) A (assign target env v) (fun _ s₂ =>
          wpAny (model prog w) A (eval elt env) (fun x s₄ =>
              wpAny (model prog w) A (call (.builtin "set.add") [acc, x]) (fun _ s₅ => ∃ m, m < n ∧ I m s₅) (notedBy (model prog w) A env fun e s' => R (.error e) s') s₄) (notedBy (model prog w) A env fun e s' => R (.error e) s') s₂) (notedBy (model prog w) A env fun e s' => R (.error e) s') s₁) (notedBy (model prog w) A env fun e s' => R (.error e) s') s)
    (n : Nat) (h : I n s) (ht : ∀ v, letOwnedTupleGo target it v = pure () := by intro _; rfl) :
    codeAny (model prog w) A (.compLoop (.SetComp elt [⟨target, iter, [], 0⟩] scope pos) 0 it acc env) R s := by
  refine codeAny_loop rfl I (fun n s hI => ?_) n h
  show wpAny _ A ((compTurn (.SetComp elt [⟨target, iter, [], 0⟩] scope pos) 0 it acc env).onRaise (fun x => do noteFrame x env; theTreesLotGoes x)) _ _ s
  refine wpAny_noted ?_
  rw [compTurn_set]
  refine wpAny_bind (wpAny_standAt (wpAny_bind (wpAny_mono (turn n s hI) (fun r s₁ h₁ => ?_) fun _ _ h' => h')))
  cases r with
  | none => exact wpAny_pure h₁
  | some v =>
    refine wpAny_bind (wpAny_of_eq (ht v) ?_)
    refine wpAny_bind (wpAny_mono h₁ (fun _ s₂ h₂ => ?_) fun _ _ h' => h')
    exact wpAny_bind (wpAny_bind (wpAny_mono h₂ (fun x s₄ h₄ => wpAny_bind (wpAny_standAt (wpAny_bind (wpAny_mono h₄ (fun _ s₅ h₅ => wpAny_pure (wpAny_pure ⟨rfl, h₅⟩)) fun _ _ h' => h')))) fun _ _ h' => h'))
theorem compStart_set {elt target iter rest scope pos it acc env}
    (h0 : codeAny (model prog w) A (.compLoop (.SetComp elt (⟨target, iter, [], 0⟩ :: rest) scope pos) 0 it acc env) R s)
    (h : wpAny (model prog w) A (pyIter it) (fun it' s' => codeAny (model prog w) A (.compLoop (.SetComp elt (⟨target, iter, [], 0⟩ :: rest) scope pos) 0 it' acc env) R s')
      (notedBy (model prog w) A env fun x s' => R (.error x) s') s) :
    codeAny (model prog w) A (.compStart (.SetComp elt (⟨target, iter, [], 0⟩ :: rest) scope pos) 0 it acc env) R s := by
  refine codeAny_of_tree ?_
  show wpAny _ _ ((compStart (.SetComp elt (⟨target, iter, [], 0⟩ :: rest) scope pos) 0 it acc env).onRaise (fun x => do noteFrame x env; standAt theWindowsPlace)) _ _ s
  refine wpAny_notedAt ?_
  unfold compStart
  show wpAny _ _ (ask >>= _) _ _ s
  refine wpAny_bind (wpAny_askSetting (wpAny_ite ?_))
  split
  · first
      | exact wpAny_bind (wpAny_pure (wpAny_pure (And.intro rfl h0)))
      | exact wpAny_pure (And.intro rfl h0)
  · first
      | exact wpAny_bind (wpAny_rule (wpAny_bind (wpAny_standAt (wpAny_bind (wpAny_mono h (fun it' s' h' => wpAny_pure (And.intro rfl h')) fun _ _ x => x)))))
      | (refine wpAny_bind (wpAny_rule ?_); show wpAny _ _ (standAt iter.pos >>= _) _ _ s; exact wpAny_bind (wpAny_standAt (wpAny_bind (wpAny_mono h (fun it' s' h' => wpAny_pure (And.intro rfl h')) fun _ _ x => x))))
theorem newSet_led {Q : Value → Shared → Prop}
    (h : ∀ led : Bool, (led = !w.params.followText "set-order") → Q (.ref s.heap.objs.size) { s with heap := s.heap.push { cls := .type "set", dict := none, data := .set #[] 0 (.fresh 0 0 led) } }) :
    wpAny (model prog w) A (newSet (.type "set")) Q E s := by
  unfold newSet setsByText
  refine wpAny_bind (wpAny_bind (wpAny_askSetting (wpAny_pure ?_)))
  dsimp only
  simp only [newObj]
  exact wpAny_bind (wpAny_alloc (wpAny_pure (h _ rfl)))
def SetI (led : Bool) : Nat → Heap → Addr → Prop
  | 0, h, D => Set0 led h D
  | _ + 1, h, D => Set1 led h D
theorem SetI.obj {led : Bool} {i : Nat} {h : Heap} {D : Addr} (x : SetI led i h D) : ∃ o, h.get? D = some o := by
  cases i with
  | zero => exact ⟨_, x⟩
  | succ i => obtain ⟨ep, x⟩ := x; exact ⟨_, x⟩
theorem SetI.at {led : Bool} {i : Nat} {h h' : Heap} {D : Addr} (x : SetI led i h D) (k : ∀ o, h.get? D = some o → h'.get? D = some o) : SetI led i h' D := by
  cases i with
  | zero => exact k _ x
  | succ i => obtain ⟨ep, x⟩ := x; exact ⟨ep, k _ x⟩
theorem Set1.at {led : Bool} {h h' : Heap} {D : Addr} (x : Set1 led h D) (k : ∀ o, h.get? D = some o → h'.get? D = some o) : Set1 led h' D := by
  obtain ⟨ep, x⟩ := x; exact ⟨ep, k _ x⟩
theorem SetI.set1 {led : Bool} {i : Nat} {h : Heap} {D : Addr} (x : SetI led i h D) (hi : i ≠ 0) : Set1 led h D := by
  cases i with
  | zero => exact absurd rfl hi
  | succ i => exact x
theorem setadd_true {led : Bool} {i : Nat} {D : Addr} {Q : Value → Shared → Prop} (ho : SetI led i s.heap D) (h : ∀ h' tk (b : Bool), Heap.SameBut D s.heap h' → SetI led (i + 1) h' D → Q .none { s with heap := h', toks := tk }) :
    wpAny (model prog w) A (call (.builtin "set.add") [.ref D, .bool true]) Q E s := by
  have hT : s.TypeIs (.ref D) "set" := by
    cases i with
    | zero => exact ⟨_, ho, rfl⟩
    | succ i => obtain ⟨ep, ho⟩ := ho; exact ⟨_, ho, rfl⟩
  refine wpAny_call_entry F.slot_set_add hT F.entry_set_add ?_ (F.args_set_add_2 _ _)
  show wpAny _ _ (setAdd D (.bool true) >>= _) _ _ s
  refine wpAny_bind ?_
  cases i with
  | zero => exact add_first ho fun h' tk b hs h1 => wpAny_pure ⟨_, rfl, h h' tk b hs h1⟩
  | succ i => exact add_again ho fun tk b => wpAny_pure ⟨_, rfl, h s.heap tk b (Heap.SameBut.refl ..) ho⟩
end

theorem comp_set {α : Type} {n : Nat} {A : Around} {M : Mu} {E : Value → Shared → Prop} {s₁ s₂ : Shared} {env : Env} {σ σc : Sto} {ow : Own} {scope : Scope} {cl : List (PySem.Str × Addr)} {x : PySem.Str} {px pos : Pos} {elt iter : PySem.Expr} {led : Bool}
    {xs : List α} {di : α → Dt} {I : Addr} {wr fp : List Addr} {Stt : Nat → Heap → Prop} {RR : Value → Addr → Result → Shared → Prop}
    (hA : Room n A) (hrd : Rd C env M σ ow s₁) (k12 : Keeps s₁ s₂) (IT : Iter C (.Name x px) I wr fp s₁.heap M (xs.map di) Stt) (st0 : Stt 0 s₂.heap)
    (hcell : ∀ y ∈ scope.names, y.2 ≠ .cell) (hkind : scope.kind = .function) (hx : (relabel scope env).names.lookup x = some .local) (hsub : Sub σ σc) (hcap : capB env scope cl σc) (hxs : xs.length ≤ 2 ^ 20)
    (hled : led = !C.w.params.followText "set-order") (hne : xs ≠ []) (helt : ∀ Cf, ∀ a ∈ xs, Ev C n (compEnvC scope cl Cf env) ((x, di a) :: σc) none elt (.bool true))
    (hcl : ∀ y c, cl.lookup y = some c → env.cells.lookup y = some c)
    (hRR : ∀ D Cf s', Keeps s₁ s' → s₁.heap.get? Cf = none → s₁.heap.get? D = none → D ≠ Cf → (∃ m, s'.heap.Ns Cf m) → Set1 led s'.heap D → RR (.ref D) Cf (.ok .next) s') :
    wpAny (model C.prog C.w) A (newSet (.type "set")) (fun acc s₃ => wpAny (model C.prog C.w) A (newFunctionEnv scope env.globals cl [] env.qual none .none (some env)) (fun cenv s₄ =>
      codeAny (model C.prog C.w) A (.compStart (.SetComp elt [⟨.Name x px, iter, [], 0⟩] scope pos) 0 (.ref I) acc { cenv with scope := relabel scope env }) (RR acc cenv.locals) s₄) E s₃) E s₂ := by
  refine newSet_led fun led' hled' => wpAny_newFunctionEnv hcell (by intro y hy; simp at hy) (fun h₁ hns₁ hsb₁ => ?_) hkind
  have hll : led' = led := hled'.trans hled.symm
  subst hll
  dsimp only at hns₁ hsb₁ ⊢
  generalize hH2 : s₂.heap.push { cls := .type "set", dict := none, data := .set #[] 0 (.fresh 0 0 led') } = H2 at hns₁ hsb₁ ⊢
  generalize hDd : s₂.heap.objs.size = Dd
  have hC : H2.objs.size = Dd + 1 := by rw [← hH2, Heap.size_push, hDd]
  generalize hCf : H2.objs.size = Cf at hns₁ hsb₁ ⊢
  rw [hCf] at hC
  have noneAt : ∀ b : Addr, Dd ≤ b → s₂.heap.get? b = none := fun b hb => by
    cases q : s₂.heap.get? b with
    | none => rfl
    | some o => exact absurd (Heap.lt_size q) (Nat.not_lt.mpr (hDd ▸ hb))
  have none1 : ∀ b, s₂.heap.get? b = none → s₁.heap.get? b = none := fun b hb => by
    cases q : s₁.heap.get? b with
    | none => rfl
    | some o => exact absurd ((kp_heap k12 b o q).symm.trans hb) (by simp)
  have hD1 : s₁.heap.get? Dd = none := none1 _ (noneAt _ (Nat.le_refl _))
  have hC1 : s₁.heap.get? Cf = none := none1 _ (noneAt _ (by rw [hC]; exact Nat.le_succ _))
  have hDC : Dd ≠ Cf := by rw [hC]; exact Nat.ne_of_lt (Nat.lt_succ_self _)
  have wrD : Dd ∉ wr := fun h => by obtain ⟨o, ho⟩ := IT.live 0 _ st0 Dd h; rw [noneAt _ (Nat.le_refl _)] at ho; cases ho
  have wrC : Cf ∉ wr := fun h => by obtain ⟨o, ho⟩ := IT.live 0 _ st0 Cf h; rw [noneAt _ (by rw [hC]; exact Nat.le_succ _)] at ho; cases ho
  have old : ∀ b o, s₂.heap.get? b = some o → h₁.get? b = some o := fun b o e => hsb₁.extBut b o (fun q => by rw [q, noneAt _ (by rw [hC]; exact Nat.le_succ _)] at e; cases e) (Heap.get?_push_of_some _ (hH2 ▸ Heap.get?_push_of_some _ e))
  have old1 : ∀ b o, s₁.heap.get? b = some o → h₁.get? b = some o := fun b o e => old b o (kp_heap k12 b o e)
  have fpok : ∀ b ∈ fp, b ≠ Cf ∧ b ≠ Dd := fun b hb => by
    rcases IT.fpok b hb with q | ⟨_, o, ho⟩
    · exact ⟨fun e => wrC (e ▸ q), fun e => wrD (e ▸ q)⟩
    · exact ⟨fun e => (by rw [e, hC1] at ho; cases ho), fun e => (by rw [e, hD1] at ho; cases ho)⟩
  have hacc : Set0 led' h₁ Dd := hsb₁.extBut _ _ hDC (Heap.get?_push_of_some _ (hH2 ▸ hDd ▸ Heap.get?_push_size _ rfl))
  have st1 : Stt 0 h₁ := IT.frame _ _ _ st0 fun b _ o e => old b o e
  -- what changes while it runs
  have hMM : ∀ b o, s₁.heap.get? b = some o → addM M (Cf :: Dd :: wr) b → M b := fun b o e q => by
    rcases q with q | q
    · exact q
    · rcases List.mem_cons.mp q with q | q
      · rw [q, hC1] at e; cases e
      · rcases List.mem_cons.mp q with q | q
        · rw [q, hD1] at e; cases e
        · rw [IT.new b q] at e; cases e
  obtain ⟨m₀, cm, hNs, hCells, hVars, _⟩ := hrd.names
  -- the loop
  have loop : ∀ s₃ : Shared, s₃ = { s₂ with heap := h₁, toks := s₂.toks + ([] : List (PySem.Str × Value)).length } →
      codeAny (model C.prog C.w) A (.compLoop (.SetComp elt [⟨.Name x px, iter, [], 0⟩] scope pos) 0 (.ref I) (.ref Dd) (compEnvC scope cl Cf env)) (RR (.ref Dd) Cf) s₃ := by
    rintro s₃ rfl
    have k13 : Keeps s₁ { s₂ with heap := h₁, toks := s₂.toks + ([] : List (PySem.Str × Value)).length } := by
      obtain ⟨h', tk', e, _⟩ := k12
      exact ⟨h₁, s₂.toks + ([] : List (PySem.Str × Value)).length, by rw [e], old1⟩
    refine compLoop_set (fun kk s' => ∃ (i : Nat) (m : PySem.Str → Option Value), kk = xs.length + 1 - i ∧ i ≤ xs.length ∧ Keeps s₁ s' ∧ Stt i s'.heap ∧ s'.heap.Ns Cf m ∧ SetI led' i s'.heap Dd) ?_ (xs.length + 1) ⟨0, _, by omega, Nat.zero_le _, k13, st1, hns₁, hacc⟩
    rintro kk s' ⟨i, m, rfl, hi, k', st', hm, hp⟩
    have hM'own : ∀ b, addM M (Cf :: Dd :: wr) b → ∃ o, s'.heap.get? b = some o := fun b hb => by
      rcases hb with q | q
      · obtain ⟨o, ho⟩ := hrd.own b q; exact ⟨o, kp_heap k' b o ho⟩
      · rcases List.mem_cons.mp q with q | q
        · obtain ⟨o, _, _, ho, _⟩ := hm; exact ⟨o, q ▸ ho⟩
        · rcases List.mem_cons.mp q with q | q
          · obtain ⟨o, ho⟩ := hp.obj; exact ⟨_, q ▸ ho⟩
          · exact IT.live _ _ st' b q
    by_cases hlt : i < xs.length
    · have hlt' : i < (xs.map di).length := by rw [List.length_map]; exact hlt
      have ha : xs[i]? = some xs[i] := List.getElem?_eq_getElem hlt
      have hmem : xs[i] ∈ xs := List.getElem_mem hlt
      refine wpAny_mono (IT.item A i s' (addM M (Cf :: Dd :: wr)) (fun v s3 => wpAny (model C.prog C.w) A (assign (.Name x px) (compEnvC scope cl Cf env) v) (fun _ s₂ => wpAny (model C.prog C.w) A (eval elt (compEnvC scope cl Cf env)) (fun x s₄ =>
              wpAny (model C.prog C.w) A (call (.builtin "set.add") [.ref Dd, x]) (fun _ s₅ => ∃ m, m < xs.length + 1 - i ∧ ∃ (i : Nat) (m_1 : PySem.Str → Option Value), m = xs.length + 1 - i ∧ i ≤ xs.length ∧ Keeps s₁ s₅ ∧ Stt i s₅.heap ∧ s₅.heap.Ns Cf m_1 ∧ SetI led' i s₅.heap Dd) (notedBy (model C.prog C.w) A (compEnvC scope cl Cf env) fun e s' => RR (.ref Dd) Cf (.error e) s') s₄) (notedBy (model C.prog C.w) A (compEnvC scope cl Cf env) fun e s' => RR (.ref Dd) Cf (.error e) s') s₂) (notedBy (model C.prog C.w) A (compEnvC scope cl Cf env) fun e s' => RR (.ref Dd) Cf (.error e) s') s3) _ hA.none hlt' st' hM'own hMM (fun b o _ _ e => kp_heap k' b o e) fun v d h3 tk3 hd g3 st3 k3 => ?_) (fun r s3 h => ?_) fun _ _ x => x
      · -- assign
        rw [List.getElem?_map, ha] at hd
        cases hd
        have up3 : ∀ b o, ¬ addM M (Cf :: Dd :: wr) b → s'.heap.get? b = some o → h3.get? b = some o := fun b o hb e => k3 b o (fun q => hb (.inr (.tail _ (.tail _ q)))) e
        have hm3 : h3.Ns Cf m := hm.at' fun o e => k3 Cf o wrC e
        have hp3 : SetI led' i h3 Dd := hp.at fun o e => k3 Dd o wrD e
        have key3 : ∀ b o, s₁.heap.get? b = some o → h3.get? b = some o := fun b o e => k3 b o (fun q => by rw [IT.new b q] at e; cases e) (kp_heap k' b o e)
        refine wpAny_assign_Name (wpAny_storeName_local (env := compEnvC scope cl Cf env) hx hm3 (fun h4 hn4 hs4 => ?_) (by simp [compEnvC, relabel, hkind]))
        replace hn4 : h4.Ns Cf (fun y => if y = x then some v else m y) := hn4
        replace hs4 : Heap.SameBut Cf h3 h4 := hs4
        have up4 : ∀ b o, ¬ addM M (Cf :: Dd :: wr) b → s'.heap.get? b = some o → h4.get? b = some o := fun b o hb e => hs4.extBut b o (fun q => hb (.inr (q ▸ .head _))) (up3 b o hb e)
        have key4 : ∀ b o, s₁.heap.get? b = some o → h4.get? b = some o := fun b o e => hs4.extBut b o (fun q => by rw [q, hC1] at e; cases e) (key3 b o e)
        have st4 : Stt (i + 1) h4 := IT.frame _ _ _ st3 fun b hb o e => hs4.extBut b o (fpok b hb).1 e
        have hp4 : SetI led' i h4 Dd := hp3.at fun o e => hs4.extBut Dd o hDC e
        have gv4 : Mine.D C h4 (addM M (Cf :: Dd :: wr)) (di xs[i]) v := D.mono (fun b o hb e => hs4.extBut b o (fun q => hb (.inr (q ▸ .head _))) e) (fun _ _ _ => id) g3
        generalize hs4' : ({ s' with heap := h4, toks := tk3 + 1 } : Shared) = s4
        have e4h : s4.heap = h4 := by rw [← hs4']
        have k14 : Keeps s₁ s4 := by
          obtain ⟨h', tk', e, _⟩ := k'
          exact ⟨h4, tk3 + 1, by rw [← hs4', e], key4⟩
        -- the inner names
        have R4 : Rd C (compEnvC scope cl Cf env) (addM M (Cf :: Dd :: wr)) ((x, di xs[i]) :: σc) none s4 := by
          refine ⟨⟨fun b o e => kp_heap k14 b o (hrd.base b o e), fun b hb => ?_, fun b hb => ?_⟩, (fun y => if y = x then some v else m y), cm, e4h ▸ hn4, fun y c e => (hCells y c (hcl y c e)).keeps (kp_heap k14), fun y d e => ?_, fun _ _ e => by cases e⟩
          · rcases hb with q | q
            · exact hrd.off b q
            · cases q2 : C.base.get? b with
              | none => rfl
              | some o =>
                have h1 := hrd.base b o q2
                rcases List.mem_cons.mp q with q | q
                · rw [q, hC1] at h1; cases h1
                · rcases List.mem_cons.mp q with q | q
                  · rw [q, hD1] at h1; cases h1
                  · rw [IT.new b q] at h1; cases h1
          · rw [e4h]
            rcases hb with q | q
            · obtain ⟨o, ho⟩ := hrd.own b q; exact ⟨o, key4 b o ho⟩
            · rcases List.mem_cons.mp q with q | q
              · obtain ⟨o, _, _, ho, _⟩ := hn4; exact ⟨o, q ▸ ho⟩
              · rcases List.mem_cons.mp q with q | q
                · obtain ⟨o, ho⟩ := hp4.obj; exact ⟨_, q ▸ ho⟩
                · exact IT.live _ _ st4 b q
          · rw [List.lookup_cons] at e
            cases hb : y == x with
            | true =>
              rw [hb] at e; cases e
              have := beq_iff_eq.mp hb
              subst this
              refine ⟨v, ?_, e4h ▸ gv4⟩
              simp [getv, Env.kindOf, compEnvC, hx]
            | false =>
              rw [hb] at e
              obtain ⟨hk1, c, hc1, hc2, hk2⟩ := hcap y d e
              obtain ⟨u, hu1, hu2⟩ := hVars y d (hsub y d e)
              refine ⟨u, ?_, D.mono (fun b o _ e => kp_heap k14 b o e) hMM hu2⟩
              have hu3 : cm y = some u := by
                unfold getv at hu1
                rcases hk2 with q | q <;> rw [q, hc2] at hu1 <;> exact hu1
              unfold getv
              show (match (relabel scope env).names.lookup y with
                | some .local => _
                | some .cell => match cl.lookup y with
                  | some _ => cm y
                  | none => none
                | some .free => match cl.lookup y with
                  | some _ => cm y
                  | none => none
                | _ => none) = some u
              rcases hk1 with q | q <;> rw [q, hc1] <;> exact hu3
        refine helt Cf xs[i] hmem A _ s4 _ hA R4 _ fun y s6 k6 g6 => ?_
        cases (g6 : y = _)
        have st6 : Stt (i + 1) s6.heap := IT.frame _ _ _ st4 fun b _ o e => kp_heap k6 b o (e4h ▸ e)
        have hn6 : s6.heap.Ns Cf (fun y => if y = x then some v else m y) := (e4h ▸ hn4).keeps (kp_heap k6)
        have hp6 : SetI led' i s6.heap Dd := (e4h ▸ hp4).at fun o => kp_heap k6 Dd o
        refine setadd_true hp6 fun h7 tk7 b7 hs7 hp7 => ?_
        refine ⟨xs.length + 1 - (i + 1), by omega, i + 1, _, rfl, hlt, ?_, ?_, hn6.sameBut hs7 (Ne.symm hDC), hp7⟩
        · have kk := kp_trans k14 k6
          obtain ⟨h', tk', e, kk'⟩ := kk
          subst e
          exact ⟨h7, tk7, rfl, fun b o e => hs7.extBut b o (fun q => by rw [q, hD1] at e; cases e) (kk' b o e)⟩
        · exact IT.frame _ _ _ st6 fun b hb o e => hs7.extBut b o (fpok b hb).2 e
      · obtain ⟨v, rfl, h⟩ := h
        have hl : letOwnedTupleGo (.Name x px) (.ref I) v = pure () := rfl
        rw [hl] at h
        exact fun Γ p hΓ => h Γ p hΓ Γ p hΓ
    · have hin : i = xs.length := by omega
      subst hin
      refine wpAny_mono (IT.done A s' (fun s3 => RR (.ref Dd) Cf (.ok .next) s3) _ hA.none (by rw [List.length_map]; exact st') fun h3 tk3 k3 => ?_) (fun r s3 h => by obtain ⟨rfl, h⟩ := h; exact h) fun _ _ x => x
      have hz : xs.length ≠ 0 := fun q => hne (List.length_eq_zero_iff.mp q)
      refine hRR Dd Cf _ ?_ hC1 hD1 hDC ⟨m, hm.at' fun o e => k3 Cf o wrC e⟩ ((hp.set1 hz).at fun o e => k3 Dd o wrD e)
      obtain ⟨h', tk', e, kk'⟩ := k'
      subst e
      exact ⟨h3, tk3, rfl, fun b o e => k3 b o (fun q => by rw [IT.new b q] at e; cases e) (kk' b o e)⟩
  exact compStart_set (loop _ rfl) (IT.self A 0 _ _ _ hA.none st1 (loop _ rfl))
end Mine

namespace Mine
open PySem PySem.W PyProof.Rows PySem.Calls
variable {C : Cx}
section
variable {α : Type} {n : Nat} {env : Env} {σ σc : Sto} {ow : Own} {scope : Scope} {cl : List (PySem.Str × Addr)} {x y : PySem.Str} {px py tp pos spos : Pos} {elt iter : PySem.Expr} {dl : Dt} {kk : Nat}
    {xs : List α} {di : α → Dt} {Φ : Post}
theorem Ex1.setUnpack (hit : Ev C n env σ ow iter dl) (hitb : Itb C (.Name x px) dl (xs.map di) pyIter) (helt : ∀ Cf, ∀ a ∈ xs, Ev C n (compEnvC scope cl Cf env) ((x, di a) :: σc) none elt (.bool true)) (hne : xs ≠ [])
    (hclos : closureFor scope env = pure cl) (hcell : ∀ y ∈ scope.names, y.2 ≠ .cell) (hkind : scope.kind = .function) (hnames : ∀ y ∈ scope.names, y.2 = .local → scope.names.lookup y.1 = some .local) (hvar : (relabel scope env).names.lookup x = some .local)
    (hsub : Sub σ σc) (hcap : capB env scope cl σc) (hfew : xs.length ≤ 2 ^ 20) (hcl : ∀ y c, cl.lookup y = some c → env.cells.lookup y = some c)
    (hΦ : Φ .next ((y, .bool true) :: σ) ow) (hst : stored env y = true := by rfl) (ho : ow.all (fun q => !(q.1 == y)) = true := by rfl)
    (hsw : swapsWithSole [.Tuple [.Name y py] kk tp] (.SetComp elt [⟨.Name x px, iter, [], 0⟩] scope pos) spos.line env = pure false := by rfl) (hw : swappedStores [.Tuple [.Name y py] kk tp] (.SetComp elt [⟨.Name x px, iter, [], 0⟩] scope pos) env = pure Option.none := by rfl) (hs : ∀ x, foldedSetIterable iter env x = pure x := by intro _; rfl) :
    Ex1 C n env σ ow (.Assign [.Tuple [.Name y py] kk tp] (.SetComp elt [⟨.Name x px, iter, [], 0⟩] scope pos) spos) Φ := fun A s₀ M₀ s oa E Q hA S hQ => by
  refine Assign_Tuple ?_ hsw hw
  rw [arm_eval_SetComp]
  refine wpAny_comprehension_free (use := Option.none) rfl hs hclos hkind hnames (hit A _ s E hA S.rd _ fun v s1 k1 g1 => hitb A _ s1 E v _ (S.keeps k1).wd g1 fun I wr fp Stt s2 k2 IT st0 => ?_)
  have S1 := S.keeps k1
  refine comp_set (RR := fun acc Cf => compPost (model C.prog C.w) A E Option.none (fun v s₁ => wpAny (model C.prog C.w) A (assign (.Tuple [.Name y py] kk tp) env v) (fun _ => Q .next) E s₁) acc Cf) hA S1.rd k2 IT st0 hcell hkind hvar hsub hcap hfew rfl hne helt hcl fun Dd Cf s' k' hCf hDf hDC hm hD => ?_
  obtain ⟨m, hm⟩ := hm
  refine ⟨m, hm, fun h' hsb => ?_⟩
  obtain ⟨ep, hD⟩ := hD
  have hD' : Set1e (!C.w.params.followText "set-order") ep h' Dd := hsb.extBut _ _ hDC hD
  have kq : Keeps s1 { s' with heap := h' } := by
    obtain ⟨h0, t0, e, kk⟩ := k'
    subst e
    exact ⟨h', t0, rfl, fun b o e => hsb.extBut b o (fun q => by rw [q, hCf] at e; cases e) (kk b o e)⟩
  have S2 := S1.keeps kq
  rw [arm_assign_Tuple]
  refine wpAny_bind (wpAny_standAt ?_)
  unfold unpack
  refine wpAny_bind (wpAny_holding (unpack_set hA.none hD' rfl fun h2 hk2 => ?_))
  have k3 : Keeps { s' with heap := h' } { s' with heap := h2 } := ⟨h2, s'.toks, rfl, hk2⟩
  refine PyProof.Rows.assignInOrder_cons ((Tg.name (C := C) (env := env) (x := y) (p := py) (d := .bool true) hst ho) A s₀ M₀ _ oa σ E (.bool true) _ hA.none (S2.keeps k3) rfl fun s5 S5 f5 => ?_)
  refine wpAny_pure (hQ .next .next s5 oa _ ow S5 ?_ trivial hΦ)
  exact (Fk.keeps (kp_trans k1 (kp_trans kq k3))).trans f5 S5.done
end
end Mine

namespace Mine
open PySem PySem.W PyProof.Rows PySem.Calls
variable {C : Cx}

theorem B1.tup {n : Nat} {ds : List Dt} (h : ds.length ≤ 2 ^ 60) : B1 C n truthy (.tup ds) (!ds.isEmpty) := fun A M s E v hA hw hv Q hQ => by
  obtain ⟨a, vs, rfl, hm, hl, hd⟩ := hv
  have e := hd.length
  have q : vs.toArray.isEmpty = ds.isEmpty := by cases ds <;> cases vs <;> simp_all
  refine truthy_tuple hl (by simp; omega) ?_
  rw [q]; exact hQ _ (kp_tok s _)

def compsF (x : PySem.Str) : List PySem.Str := (Txt.split x sl).filter fun c => ((c.length : Int) != 0) && c != dt1
abbrev env22 (L a : Addr) (cd : Value) : Env := fenv (rAt 22).name (rAt 22).scope L a cd

set_option maxHeartbeats 4000000 in
theorem con_common (P : Prg C) {n : Nat} (ns F : List PySem.Str) (ks : List Nat) (m mx : Nat) (hne : ns ≠ []) (hlen : ns.length ≤ 2 ^ 10) (hl : ∀ x ∈ ns, x.length ≤ 2 ^ 10) (hsw : ∀ x ∈ ns, Txt.startswith x sl = true)
    (hk : ns.map compsF = ks.map fun k => F.take k) (hkF : ∀ k ∈ ks, k ≤ F.length) (hm : m ∈ ks) (hmin : ∀ k ∈ ks, m ≤ k) (hmx : mx ∈ ks) (hmax : ∀ k ∈ ks, k ≤ mx) (hFl : F.length ≤ 2 ^ 10) (hFs : ((F.take m).map (·.length)).sum ≤ 2 ^ 12) :
    Con C (n + 3) "commonpath" [dS ns] (.str (sl ++ Txt.join sl (F.take m))) := by
  have e24 : sizeLine = 2 ^ 24 := rfl
  have hpos := List.length_pos_iff.mpr hne
  have hksne : ks ≠ [] := by rintro rfl; cases hm
  have hjl : ((F.take m).map (·.length)).sum + (F.take m).length * sl.length ≤ 2 ^ 13 := by
    have h3 : sl.length = 1 := rfl
    rw [h3, List.length_take]; omega
  have hjl2 : ((F.take m).map (·.length)).sum + (F.take m).length * sl.length ≤ 16777216 := Nat.le_trans hjl (by decide)
  refine Con.of (dd := rAt 22) (names := ["paths"]) (P.mem 22 (by decide)) rfl (fun pm code doc vs h => ?_) (one_arg rfl) fun L a cd => ?_
  · obtain ⟨v, rfl⟩ := len1 h
    rfl
  · apply Ex.cons
    refine Ex1.asg (d := .tup (ns.map Dt.str)) (Ev.tupMap P.b_tuple P.b_map (fun x => con_fspath P x) (Ev.name rfl) hlen) ?_
    apply Ex.cons
    refine Ex1.ite (b := !(!(ns.map Dt.str).isEmpty)) (Tt.not (Tt.plain (Ev.name rfl) (B1.tup (by rw [List.length_map]; omega)))) (fun h => ?_) (fun _ => ?_)
    · exfalso
      cases ns with
      | nil => exact hne rfl
      | cons _ _ => cases h
    apply Ex.nil
    apply Ex.cons
    refine Ex1.ite (b := false) (not_bytes P (x := ns[0]'hpos) (Ev.itemT (i := 0) (Ev.name rfl) Ev.int (by decide) ?_ (by rw [List.length_map]; omega))) (fun h => by cases h) (fun _ => ?_)
    · rw [List.getElem?_map]; show Option.map Dt.str ns[0]? = _; rw [List.getElem?_eq_getElem hpos]; rfl
    apply Ex.cons
    refine Ex1.asg Ev.str ?_
    apply Ex.cons
    refine Ex1.asg Ev.str ?_
    apply Ex.nil
    apply Ex.cons
    refine Ex1.try ?_
    apply Ex.cons
    refine Ex1.asgComp (σc := [("sep", .str sl)]) (cl := [("sep", cellOf (env22 L a cd) "sep")]) (dl := .tup (ns.map Dt.str)) (xs := ns) (di := Dt.str) (p := fun _ => true) (g := fun x => dS (Txt.split x sl))
      ⟨Ev.name rfl, Itb.tup, fun Cf w _ => .nil, fun Cf w hw _ => Ev.methS (Ev.name rfl) (.cons (Ev.name rfl) .nil) (Vs.split (by have := hl w hw; omega) rfl) (fun A s E t pl Q h => GM.split h), rfl, ?_, rfl, ?_, rfl, .cons rfl .nil, capB.cons rfl rfl rfl rfl rfl rfl capB.nil, by omega, cl1 rfl⟩ ?_
    · decide
    · decide
    rw [flt]
    apply Ex.cons
    refine Ex1.try ?_
    apply Ex.cons
    refine Ex1.setUnpack (σc := [("sep", .str sl)]) (cl := [("sep", cellOf (env22 L a cd) "sep")]) (dl := .tup (ns.map Dt.str)) (xs := ns) (di := Dt.str) (Ev.name rfl) Itb.tup (fun Cf w hw => ?_) hne rfl ?_ rfl ?_ rfl (.cons rfl .nil) (capB.cons rfl rfl rfl rfl rfl rfl capB.nil) (by omega) (cl1 rfl) ?_
    · rw [← hsw w hw]
      exact Ev.methS (Ev.name rfl) (.cons (Ev.name rfl) .nil) Vs.startswith (fun A s E t pl Q h => GM.startswith h)
    · decide
    · decide
    apply Ex.nil
    apply Ex.nil
    apply Ex.cons
    refine Ex1.asgComp (σc := [("curdir", .str dt1)]) (cl := [("curdir", cellOf (env22 L a cd) "curdir")]) (dl := .list (ns.map fun x => dS (Txt.split x sl))) (xs := ns) (di := fun x => dS (Txt.split x sl)) (p := fun _ => true) (g := fun x => dS (compsF x))
      ⟨Ev.name rfl, Itb.list, fun Cf w _ => .nil, fun Cf w hw _ => ?_, rfl, ?_, rfl, ?_, rfl, .cons rfl .nil, capB.cons rfl rfl rfl rfl rfl rfl capB.nil, by omega, cl1 rfl⟩ ?_
    · refine Ev.comp' (σc := [("curdir", .str dt1)]) (cl := [("curdir", cellOf (env22 L a cd) "curdir")]) (dl := dS (Txt.split w sl)) (xs := Txt.split w sl) (di := Dt.str) (p := fun c => ((c.length : Int) != 0) && c != dt1) (g := Dt.str)
        ⟨Ev.name rfl, Itb.list, fun Cf c hc => .one ?_, fun Cf c hc _ => Ev.name rfl, rfl, ?_, rfl, ?_, rfl, .cons rfl .nil, capB.cons rfl rfl rfl rfl rfl rfl capB.nil, ?_, cl1 rfl⟩ ?_
      · have hcl : c.length ≤ 2 ^ 11 := by
          have hw1 := split_weight w sl (Nat.le_refl 1)
          have hm : c.length ∈ (Txt.split w sl).map (·.length) := List.mem_map_of_mem hc
          have := le_sum_mem hm
          have := hl w hw
          omega
        exact Tt.andB (Tt.plain (Ev.name rfl) (B1.str (x := c) (by omega))) (fun _ => Tt.andB (Tt.cmp' (Ev.name rfl) (Ev.name rfl) V2.ne_str) (fun _ => Tt.and0) rfl) (by simp)
      · decide
      · decide
      · have := split_le w sl
        have := hl w hw
        omega
      · rfl
    · decide
    · decide
    have hkd : (ns.map fun x => dS (compsF x)) = ks.map fun k => dS (F.take k) := by
      have := congrArg (List.map dS) hk
      rw [List.map_map, List.map_map] at this
      exact this
    rw [flt, hkd]
    apply Ex.cons
    refine Ex1.asg (d := dS (F.take m)) (Ev.callBi P.b_min (Vs.min_chain hksne hkF hm hmin) (.cons (Ev.name rfl) .nil)) ?_
    apply Ex.cons
    refine Ex1.asg (d := dS (F.take mx)) (Ev.callBi P.b_max (Vs.max_chain hksne hkF hmx hmax) (.cons (Ev.name rfl) .nil)) ?_
    apply Ex.cons
    refine Ex1.asg (d := dS (F.take m)) (Ev.name rfl) ?_
    apply Ex.cons
    refine Ex1.forG (Gi.enumL P.b_enumerate (Ev.name rfl)) (fun i => [("s2", dS (F.take mx)), ("common", dS (F.take m)), ("isabs", .bool true), ("sep", .str sl)]) (fun _ => none) (fun i => [("c", .str (((F.take m)[i]?).getD "")), ("i", .int (i : Int))]) ?_ rfl (fun i d hd => ?_) (fun i d hd => ?_) ?_
    · exact .cons rfl (.cons rfl (.cons rfl (.cons rfl .nil)))
    · rw [List.getElem?_mapIdx, List.getElem?_map] at hd
      cases hi : (F.take m)[i]? with
      | none => rw [hi] at hd; cases hd
      | some c => rw [hi] at hd; cases hd; exact Tg.tup2 Tg.name Tg.name
    · rw [List.getElem?_mapIdx, List.getElem?_map] at hd
      cases hi : (F.take m)[i]? with
      | none => rw [hi] at hd; cases hd
      | some c =>
        rw [hi] at hd; cases hd
        have hlt := (List.getElem?_eq_some_iff.mp hi).1
        rw [List.length_take] at hlt
        have h2 : (F.take mx)[i]? = some c := by
          have := hmin mx hmx
          rw [← hi, List.getElem?_take_of_lt (by omega), List.getElem?_take_of_lt (by omega)]
        apply Ex.cons
        refine Ex1.ite (b := false) ?_ (fun h => by cases h) (fun _ => ?_)
        · have hb : (c != c) = false := by simp
          rw [← hb]
          refine Tt.cmp' (Ev.name rfl) (Ev.itemL (d := .str c) (Ev.name rfl) (Ev.name rfl) (by omega) ?_ (by rw [List.length_map, List.length_take]; omega)) V2.ne_str
          rw [List.getElem?_map, Int.toNat_natCast, h2]; rfl
        · apply Ex.nil
          apply Ex.nil
          exact ⟨.cons rfl (.cons rfl (.cons rfl (.cons rfl .nil))), rfl⟩
    · apply Ex.nil
      apply Ex.cons
      refine Ex1.asg (d := .str sl) (Ev.ifexp (b := true) (d1 := .str sl) (d2 := .str sl) (Tt.plain (Ev.name rfl) B1.bool) (fun _ => Ev.name rfl) (fun h => by cases h) rfl) ?_
      apply Ex.cons
      have h1 := len_glued sl (F.take m)
      have h3 : sl.length = 1 := rfl
      have h4 : sl.length + (Txt.join sl (F.take m)).length ≤ sizeLine := by omega
      generalize hJ : Txt.join sl (F.take m) = J at h4 ⊢
      have hv : Vs C (n + 2) (fun vs => call (.builtin "str.join") vs) [.str sl, dS (F.take m)] (.str J) := hJ ▸ Vs.join (ys := F.take m) hjl2
      with_reducible refine Ex1.ret (d := .str (sl ++ J)) ?_ ?_
      · refine Ev.binop (da := .str sl) (db := .str J) (Ev.name rfl) ?_ (V2.add_str h4)
        exact Ev.methS (Ev.name rfl) (.cons (Ev.name rfl) .nil) hv (fun A s E t pl Q h => GM.join h)
      · rfl
end Mine

namespace Mine
open PySem PySem.W PyProof.Rows PySem.Calls
variable {C : Cx}

theorem newFunctionEnv_J {M : Model} {A : Around} {E : Value → Shared → Prop} {s : Shared} {scope : Scope} {x : PySem.Str} {globals : Addr} {cl : List (PySem.Str × Addr)} {qual : PySem.Str} {env : Env} {Q : Env → Shared → Prop}
    (hk : ∀ k, cellsFrom k scope.names cl = (x, k) :: cl) (hp : ∀ h, pushCells h scope.names = h.push { cls := .type "cell", data := .cell none })
    (hQ : ∀ h', h'.Ns s.heap.objs.size (fun _ => none) → h'.IsCell (s.heap.objs.size + 1) none → (∀ b o, s.heap.get? b = some o → h'.get? b = some o) →
      Q (newEnv scope s.heap.objs.size globals ((x, s.heap.objs.size + 1) :: cl) qual none .none (some env) builtinsNs) { s with heap := h' }) :
    wpAny M A (newFunctionEnv scope globals cl [] qual none .none (some env)) Q E s := by
  simp only [newFunctionEnv, Option.isSome_some, if_true]
  refine wpAny_bind (wpAny_alloc ?_)
  refine wpAny_bind (wpAny_layCells _ (fun name kind cells => by cases hkc : kind == NameKind.cell <;> simp [hkc]) _ _ _ _ ?_)
  rw [hk, hp]
  have hsz : ({ s with heap := s.heap.push { cls := .type "dict", data := .dict #[] } } : Shared).heap.objs.size = s.heap.objs.size + 1 := Heap.size_push ..
  rw [hsz]
  refine wpAny_bind (wpAny_pure (wpAny_pure ?_))
  refine hQ _ ((Heap.Ns.new s.heap (.type "dict")).keeps fun b o e => Heap.get?_push_of_some _ e) ⟨{ cls := .type "cell", data := .cell none }, ?_, rfl⟩ fun b o e => Heap.get?_push_of_some _ (Heap.get?_push_of_some _ e)
  have := Heap.get?_push_size (s.heap.push { cls := .type "dict", data := .dict #[] }) (o := { cls := .type "cell", data := .cell none }) rfl
  rw [Heap.size_push] at this
  exact this

theorem comp_coreJ {α : Type} {n : Nat} {A : Around} {M : Mu} {E : Value → Shared → Prop} {s₁ s₂ : Shared} {env : Env} {σ σc : Sto} {ow : Own} {scope : Scope} {cl : List (PySem.Str × Addr)} {x : PySem.Str} {px pos : Pos} {elt iter : PySem.Expr} {ifs : List PySem.Expr}
    {xs : List α} {di : α → Dt} {p : α → Bool} {g : α → Dt} {I : Addr} {wr fp : List Addr} {Stt : Nat → Heap → Prop} {RR : Value → Addr → Result → Shared → Prop}
    (hA : Room n A) (hrd : Rd C env M σ ow s₁) (k12 : Keeps s₁ s₂) (IT : Iter C (.Name x px) I wr fp s₁.heap M (xs.map di) Stt) (st0 : Stt 0 s₂.heap)
    (hcellJ : ∀ k, cellsFrom k scope.names cl = (x, k) :: cl) (hpushJ : ∀ h, pushCells h scope.names = h.push { cls := .type "cell", data := .cell none }) (hkind : scope.kind = .function) (hx : (relabel scope env).names.lookup x = some .cell) (hsub : Sub σ σc) (hcap : capB env scope cl σc) (hxs : xs.length ≤ 2 ^ 20)
    (htest : ∀ Cf, ∀ a ∈ xs, TT C n (compEnvC scope ((x, Cf + 1) :: cl) Cf env) ((x, di a) :: σc) ifs (p a))
    (helt : ∀ Cf, ∀ a ∈ xs, p a = true → Ev C n (compEnvC scope ((x, Cf + 1) :: cl) Cf env) ((x, di a) :: σc) none elt (g a))
    (hcl : ∀ y c, cl.lookup y = some c → env.cells.lookup y = some c)
    (hRR : ∀ D Cf s', Keeps s₁ s' → s₁.heap.get? Cf = none → (∃ m, s'.heap.Ns Cf m) → Mine.D C s'.heap (addM M [Cf]) (.list ((xs.filter p).map g)) (.ref D) → RR (.ref D) Cf (.ok .next) s') :
    wpAny (model C.prog C.w) A (newList []) (fun acc s₃ => wpAny (model C.prog C.w) A (newFunctionEnv scope env.globals cl [] env.qual none .none (some env)) (fun cenv s₄ =>
      codeAny (model C.prog C.w) A (.compStart (.ListComp elt [⟨.Name x px, iter, ifs, 0⟩] scope pos) 0 (.ref I) acc { cenv with scope := relabel scope env }) (RR acc cenv.locals) s₄) E s₃) E s₂ := by
  refine wpAny_newObj_type (newFunctionEnv_J hcellJ hpushJ (fun h₁ hns₁ hJ₁ hsb₁ => ?_))
  dsimp only at hns₁ hsb₁ hJ₁ ⊢
  generalize hH2 : s₂.heap.push { cls := .type "list", dict := none, data := .seq ([] : List Value).toArray } = H2 at hns₁ hsb₁ hJ₁ ⊢
  generalize hDd : s₂.heap.objs.size = Dd
  have hC : H2.objs.size = Dd + 1 := by rw [← hH2, Heap.size_push, hDd]
  generalize hCf : H2.objs.size = Cf at hns₁ hsb₁ hJ₁ ⊢
  rw [hCf] at hC
  have noneAt : ∀ b : Addr, Dd ≤ b → s₂.heap.get? b = none := fun b hb => by
    cases q : s₂.heap.get? b with
    | none => rfl
    | some o => exact absurd (Heap.lt_size q) (Nat.not_lt.mpr (hDd ▸ hb))
  have none1 : ∀ b, s₂.heap.get? b = none → s₁.heap.get? b = none := fun b hb => by
    cases q : s₁.heap.get? b with
    | none => rfl
    | some o => exact absurd ((kp_heap k12 b o q).symm.trans hb) (by simp)
  have hJ1 : s₁.heap.get? (Cf + 1) = none := none1 _ (noneAt _ (Nat.le_trans (Nat.le_succ _) (Nat.le_trans (Nat.le_of_eq hC.symm) (Nat.le_succ _))))
  have hJC : Cf + 1 ≠ Cf := Nat.succ_ne_self _
  have hJD : Cf + 1 ≠ Dd := by rw [hC]; exact Nat.ne_of_gt (Nat.lt_succ_of_lt (Nat.lt_succ_self _))
  have hD1 : s₁.heap.get? Dd = none := none1 _ (noneAt _ (Nat.le_refl _))
  have hC1 : s₁.heap.get? Cf = none := none1 _ (noneAt _ (by rw [hC]; exact Nat.le_succ _))
  have hDC : Dd ≠ Cf := by rw [hC]; exact Nat.ne_of_lt (Nat.lt_succ_self _)
  have wrD : Dd ∉ wr := fun h => by obtain ⟨o, ho⟩ := IT.live 0 _ st0 Dd h; rw [noneAt _ (Nat.le_refl _)] at ho; cases ho
  have wrC : Cf ∉ wr := fun h => by obtain ⟨o, ho⟩ := IT.live 0 _ st0 Cf h; rw [noneAt _ (by rw [hC]; exact Nat.le_succ _)] at ho; cases ho
  have wrJ : Cf + 1 ∉ wr := fun h => by obtain ⟨o, ho⟩ := IT.live 0 _ st0 (Cf + 1) h; rw [noneAt _ (Nat.le_trans (Nat.le_succ _) (Nat.le_trans (Nat.le_of_eq hC.symm) (Nat.le_succ _)))] at ho; cases ho
  have old : ∀ b o, s₂.heap.get? b = some o → h₁.get? b = some o := fun b o e => hsb₁ b o (hH2 ▸ Heap.get?_push_of_some _ e)
  have old1 : ∀ b o, s₁.heap.get? b = some o → h₁.get? b = some o := fun b o e => old b o (kp_heap k12 b o e)
  have fpok : ∀ b ∈ fp, b ≠ Cf + 1 ∧ b ≠ Dd := fun b hb => by
    rcases IT.fpok b hb with q | ⟨_, o, ho⟩
    · exact ⟨fun e => wrJ (e ▸ q), fun e => wrD (e ▸ q)⟩
    · exact ⟨fun e => (by rw [e, hJ1] at ho; cases ho), fun e => (by rw [e, hD1] at ho; cases ho)⟩
  have hacc : h₁.PlainList Dd #[] := ⟨_, hsb₁ _ _ (hH2 ▸ hDd ▸ Heap.get?_push_size _ rfl)⟩
  have st1 : Stt 0 h₁ := IT.frame _ _ _ st0 fun b _ o e => old b o e
  -- what changes while it runs
  have hMM : ∀ b o, s₁.heap.get? b = some o → addM M ((Cf + 1) :: Cf :: Dd :: wr) b → M b := fun b o e q => by
    rcases q with q | q
    · exact q
    · rcases List.mem_cons.mp q with q | q
      · rw [q, hJ1] at e; cases e
      · rcases List.mem_cons.mp q with q | q
        · rw [q, hC1] at e; cases e
        · rcases List.mem_cons.mp q with q | q
          · rw [q, hD1] at e; cases e
          · rw [IT.new b q] at e; cases e
  obtain ⟨m₀, cm, hNs, hCells, hVars, _⟩ := hrd.names
  -- the loop
  have loop : ∀ s₃ : Shared, s₃ = { s₂ with heap := h₁, toks := s₂.toks + ([] : List (PySem.Str × Value)).length } →
      codeAny (model C.prog C.w) A (.compLoop (.ListComp elt [⟨.Name x px, iter, ifs, 0⟩] scope pos) 0 (.ref I) (.ref Dd) (compEnvC scope ((x, Cf + 1) :: cl) Cf env)) (RR (.ref Dd) Cf) s₃ := by
    rintro s₃ rfl
    have k13 : Keeps s₁ { s₂ with heap := h₁, toks := s₂.toks + ([] : List (PySem.Str × Value)).length } := by
      obtain ⟨h', tk', e, _⟩ := k12
      exact ⟨h₁, s₂.toks + ([] : List (PySem.Str × Value)).length, by rw [e], old1⟩
    refine codeAny_compLoop_tests (fun kk s' => ∃ (i : Nat) (m : PySem.Str → Option Value) (ys : List Value), kk = xs.length + 1 - i ∧ i ≤ xs.length ∧ Keeps s₁ s' ∧ Stt i s'.heap ∧ s'.heap.Ns Cf m ∧ (∃ u, s'.heap.IsCell (Cf + 1) u) ∧ s'.heap.PlainList Dd ys.toArray ∧
      DA C s'.heap (addM M ((Cf + 1) :: Cf :: Dd :: wr)) (((xs.take i).filter p).map g) ys) ?_ (xs.length + 1) ⟨0, _, [], by omega, Nat.zero_le _, k13, st1, hns₁, ⟨_, hJ₁⟩, hacc, by simp [DA]⟩
    rintro kk s' ⟨i, m, ys, rfl, hi, k', st', hm, ⟨ju, hj⟩, hp, hys⟩
    have hM'own : ∀ b, addM M ((Cf + 1) :: Cf :: Dd :: wr) b → ∃ o, s'.heap.get? b = some o := fun b hb => by
      rcases hb with q | q
      · obtain ⟨o, ho⟩ := hrd.own b q; exact ⟨o, kp_heap k' b o ho⟩
      · rcases List.mem_cons.mp q with q | q
        · obtain ⟨o, ho, _⟩ := hj; exact ⟨o, q ▸ ho⟩
        · rcases List.mem_cons.mp q with q | q
          · obtain ⟨o, _, _, ho, _⟩ := hm; exact ⟨o, q ▸ ho⟩
          · rcases List.mem_cons.mp q with q | q
            · obtain ⟨nn, ho⟩ := hp; exact ⟨_, q ▸ ho⟩
            · exact IT.live _ _ st' b q
    by_cases hlt : i < xs.length
    · have hlt' : i < (xs.map di).length := by rw [List.length_map]; exact hlt
      have ha : xs[i]? = some xs[i] := List.getElem?_eq_getElem hlt
      have hmem : xs[i] ∈ xs := List.getElem_mem hlt
      refine wpAny_mono (IT.item A i s' (addM M ((Cf + 1) :: Cf :: Dd :: wr)) (fun v s3 => wpAny (model C.prog C.w) A (assign (.Name x px) (compEnvC scope ((x, Cf + 1) :: cl) Cf env) v) (fun _ s₂ => wpAny (model C.prog C.w) A (forIn ifs true fun c r => if r = true then do let ok ← isTrue c (compEnvC scope ((x, Cf + 1) :: cl) Cf env) (eval c (compEnvC scope ((x, Cf + 1) :: cl) Cf env)); pure (ForInStep.yield ok) else pure (ForInStep.yield r)) (fun ok s₃ =>
            if ok = true then wpAny (model C.prog C.w) A (eval elt (compEnvC scope ((x, Cf + 1) :: cl) Cf env)) (fun xv s₄ =>
              wpAny (model C.prog C.w) A (call (.builtin "list.append") [.ref Dd, xv]) (fun _ s₅ => ∃ m, m < xs.length + 1 - i ∧ ∃ (i : Nat) (m_1 : PySem.Str → Option Value) (ys : List Value), m = xs.length + 1 - i ∧ i ≤ xs.length ∧ Keeps s₁ s₅ ∧ Stt i s₅.heap ∧ s₅.heap.Ns Cf m_1 ∧ (∃ u, s₅.heap.IsCell (Cf + 1) u) ∧ s₅.heap.PlainList Dd ys.toArray ∧
      DA C s₅.heap (addM M ((Cf + 1) :: Cf :: Dd :: wr)) (((xs.take i).filter p).map g) ys) (notedBy (model C.prog C.w) A (compEnvC scope ((x, Cf + 1) :: cl) Cf env) fun e s' => RR (.ref Dd) Cf (.error e) s') s₄) (notedBy (model C.prog C.w) A (compEnvC scope ((x, Cf + 1) :: cl) Cf env) fun e s' => RR (.ref Dd) Cf (.error e) s') s₃
            else ∃ m, m < xs.length + 1 - i ∧ ∃ (i : Nat) (m_1 : PySem.Str → Option Value) (ys : List Value), m = xs.length + 1 - i ∧ i ≤ xs.length ∧ Keeps s₁ s₃ ∧ Stt i s₃.heap ∧ s₃.heap.Ns Cf m_1 ∧ (∃ u, s₃.heap.IsCell (Cf + 1) u) ∧ s₃.heap.PlainList Dd ys.toArray ∧
      DA C s₃.heap (addM M ((Cf + 1) :: Cf :: Dd :: wr)) (((xs.take i).filter p).map g) ys) (notedBy (model C.prog C.w) A (compEnvC scope ((x, Cf + 1) :: cl) Cf env) fun e s' => RR (.ref Dd) Cf (.error e) s') s₂) (notedBy (model C.prog C.w) A (compEnvC scope ((x, Cf + 1) :: cl) Cf env) fun e s' => RR (.ref Dd) Cf (.error e) s') s3) _ hA.none hlt' st' hM'own hMM (fun b o _ _ e => kp_heap k' b o e) fun v d h3 tk3 hd g3 st3 k3 => ?_) (fun r s3 h => ?_) fun _ _ x => x
      · -- assign
        rw [List.getElem?_map, ha] at hd
        cases hd
        have up3 : ∀ b o, ¬ addM M ((Cf + 1) :: Cf :: Dd :: wr) b → s'.heap.get? b = some o → h3.get? b = some o := fun b o hb e => k3 b o (fun q => hb (.inr (.tail _ (.tail _ (.tail _ q))))) e
        have hm3 : h3.Ns Cf m := hm.at' fun o e => k3 Cf o wrC e
        have hp3 : h3.PlainList Dd ys.toArray := hp.at fun o e => k3 Dd o wrD e
        have key3 : ∀ b o, s₁.heap.get? b = some o → h3.get? b = some o := fun b o e => k3 b o (fun q => by rw [IT.new b q] at e; cases e) (kp_heap k' b o e)
        have hj3 : h3.IsCell (Cf + 1) ju := by obtain ⟨o, ho, hd⟩ := hj; exact ⟨o, k3 _ o wrJ ho, hd⟩
        refine wpAny_assign_Name (wpAny_storeName_cell (env := compEnvC scope ((x, Cf + 1) :: cl) Cf env) (by simp [compEnvC, relabel, hkind]) hx (by simp [compEnvC]) hj3 (fun h4 hj4 hs4 => ?_))
        replace hs4 : Heap.SameBut (Cf + 1) h3 h4 := hs4
        have hn4 : h4.Ns Cf m := hm3.sameBut hs4 (Ne.symm hJC)
        have up4 : ∀ b o, ¬ addM M ((Cf + 1) :: Cf :: Dd :: wr) b → s'.heap.get? b = some o → h4.get? b = some o := fun b o hb e => hs4.extBut b o (fun q => hb (.inr (q ▸ .head _))) (up3 b o hb e)
        have key4 : ∀ b o, s₁.heap.get? b = some o → h4.get? b = some o := fun b o e => hs4.extBut b o (fun q => by rw [q, hJ1] at e; cases e) (key3 b o e)
        have st4 : Stt (i + 1) h4 := IT.frame _ _ _ st3 fun b hb o e => hs4.extBut b o (fpok b hb).1 e
        have hp4 : h4.PlainList Dd ys.toArray := hp3.at fun o e => hs4.extBut Dd o (Ne.symm hJD) e
        have hys4 : DA C h4 (addM M ((Cf + 1) :: Cf :: Dd :: wr)) (((xs.take i).filter p).map g) ys := DA.mono up4 (fun _ _ _ => id) hys
        have gv4 : Mine.D C h4 (addM M ((Cf + 1) :: Cf :: Dd :: wr)) (di xs[i]) v := D.mono (fun b o hb e => hs4.extBut b o (fun q => hb (.inr (q ▸ .head _))) e) (fun _ _ _ => id) g3
        generalize hs4' : ({ s' with heap := h4, toks := tk3 } : Shared) = s4
        have e4h : s4.heap = h4 := by rw [← hs4']
        have k14 : Keeps s₁ s4 := by
          obtain ⟨h', tk', e, _⟩ := k'
          exact ⟨h4, tk3, by rw [← hs4', e], key4⟩
        -- the inner names
        have R4 : Rd C (compEnvC scope ((x, Cf + 1) :: cl) Cf env) (addM M ((Cf + 1) :: Cf :: Dd :: wr)) ((x, di xs[i]) :: σc) none s4 := by
          refine ⟨⟨fun b o e => kp_heap k14 b o (hrd.base b o e), fun b hb => ?_, fun b hb => ?_⟩, m, (fun y => if y = x then some v else cm y), e4h ▸ hn4, fun y c e => ?_, fun y d e => ?_, fun _ _ e => by cases e⟩
          · rcases hb with q | q
            · exact hrd.off b q
            · cases q2 : C.base.get? b with
              | none => rfl
              | some o =>
                have h1 := hrd.base b o q2
                rcases List.mem_cons.mp q with q | q
                · rw [q, hJ1] at h1; cases h1
                · rcases List.mem_cons.mp q with q | q
                  · rw [q, hC1] at h1; cases h1
                  · rcases List.mem_cons.mp q with q | q
                    · rw [q, hD1] at h1; cases h1
                    · rw [IT.new b q] at h1; cases h1
          · rw [e4h]
            rcases hb with q | q
            · obtain ⟨o, ho⟩ := hrd.own b q; exact ⟨o, key4 b o ho⟩
            · rcases List.mem_cons.mp q with q | q
              · obtain ⟨o, ho, _⟩ := hj4; exact ⟨o, q ▸ ho⟩
              · rcases List.mem_cons.mp q with q | q
                · obtain ⟨o, _, _, ho, _⟩ := hn4; exact ⟨o, q ▸ ho⟩
                · rcases List.mem_cons.mp q with q | q
                  · obtain ⟨nn, ho⟩ := hp4; exact ⟨_, q ▸ ho⟩
                  · exact IT.live _ _ st4 b q
          · replace e : ((x, Cf + 1) :: cl).lookup y = some c := e
            rw [List.lookup_cons] at e
            by_cases q : y = x
            · subst q
              simp only [beq_self_eq_true] at e
              cases e
              simp only [↓reduceIte]
              exact e4h ▸ hj4
            · simp only [q, ↓reduceIte]
              rw [beq_eq_false_iff_ne.mpr q] at e
              exact (hCells y c (hcl y c e)).keeps (kp_heap k14)
          · rw [List.lookup_cons] at e
            cases hb : y == x with
            | true =>
              rw [hb] at e; cases e
              have := beq_iff_eq.mp hb
              subst this
              refine ⟨v, ?_, e4h ▸ gv4⟩
              simp [getv, Env.kindOf, compEnvC, hx]
            | false =>
              rw [hb] at e
              have hyx : y ≠ x := fun q => by rw [q] at hb; simp at hb
              obtain ⟨hk1, c, hc1, hc2, hk2⟩ := hcap y d e
              obtain ⟨u, hu1, hu2⟩ := hVars y d (hsub y d e)
              refine ⟨u, ?_, D.mono (fun b o _ e => kp_heap k14 b o e) hMM hu2⟩
              have hu3 : cm y = some u := by
                unfold getv at hu1
                rcases hk2 with q | q <;> rw [q, hc2] at hu1 <;> exact hu1
              have hc1' : ((x, Cf + 1) :: cl).lookup y = some c := by rw [List.lookup_cons, hb]; exact hc1
              unfold getv
              show (match (relabel scope env).names.lookup y with
                | some .local => _
                | some .cell => match ((x, Cf + 1) :: cl).lookup y with
                  | some _ => if y = x then some v else cm y
                  | none => none
                | some .free => match ((x, Cf + 1) :: cl).lookup y with
                  | some _ => if y = x then some v else cm y
                  | none => none
                | _ => none) = some u
              rcases hk1 with q | q <;> rw [q, hc1'] <;> (show (if y = x then some v else cm y) = some u) <;> rw [if_neg hyx] <;> exact hu3
        -- the tests
        have tests : ∀ Q : Bool → Shared → Prop, (∀ s5, Keeps s4 s5 → Q (p xs[i]) s5) → wpAny (model C.prog C.w) A (forIn ifs true fun c r => if r = true then do let ok ← isTrue c (compEnvC scope ((x, Cf + 1) :: cl) Cf env) (eval c (compEnvC scope ((x, Cf + 1) :: cl) Cf env)); pure (ForInStep.yield ok) else pure (ForInStep.yield r)) Q (notedBy (model C.prog C.w) A (compEnvC scope ((x, Cf + 1) :: cl) Cf env) fun e s' => RR (.ref Dd) Cf (.error e) s') s4 := fun Q hQ => by
          have tt := htest Cf xs[i] hmem
          generalize p xs[i] = pb at tt hQ
          cases tt with
          | nil => exact wpAny_tests_nil (hQ s4 (kp_refl s4))
          | one h => exact wpAny_tests_one (h A _ s4 _ hA R4 _ hQ)
        refine tests _ fun s5 k5 => ?_
        have st5 : Stt (i + 1) s5.heap := IT.frame _ _ _ st4 fun b _ o e => kp_heap k5 b o (e4h ▸ e)
        have hn5 : s5.heap.Ns Cf m := (e4h ▸ hn4).keeps (kp_heap k5)
        have hj5 : s5.heap.IsCell (Cf + 1) (some v) := (e4h ▸ hj4).keeps (kp_heap k5)
        have hp5 : s5.heap.PlainList Dd ys.toArray := (e4h ▸ hp4).at fun o => kp_heap k5 Dd o
        have hys5 : DA C s5.heap (addM M ((Cf + 1) :: Cf :: Dd :: wr)) (((xs.take i).filter p).map g) ys := (e4h ▸ hys4).up (kp_heap k5)
        cases hpa : p xs[i] with
        | false =>
          simp only [Bool.false_eq_true, if_false]
          refine ⟨xs.length + 1 - (i + 1), by omega, i + 1, _, ys, rfl, hlt, kp_trans k14 k5, st5, hn5, ⟨_, hj5⟩, hp5, ?_⟩
          rw [take_map_filter p g xs i _ ha, hpa]
          simpa using hys5
        | true =>
          simp only [if_true]
          refine helt Cf xs[i] hmem hpa A _ s5 _ hA (R4.keeps k5) _ fun y s6 k6 g6 => ?_
          have hlen := hys5.length
          have hle : (((xs.take i).filter p).map g).length ≤ xs.length := by
            rw [List.length_map]
            exact Nat.le_trans (List.length_filter_le _ _) (by rw [List.length_take]; omega)
          have e24 : sizeLine = 2 ^ 24 := rfl
          refine wpAny_list_append_plain (hp5.at fun o => kp_heap k6 Dd o) (fun h7 hp7 hs7 => ?_) (by simp only [List.size_toArray]; omega)
          have up7 : ∀ b o, ¬ addM M ((Cf + 1) :: Cf :: Dd :: wr) b → s6.heap.get? b = some o → h7.get? b = some o := fun b o hb e => hs7.extBut b o (fun q => hb (.inr (q ▸ .tail _ (.tail _ (.head _))))) e
          refine ⟨xs.length + 1 - (i + 1), by omega, i + 1, _, ys ++ [y], rfl, hlt, ?_, ?_, ((hn5.keeps (kp_heap k6)).sameBut hs7 (Ne.symm hDC)), ⟨_, (hj5.keeps (kp_heap k6)).sameBut hs7 hJD⟩, by simpa using hp7, ?_⟩
          · have kk := kp_trans k14 (kp_trans k5 k6)
            obtain ⟨h', tk', e, kk'⟩ := kk
            subst e
            exact ⟨h7, tk', rfl, fun b o e => hs7.extBut b o (fun q => by rw [q, hD1] at e; cases e) (kk' b o e)⟩
          · exact IT.frame _ _ _ st5 fun b hb o e => hs7.extBut b o (fpok b hb).2 (kp_heap k6 b o e)
          · rw [take_map_filter p g xs i _ ha, hpa]
            exact (DA.mono up7 (fun _ _ _ => id) (hys5.up (kp_heap k6))).append (.one (D.mono up7 (fun _ _ _ => id) g6))
      · obtain ⟨v, rfl, h⟩ := h
        have hl : letOwnedTupleGo (.Name x px) (.ref I) v = pure () := rfl
        rw [hl] at h
        exact fun Γ p hΓ => h Γ p hΓ Γ p hΓ
    · have hin : i = xs.length := by omega
      subst hin
      refine wpAny_mono (IT.done A s' (fun s3 => RR (.ref Dd) Cf (.ok .next) s3) _ hA.none (by rw [List.length_map]; exact st') fun h3 tk3 k3 => ?_) (fun r s3 h => by obtain ⟨rfl, h⟩ := h; exact h) fun _ _ x => x
      rw [List.take_length] at hys
      refine hRR Dd Cf _ ?_ hC1 ⟨m, hm.at' fun o e => k3 Cf o wrC e⟩ ⟨Dd, ys, rfl, ?_, (hp.at fun o e => k3 Dd o wrD e).isList, ?_⟩
      · obtain ⟨h', tk', e, kk'⟩ := k'
        subst e
        exact ⟨h3, tk3, rfl, fun b o e => k3 b o (fun q => by rw [IT.new b q] at e; cases e) (kk' b o e)⟩
      · rintro (q | q)
        · obtain ⟨o, ho⟩ := hrd.own Dd q; rw [hD1] at ho; cases ho
        · exact hDC (List.mem_singleton.mp q)
      · refine DA.mono (fun b o hb e => k3 b o (fun q => hb (.inr (.tail _ (.tail _ (.tail _ q))))) e) (fun b o _ q => ?_) hys
        rcases q with q | q
        · exact .inl q
        · exact .inr (by rw [List.mem_singleton.mp q]; exact .tail _ (.head _))
  exact codeAny_compStart_list (loop _ rfl) (IT.self A 0 _ _ _ hA.none st1 (loop _ rfl))
end Mine

namespace Mine
open PySem PySem.W PyProof.Rows PySem.Calls

variable {C : Cx}
section
variable {α : Type} {n : Nat} {env : Env} {σ σc : Sto} {ow : Own} {scope : Scope} {cl : List (PySem.Str × Addr)} {x y : PySem.Str} {px py pos spos : Pos} {elt iter : PySem.Expr} {ifs : List PySem.Expr} {dl : Dt}
    {xs : List α} {di : α → Dt} {p : α → Bool} {g : α → Dt} {Φ : Post}

/-- what a comprehension wants -/
structure CompOkJ (C : Cx) (n : Nat) (env : Env) (σ σc : Sto) (ow : Own) (scope : Scope) (cl : List (PySem.Str × Addr)) (x : PySem.Str) (px : Pos) (elt iter : PySem.Expr) (ifs : List PySem.Expr) (dl : Dt) (xs : List α) (di : α → Dt) (p : α → Bool) (g : α → Dt) : Prop where
  it : Ev C n env σ ow iter dl
  itb : Itb C (.Name x px) dl (xs.map di) pyIter
  test : ∀ Cf, ∀ a ∈ xs, TT C n (compEnvC scope ((x, Cf + 1) :: cl) Cf env) ((x, di a) :: σc) ifs (p a)
  elt : ∀ Cf, ∀ a ∈ xs, p a = true → Ev C n (compEnvC scope ((x, Cf + 1) :: cl) Cf env) ((x, di a) :: σc) none elt (g a)
  clos : closureFor scope env = pure cl
  cellJ : ∀ k, cellsFrom k scope.names cl = (x, k) :: cl
  pushJ : ∀ h, pushCells h scope.names = h.push { cls := .type "cell", data := .cell .none }
  kind : scope.kind = .function
  names : ∀ y ∈ scope.names, y.2 = .local → scope.names.lookup y.1 = some .local
  var : (relabel scope env).names.lookup x = some .cell
  sub : Sub σ σc
  cap : capB env scope cl σc
  few : xs.length ≤ 2 ^ 20
  cl : ∀ y c, cl.lookup y = some c → env.cells.lookup y = some c

theorem Ex1.asgCompJ (h : CompOkJ C n env σ σc ow scope cl x px elt iter ifs dl xs di p g) (hΦ : Φ .next ((y, .list ((xs.filter p).map g)) :: σ) ow) (hst : stored env y = true := by rfl) (ho : ow.all (fun q => !(q.1 == y)) = true := by rfl)
    (hsw : swapsWith (.ListComp elt [⟨.Name x px, iter, ifs, 0⟩] scope pos) (some (.Name y py)) spos.line env = pure true := by rfl) (hs : ∀ x, foldedSetIterable iter env x = pure x := by intro _; rfl) :
    Ex1 C n env σ ow (.Assign [.Name y py] (.ListComp elt [⟨.Name x px, iter, ifs, 0⟩] scope pos) spos) Φ := fun A s₀ M₀ s oa E Q hA S hQ => by
  rw [exec_Assign_Name_used _ _ _ _ hsw]
  refine wpAny_bind (wpAny_standAt (wpAny_bind ?_))
  show wpAny _ A (do let _ ← comprehension (.ListComp elt [⟨.Name x px, iter, ifs, 0⟩] scope pos) scope env _ (newList []) false (eval iter env) (some (assign (.Name y py) env))) _ _ s
  refine wpAny_bind (wpAny_mono (wpAny_comprehension_free (use := some (assign (.Name y py) env)) (Q := fun _ s' => Q .next s') rfl hs h.clos h.kind h.names (h.it A _ s E hA S.rd _ fun v s1 k1 g1 => h.itb A _ s1 E v _ (S.keeps k1).wd g1 fun I wr fp Stt s2 k2 IT st0 => ?_))
    (fun _ s' hq => wpAny_pure (wpAny_pure hq)) fun _ _ e => e)
  have S1 := S.keeps k1
  refine comp_coreJ (RR := fun acc Cf => compPost (model C.prog C.w) A E (some (assign (.Name y py) env)) (fun _ s' => Q .next s') acc Cf) hA S1.rd k2 IT st0 h.cellJ h.pushJ h.kind h.var h.sub h.cap h.few h.test h.elt h.cl fun Dd Cf s' k' hCf hm hD => ?_
  obtain ⟨m, hm⟩ := hm
  obtain ⟨S', hO, hoa⟩ := S1.add (I := [Cf]) k' (fun b hb => by rw [List.mem_singleton.mp hb]; exact hCf) (fun b hb => by rw [List.mem_singleton.mp hb]; obtain ⟨o, _, _, ho, _⟩ := hm; exact ⟨o, ho⟩)
  have hCL : Cf ≠ env.locals := fun q => hO.loc (q ▸ List.mem_singleton.mpr rfl)
  have hMC : ¬ M₀ Cf := fun q => by obtain ⟨o, ho⟩ := S1.wd.own Cf (.inl q); rw [hCf] at ho; cases ho
  have hD' : Mine.D C s'.heap (mu (addM M₀ [Cf]) env oa) (.list ((xs.filter p).map g)) (.ref Dd) := D.mono (fun _ _ _ e => e) (fun b _ _ q => (mu_add.mp q).elim .inl .inr) hD
  refine (Tg.name hst ho) A s₀ _ s' oa σ E _ _ hA.none S' hD' fun s3 S3 k3 => ?_
  have kC : ∀ o, s'.heap.get? Cf = some o → s3.heap.get? Cf = some o := fun o e => k3.keep Cf o e hCL (fun z q => hO.cell z Cf q (List.mem_singleton.mpr rfl)) (fun q => hoa Cf q (List.mem_singleton.mpr rfl))
  refine ⟨m, hm.at' kC, fun h' hsb => ?_⟩
  have Sd := S3.drop hO hoa (fun b hb => by rw [List.mem_singleton.mp hb]; exact hMC) (h' := h') (tk := s3.toks) fun b o hb e => hsb.extBut b o (fun q => hb (List.mem_singleton.mpr q)) e
  refine hQ .next .next _ oa _ ow Sd ?_ trivial hΦ
  refine (Fk.keeps (kp_trans k1 k')).trans k3 S3.done |>.thru (I := [Cf]) (fun b hb => ?_) fun b o hb e => hsb.extBut b o (fun q => hb (List.mem_singleton.mpr q)) e
  rw [List.mem_singleton.mp hb]
  cases q : s.heap.get? Cf with
  | none => rfl
  | some o => rw [kp_heap k1 Cf o q] at hCf; cases hCf
end
end Mine

namespace Mine
open PySem PySem.W PyProof.Rows PySem.Calls
variable {C : Cx}

def DiAt (C : Cx) (D : Addr) (ps : List (PySem.Str × PySem.Str)) (h : Heap) : Prop := ∃ kvs, h.DictOf (PySem.strKind C.prog C.w) D kvs ∧ kvs.length ≤ ps.length ∧ ∀ k, match ps.lookup k with
  | some x => ∃ t, valueAt kvs k = some (.str x t)
  | none => valueAt kvs k = none
theorem DiAt.obj {D : Addr} {ps : List (PySem.Str × PySem.Str)} {h : Heap} (x : DiAt C D ps h) : ∃ o, h.get? D = some o := by
  obtain ⟨f, ⟨o, _, _, ho, _⟩, _⟩ := x; exact ⟨o, ho⟩
theorem DiAt.at {D : Addr} {ps : List (PySem.Str × PySem.Str)} {h h' : Heap} (x : DiAt C D ps h) (k : ∀ o, h.get? D = some o → h'.get? D = some o) : DiAt C D ps h' := by
  obtain ⟨f, ⟨o, es, ep, ho, r⟩, h2⟩ := x; exact ⟨f, ⟨o, es, ep, k o ho, r⟩, h2⟩
theorem find_map_store {kvs : List (PySem.Str × Value)} {k k' : PySem.Str} {v : Value} : valueAt (kvs.map fun kv => if kv.1 = k then (kv.1, v) else kv) k' = if k' = k ∧ kvs.any (fun kv => kv.1 = k) = true then some v else valueAt kvs k' := by
  induction kvs with
  | nil => simp [valueAt]
  | cons kv r ih =>
    unfold valueAt at ih ⊢
    rw [List.map_cons, List.find?_cons, List.find?_cons]
    by_cases h1 : kv.1 = k
    · simp only [h1, ↓reduceIte]
      by_cases h2 : k = k'
      · subst h2; simp [h1]
      · have h3 : ¬ k' = k := fun q => h2 q.symm
        simp only [h2, h3, decide_false, false_and, ↓reduceIte] at ih ⊢
        exact ih
    · simp only [h1, ↓reduceIte]
      by_cases h2 : kv.1 = k'
      · have h3 : ¬ k' = k := fun q => h1 (h2.trans q)
        simp [h2, h3]
      · simp only [h2, decide_false]
        rw [ih, List.any_cons]
        simp only [h1, decide_false, Bool.false_or]
theorem valueAt_store {kvs : List (PySem.Str × Value)} {k k' : PySem.Str} {v : Value} : valueAt (PySem.stored kvs k v) k' = if k' = k then some v else valueAt kvs k' := by
  have hst : PySem.stored kvs k v = if kvs.any (fun kv => kv.1 = k) then kvs.map (fun kv => if kv.1 = k then (kv.1, v) else kv) else kvs ++ [(k, v)] := rfl
  rw [hst]
  by_cases h : kvs.any (fun kv => kv.1 = k) = true
  · rw [if_pos h, find_map_store]; simp [h]
  · rw [if_neg h]
    unfold valueAt
    rw [List.find?_append]
    by_cases q : k' = k
    · subst q
      have : kvs.find? (fun kv => decide (kv.1 = k')) = none := by
        rw [List.find?_eq_none]
        intro kv hkv hd
        exact h (List.any_eq_true.mpr ⟨kv, hkv, hd⟩)
      rw [this]; simp
    · have : ¬ k = k' := fun z => q z.symm
      simp [q, List.find?_cons, this]
theorem dictset_str {A : Around} {E : Value → Shared → Prop} {s : Shared} {D : Addr} {ps : List (PySem.Str × PySem.Str)} {k v : PySem.Str} {tk tv : Tok} {Q : Unit → Shared → Prop} (x : DiAt C D ps s.heap) (hps : ps.length ≤ 2 ^ 20)
    (h : ∀ h' tk', Heap.SameBut D s.heap h' → DiAt C D ((k, v) :: ps) h' → Q () { s with heap := h', toks := tk' }) : wpAny (model C.prog C.w) A (dictSet D (.str k tk) (.str v tv)) Q E s := by
  obtain ⟨kvs, h1, hl, h2⟩ := x
  have e24 : sizeLine = 2 ^ 24 := rfl
  refine wpAny_dictSet_pairs (hsz := by omega) (strKind_is C.prog C.w k tk) h1 fun h' hm hs => ?_
  refine h h' _ hs ⟨_, hm, ?_, fun k' => ?_⟩
  · have := stored_length_le kvs k (.str v tv)
    rw [List.length_cons]; omega
  rw [List.lookup_cons, valueAt_store]
  by_cases q : k' = k
  · subst q
    simp only [beq_self_eq_true]
    exact ⟨tv, by simp⟩
  · rw [beq_eq_false_iff_ne.mpr q]
    simp only [q, ↓reduceIte]
    exact h2 k'
theorem comp_dict {α : Type} {n : Nat} {A : Around} {M : Mu} {E : Value → Shared → Prop} {s₁ s₂ : Shared} {env : Env} {σ σc : Sto} {ow : Own} {scope : Scope} {cl : List (PySem.Str × Addr)} {x : PySem.Str} {px pos : Pos} {kx vx iter : PySem.Expr}
    {xs : List α} {di : α → Dt} {kf vf : α → PySem.Str} {I : Addr} {wr fp : List Addr} {Stt : Nat → Heap → Prop} {RR : Value → Addr → Result → Shared → Prop}
    (hA : Room n A) (hrd : Rd C env M σ ow s₁) (k12 : Keeps s₁ s₂) (IT : Iter C (.Name x px) I wr fp s₁.heap M (xs.map di) Stt) (st0 : Stt 0 s₂.heap)
    (hcell : ∀ y ∈ scope.names, y.2 ≠ .cell) (hkind : scope.kind = .function) (hx : (relabel scope env).names.lookup x = some .local) (hsub : Sub σ σc) (hcap : capB env scope cl σc) (hxs : xs.length ≤ 2 ^ 20)
    (hkx : ∀ Cf, ∀ a ∈ xs, Ev C n (compEnvC scope cl Cf env) ((x, di a) :: σc) none kx (.str (kf a))) (hvx : ∀ Cf, ∀ a ∈ xs, Ev C n (compEnvC scope cl Cf env) ((x, di a) :: σc) none vx (.str (vf a)))
    (hcl : ∀ y c, cl.lookup y = some c → env.cells.lookup y = some c)
    (hRR : ∀ D Cf s', Keeps s₁ s' → s₁.heap.get? Cf = none → (∃ m, s'.heap.Ns Cf m) → Mine.D C s'.heap (addM M [Cf]) (.sdict (xs.map fun a => (kf a, vf a)).reverse) (.ref D) → RR (.ref D) Cf (.ok .next) s') :
    wpAny (model C.prog C.w) A newDict (fun acc s₃ => wpAny (model C.prog C.w) A (newFunctionEnv scope env.globals cl [] env.qual none .none (some env)) (fun cenv s₄ =>
      codeAny (model C.prog C.w) A (.compStart (.DictComp kx vx [⟨.Name x px, iter, [], 0⟩] scope pos) 0 (.ref I) acc { cenv with scope := relabel scope env }) (RR acc cenv.locals) s₄) E s₃) E s₂ := by
  refine wpAny_newObj_type (wpAny_newFunctionEnv hcell (by intro y hy; simp at hy) (fun h₁ hns₁ hsb₁ => ?_) hkind)
  dsimp only at hns₁ hsb₁ ⊢
  generalize hH2 : s₂.heap.push { cls := .type "dict", dict := none, data := .dict #[] } = H2 at hns₁ hsb₁ ⊢
  generalize hDd : s₂.heap.objs.size = Dd
  have hC : H2.objs.size = Dd + 1 := by rw [← hH2, Heap.size_push, hDd]
  generalize hCf : H2.objs.size = Cf at hns₁ hsb₁ ⊢
  rw [hCf] at hC
  have noneAt : ∀ b : Addr, Dd ≤ b → s₂.heap.get? b = none := fun b hb => by
    cases q : s₂.heap.get? b with
    | none => rfl
    | some o => exact absurd (Heap.lt_size q) (Nat.not_lt.mpr (hDd ▸ hb))
  have none1 : ∀ b, s₂.heap.get? b = none → s₁.heap.get? b = none := fun b hb => by
    cases q : s₁.heap.get? b with
    | none => rfl
    | some o => exact absurd ((kp_heap k12 b o q).symm.trans hb) (by simp)
  have hD1 : s₁.heap.get? Dd = none := none1 _ (noneAt _ (Nat.le_refl _))
  have hC1 : s₁.heap.get? Cf = none := none1 _ (noneAt _ (by rw [hC]; exact Nat.le_succ _))
  have hDC : Dd ≠ Cf := by rw [hC]; exact Nat.ne_of_lt (Nat.lt_succ_self _)
  have wrD : Dd ∉ wr := fun h => by obtain ⟨o, ho⟩ := IT.live 0 _ st0 Dd h; rw [noneAt _ (Nat.le_refl _)] at ho; cases ho
  have wrC : Cf ∉ wr := fun h => by obtain ⟨o, ho⟩ := IT.live 0 _ st0 Cf h; rw [noneAt _ (by rw [hC]; exact Nat.le_succ _)] at ho; cases ho
  have old : ∀ b o, s₂.heap.get? b = some o → h₁.get? b = some o := fun b o e => hsb₁.extBut b o (fun q => by rw [q, noneAt _ (by rw [hC]; exact Nat.le_succ _)] at e; cases e) (Heap.get?_push_of_some _ (hH2 ▸ Heap.get?_push_of_some _ e))
  have old1 : ∀ b o, s₁.heap.get? b = some o → h₁.get? b = some o := fun b o e => old b o (kp_heap k12 b o e)
  have fpok : ∀ b ∈ fp, b ≠ Cf ∧ b ≠ Dd := fun b hb => by
    rcases IT.fpok b hb with q | ⟨_, o, ho⟩
    · exact ⟨fun e => wrC (e ▸ q), fun e => wrD (e ▸ q)⟩
    · exact ⟨fun e => (by rw [e, hC1] at ho; cases ho), fun e => (by rw [e, hD1] at ho; cases ho)⟩
  have hacc0 : DiAt C Dd [] H2 := ⟨[], hH2 ▸ hDd ▸ Heap.DictOf.new s₂.heap, Nat.le_refl _, fun _ => rfl⟩
  have hacc : DiAt C Dd [] h₁ := hacc0.at fun o e => hsb₁.extBut _ _ hDC (Heap.get?_push_of_some _ e)
  have st1 : Stt 0 h₁ := IT.frame _ _ _ st0 fun b _ o e => old b o e
  -- what changes while it runs
  have hMM : ∀ b o, s₁.heap.get? b = some o → addM M (Cf :: Dd :: wr) b → M b := fun b o e q => by
    rcases q with q | q
    · exact q
    · rcases List.mem_cons.mp q with q | q
      · rw [q, hC1] at e; cases e
      · rcases List.mem_cons.mp q with q | q
        · rw [q, hD1] at e; cases e
        · rw [IT.new b q] at e; cases e
  obtain ⟨m₀, cm, hNs, hCells, hVars, _⟩ := hrd.names
  -- the loop
  have loop : ∀ s₃ : Shared, s₃ = { s₂ with heap := h₁, toks := s₂.toks + ([] : List (PySem.Str × Value)).length } →
      codeAny (model C.prog C.w) A (.compLoop (.DictComp kx vx [⟨.Name x px, iter, [], 0⟩] scope pos) 0 (.ref I) (.ref Dd) (compEnvC scope cl Cf env)) (RR (.ref Dd) Cf) s₃ := by
    rintro s₃ rfl
    have k13 : Keeps s₁ { s₂ with heap := h₁, toks := s₂.toks + ([] : List (PySem.Str × Value)).length } := by
      obtain ⟨h', tk', e, _⟩ := k12
      exact ⟨h₁, s₂.toks + ([] : List (PySem.Str × Value)).length, by rw [e], old1⟩
    refine codeAny_compLoop_testsD (fun kk s' => ∃ (i : Nat) (m : PySem.Str → Option Value), kk = xs.length + 1 - i ∧ i ≤ xs.length ∧ Keeps s₁ s' ∧ Stt i s'.heap ∧ s'.heap.Ns Cf m ∧ DiAt C Dd ((xs.take i).map fun a => (kf a, vf a)).reverse s'.heap) ?_ (xs.length + 1) ⟨0, _, by omega, Nat.zero_le _, k13, st1, hns₁, hacc⟩
    rintro kk s' ⟨i, m, rfl, hi, k', st', hm, hp⟩
    have hM'own : ∀ b, addM M (Cf :: Dd :: wr) b → ∃ o, s'.heap.get? b = some o := fun b hb => by
      rcases hb with q | q
      · obtain ⟨o, ho⟩ := hrd.own b q; exact ⟨o, kp_heap k' b o ho⟩
      · rcases List.mem_cons.mp q with q | q
        · obtain ⟨o, _, _, ho, _⟩ := hm; exact ⟨o, q ▸ ho⟩
        · rcases List.mem_cons.mp q with q | q
          · obtain ⟨o, ho⟩ := hp.obj; exact ⟨_, q ▸ ho⟩
          · exact IT.live _ _ st' b q
    by_cases hlt : i < xs.length
    · have hlt' : i < (xs.map di).length := by rw [List.length_map]; exact hlt
      have ha : xs[i]? = some xs[i] := List.getElem?_eq_getElem hlt
      have hmem : xs[i] ∈ xs := List.getElem_mem hlt
      refine wpAny_mono (IT.item A i s' (addM M (Cf :: Dd :: wr)) (fun v s3 => wpAny (model C.prog C.w) A (assign (.Name x px) (compEnvC scope cl Cf env) v) (fun _ s₂ => wpAny (model C.prog C.w) A (forIn [] true fun c r => if r = true then do let ok ← isTrue c (compEnvC scope cl Cf env) (eval c (compEnvC scope cl Cf env)); pure (ForInStep.yield ok) else pure (ForInStep.yield r)) (fun ok s₃ =>
            if ok = true then wpAny (model C.prog C.w) A (eval kx (compEnvC scope cl Cf env)) (fun kv s₄ => wpAny (model C.prog C.w) A (eval vx (compEnvC scope cl Cf env)) (fun vv s₅ =>
              wpAny (model C.prog C.w) A (dictSet Dd kv vv) (fun _ s₆ => ∃ m, m < xs.length + 1 - i ∧ ∃ (i : Nat) (m_1 : PySem.Str → Option Value), m = xs.length + 1 - i ∧ i ≤ xs.length ∧ Keeps s₁ s₆ ∧ Stt i s₆.heap ∧ s₆.heap.Ns Cf m_1 ∧ DiAt C Dd ((xs.take i).map fun a => (kf a, vf a)).reverse s₆.heap) (notedBy (model C.prog C.w) A (compEnvC scope cl Cf env) fun e s' => RR (.ref Dd) Cf (.error e) s') s₅) (notedBy (model C.prog C.w) A (compEnvC scope cl Cf env) fun e s' => RR (.ref Dd) Cf (.error e) s') s₄) (notedBy (model C.prog C.w) A (compEnvC scope cl Cf env) fun e s' => RR (.ref Dd) Cf (.error e) s') s₃
            else ∃ m, m < xs.length + 1 - i ∧ ∃ (i : Nat) (m_1 : PySem.Str → Option Value), m = xs.length + 1 - i ∧ i ≤ xs.length ∧ Keeps s₁ s₃ ∧ Stt i s₃.heap ∧ s₃.heap.Ns Cf m_1 ∧ DiAt C Dd ((xs.take i).map fun a => (kf a, vf a)).reverse s₃.heap) (notedBy (model C.prog C.w) A (compEnvC scope cl Cf env) fun e s' => RR (.ref Dd) Cf (.error e) s') s₂) (notedBy (model C.prog C.w) A (compEnvC scope cl Cf env) fun e s' => RR (.ref Dd) Cf (.error e) s') s3) _ hA.none hlt' st' hM'own hMM (fun b o _ _ e => kp_heap k' b o e) fun v d h3 tk3 hd g3 st3 k3 => ?_) (fun r s3 h => ?_) fun _ _ x => x
      · -- assign
        rw [List.getElem?_map, ha] at hd
        cases hd
        have up3 : ∀ b o, ¬ addM M (Cf :: Dd :: wr) b → s'.heap.get? b = some o → h3.get? b = some o := fun b o hb e => k3 b o (fun q => hb (.inr (.tail _ (.tail _ q)))) e
        have hm3 : h3.Ns Cf m := hm.at' fun o e => k3 Cf o wrC e
        have hp3 : DiAt C Dd ((xs.take i).map fun a => (kf a, vf a)).reverse h3 := hp.at fun o e => k3 Dd o wrD e
        have key3 : ∀ b o, s₁.heap.get? b = some o → h3.get? b = some o := fun b o e => k3 b o (fun q => by rw [IT.new b q] at e; cases e) (kp_heap k' b o e)
        refine wpAny_assign_Name (wpAny_storeName_local (env := compEnvC scope cl Cf env) hx hm3 (fun h4 hn4 hs4 => ?_) (by simp [compEnvC, relabel, hkind]))
        replace hn4 : h4.Ns Cf (fun y => if y = x then some v else m y) := hn4
        replace hs4 : Heap.SameBut Cf h3 h4 := hs4
        have up4 : ∀ b o, ¬ addM M (Cf :: Dd :: wr) b → s'.heap.get? b = some o → h4.get? b = some o := fun b o hb e => hs4.extBut b o (fun q => hb (.inr (q ▸ .head _))) (up3 b o hb e)
        have key4 : ∀ b o, s₁.heap.get? b = some o → h4.get? b = some o := fun b o e => hs4.extBut b o (fun q => by rw [q, hC1] at e; cases e) (key3 b o e)
        have st4 : Stt (i + 1) h4 := IT.frame _ _ _ st3 fun b hb o e => hs4.extBut b o (fpok b hb).1 e
        have hp4 : DiAt C Dd ((xs.take i).map fun a => (kf a, vf a)).reverse h4 := hp3.at fun o e => hs4.extBut Dd o hDC e
        have gv4 : Mine.D C h4 (addM M (Cf :: Dd :: wr)) (di xs[i]) v := D.mono (fun b o hb e => hs4.extBut b o (fun q => hb (.inr (q ▸ .head _))) e) (fun _ _ _ => id) g3
        generalize hs4' : ({ s' with heap := h4, toks := tk3 + 1 } : Shared) = s4
        have e4h : s4.heap = h4 := by rw [← hs4']
        have k14 : Keeps s₁ s4 := by
          obtain ⟨h', tk', e, _⟩ := k'
          exact ⟨h4, tk3 + 1, by rw [← hs4', e], key4⟩
        -- the inner names
        have R4 : Rd C (compEnvC scope cl Cf env) (addM M (Cf :: Dd :: wr)) ((x, di xs[i]) :: σc) none s4 := by
          refine ⟨⟨fun b o e => kp_heap k14 b o (hrd.base b o e), fun b hb => ?_, fun b hb => ?_⟩, (fun y => if y = x then some v else m y), cm, e4h ▸ hn4, fun y c e => (hCells y c (hcl y c e)).keeps (kp_heap k14), fun y d e => ?_, fun _ _ e => by cases e⟩
          · rcases hb with q | q
            · exact hrd.off b q
            · cases q2 : C.base.get? b with
              | none => rfl
              | some o =>
                have h1 := hrd.base b o q2
                rcases List.mem_cons.mp q with q | q
                · rw [q, hC1] at h1; cases h1
                · rcases List.mem_cons.mp q with q | q
                  · rw [q, hD1] at h1; cases h1
                  · rw [IT.new b q] at h1; cases h1
          · rw [e4h]
            rcases hb with q | q
            · obtain ⟨o, ho⟩ := hrd.own b q; exact ⟨o, key4 b o ho⟩
            · rcases List.mem_cons.mp q with q | q
              · obtain ⟨o, _, _, ho, _⟩ := hn4; exact ⟨o, q ▸ ho⟩
              · rcases List.mem_cons.mp q with q | q
                · obtain ⟨o, ho⟩ := hp4.obj; exact ⟨_, q ▸ ho⟩
                · exact IT.live _ _ st4 b q
          · rw [List.lookup_cons] at e
            cases hb : y == x with
            | true =>
              rw [hb] at e; cases e
              have := beq_iff_eq.mp hb
              subst this
              refine ⟨v, ?_, e4h ▸ gv4⟩
              simp [getv, Env.kindOf, compEnvC, hx]
            | false =>
              rw [hb] at e
              obtain ⟨hk1, c, hc1, hc2, hk2⟩ := hcap y d e
              obtain ⟨u, hu1, hu2⟩ := hVars y d (hsub y d e)
              refine ⟨u, ?_, D.mono (fun b o _ e => kp_heap k14 b o e) hMM hu2⟩
              have hu3 : cm y = some u := by
                unfold getv at hu1
                rcases hk2 with q | q <;> rw [q, hc2] at hu1 <;> exact hu1
              unfold getv
              show (match (relabel scope env).names.lookup y with
                | some .local => _
                | some .cell => match cl.lookup y with
                  | some _ => cm y
                  | none => none
                | some .free => match cl.lookup y with
                  | some _ => cm y
                  | none => none
                | _ => none) = some u
              rcases hk1 with q | q <;> rw [q, hc1] <;> exact hu3
        refine wpAny_tests_nil ?_
        simp only [if_true]
        refine hkx Cf xs[i] hmem A _ s4 _ hA R4 _ fun kv s5 k5 g5 => hvx Cf xs[i] hmem A _ s5 _ hA (R4.keeps k5) _ fun vv s6 k6 g6 => ?_
        obtain ⟨tk, rfl⟩ := g5
        obtain ⟨tv, rfl⟩ := g6
        have k46 := kp_trans k5 k6
        have st6 : Stt (i + 1) s6.heap := IT.frame _ _ _ st4 fun b _ o e => kp_heap k46 b o (e4h ▸ e)
        have hn6 : s6.heap.Ns Cf (fun y => if y = x then some v else m y) := (e4h ▸ hn4).keeps (kp_heap k46)
        have hp6 : DiAt C Dd ((xs.take i).map fun a => (kf a, vf a)).reverse s6.heap := (e4h ▸ hp4).at fun o => kp_heap k46 Dd o
        refine dictset_str hp6 (by rw [List.length_reverse, List.length_map, List.length_take]; omega) fun h7 tk7 hs7 hp7 => ?_
        have en : ((xs.take (i + 1)).map fun a => (kf a, vf a)).reverse = (kf xs[i], vf xs[i]) :: ((xs.take i).map fun a => (kf a, vf a)).reverse := by
          rw [List.take_add_one, ha, List.map_append, List.reverse_append]; rfl
        refine ⟨xs.length + 1 - (i + 1), by omega, i + 1, _, rfl, hlt, ?_, ?_, hn6.sameBut hs7 (Ne.symm hDC), en ▸ hp7⟩
        · have kk := kp_trans k14 k46
          obtain ⟨h', tk', e, kk'⟩ := kk
          subst e
          exact ⟨h7, tk7, rfl, fun b o e => hs7.extBut b o (fun q => by rw [q, hD1] at e; cases e) (kk' b o e)⟩
        · exact IT.frame _ _ _ st6 fun b hb o e => hs7.extBut b o (fpok b hb).2 e
      · obtain ⟨v, rfl, h⟩ := h
        have hl : letOwnedTupleGo (.Name x px) (.ref I) v = pure () := rfl
        rw [hl] at h
        exact fun Γ p hΓ => h Γ p hΓ Γ p hΓ
    · have hin : i = xs.length := by omega
      subst hin
      refine wpAny_mono (IT.done A s' (fun s3 => RR (.ref Dd) Cf (.ok .next) s3) _ hA.none (by rw [List.length_map]; exact st') fun h3 tk3 k3 => ?_) (fun r s3 h => by obtain ⟨rfl, h⟩ := h; exact h) fun _ _ x => x
      rw [List.take_length] at hp
      obtain ⟨kvs, hf1, _, hf2⟩ := hp
      refine hRR Dd Cf _ ?_ hC1 ⟨m, hm.at' fun o e => k3 Cf o wrC e⟩ ⟨Dd, _, rfl, ?_, MapOf.off hf1.mapOf fun o e => k3 Dd o wrD e, hf2⟩
      · obtain ⟨h', tk', e, kk'⟩ := k'
        subst e
        exact ⟨h3, tk3, rfl, fun b o e => k3 b o (fun q => by rw [IT.new b q] at e; cases e) (kk' b o e)⟩
      · rintro (q | q)
        · obtain ⟨o, ho⟩ := hrd.own Dd q; rw [hD1] at ho; cases ho
        · exact hDC (List.mem_singleton.mp q)
  exact codeAny_compStart_dict (loop _ rfl) (IT.self A 0 _ _ _ hA.none st1 (loop _ rfl))
end Mine

namespace Mine
open PySem PySem.W PyProof.Rows PySem.Calls
variable {C : Cx}
section
variable {α : Type} {n : Nat} {env : Env} {σ σc : Sto} {ow : Own} {scope : Scope} {cl : List (PySem.Str × Addr)} {x : PySem.Str} {px pos : Pos} {kx vx iter : PySem.Expr} {dl : Dt}
    {xs : List α} {di : α → Dt} {kf vf : α → PySem.Str}
theorem Ev.dictC (hit : Ev C n env σ ow iter dl) (hitb : Itb C (.Name x px) dl (xs.map di) pyIter) (hkx : ∀ Cf, ∀ a ∈ xs, Ev C n (compEnvC scope cl Cf env) ((x, di a) :: σc) Option.none kx (.str (kf a))) (hvx : ∀ Cf, ∀ a ∈ xs, Ev C n (compEnvC scope cl Cf env) ((x, di a) :: σc) Option.none vx (.str (vf a)))
    (hclos : closureFor scope env = pure cl) (hcell : ∀ y ∈ scope.names, y.2 ≠ .cell) (hkind : scope.kind = .function) (hnames : ∀ y ∈ scope.names, y.2 = .local → scope.names.lookup y.1 = some .local) (hvar : (relabel scope env).names.lookup x = some .local)
    (hsub : Sub σ σc) (hcap : capB env scope cl σc) (hfew : xs.length ≤ 2 ^ 20) (hcl : ∀ y c, cl.lookup y = some c → env.cells.lookup y = some c) (hs : ∀ x, foldedSetIterable iter env x = pure x := by intro _; rfl) :
    Ev C n env σ ow (.DictComp kx vx [⟨.Name x px, iter, [], 0⟩] scope pos) (.sdict (xs.map fun a => (kf a, vf a)).reverse) := fun A M s E hA hrd Q hQ => by
  rw [arm_eval_DictComp]
  refine wpAny_comprehension_free (use := Option.none) rfl hs hclos hkind hnames (hit A M s E hA hrd _ fun v s1 k1 g1 => hitb A M s1 E v _ (hrd.keeps k1).toWd g1 fun I wr fp Stt s2 k2 IT st0 => ?_)
  refine comp_dict (RR := fun acc Cf => compPost (model C.prog C.w) A E Option.none Q acc Cf) hA (hrd.keeps k1) k2 IT st0 hcell hkind hvar hsub hcap hfew hkx hvx hcl fun Dd Cf s' k' hCf hm hD => ?_
  obtain ⟨m, hm⟩ := hm
  refine ⟨m, hm, fun h' hsb => hQ _ _ (kp_trans k1 ?_) ?_⟩
  · obtain ⟨h0, t0, e, kk⟩ := k'
    subst e
    exact ⟨h', t0, rfl, fun b o e => hsb.extBut b o (fun q => by rw [q, hCf] at e; cases e) (kk b o e)⟩
  · exact D.mono (fun b o hb e => hsb.extBut b o (fun q => hb (.inr (List.mem_singleton.mpr q))) e) (fun b _ _ q => .inl q) hD
end
end Mine

namespace Mine
open PySem PySem.W PyProof.Rows PySem.Calls
variable {C : Cx}

def drawnF (ns : List Int) : List Int := ((ns.take 14).map (Int.fmod · 96)) ++ [0, 1, 2, 5, 9, 24, 3, 10].drop (ns.take 14).length
def fdF (ns : List Int) : List Int := pick2 0 (drawnF ns)
def wdF (ns : List Int) : List Int := pick2 1 (drawnF ns)
def fsF (ns : List Int) : List Fo := (List.range (fdF ns).length).map (foF (fdF ns))
def wsF (ns : List Int) : List Wa := (wdF ns).map fun d => walkF d ((fsF ns).length : Int)
def plF (ns : List Int) : List PySem.Str := [sl] ++ (fsF ns).map (·.1)
def lsF (ns : List Int) : List (PySem.Str × PySem.Str) := ((fsF ns).map fun f => (f.1, fmS f.2.1)).reverse
def inF (ns : List Int) : List Int := (List.range (fsF ns).length).map fun k => ((leftF (fsF ns) (wsF ns) (k + 1)).length : Int)
def goF (ns : List Int) (w : Wa) : PySem.Str := normF (joinF (((plF ns)[w.2.1.toNat]?).getD "") w.2.2.1)
def cntF (ns : List Int) (p : Int → Bool) : Nat := ((inF ns).filter p).length
def plAt (ns : List Int) (k : Nat) : PySem.Str := ((plF ns)[k]?).getD ""
def dueF (ns : List Int) : List PySem.Str := (List.range (wsF ns).length).map fun j : Nat => plAt ns (cntF ns fun c => decide ((((wsF ns).length : Nat) : Int) - (j : Int) ≤ c))

/-- what the plain law is to show -/
structure LawOk (ns : List Int) (stF : Wa → PySem.Str) : Prop where
  dlen : (drawnF ns).length ≤ 14
  flen : 1 ≤ (fdF ns).length ∧ (fdF ns).length ≤ 14
  wlen : 1 ≤ (wdF ns).length ∧ (wdF ns).length ≤ 14
  plen : ∀ p ∈ plF ns, p.length ≤ 100
  wok : ∀ w ∈ wsF ns, 0 ≤ w.2.1 ∧ w.2.1.toNat < (plF ns).length ∧ w.2.2.1.length ≤ 4 ∧ 0 ≤ w.1
  stop : ∀ w ∈ wsF ns, ∃ (ch : Nat → PySem.Str) (N : Nat) (ls : Nat → PySem.Str) (c0 c1 : Nat → Nat), ch 0 = goF ns w ∧ (∀ i, i < N → ch (i + 1) = dirF (ch i)) ∧ ch N = sl ∧ (∀ i, i < N → ch i ≠ sl) ∧ (∀ i, i < N → (ch i).length ≤ 2 ^ 10) ∧
    (∀ i, i < N → (lsF ns).lookup (ch i) = some (ls i)) ∧ (∀ i, i < N → (ls i).length ≤ 2 ^ 10) ∧ (∀ i, i < N → (ls i).cps[0]? = some (c0 i)) ∧ (∀ i, i < N → (ls i).cps[(3 + 3 * w.1).toNat]? = some (c1 i)) ∧ stopAt ch (fun i => (c0 i == 100) && inX (c1 i)) N = stF w
  inb : ∀ p : Int → Bool, cntF ns p < (plF ns).length
  sorted : ∀ zs : List PySem.Str, zs.Perm ((wsF ns).map stF) → sortedS zs = true → zs = dueF ns
  strok : (dueF ns).all PyData.strOk = true
  com : ∃ (F : List PySem.Str) (ks : List Nat) (m mx : Nat), ((wsF ns).map stF).map compsF = ks.map (fun k => F.take k) ∧ (∀ k ∈ ks, k ≤ F.length) ∧ m ∈ ks ∧ (∀ k ∈ ks, m ≤ k) ∧ mx ∈ ks ∧ (∀ k ∈ ks, k ≤ mx) ∧ F.length ≤ 2 ^ 10 ∧ ((F.take m).map (·.length)).sum ≤ 2 ^ 12 ∧
    (∀ x ∈ (wsF ns).map stF, x.length ≤ 2 ^ 10) ∧ (∀ x ∈ (wsF ns).map stF, Txt.startswith x sl = true) ∧ (dueF ns)[0]? = some (sl ++ Txt.join sl (F.take m))
  low : (dueF ns)[((wsF ns).length - 1) / 2]? = some (plAt ns (cntF ns fun c => decide ((((wsF ns).length : Nat) : Int) < 2 * c)))
  high : (dueF ns)[(wsF ns).length / 2]? = some (plAt ns (cntF ns fun c => decide ((((wsF ns).length : Nat) : Int) ≤ 2 * c)))
  together : ∀ i, i < (fsF ns).length → openAll (numAt (fsF ns) (i + 1)) = whoAt (fsF ns) (i + 1)

theorem pl_at {ns : List Int} {k : Nat} (h : k < (plF ns).length) : (plF ns)[k]? = some (plAt ns k) := by
  unfold plAt; rw [List.getElem?_eq_getElem h]; rfl
abbrev env54 (L a : Addr) (cd : Value) : Env := fenv (rAt 54).name (rAt 54).scope L a cd

theorem pick2_len {α : Type} (a : Nat) (l : List α) : (pick2 a l).length ≤ l.length + a + 2 := by
  unfold pick2
  refine Nat.le_trans (List.length_filterMap_le ..) ?_
  unfold sliceRange
  rw [List.length_map, List.length_range]
  simp only [sliceBounds, Option.getD_some]
  split
  · split <;> omega
  · split <;> omega

theorem Ev.lenL {n : Nat} {env : Env} {σ : Sto} {ow : Own} {pos p : Pos} {e : PySem.Expr} {ds : List Dt} {m : Nat} (P : Prg C) (he : Ev C n env σ ow e (.list ds)) (hm : ds.length = m) (hb : ds.length ≤ 2 ^ 60) (hx : env.kindOf "len" = some .globalImplicit := by rfl) (hg : env.globals = mainGlobals := by rfl) (hgb : env.builtins = builtinsNs := by rfl) (hp : noStar e = true := by rfl) (hk : env.scope.kind = .function := by rfl) :
    Ev C n env σ ow (.Call (.Name "len" p) [e] [] pos) (.int (m : Int)) := by
  subst hm
  exact Ev.callBi P.b_len (Vs.len_list hb) (.cons he .nil) (by intro _ q; cases q) hx hg hgb (by simp only [List.all_cons, List.all_nil, hp]; rfl) hk

set_option maxHeartbeats 8000000 in
theorem law_body (P : Prg C) (T : Tb C) (n : Nat) (ns : List Int) (hn : ns.length ≤ 63) (stF : Wa → PySem.Str) (H : LawOk ns stF) (L a : Addr) (cd : Value) :
    Ex C (n + 3) (env54 L a cd) [("script", dI ns)] none (rAt 54).body fun f _ _ => f = .ret (.bool true) := by
  have hfl : (fsF ns).length = (fdF ns).length := by unfold fsF; rw [List.length_map, List.length_range]
  have hwl : (wsF ns).length = (wdF ns).length := by unfold wsF; rw [List.length_map]
  have h1 := H.dlen
  have h2 := H.flen
  have h3 := H.wlen
  have hpl : (plF ns).length = (fsF ns).length + 1 := by unfold plF; rw [List.length_append, List.length_map, List.length_singleton]; omega
  have hil : (inF ns).length = (fsF ns).length := by unfold inF; rw [List.length_map, List.length_range]
  have efs : (.list ((List.range (fdF ns).length).map fun i => dFo (foF (fdF ns) i)) : Dt) = .list ((fsF ns).map dFo) := by unfold fsF; rw [List.map_map]; rfl
  apply Ex.cons
  refine Ex1.asg (d := dI (drawnF ns)) (Ev.callF (con_draws P ns hn) (.cons (Ev.name rfl) .nil)) ?_
  apply Ex.cons
  refine Ex1.asg (d := .list ((fsF ns).map dFo)) ?_ ?_
  · rw [← efs]
    refine Ev.callF (con_folders P (fdF ns) h2.2) (.cons ?_ .nil)
    rw [show dI (fdF ns) = .list (dsl ((drawnF ns).map Dt.int) (some ((0 : Nat) : Int)) none (some 2)) by rw [dsl_pick2]; rfl]
    exact Ev.sliceL (Ev.name rfl) (.some Ev.int) .none (.some Ev.int) (by decide) (by rw [List.length_map]; omega)
  apply Ex.cons
  refine Ex1.asgComp (σc := [("folders", .list ((fsF ns).map dFo))]) (cl := [("folders", cellOf (env54 L a cd) "folders")]) (dl := dI (wdF ns)) (xs := wdF ns) (di := Dt.int) (p := fun _ => true) (g := fun d => dWa (walkF d ((fsF ns).length : Int)))
    ⟨?_, Itb.list, fun Cf w _ => .nil, fun Cf w hw _ => Ev.callF (con_walker P w ((fsF ns).length : Int) (by omega)) (.cons (Ev.name rfl) (.cons (Ev.lenL P (Ev.name rfl) (by rw [List.length_map]) (by rw [List.length_map]; omega)) .nil)), rfl, ?_, rfl, ?_, rfl, .cons rfl .nil, capB.cons rfl rfl rfl rfl rfl rfl capB.nil, by omega, cl1 rfl⟩ ?_
  · rw [show dI (wdF ns) = .list (dsl ((drawnF ns).map Dt.int) (some ((1 : Nat) : Int)) none (some 2)) by rw [dsl_pick2]; rfl]
    exact Ev.sliceL (Ev.name rfl) (.some Ev.int) .none (.some Ev.int) (by decide) (by rw [List.length_map]; omega)
  · decide
  · decide
  have ews : ((wdF ns).filter (fun _ => true)).map (fun d => dWa (walkF d ((fsF ns).length : Int))) = (wsF ns).map dWa := by rw [flt]; unfold wsF; rw [List.map_map]; rfl
  rw [ews]
  apply Ex.cons
  refine Ex1.asg (d := dS (plF ns)) ?_ ?_
  · have : dS (plF ns) = .list ([.str sl] ++ ((fsF ns).map fun f => Dt.str f.1)) := by unfold plF dS; rw [List.map_append, List.map_map]; rfl
    rw [this]
    refine Ev.binop (Ev.listD (.cons Ev.str .nil) (by rfl) (by decide)) ?_ (V2.add_list (by decide) (by rw [List.length_map]; omega))
    refine Ev.comp' (σc := []) (cl := []) (dl := .list ((fsF ns).map dFo)) (xs := fsF ns) (di := dFo) (p := fun _ => true) (g := fun f => Dt.str f.1)
      ⟨Ev.name rfl, Itb.list, fun Cf w _ => .nil, fun Cf w _ _ => Ev.itemL (i := 0) (Ev.name rfl) Ev.int (by decide) rfl (by exact Nat.le_of_ble_eq_true rfl), rfl, ?_, rfl, ?_, rfl, .nil, capB.nil, by omega, fun _ _ e => by cases e⟩ ?_
    · decide
    · decide
    · rw [flt]
  apply Ex.cons
  refine Ex1.asg (d := .sdict (lsF ns)) ?_ ?_
  · refine Ev.dictC (σc := []) (cl := []) (dl := .list ((fsF ns).map dFo)) (xs := fsF ns) (di := dFo) (kf := fun f => f.1) (vf := fun f => fmS f.2.1) (Ev.name rfl) Itb.list (fun Cf f _ => Ev.itemL (i := 0) (Ev.name rfl) Ev.int (by decide) rfl (by exact Nat.le_of_ble_eq_true rfl))
      (fun Cf f _ => Ev.callF (con_filemode P T f.2.1) (.cons (Ev.itemL (i := 1) (Ev.name rfl) Ev.int (by decide) rfl (by exact Nat.le_of_ble_eq_true rfl)) .nil)) rfl ?_ rfl ?_ rfl .nil capB.nil (by omega) (fun _ _ e => by cases e)
    · decide
    · decide
  apply Ex.cons
  refine Ex1.asgComp (σc := [("listings", .sdict (lsF ns)), ("places", dS (plF ns))]) (cl := [("places", cellOf (env54 L a cd) "places"), ("listings", cellOf (env54 L a cd) "listings")]) (dl := .list ((wsF ns).map dWa)) (xs := wsF ns) (di := dWa) (p := fun _ => true) (g := fun w => .str (stF w))
    ⟨Ev.name rfl, Itb.list, fun Cf w _ => .nil, fun Cf w hw _ => ?_, rfl, ?_, rfl, ?_, rfl, .cons rfl (.cons rfl .nil), capB.cons rfl rfl rfl rfl rfl rfl (capB.cons rfl rfl rfl rfl rfl rfl capB.nil), by omega, cl2 rfl (cl1 rfl)⟩ ?_
  · obtain ⟨w0, w1, w2, w3⟩ := H.wok w hw
    obtain ⟨ch, N, ls, c0, c1, e0, g1, g2, g3, g4, g5, g6, g7, g8, g9⟩ := H.stop w hw
    have hp := pl_at w1
    have hpl1 := H.plen _ (List.mem_of_getElem? hp)
    have hjl := joinF_len (plAt ns w.2.1.toNat) w.2.2.1
    have ego : goF ns w = normF (joinF (plAt ns w.2.1.toNat) w.2.2.1) := rfl
    rw [← g9]
    refine Ev.callF (con_stop P (lsF ns) w.1 ch N ls c0 c1 w3 g1 g2 g3 g4 g5 g6 g7 g8) (.cons (Ev.name rfl) (.cons ?_ (.cons (Ev.itemL (i := 0) (Ev.name rfl) Ev.int (by decide) rfl (by exact Nat.le_of_ble_eq_true rfl)) .nil)))
    rw [e0, ego]
    refine Ev.callF (con_norm P _ (by omega)) (.cons (Ev.callF (con_join P (plAt ns w.2.1.toNat) w.2.2.1 (by omega) (by omega)) (.cons (Ev.itemL (i := w.2.1) (Ev.name rfl) (Ev.itemL (i := 1) (Ev.name rfl) Ev.int (by decide) rfl (by exact Nat.le_of_ble_eq_true rfl)) w0 ?_ (by rw [List.length_map]; omega)) (.cons (Ev.itemL (i := 2) (Ev.name rfl) Ev.int (by decide) rfl (by exact Nat.le_of_ble_eq_true rfl)) .nil))) .nil)
    rw [List.getElem?_map, hp]; rfl
  · decide
  · decide
  have est : ((wsF ns).filter (fun _ => true)).map (fun w => Dt.str (stF w)) = ((wsF ns).map stF).map Dt.str := by rw [flt, List.map_map]; rfl
  rw [est]
  have hsl : ((wsF ns).map stF).length = (wsF ns).length := List.length_map ..
  apply Ex.cons
  refine Ex1.asg (d := .int (((wsF ns).length : Nat) : Int)) (Ev.lenL P (Ev.name rfl) (by rw [List.length_map, hsl]) (by rw [List.length_map]; omega)) ?_
  apply Ex.cons
  refine Ex1.asg (d := dI (inF ns)) (Ev.callF (con_inside P (fsF ns) (wsF ns) (by omega) (by omega)) (.cons (Ev.name rfl) (.cons (Ev.name rfl) .nil))) ?_
  apply Ex.cons
  refine Ex1.asgCompJ (σc := [("inside", dI (inF ns)), ("places", dS (plF ns)), ("size", .int (((wsF ns).length : Nat) : Int))]) (cl := [("size", cellOf (env54 L a cd) "size"), ("places", cellOf (env54 L a cd) "places"), ("inside", cellOf (env54 L a cd) "inside")]) (dl := .range (wsF ns).length) (xs := List.range (wsF ns).length) (di := fun j : Nat => .int (j : Int)) (p := fun _ => true) (g := fun j : Nat => .str (plAt ns (cntF ns fun c => decide ((((wsF ns).length : Nat) : Int) - (j : Int) ≤ c))))
    ⟨Ev.callBi P.b_range Vs.range (.cons (Ev.name rfl) .nil), Itb.range (by omega), fun Cf w _ => .nil, fun Cf j hj _ => ?_, rfl, fun k => rfl, fun h => rfl, rfl, ?_, rfl, .cons rfl (.cons rfl (.cons rfl .nil)), capB.cons rfl rfl rfl rfl rfl rfl (capB.cons rfl rfl rfl rfl rfl rfl (capB.cons rfl rfl rfl rfl rfl rfl capB.nil)), by rw [List.length_range]; omega, cl2 rfl (cl2 rfl (cl1 rfl))⟩ ?_
  · have hb := H.inb fun c => decide ((((wsF ns).length : Nat) : Int) - (j : Int) ≤ c)
    have hp := pl_at hb
    refine Ev.itemL (i := ((cntF ns fun c => decide ((((wsF ns).length : Nat) : Int) - (j : Int) ≤ c) : Nat) : Int)) (ds := (plF ns).map Dt.str) (Ev.name rfl) (Ev.lenL P (ds := ((inF ns).filter fun c => decide ((((wsF ns).length : Nat) : Int) - (j : Int) ≤ c)).map Dt.int) ?_ (by rw [List.length_map]; rfl) ?_) (by omega) (by rw [List.getElem?_map, Int.toNat_natCast, hp]; rfl) (by rw [List.length_map]; omega)
    · refine Ev.comp' (σc := [("size", .int (((wsF ns).length : Nat) : Int)), ("j", .int (j : Int))]) (cl := [("size", cellOf (env54 L a cd) "size"), ("j", Cf + 1)]) (dl := dI (inF ns)) (xs := inF ns) (di := Dt.int) (p := fun c => decide ((((wsF ns).length : Nat) : Int) - (j : Int) ≤ c)) (g := Dt.int)
        ⟨Ev.name rfl, Itb.list, fun Cg c hc => .one (Tt.cmp' (Ev.name rfl) (Ev.binop (Ev.name rfl) (Ev.name rfl) V2.sub_int) V2.ge_int), fun Cg c _ _ => Ev.name rfl, rfl, ?_, rfl, ?_, rfl, .cons rfl (.cons rfl .nil), capB.cons rfl rfl rfl rfl rfl rfl (capB.cons rfl rfl rfl rfl rfl rfl capB.nil), by omega, cl2 rfl (cl1 rfl)⟩ rfl
      · decide
      · decide
    · rw [List.length_map]
      exact Nat.le_trans (List.length_filter_le _ _) (by omega)
  · decide
  have edu : ((List.range (wsF ns).length).filter (fun _ => true)).map (fun j : Nat => Dt.str (plAt ns (cntF ns fun c => decide ((((wsF ns).length : Nat) : Int) - (j : Int) ≤ c)))) = (dueF ns).map Dt.str := by rw [flt]; unfold dueF; rw [List.map_map]; rfl
  rw [edu]
  have hdl : (dueF ns).length = (wsF ns).length := by unfold dueF; rw [List.length_map, List.length_range]
  obtain ⟨F, ks, m, mx, q1, q2, q3, q4, q5, q6, q7, q8, q9, q10, q11⟩ := H.com
  have hsn : (wsF ns).map stF ≠ [] := by intro q; have := congrArg List.length q; rw [hsl, List.length_nil] at this; omega
  apply Ex.cons
  refine Ex1.ite (b := false) ?_ (fun h => by cases h) (fun _ => ?_)
  · refine Tt.orB (b1 := !decide (dueF ns = dueF ns)) (b2 := false) (Tt.cmp' (Ev.callBi P.b_sorted (Vs.sorted_strs (ns := (wsF ns).map stF) (d := dS (dueF ns)) (by omega) fun zs z1 z2 => by rw [H.sorted zs z1 z2]) (.cons (Ev.name rfl) .nil)) (Ev.name rfl) (V2.ne_strs H.strok H.strok)) (fun _ => Tt.orB (b1 := (sl ++ Txt.join sl (F.take m)) != (sl ++ Txt.join sl (F.take m))) (b2 := false) (Tt.cmp' (Ev.callF (con_common P ((wsF ns).map stF) F ks m mx hsn (by omega) q9 q10 q1 q2 q3 q4 q5 q6 q7 q8) (.cons (Ev.name rfl) .nil)) (Ev.itemL (i := 0) (Ev.name rfl) Ev.int (by decide) ?_ (by rw [List.length_map]; omega)) V2.ne_str) (fun _ => Tt.or0) (by simp)) (by simp)
    rw [List.getElem?_map]; show Option.map Dt.str (dueF ns)[0]? = _; rw [q11]; rfl
  apply Ex.nil
  apply Ex.cons
  refine Ex1.asg (d := .str (plAt ns (cntF ns fun c => decide ((((wsF ns).length : Nat) : Int) < 2 * c)))) ?_ ?_
  · have hb := H.inb fun c => decide ((((wsF ns).length : Nat) : Int) < 2 * c)
    have hp := pl_at hb
    refine Ev.itemL (i := ((cntF ns fun c => decide ((((wsF ns).length : Nat) : Int) < 2 * c) : Nat) : Int)) (ds := (plF ns).map Dt.str) (Ev.name rfl) (Ev.lenL P (ds := ((inF ns).filter fun c => decide ((((wsF ns).length : Nat) : Int) < 2 * c)).map Dt.int) ?_ (by rw [List.length_map]; rfl) ?_) (by omega) (by rw [List.getElem?_map, Int.toNat_natCast, hp]; rfl) (by rw [List.length_map]; omega)
    · refine Ev.comp' (σc := [("size", .int (((wsF ns).length : Nat) : Int))]) (cl := [("size", cellOf (env54 L a cd) "size")]) (dl := dI (inF ns)) (xs := inF ns) (di := Dt.int) (p := fun c => decide ((((wsF ns).length : Nat) : Int) < 2 * c)) (g := Dt.int)
        ⟨Ev.name rfl, Itb.list, fun Cg c hc => .one (Tt.cmp' (Ev.binop Ev.int (Ev.name rfl) (V2.mul_int (mulOkL (by decide +kernel)))) (Ev.name rfl) V2.gt_int), fun Cg c _ _ => Ev.name rfl, rfl, ?_, rfl, ?_, rfl, .cons rfl .nil, capB.cons rfl rfl rfl rfl rfl rfl capB.nil, by omega, cl1 rfl⟩ rfl
      · decide
      · decide
    · rw [List.length_map]
      exact Nat.le_trans (List.length_filter_le _ _) (by omega)
  apply Ex.cons
  refine Ex1.asg (d := .str (plAt ns (cntF ns fun c => decide ((((wsF ns).length : Nat) : Int) ≤ 2 * c)))) ?_ ?_
  · have hb := H.inb fun c => decide ((((wsF ns).length : Nat) : Int) ≤ 2 * c)
    have hp := pl_at hb
    refine Ev.itemL (i := ((cntF ns fun c => decide ((((wsF ns).length : Nat) : Int) ≤ 2 * c) : Nat) : Int)) (ds := (plF ns).map Dt.str) (Ev.name rfl) (Ev.lenL P (ds := ((inF ns).filter fun c => decide ((((wsF ns).length : Nat) : Int) ≤ 2 * c)).map Dt.int) ?_ (by rw [List.length_map]; rfl) ?_) (by omega) (by rw [List.getElem?_map, Int.toNat_natCast, hp]; rfl) (by rw [List.length_map]; omega)
    · refine Ev.comp' (σc := [("size", .int (((wsF ns).length : Nat) : Int))]) (cl := [("size", cellOf (env54 L a cd) "size")]) (dl := dI (inF ns)) (xs := inF ns) (di := Dt.int) (p := fun c => decide ((((wsF ns).length : Nat) : Int) ≤ 2 * c)) (g := Dt.int)
        ⟨Ev.name rfl, Itb.list, fun Cg c hc => .one (Tt.cmp' (Ev.binop Ev.int (Ev.name rfl) (V2.mul_int (mulOkL (by decide +kernel)))) (Ev.name rfl) V2.ge_int), fun Cg c _ _ => Ev.name rfl, rfl, ?_, rfl, ?_, rfl, .cons rfl .nil, capB.cons rfl rfl rfl rfl rfl rfl capB.nil, by omega, cl1 rfl⟩ rfl
      · decide
      · decide
    · rw [List.length_map]
      exact Nat.le_trans (List.length_filter_le _ _) (by omega)
  apply Ex.cons
  have hfne : fsF ns ≠ [] := by intro q; have := congrArg List.length q; rw [List.length_nil] at this; omega
  have hx1 : (dueF ns)[(((wsF ns).map stF).length - 1) / 2]? = some (plAt ns (cntF ns fun c => decide ((((wsF ns).length : Nat) : Int) < 2 * c))) := by rw [hsl]; exact H.low
  have hx2 : (dueF ns)[((wsF ns).map stF).length / 2]? = some (plAt ns (cntF ns fun c => decide ((((wsF ns).length : Nat) : Int) ≤ 2 * c))) := by rw [hsl]; exact H.high
  generalize hl1 : plAt ns (cntF ns fun c => decide ((((wsF ns).length : Nat) : Int) < 2 * c)) = lo at hx1 ⊢
  generalize hl2 : plAt ns (cntF ns fun c => decide ((((wsF ns).length : Nat) : Int) ≤ 2 * c)) = hi at hx2 ⊢
  refine Ex1.ret (d := .bool true) (Ev.andB (d1 := .bool (lo == lo)) (b1 := (lo == lo)) (d2 := .bool true) (Ev.cmp (Ev.callF (con_mlow P ((wsF ns).map stF) (dueF ns) lo (by omega) (by omega) (by omega) H.sorted hx1) (.cons (Ev.name rfl) .nil)) (Ev.name rfl) V2.eq_str) B1.bool (fun _ => Ev.andB (d1 := .bool (hi == hi)) (b1 := (hi == hi)) (d2 := .bool true) (Ev.cmp (Ev.callF (con_mhigh P ((wsF ns).map stF) (dueF ns) hi (by omega) (by omega) (by omega) H.sorted hx2) (.cons (Ev.name rfl) .nil)) (Ev.name rfl) V2.eq_str) B1.bool (fun _ => Ev.and1 (Ev.callF (con_together P T (fsF ns) hfne (by omega) H.together) (.cons (Ev.name rfl) .nil))) (by simp)) (by simp)) rfl
end Mine

namespace Mine
open PySem PySem.W PyProof.Rows PySem.Calls
variable {C : Cx}

section
variable {R : WRecords} {cl : PySem.Str → Option Addr} {h : Heap}
theorem rd_all {α : Type} {f : α → WData} {g : α → Dt} (hf : ∀ a v as, ReadsW R cl h v (f a) as → D C h (fun _ => False) (g a) v) : ∀ (l : List α) (vs : List Value) (as : List Addr), ReadsAllW R cl h vs (l.map f) as → DA C h (fun _ => False) (l.map g) vs
  | [], vs, as, x => by cases x; exact rfl
  | a :: l, vs, as, x => by
    cases x with
    | cons x y => exact ⟨_, _, rfl, hf a _ _ x, rd_all hf l _ _ y⟩
theorem rd_tup {α : Type} {f : α → WData} {g : α → Dt} (hf : ∀ a v as, ReadsW R cl h v (f a) as → D C h (fun _ => False) (g a) v) (l : List α) (v : Value) (as : List Addr) (x : ReadsW R cl h v (.tuple (l.map f)) as) : D C h (fun _ => False) (.tup (l.map g)) v := by
  generalize hq : WData.tuple (l.map f) = q at x
  cases x <;> cases hq
  rename_i a o vs n ho hc hd hr
  exact ⟨a, vs.toList, rfl, fun q => q, ⟨o, ho, hc, n, by rw [hd]⟩, rd_all hf l _ _ hr⟩
abbrev wE (e : Int × Nat) : WData := .tuple [.int e.1, .str ⟨#[e.2]⟩]
abbrev wRow (r : List (Int × Nat)) : WData := .tuple (r.map wE)
theorem rd_E (e : Int × Nat) (v : Value) (as : List Addr) (x : ReadsW R cl h v (wE e) as) : D C h (fun _ => False) (dE e) v := by
  cases x with
  | tuple ho hc hd hr =>
    rename_i a o vs n
    refine ⟨a, vs.toList, rfl, fun q => q, ⟨o, ho, hc, n, by rw [hd]⟩, ?_⟩
    generalize vs.toList = us at hr
    cases hr with
    | cons x y =>
      cases x
      cases y with
      | cons x y =>
        cases x
        cases y
        exact ⟨_, _, rfl, ⟨_, rfl⟩, _, _, rfl, ⟨_, rfl⟩, rfl⟩
theorem rd_tbl (v : Value) (as : List Addr) (x : ReadsW R cl h v (.tuple (tblL.map wRow)) as) : D C h (fun _ => False) tblD v :=
  rd_tup (fun r v as x => rd_tup rd_E r v as x) tblL v as x
end

theorem cells_are {cm : PySem.Str → Option Value} {h₀ h : Heap} {L : Addr} : ∀ {cs : List (PySem.Str × Addr)} {news : List (Addr × Obj)}, CellsAre cm cs news → News h₀ L h news → ∀ x c, cs.lookup x = some c → h.IsCell c (cm x) := fun X => by
  induction X with
  | nil => intro _ x c e; cases e
  | @cons n c o cs cells hd _ ih =>
    intro N x c' e
    rw [List.lookup_cons] at e
    cases hb : x == n with
    | true =>
      rw [hb] at e; cases e
      rw [beq_iff_eq.mp hb]
      exact ⟨o, (N _ (.head _)).1, hd⟩
    | false => rw [hb] at e; exact ih (fun p hp => N p (.tail _ hp)) x c' e
theorem cells_news {cm : PySem.Str → Option Value} {h₀ h : Heap} {L : Addr} : ∀ {cs : List (PySem.Str × Addr)} {news : List (Addr × Obj)}, CellsAre cm cs news → News h₀ L h news → ∀ x c, (x, c) ∈ cs → (∃ o, h.get? c = some o) ∧ c ≠ L ∧ h₀.get? c = none := fun X => by
  induction X with
  | nil => intro _ x c e; cases e
  | @cons n c o cs cells hd _ ih =>
    intro N x c' e
    rcases List.mem_cons.mp e with q | q
    · cases q
      obtain ⟨a, b, d⟩ := N (c, o) (.head _)
      exact ⟨⟨o, a⟩, b, d⟩
    · exact ih (fun p hp => N p (.tail _ hp)) x c' q

def lawNames : List Nat := [3, 4, 13, 17, 18, 19, 20, 21, 22, 24, 45, 47, 48, 49, 50, 51, 52, 53]
theorem head_done {p : Program} {loose : List PySem.Str} {mean : ExcName → Option Value} {mg mb : PySem.Str → Option Value} {prog : Program} {w : World} {s₁ : Shared} {h₁ : Heap} {tk : Nat} {lv : List (PySem.Str × WData)}
    (T : Top p loose mean mg mb s₁.heap) (V : LooseAre lv mg s₁.heap) (hlv : (("_filemode_table" : PySem.Str), WData.tuple (tblL.map wRow)) ∈ lv)
    (hmem : ∀ k ∈ lawNames, rAt k ∈ recsOf p) (hfree : ∀ x ∈ (["len", "sorted", "sum", "max", "min", "isinstance", "issubclass", "type", "str", "bytes", "range", "tuple", "map", "enumerate"] : List PySem.Str), x ∉ startupNames ∧ x ∉ loose ∧ x ∉ (recsOf p).map (·.name) ∧ x ∉ (litsOf p).map (·.1) ∧ x ∉ (clssOf p loose).map (·.name))
    {fa a : Addr} {cd : Value} {m cm : PySem.Str → Option Value} {cells : List (Addr × Obj)} {vs : List Value} {ns : List Int}
    (F : Fr s₁.heap s₁.heap.objs.size h₁ m) (hm : m "script" = some (.ref a)) (N : News s₁.heap s₁.heap.objs.size h₁ cells) (X : CellsAre cm (cellsFrom (s₁.heap.objs.size + 1) (rAt 54).scope.names []) cells)
    (hl : s₁.heap.IsList a vs.toArray) (hi : IntsAre vs ns) (hn : ns.length ≤ 63) (stF : Wa → PySem.Str) (H : LawOk ns stF) {E : Value → Shared → Prop} {Q : Flow → Shared → Prop}
    (hQ : ∀ s' m', Fr s₁.heap s₁.heap.objs.size s'.heap m' → s'.gens = s₁.gens → s'.os = s₁.os → Q (.ret (.bool true)) s') :
    wpAny (model prog w) (callerA.deeper (fenv (rAt 54).name (rAt 54).scope s₁.heap.objs.size fa cd)) (execs (rAt 54).body (fenv (rAt 54).name (rAt 54).scope s₁.heap.objs.size fa cd)) Q E { s₁ with heap := h₁, toks := tk } := by
  let C : Cx := ⟨prog, w, p, loose, mean, mg, mb, s₁.heap, T⟩
  have bi : ∀ (x : PySem.Str) (fv : Value), x ∈ (["len", "sorted", "sum", "max", "min", "isinstance", "issubclass", "type", "str", "bytes", "range", "tuple", "map", "enumerate"] : List PySem.Str) → bootBuiltins x = some fv → x ≠ "__name__" → Bi C x fv := fun x fv hx hb hne => by
    obtain ⟨h1, h2, h3, h4, h5⟩ := hfree x hx
    exact ⟨T.free x h1 h2 h3 h4 h5, (T.builtins x hne).trans hb⟩
  have P : Prg C := ⟨hmem, bi _ _ (by decide) (by decide +kernel) (by decide), bi _ _ (by decide) (by decide +kernel) (by decide), bi _ _ (by decide) (by decide +kernel) (by decide), bi _ _ (by decide) (by decide +kernel) (by decide), bi _ _ (by decide) (by decide +kernel) (by decide), bi _ _ (by decide) (by decide +kernel) (by decide), bi _ _ (by decide) (by decide +kernel) (by decide), bi _ _ (by decide) (by decide +kernel) (by decide), bi _ _ (by decide) (by decide +kernel) (by decide), bi _ _ (by decide) (by decide +kernel) (by decide), bi _ _ (by decide) (by decide +kernel) (by decide), bi _ _ (by decide) (by decide +kernel) (by decide), bi _ _ (by decide) (by decide +kernel) (by decide), bi _ _ (by decide) (by decide +kernel) (by decide)⟩
  have Tb : Tb C := by
    obtain ⟨v, h1, h2⟩ := V.val _ hlv
    exact ⟨v, h1, rd_tbl v _ h2⟩
  have hcn := cells_news X N
  have hok := cellsFrom_ok (rAt 54).scope.names (s₁.heap.push { cls := .type "frame", data := .dict #[] }) (s₁.heap.objs.size + 1) [] ⟨fun _ _ hm => (nomatch hm), List.Pairwise.nil⟩ (by rw [Heap.size_push]; exact Nat.le_refl _)
  rw [Heap.size_push] at hok
  have S : St C s₁ (fenv (rAt 54).name (rAt 54).scope s₁.heap.objs.size fa cd) (fun _ => False) none [("script", dI ns)] none { s₁ with heap := h₁, toks := tk } := by
    refine ⟨⟨fun b o e => F.keep b o e, fun b hb => ?_, fun b hb => ?_⟩, ⟨h₁, tk, rfl⟩, fun b o e => F.keep b o e, Nat.le_refl _, fun x c hc => ?_, hok.apart, (fun _ e => by cases e), rfl, m, cm, F.ns, fun x c e => cells_are X N x c e, fun x d e => ?_, (fun _ _ e => by cases e)⟩
    · rcases hb with q | q | ⟨x, q⟩ | q
      · exact q.elim
      · rw [q]; exact none_at s₁
      · exact (hcn x b q).2.2
      · cases q
    · rcases hb with q | q | ⟨x, q⟩ | q
      · exact q.elim
      · obtain ⟨o, _, _, ho, _⟩ := F.ns; exact ⟨o, q ▸ ho⟩
      · exact (hcn x b q).1
      · cases q
    · obtain ⟨q1, q2, q3⟩ := hcn x c hc
      exact ⟨Nat.le_of_succ_le (hok.empty x c hc).2, fun q => q2 q.symm⟩
    · rw [List.lookup_cons] at e
      cases hb : x == ("script" : PySem.Str) with
      | true =>
        rw [hb] at e; cases e
        rw [beq_iff_eq.mp hb]
        refine ⟨.ref a, ?_, a, vs, rfl, ?_, hl.at fun o e => F.keep a o e, are_ints hi⟩
        · show m "script" = _; exact hm
        · obtain ⟨o, ho, _⟩ := hl
          rintro (q | q | ⟨x, q⟩ | q)
          · exact q
          · exact absurd (Heap.lt_size ho) (by rw [show a = s₁.heap.objs.size from q]; exact Nat.lt_irrefl _)
          · have := (hcn x a q).2.2; rw [ho] at this; cases this
          · cases q
      | false => rw [hb] at e; cases e
  have hroom : Room 23 (callerA.deeper (fenv (rAt 54).name (rAt 54).scope s₁.heap.objs.size fa cd)) := ⟨by show callerA.depth + 1 + 23 < recursionLimit; decide +kernel, by show callerA.units + 3 + 10 * 23 + 100 < cLine; decide +kernel, rfl⟩
  refine wpAny_mono (law_body (C := C) P Tb 20 ns hn stF H s₁.heap.objs.size fa cd _ s₁ (fun _ => False) _ none (fun _ _ => False) Q hroom S fun fl f s' oa' σ' ow' S' k' g' z => ?_) (fun _ _ h => h) fun _ _ x => x.elim
  subst z
  cases fl <;> first | exact g'.elim | skip
  rename_i v
  cases (g' : v = _)
  obtain ⟨h', tk', rfl⟩ := S'.same
  obtain ⟨m', cm', N'⟩ := S'.names
  exact hQ _ m' ⟨N'.ns, S'.keep, Nat.le_refl _⟩ rfl rfl
end Mine

namespace Mine
open PySem PySem.W PyProof.Rows PySem.Calls
theorem head_code {p : Program} {loose : List PySem.Str} {mean : ExcName → Option Value} {mg mb : PySem.Str → Option Value} {prog : Program} {w : World} {s₁ : Shared} {lv : List (PySem.Str × WData)}
    (T : Top p loose mean mg mb s₁.heap) (V : LooseAre lv mg s₁.heap) (hlv : (("_filemode_table" : PySem.Str), WData.tuple (tblL.map wRow)) ∈ lv)
    (hmem : ∀ k ∈ lawNames, rAt k ∈ recsOf p) (hfree : ∀ x ∈ (["len", "sorted", "sum", "max", "min", "isinstance", "issubclass", "type", "str", "bytes", "range", "tuple", "map", "enumerate"] : List PySem.Str), x ∉ startupNames ∧ x ∉ loose ∧ x ∉ (recsOf p).map (·.name) ∧ x ∉ (litsOf p).map (·.1) ∧ x ∉ (clssOf p loose).map (·.name))
    {fa a : Addr} {o : Obj} {pm cd doc dV kV : Value} {vs : List Value} {ns : List Int} (ho : s₁.heap.get? fa = some o) (hd : o.data = .func { docDef (rAt 54).name (rAt 54).params (rAt 54).body (rAt 54).scope pm cd doc with defaults := dV, kwdefaults := kV }) (hcd : s₁.heap.CodeRec cd (rAt 54).name) (hD : Dflts mg s₁.heap (rAt 54).params [] dV kV)
    (hl : s₁.heap.IsList a vs.toArray) (hi : IntsAre vs ns) (hn : ns.length ≤ 63) (stF : Wa → PySem.Str) (H : LawOk ns stF) {R : Result → Shared → Prop} (hR : ∀ s', Keeps s₁ s' → R (.ok (.ret (.bool true))) s') :
    codeAny (model prog w) callerA (.call (.ref fa) ⟨[.ref a], []⟩) R s₁ := by
  have e1 : dV = .none := hD.pos.elim (fun h => h.2) fun h => absurd rfl h.1
  have e2 : kV = .none := hD.kw.elim (fun h => h.2) fun h => absurd rfl h.1
  subst e1 e2
  replace hd := fd_plain hd
  let C : Cx := ⟨prog, w, p, loose, mean, mg, mb, s₁.heap, T⟩
  have bi : ∀ (x : PySem.Str) (fv : Value), x ∈ (["len", "sorted", "sum", "max", "min", "isinstance", "issubclass", "type", "str", "bytes", "range", "tuple", "map", "enumerate"] : List PySem.Str) → bootBuiltins x = some fv → x ≠ "__name__" → Bi C x fv := fun x fv hx hb hne => by
    obtain ⟨h1, h2, h3, h4, h5⟩ := hfree x hx
    exact ⟨T.free x h1 h2 h3 h4 h5, (T.builtins x hne).trans hb⟩
  have P : Prg C := ⟨hmem, bi _ _ (by decide) (by decide +kernel) (by decide), bi _ _ (by decide) (by decide +kernel) (by decide), bi _ _ (by decide) (by decide +kernel) (by decide), bi _ _ (by decide) (by decide +kernel) (by decide), bi _ _ (by decide) (by decide +kernel) (by decide), bi _ _ (by decide) (by decide +kernel) (by decide), bi _ _ (by decide) (by decide +kernel) (by decide), bi _ _ (by decide) (by decide +kernel) (by decide), bi _ _ (by decide) (by decide +kernel) (by decide), bi _ _ (by decide) (by decide +kernel) (by decide), bi _ _ (by decide) (by decide +kernel) (by decide), bi _ _ (by decide) (by decide +kernel) (by decide), bi _ _ (by decide) (by decide +kernel) (by decide), bi _ _ (by decide) (by decide +kernel) (by decide)⟩
  have Tb : Tb C := by
    obtain ⟨v, h1, h2⟩ := V.val _ hlv
    exact ⟨v, h1, rd_tbl v _ h2⟩
  have hw : Wd C (fun _ => False) s₁ := ⟨fun _ _ e => e, fun _ h => h.elim, fun _ h => h.elim⟩
  have g : DA C s₁.heap (fun _ => False) [dI ns] [.ref a] := ⟨_, _, rfl, ⟨a, vs, rfl, fun q => q, hl, are_ints hi⟩, rfl⟩
  have hroom : Room 24 callerA := ⟨by decide +kernel, by decide +kernel, rfl⟩
  refine codeAny_call_function (body := (rAt 54).body) hroom.depth ho hd rfl rfl rfl hcd ?_
  rw [show bindArgs (docDef (rAt 54).name (rAt 54).params (rAt 54).body (rAt 54).scope pm cd doc) ⟨[.ref a], []⟩ = pure ((["script"] : List PySem.Str).zip [Value.ref a]) from rfl]
  exact wpAny_pure (Con.core (C := C) (dd := rAt 54) (names := ["script"]) (ds := [dI ns]) (r := .bool true) (n := 23) rfl (one_arg rfl) (fun L a cd => law_body (C := C) P Tb 20 ns hn stF H L a cd) (by decide +kernel) rfl hroom hw g fun v s' k gv => by
    cases (gv : v = _)
    exact hR s' k)
end Mine

namespace Mine
open PySem PySem.W PyProof.Rows PySem.Calls

abbrev tl (x : PySem.Str) : List Nat := x.cps.toList
theorem str_ext {x y : PySem.Str} (h : tl x = tl y) : x = y := by
  obtain ⟨a⟩ := x; obtain ⟨b⟩ := y
  congr 1
  exact Array.toList_inj.mp h
theorem tl_app (x y : PySem.Str) : tl (x ++ y) = tl x ++ tl y := by
  show (x.cps ++ y.cps).toList = _
  simp
theorem tl_len (x : PySem.Str) : x.length = (tl x).length := by
  show x.cps.size = _
  simp
theorem tl_sl : tl sl = [47] := rfl
theorem start_iff (x : PySem.Str) : Txt.startswith x sl = true ↔ (tl x)[0]? = some 47 := by
  rw [← StrLaws.subAt_one x 47 0]
  unfold Txt.startswith
  rw [Bool.and_eq_true, decide_eq_true_eq]
  exact Iff.rfl
theorem end_iff (x : PySem.Str) (h : 1 ≤ x.length) : Txt.endswith x sl = true ↔ (tl x)[x.length - 1]? = some 47 := by
  rw [← StrLaws.subAt_one x 47 (x.length - 1)]
  unfold Txt.endswith
  rw [Bool.and_eq_true, decide_eq_true_eq]
  have h3 : sl.length = 1 := rfl
  have h4 : (⟨#[47]⟩ : PySem.Str).length = 1 := rfl
  rw [h3, h4]
  constructor
  · rintro ⟨_, q⟩; exact ⟨by omega, q⟩
  · rintro ⟨_, q⟩; exact ⟨by omega, q⟩
theorem slice_to {x : PySem.Str} {j : Nat} (h : j ≤ (tl x).length) : tl (Txt.slice x none (some (j : Int))) = (tl x).take j := by
  have := beq_iff_eq.mp (slice_closes_to (x := x) (j := (j : Int)) ⟨by omega, by show _ ≤ ((tl x).length : Int); omega⟩)
  rw [this]
  simp [tl]
theorem slice_mid {x : PySem.Str} {i j : Nat} (h1 : i ≤ j) (h : j ≤ (tl x).length) : tl (Txt.slice x (some (i : Int)) (some (j : Int))) = ((tl x).drop i).take (j - i) := by
  have := beq_iff_eq.mp (slice_closes (x := x) (i := (i : Int)) (j := (j : Int)) ⟨by omega, by omega, by show _ ≤ ((tl x).length : Int); omega⟩)
  rw [this]
  simp [tl]
theorem slice_fr {x : PySem.Str} {i : Nat} (h : i ≤ (tl x).length) : tl (Txt.slice x (some (i : Int)) none) = (tl x).drop i := by
  have := slice_from_eq (x := x) (i := (i : Int)) (b := x.length) (by omega) (by rw [tl_len]; omega) rfl
  rw [this]
  have h2 : ((x.length : Int) - (i : Int)).toNat = (tl x).length - i := by rw [tl_len]; omega
  rw [h2]
  show (List.take _ _).toArray.toList = _
  rw [List.toList_toArray, Int.toNat_natCast, List.take_of_length_le (by simp)]

/-! the parts of a text -/
def jn : List (List Nat) → List Nat
  | [] => []
  | [p] => p
  | p :: q :: r => p ++ 47 :: jn (q :: r)
theorem tl_join : ∀ ps : List PySem.Str, tl (PySem.Str.join sl ps) = jn (ps.map tl)
  | [] => rfl
  | [p] => rfl
  | p :: q :: r => by
    show tl (p ++ sl ++ PySem.Str.join sl (q :: r)) = _
    rw [tl_app, tl_app, tl_join (q :: r)]
    simp [jn, tl_sl]
theorem first47 : ∀ {p q r s : List Nat}, 47 ∉ p → 47 ∉ q → p ++ 47 :: r = q ++ 47 :: s → p = q ∧ r = s
  | [], [], r, s, _, _, e => ⟨rfl, by simpa using e⟩
  | [], b :: q, r, s, _, h2, e => by simp at e; exact absurd (by rw [e.1]; simp) h2
  | a :: p, [], r, s, h1, _, e => by simp at e; exact absurd (by rw [← e.1]; simp) h1
  | a :: p, b :: q, r, s, h1, h2, e => by
    simp only [List.cons_append, List.cons.injEq] at e
    obtain ⟨e1, e2⟩ := first47 (fun h => h1 (.tail _ h)) (fun h => h2 (.tail _ h)) e.2
    exact ⟨by rw [e.1, e1], e2⟩
theorem jn_inj : ∀ {ps qs : List (List Nat)}, ps ≠ [] → qs ≠ [] → (∀ p ∈ ps, 47 ∉ p) → (∀ q ∈ qs, 47 ∉ q) → jn ps = jn qs → ps = qs
  | [], _, h, _, _, _, _ => absurd rfl h
  | _ :: _, [], _, h, _, _, _ => absurd rfl h
  | [p], [q], _, _, _, _, e => by simp only [jn] at e; rw [e]
  | [p], q :: q2 :: r, _, _, h1, _, e => by
    simp only [jn] at e
    exact absurd (by rw [e]; simp) (h1 p (.head _))
  | p :: p2 :: r, [q], _, _, _, h2, e => by
    simp only [jn] at e
    exact absurd (by rw [← e]; simp) (h2 q (.head _))
  | p :: p2 :: r, q :: q2 :: s, _, _, h1, h2, e => by
    simp only [jn] at e
    obtain ⟨e1, e2⟩ := first47 (h1 p (.head _)) (h2 q (.head _)) e
    have := jn_inj (by simp) (by simp) (fun x hx => h1 x (.tail _ hx)) (fun x hx => h2 x (.tail _ hx)) e2
    rw [e1, this]
theorem split_eq {x : PySem.Str} {ps : List PySem.Str} (hne : ps ≠ []) (hf : ∀ p ∈ ps, 47 ∉ tl p) (h : tl x = jn (ps.map tl)) : Txt.split x sl = ps := by
  have h1 := StrLaws.join_split x sl
  have h2 := StrLaws.split_free x 47
  have h3 : Txt.split x sl ≠ [] := by have := split_pos x sl; intro q; rw [q] at this; simp at this
  have e : jn ((Txt.split x sl).map tl) = jn (ps.map tl) := by rw [← tl_join, h1, h]
  have := jn_inj (by simpa using h3) (by simpa using hne) (fun p hp => by
    obtain ⟨y, hy, rfl⟩ := List.mem_map.mp hp
    exact h2 y hy) (fun p hp => by
    obtain ⟨y, hy, rfl⟩ := List.mem_map.mp hp
    exact hf y hy) e
  exact (List.map_inj_right fun _ _ => str_ext).mp this
end Mine

namespace Mine
open PySem PySem.W PyProof.Rows PySem.Calls

def lt3 (d : Int) : Nat := 97 + (d.fmod 3).toNat
theorem lt3_ge (d : Int) : 97 ≤ lt3 d := Nat.le_add_right _ _
def pc (l : List Int) : List Nat := l.flatMap fun d => [47, lt3 d]
theorem pc_len (l : List Int) : (pc l).length = 2 * l.length := by
  induction l with
  | nil => rfl
  | cons d l ih =>
    have : pc (d :: l) = 47 :: lt3 d :: pc l := rfl
    rw [this]; simp only [List.length_cons, ih]; omega
theorem pc_app (l r : List Int) : pc (l ++ r) = pc l ++ pc r := by unfold pc; rw [List.flatMap_append]
theorem tl_letC (d : Int) : tl (letC d) = [lt3 d] := rfl
/-- the way of the first letters, as signs -/
def wy (l : List Int) : List Nat := if l = [] then [47] else pc l
theorem wy_ne {l : List Int} (h : l ≠ []) : wy l = pc l := if_neg h
theorem pc_last {l : List Int} (h : l ≠ []) : (pc l)[(pc l).length - 1]? = some (lt3 (l.getLast h)) := by
  have e : l = l.dropLast ++ [l.getLast h] := (List.dropLast_concat_getLast h).symm
  generalize l.getLast h = d at *
  rw [e, pc_app]
  have : pc [d] = [47, lt3 d] := rfl
  rw [this, List.length_append, List.getElem?_append_right (by simp)]
  simp
theorem pc_head {l : List Int} (h : l ≠ []) : (pc l)[0]? = some 47 := by
  cases l with
  | nil => exact absurd rfl h
  | cons d l => rfl

theorem join_way {p b : PySem.Str} {l : List Int} (hp : tl p = wy l) (hb : (tl b)[0]? ≠ some 47) : tl (joinF p b) = (if l = [] then [] else wy l) ++ 47 :: tl b := by
  have h1 : Txt.startswith b sl = false := by
    rw [Bool.eq_false_iff]; intro q; exact hb ((start_iff b).mp q)
  have hl : 1 ≤ p.length := by
    rw [tl_len, hp]; unfold wy; split
    · simp
    · rename_i h; rw [pc_len]; have := List.length_pos_iff.mpr h; omega
  unfold joinF
  rw [h1, if_neg (by simp; omega)]
  by_cases h : l = []
  · subst h
    have : Txt.endswith p sl = true := by rw [end_iff p hl, tl_len, hp]; rfl
    rw [if_pos this, tl_app, hp]; rfl
  · have : ¬ Txt.endswith p sl = true := by
      rw [end_iff p hl, tl_len, hp, wy_ne h, pc_last h]
      intro q; have := lt3_ge (l.getLast h); simp at q; omega
    rw [if_neg this, tl_app, tl_app, hp, if_neg h]; rfl
theorem place_tl (ds : List Int) : ∀ i, i ≤ ds.length → tl (placeAt ds i) = wy (ds.take i)
  | 0, _ => rfl
  | i + 1, h => by
    have ih := place_tl ds i (by omega)
    have hd : dAt ds i = ds[i] := by unfold dAt; rw [List.getElem?_eq_getElem (by omega)]; rfl
    have e : ds.take (i + 1) = ds.take i ++ [ds[i]] := by rw [List.take_add_one, List.getElem?_eq_getElem (by omega)]; rfl
    show tl (joinF (placeAt ds i) (letC (dAt ds i))) = _
    rw [join_way ih (by rw [tl_letC]; simp; have := lt3_ge (dAt ds i); omega), tl_letC, hd, e, wy_ne (l := ds.take i ++ [ds[i]]) (by intro q; exact absurd (List.append_eq_nil_iff.mp q).2 (by simp)), pc_app]
    split
    · rename_i h0; rw [h0]; rfl
    · rename_i h0; rw [wy_ne h0]; rfl
theorem place_of {ds : List Int} {i : Nat} (h : i ≤ ds.length) {x : PySem.Str} (hx : tl x = wy (ds.take i)) : x = placeAt ds i := str_ext (hx.trans (place_tl ds i h).symm)
theorem wy_len (l : List Int) : (wy l).length = if l.length = 0 then 1 else 2 * l.length := by
  unfold wy
  cases l with
  | nil => rfl
  | cons d l => rw [if_neg (by simp), if_neg (by simp), pc_len]
theorem place_len {ds : List Int} {i : Nat} (h : i ≤ ds.length) : (placeAt ds i).length = if i = 0 then 1 else 2 * i := by
  rw [tl_len, place_tl ds i h, wy_len, List.length_take, Nat.min_eq_left h]
theorem place_inj {ds : List Int} {i j : Nat} (hi : i ≤ ds.length) (hj : j ≤ ds.length) (e : placeAt ds i = placeAt ds j) : i = j := by
  have h1 := place_len hi
  have h2 := place_len hj
  rw [e] at h1
  split at h1 <;> split at h2 <;> omega
theorem place_start {ds : List Int} {i : Nat} (h : i ≤ ds.length) : Txt.startswith (placeAt ds i) sl = true := by
  rw [start_iff, place_tl ds i h]
  unfold wy
  split
  · rfl
  · rename_i q; exact pc_head q

/-! the letters of a way, as parts -/
def lts (l : List Int) : List PySem.Str := l.map letC
theorem jn_lts : ∀ (l : List Int) (r : List (List Nat)), r ≠ [] → jn (l.map (fun d => [lt3 d]) ++ r) = (l.flatMap fun d => [lt3 d, 47]) ++ jn r
  | [], r, _ => rfl
  | d :: l, r, h => by
    have ih := jn_lts l r h
    cases hl : l.map (fun d => [lt3 d]) ++ r with
    | nil => simp at hl; exact absurd hl.2 h
    | cons p q =>
      show jn ([lt3 d] :: (l.map (fun d => [lt3 d]) ++ r)) = _
      rw [hl] at ih ⊢
      show [lt3 d] ++ 47 :: jn (p :: q) = _
      rw [ih]; rfl
theorem flat_rot : ∀ (l : List Int), 47 :: (l.flatMap fun d => [lt3 d, 47]) = pc l ++ [47]
  | [] => rfl
  | d :: l => by
    have ih := flat_rot l
    show 47 :: lt3 d :: 47 :: (l.flatMap fun d => [lt3 d, 47]) = 47 :: lt3 d :: (pc l ++ [47])
    rw [ih]
theorem lts_tl (l : List Int) : (lts l).map tl = l.map fun d => [lt3 d] := by unfold lts; rw [List.map_map]; rfl
theorem lts_free (l : List Int) : ∀ p ∈ lts l, 47 ∉ tl p := fun p hp => by
  obtain ⟨d, _, rfl⟩ := List.mem_map.mp hp
  rw [tl_letC]
  intro q; have := lt3_ge d; simp at q; omega
theorem lts_len (l : List Int) : ∀ p ∈ lts l, p.length = 1 := fun p hp => by
  obtain ⟨d, _, rfl⟩ := List.mem_map.mp hp
  rfl
theorem letC_ne (d : Int) {x : PySem.Str} (h : ∀ c ∈ tl x, c < 97) : letC d ≠ x := by
  rintro rfl
  have := h (lt3 d) (by rw [tl_letC]; simp)
  have := lt3_ge d
  omega
theorem wy_join (l : List Int) : tl (sl ++ Txt.join sl (lts l)) = wy l := by
  rw [show Txt.join sl (lts l) = PySem.Str.join sl (lts l) from StrLaws.glued_eq_join sl (lts l), tl_app, tl_join, lts_tl]
  cases l with
  | nil => rfl
  | cons d l =>
    rw [wy_ne (by simp)]
    have e : d :: l = (d :: l).dropLast ++ [(d :: l).getLast (by simp)] := (List.dropLast_concat_getLast (by simp)).symm
    generalize (d :: l).getLast (by simp) = z at e
    generalize (d :: l).dropLast = r at e
    rw [e, List.map_append, pc_app]
    show 47 :: jn (r.map (fun d => [lt3 d]) ++ [[lt3 z]]) = pc r ++ [47, lt3 z]
    rw [jn_lts r [[lt3 z]] (by simp), ← List.cons_append, flat_rot]
    simp [jn]
end Mine

namespace Mine
open PySem PySem.W PyProof.Rows PySem.Calls

/-- a text "/" and parts behind -/
theorem root_way {q : PySem.Str} {r : List Nat} (hq : tl q = 47 :: r) (hr : r[0]? ≠ some 47) : rootF q = (sl, ⟨r.toArray⟩) := by
  have hl : (tl q).length = r.length + 1 := by rw [hq]; rfl
  have h1 : Txt.slice q none (some 1) = sl := str_ext (by
    have := slice_to (x := q) (j := 1) (by omega)
    rw [show ((1 : Nat) : Int) = 1 from rfl] at this
    rw [this, hq]; rfl)
  have h2 : Txt.slice q (some 1) none = ⟨r.toArray⟩ := str_ext (by
    have := slice_fr (x := q) (i := 1) (by omega)
    rw [show ((1 : Nat) : Int) = 1 from rfl] at this
    rw [this, hq]; simp [tl])
  have h3 : Txt.slice q (some 1) (some 2) ≠ sl := by
    intro e
    cases r with
    | nil =>
      have hb : (Txt.slice q (some 1) (some 2)) = Str.empty := by
        have hq2 : q = sl := str_ext hq
        rw [hq2]; decide +kernel
      rw [hb] at e
      exact absurd (congrArg tl e) (by decide)
    | cons c r =>
      have := slice_mid (x := q) (i := 1) (j := 2) (by omega) (by rw [hl]; simp)
      rw [show ((1 : Nat) : Int) = 1 from rfl, show ((2 : Nat) : Int) = 2 from rfl, e, hq] at this
      simp [tl_sl] at this
      exact hr (by simp [this])
  unfold rootF
  rw [h1, if_neg (by simp), if_pos (by simp [h3]), h2]

theorem fold_lts (ini : PySem.Str) (hi : ini.length ≠ 0) : ∀ (l : List Int) (acc : List PySem.Str), acc.getLast? ≠ some dt2 → (lts l).foldl (normStep ini) acc = acc ++ lts l
  | [], acc, _ => by simp [lts]
  | d :: l, acc, h => by
    have h1 : letC d ≠ dt1 := letC_ne d (by decide)
    have h2 : letC d ≠ dt2 := letC_ne d (by decide)
    have hs : normStep ini acc (letC d) = acc ++ [letC d] := by
      unfold normStep
      rw [if_neg (by rintro (q | q) <;> first | exact h1 q | cases q), if_pos (.inl h2)]
    show (lts l).foldl (normStep ini) (normStep ini acc (letC d)) = _
    rw [hs, fold_lts ini hi l _ (by simp [h2])]
    show acc ++ [letC d] ++ lts l = acc ++ (letC d :: lts l)
    simp
theorem lts_last (l : List Int) : (lts l).getLast? ≠ some dt2 := fun h => by
  have := List.mem_of_getLast? h
  obtain ⟨d, _, e⟩ := List.mem_map.mp this
  exact letC_ne d (by decide) e
theorem lts_take (l : List Int) (k : Nat) : lts (l.take k) = (lts l).take k := by unfold lts; rw [List.map_take]

/-- the parts of a tail, and how far it goes back -/
def tailP : Nat → List PySem.Str
  | 0 => [""]
  | 1 => ["."]
  | 2 => [".."]
  | _ => ["c", ".."]
def goalN (k t : Nat) : Nat := if t = 2 then k - 1 else k
theorem tail_tl : ∀ t, t < 4 → tl (tailT t) = jn ((tailP t).map tl) := by
  intro t ht
  match t, ht with
  | 0, _ => rfl
  | 1, _ => rfl
  | 2, _ => rfl
  | 3, _ => decide +kernel
theorem tail_first : ∀ t, t < 4 → (tl (tailT t))[0]? ≠ some 47 := by
  intro t ht
  match t, ht with
  | 0, _ => decide +kernel
  | 1, _ => decide +kernel
  | 2, _ => decide +kernel
  | 3, _ => decide +kernel
theorem tailP_ne : ∀ t, t < 4 → tailP t ≠ [] := by
  intro t ht
  match t, ht with
  | 0, _ => decide
  | 1, _ => decide
  | 2, _ => decide
  | 3, _ => decide
theorem tailP_free : ∀ t, t < 4 → ∀ p ∈ tailP t, 47 ∉ tl p := by
  intro t ht
  match t, ht with
  | 0, _ => decide +kernel
  | 1, _ => decide +kernel
  | 2, _ => decide +kernel
  | 3, _ => decide +kernel
theorem tail_fold (l : List Int) : ∀ t, t < 4 → (tailP t).foldl (normStep sl) (lts l) = lts (l.take (goalN l.length t)) := by
  intro t ht
  have h0 : sl.length ≠ 0 := by decide
  match t, ht with
  | 0, _ =>
    show normStep sl (lts l) "" = _
    unfold normStep
    rw [if_pos (.inl rfl)]; simp [goalN]
  | 1, _ =>
    show normStep sl (lts l) "." = _
    unfold normStep
    rw [if_pos (.inr rfl)]; simp [goalN]
  | 2, _ =>
    show normStep sl (lts l) ".." = _
    unfold normStep
    rw [if_neg (by decide +kernel), if_neg]
    · simp only [goalN, if_pos]
      have : (lts l).length = l.length := by unfold lts; rw [List.length_map]
      rw [lts_take, List.dropLast_eq_take, this]
    · rintro (q | ⟨q, _⟩ | q)
      · exact q rfl
      · exact h0 q
      · exact lts_last l q
  | 3, _ =>
    show normStep sl (normStep sl (lts l) "c") ".." = _
    have : normStep sl (lts l) "c" = lts l ++ [("c" : PySem.Str)] := by
      unfold normStep
      rw [if_neg (by decide +kernel), if_pos (.inl (by decide +kernel))]
    rw [this]
    unfold normStep
    rw [if_neg (by decide +kernel), if_neg]
    · simp [goalN]
    · rintro (q | ⟨q, _⟩ | q)
      · exact q rfl
      · exact h0 q
      · rw [List.getLast?_append] at q
        have q2 : ("c" : PySem.Str) = dt2 := by simpa using q
        exact absurd q2 (by decide +kernel)

theorem norm_way {ds : List Int} {k t : Nat} (hk : k ≤ ds.length) (ht : t < 4) : normF (joinF (placeAt ds k) (tailT t)) = placeAt ds (goalN k t) := by
  have hj := join_way (place_tl ds k hk) (tail_first t ht)
  generalize hq : joinF (placeAt ds k) (tailT t) = q at hj ⊢
  have hkl : (ds.take k).length = k := by rw [List.length_take]; omega
  -- behind the first sign
  have hr : tl q = 47 :: jn ((lts (ds.take k) ++ tailP t).map tl) := by
    rw [hj, List.map_append, lts_tl, jn_lts _ _ (by simpa using tailP_ne t ht), tail_tl t ht, ← List.cons_append, flat_rot]
    split
    · rename_i h; rw [h]; rfl
    · rename_i h; rw [wy_ne h]; simp
  have hfree : ∀ p ∈ lts (ds.take k) ++ tailP t, 47 ∉ tl p := fun p hp => (List.mem_append.mp hp).elim (lts_free _ p) (tailP_free t ht p)
  have hne : lts (ds.take k) ++ tailP t ≠ [] := by simp [tailP_ne t ht]
  have h47 : (jn ((lts (ds.take k) ++ tailP t).map tl))[0]? ≠ some 47 := by
    rw [List.map_append, lts_tl]
    cases hl : ds.take k with
    | nil =>
      show (jn ((tailP t).map tl))[0]? ≠ some 47
      rw [← tail_tl t ht]; exact tail_first t ht
    | cons d l =>
      rw [jn_lts _ _ (by simpa using tailP_ne t ht)]
      intro q
      have := lt3_ge d
      simp at q; omega
  have hroot := root_way hr h47
  have hsp : Txt.split (rootF q).2 sl = lts (ds.take k) ++ tailP t := by
    rw [hroot]
    exact split_eq hne hfree (by simp [tl])
  have hnl : normL q = lts (ds.take (goalN k t)) := by
    unfold normL
    rw [hsp, hroot, List.foldl_append, fold_lts sl (by decide) _ [] (by simp), List.nil_append, tail_fold _ t ht, hkl, List.take_take]
    congr 2
    unfold goalN; split <;> omega
  have hql : ¬ q.length = 0 := by rw [tl_len, hr]; simp
  unfold normF
  rw [if_neg hql]
  dsimp only
  rw [hnl, hroot]
  have e : sl ++ Txt.join sl (lts (ds.take (goalN k t))) = placeAt ds (goalN k t) := place_of (by unfold goalN; split <;> omega) (wy_join _)
  rw [e, if_neg]
  rw [place_len (by unfold goalN; split <;> omega)]
  split <;> omega
end Mine

namespace Mine
open PySem PySem.W PyProof.Rows PySem.Calls

theorem comps_way {ds : List Int} {k : Nat} (hk : k ≤ ds.length) : compsF (placeAt ds k) = (lts ds).take k := by
  rw [← lts_take]
  have ht := place_tl ds k hk
  have hkeep : (lts (ds.take k)).filter (fun c => ((c.length : Int) != 0) && c != dt1) = lts (ds.take k) := List.filter_eq_self.mpr fun c hc => by
    obtain ⟨d, _, rfl⟩ := List.mem_map.mp hc
    have h1 : letC d ≠ dt1 := letC_ne d (by decide)
    simp [letC_len, h1]
  unfold compsF
  cases hl : ds.take k with
  | nil =>
    rw [hl] at ht
    have : Txt.split (placeAt ds k) sl = [("" : PySem.Str), ("" : PySem.Str)] := split_eq (by simp) (by decide +kernel) (by rw [ht]; rfl)
    rw [this]; decide +kernel
  | cons d l =>
    rw [hl] at ht hkeep
    have : Txt.split (placeAt ds k) sl = ("" : PySem.Str) :: lts (d :: l) := by
      refine split_eq (by simp) (fun p hp => ?_) ?_
      · rcases List.mem_cons.mp hp with rfl | hp
        · decide +kernel
        · exact lts_free _ p hp
      · rw [ht, wy_ne (by simp), List.map_cons, lts_tl]
        have e : d :: l = (d :: l).dropLast ++ [(d :: l).getLast (by simp)] := (List.dropLast_concat_getLast (by simp)).symm
        have hj := wy_join (d :: l)
        rw [show Txt.join sl (lts (d :: l)) = PySem.Str.join sl (lts (d :: l)) from StrLaws.glued_eq_join sl _, tl_app, tl_join, lts_tl, wy_ne (by simp)] at hj
        rw [← hj]; rfl
    rw [this, List.filter_cons, hkeep]
    rfl

/-! one folder up -/
theorem rfind_way {p : PySem.Str} {l : List Nat} {c : Nat} (hp : tl p = l ++ [47, c]) (hc : c ≠ 47) : Txt.rfind p sl = (l.length : Int) := by
  have h3 : sl.length = 1 := rfl
  have hl : p.length = l.length + 2 := by rw [tl_len, hp]; simp
  have at_iff : ∀ i, StrLaws.At p sl p.length i ↔ (tl p)[i]? = some 47 := fun i => StrLaws.subAt_one p 47 i
  have h47 : (tl p)[l.length]? = some 47 := by rw [hp, List.getElem?_append_right (Nat.le_refl _)]; simp
  rcases rfind_whole p sl with ⟨_, h⟩ | ⟨i, e, h1, h2⟩
  · exact absurd ((at_iff _).mpr h47) (h l.length)
  · rw [e]
    have hi := (at_iff i).mp h1
    have : i = l.length := by
      rcases Nat.lt_trichotomy i l.length with q | q | q
      · exact absurd ((at_iff _).mpr h47) (h2 _ q)
      · exact q
      · rw [hp, List.getElem?_append_right (by omega)] at hi
        have : i - l.length = 1 ∨ 2 ≤ i - l.length := by omega
        rcases this with q2 | q2
        · rw [q2] at hi; simp at hi; exact absurd hi hc
        · rw [List.getElem?_eq_none (by simp; omega)] at hi; cases hi
    rw [this]
theorem mul_47 (n : Int) : ∀ c ∈ tl (Txt.mul sl n), c = 47 := by
  have hf : ∀ (k : Nat) (acc : Array Nat), (∀ c ∈ acc.toList, c = 47) → ∀ c ∈ ((List.replicate k sl.cps).foldl (· ++ ·) acc).toList, c = 47 := by
    intro k
    induction k with
    | zero => intro acc h; exact h
    | succ k ih =>
      intro acc h
      rw [List.replicate_succ, List.foldl_cons]
      refine ih _ fun c hc => ?_
      rw [Array.toList_append] at hc
      rcases List.mem_append.mp hc with q | q
      · exact h c q
      · have : sl.cps.toList = [47] := rfl
        rw [this] at q
        exact List.mem_singleton.mp q
  unfold Txt.mul
  split
  · intro c hc; cases hc
  · split
    · intro c hc; rw [tl_sl] at hc; exact List.mem_singleton.mp hc
    · exact hf _ _ (by simp)
theorem dir_way {ds : List Int} {k : Nat} (hk : k + 1 ≤ ds.length) : dirF (placeAt ds (k + 1)) = placeAt ds k := by
  have e : ds.take (k + 1) = ds.take k ++ [ds[k]] := by rw [List.take_add_one, List.getElem?_eq_getElem (by omega)]; rfl
  have hkl : (ds.take k).length = k := by rw [List.length_take]; omega
  have ht : tl (placeAt ds (k + 1)) = pc (ds.take k) ++ [47, lt3 ds[k]] := by
    rw [place_tl ds (k + 1) hk, e, wy_ne (l := ds.take k ++ [ds[k]]) (by intro q; exact absurd (List.append_eq_nil_iff.mp q).2 (by simp)), pc_app]; rfl
  have hlt := lt3_ge ds[k]
  have hr := rfind_way ht (by omega)
  have hpl : (pc (ds.take k)).length = 2 * k := by rw [pc_len, hkl]
  have hh : tl (dirHead (placeAt ds (k + 1))) = pc (ds.take k) ++ [47] := by
    unfold dirHead
    rw [hr, show ((pc (ds.take k)).length : Int) + 1 = (((pc (ds.take k)).length + 1 : Nat) : Int) by push_cast; rfl, slice_to (by rw [ht]; simp), ht, List.take_append]
    rw [List.take_of_length_le (by omega)]
    have : (pc (ds.take k)).length + 1 - (pc (ds.take k)).length = 1 := by omega
    rw [this]; rfl
  have hhl : (dirHead (placeAt ds (k + 1))).length = 2 * k + 1 := by rw [tl_len, hh, List.length_append, hpl]; rfl
  unfold dirF
  by_cases hk0 : k = 0
  · subst hk0
    have hd : dirHead (placeAt ds (0 + 1)) = sl := str_ext hh
    rw [hd]
    have : Txt.mul sl (sl.length : Int) = sl := by decide +kernel
    rw [this]
    simp
    rfl
  · have hne : ds.take k ≠ [] := by intro q; rw [q] at hkl; simp at hkl; omega
    have hmul : dirHead (placeAt ds (k + 1)) ≠ Txt.mul sl (dirHead (placeAt ds (k + 1))).length := by
      intro q
      have h1 := mul_47 ((dirHead (placeAt ds (k + 1))).length : Int)
      rw [← q, hh] at h1
      have h2 := pc_last hne
      have h3 := h1 _ (List.mem_append_left _ (List.mem_of_getElem? h2))
      have := lt3_ge ((ds.take k).getLast hne)
      omega
    rw [if_pos (by simp only [Bool.and_eq_true, bne_iff_ne]; exact ⟨by omega, hmul⟩)]
    refine place_of (by omega) ?_
    generalize dirHead (placeAt ds (k + 1)) = hd at hh hhl
    have hrev : ((tl hd).drop 0).reverse.takeWhile (fun c => sl.cps.contains c) = [47] := by
      obtain ⟨r, hr⟩ : ∃ r, pc (ds.take k) = r ++ [lt3 ((ds.take k).getLast hne)] := by
        have e := (List.dropLast_concat_getLast hne).symm
        generalize (ds.take k).getLast hne = z at e ⊢
        refine ⟨pc (ds.take k).dropLast ++ [47], ?_⟩
        conv => lhs; rw [e]
        rw [pc_app]; simp [pc]
      have := lt3_ge ((ds.take k).getLast hne)
      rw [hh, hr, List.drop_zero]
      simp only [List.reverse_append, List.reverse_cons, List.reverse_nil, List.nil_append, List.cons_append]
      rw [List.takeWhile_cons, if_pos (by decide +kernel), List.takeWhile_cons, if_neg]
      have hc : sl.cps = #[47] := rfl
      rw [hc]; simp; omega
    have hlo : stripLo (fun c => sl.cps.contains c) false hd = 0 := rfl
    have hhi : stripHi (fun c => sl.cps.contains c) true hd 0 = 2 * k := by
      show hd.length - (((tl hd).drop 0).reverse.takeWhile (fun c => sl.cps.contains c)).length = _
      rw [hrev, hhl]; rfl
    show tl (Txt.stripBy (fun c => sl.cps.contains c) false true hd) = _
    unfold Txt.stripBy
    have hs : stripSame (fun c => sl.cps.contains c) false true hd = false := by
      unfold stripSame
      rw [hlo, hhi, hhl]
      simp
    rw [hs]
    simp only [Bool.false_eq_true, ↓reduceIte]
    unfold PySem.stripped
    rw [hlo, hhi, wy_ne hne]
    show (hd.cps.extract 0 (2 * k)).toList = _
    rw [Array.toList_extract]
    show ((tl hd).extract 0 (2 * k)) = _
    rw [hh]
    simp [List.extract, ← hpl]
end Mine

namespace Mine
open PySem PySem.W PyProof.Rows PySem.Calls

def bitN : Nat → Nat
  | 0 => 64
  | 1 => 8
  | _ => 1
def moN (d : Int) : Int := if 88 ≤ d then 32768 + numF d else 16384 + numF d
def whN (d : Int) : List Int := if 88 ≤ d then [] else whoF d
def opN (b one : Nat) : Bool := (b &&& 61440 == 16384) && (b &&& bitN one == bitN one)
def tyOk (b : Nat) : Bool := (b &&& 61440 == 0) || (b &&& 61440 == 16384) || (b &&& 61440 == 32768)
def ckD (d : Nat) : Bool := (moN (d : Int) == (((moN (d : Int)).toNat : Nat) : Int)) && tyOk (moN (d : Int)).toNat && ([0, 1, 2].all fun one => opN (moN (d : Int)).toNat one == (whN (d : Int)).any (· == (one : Int)))
theorem ck_all : (List.range 96).all ckD = true := by decide +kernel

theorem mo_ok {d : Int} (h0 : 0 ≤ d) (h : d < 96) : ∃ b : Nat, moN d = (b : Int) ∧ tyOk b = true ∧ ∀ one, one < 3 → opN b one = (whN d).any (· == (one : Int)) := by
  have h1 := List.all_eq_true.mp ck_all d.toNat (List.mem_range.mpr (by omega))
  unfold ckD at h1
  rw [Int.toNat_of_nonneg h0] at h1
  simp only [Bool.and_eq_true, beq_iff_eq, List.all_cons, List.all_nil, Bool.and_true] at h1
  refine ⟨_, h1.1.1, h1.1.2, fun one ho => ?_⟩
  have : one = 0 ∨ one = 1 ∨ one = 2 := by omega
  rcases this with rfl | rfl | rfl
  · exact h1.2.1
  · exact h1.2.2.1
  · exact h1.2.2.2

theorem and_sub {a m b : Nat} : (a &&& m) &&& b = b ↔ a &&& b = b ∧ m &&& b = b := by
  constructor
  · intro h
    constructor
    · calc a &&& b = a &&& ((a &&& m) &&& b) := by rw [h]
        _ = (a &&& m) &&& b := by rw [← Nat.and_assoc, ← Nat.and_assoc, Nat.and_self]
        _ = b := h
    · calc m &&& b = m &&& ((a &&& m) &&& b) := by rw [h]
        _ = (a &&& m) &&& b := by rw [← Nat.and_assoc, Nat.and_comm a m, ← Nat.and_assoc, Nat.and_self]
        _ = b := h
  · rintro ⟨h1, h2⟩
    rw [Nat.and_assoc, h2, h1]
theorem or_sub {m b c : Nat} : m &&& (b ||| c) = b ||| c ↔ m &&& b = b ∧ m &&& c = c := by
  constructor
  · intro h
    constructor
    · apply Nat.eq_of_testBit_eq; intro i
      have := congrArg (fun x => Nat.testBit x i) h
      simp only [Nat.testBit_and, Nat.testBit_or] at this ⊢
      revert this
      generalize Nat.testBit m i = x
      generalize Nat.testBit b i = y
      generalize Nat.testBit c i = z
      cases x <;> cases y <;> cases z <;> decide
    · apply Nat.eq_of_testBit_eq; intro i
      have := congrArg (fun x => Nat.testBit x i) h
      simp only [Nat.testBit_and, Nat.testBit_or] at this ⊢
      revert this
      generalize Nat.testBit m i = x
      generalize Nat.testBit b i = y
      generalize Nat.testBit c i = z
      cases x <;> cases y <;> cases z <;> decide
  · rintro ⟨h1, h2⟩
    rw [Nat.and_or_distrib_left, h1, h2]
theorem ty_and {a m : Nat} (ha : tyOk a = true) (hm : tyOk m = true) : tyOk (a &&& m) = true ∧ ((a &&& m) &&& 61440 = 16384 ↔ a &&& 61440 = 16384 ∧ m &&& 61440 = 16384) := by
  have e : (a &&& m) &&& 61440 = (a &&& 61440) &&& (m &&& 61440) := by
    apply Nat.eq_of_testBit_eq; intro i
    simp only [Nat.testBit_and]
    cases Nat.testBit a i <;> cases Nat.testBit m i <;> simp
  unfold tyOk at *
  rw [e]
  generalize a &&& 61440 = x at *
  generalize m &&& 61440 = y at *
  simp only [Bool.or_eq_true, beq_iff_eq] at ha hm
  rcases ha with (rfl | rfl) | rfl <;> rcases hm with (rfl | rfl) | rfl <;> decide
theorem op_and {a m one : Nat} (ha : tyOk a = true) (hm : tyOk m = true) : opN (a &&& m) one = (opN a one && opN m one) := by
  have h1 := (ty_and ha hm).2
  have h2 := and_sub (a := a) (m := m) (b := bitN one)
  unfold opN
  rw [Bool.eq_iff_iff]
  simp only [Bool.and_eq_true, beq_iff_eq]
  rw [h1, h2]
  constructor
  · rintro ⟨⟨a1, a2⟩, a3, a4⟩; exact ⟨⟨a1, a3⟩, a2, a4⟩
  · rintro ⟨⟨a1, a2⟩, a3, a4⟩; exact ⟨⟨a1, a3⟩, a2, a4⟩
theorem bitAnd_nat (a b : Nat) : Builtin.bitAnd (a : Int) (b : Int) = ((a &&& b : Nat) : Int) := by
  rw [bitAnd_pp (by omega) (by omega)]; rfl
theorem bitEq (a b : Nat) : (Builtin.bitAnd (a : Int) (b : Int) == (b : Int)) = (a &&& b == b) := by
  rw [bitAnd_nat, Bool.eq_iff_iff, beq_iff_eq, beq_iff_eq]
  exact ⟨fun h => by exact_mod_cast h, fun h => by exact_mod_cast h⟩
def s0 (v : Int) : Nat := match ((tblL[0]?).getD []).find? (fun e => v == e.1) with
  | some e => e.2
  | none => 63
theorem sg_0 (m : Int) : sg m 0 = s0 (Builtin.bitAnd m 61440) := rfl
def s3 (t1 t2 t3 : Bool) (a b c : Nat) : Nat := if t1 then a else if t2 then b else if t3 then c else 45
theorem sg_3 {m : Int} {k : Nat} {x y z : Int} {a b c : Nat} (hk : k ≠ 0) (hr : (tblL[k]?).getD [] = [(x, a), (y, b), (z, c)]) : sg m k = s3 (Builtin.bitAnd m x == x) (Builtin.bitAnd m y == y) (Builtin.bitAnd m z == z) a b c := by
  unfold sg signOf tst s3
  rw [hr]
  simp only [hk, ↓reduceIte, List.find?_cons, List.find?_nil]
  cases (Builtin.bitAnd m x == x) <;> cases (Builtin.bitAnd m y == y) <;> cases (Builtin.bitAnd m z == z) <;> rfl
theorem or_beq (m b c : Nat) : (m &&& (b ||| c) == (b ||| c)) = ((m &&& b == b) && (m &&& c == c)) := by
  rw [Bool.eq_iff_iff, Bool.and_eq_true, beq_iff_eq, beq_iff_eq, beq_iff_eq]
  exact or_sub
/-- what filemode shows -/
theorem open_op {b one : Nat} (hb : tyOk b = true) (ho : one < 3) : openM (b : Int) (one : Int) = opN b one := by
  have h0 : (sg (b : Int) 0 == 100) = (b &&& 61440 == 16384) := by
    rw [sg_0, show (61440 : Int) = ((61440 : Nat) : Int) from rfl, bitAnd_nat]
    unfold tyOk at hb
    generalize b &&& 61440 = x at hb
    simp only [Bool.or_eq_true, beq_iff_eq] at hb
    rcases hb with (rfl | rfl) | rfl <;> decide +kernel
  unfold openM opN
  rw [h0]
  congr 1
  have key : ∀ (k x y z a c d : Nat), k ≠ 0 → (tblL[k]?).getD [] = [((x : Int), a), ((y : Int), c), ((z : Int), d)] → x = z ||| y → inX a = true → inX c = false → inX d = true → inX 45 = false → inX (sg (b : Int) k) = (b &&& z == z) := by
    intro k x y z a c d hk hr hx ha hc hd h45
    rw [sg_3 hk hr, bitEq, bitEq, bitEq, hx, or_beq]
    unfold s3
    cases (b &&& z == z) <;> cases (b &&& y == y) <;> simp [ha, hc, hd, h45]
  have : one = 0 ∨ one = 1 ∨ one = 2 := by omega
  rcases this with rfl | rfl | rfl
  · exact key 3 2112 2048 64 115 83 120 (by decide) rfl (by decide) (by decide +kernel) (by decide +kernel) (by decide +kernel) (by decide +kernel)
  · exact key 6 1032 1024 8 115 83 120 (by decide) rfl (by decide) (by decide +kernel) (by decide +kernel) (by decide +kernel) (by decide +kernel)
  · exact key 9 513 512 1 116 84 120 (by decide) rfl (by decide) (by decide +kernel) (by decide +kernel) (by decide +kernel) (by decide +kernel)
end Mine

namespace Mine
open PySem PySem.W PyProof.Rows PySem.Calls

/-! counting -/
theorem cnt_asc : ∀ {t : List Nat}, t.Pairwise (· ≤ ·) → ∀ {d θ : Nat}, 1 ≤ θ → θ ≤ t.length → (θ ≤ (t.filter fun x => decide (d ≤ x)).length ↔ d ≤ (t[t.length - θ]?).getD 0)
  | [], _, d, θ, h1, h2 => by simp at h2; omega
  | x :: r, hp, d, θ, h1, h2 => by
    obtain ⟨hx, hr⟩ := List.pairwise_cons.mp hp
    simp only [List.length_cons] at h2
    by_cases hd : d ≤ x
    · have hall : (x :: r).filter (fun x => decide (d ≤ x)) = x :: r := List.filter_eq_self.mpr fun y hy => by
        rcases List.mem_cons.mp hy with rfl | hy
        · exact decide_eq_true hd
        · exact decide_eq_true (Nat.le_trans hd (hx y hy))
      rw [hall]
      have hi : (x :: r).length - θ < (x :: r).length := by simp only [List.length_cons]; omega
      constructor
      · intro _
        rw [List.getElem?_eq_getElem hi]
        have := List.getElem_mem hi
        rcases List.mem_cons.mp this with e | e
        · show d ≤ _; rw [Option.getD_some, e]; exact hd
        · show d ≤ _; rw [Option.getD_some]; exact Nat.le_trans hd (hx _ e)
      · intro _; simp only [List.length_cons]; exact h2
    · have hf : (x :: r).filter (fun x => decide (d ≤ x)) = r.filter (fun x => decide (d ≤ x)) := List.filter_cons_of_neg (by simpa using hd)
      rw [hf]
      by_cases hθ : θ ≤ r.length
      · have ih := cnt_asc hr (d := d) h1 hθ
        rw [ih]
        have : (x :: r).length - θ = (r.length - θ) + 1 := by simp only [List.length_cons]; omega
        rw [this, List.getElem?_cons_succ]
      · have h3 : θ = r.length + 1 := by omega
        have h4 := List.length_filter_le (fun x => decide (d ≤ x)) r
        have : (x :: r).length - θ = 0 := by simp only [List.length_cons]; omega
        rw [this]
        simp only [List.getElem?_cons_zero, Option.getD_some]
        omega
theorem range_cnt : ∀ (m v : Nat), v ≤ m → ((List.range m).filter fun k => decide (k + 1 ≤ v)).length = v
  | 0, v, h => by simp; omega
  | m + 1, v, h => by
    rw [List.range_succ, List.filter_append, List.length_append]
    by_cases hv : v = m + 1
    · have : (List.range m).filter (fun k => decide (k + 1 ≤ v)) = List.range m := List.filter_eq_self.mpr fun k hk => decide_eq_true (by have := List.mem_range.mp hk; omega)
      rw [this, List.length_range]
      simp [hv]
    · rw [range_cnt m v (by omega)]
      simp; omega
theorem asc_perm : ∀ {a b : List Nat}, a.Perm b → a.Pairwise (· ≤ ·) → b.Pairwise (· ≤ ·) → a = b
  | [], b, h, _, _ => (List.nil_perm.mp h).symm
  | x :: a, [], h, _, _ => absurd (List.perm_nil.mp h) (by simp)
  | x :: a, y :: b, h, h1, h2 => by
    obtain ⟨hx, ha⟩ := List.pairwise_cons.mp h1
    obtain ⟨hy, hb⟩ := List.pairwise_cons.mp h2
    have e : x = y := by
      have m1 : x ∈ y :: b := h.mem_iff.mp (.head _)
      have m2 : y ∈ x :: a := h.mem_iff.mpr (.head _)
      rcases List.mem_cons.mp m1 with q | q
      · exact q
      · rcases List.mem_cons.mp m2 with q2 | q2
        · exact q2.symm
        · exact Nat.le_antisymm (hx y q2) (hy x q)
    subst e
    rw [asc_perm h.cons_inv ha hb]
def srt (l : List Nat) : List Nat := l.mergeSort (fun a b => decide (a ≤ b))
theorem srt_perm (l : List Nat) : (srt l).Perm l := List.mergeSort_perm l _
theorem srt_asc (l : List Nat) : (srt l).Pairwise (· ≤ ·) := by
  have := List.pairwise_mergeSort (le := fun a b : Nat => decide (a ≤ b)) (fun a b c h1 h2 => by simp at *; omega) (fun a b => by simp; omega) l
  exact this.imp fun h => by simpa using h

/-! where a walker stops -/
def stK (O : Nat → Bool) (g : Nat) : Nat → Nat
  | 0 => g
  | i + 1 => if O (g - i - 1) then stK O g i else g - i - 1
theorem stK_le (O : Nat → Bool) (g : Nat) : ∀ i, stK O g i ≤ g
  | 0 => Nat.le_refl _
  | i + 1 => by unfold stK; split; exact stK_le O g i; omega
theorem stK_iff (O : Nat → Bool) (g : Nat) : ∀ i, i ≤ g → ∀ k, k ≤ stK O g i ↔ k ≤ g ∧ ∀ j, g - i ≤ j → j < k → O j = true
  | 0, _, k => by
    unfold stK
    exact ⟨fun h => ⟨h, fun j h1 h2 => by omega⟩, fun h => h.1⟩
  | i + 1, hi, k => by
    have ih := stK_iff O g i (by omega) k
    unfold stK
    by_cases hO : O (g - i - 1) = true
    · rw [if_pos hO, ih]
      constructor
      · rintro ⟨h1, h2⟩
        refine ⟨h1, fun j h3 h4 => ?_⟩
        by_cases q : g - i ≤ j
        · exact h2 j q h4
        · rw [show j = g - i - 1 by omega]; exact hO
      · rintro ⟨h1, h2⟩
        exact ⟨h1, fun j h3 h4 => h2 j (by omega) h4⟩
    · rw [if_neg hO]
      constructor
      · intro h
        exact ⟨by omega, fun j h3 h4 => by omega⟩
      · rintro ⟨h1, h2⟩
        rcases Nat.lt_or_ge (g - i - 1) k with q | q
        · exact absurd (h2 (g - i - 1) (by omega) q) hO
        · exact q
def stD (O : Nat → Bool) (g : Nat) : Nat := stK O g g
theorem stD_iff (O : Nat → Bool) (g k : Nat) : k ≤ stD O g ↔ k ≤ g ∧ ∀ j, j < k → O j = true := by
  unfold stD
  rw [stK_iff O g g (Nat.le_refl _)]
  constructor
  · rintro ⟨h1, h2⟩; exact ⟨h1, fun j hj => h2 j (by omega) hj⟩
  · rintro ⟨h1, h2⟩; exact ⟨h1, fun j _ hj => h2 j hj⟩
end Mine

namespace Mine
open PySem PySem.W PyProof.Rows PySem.Calls

/-! the numbers drawn -/
theorem drawn_len (ns : List Int) : 8 ≤ (drawnF ns).length ∧ (drawnF ns).length ≤ 14 := by
  unfold drawnF
  rw [List.length_append, List.length_map, List.length_drop, List.length_take]
  show 8 ≤ min 14 ns.length + (8 - min 14 ns.length) ∧ min 14 ns.length + (8 - min 14 ns.length) ≤ 14
  omega
theorem drawn_mem {ns : List Int} {d : Int} (h : d ∈ drawnF ns) : 0 ≤ d ∧ d < 96 := by
  unfold drawnF at h
  rcases List.mem_append.mp h with h | h
  · obtain ⟨x, _, rfl⟩ := List.mem_map.mp h
    exact fmod_lt x (by decide)
  · have h := List.mem_of_mem_drop h
    simp only [List.mem_cons, List.not_mem_nil, or_false] at h
    omega
def ix2 (a n : Nat) : List Nat := sliceRange (sliceBounds (some (a : Int)) none (some 2) n).1 (sliceBounds (some (a : Int)) none (some 2) n).2.1 (sliceBounds (some (a : Int)) none (some 2) n).2.2
theorem ix2_ok : (List.range 15).all (fun n => n < 8 || ([0, 1].all fun a => decide (1 ≤ (ix2 a n).length) && decide ((ix2 a n).length ≤ 14) && (ix2 a n).all (fun i => decide (i < n)))) = true := by decide +kernel
theorem fm_len {α : Type} (l : List α) : ∀ (ix : List Nat), (∀ i ∈ ix, i < l.length) → (ix.filterMap (l[·]?)).length = ix.length
  | [], _ => rfl
  | i :: ix, h => by
    rw [List.filterMap_cons, List.getElem?_eq_getElem (h i (.head _))]
    simp only [List.length_cons]
    rw [fm_len l ix fun j hj => h j (.tail _ hj)]
theorem pick2_ok {l : List Int} {a : Nat} (ha : a = 0 ∨ a = 1) (h1 : 8 ≤ l.length) (h2 : l.length ≤ 14) : 1 ≤ (pick2 a l).length ∧ (pick2 a l).length ≤ 14 := by
  have h := List.all_eq_true.mp ix2_ok l.length (List.mem_range.mpr (by omega))
  rw [Bool.or_eq_true] at h
  rcases h with h | h
  · simp at h; omega
  · simp only [List.all_cons, List.all_nil, Bool.and_true, Bool.and_eq_true, decide_eq_true_eq] at h
    have key : 1 ≤ (ix2 a l.length).length ∧ (ix2 a l.length).length ≤ 14 ∧ ∀ i ∈ ix2 a l.length, i < l.length := by
      rcases ha with rfl | rfl
      · exact ⟨h.1.1.1, h.1.1.2, fun i hi => by have := List.all_eq_true.mp h.1.2 i hi; simpa using this⟩
      · exact ⟨h.2.1.1, h.2.1.2, fun i hi => by have := List.all_eq_true.mp h.2.2 i hi; simpa using this⟩
    have e : (pick2 a l).length = (ix2 a l.length).length := fm_len l _ key.2.2
    rw [e]; exact ⟨key.1, key.2.1⟩
theorem pick2_mem {l : List Int} {a : Nat} {d : Int} (h : d ∈ pick2 a l) : d ∈ l := by
  unfold pick2 at h
  obtain ⟨i, _, e⟩ := List.mem_filterMap.mp h
  exact List.mem_of_getElem? e

section
variable (ns : List Int)
theorem fd_ok : 1 ≤ (fdF ns).length ∧ (fdF ns).length ≤ 14 := pick2_ok (.inl rfl) (drawn_len ns).1 (drawn_len ns).2
theorem wd_ok : 1 ≤ (wdF ns).length ∧ (wdF ns).length ≤ 14 := pick2_ok (.inr rfl) (drawn_len ns).1 (drawn_len ns).2
theorem fs_len : (fsF ns).length = (fdF ns).length := by unfold fsF; rw [List.length_map, List.length_range]
theorem d_ok {i : Nat} (h : i < (fdF ns).length) : 0 ≤ dAt (fdF ns) i ∧ dAt (fdF ns) i < 96 := by
  have : dAt (fdF ns) i ∈ fdF ns := by unfold dAt; rw [List.getElem?_eq_getElem h]; exact List.getElem_mem h
  exact drawn_mem (pick2_mem this)
theorem fo_eq (ds : List Int) (i : Nat) : foF ds i = (placeAt ds (i + 1), moN (dAt ds i), whN (dAt ds i)) := by
  unfold foF moN whN
  split <;> rfl
theorem fs_at {i : Nat} (h : i < (fdF ns).length) : (fsF ns)[i]? = some (placeAt (fdF ns) (i + 1), moN (dAt (fdF ns) i), whN (dAt (fdF ns) i)) := by
  unfold fsF
  rw [List.getElem?_map, List.getElem?_range h]
  show some (foF (fdF ns) i) = _
  rw [fo_eq]
theorem fs_mem {f : Fo} (h : f ∈ fsF ns) : ∃ i, i < (fdF ns).length ∧ f = (placeAt (fdF ns) (i + 1), moN (dAt (fdF ns) i), whN (dAt (fdF ns) i)) := by
  unfold fsF at h
  obtain ⟨i, hi, rfl⟩ := List.mem_map.mp h
  exact ⟨i, List.mem_range.mp hi, fo_eq _ _⟩
theorem pl_len : (plF ns).length = (fdF ns).length + 1 := by unfold plF; rw [List.length_append, List.length_map, fs_len, List.length_singleton]; omega
theorem pl_eq {k : Nat} (h : k ≤ (fdF ns).length) : plAt ns k = placeAt (fdF ns) k := by
  unfold plAt plF
  cases k with
  | zero => rfl
  | succ k =>
    rw [List.getElem?_append_right (by simp), List.getElem?_map]
    have : k + 1 - ([sl] : List PySem.Str).length = k := by simp
    rw [this, fs_at ns (by omega)]
    rfl
theorem pl_mem {p : PySem.Str} (h : p ∈ plF ns) : ∃ k, k ≤ (fdF ns).length ∧ p = placeAt (fdF ns) k := by
  obtain ⟨k, hk⟩ := List.getElem?_of_mem h
  have hlt := (List.getElem?_eq_some_iff.mp hk).1
  rw [pl_len] at hlt
  refine ⟨k, by omega, ?_⟩
  rw [← pl_eq ns (by omega)]
  unfold plAt
  rw [hk]; rfl
theorem lookup_one {α : Type} : ∀ {l : List (PySem.Str × α)} {k : PySem.Str} {v : α}, (k, v) ∈ l → (∀ u, (k, u) ∈ l → u = v) → l.lookup k = some v
  | [], k, v, h, _ => by cases h
  | (k', u) :: r, k, v, h, hu => by
    rw [List.lookup_cons]
    by_cases q : k = k'
    · subst q
      simp only [beq_self_eq_true]
      rw [hu u (.head _)]
    · rw [beq_eq_false_iff_ne.mpr q]
      refine lookup_one ?_ fun u hu' => hu u (.tail _ hu')
      rcases List.mem_cons.mp h with e | h
      · cases e; exact absurd rfl q
      · exact h
theorem ls_at {k : Nat} (h : k < (fdF ns).length) : (lsF ns).lookup (placeAt (fdF ns) (k + 1)) = some (fmS (moN (dAt (fdF ns) k))) := by
  unfold lsF
  refine lookup_one ?_ fun u hu => ?_
  · rw [List.mem_reverse]
    exact List.mem_map.mpr ⟨_, List.mem_of_getElem? (fs_at ns h), rfl⟩
  · rw [List.mem_reverse] at hu
    obtain ⟨f, hf, e⟩ := List.mem_map.mp hu
    obtain ⟨i, hi, rfl⟩ := fs_mem ns hf
    have e1 := (Prod.mk.inj e).1
    have e2 := (Prod.mk.inj e).2
    have := place_inj (by omega) (by omega) e1
    have hik : i = k := by omega
    rw [← e2, hik]

/-! the walkers -/
theorem tail_dd {t : Nat} (h : t < 4) : (tailT t == dt2) = decide (t = 2) := by
  match t, h with
  | 0, _ => decide +kernel
  | 1, _ => decide +kernel
  | 2, _ => decide +kernel
  | 3, _ => decide +kernel
theorem walk_ok {d : Int} {m : Nat} : ∃ who k t : Nat, who < 3 ∧ k ≤ m ∧ t < 4 ∧ walkF d (m : Int) = ((who : Int), (k : Int), tailT t, ((goalN k t : Nat) : Int)) := by
  have h3 := fmod_lt d (k := 3) (by decide)
  have h4 := fmod_lt d (k := 4) (by decide)
  have hm := fmod_lt (d.fdiv 12) (k := (m : Int) + 1) (by omega)
  refine ⟨(d.fmod 3).toNat, ((m : Int) - (d.fdiv 12).fmod ((m : Int) + 1)).toNat, (d.fmod 4).toNat, by omega, by omega, by omega, ?_⟩
  unfold walkF
  have e1 : ((d.fmod 3).toNat : Int) = d.fmod 3 := by omega
  have e2 : (((m : Int) - (d.fdiv 12).fmod ((m : Int) + 1)).toNat : Int) = (m : Int) - (d.fdiv 12).fmod ((m : Int) + 1) := by omega
  rw [e1, e2]
  congr 3
  have ht : (tailT (d.fmod 4).toNat == dt2) = decide ((d.fmod 4).toNat = 2) := tail_dd (by omega)
  show (if (tailT (d.fmod 4).toNat == dt2) = true then _ else _) = _
  rw [ht]
  unfold goalN
  by_cases q : (d.fmod 4).toNat = 2
  · rw [if_pos (decide_eq_true q), if_pos q]
    split <;> omega
  · rw [if_neg (by simpa using q), if_neg q]
    omega
end
end Mine

namespace Mine
open PySem PySem.W PyProof.Rows PySem.Calls

section
variable (ns : List Int)
def opW (w : Wa) (j : Nat) : Bool := (whN (dAt (fdF ns) j)).any (· == w.1)
def stN (w : Wa) : Nat := stD (opW ns w) w.2.2.2.toNat
def stF (w : Wa) : PySem.Str := placeAt (fdF ns) (stN ns w)

theorem ws_mem {w : Wa} (h : w ∈ wsF ns) : ∃ who k t : Nat, who < 3 ∧ k ≤ (fdF ns).length ∧ t < 4 ∧ w = ((who : Int), (k : Int), tailT t, ((goalN k t : Nat) : Int)) := by
  unfold wsF at h
  obtain ⟨d, _, rfl⟩ := List.mem_map.mp h
  rw [fs_len]
  exact walk_ok
theorem goal_le (k t : Nat) : goalN k t ≤ k := by unfold goalN; split <;> omega
theorem st_le {w : Wa} (h : w ∈ wsF ns) : stN ns w ≤ (fdF ns).length := by
  obtain ⟨who, k, t, h1, h2, h3, rfl⟩ := ws_mem ns h
  have := ((stD_iff (opW ns ((who : Int), (k : Int), tailT t, ((goalN k t : Nat) : Int))) (goalN k t) (stN ns ((who : Int), (k : Int), tailT t, ((goalN k t : Nat) : Int)))).mp (Nat.le_refl _)).1
  have := goal_le k t
  omega
theorem mo_open {i who : Nat} (hi : i < (fdF ns).length) (hw : who < 3) : openM (moN (dAt (fdF ns) i)) (who : Int) = (whN (dAt (fdF ns) i)).any (· == (who : Int)) := by
  obtain ⟨h0, h1⟩ := d_ok ns hi
  obtain ⟨b, e, hb, ho⟩ := mo_ok h0 h1
  rw [e, open_op hb hw, ho who hw]

theorem stop_all {w : Wa} (h : w ∈ wsF ns) : ∃ (ch : Nat → PySem.Str) (N : Nat) (ls : Nat → PySem.Str) (c0 c1 : Nat → Nat), ch 0 = goF ns w ∧ (∀ i, i < N → ch (i + 1) = dirF (ch i)) ∧ ch N = sl ∧ (∀ i, i < N → ch i ≠ sl) ∧ (∀ i, i < N → (ch i).length ≤ 2 ^ 10) ∧
    (∀ i, i < N → (lsF ns).lookup (ch i) = some (ls i)) ∧ (∀ i, i < N → (ls i).length ≤ 2 ^ 10) ∧ (∀ i, i < N → (ls i).cps[0]? = some (c0 i)) ∧ (∀ i, i < N → (ls i).cps[(3 + 3 * w.1).toNat]? = some (c1 i)) ∧ stopAt ch (fun i => (c0 i == 100) && inX (c1 i)) N = stF ns w := by
  obtain ⟨who, k, t, h1, h2, h3, rfl⟩ := ws_mem ns h
  have hfd := fd_ok ns
  have hg := goal_le k t
  refine ⟨fun i => placeAt (fdF ns) (goalN k t - i), goalN k t, fun i => fmS (moN (dAt (fdF ns) (goalN k t - i - 1))), fun i => sg (moN (dAt (fdF ns) (goalN k t - i - 1))) 0, fun i => sg (moN (dAt (fdF ns) (goalN k t - i - 1))) (3 + 3 * (who : Int)).toNat, ?_, fun i hi => ?_, ?_, fun i hi => ?_, fun i hi => ?_, fun i hi => ?_, fun i hi => ?_, fun i hi => ?_, fun i hi => ?_, ?_⟩
  · show placeAt (fdF ns) (goalN k t - 0) = normF (joinF (plAt ns (k : Int).toNat) (tailT t))
    rw [Int.toNat_natCast, pl_eq ns h2, norm_way h2 h3]; rfl
  · have e : goalN k t - i = (goalN k t - (i + 1)) + 1 := by omega
    show placeAt _ (goalN k t - (i + 1)) = dirF (placeAt _ (goalN k t - i))
    rw [e, dir_way (by omega)]
  · show placeAt _ (goalN k t - goalN k t) = sl
    rw [Nat.sub_self]; rfl
  · intro q
    have := place_inj (i := goalN k t - i) (j := 0) (by omega) (by omega) q
    omega
  · show (placeAt _ (goalN k t - i)).length ≤ _
    rw [place_len (by omega)]
    split <;> omega
  · show (lsF ns).lookup (placeAt _ (goalN k t - i)) = _
    have e : goalN k t - i = (goalN k t - i - 1) + 1 := by omega
    conv => lhs; rw [e]
    exact ls_at ns (by omega)
  · show (fmS _).length ≤ _
    rw [fmS_eq]; show 10 ≤ 2 ^ 10; decide
  · show (fmS _).cps[0]? = _
    rw [fmS_eq]; rfl
  · show (fmS _).cps[(3 + 3 * (who : Int)).toNat]? = some (sg _ (3 + 3 * (who : Int)).toNat)
    rw [fmS_eq]
    have : who = 0 ∨ who = 1 ∨ who = 2 := by omega
    rcases this with rfl | rfl | rfl <;> rfl
  · have key : ∀ i, i ≤ goalN k t → stopAt (fun i => placeAt (fdF ns) (goalN k t - i)) (fun i => (sg (moN (dAt (fdF ns) (goalN k t - i - 1))) 0 == 100) && inX (sg (moN (dAt (fdF ns) (goalN k t - i - 1))) (3 + 3 * (who : Int)).toNat)) i = placeAt (fdF ns) (stK (opW ns ((who : Int), (k : Int), tailT t, ((goalN k t : Nat) : Int))) (goalN k t) i) := by
      intro i
      induction i with
      | zero => intro _; rfl
      | succ i ih =>
        intro hi
        have hop := mo_open ns (i := goalN k t - i - 1) (who := who) (by omega) h1
        unfold openM at hop
        unfold stopAt stK
        have e2 : (opW ns ((who : Int), (k : Int), tailT t, ((goalN k t : Nat) : Int)) (goalN k t - i - 1)) = (whN (dAt (fdF ns) (goalN k t - i - 1))).any (· == (who : Int)) := rfl
        rw [e2, ← hop, ih (by omega)]
        split
        · rfl
        · have e : goalN k t - i = (goalN k t - i - 1) + 1 := by omega
          show dirF (placeAt _ (goalN k t - i)) = _
          conv => lhs; rw [e]
          exact dir_way (by omega)
    have := key (goalN k t) (Nat.le_refl _)
    rw [this]
    rfl

/-! who comes how far -/
theorem left_eq : ∀ k, k ≤ (fdF ns).length → leftF (fsF ns) (wsF ns) k = (wsF ns).filter fun w => decide (k ≤ stN ns w)
  | 0, _ => by
    unfold leftF
    exact (List.filter_eq_self.mpr fun w _ => decide_eq_true (Nat.zero_le _)).symm
  | k + 1, h => by
    unfold leftF
    rw [left_eq k (by omega), List.filter_filter]
    refine List.filter_congr fun w hw => ?_
    obtain ⟨who, kk, t, h1, h2, h3, rfl⟩ := ws_mem ns hw
    rw [fs_at ns (by omega)]
    have i1 := stD_iff (opW ns ((who : Int), (kk : Int), tailT t, ((goalN kk t : Nat) : Int))) (goalN kk t) k
    have i2 := stD_iff (opW ns ((who : Int), (kk : Int), tailT t, ((goalN kk t : Nat) : Int))) (goalN kk t) (k + 1)
    have es : stN ns ((who : Int), (kk : Int), tailT t, ((goalN kk t : Nat) : Int)) = stD (opW ns ((who : Int), (kk : Int), tailT t, ((goalN kk t : Nat) : Int))) (goalN kk t) := rfl
    rw [es]
    show ((decide ((k : Int) < ((goalN kk t : Nat) : Int)) && (opW ns ((who : Int), (kk : Int), tailT t, ((goalN kk t : Nat) : Int)) k)) && decide (k ≤ stD _ _)) = decide (k + 1 ≤ stD _ _)
    rw [Bool.eq_iff_iff]
    simp only [Bool.and_eq_true, decide_eq_true_eq]
    rw [i1, i2]
    constructor
    · rintro ⟨⟨a1, a2⟩, a3, a4⟩
      refine ⟨by omega, fun j hj => ?_⟩
      by_cases q : j < k
      · exact a4 j q
      · rw [show j = k by omega]; exact a2
    · rintro ⟨a1, a2⟩
      exact ⟨⟨by omega, a2 k (by omega)⟩, by omega, fun j hj => a2 j (by omega)⟩

def stL : List Nat := srt ((wsF ns).map (stN ns))
theorem stL_len : (stL ns).length = (wsF ns).length := by unfold stL; rw [(srt_perm _).length_eq, List.length_map]
theorem stL_le {x : Nat} (h : x ∈ stL ns) : x ≤ (fdF ns).length := by
  have := (srt_perm _).mem_iff.mp h
  obtain ⟨w, hw, rfl⟩ := List.mem_map.mp this
  exact st_le ns hw
theorem in_len : (inF ns).length = (fdF ns).length := by unfold inF; rw [List.length_map, List.length_range, fs_len]
theorem in_eq : inF ns = (List.range (fdF ns).length).map fun k => ((((stL ns).filter fun x => decide (k + 1 ≤ x)).length : Nat) : Int) := by
  unfold inF
  rw [fs_len]
  refine List.map_congr_left fun k hk => ?_
  rw [left_eq ns (k + 1) (by have := List.mem_range.mp hk; omega)]
  congr 1
  unfold stL
  rw [((srt_perm ((wsF ns).map (stN ns))).filter _).length_eq, List.filter_map, List.length_map]
  rfl
theorem cnt_thr {θ : Nat} (h1 : 1 ≤ θ) (h2 : θ ≤ (wsF ns).length) {p : Int → Bool} (hp : ∀ c : Nat, p (c : Int) = decide (θ ≤ c)) : cntF ns p = ((stL ns)[(wsF ns).length - θ]?).getD 0 := by
  unfold cntF
  rw [in_eq, List.filter_map, List.length_map]
  have hv : ((stL ns)[(wsF ns).length - θ]?).getD 0 ≤ (fdF ns).length := by
    rw [List.getElem?_eq_getElem (by rw [stL_len]; omega)]
    exact stL_le ns (List.getElem_mem _)
  conv => rhs; rw [← range_cnt _ _ hv]
  congr 1
  refine List.filter_congr fun k _ => ?_
  show p _ = _
  rw [hp]
  have := cnt_asc (srt_asc ((wsF ns).map (stN ns))) (d := k + 1) h1 (by show θ ≤ (stL ns).length; rw [stL_len]; exact h2)
  have e : (srt ((wsF ns).map (stN ns))).length = (wsF ns).length := stL_len ns
  rw [e] at this
  exact decide_eq_decide.mpr this
theorem due_eq : dueF ns = (stL ns).map (placeAt (fdF ns)) := by
  unfold dueF
  apply List.ext_getElem?
  intro j
  rw [List.getElem?_map, List.getElem?_map]
  by_cases hj : j < (wsF ns).length
  · rw [List.getElem?_range hj, List.getElem?_eq_getElem (by rw [stL_len]; exact hj)]
    show some _ = some _
    have hc := cnt_thr ns (θ := (wsF ns).length - j) (by omega) (by omega) (p := fun c => decide ((((wsF ns).length : Nat) : Int) - (j : Int) ≤ c)) (fun c => decide_eq_decide.mpr (by omega))
    have e : (wsF ns).length - ((wsF ns).length - j) = j := by omega
    rw [e, List.getElem?_eq_getElem (by rw [stL_len]; exact hj)] at hc
    dsimp only
    rw [hc, Option.getD_some, pl_eq ns (stL_le ns (List.getElem_mem _))]
  · rw [List.getElem?_eq_none (by simpa using hj), List.getElem?_eq_none (by rw [stL_len]; omega)]
    rfl
end
end Mine

namespace Mine
open PySem PySem.W PyProof.Rows PySem.Calls
open PySem.Spec (ltCps)

theorem ltCps_pre : ∀ (a : List Nat) (c : Nat) (r : List Nat), ltCps a (a ++ c :: r) = true
  | [], c, r => rfl
  | x :: a, c, r => by
    have ih := ltCps_pre a c r
    simp [ltCps, ih]
theorem wy_pre {l : List Int} {a b : Nat} (h : a < b) (hb : b ≤ l.length) : ∃ c r, wy (l.take b) = wy (l.take a) ++ c :: r := by
  have hbn : l.take b ≠ [] := by intro q; have := congrArg List.length q; rw [List.length_take, List.length_nil] at this; omega
  rw [wy_ne hbn]
  have e : l.take b = l.take a ++ (l.drop a).take (b - a) := by
    rw [← List.take_add]; congr 1; omega
  have hd : ((l.drop a).take (b - a)).length = b - a := by rw [List.length_take, List.length_drop]; omega
  cases hr : (l.drop a).take (b - a) with
  | nil => rw [hr] at hd; simp at hd; omega
  | cons d r =>
    rw [e, hr, pc_app]
    by_cases q : l.take a = []
    · rw [q]
      exact ⟨lt3 d, pc r, rfl⟩
    · rw [wy_ne q]
      exact ⟨47, lt3 d :: pc r, rfl⟩
theorem place_lt {ds : List Int} {a b : Nat} (h : a < b) (hb : b ≤ ds.length) : ltCps (placeAt ds a).cps.toList (placeAt ds b).cps.toList = true := by
  have h1 := place_tl ds a (by omega)
  have h2 := place_tl ds b hb
  obtain ⟨c, r, e⟩ := wy_pre h hb
  show ltCps (tl _) (tl _) = true
  rw [h1, h2, e]
  exact ltCps_pre _ _ _
theorem rising_asc {ds : List Int} : ∀ (us : List Nat) (p : Nat), p ≤ ds.length → (∀ u ∈ us, u ≤ ds.length) → risingS (placeAt ds p) (us.map (placeAt ds)) = true → (∀ u ∈ us, p ≤ u) ∧ us.Pairwise (· ≤ ·)
  | [], p, _, _, _ => ⟨fun u hu => (by cases hu), .nil⟩
  | x :: us, p, hp, hu, h => by
    have hx := hu x (.head _)
    simp only [List.map_cons, risingS, Bool.and_eq_true, Bool.not_eq_true'] at h
    obtain ⟨h1, h2⟩ := rising_asc us x hx (fun u hu' => hu u (.tail _ hu')) h.2
    have hpx : p ≤ x := by
      rcases Nat.lt_or_ge x p with q | q
      · rw [place_lt q hp] at h; cases h.1
      · exact q
    exact ⟨fun u hu' => by
      rcases List.mem_cons.mp hu' with rfl | hu'
      · exact hpx
      · exact Nat.le_trans hpx (h1 u hu'), List.pairwise_cons.mpr ⟨h1, h2⟩⟩
def unP (x : PySem.Str) : Nat := if x.length = 1 then 0 else x.length / 2
theorem unP_place {ds : List Int} {k : Nat} (h : k ≤ ds.length) : unP (placeAt ds k) = k := by
  unfold unP
  rw [place_len h]
  split
  · split at * <;> omega
  · split at * <;> omega
theorem pull {ds : List Int} : ∀ (zs : List PySem.Str), (∀ z ∈ zs, ∃ k, k ≤ ds.length ∧ z = placeAt ds k) → ∃ us : List Nat, zs = us.map (placeAt ds) ∧ ∀ u ∈ us, u ≤ ds.length
  | [], _ => ⟨[], rfl, fun u hu => (by cases hu)⟩
  | z :: zs, h => by
    obtain ⟨us, e, hu⟩ := pull zs fun z hz => h z (.tail _ hz)
    obtain ⟨k, hk, e2⟩ := h z (.head _)
    exact ⟨k :: us, by rw [e, e2]; rfl, fun u hu' => by
      rcases List.mem_cons.mp hu' with rfl | hu'
      · exact hk
      · exact hu u hu'⟩
theorem map_unP {ds : List Int} {us : List Nat} (h : ∀ u ∈ us, u ≤ ds.length) : (us.map (placeAt ds)).map unP = us := by
  rw [List.map_map]
  conv => rhs; rw [← List.map_id us]
  exact List.map_congr_left fun u hu => unP_place (h u hu)

section
variable (ns : List Int)
theorem sorted_due : ∀ zs : List PySem.Str, zs.Perm ((wsF ns).map (stF ns)) → sortedS zs = true → zs = dueF ns := fun zs hp hs => by
  have hm : (wsF ns).map (stF ns) = ((wsF ns).map (stN ns)).map (placeAt (fdF ns)) := by rw [List.map_map]; rfl
  have hle : ∀ u ∈ (wsF ns).map (stN ns), u ≤ (fdF ns).length := fun u hu => by
    obtain ⟨w, hw, rfl⟩ := List.mem_map.mp hu
    exact st_le ns hw
  rw [hm] at hp
  obtain ⟨us, rfl, hu⟩ := pull zs fun z hz => by
    obtain ⟨u, hu, e⟩ := List.mem_map.mp (hp.mem_iff.mp hz)
    exact ⟨u, hle u hu, e.symm⟩
  have hp2 := hp.map unP
  rw [map_unP hu, map_unP hle] at hp2
  have hasc : us.Pairwise (· ≤ ·) := by
    cases us with
    | nil => exact .nil
    | cons x r =>
      obtain ⟨h1, h2⟩ := rising_asc r x (hu x (.head _)) (fun u h => hu u (.tail _ h)) hs
      exact List.pairwise_cons.mpr ⟨h1, h2⟩
  have : us = stL ns := asc_perm (hp2.trans (srt_perm _).symm) hasc (srt_asc _)
  rw [due_eq, this]
theorem wy_small (l : List Int) : ∀ c ∈ wy l, c < 100 := fun c hc => by
  unfold wy at hc
  split at hc
  · rw [List.mem_singleton.mp hc]; decide
  · unfold pc at hc
    obtain ⟨d, _, h⟩ := List.mem_flatMap.mp hc
    have := fmod_lt d (k := 3) (by decide)
    simp only [List.mem_cons, List.not_mem_nil, or_false] at h
    rcases h with rfl | rfl
    · decide
    · unfold lt3; omega
theorem strok_due : (dueF ns).all PyData.strOk = true := by
  rw [due_eq, List.all_eq_true]
  intro x hx
  obtain ⟨k, hk, rfl⟩ := List.mem_map.mp hx
  have h1 := place_tl (fdF ns) k (stL_le ns hk)
  unfold PyData.strOk
  rw [← Array.all_toList, List.all_eq_true]
  intro c hc
  have hc : c ∈ tl (placeAt (fdF ns) k) := hc
  rw [h1] at hc
  have := wy_small _ c hc
  simp; omega
theorem srt_get {j : Nat} (h : j < (wsF ns).length) : (dueF ns)[j]? = some (placeAt (fdF ns) (((stL ns)[j]?).getD 0)) := by
  rw [due_eq, List.getElem?_map, List.getElem?_eq_getElem (by rw [stL_len]; exact h)]
  rfl
theorem ws_len : (wsF ns).length = (wdF ns).length := by unfold wsF; rw [List.length_map]
theorem thr_eq {θ j : Nat} (h1 : 1 ≤ θ) (h2 : θ ≤ (wsF ns).length) (hj : (wsF ns).length - θ = j) {p : Int → Bool} (hp : ∀ c : Nat, p (c : Int) = decide (θ ≤ c)) : (dueF ns)[j]? = some (plAt ns (cntF ns p)) := by
  rw [cnt_thr ns h1 h2 hp, hj, srt_get ns (by omega), pl_eq ns]
  rw [List.getElem?_eq_getElem (by rw [stL_len]; omega)]
  exact stL_le ns (List.getElem_mem _)

/-! the modes together -/
theorem bits_at : ∀ i, i ≤ (fdF ns).length → ∃ b : Nat, numAt (fsF ns) i = (b : Int) ∧ tyOk b = true ∧ ∀ one, one < 3 → opN b one = (if i = 0 then (whN (dAt (fdF ns) 0)).any (· == (one : Int)) else (List.range i).all fun j => (whN (dAt (fdF ns) j)).any (· == (one : Int)))
  | 0, _ => by
    have hf := fd_ok ns
    obtain ⟨h0, h1⟩ := d_ok ns (i := 0) (by omega)
    obtain ⟨b, e, hb, ho⟩ := mo_ok h0 h1
    refine ⟨b, ?_, hb, fun one h => ?_⟩
    · show ((fsF ns)[0]?.map (·.2.1)).getD 0 = _
      rw [fs_at ns (by omega)]; exact e
    · rw [if_pos rfl]; exact ho one h
  | i + 1, hi => by
    obtain ⟨b, e, hb, ho⟩ := bits_at i (by omega)
    obtain ⟨h0, h1⟩ := d_ok ns (i := i) (by omega)
    obtain ⟨b2, e2, hb2, ho2⟩ := mo_ok h0 h1
    refine ⟨b &&& b2, ?_, (ty_and hb hb2).1, fun one h => ?_⟩
    · show Builtin.bitAnd (numAt (fsF ns) i) (((fsF ns)[i]?.map (·.2.1)).getD 0) = _
      rw [fs_at ns (by omega), e]
      show Builtin.bitAnd (b : Int) (moN (dAt (fdF ns) i)) = _
      rw [e2, bitAnd_nat]
    · rw [op_and hb hb2, ho one h, ho2 one h, if_neg (Nat.succ_ne_zero i)]
      by_cases q : i = 0
      · subst q
        simp
      · rw [if_neg q, List.range_succ, List.all_append]
        simp
theorem who_at : ∀ i, i ≤ (fdF ns).length → whoAt (fsF ns) i = [(0 : Int), 1, 2].filter fun w => (List.range i).all fun j => (whN (dAt (fdF ns) j)).any (· == w)
  | 0, _ => rfl
  | i + 1, hi => by
    show (whoAt (fsF ns) i).filter _ = _
    rw [who_at i (by omega), List.filter_filter]
    refine List.filter_congr fun w _ => ?_
    rw [fs_at ns (by omega), List.range_succ, List.all_append]
    simp [Bool.and_comm]
theorem fil3 (W : Int → Bool) : ((List.range 3).filter fun i : Nat => W (i : Int)).map (fun i : Nat => (i : Int)) = [(0 : Int), 1, 2].filter W := by
  have e3 : List.range 3 = [0, 1, 2] := rfl
  rw [e3]
  have c0 : ((0 : Nat) : Int) = 0 := rfl
  have c1 : ((1 : Nat) : Int) = 1 := rfl
  have c2 : ((2 : Nat) : Int) = 2 := rfl
  simp only [List.filter_cons, List.filter_nil, c0, c1, c2]
  cases W 0 <;> cases W 1 <;> cases W 2 <;> rfl
theorem together_ok : ∀ i, i < (fsF ns).length → openAll (numAt (fsF ns) (i + 1)) = whoAt (fsF ns) (i + 1) := fun i hi => by
  rw [fs_len] at hi
  obtain ⟨b, e, hb, ho⟩ := bits_at ns (i + 1) (by omega)
  rw [who_at ns (i + 1) (by omega), e]
  rw [← fil3]
  unfold openAll
  congr 1
  refine List.filter_congr fun one h => ?_
  have h := List.mem_range.mp h
  rw [open_op hb h, ho one h, if_neg (Nat.succ_ne_zero i)]
end
end Mine

namespace Mine
open PySem PySem.W PyProof.Rows PySem.Calls

theorem law_ok (ns : List Int) : LawOk ns (stF ns) := by
  have hf := fd_ok ns
  have hw := wd_ok ns
  have hwl := ws_len ns
  have hpl := pl_len ns
  have hsl := stL_len ns
  have hstl : ∀ x ∈ (wsF ns).map (stF ns), ∃ k, k ≤ (fdF ns).length ∧ x = placeAt (fdF ns) k := fun x hx => by
    obtain ⟨w, hw, rfl⟩ := List.mem_map.mp hx
    exact ⟨stN ns w, st_le ns hw, rfl⟩
  refine ⟨(drawn_len ns).2, hf, hw, fun p hp => ?_, fun w h => ?_, fun w h => stop_all ns h, fun p => ?_, sorted_due ns, strok_due ns, ?_, ?_, ?_, together_ok ns⟩
  · obtain ⟨k, hk, rfl⟩ := pl_mem ns hp
    rw [place_len hk]
    split <;> omega
  · obtain ⟨who, k, t, h1, h2, h3, rfl⟩ := ws_mem ns h
    refine ⟨Int.natCast_nonneg _, ?_, ?_, Int.natCast_nonneg _⟩
    · show (k : Int).toNat < _
      rw [Int.toNat_natCast, hpl]; omega
    · show (tailT t).length ≤ 4
      match t, h3 with
      | 0, _ => decide
      | 1, _ => decide
      | 2, _ => decide
      | 3, _ => decide
  · rw [hpl]
    unfold cntF
    have := List.length_filter_le p (inF ns)
    rw [in_len] at this
    omega
  · have hlt : (lts (fdF ns)).length = (fdF ns).length := by unfold lts; rw [List.length_map]
    have hn0 : 0 < (stL ns).length := by omega
    have hmem : ∀ k ∈ (wsF ns).map (stN ns), k ∈ stL ns := fun k hk => (srt_perm _).mem_iff.mpr hk
    have hmem2 : ∀ k ∈ stL ns, k ∈ (wsF ns).map (stN ns) := fun k hk => (srt_perm _).mem_iff.mp hk
    have hasc : (stL ns).Pairwise (· ≤ ·) := srt_asc _
    have hle : ∀ i j (hi : i < (stL ns).length) (hj : j < (stL ns).length), i ≤ j → (stL ns)[i] ≤ (stL ns)[j] := fun i j hi hj hij => by
      rcases Nat.lt_or_ge i j with q | q
      · exact List.pairwise_iff_getElem.mp hasc i j hi hj q
      · have : i = j := by omega
        subst this; exact Nat.le_refl _
    refine ⟨lts (fdF ns), (wsF ns).map (stN ns), (stL ns)[0], (stL ns)[(stL ns).length - 1]'(by omega), ?_, fun k hk => ?_, hmem2 _ (List.getElem_mem _), fun k hk => ?_, hmem2 _ (List.getElem_mem _), fun k hk => ?_, by omega, ?_, fun x hx => ?_, fun x hx => ?_, ?_⟩
    · rw [List.map_map, List.map_map]
      refine List.map_congr_left fun w hw => ?_
      exact comps_way (st_le ns hw)
    · rw [hlt]; exact stL_le ns (hmem k hk)
    · obtain ⟨j, hj, rfl⟩ := List.getElem_of_mem (hmem k hk)
      exact hle 0 j hn0 hj (Nat.zero_le _)
    · obtain ⟨j, hj, rfl⟩ := List.getElem_of_mem (hmem k hk)
      exact hle j _ hj (by omega) (by omega)
    · have h1 : ∀ l : List PySem.Str, (∀ p ∈ l, p.length = 1) → (l.map (·.length)).sum = l.length := by
        intro l
        induction l with
        | nil => intro _; rfl
        | cons p l ih =>
          intro h
          rw [List.map_cons, List.sum_cons, ih fun q hq => h q (.tail _ hq), h p (.head _), List.length_cons]; omega
      rw [h1 _ fun p hp => lts_len _ p (List.mem_of_mem_take hp), List.length_take]
      omega
    · obtain ⟨k, hk, rfl⟩ := hstl x hx
      rw [place_len hk]; split <;> omega
    · obtain ⟨k, hk, rfl⟩ := hstl x hx
      exact place_start hk
    · rw [srt_get ns (by omega), List.getElem?_eq_getElem hn0, Option.getD_some, ← lts_take]
      congr 1
      exact (place_of (stL_le ns (List.getElem_mem _)) (wy_join _)).symm
  · exact thr_eq ns (θ := (wsF ns).length / 2 + 1) (by omega) (by omega) (by omega) fun c => decide_eq_decide.mpr (by omega)
  · exact thr_eq ns (θ := ((wsF ns).length + 1) / 2) (by omega) (by omega) (by omega) fun c => decide_eq_decide.mpr (by omega)
end Mine

open PySem PySem.W PyProof.Rows
set_option maxHeartbeats 8000000 in
theorem PySem.Challenge.cw_ik0200_01_holds : PySem.Challenge.rw_ik0200_01.Holds := by
  w_on
  o_law
  o_head (Hook.none)
  (case hw => w_witness2)
  intro w s₀ s₁ mg mb G Y fa o pm cd doc dV kV ho hd hcd hD hmg hg args vals as hpre hlay hrd hwl hlo
  have V := (Ground.X G).2
  refine Ground.open G ?_
  intro T B D TE TW
  try (refine guard_noD D (by decide +kernel) ?_; clear D)
  try (obtain ⟨_, _, he, B0⟩ := based_of_top T rfl hmg ho hd; have he' : cd = _ := he; subst he'; clear he)
  clear hmg
  wrow_args hpre hlay hrd hwl hlo
  all_goals (
    first | refine callC_kw (enter_call ?_) | refine enter_call ?_ | refine callC_kw (enter_callW ?_) | refine enter_callW ?_
    try refine codeAny_mono ?_ (fun _ _ g => GoodW.toG g))
  refine Mine.head_code T V (List.mem_singleton.mpr rfl) ?_ ?_ ho hd hcd hD (by assumption) (by assumption) (by omega) (Mine.stF _) (Mine.law_ok _) ?_
  · intro k hk
    simp only [Mine.lawNames, List.mem_cons, List.not_mem_nil, or_false] at hk
    rcases hk with rfl | rfl | rfl | rfl | rfl | rfl | rfl | rfl | rfl | rfl | rfl | rfl | rfl | rfl | rfl | rfl | rfl | rfl
    · exact List.mem_of_getElem? (i := 1) (by kernel_rfl)
    · exact List.mem_of_getElem? (i := 2) (by kernel_rfl)
    · exact List.mem_of_getElem? (i := 5) (by kernel_rfl)
    · exact List.mem_of_getElem? (i := 7) (by kernel_rfl)
    · exact List.mem_of_getElem? (i := 8) (by kernel_rfl)
    · exact List.mem_of_getElem? (i := 9) (by kernel_rfl)
    · exact List.mem_of_getElem? (i := 10) (by kernel_rfl)
    · exact List.mem_of_getElem? (i := 11) (by kernel_rfl)
    · exact List.mem_of_getElem? (i := 12) (by kernel_rfl)
    · exact List.mem_of_getElem? (i := 13) (by kernel_rfl)
    · exact List.mem_of_getElem? (i := 14) (by kernel_rfl)
    · exact List.mem_of_getElem? (i := 15) (by kernel_rfl)
    · exact List.mem_of_getElem? (i := 16) (by kernel_rfl)
    · exact List.mem_of_getElem? (i := 17) (by kernel_rfl)
    · exact List.mem_of_getElem? (i := 18) (by kernel_rfl)
    · exact List.mem_of_getElem? (i := 19) (by kernel_rfl)
    · exact List.mem_of_getElem? (i := 20) (by kernel_rfl)
    · exact List.mem_of_getElem? (i := 21) (by kernel_rfl)
  · decide +kernel
  · intro s' k
    refine ⟨.inl ⟨.bool true, .bool true, [], rfl, fun cls => by rfl, .bool true, ?_, fun _ => ⟨.nil, fun _ h => by cases h⟩⟩, Mine.kp_heap k, ?_, ?_⟩
    · wrow_post
    · obtain ⟨h', tk, rfl, _⟩ := k; rfl
    · obtain ⟨h', tk, rfl, _⟩ := k; exact hg
