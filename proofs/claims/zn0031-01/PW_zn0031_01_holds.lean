import PyProof.Rows.All
import Wide.All
import OpenK.AllK
import Wide.FinOn
import PySem.Challenge.RW_zn0031_01
set_option Elab.async false
set_option maxRecDepth 100000
set_option compiler.extract_closed false
set_option linter.unusedVariables false
set_option linter.unusedSimpArgs false
set_option linter.unnecessarySimpa false
/-! part ZnA -/
namespace Zn
open PySem PySem.W PySem.Calls PyProof.Rows PySem.Spec

/-! data, views -/
inductive D where
  | none
  | bool (b : Bool)
  | int (i : Int)
  | str (x : Str)
  | tup (ds : List D)
  | list (ds : List D)
  | dict (es : List (Int × D))
  | inst (d : D)
  | range (a b : Int)

noncomputable abbrev View := Addr → Option Obj
noncomputable def Inc (g : View) (h : Heap) : Prop := ∀ a o, g a = some o → h.get? a = some o
noncomputable def Sub (g g' : View) : Prop := ∀ a o, g a = some o → g' a = some o
noncomputable def Kp (h h' : Heap) : Prop := ∀ a o, h.get? a = some o → h'.get? a = some o
theorem Kp.rfl' {h : Heap} : Kp h h := fun _ _ e => e
theorem Kp.trans {h h' h'' : Heap} (a : Kp h h') (b : Kp h' h'') : Kp h h'' := fun x o e => b x o (a x o e)
theorem Sub.rfl' {g : View} : Sub g g := fun _ _ e => e
theorem Sub.trans {g g' g'' : View} (a : Sub g g') (b : Sub g' g'') : Sub g g'' := fun x o e => b x o (a x o e)
theorem Inc.keep {g : View} {h h' : Heap} (i : Inc g h) (k : Kp h h') : Inc g h' := fun a o e => k a o (i a o e)

noncomputable def IntDict (o : Obj) (kvs : List (Int × Value)) : Prop := ∃ prog w, o.IsDictOf (intKind prog w) kvs
theorem pairs_any {p p' : Program} {w w' : World} : ∀ {es : List DictEntry} {kvs : List (Int × Value)}, Pairs (intKind p w) es kvs → Pairs (intKind p' w') es kvs := by
  intro es kvs h
  induction h with
  | nil => exact .nil
  | cons a b r ih => exact .cons a b ih
theorem IntDict.at {o : Obj} {kvs : List (Int × Value)} (h : IntDict o kvs) (prog : Program) (w : World) : o.IsDictOf (intKind prog w) kvs := by
  obtain ⟨p, w', es, ep, a, b, c, d, e⟩ := h
  exact ⟨es, ep, a, b, c, pairs_any d, e⟩

mutual
inductive Rd (g : View) : Value → D → Prop
  | none : Rd g .none .none
  | bool (b : Bool) : Rd g (.bool b) (.bool b)
  | int (i : Int) (t : Tok) : Rd g (.int i t) (.int i)
  | str (x : Str) (t : Tok) : Rd g (.str x t) (.str x)
  | tup {a : Addr} {vs : List Value} {n : Nat} {ds : List D} : g a = some ⟨.type "tuple", Option.none, .seq vs.toArray n, #[]⟩ → RdAll g vs ds → Rd g (.ref a) (.tup ds)
  | list {a : Addr} {vs : List Value} {n : Nat} {ds : List D} : g a = some ⟨.type "list", Option.none, .seq vs.toArray n, #[]⟩ → RdAll g vs ds → Rd g (.ref a) (.list ds)
  | dict {a : Addr} {o : Obj} {kvs : List (Int × Value)} {ks : List (Int × D)} : g a = some o → (a == sysModules) = false → IntDict o kvs → RdKv g kvs ks → Rd g (.ref a) (.dict ks)
  | inst {a dx : Addr} {o od : Obj} {d : D} {v : Value} : g a = some o → o.cls = .ref 38 → (∀ c, o.data ≠ .cls c) → o.dict = some dx → dx ≠ a → g dx = some od →
      (∀ h : Heap, h.get? dx = some od → h.Ns1 dx fun y => if y = Str.ofString "comp_select_list" then some v else Option.none) → Rd g v d → Rd g (.ref a) (.inst d)
  | range {r : Addr} {a b : Int} {t u v : Tok} : g r = some ⟨.type "range", Option.none, .fields #[.int a t, .int b u, .int 1 v], #[]⟩ → Rd g (.ref r) (.range a b)
inductive RdAll (g : View) : List Value → List D → Prop
  | nil : RdAll g [] []
  | cons {v : Value} {vs : List Value} {d : D} {ds : List D} : Rd g v d → RdAll g vs ds → RdAll g (v :: vs) (d :: ds)
inductive RdKv (g : View) : List (Int × Value) → List (Int × D) → Prop
  | nil : RdKv g [] []
  | cons {k : Int} {v : Value} {d : D} {kvs : List (Int × Value)} {ks : List (Int × D)} : Rd g v d → RdKv g kvs ks → RdKv g ((k, v) :: kvs) ((k, d) :: ks)
end

mutual
theorem Rd.mono {g g' : View} (s : Sub g g') : ∀ {v : Value} {d : D}, Rd g v d → Rd g' v d
  | _, _, h => by
    cases h with
    | none => exact .none
    | bool b => exact .bool b
    | int i t => exact .int i t
    | str x t => exact .str x t
    | tup h r => exact .tup (s _ _ h) (RdAll.mono s r)
    | list h r => exact .list (s _ _ h) (RdAll.mono s r)
    | dict h n i r => exact .dict (s _ _ h) n i (RdKv.mono s r)
    | inst h c n e f h' k r => exact .inst (s _ _ h) c n e f (s _ _ h') k (Rd.mono s r)
    | range h => exact .range (s _ _ h)
theorem RdAll.mono {g g' : View} (s : Sub g g') : ∀ {vs : List Value} {ds : List D}, RdAll g vs ds → RdAll g' vs ds
  | _, _, h => by
    cases h with
    | nil => exact .nil
    | cons h r => exact .cons (Rd.mono s h) (RdAll.mono s r)
theorem RdKv.mono {g g' : View} (s : Sub g g') : ∀ {kvs : List (Int × Value)} {ks : List (Int × D)}, RdKv g kvs ks → RdKv g' kvs ks
  | _, _, h => by
    cases h with
    | nil => exact .nil
    | cons h r => exact .cons (Rd.mono s h) (RdKv.mono s r)
end
theorem RdAll.length {g : View} : ∀ {vs : List Value} {ds : List D}, RdAll g vs ds → vs.length = ds.length := by
  intro vs
  induction vs with
  | nil => intro ds h; cases h; rfl
  | cons x vs ih => intro ds h; cases h with | cons _ r => rw [List.length_cons, List.length_cons, ih r]
theorem RdAll.append {g : View} : ∀ {vs ws : List Value} {ds es : List D}, RdAll g vs ds → RdAll g ws es → RdAll g (vs ++ ws) (ds ++ es) := by
  intro vs
  induction vs with
  | nil => intro ws ds es w k; cases w; exact k
  | cons x vs ih => intro ws ds es w k; cases w with | cons h r => exact .cons h (ih r k)
theorem RdAll.get {g : View} : ∀ {vs : List Value} {ds : List D}, RdAll g vs ds → ∀ {i : Nat} {v : Value}, vs[i]? = some v → ∃ d, ds[i]? = some d ∧ Rd g v d := by
  intro vs
  induction vs with
  | nil => intro ds _ i v e; simp at e
  | cons x vs ih =>
    intro ds w i v e
    cases w with
    | cons h r =>
      cases i with
      | zero => simp at e; subst e; exact ⟨_, rfl, h⟩
      | succ i => simpa using ih r (by simpa using e)
theorem RdAll.get' {g : View} {vs : List Value} {ds : List D} (h : RdAll g vs ds) {i : Nat} {d : D} (e : ds[i]? = some d) : ∃ v, vs[i]? = some v ∧ Rd g v d := by
  have hi : i < vs.length := by rw [h.length]; exact (List.getElem?_eq_some_iff.mp e).1
  obtain ⟨d', e', r⟩ := h.get (List.getElem?_eq_getElem hi)
  rw [e] at e'; cases e'
  exact ⟨_, List.getElem?_eq_getElem hi, r⟩
theorem RdAll.take {g : View} : ∀ {vs : List Value} {ds : List D}, RdAll g vs ds → ∀ n, RdAll g (vs.take n) (ds.take n) := by
  intro vs
  induction vs with
  | nil => intro ds w n; cases w; simp; exact .nil
  | cons x vs ih =>
    intro ds w n
    cases w with
    | cons h r => cases n with
      | zero => exact .nil
      | succ n => exact .cons h (ih r n)
theorem RdAll.drop {g : View} : ∀ {vs : List Value} {ds : List D}, RdAll g vs ds → ∀ n, RdAll g (vs.drop n) (ds.drop n) := by
  intro vs
  induction vs with
  | nil => intro ds w n; cases w; simp; exact .nil
  | cons x vs ih =>
    intro ds w n
    cases w with
    | cons h r => cases n with
      | zero => exact .cons h r
      | succ n => exact ih r n

theorem Rd.int_inv {g : View} {v : Value} {i : Int} (h : Rd g v (.int i)) : ∃ t, v = .int i t := by cases h; exact ⟨_, rfl⟩
theorem Rd.str_inv {g : View} {v : Value} {x : Str} (h : Rd g v (.str x)) : ∃ t, v = .str x t := by cases h; exact ⟨_, rfl⟩
theorem Rd.bool_inv {g : View} {v : Value} {b : Bool} (h : Rd g v (.bool b)) : v = .bool b := by cases h; rfl
theorem Rd.none_inv {g : View} {v : Value} (h : Rd g v .none) : v = .none := by cases h; rfl
theorem Rd.list_inv {g : View} {v : Value} {ds : List D} (h : Rd g v (.list ds)) : ∃ a vs n, v = .ref a ∧ g a = some ⟨.type "list", Option.none, .seq (List.toArray vs) n, #[]⟩ ∧ RdAll g vs ds := by
  cases h with | list h r => exact ⟨_, _, _, rfl, h, r⟩
theorem Rd.tup_inv {g : View} {v : Value} {ds : List D} (h : Rd g v (.tup ds)) : ∃ a vs n, v = .ref a ∧ g a = some ⟨.type "tuple", Option.none, .seq (List.toArray vs) n, #[]⟩ ∧ RdAll g vs ds := by
  cases h with | tup h r => exact ⟨_, _, _, rfl, h, r⟩
theorem isList_of {g : View} {h : Heap} {a : Addr} {vs : List Value} {n : Nat} (i : Inc g h) (e : g a = some ⟨.type "list", Option.none, .seq vs.toArray n, #[]⟩) : h.IsList a vs.toArray := ⟨_, i _ _ e, rfl, n, rfl⟩
theorem isTup_of {g : View} {h : Heap} {a : Addr} {vs : List Value} {n : Nat} (i : Inc g h) (e : g a = some ⟨.type "tuple", Option.none, .seq vs.toArray n, #[]⟩) : IsTup h a vs.toArray := ⟨_, i _ _ e, rfl, n, rfl⟩
theorem plain_at {h h' : Heap} {a : Addr} {its : Array Value} (p : h.PlainList a its) (k : ∀ o, h.get? a = some o → h'.get? a = some o) : h'.PlainList a its := let ⟨n, e⟩ := p; ⟨n, k _ e⟩
/-! a step: the heap grows, the view grows by what is new -/
structure Stp (g : View) (s : Shared) (g' : View) (s' : Shared) : Prop where
  shape : ∃ h' tk', s' = { s with heap := h', toks := tk' }
  keep : Kp s.heap s'.heap
  sub : Sub g g'
  inc : Inc g' s'.heap
  fresh : ∀ a o, g' a = some o → g a = some o ∨ s.heap.get? a = none
theorem Stp.refl {g : View} {s : Shared} (i : Inc g s.heap) : Stp g s g s := ⟨⟨_, _, rfl⟩, Kp.rfl', Sub.rfl', i, fun _ _ e => .inl e⟩
theorem Stp.trans {g g' g'' : View} {s s' s'' : Shared} (a : Stp g s g' s') (b : Stp g' s' g'' s'') : Stp g s g'' s'' := by
  obtain ⟨h1, t1, e1⟩ := a.shape
  obtain ⟨h2, t2, e2⟩ := b.shape
  refine ⟨⟨h2, t2, by rw [e2, e1]⟩, a.keep.trans b.keep, a.sub.trans b.sub, b.inc, fun x o e => ?_⟩
  rcases b.fresh x o e with q | q
  · exact a.fresh x o q
  · cases r : s.heap.get? x with
    | none => exact .inr rfl
    | some o' => rw [a.keep _ _ r] at q; cases q
theorem Stp.tok {g g' : View} {s s' : Shared} (a : Stp g s g' s') (t : Nat) : Stp g s g' { s' with toks := t } := by
  obtain ⟨⟨h1, t1, e1⟩, b, c, d, e⟩ := a
  exact ⟨⟨h1, t, by rw [e1]⟩, b, c, d, e⟩
theorem Stp.step_tok {g : View} {s : Shared} (i : Inc g s.heap) (t : Nat) : Stp g s g { s with toks := t } := (Stp.refl i).tok t

noncomputable def put (g : View) (a : Addr) (o : Obj) : View := fun b => if b = a then some o else g b
theorem put_self {g : View} {a : Addr} {o : Obj} : put g a o a = some o := by simp [put]
theorem Inc.lt {g : View} {h : Heap} (i : Inc g h) {a : Addr} {o : Obj} (e : g a = some o) : a < h.objs.size := Heap.lt_size (i _ _ e)
theorem none_size {h : Heap} : h.get? h.objs.size = none := by
  cases e : h.get? h.objs.size with
  | none => rfl
  | some o => exact absurd (Heap.lt_size e) (Nat.lt_irrefl _)
theorem sub_put {g : View} {h : Heap} (i : Inc g h) {a : Addr} {o : Obj} (n : h.get? a = none) : Sub g (put g a o) := fun b o' e => by
  by_cases q : b = a
  · subst q; rw [i _ _ e] at n; cases n
  · simp [put, q, e]
/-- a new frozen object -/
theorem Stp.push {g : View} {s : Shared} (i : Inc g s.heap) (o : Obj) (hf : o.isFreed = false := by rfl) : Stp g s (put g s.heap.objs.size o) { s with heap := s.heap.push o } := by
  refine ⟨⟨_, _, rfl⟩, fun b o' e => Heap.get?_push_of_some _ e, sub_put i none_size, fun b o' e => ?_, fun b o' e => ?_⟩
  · by_cases q : b = s.heap.objs.size
    · subst q; rw [put_self] at e; cases e; exact Heap.get?_push_size _ hf
    · simp [put, q] at e; exact Heap.get?_push_of_some _ (i _ _ e)
  · by_cases q : b = s.heap.objs.size
    · subst q; exact .inr none_size
    · simp [put, q] at e; exact .inl e
/-- a new object that stays out of the view -/
theorem Stp.pushOut {g : View} {s : Shared} (i : Inc g s.heap) (o : Obj) : Stp g s g { s with heap := s.heap.push o } :=
  ⟨⟨_, _, rfl⟩, fun _ _ e => Heap.get?_push_of_some _ e, Sub.rfl', i.keep fun _ _ e => Heap.get?_push_of_some _ e, fun _ _ e => .inl e⟩

/-! the context -/
structure Cx where
  prog : Program
  w : World
  hB : Heap
  mg : Str → Option Value
  mb : Str → Option Value
structure Cx.Ok (C : Cx) : Prop where
  g : C.hB.Ns mainGlobals C.mg
  b : C.hB.Ns builtinsNs C.mb
  nolimit : C.hB.NoLimit
  mods : C.hB.get? sysModules ≠ none
  builtins : ∀ x : Str, x ≠ "__name__" → C.mb x = bootBuiltins x
noncomputable abbrev Cx.M (C : Cx) : Model := model C.prog C.w

structure Rm (A : Around) (n : Nat) : Prop where
  hd : A.handled = none
  dep : A.depth + n < 1000
  un : A.units + 8 * n < 9900
theorem Rm.le {A : Around} {n k : Nat} (r : Rm A n) (h : k ≤ n) : Rm A k := ⟨r.hd, by have := r.dep; lia, by have := r.un; lia⟩
theorem Rm.deeper {A : Around} {n : Nat} (r : Rm A (n + 1)) (env : Env) : Rm (A.deeper env) n := ⟨r.hd, by have := r.dep; show A.depth + 1 + n < 1000; lia, by have := r.un; show A.units + 3 + 8 * n < 9900; lia⟩

structure EnvOk (env : Env) : Prop where
  kind : env.scope.kind = .function
  globals : env.globals = mainGlobals
  builtins : env.builtins = builtinsNs

/-- the value of a name -/
noncomputable def VarIs (env : Env) (h : Heap) (x : Str) (v : Value) : Prop := match env.kindOf x with
  | some .local => ∃ m, h.Ns env.locals m ∧ m x = some v
  | some .cell | some .free => ∃ c, env.cells.lookup x = some c ∧ h.IsCell c (some v)
  | _ => False
theorem VarIs.keep {env : Env} {h h' : Heap} {x : Str} {v : Value} (i : VarIs env h x v) (k : Kp h h') : VarIs env h' x v := by
  unfold VarIs at i ⊢
  split at i
  · obtain ⟨m, a, b⟩ := i; exact ⟨m, a.keeps k, b⟩
  · obtain ⟨m, a, b⟩ := i; exact ⟨m, a, b.keeps k⟩
  · obtain ⟨m, a, b⟩ := i; exact ⟨m, a, b.keeps k⟩
  · exact i

noncomputable abbrev Sig := List (Str × D)
noncomputable def Sees (env : Env) (h : Heap) (g : View) (σ : Sig) : Prop := ∀ x d, σ.lookup x = some d → ∃ v, VarIs env h x v ∧ Rd g v d
theorem Sees.step {env : Env} {s s' : Shared} {g g' : View} {σ : Sig} (i : Sees env s.heap g σ) (k : Stp g s g' s') : Sees env s'.heap g' σ := fun x d e =>
  let ⟨v, a, b⟩ := i x d e; ⟨v, a.keep k.keep, b.mono k.sub⟩

noncomputable abbrev No : Value → Shared → Prop := fun _ _ => False
/-- what holds before an expression -/
structure Pre (C : Cx) (env : Env) (σ : Sig) (g : View) (s : Shared) : Prop where
  base : Kp C.hB s.heap
  inc : Inc g s.heap
  sees : Sees env s.heap g σ
theorem Pre.step {C : Cx} {env : Env} {σ : Sig} {g g' : View} {s s' : Shared} (p : Pre C env σ g s) (k : Stp g s g' s') : Pre C env σ g' s' := ⟨p.base.trans k.keep, k.inc, p.sees.step k⟩

/-- a tree that ends with a datum, growing alone -/
noncomputable def Gives (C : Cx) (A : Around) (g : View) (s : Shared) (t : Sem Value) (d : D) : Prop :=
  wpAny C.M A t (fun v s' => ∃ g', Stp g s g' s' ∧ Rd g' v d) No s
structure Ev (C : Cx) (A : Around) (env : Env) (σ : Sig) (e : Expr) (d : D) : Prop where
  of ::
  run : ∀ g s, Pre C env σ g s → Gives C A g s (eval e env) d
/-- a test -/
structure Ts (C : Cx) (A : Around) (env : Env) (σ : Sig) (e : Expr) (b : Bool) : Prop where
  of ::
  run : ∀ g s, Pre C env σ g s → wpAny C.M A (PySem.isTrue e env (eval e env)) (fun c s' => c = b ∧ ∃ g', Stp g s g' s') No s
theorem no_imp {E : Value → Shared → Prop} : ∀ e s, No e s → E e s := fun _ _ x => x.elim

theorem Gives.mono {C : Cx} {A : Around} {g : View} {s : Shared} {t : Sem Value} {d : D} {Q : Value → Shared → Prop} {E : Value → Shared → Prop} (h : Gives C A g s t d)
    (k : ∀ v s' g', Stp g s g' s' → Rd g' v d → Q v s') : wpAny C.M A t Q E s :=
  wpAny_mono h (fun v s' ⟨g', a, b⟩ => k v s' g' a b) no_imp
theorem Gives.after {C : Cx} {A : Around} {g g' : View} {s s' : Shared} {t : Sem Value} {d : D} (k : Stp g s g' s') (h : Gives C A g' s' t d) : wpAny C.M A t (fun v s'' => ∃ g'', Stp g s g'' s'' ∧ Rd g'' v d) No s' :=
  h.mono fun _ _ g'' a b => ⟨g'', k.trans a, b⟩
/-- one expression after another -/
theorem Ev.then {C : Cx} {A : Around} {env : Env} {σ : Sig} {e : Expr} {d : D} (h : Ev C A env σ e d) {g : View} {s : Shared} (p : Pre C env σ g s) {Q : Value → Shared → Prop} {E : Value → Shared → Prop}
    (k : ∀ v s' g', Stp g s g' s' → Pre C env σ g' s' → Rd g' v d → Q v s') : wpAny C.M A (eval e env) Q E s :=
  (h.run g s p).mono fun v s' g' a b => k v s' g' a (p.step a) b
theorem Ts.then {C : Cx} {A : Around} {env : Env} {σ : Sig} {e : Expr} {b : Bool} (h : Ts C A env σ e b) {g : View} {s : Shared} (p : Pre C env σ g s) {Q : Bool → Shared → Prop} {E : Value → Shared → Prop}
    (k : ∀ s' g', Stp g s g' s' → Pre C env σ g' s' → Q b s') : wpAny C.M A (PySem.isTrue e env (eval e env)) Q E s :=
  wpAny_mono (h.run g s p) (fun c s' ⟨e, g', a⟩ => by subst e; exact k s' g' a (p.step a)) no_imp

section
variable {C : Cx} {A : Around} {env : Env} {σ : Sig}

theorem ev_int {i : Int} {k : Nat} {pos : Pos} : Ev C A env σ (.Constant (.int i) k pos) (.int i) := .of fun g s p =>
  show wpAny _ _ (mkInt i) _ _ _ from wpAny_mkInt ⟨g, Stp.step_tok p.inc _, .int _ _⟩
theorem ev_str {x : Str} {k : Nat} {pos : Pos} : Ev C A env σ (.Constant (.str x) k pos) (.str x) := .of fun g s p =>
  show wpAny _ _ (mkText x) _ _ _ from wpAny_mkText ⟨g, Stp.step_tok p.inc _, .str _ _⟩
theorem ev_none {k : Nat} {pos : Pos} : Ev C A env σ (.Constant .none k pos) .none := .of fun g s p =>
  show wpAny _ _ (pure Value.none) _ _ _ from wpAny_pure ⟨g, Stp.refl p.inc, .none⟩
theorem load_var {env : Env} {M : Model} {E : Value → Shared → Prop} {s : Shared} {x : Str} {v : Value} {Q : Value → Shared → Prop} (hk : env.scope.kind = .function) (hv : VarIs env s.heap x v) (hc : (x == ("__classdict__" : Str)) = false) (h : Q v s) :
    wpAny M A (loadName env x) Q E s := by
  unfold VarIs at hv
  split at hv
  · rename_i e; obtain ⟨m, a, b⟩ := hv; exact wpAny_loadName_local hk e a b h
  · rename_i e; obtain ⟨c, a, b⟩ := hv; exact wpAny_loadName_cell hk e a b h
  · rename_i e; obtain ⟨c, a, b⟩ := hv; exact wpAny_loadName_free hk e a b h hc
  · exact hv.elim
theorem ev_name {x : Str} {pos : Pos} {d : D} (he : EnvOk env) (h : σ.lookup x = some d) (hd : (x == ("__debug__" : Str)) = false := by decide) (hc : (x == ("__classdict__" : Str)) = false := by decide) :
    Ev C A env σ (.Name x pos) d := .of fun g s p => by
  obtain ⟨v, a, b⟩ := p.sees x d h
  exact wpAny_Name (load_var he.kind a hc ⟨g, Stp.refl p.inc, b⟩) hd
end

end Zn
/-! part ZnB -/
namespace Zn
open PySem PySem.W PySem.Calls PyProof.Rows PySem.Spec

/-- an operation on data -/
noncomputable def Bin (op : Operator) (a b d : D) : Prop := ∀ (C : Cx) (A : Around) (g : View) (s : Shared) (v u : Value), Rm A 0 → Kp C.hB s.heap → Inc g s.heap → Rd g v a → Rd g u b → Gives C A g s (binaryOp op v u) d
noncomputable def Cmp (op : CmpOp) (a b : D) (r : Bool) : Prop := ∀ (C : Cx) (A : Around) (g : View) (s : Shared) (v u : Value), Rm A 0 → C.Ok → Kp C.hB s.heap → Inc g s.heap → Rd g v a → Rd g u b → Gives C A g s (compareOp op v u) (.bool r)
noncomputable def Tru (d : D) (r : Bool) : Prop := ∀ (C : Cx) (A : Around) (g : View) (s : Shared) (v : Value) (E : Value → Shared → Prop) (Q : Bool → Shared → Prop), Rm A 0 → Inc g s.heap → Rd g v d → (∀ s' g', Stp g s g' s' → Q r s') → wpAny C.M A (truthy v) Q E s

section
variable {C : Cx} {A : Around} {env : Env} {σ : Sig}
theorem ev_bin {l r : Expr} {op : Operator} {pos : Pos} {a b d : D} (hr : Rm A 0) (h1 : Ev C A env σ l a) (h2 : Ev C A env σ r b) (h : Bin op a b d) : Ev C A env σ (.BinOp l op r pos) d := .of fun g s p =>
  wpAny_BinOp (h1.then p fun v s1 g1 k1 p1 r1 => h2.then p1 fun u s2 g2 k2 p2 r2 => (h C A g2 s2 v u hr p2.base p2.inc (r1.mono k2.sub) r2).after (k1.trans k2))
theorem ev_cmp {l r : Expr} {op : CmpOp} {pos : Pos} {a b : D} {c : Bool} (hC : C.Ok) (hr : Rm A 0) (h1 : Ev C A env σ l a) (h2 : Ev C A env σ r b) (h : Cmp op a b c) (hm : behindInMarks op r = false := by rfl) : Ev C A env σ (.Compare l [op] [r] pos) (.bool c) := .of fun g s p =>
  wpAny_Compare1 (h1.then p fun v s1 g1 k1 p1 r1 => h2.then p1 fun u s2 g2 k2 p2 r2 => (h C A g2 s2 v u hr hC p2.base p2.inc (r1.mono k2.sub) r2).after (k1.trans k2)) hm
theorem ts_cmp {l r : Expr} {op : CmpOp} {pos : Pos} {a b : D} {c : Bool} (hC : C.Ok) (hr : Rm A 0) (h1 : Ev C A env σ l a) (h2 : Ev C A env σ r b) (h : Cmp op a b c) (hm : behindInMarks op r = false := by rfl) : Ts C A env σ (.Compare l [op] [r] pos) c := .of fun g s p =>
  wpAny_isTrue_Compare1 (h1.then p fun v s1 g1 k1 p1 r1 => h2.then p1 fun u s2 g2 k2 p2 r2 => (h C A g2 s2 v u hr hC p2.base p2.inc (r1.mono k2.sub) r2).mono fun w s3 g3 k3 r3 => by
    obtain rfl := r3.bool_inv
    exact wpAny_truthy_bool ⟨rfl, g3, (k1.trans k2).trans k3⟩) hm
theorem ts_not {x : Expr} {pos : Pos} {c : Bool} (h : Ts C A env σ x c) : Ts C A env σ (.UnaryOp .Not x pos) (!c) := .of fun g s p =>
  isTrue_not (wpAny_mono (h.run g s p) (fun b s' ⟨e, k⟩ => ⟨by rw [e], k⟩) no_imp)
theorem ts_and {x y : Expr} {pos : Pos} {b c : Bool} (h1 : Ts C A env σ x b) (h2 : b = true → Ts C A env σ y c) : Ts C A env σ (.BoolOp .And [x, y] pos) (b && c) := .of fun g s p =>
  isTrue_and (h1.then p fun s1 g1 k1 p1 => by
    cases b with
    | false => exact ⟨rfl, g1, k1⟩
    | true => exact isTrue_and ((h2 rfl).then p1 fun s2 g2 k2 p2 => by
        cases c with
        | false => exact ⟨rfl, g2, k1.trans k2⟩
        | true => exact isTrue_and_nil ⟨rfl, g2, k1.trans k2⟩))
/-- a test of a plain expression: its truth -/
theorem ts_plain {e : Expr} {d : D} {c : Bool} (hr : Rm A 0) (h : Ev C A env σ e d) (ht : Tru d c)
    (hp : ∀ whole : Sem Value, PySem.isTrue e env whole = (do let v ← whole; standAt e.pos; holding [v] (truthy v)) := by intro _; rfl) : Ts C A env σ e c := .of fun g s p =>
  isTrue_plain (h.then p fun v s1 g1 k1 p1 r1 => ht C A g1 s1 v _ _ hr p1.inc r1 fun s2 g2 k2 => ⟨rfl, g2, k1.trans k2⟩) (hp _)
theorem ev_if {t x y : Expr} {pos : Pos} {c : Bool} {d : D} (h : Ts C A env σ t c) (h1 : c = true → Ev C A env σ x d) (h2 : c = false → Ev C A env σ y d) : Ev C A env σ (.IfExp t x y pos) d := .of fun g s p =>
  wpAny_IfExp (h.then p fun s1 g1 k1 p1 => by
    cases c with
    | true => exact ((h1 rfl).run g1 s1 p1).after k1
    | false => exact ((h2 rfl).run g1 s1 p1).after k1)
end

theorem gives_int {C : Cx} {A : Around} {g : View} {s : Shared} {t : Sem Value} {i : Int} (inc : Inc g s.heap)
    (h : ∀ Q : Value → Shared → Prop, Q (.int i s.toks) { s with toks := s.toks + 1 } → wpAny C.M A t Q No s) : Gives C A g s t (.int i) := h _ ⟨g, Stp.step_tok inc _, .int _ _⟩
theorem gives_bool {C : Cx} {A : Around} {g : View} {s : Shared} {t : Sem Value} {b : Bool} (inc : Inc g s.heap)
    (h : ∀ Q : Value → Shared → Prop, Q (.bool b) s → wpAny C.M A t Q No s) : Gives C A g s t (.bool b) := h _ ⟨g, Stp.refl inc, .bool _⟩

theorem bin_add {a b : Int} : Bin .Add (.int a) (.int b) (.int (a + b)) := fun C A g s v u hr _ inc x y => by
  obtain ⟨t, rfl⟩ := x.int_inv; obtain ⟨t', rfl⟩ := y.int_inv
  exact gives_int inc fun _ h => add_int h
theorem bin_sub {a b : Int} : Bin .Sub (.int a) (.int b) (.int (a - b)) := fun C A g s v u hr _ inc x y => by
  obtain ⟨t, rfl⟩ := x.int_inv; obtain ⟨t', rfl⟩ := y.int_inv
  exact gives_int inc fun _ h => sub_int h
theorem bin_mul {a b : Int} (hm : IntMulOk a b) : Bin .Mult (.int a) (.int b) (.int (a * b)) := fun C A g s v u hr _ inc x y => by
  obtain ⟨t, rfl⟩ := x.int_inv; obtain ⟨t', rfl⟩ := y.int_inv
  exact gives_int inc fun _ h => mul_int h hm
theorem bin_mod {a b : Int} (hb : b ≠ 0) : Bin .Mod (.int a) (.int b) (.int (a.fmod b)) := fun C A g s v u hr _ inc x y => by
  obtain ⟨t, rfl⟩ := x.int_inv; obtain ⟨t', rfl⟩ := y.int_inv
  exact gives_int inc fun _ h => mod_int' hb h
theorem bin_div {a b : Int} (hb : b ≠ 0) (hp : Builtin.divisionGoesByPylong a b = false) : Bin .FloorDiv (.int a) (.int b) (.int (a.fdiv b)) := fun C A g s v u hr _ inc x y => by
  obtain ⟨t, rfl⟩ := x.int_inv; obtain ⟨t', rfl⟩ := y.int_inv
  exact gives_int inc fun _ h => floordiv_int hb h (.inl hp)
theorem bin_pow {a n : Int} (h0 : 0 ≤ n) (h1 : n ≤ 1000000) (h2 : a.natAbs < 2 ^ 64) : Bin .Pow (.int a) (.int n) (.int (a ^ n.toNat)) := fun C A g s v u hr _ inc x y => by
  obtain ⟨t, rfl⟩ := x.int_inv; obtain ⟨t', rfl⟩ := y.int_inv
  exact gives_int inc fun _ h => pow_int_small h0 h1 h2 h
theorem bin_shl {a n : Int} (h0 : 0 ≤ n) (h1 : n ≤ 1000000) (h2 : a.natAbs < 2 ^ 64) : Bin .LShift (.int a) (.int n) (.int (a * 2 ^ n.toNat)) := fun C A g s v u hr _ inc x y => by
  obtain ⟨t, rfl⟩ := x.int_inv; obtain ⟨t', rfl⟩ := y.int_inv
  exact gives_int inc fun _ h => lshift_int_small h0 h1 h2 h
theorem bin_xor {a b : Int} : Bin .BitXor (.int a) (.int b) (.int (Builtin.bitXor a b)) := fun C A g s v u hr _ inc x y => by
  obtain ⟨t, rfl⟩ := x.int_inv; obtain ⟨t', rfl⟩ := y.int_inv
  exact gives_int inc fun _ h => xor_int h
theorem bin_and {a b : Int} : Bin .BitAnd (.int a) (.int b) (.int (Builtin.bitAnd a b)) := fun C A g s v u hr _ inc x y => by
  obtain ⟨t, rfl⟩ := x.int_inv; obtain ⟨t', rfl⟩ := y.int_inv
  exact gives_int inc fun _ h => and_int h
theorem bin_cat {x y : Str} (hs : x.length + y.length ≤ sizeLine) : Bin .Add (.str x) (.str y) (.str (x ++ y)) := fun C A g s v u hr _ inc a b => by
  obtain ⟨t, rfl⟩ := a.str_inv; obtain ⟨t', rfl⟩ := b.str_inv
  exact PyProof.Rows.add_str (fun _ _ => ⟨g, Stp.step_tok inc _, .str _ _⟩) hs
theorem bin_rep {x : Str} {n : Int} (hm : MulOk x n) : Bin .Mult (.str x) (.int n) (.str (Txt.mul x n)) := fun C A g s v u hr _ inc a b => by
  obtain ⟨t, rfl⟩ := a.str_inv; obtain ⟨t', rfl⟩ := b.int_inv
  exact SB.mul hm fun _ _ => ⟨g, Stp.step_tok inc _, .str _ _⟩

theorem cmp_lt {a b : Int} : Cmp .Lt (.int a) (.int b) (decide (a < b)) := fun C A g s v u hr _ _ inc x y => by
  obtain ⟨t, rfl⟩ := x.int_inv; obtain ⟨t', rfl⟩ := y.int_inv
  exact gives_bool inc fun _ h => lt_int h
theorem cmp_gt {a b : Int} : Cmp .Gt (.int a) (.int b) (decide (a > b)) := fun C A g s v u hr _ _ inc x y => by
  obtain ⟨t, rfl⟩ := x.int_inv; obtain ⟨t', rfl⟩ := y.int_inv
  exact gives_bool inc fun _ h => gt_int h
theorem cmp_eq {a b : Int} : Cmp .Eq (.int a) (.int b) (a == b) := fun C A g s v u hr _ _ inc x y => by
  obtain ⟨t, rfl⟩ := x.int_inv; obtain ⟨t', rfl⟩ := y.int_inv
  exact gives_bool inc fun _ h => eq_int h
theorem cmp_ne {a b : Int} : Cmp .NotEq (.int a) (.int b) (a != b) := fun C A g s v u hr _ _ inc x y => by
  obtain ⟨t, rfl⟩ := x.int_inv; obtain ⟨t', rfl⟩ := y.int_inv
  exact gives_bool inc fun _ h => ne_int h
theorem cmp_eqS {x y : Str} : Cmp .Eq (.str x) (.str y) (x == y) := fun C A g s v u hr _ _ inc a b => by
  obtain ⟨t, rfl⟩ := a.str_inv; obtain ⟨t', rfl⟩ := b.str_inv
  exact gives_bool inc fun _ h => eq_str h
theorem cmp_ltS {x y : Str} : Cmp .Lt (.str x) (.str y) (decide (x.cps.toList < y.cps.toList)) := fun C A g s v u hr _ _ inc a b => by
  obtain ⟨t, rfl⟩ := a.str_inv; obtain ⟨t', rfl⟩ := b.str_inv
  exact gives_bool inc fun _ h => lt_str h

theorem tru_bool {b : Bool} : Tru (.bool b) b := fun C A g s v E Q hr inc x k => by
  obtain rfl := x.bool_inv
  exact wpAny_truthy_bool (k s g (Stp.refl inc))
end Zn
/-! part ZnC -/
namespace Zn
open PySem PySem.W PySem.Calls PyProof.Rows PySem.Spec

structure EvL (C : Cx) (A : Around) (env : Env) (σ : Sig) (es : List Expr) (ds : List D) : Prop where
  of ::
  run : ∀ pos g s, Pre C env σ g s → wpAny C.M A (spliced (backTo pos (starEach es env))) (fun vs s' => ∃ g', Stp g s g' s' ∧ RdAll g' vs ds) No s
section
variable {C : Cx} {A : Around} {env : Env} {σ : Sig}
theorem evl_nil : EvL C A env σ [] [] := .of fun pos g s p => wpAny_pure ⟨g, Stp.refl p.inc, .nil⟩
theorem evl_cons {e : Expr} {es : List Expr} {d : D} {ds : List D} (h : Ev C A env σ e d) (hs : EvL C A env σ es ds)
    (he : starEach (e :: es) env = (false, eval e env) :: starEach es env := by rfl) : EvL C A env σ (e :: es) (d :: ds) := .of fun pos g s p => by
  rw [he]
  show wpAny _ _ (spliced ((false, eval e env) :: backTo pos (starEach es env))) _ _ s
  unfold spliced
  refine wpAny_bind (h.then p fun v s1 g1 k1 p1 r1 => ?_)
  simp only [Bool.false_eq_true, if_false]
  refine wpAny_bind (wpAny_pure (wpAny_bind (wpAny_holding (wpAny_mono (hs.run pos g1 s1 p1) (fun vs s2 hh => ?_) no_imp))))
  obtain ⟨g2, k2, r2⟩ := hh
  exact wpAny_pure ⟨g2, k1.trans k2, .cons (r1.mono k2.sub) r2⟩

theorem gives_obj {T : String} {data : Data} {g : View} {s : Shared} {d : D} (i : Inc g s.heap) (hs : sizeOk data) (hf : (({ cls := .type T, data := data } : Obj)).isFreed = false)
    (h : ∀ g', g' s.heap.objs.size = some ({ cls := .type T, data := data } : Obj) → Sub g g' → Rd g' (.ref s.heap.objs.size) d) : Gives C A g s (newObj (.type T) data) d :=
  wpAny_newObj_type ⟨_, Stp.push i _ hf, h _ put_self (sub_put i none_size)⟩ hs
theorem gives_list {vs : List Value} {ds : List D} {g : View} {s : Shared} (i : Inc g s.heap) (r : RdAll g vs ds) (hs : vs.length ≤ sizeLine) : Gives C A g s (newList vs) (.list ds) :=
  gives_obj (T := "list") (data := .seq vs.toArray) i (by show vs.toArray.size ≤ sizeLine; simpa using hs) rfl fun g' e sb => .list (n := 0) e (r.mono sb)
theorem gives_tuple {vs : List Value} {ds : List D} {g : View} {s : Shared} (i : Inc g s.heap) (r : RdAll g vs ds) (hs : vs.length ≤ sizeLine) : Gives C A g s (newTuple vs) (.tup ds) :=
  gives_obj (T := "tuple") (data := .seq vs.toArray) i (by show vs.toArray.size ≤ sizeLine; simpa using hs) rfl fun g' e sb => .tup (n := 0) e (r.mono sb)
theorem small_size {n : Nat} (h : n ≤ 1000) : n ≤ sizeLine := Nat.le_trans h (by decide)
theorem ev_list {es : List Expr} {ds : List D} {pos : Pos} (h : EvL C A env σ es ds) (hs : ds.length ≤ 1000 := by simp) : Ev C A env σ (.List es pos) (.list ds) := .of fun g s p =>
  List_ (wpAny_mono (h.run pos g s p) (fun vs s1 ⟨g1, k1, r1⟩ => (gives_list k1.inc r1 (small_size (by rw [r1.length]; exact hs))).after k1) no_imp)
theorem ev_tuple {es : List Expr} {ds : List D} {k : Nat} {pos : Pos} (h : EvL C A env σ es ds) (hs : ds.length ≤ 1000 := by simp) : Ev C A env σ (.Tuple es k pos) (.tup ds) := .of fun g s p =>
  Tuple_ (wpAny_mono (h.run pos g s p) (fun vs s1 ⟨g1, k1, r1⟩ => (gives_tuple k1.inc r1 (small_size (by rw [r1.length]; exact hs))).after k1) no_imp)
end

/-! frames -/
structure Fx (env : Env) (cs : List (Str × Addr)) (vm : Str → Option Value) (h : Heap) : Prop where
  ns : ∃ m, h.Ns env.locals m ∧ ∀ x v, env.kindOf x = some .local → vm x = some v → m x = some v
  cell : ∀ x c, (x, c) ∈ cs → env.kindOf x = some .cell ∧ env.cells.lookup x = some c ∧ ∃ v0, h.IsCell c v0 ∧ ∀ v, vm x = some v → v0 = some v
  apart : cs.Pairwise fun x y => x.2 ≠ y.2
  ne : ∀ x c, (x, c) ∈ cs → c ≠ env.locals
/-- the frame's own places -/
noncomputable def Ft (env : Env) (cs : List (Str × Addr)) (a : Addr) : Prop := a = env.locals ∨ ∃ x, (x, a) ∈ cs
noncomputable def upd (vm : Str → Option Value) (x : Str) (v : Value) : Str → Option Value := fun y => if y = x then some v else vm y
/-- a name that the frame may store -/
noncomputable def Own (env : Env) (cs : List (Str × Addr)) (x : Str) : Prop := env.kindOf x = some .local ∨ (env.kindOf x = some .cell ∧ (cs.lookup x).isSome = true)
theorem Fx.keepBut {env : Env} {cs : List (Str × Addr)} {vm : Str → Option Value} {h h' : Heap} (f : Fx env cs vm h) (k : ∀ a o, Ft env cs a → h.get? a = some o → h'.get? a = some o) : Fx env cs vm h' := by
  refine ⟨let ⟨m, a, b⟩ := f.ns; ⟨m, a.at' fun o e => k _ o (.inl rfl) e, b⟩, fun x c e => ?_, f.apart, f.ne⟩
  obtain ⟨q, a, v0, ⟨o, b1, b2⟩, d⟩ := f.cell x c e
  exact ⟨q, a, v0, ⟨o, k c o (.inr ⟨x, e⟩) b1, b2⟩, d⟩
theorem Fx.keep {env : Env} {cs : List (Str × Addr)} {vm : Str → Option Value} {h h' : Heap} (f : Fx env cs vm h) (k : Kp h h') : Fx env cs vm h' := f.keepBut fun a o _ e => k a o e

theorem Fx.var {env : Env} {cs : List (Str × Addr)} {vm : Str → Option Value} {h : Heap} (f : Fx env cs vm h) {x : Str} {v : Value} (ho : Own env cs x) (e : vm x = some v) : VarIs env h x v := by
  rcases ho with hl | ⟨hl, hc⟩
  · unfold VarIs; rw [hl]
    obtain ⟨m, a, b⟩ := f.ns
    exact ⟨m, a, b x v hl e⟩
  · unfold VarIs; rw [hl]
    obtain ⟨c, hc⟩ := Option.isSome_iff_exists.mp hc
    obtain ⟨_, a, v0, b, d⟩ := f.cell x c (mem_of_lookup hc)
    exact ⟨c, a, d v e ▸ b⟩

theorem Fx.store {M : Model} {A : Around} {E : Value → Shared → Prop} {env : Env} {cs : List (Str × Addr)} {vm : Str → Option Value} {s : Shared} (f : Fx env cs vm s.heap) (hk : env.scope.kind = .function) {x : Str} {v : Value} (ho : Own env cs x) {Q : Unit → Shared → Prop}
    (h : ∀ h' tk', Fx env cs (upd vm x v) h' → (∀ a, ¬ Ft env cs a → h'.get? a = s.heap.get? a) → h'.objs.size = s.heap.objs.size → Q () { s with heap := h', toks := tk' }) : wpAny M A (storeName env x v) Q E s := by
  rcases ho with hl | ⟨hl, hc⟩
  · obtain ⟨m, a, b⟩ := f.ns
    refine wpAny_storeName_local hl a (fun h' hn hs => ?_) (by rw [hk]; rfl)
    refine h h' _ ⟨⟨_, hn, fun y u hy hu => ?_⟩, fun y c e => ?_, f.apart, f.ne⟩ (fun a ha => hs.2 a fun q => ha (.inl q)) hs.1
    · by_cases q : y = x
      · subst q; simp [upd] at hu; simp [hu]
      · simp [upd, q] at hu; simpa [q] using b y u hy hu
    · obtain ⟨e0, e1, v0, e2, e3⟩ := f.cell y c e
      refine ⟨e0, e1, v0, e2.sameBut hs (f.ne y c e), fun u hu => ?_⟩
      have q : y ≠ x := by rintro rfl; rw [e0] at hl; cases hl
      simp [upd, q] at hu; exact e3 u hu
  · obtain ⟨c, hc⟩ := Option.isSome_iff_exists.mp hc
    obtain ⟨_, e1, v0, e2, e3⟩ := f.cell x c (mem_of_lookup hc)
    refine wpAny_storeName_cell hk hl e1 e2 fun h' hcell hs => ?_
    have hm := mem_of_lookup hc
    refine h h' _ ⟨?_, fun y c' e => ?_, f.apart, f.ne⟩ (fun a ha => hs.2 a fun q => ha (.inr ⟨x, q ▸ hm⟩)) hs.1
    · obtain ⟨m, a, b⟩ := f.ns
      refine ⟨m, a.sameBut hs (Ne.symm (f.ne x c hm)), fun y u hy hu => ?_⟩
      have q : y ≠ x := by rintro rfl; rw [hl] at hy; cases hy
      simp [upd, q] at hu; exact b y u hy hu
    · obtain ⟨d0, d1, u0, d2, d3⟩ := f.cell y c' e
      by_cases q : y = x
      · subst q
        rw [d1] at e1; cases e1
        refine ⟨d0, d1, _, hcell, fun u hu => ?_⟩
        simp [upd] at hu; rw [hu]
      · refine ⟨d0, d1, u0, d2.sameBut hs fun z => q (name_of_addr f.apart e (z ▸ hm)), fun u hu => ?_⟩
        simp [upd, q] at hu; exact d3 u hu
theorem Fx.has {env : Env} {cs : List (Str × Addr)} {vm : Str → Option Value} {h : Heap} (f : Fx env cs vm h) {a : Addr} (k : Ft env cs a) : h.get? a ≠ none := by
  rcases k with rfl | ⟨x, m⟩
  · obtain ⟨_, ⟨o, _, _, e, _⟩, _⟩ := f.ns; rw [e]; simp
  · obtain ⟨_, _, _, ⟨o, e, _⟩, _⟩ := f.cell x a m; rw [e]; simp
end Zn
/-! part ZnD -/
namespace Zn
open PySem PySem.W PySem.Calls PyProof.Rows PySem.Spec

/-! iteration -/
noncomputable def owners : List String := ["enumerate", "zip", "dict_itemiterator", "dict_reverseitemiterator", "odict_iterator", "itertools.zip_longest", "itertools.pairwise"]
theorem go_cls {M : Model} {A : Around} {E : Value → Shared → Prop} {s : Shared} {tgt : Expr} {I : Addr} {v : Value} {o : Obj} {T : String} {Q : Unit → Shared → Prop} (ho : s.heap.get? I = some o) (hc : o.cls = .type T) (hT : owners.contains T = false) (h : Q () s) :
    wpAny M A (letOwnedTupleGo tgt (.ref I) v) Q E s := by
  have key : ∀ a : Addr, wpAny M A (do let o ← load I; match o.cls, o.data with
      | .type n, .fields vs => if owners.contains n && vs[0]? == some (rawInt a) then do rule "for.unpacks-the-owned-tuple"; updateField I 0 .none else pure ()
      | _, _ => pure ()) Q E s := fun a => by
    refine wpAny_bind (wpAny_load ho ?_)
    rw [hc]
    cases o.data <;> first | exact wpAny_pure h | (dsimp only; rw [hT, Bool.false_and]; exact wpAny_pure h)
  cases tgt <;> first | exact wpAny_pure h | (cases v <;> first | exact wpAny_pure h | exact key _)

noncomputable def ItAt (C : Cx) (A : Around) (g : View) (s : Shared) (ds : List D) (it : Value) (s' : Shared) : Prop :=
  ∃ (g' : View) (I : Addr) (fp : List Addr) (P : Nat → Value → Prop) (St : Nat → Heap → Prop), it = .ref I ∧ Stp g s g' s' ∧ Walks C.prog C.w A I fp [I] ds.length P St ∧ St 0 s'.heap ∧
    (∀ i v, P i v → ∃ d, ds[i]? = some d ∧ Rd g' v d) ∧ (∀ b ∈ fp, b = I ∨ g' b ≠ none) ∧ g' I = none ∧ s.heap.get? I = none ∧
    ∃ T, owners.contains T = false ∧ ∀ i h, St i h → ∃ o, h.get? I = some o ∧ o.cls = .type T
structure It (C : Cx) (A : Around) (env : Env) (σ : Sig) (e : Expr) (ds : List D) : Prop where
  of ::
  run : ∀ g s, Pre C env σ g s → wpAny C.M A (eval e env) (fun x s1 => wpAny C.M A (pyIter x) (fun it s2 => ItAt C A g s ds it s2) No s1) No s

theorem ItAt.before {C : Cx} {A : Around} {g g1 : View} {s s1 s' : Shared} {ds : List D} {it : Value} (k : Stp g s g1 s1) (h : ItAt C A g1 s1 ds it s') : ItAt C A g s ds it s' := by
  obtain ⟨g', I, fp, P, St, a, b, c, d, e, f, i, i', j⟩ := h
  refine ⟨g', I, fp, P, St, a, k.trans b, c, d, e, f, i, ?_, j⟩
  cases q : s.heap.get? I with
  | none => rfl
  | some o => rw [k.keep _ _ q] at i'; cases i'

section
variable {C : Cx} {A : Around} {env : Env} {σ : Sig}
theorem size_ne {h : Heap} {a : Addr} {o : Obj} (e : h.get? a = some o) : a ≠ h.objs.size := Nat.ne_of_lt (Heap.lt_size e)
theorem view_size {g : View} {h : Heap} (i : Inc g h) : g h.objs.size = none := by
  cases q : g h.objs.size with
  | none => rfl
  | some o' => exact absurd (i.lt q) (Nat.lt_irrefl _)
theorem fp_two {g : View} {I a : Addr} {o : Obj} (e : g a = some o) : ∀ b ∈ [I, a], b = I ∨ g b ≠ none := fun b hb => by
  rcases List.mem_cons.mp hb with rfl | hb
  · exact .inl rfl
  · rw [List.mem_singleton.mp hb, e]; exact .inr (by simp)
theorem fp_one {g : View} {I : Addr} : ∀ b ∈ [I], b = I ∨ g b ≠ none := fun b hb => .inl (List.mem_singleton.mp hb)
theorem it_list_val {g : View} {s : Shared} {v : Value} {ds : List D} (hr : Rm A 0) (i : Inc g s.heap) (r : Rd g v (.list ds)) : wpAny C.M A (pyIter v) (fun it s2 => ItAt C A g s ds it s2) No s := by
  obtain ⟨a, vs, n, rfl, e, ra⟩ := r.list_inv
  have hl := isList_of i e
  have hne : a ≠ s.heap.objs.size := size_ne (i _ _ e)
  have W := Walks.list (prog := C.prog) (w := C.w) hr.hd _ _ hne vs.toArray
  rw [show vs.toArray.size = ds.length from List.size_toArray.trans ra.length] at W
  exact wpAny_pyIter_list hl ⟨g, s.heap.objs.size, [s.heap.objs.size, a], _, _, rfl, Stp.pushOut i _, W, ⟨⟨_, Heap.get?_push_size _ rfl, rfl, rfl⟩, hl.push _⟩, fun k u hu => ra.get (by simpa using hu), fp_two e, view_size i, none_size,
    "list_iterator", by decide, fun k h st => let ⟨⟨o, h1, h2, _⟩, _⟩ := st; ⟨o, h1, h2⟩⟩
theorem it_list {e : Expr} {ds : List D} (hr : Rm A 0) (h : Ev C A env σ e (.list ds)) : It C A env σ e ds := .of fun g s p =>
  h.then p fun v s1 g1 k1 p1 r1 => wpAny_mono (it_list_val hr p1.inc r1) (fun it s2 x => x.before k1) no_imp
noncomputable def signs (x : Str) : List D := x.cps.toList.map fun c => .str ⟨#[c]⟩
theorem it_str_val {g : View} {s : Shared} {v : Value} {x : Str} (hr : Rm A 0) (i : Inc g s.heap) (r : Rd g v (.str x)) : wpAny C.M A (pyIter v) (fun it s2 => ItAt C A g s (signs x) it s2) No s := by
  obtain ⟨t, rfl⟩ := r.str_inv
  have hl : x.cps.size = (signs x).length := by simp [signs]
  have hs : ∀ k u, SignAt x k u → ∃ d, (signs x)[k]? = some d ∧ Rd g u d := by
    rintro k u ⟨c, t', e, rfl⟩
    exact ⟨.str ⟨#[c]⟩, by simp [signs, e], .str _ _⟩
  cases ha : x.cps.all (· < 128)
  · have W := Walks.strWide (prog := C.prog) (w := C.w) hr.hd s.heap.objs.size x t
    rw [hl] at W
    exact wpAny_pyIter_wide ha ⟨g, s.heap.objs.size, [s.heap.objs.size], _, _, rfl, Stp.pushOut i _, W, ⟨_, Heap.get?_push_size _ rfl, rfl, rfl⟩, hs, fp_one, view_size i, none_size,
      "str_iterator", by decide, fun k h st => let ⟨o, h1, h2, _⟩ := st; ⟨o, h1, h2⟩⟩
  · have W := Walks.strAscii (prog := C.prog) (w := C.w) hr.hd s.heap.objs.size x t
    rw [hl] at W
    exact wpAny_pyIter_ascii ha ⟨g, s.heap.objs.size, [s.heap.objs.size], _, _, rfl, Stp.pushOut i _, W, ⟨_, Heap.get?_push_size _ rfl, rfl, rfl⟩, hs, fp_one, view_size i, none_size,
      "str_ascii_iterator", by decide, fun k h st => let ⟨o, h1, h2, _⟩ := st; ⟨o, h1, h2⟩⟩
theorem it_str {e : Expr} {x : Str} (hr : Rm A 0) (h : Ev C A env σ e (.str x)) : It C A env σ e (signs x) := .of fun g s p =>
  h.then p fun v s1 g1 k1 p1 r1 => wpAny_mono (it_str_val hr p1.inc r1) (fun it s2 x => x.before k1) no_imp
end

/-! the frame of a comprehension -/
noncomputable def cenvOf (scope : Scope) (cl : List (Str × Addr)) (L : Addr) (env : Env) : Env :=
  { scope := relabel scope env, locals := L, globals := env.globals, cells := cellsFrom (L + 1) scope.names cl, qual := env.qual, func := none, code := env.code, frame := env.frame, builtins := env.builtins }
theorem pushCells_size : ∀ (names : List (Str × NameKind)) (h : Heap), h.objs.size ≤ (pushCells h names).objs.size
  | [], h => Nat.le_refl _
  | (x, k) :: r, h => by
    unfold pushCells
    split
    · exact Nat.le_trans (by rw [Heap.size_push]; exact Nat.le_succ _) (pushCells_size r _)
    · exact pushCells_size r h
/-- the new frame of a comprehension: its own dict, its own cells -/
theorem newEnv_comp {M : Model} {A : Around} {E : Value → Shared → Prop} {s : Shared} {scope : Scope} {cl : List (Str × Addr)} {env : Env} {Q : Env → Shared → Prop}
    (hQ : ∀ h', Kp s.heap h' → h'.Ns s.heap.objs.size (fun _ => none) → CellsOk h' (s.heap.objs.size + 1) (cellsFrom (s.heap.objs.size + 1) scope.names []) → s.heap.objs.size < h'.objs.size →
      Q (newEnv scope s.heap.objs.size env.globals (cellsFrom (s.heap.objs.size + 1) scope.names cl) env.qual none .none (some env) builtinsNs) { s with heap := h' }) :
    wpAny M A (newFunctionEnv scope env.globals cl [] env.qual none .none (some env)) Q E s := by
  simp only [newFunctionEnv, Option.isSome_some, if_true]
  refine wpAny_bind (wpAny_alloc ?_)
  refine wpAny_bind (wpAny_layCells _ (fun name kind cells => by cases hkc : kind == NameKind.cell <;> simp [hkc]) _ _ _ _ ?_)
  have ok := cellsFrom_ok scope.names (s.heap.push { cls := .type "dict", data := .dict #[] }) (s.heap.objs.size + 1) [] ⟨fun _ _ hm => (nomatch hm), List.Pairwise.nil⟩ (by rw [Heap.size_push]; exact Nat.le_refl _)
  rw [Heap.size_push] at ok
  rw [show ({ s with heap := s.heap.push { cls := .type "dict", data := .dict #[] } } : Shared).heap.objs.size = s.heap.objs.size + 1 from Heap.size_push ..]
  simp only [List.forIn_nil]
  refine wpAny_bind (wpAny_pure (wpAny_pure ?_))
  exact hQ _ (fun b o e => pushCells_keeps _ _ b o (Heap.get?_push_of_some _ e)) ((Heap.Ns.new s.heap (.type "dict")).keeps (pushCells_keeps _ _)) ok
    (Nat.lt_of_lt_of_le (by rw [Heap.size_push]; exact Nat.lt_succ_self _) (pushCells_size _ _))

/-! targets -/
inductive Tgt : Expr → D → Sig → Prop
  | name {x : Str} {pos : Pos} {d : D} : Tgt (.Name x pos) d [(x, d)]
  | two {x y : Str} {p q pos : Pos} {k : Nat} {a b : D} : x ≠ y → Tgt (.Tuple [.Name x p, .Name y q] k pos) (.tup [a, b]) [(x, a), (y, b)]
  | three {x y z : Str} {p q r pos : Pos} {k : Nat} {a b c : D} : x ≠ y → x ≠ z → y ≠ z → Tgt (.Tuple [.Name x p, .Name y q, .Name z r] k pos) (.tup [a, b, c]) [(x, a), (y, b), (z, c)]
section
variable {C : Cx} {A : Around} {E : Value → Shared → Prop} {env : Env} {cs : List (Str × Addr)}
theorem asg_one {x : Str} {pos : Pos} {vm : Str → Option Value} {s : Shared} {v : Value} (hk : env.scope.kind = .function) (f : Fx env cs vm s.heap) (ho : Own env cs x) {Q : Unit → Shared → Prop}
    (h : ∀ h' tk', Fx env cs (upd vm x v) h' → (∀ a, ¬ Ft env cs a → h'.get? a = s.heap.get? a) → h'.objs.size = s.heap.objs.size → Q () { s with heap := h', toks := tk' }) : wpAny C.M A (assign (.Name x pos) env v) Q E s :=
  wpAny_assign_Name (f.store hk ho h)

theorem asg_names (hk : env.scope.kind = .function) {g : View} : ∀ (xs : List (Str × Pos)) (vs : List Value) (ds : List D) (vm : Str → Option Value) (s : Shared) (Q : Unit → Shared → Prop), RdAll g vs ds → xs.length = ds.length → (xs.map (·.1)).Nodup → Fx env cs vm s.heap →
    (∀ p ∈ xs, Own env cs p.1) →
    (∀ h' tk' vm', Fx env cs vm' h' → (∀ a, ¬ Ft env cs a → h'.get? a = s.heap.get? a) →
      (∀ x u, ((xs.map (·.1)).zip ds).lookup x = some u → ∃ w, vm' x = some w ∧ Rd g w u) → (∀ x, x ∉ xs.map (·.1) → vm' x = vm x) → Q () { s with heap := h', toks := tk' }) →
    wpAny C.M A (assignInOrder (xs.map fun p => assign (.Name p.1 p.2) env) vs) Q E s
  | [], vs, ds, vm, s, Q, r, l, nd, f, ho, h => by
    cases ds with
    | cons => cases l
    | nil =>
      cases r
      exact wpAny_pure (h s.heap s.toks vm f (fun _ _ => rfl) (fun x u e => by simp at e) fun _ _ => rfl)
  | p :: xs, vs, ds, vm, s, Q, r, l, nd, f, ho, h => by
    cases r with
    | nil => cases l
    | @cons v vs d ds r1 ra =>
      obtain ⟨n1, nd'⟩ := List.nodup_cons.mp nd
      show wpAny _ _ (assignInOrder (assign (.Name p.1 p.2) env :: xs.map fun p => assign (.Name p.1 p.2) env) (v :: vs)) _ _ _
      refine wpAny_bind (wpAny_holding (asg_one hk f (ho _ (.head _)) fun h2 t2 f2 k2 z2 => ?_))
      refine asg_names hk xs vs ds _ { s with heap := h2, toks := t2 } Q ra (by simpa using l) nd' f2 (fun q hq => ho q (.tail _ hq)) fun h' tk' vm' f' k a b => ?_
      refine h h' tk' vm' f' (fun x n => (k x n).trans (k2 x n)) (fun x u e => ?_) fun x n => ?_
      · by_cases q : x = p.1
        · subst q
          simp [List.lookup] at e; subst e
          exact ⟨v, by rw [b _ n1]; simp [upd], r1⟩
        · exact a x u (by simpa [List.lookup, beq_eq_false_iff_ne.mpr q] using e)
      · rw [b x fun q => n (.tail _ q)]
        have : x ≠ p.1 := fun q => n (by rw [q]; exact .head _)
        simp [upd, this]
theorem lookup_none_notin {α : Type} : ∀ {l : List (Str × α)} {x : Str}, l.lookup x = none → x ∉ l.map (·.1)
  | [], x, _, h => by cases h
  | p :: l, x, e, h => by
    obtain ⟨y, u⟩ := p
    simp only [List.lookup] at e
    split at e
    · cases e
    · rename_i q
      rcases List.mem_cons.mp h with rfl | h
      · simp at q
      · exact lookup_none_notin e h

theorem asg {target : Expr} {d : D} {τ : Sig} (t : Tgt target d τ) (hr : Rm A 0) (hk : env.scope.kind = .function) {vm : Str → Option Value} {g : View} {s : Shared} {v : Value} (f : Fx env cs vm s.heap)
    (ho : ∀ p ∈ τ, Own env cs p.1) (r : Rd g v d) (i : Inc g s.heap) {Q : Unit → Shared → Prop}
    (h : ∀ h' tk' vm', Fx env cs vm' h' → (∀ a o, ¬ Ft env cs a → s.heap.get? a = some o → h'.get? a = some o) →
      (∀ x u, τ.lookup x = some u → ∃ w, vm' x = some w ∧ Rd g w u) → (∀ x, τ.lookup x = none → vm' x = vm x) → Q () { s with heap := h', toks := tk' }) :
    wpAny C.M A (assign target env v) Q E s := by
  cases t with
  | @name x pos d =>
    refine asg_one hk f (ho _ (.head _)) fun h' tk' f' k sz => h h' tk' _ f' (fun a o n e => (k a n).trans e) (fun y u e => ?_) fun y e => ?_
    · by_cases q : y = x
      · subst q; simp [List.lookup] at e; subst e; exact ⟨v, by simp [upd], r⟩
      · simp [List.lookup, beq_eq_false_iff_ne.mpr q] at e
    · by_cases q : y = x
      · subst q; simp [List.lookup] at e
      · simp [upd, q]
  | @two x y p q pos k a b hxy =>
    obtain ⟨ta, vs, n, rfl, e, ra⟩ := r.tup_inv
    have hl : vs.length = 2 := ra.length
    refine assign_Tuple_tuple hr.hd (isTup_of i e) (by rw [show (assignEach [Expr.Name x p, .Name y q] env).length = 2 from rfl, List.size_toArray, hl]) rfl fun h1 k1 => ?_
    have f1 : Fx env cs vm h1 := f.keep fun a o e => k1 a o (size_ne e) e
    refine asg_names hk [(x, p), (y, q)] vs [a, b] vm { s with heap := h1 } _ ra rfl (by simp [hxy]) f1 (fun z hz => ?_) fun h' tk' vm' f' k a1 b1 => h h' tk' vm' f' (fun z o n e => (k z n).trans (k1 z o (size_ne e) e)) a1 fun z e => b1 z (lookup_none_notin (l := [(x, a), (y, b)]) e)
    simp at hz
    rcases hz with rfl | rfl
    · exact ho _ (.head _)
    · exact ho _ (.tail _ (.head _))
  | @three x y z p q r' pos k a b c' hxy hxz hyz =>
    obtain ⟨ta, vs, n, rfl, e, ra⟩ := r.tup_inv
    have hl : vs.length = 3 := ra.length
    refine assign_Tuple_tuple hr.hd (isTup_of i e) (by rw [show (assignEach [Expr.Name x p, .Name y q, .Name z r'] env).length = 3 from rfl, List.size_toArray, hl]) rfl fun h1 k1 => ?_
    have f1 : Fx env cs vm h1 := f.keep fun a o e => k1 a o (size_ne e) e
    refine asg_names hk [(x, p), (y, q), (z, r')] vs [a, b, c'] vm { s with heap := h1 } _ ra rfl (by simp [hxy, hxz, hyz]) f1 (fun u hz => ?_) fun h' tk' vm' f' k a1 b1 => h h' tk' vm' f' (fun z o n e => (k z n).trans (k1 z o (size_ne e) e)) a1 fun u e => b1 u (lookup_none_notin (l := [(x, a), (y, b), (z, c')]) e)
    simp at hz
    rcases hz with rfl | rfl | rfl
    · exact ho _ (.head _)
    · exact ho _ (.tail _ (.head _))
    · exact ho _ (.tail _ (.tail _ (.head _)))
end
end Zn
/-! part ZnE -/
namespace Zn
open PySem PySem.W PySem.Calls PyProof.Rows PySem.Spec

theorem lookup_app {α : Type} : ∀ {l r : List (Str × α)} {x : Str} {u : α}, (l ++ r).lookup x = some u → l.lookup x = some u ∨ (l.lookup x = none ∧ r.lookup x = some u)
  | [], r, x, u, e => .inr ⟨rfl, e⟩
  | p :: l, r, x, u, e => by
    obtain ⟨y, v⟩ := p
    simp only [List.cons_append, List.lookup] at e ⊢
    split at e
    · exact .inl e
    · exact lookup_app e

noncomputable def isCF : Option NameKind → Bool
  | some .cell | some .free => true
  | _ => false
/-- what an inner frame sees of the outer one -/
noncomputable def Caps (env cenv : Env) (σ : Sig) : Sig → Prop
  | [] => True
  | p :: r => (isCF (env.kindOf p.1) = true ∧ isCF (cenv.kindOf p.1) = true ∧ cenv.cells.lookup p.1 = env.cells.lookup p.1 ∧ σ.lookup p.1 = some p.2) ∧ Caps env cenv σ r
theorem Caps.mem {env cenv : Env} {σ : Sig} : ∀ {κ : Sig}, Caps env cenv σ κ → ∀ {p}, p ∈ κ → isCF (env.kindOf p.1) = true ∧ isCF (cenv.kindOf p.1) = true ∧ cenv.cells.lookup p.1 = env.cells.lookup p.1 ∧ σ.lookup p.1 = some p.2 := by
  intro κ
  induction κ with
  | nil => intro _ p m; cases m
  | cons x κ ih =>
    intro c p m
    rcases List.mem_cons.mp m with rfl | m
    · exact c.1
    · exact ih c.2 m
theorem VarIs.cf {env cenv : Env} {h h' : Heap} {x : Str} {v : Value} (a : isCF (env.kindOf x) = true) (b : isCF (cenv.kindOf x) = true) (c : cenv.cells.lookup x = env.cells.lookup x) (k : Kp h h') (i : VarIs env h x v) : VarIs cenv h' x v := by
  have : ∃ c, env.cells.lookup x = some c ∧ h.IsCell c (some v) := by
    unfold VarIs at i
    split at i
    · rename_i e; rw [e] at a; cases a
    · exact i
    · exact i
    · exact i.elim
  obtain ⟨c', e, d⟩ := this
  unfold VarIs
  split
  · rename_i e'; rw [e'] at b; cases b
  · exact ⟨c', c.trans e, d.keeps k⟩
  · exact ⟨c', c.trans e, d.keeps k⟩
  · rename_i h1 h2 h3
    unfold isCF at b
    split at b
    · rename_i e'; exact absurd e' (by simp_all)
    · rename_i e'; exact absurd e' (by simp_all)
    · cases b

structure Tests (C : Cx) (A : Around) (env : Env) (σ : Sig) (ifs : List Expr) (b : Bool) : Prop where
  of ::
  run : ∀ g s, Pre C env σ g s → wpAny C.M A (forIn ifs true fun c r => if r = true then do let ok ← PySem.isTrue c env (eval c env); pure (ForInStep.yield ok) else pure (ForInStep.yield r)) (fun ok s' => ok = b ∧ ∃ g', Stp g s g' s') No s
theorem tests_nil {C : Cx} {A : Around} {env : Env} {σ : Sig} : Tests C A env σ [] true := .of fun g s p => wpAny_tests_nil ⟨rfl, g, Stp.refl p.inc⟩
theorem tests_one {C : Cx} {A : Around} {env : Env} {σ : Sig} {c : Expr} {b : Bool} (h : Ts C A env σ c b) : Tests C A env σ [c] b := .of fun g s p => wpAny_tests_one (h.run g s p)

section
variable {C : Cx} {A : Around} {env : Env} {σ : Sig} {R : Result → Shared → Prop}
theorem compLoop {elt target iter : Expr} {ifs : List Expr} {scope : Scope} {pos : Pos} {it acc : Value} (I : Nat → Shared → Prop)
    (turn : ∀ n s, I n s → wpAny C.M A (pyNext it) (fun r s₁ => match r with
      | none => R (.ok .next) s₁
      | some v => wpAny C.M A (letOwnedTupleGo target it v) (fun _ s₁' => wpAny C.M A (assign target env v) (fun _ s₂ =>
          wpAny C.M A (forIn ifs true fun c r => if r = true then do let ok ← PySem.isTrue c env (eval c env); pure (ForInStep.yield ok) else pure (ForInStep.yield r)) (fun ok s₃ =>
            if ok = true then wpAny C.M A (eval elt env) (fun x s₄ =>
              wpAny C.M A (call (.builtin "list.append") [acc, x]) (fun _ s₅ => ∃ m, m < n ∧ I m s₅) No s₄) No s₃
            else ∃ m, m < n ∧ I m s₃) No s₂) No s₁') No s₁) No s)
    (n : Nat) {s : Shared} (h : I n s) :
    codeAny C.M A (.compLoop (.ListComp elt [⟨target, iter, ifs, 0⟩] scope pos) 0 it acc env) R s := by
  refine codeAny_loop rfl I (fun n s hI => ?_) n h
  show wpAny _ A ((compTurn (.ListComp elt [⟨target, iter, ifs, 0⟩] scope pos) 0 it acc env).onRaise (fun x => do noteFrame x env; theTreesLotGoes x)) _ _ s
  refine wpAny_noted ?_
  rw [compTurn_list]
  refine wpAny_bind (wpAny_standAt (wpAny_bind (wpAny_mono (turn n s hI) (fun r s₁ h₁ => ?_) no_imp)))
  cases r with
  | none => exact wpAny_pure h₁
  | some v =>
    refine wpAny_bind (wpAny_mono h₁ (fun _ s₁' h₁' => ?_) no_imp)
    refine wpAny_bind (wpAny_mono h₁' (fun _ s₂ h₂ => wpAny_bind (wpAny_mono h₂ (fun ok s₃ h₃ => ?_) no_imp)) no_imp)
    cases ok with
    | false => exact wpAny_pure ⟨rfl, h₃⟩
    | true =>
      exact wpAny_bind (wpAny_bind (wpAny_mono h₃ (fun x s₄ h₄ => wpAny_bind (wpAny_mono h₄ (fun _ s₅ h₅ => wpAny_pure (wpAny_pure ⟨rfl, h₅⟩)) no_imp)) no_imp))

/-- the places that a comprehension turns: its frame, its iterator, its list -/
noncomputable def Mv (cenv : Env) (cs : List (Str × Addr)) (I D' : Addr) (a : Addr) : Prop := Ft cenv cs a ∨ a = I ∨ a = D'
structure Apart (cenv : Env) (cs : List (Str × Addr)) (I D' : Addr) : Prop where
  fi : ¬ Ft cenv cs I
  fd : ¬ Ft cenv cs D'
  id : I ≠ D'
noncomputable def Turn (cenv : Env) (cs : List (Str × Addr)) (I D' : Addr) (ds : List D) (p : D → Bool) (f : D → D) (g₂ : View) (s₄ : Shared) (i : Nat) (s' : Shared) : Prop :=
  ∃ h' tk' vm g ys, s' = { s₄ with heap := h', toks := tk' } ∧ h'.PlainList D' (List.toArray ys) ∧ Fx cenv cs vm h' ∧ Sub g₂ g ∧ Inc g h' ∧ (∀ a o, g a = some o → g₂ a = some o ∨ s₄.heap.get? a = none) ∧
    RdAll g ys (((ds.take i).filter p).map f) ∧ (∀ a o, ¬ Mv cenv cs I D' a → s₄.heap.get? a = some o → h'.get? a = some o) ∧ (∀ a, Mv cenv cs I D' a → g a = none)

theorem take_filter_map {ds : List D} {p : D → Bool} {f : D → D} {i : Nat} {d : D} (e : ds[i]? = some d) : ((ds.take (i + 1)).filter p).map f = ((ds.take i).filter p).map f ++ (if p d then [f d] else []) := by
  rw [List.take_add_one, e, List.filter_append, List.map_append]
  cases h : p d <;> simp [h]

theorem comp_go {elt target iter : Expr} {ifs : List Expr} {scope : Scope} {pos : Pos} {cenv : Env} {cs : List (Str × Addr)} {I D' : Addr} {fp : List Addr} {P : Nat → Value → Prop} {St : Nat → Heap → Prop} {ds : List D} {p : D → Bool} {f : D → D} {g₂ : View} {s₄ : Shared} {vm : Str → Option Value}
    (hr : Rm A 0) (hk : cenv.scope.kind = .function) (W : Walks C.prog C.w A I fp [I] ds.length P St) (st : St 0 s₄.heap) (hP : ∀ i v, P i v → ∃ d, ds[i]? = some d ∧ Rd g₂ v d)
    {T : String} (hT : owners.contains T = false) (hcls : ∀ i h, St i h → ∃ o, h.get? I = some o ∧ o.cls = .type T)
    (ap : Apart cenv cs I D') (hfp : ∀ b ∈ fp, ¬ Ft cenv cs b ∧ b ≠ D') (base : Kp C.hB s₄.heap) (hB : ∀ a o, C.hB.get? a = some o → ¬ Mv cenv cs I D' a)
    (inc : Inc g₂ s₄.heap) (hg : ∀ a, Mv cenv cs I D' a → g₂ a = none) (hl : s₄.heap.PlainList D' (List.toArray [])) (fx : Fx cenv cs vm s₄.heap) (hsz : ds.length ≤ 1000)
    (turn : ∀ d, d ∈ ds → ∃ τ κ, Tgt target d τ ∧ (∀ q ∈ τ, Own cenv cs q.1) ∧ (∀ h g, Inc g h → Sub g₂ g → (∀ a o, ¬ Mv cenv cs I D' a → s₄.heap.get? a = some o → h.get? a = some o) → Sees cenv h g κ) ∧ Tests C A cenv (τ ++ κ) ifs (p d) ∧ (p d = true → Ev C A cenv (τ ++ κ) elt (f d)))
    (done : ∀ s', Turn cenv cs I D' ds p f g₂ s₄ ds.length s' → R (.ok .next) s') :
    codeAny C.M A (.compLoop (.ListComp elt [⟨target, iter, ifs, 0⟩] scope pos) 0 (.ref I) (.ref D') cenv) R s₄ := by
  have move : ∀ i s' h'' tk'', Turn cenv cs I D' ds p f g₂ s₄ i s' → (∀ b o, b ∉ [I] → s'.heap.get? b = some o → h''.get? b = some o) → Turn cenv cs I D' ds p f g₂ s₄ i { s' with heap := h'', toks := tk'' } := by
    rintro i s' h'' tk'' ⟨h', tk', vm, g, ys, rfl, hl, fx, sb, inc, fr, ra, kp, gn⟩ k
    have ne : ∀ {b}, b ≠ I → b ∉ [I] := fun q m => q (List.mem_singleton.mp m)
    refine ⟨h'', tk'', vm, g, ys, rfl, hl.at fun o e => k _ o (ne (Ne.symm ap.id)) e, fx.keepBut fun a o m e => k a o (ne fun q => ap.fi (q ▸ m)) e, sb, fun a o e => k a o (ne fun q => ?_) (inc a o e), fr, ra, fun a o m e => k a o (ne fun q => m (.inr (.inl q))) (kp a o m e), gn⟩
    rw [gn a (.inr (.inl q))] at e; cases e
  refine compLoop (fun k s' => ∃ i, i ≤ ds.length ∧ k = ds.length + 1 - i ∧ St i s'.heap ∧ Turn cenv cs I D' ds p f g₂ s₄ i s') ?_ (ds.length + 1)
    ⟨0, Nat.zero_le _, rfl, st, s₄.heap, s₄.toks, vm, g₂, [], rfl, hl, fx, Sub.rfl', inc, fun _ _ e => .inl e, .nil, fun _ _ _ e => e, hg⟩
  rintro k s' ⟨i, hi, rfl, st', tu⟩
  by_cases hin : i < ds.length
  · refine W.item i s' _ _ hin st' fun v h1 tk1 hv st1 k1 => ?_
    have tu1 := move i s' h1 tk1 tu k1
    obtain ⟨o, ho, hoc⟩ := hcls _ _ st1
    refine go_cls (s := { s' with heap := h1, toks := tk1 }) ho hoc hT ?_
    obtain ⟨h', tk', vm', g, ys, e', hl', fx', sb, inc', fr, ra, kp, gn⟩ := tu1
    obtain ⟨d, hd, rd⟩ := hP i v hv
    obtain ⟨τ, κ, tg, own, cap, tst, el⟩ := turn d (List.mem_of_getElem? hd)
    have e1 : ({ s' with heap := h1, toks := tk1 } : Shared).heap = h' := congrArg Shared.heap e'
    have e1' : h1 = h' := e1
    subst e1'
    have shp : s' = { s₄ with heap := s'.heap, toks := s'.toks } := by
      obtain ⟨h9, t9, v9, g9, y9, r9, _⟩ := tu
      rw [r9]
    refine asg tg hr hk (s := { s' with heap := h1, toks := tk1 }) fx' own (rd.mono sb) inc' fun h2 tk2 vm2 fx2 k2 a2 b2 => ?_
    have kp2 : ∀ a o, ¬ Mv cenv cs I D' a → s₄.heap.get? a = some o → h2.get? a = some o := fun a o m e => k2 a o (fun q => m (.inl q)) (kp a o m e)
    have inc2 : Inc g h2 := fun a o e => k2 a o (fun q => by rw [gn a (.inl q)] at e; cases e) (inc' a o e)
    have pre : Pre C cenv (τ ++ κ) g { s' with heap := h2, toks := tk2 } := by
      refine ⟨fun a o e => kp2 a o (hB a o e) (base a o e), inc2, fun x u e => ?_⟩
      rcases lookup_app e with e | ⟨_, e⟩
      · obtain ⟨w, ew, rw'⟩ := a2 x u e
        exact ⟨w, fx2.var (own _ (mem_of_lookup e)) ew, rw'⟩
      · exact cap h2 g inc2 sb kp2 x u e
    refine wpAny_mono (tst.run g _ pre) (fun ok s3 hok => ?_) no_imp
    obtain ⟨rfl, g3, k3⟩ := hok
    have hlt : ds.length + 1 - (i + 1) < ds.length + 1 - i := by lia
    have hl2 : h2.PlainList D' ys.toArray := plain_at hl' fun o e => k2 _ o ap.fd e
    have g3n : ∀ {s5 : Shared} {g5 : View}, Stp g { s' with heap := h2, toks := tk2 } g5 s5 → ∀ a, Mv cenv cs I D' a → g5 a = none := fun {s5 g5} k5 a m => by
      cases q : g5 a with
      | none => rfl
      | some oq =>
        rcases k5.fresh a oq q with q | q
        · rw [gn a m] at q; cases q
        · exfalso
          have q' : h2.get? a = none := q
          rcases m with m | rfl | rfl
          · exact fx2.has m q'
          · rw [k2 _ o ap.fi ho] at q'; cases q'
          · obtain ⟨_, e9⟩ := hl2; exact absurd (q'.symm.trans e9) (by simp)
    have stN : ∀ {h5 : Heap}, (∀ b o, b ≠ D' → h2.get? b = some o → h5.get? b = some o) → St (i + 1) h5 := fun {h5} k5 =>
      W.frame _ _ _ st1 fun b hb o e => k5 b o (hfp b hb).2 (k2 b o (hfp b hb).1 e)
    have ra' := @take_filter_map ds p f i d hd
    cases hp : p d with
    | false =>
      simp only [Bool.false_eq_true, if_false]
      obtain ⟨ha, ta, ea⟩ := k3.shape
      refine ⟨_, hlt, i + 1, hin, rfl, stN fun b o _ e => k3.keep b o e, s3.heap, ta, vm2, g3, ys, by rw [ea, shp], hl2.at (fun o e => k3.keep _ o e), fx2.keep k3.keep, sb.trans k3.sub, k3.inc, fun a o e => ?_, ?_, fun a o m e => k3.keep a o (kp2 a o m e), g3n k3⟩
      · rcases k3.fresh a o e with q | q
        · exact fr a o q
        · by_cases m : Mv cenv cs I D' a
          · rw [g3n k3 a m] at e; cases e
          · cases z : s₄.heap.get? a with
            | none => exact .inr rfl
            | some o' => have := kp2 a o' m z; rw [show h2.get? a = none from q] at this; cases this
      · rw [ra', hp]; simpa using ra.mono k3.sub
    | true =>
      simp only [if_true]
      refine (el hp).then (pre.step k3) fun x s5 g5 k5 p5 r5 => ?_
      have k35 := k3.trans k5
      have hlen : ys.length ≤ 1000 := by
        rw [ra.length, List.length_map]
        exact Nat.le_trans (List.length_filter_le ..) (Nat.le_trans (List.length_take_le ..) (Nat.le_trans hi hsz))
      refine wpAny_list_append_plain (plain_at hl2 fun o e => k35.keep _ o e) (fun h6 hl6 hs6 => ?_) (by rw [List.size_toArray]; exact small_size hlen)
      obtain ⟨ha, ta, ea⟩ := k35.shape
      have k6 : ∀ b o, b ≠ D' → h2.get? b = some o → h6.get? b = some o := fun b o n e => (hs6.2 b n).trans (k35.keep b o e)
      refine ⟨_, hlt, i + 1, hin, rfl, stN k6, h6, ta, vm2, g5, ys ++ [x], by rw [ea, shp], by rw [← List.push_toArray]; exact hl6, fx2.keepBut fun a o m e => k6 a o (fun q => ap.fd (q ▸ m)) e, sb.trans k35.sub, fun a o e => ?_, fun a o e => ?_, ?_, fun a o m e => k6 a o (fun q => m (.inr (.inr q))) (kp2 a o m e), g3n k35⟩
      · exact (hs6.2 a fun q => by rw [g3n k35 a (.inr (.inr q))] at e; cases e).trans (k35.inc a o e)
      · rcases k35.fresh a o e with q | q
        · exact fr a o q
        · by_cases m : Mv cenv cs I D' a
          · rw [g3n k35 a m] at e; cases e
          · cases z : s₄.heap.get? a with
            | none => exact .inr rfl
            | some o' => have := kp2 a o' m z; rw [show h2.get? a = none from q] at this; cases this
      · rw [ra', hp]; exact (ra.mono k35.sub).append (.cons r5 .nil)
  · obtain rfl : i = ds.length := by lia
    refine W.done s' _ _ st' fun h1 tk1 k1 => ?_
    exact done _ (move _ s' h1 tk1 tu k1)
end
end Zn
/-! part ZnF -/
namespace Zn
open PySem PySem.W PySem.Calls PyProof.Rows PySem.Spec

section
variable {C : Cx} {A : Around} {env : Env} {σ : Sig}
theorem Caps.sees {env cenv : Env} {σ κ : Sig} (c : Caps env cenv σ κ) {s : Shared} {g g' : View} {h' : Heap} (i : Sees env s.heap g σ) (k : Kp s.heap h') (sb : Sub g g') : Sees cenv h' g' κ := fun x d e => by
  obtain ⟨a, b, c1, d1⟩ := c.mem (mem_of_lookup e)
  obtain ⟨v, i1, r⟩ := i x d d1
  exact ⟨v, i1.cf a b c1 k, r.mono sb⟩

theorem comp_run {elt target iter : Expr} {ifs : List Expr} {scope : Scope} {pos pos' : Pos} {ds : List D} {cl : List (Str × Addr)} {use : Option (Value → Sem Unit)} {Q : Value → Shared → Prop} (p : D → Bool) (f : D → D) (hr : Rm A 0) (hi : It C A env σ iter ds)
    (hcl : closureFor scope env = pure cl) (hk : scope.kind = .function) (hn : ∀ x ∈ scope.names, x.2 = .local → scope.names.lookup x.1 = some .local)
    (hown : ∀ L x c, (x, c) ∈ cellsFrom (L + 1) scope.names [] → (cenvOf scope cl L env).kindOf x = some .cell ∧ (cenvOf scope cl L env).cells.lookup x = some c)
    (hs : ∀ x, foldedSetIterable iter env x = pure x) (hsz : ds.length ≤ 1000)
    (turn : ∀ L d, d ∈ ds → ∃ τ κ, Tgt target d τ ∧ (∀ q ∈ τ, Own (cenvOf scope cl L env) (cellsFrom (L + 1) scope.names []) q.1) ∧ Caps env (cenvOf scope cl L env) σ κ ∧
      Tests C A (cenvOf scope cl L env) (τ ++ κ) ifs (p d) ∧ (p d = true → Ev C A (cenvOf scope cl L env) (τ ++ κ) elt (f d))) :
    ∀ g s, Pre C env σ g s → (∀ L s' g' v m, Stp g s g' s' → Rd g' v (.list ((ds.filter p).map f)) → s'.heap.Ns L m → g' L = none → s.heap.get? L = none → compPost C.M A No use Q v L (.ok .next) s') →
    wpAny C.M A (comprehension (.ListComp elt [⟨target, iter, ifs, 0⟩] scope pos) scope env pos' (newList []) false (eval iter env) use) Q No s := fun g s pre fin => by
  refine wpAny_comprehension_free (g := ⟨target, iter, ifs, 0⟩) (gs := []) rfl hs hcl hk hn (wpAny_mono (hi.run g s pre) (fun x s1 h1 => wpAny_mono h1 (fun it s2 h2 => ?_) no_imp) no_imp)
  obtain ⟨g2, I, fp, P, St, rfl, k2, W, st, hP, hfp', gI, sI, T, hT, hcls⟩ := h2
  have hfp : ∀ b ∈ fp, b < s2.heap.objs.size := fun b hb => by
    rcases hfp' b hb with rfl | q
    · obtain ⟨o, e, _⟩ := hcls 0 _ st; exact Heap.lt_size e
    · cases z : g2 b with
      | none => exact absurd z q
      | some o => exact k2.inc.lt z
  have lt2 : ∀ {b}, s2.heap.get? b ≠ none → b < s2.heap.objs.size := fun {b} h => by
    cases q : s2.heap.get? b with
    | none => exact absurd q h
    | some o => exact Heap.lt_size q
  refine wpAny_newObj_type (newEnv_comp fun h' k4 ns4 ok4 sz4 => ?_)
  have hC : (s2.heap.push { cls := .type "list", data := .seq ([] : List Value).toArray }).objs.size = s2.heap.objs.size + 1 := Heap.size_push ..
  dsimp only at k4 ns4 ok4 sz4 ⊢
  rw [hC] at ns4 ok4 sz4 ⊢
  have env_eq : ({ newEnv scope (s2.heap.objs.size + 1) env.globals (cellsFrom (s2.heap.objs.size + 1 + 1) scope.names cl) env.qual none .none (some env) builtinsNs with scope := relabel scope env } : Env) = cenvOf scope cl (s2.heap.objs.size + 1) env := rfl
  show codeAny _ _ (.compStart _ 0 (.ref I) (.ref s2.heap.objs.size) (cenvOf scope cl (s2.heap.objs.size + 1) env)) (compPost _ _ _ use _ _ (s2.heap.objs.size + 1)) _
  generalize hL : s2.heap.objs.size + 1 = L at ns4 ok4 sz4 ⊢
  have k24 : Kp s2.heap h' := fun b o e => k4 b o (Heap.get?_push_of_some _ e)
  have ok4' : CellsOk h' (L + 1) (cellsFrom (L + 1) scope.names []) := ok4
  have fx : Fx (cenvOf scope cl L env) (cellsFrom (L + 1) scope.names []) (fun _ => none) h' := by
    refine ⟨⟨_, ns4, fun _ _ _ e => by cases e⟩, fun x c m => ⟨(hown L x c m).1, (hown L x c m).2, none, (ok4'.empty x c m).1, fun _ e => by cases e⟩, ok4'.apart, fun x c m => ?_⟩
    have q : @LE.le Nat _ (L + 1) c := (ok4'.empty x c m).2
    exact Nat.ne_of_gt q
  have ftlt : ∀ a, Ft (cenvOf scope cl L env) (cellsFrom (L + 1) scope.names []) a → s2.heap.objs.size < a := fun a m => by
    rcases m with q | ⟨x, m⟩
    · have q' : a = L := q
      rw [q', ← hL]; exact Nat.lt_succ_self _
    · have q : @LE.le Nat _ (L + 1) a := (ok4'.empty x a m).2
      rw [← hL] at q
      exact Nat.lt_of_lt_of_le (Nat.lt_succ_of_lt (Nat.lt_succ_self _)) q
  have Ilt : I < s2.heap.objs.size := hfp I (W.sub I (.head _))
  have mvge : ∀ a, Mv (cenvOf scope cl L env) (cellsFrom (L + 1) scope.names []) I s2.heap.objs.size a → s2.heap.objs.size ≤ a ∨ a = I := fun a m => by
    rcases m with m | m | m
    · exact .inl (Nat.le_of_lt (ftlt a m))
    · exact .inr m
    · exact .inl (Nat.le_of_eq m.symm)
  have mvold : ∀ a o, s.heap.get? a = some o → ¬ Mv (cenvOf scope cl L env) (cellsFrom (L + 1) scope.names []) I s2.heap.objs.size a := fun a o e m => by
    rcases mvge a m with q | rfl
    · exact absurd (Heap.lt_size (k2.keep a o e)) (Nat.not_lt.mpr q)
    · rw [sI] at e; cases e
  have key : codeAny C.M A (.compLoop (.ListComp elt [⟨target, iter, ifs, 0⟩] scope pos) 0 (.ref I) (.ref s2.heap.objs.size) (cenvOf scope cl L env)) (compPost C.M A No use Q (.ref s2.heap.objs.size) L) { s2 with heap := h' } := by
    refine comp_go (vm := fun _ => none) (g₂ := g2) (P := P) (St := St) (fp := fp) (ds := ds) (p := p) (f := f) (cs := cellsFrom (L + 1) scope.names []) hr (by show (relabel scope env).kind = _; exact hk) W
      (W.frame _ _ _ st fun b _ o e => k24 b o e) hP hT hcls ⟨fun m => absurd (ftlt I m) (Nat.not_lt.mpr (Nat.le_of_lt Ilt)), fun m => absurd (ftlt _ m) (Nat.lt_irrefl _), Nat.ne_of_lt Ilt⟩
      (fun b hb => ⟨fun m => absurd (ftlt b m) (Nat.not_lt.mpr (Nat.le_of_lt (hfp b hb))), Nat.ne_of_lt (hfp b hb)⟩) ((pre.base.trans k2.keep).trans k24) (fun a o e => mvold a o (pre.base a o e)) (k2.inc.keep k24) (fun a m => ?_) ?_ fx hsz ?_ ?_
    · rcases mvge a m with q | rfl
      · cases z : g2 a with
        | none => rfl
        | some o => exact absurd (k2.inc.lt z) (Nat.not_lt.mpr q)
      · exact gI
    · exact plain_at ⟨0, Heap.get?_push_size _ rfl⟩ fun o e => k4 _ o e
    · intro d hd
      obtain ⟨τ, κ, t1, t2, t3, t4, t5⟩ := turn L d hd
      exact ⟨τ, κ, t1, t2, fun h g' i sb kp => t3.sees pre.sees (fun a o e => kp a o (mvold a o e) (k24 a o (k2.keep a o e))) (k2.sub.trans sb), t4, t5⟩
    · rintro s' ⟨h9, t9, vm9, g9, ys, rfl, hl9, fx9, sb9, inc9, fr9, ra9, kp9, gn9⟩
      obtain ⟨m, ns9, _⟩ := fx9.ns
      obtain ⟨n9, e9⟩ := hl9
      generalize hoo : (⟨.type "list", none, .seq ys.toArray n9, #[]⟩ : Obj) = o at e9
      rw [List.take_length] at ra9
      have gD : g9 s2.heap.objs.size = none := gn9 _ (.inr (.inr rfl))
      have DL : L ≠ s2.heap.objs.size := by rw [← hL]; exact Nat.ne_of_gt (Nat.lt_succ_self _)
      have sbp : Sub g9 (put g9 s2.heap.objs.size o) := fun b o' e => by
        by_cases q : b = s2.heap.objs.size
        · rw [q, gD] at e; cases e
        · simp [put, q, e]
      refine fin L _ (put g9 s2.heap.objs.size o) _ m ⟨?_, fun a ob e => ?_, (k2.sub.trans sb9).trans sbp, fun a ob e => ?_, fun a ob e => ?_⟩ (.list (by rw [hoo]; exact put_self) (ra9.mono sbp)) ns9 ?_ ?_
      · obtain ⟨hh, tt, e⟩ := k2.shape
        exact ⟨h9, t9, by rw [e]⟩
      · exact kp9 a ob (mvold a ob e) (k24 a ob (k2.keep a ob e))
      · by_cases q : a = s2.heap.objs.size
        · subst q; rw [put_self] at e; cases e; exact e9
        · simp [put, q] at e; exact inc9 a ob e
      · by_cases q : a = s2.heap.objs.size
        · subst q
          right
          cases z : s.heap.get? s2.heap.objs.size with
          | none => rfl
          | some o' => exact absurd (Heap.lt_size (k2.keep _ _ z)) (Nat.lt_irrefl _)
        · simp [put, q] at e
          rcases fr9 a ob e with z | z
          · exact k2.fresh a ob z
          · cases y : s.heap.get? a with
            | none => exact .inr rfl
            | some o' => have := k24 a o' (k2.keep a o' y); rw [show h'.get? a = none from z] at this; cases this
      · have gL : g9 L = none := gn9 L (.inl (.inl rfl))
        simp [put, DL, gL]
      · cases z : s.heap.get? L with
        | none => rfl
        | some o' => exact absurd (.inl (.inl rfl)) (mvold L o' z)
  exact codeAny_compStart_list key (W.self 0 { s2 with heap := h' } _ _ (W.frame _ _ _ st fun b _ o e => k24 b o e) key)

theorem ev_comp {elt target iter : Expr} {ifs : List Expr} {scope : Scope} {pos : Pos} {ds : List D} {cl : List (Str × Addr)} (p : D → Bool) (f : D → D) (hr : Rm A 0) (hi : It C A env σ iter ds)
    (hcl : closureFor scope env = pure cl) (hk : scope.kind = .function) (hn : ∀ x ∈ scope.names, x.2 = .local → scope.names.lookup x.1 = some .local)
    (hown : ∀ L x c, (x, c) ∈ cellsFrom (L + 1) scope.names [] → (cenvOf scope cl L env).kindOf x = some .cell ∧ (cenvOf scope cl L env).cells.lookup x = some c)
    (hs : ∀ x, foldedSetIterable iter env x = pure x) (hsz : ds.length ≤ 1000)
    (turn : ∀ L d, d ∈ ds → ∃ τ κ, Tgt target d τ ∧ (∀ q ∈ τ, Own (cenvOf scope cl L env) (cellsFrom (L + 1) scope.names []) q.1) ∧ Caps env (cenvOf scope cl L env) σ κ ∧
      Tests C A (cenvOf scope cl L env) (τ ++ κ) ifs (p d) ∧ (p d = true → Ev C A (cenvOf scope cl L env) (τ ++ κ) elt (f d))) :
    Ev C A env σ (.ListComp elt [⟨target, iter, ifs, 0⟩] scope pos) (.list ((ds.filter p).map f)) := .of fun g s pre => by
  show wpAny _ _ (eval _ _) _ _ _
  rw [eval_ListComp]
  refine comp_run p f hr hi hcl hk hn hown hs hsz turn g s pre fun L s' g' v m k r ns gL sL => ⟨m, ns, fun h' hs' => ⟨g', ⟨?_, fun a o e => ?_, k.sub, fun a o e => ?_, k.fresh⟩, r⟩⟩
  · obtain ⟨h1, t1, e⟩ := k.shape
    exact ⟨h', t1, by rw [e]⟩
  · exact (hs'.2 a fun q => by rw [q, sL] at e; cases e).trans (k.keep a o e)
  · exact (hs'.2 a fun q => by rw [q, gL] at e; cases e).trans (k.inc a o e)
end
end Zn
/-! part ZnG -/
namespace Zn
open PySem PySem.W PySem.Calls PyProof.Rows PySem.Spec

/-! what a frame holds between its statements -/
inductive OD where
  | list (ds : List D)
  | dict (es : List (Int × D))
noncomputable def OwnAt (h : Heap) (g : View) (a : Addr) : OD → Prop
  | .list ds => ∃ vs, h.PlainList a (List.toArray vs) ∧ RdAll g vs ds
  | .dict ks => ∃ o kvs, h.get? a = some o ∧ (a == sysModules) = false ∧ IntDict o kvs ∧ RdKv g kvs ks
theorem OwnAt.has {h : Heap} {g : View} {a : Addr} {od : OD} (x : OwnAt h g a od) : h.get? a ≠ none := by
  cases od with
  | list => obtain ⟨_, ⟨n, e⟩, _⟩ := x; rw [e]; simp
  | dict => obtain ⟨_, _, e, _⟩ := x; rw [e]; simp
theorem OwnAt.step {h h' : Heap} {g g' : View} {a : Addr} {od : OD} (x : OwnAt h g a od) (k : ∀ o, h.get? a = some o → h'.get? a = some o) (sb : Sub g g') : OwnAt h' g' a od := by
  cases od with
  | list => obtain ⟨vs, l, r⟩ := x; exact ⟨vs, plain_at l k, r.mono sb⟩
  | dict => obtain ⟨o, kvs, e, n, i, r⟩ := x; exact ⟨o, kvs, k _ e, n, i, r.mono sb⟩
noncomputable abbrev OSig := List (Str × OD)
noncomputable def del {α : Type} (x : Str) (l : List (Str × α)) : List (Str × α) := l.filter fun p => !(p.1 == x)
theorem lookup_del {α : Type} {x y : Str} : ∀ {l : List (Str × α)} {u : α}, (del x l).lookup y = some u → y ≠ x ∧ l.lookup y = some u
  | [], u, e => by cases e
  | p :: l, u, e => by
    obtain ⟨z, v⟩ := p
    unfold del at e
    rw [List.filter_cons] at e
    by_cases q : z = x
    · subst q
      simp at e
      obtain ⟨h1, h2⟩ := lookup_del (l := l) e
      exact ⟨h1, by simp [List.lookup, beq_eq_false_iff_ne.mpr h1, h2]⟩
    · have : (!(z == x)) = true := by simpa using q
      simp only [this, if_true] at e
      simp only [List.lookup] at e ⊢
      split at e
      · rename_i r; cases e
        have := beq_iff_eq.mp r
        subst this
        exact ⟨q, rfl⟩
      · exact lookup_del (l := l) e

structure InvG (s₀ : Shared) (kp gE : View) (env : Env) (σ : Sig) (ω : OSig) (vm : Str → Option Value) (g : View) (ad : Str → Addr) (s : Shared) : Prop where
  shape : ∃ h' tk', s = { s₀ with heap := h', toks := tk' }
  keep : Inc kp s.heap
  sub : Sub gE g
  inc : Inc g s.heap
  fresh : ∀ a o, g a = some o → gE a = some o ∨ kp a = none
  fx : Fx env env.cells vm s.heap
  ft : ∀ a, Ft env env.cells a → kp a = none ∧ g a = none
  var : ∀ x d, σ.lookup x = some d → Own env env.cells x ∧ ∃ v, vm x = some v ∧ Rd g v d
  own : ∀ x od, ω.lookup x = some od → Own env env.cells x ∧ vm x = some (.ref (ad x)) ∧ OwnAt s.heap g (ad x) od ∧ kp (ad x) = none ∧ g (ad x) = none ∧ ¬ Ft env env.cells (ad x)
  apart : ∀ x y od oe, ω.lookup x = some od → ω.lookup y = some oe → x ≠ y → ad x ≠ ad y
noncomputable def Inv (s₀ : Shared) (kp gE : View) (env : Env) (σ : Sig) (ω : OSig) (s : Shared) : Prop := ∃ vm g ad, InvG s₀ kp gE env σ ω vm g ad s

section
variable {C : Cx} {A : Around} {env : Env} {σ : Sig} {ω : OSig} {s₀ s s' : Shared} {kp gE g g' : View} {vm : Str → Option Value} {ad : Str → Addr}
theorem InvG.pre (i : InvG s₀ kp gE env σ ω vm g ad s) (b : Sub C.hB.get? kp) : Pre C env σ g s :=
  ⟨fun a o e => i.keep a o (b a o e), i.inc, fun x d e => let ⟨o, v, a, r⟩ := i.var x d e; ⟨v, i.fx.var o a, r⟩⟩
theorem InvG.step (i : InvG s₀ kp gE env σ ω vm g ad s) (k : Stp g s g' s') : InvG s₀ kp gE env σ ω vm g' ad s' := by
  have nw : ∀ a, s.heap.get? a ≠ none → g a = none → g' a = none := fun a h n => by
    cases q : g' a with
    | none => rfl
    | some o => rcases k.fresh a o q with z | z
                · rw [n] at z; cases z
                · exact absurd z h
  refine ⟨?_, i.keep.keep k.keep, i.sub.trans k.sub, k.inc, fun a o e => ?_, i.fx.keep k.keep, fun a m => ⟨(i.ft a m).1, nw a (i.fx.has m) (i.ft a m).2⟩, fun x d e => ?_, fun x od e => ?_, i.apart⟩
  · obtain ⟨h1, t1, e1⟩ := i.shape
    obtain ⟨h2, t2, e2⟩ := k.shape
    exact ⟨h2, t2, by rw [e2, e1]⟩
  · rcases k.fresh a o e with z | z
    · exact i.fresh a o z
    · cases y : kp a with
      | none => exact .inr rfl
      | some o' => rw [i.keep a o' y] at z; cases z
  · obtain ⟨o, v, a, r⟩ := i.var x d e
    exact ⟨o, v, a, r.mono k.sub⟩
  · obtain ⟨o, a, b, c, d, e'⟩ := i.own x od e
    exact ⟨o, a, b.step (fun _ e => k.keep _ _ e) k.sub, c, nw _ b.has d, e'⟩
theorem Inv.wk {σ' : Sig} {ω' : OSig} (i : Inv s₀ kp gE env σ ω s) (h : ∀ x d, σ'.lookup x = some d → σ.lookup x = some d) (h' : ∀ x d, ω'.lookup x = some d → ω.lookup x = some d) : Inv s₀ kp gE env σ' ω' s := by
  obtain ⟨vm, g, ad, i⟩ := i
  exact ⟨vm, g, ad, i.shape, i.keep, i.sub, i.inc, i.fresh, i.fx, i.ft, fun x d e => i.var x d (h x d e), fun x od e => i.own x od (h' x od e), fun x y od oe e1 e2 => i.apart x y od oe (h' _ _ e1) (h' _ _ e2)⟩
theorem upd_ne {vm : Str → Option Value} {x y : Str} {v : Value} (h : y ≠ x) : upd vm x v y = vm y := by simp [upd, h]
theorem upd_self {vm : Str → Option Value} {x : Str} {v : Value} : upd vm x v x = some v := by simp [upd]

/-- a datum is stored under a name -/
theorem InvG.store {M : Model} {E : Value → Shared → Prop} (i : InvG s₀ kp gE env σ ω vm g ad s) (hk : env.scope.kind = .function) {x : Str} {v : Value} {d : D} (ho : Own env env.cells x) (r : Rd g v d) {Q : Unit → Shared → Prop}
    (h : ∀ s', Inv s₀ kp gE env ((x, d) :: σ) (del x ω) s' → Q () s') : wpAny M A (storeName env x v) Q E s := by
  refine i.fx.store hk ho fun h' tk' fx' k sz => h _ ⟨upd vm x v, g, ad, ?_, fun a o e => ?_, i.sub, fun a o e => ?_, i.fresh, fx', i.ft, fun y u e => ?_, fun y od e => ?_, fun y z od oe e1 e2 => i.apart y z od oe (lookup_del e1).2 (lookup_del e2).2⟩
  · obtain ⟨h1, t1, e1⟩ := i.shape
    exact ⟨h', tk', by rw [e1]⟩
  · exact (k a fun m => by rw [(i.ft a m).1] at e; cases e).trans (i.keep a o e)
  · exact (k a fun m => by rw [(i.ft a m).2] at e; cases e).trans (i.inc a o e)
  · by_cases q : y = x
    · subst q
      simp [List.lookup] at e; subst e
      exact ⟨ho, v, upd_self, r⟩
    · obtain ⟨o, w, a, b⟩ := i.var y u (by simpa [List.lookup, beq_eq_false_iff_ne.mpr q] using e)
      exact ⟨o, w, (upd_ne q).trans a, b⟩
  · obtain ⟨q, e⟩ := lookup_del e
    obtain ⟨o, a, b, c, d', f⟩ := i.own y od e
    exact ⟨o, (upd_ne q).trans a, b.step (fun _ e => (k _ f).trans e) Sub.rfl', c, d', f⟩
/-- a new object of the frame's own is stored under a name -/
theorem InvG.storeOwn {M : Model} {E : Value → Shared → Prop} (i : InvG s₀ kp gE env σ ω vm g ad s) (hk : env.scope.kind = .function) {x : Str} {a₁ : Addr} {od : OD} (ho : Own env env.cells x) (r : OwnAt s.heap g a₁ od)
    (n0 : kp a₁ = none) (ng : g a₁ = none) (nf : ¬ Ft env env.cells a₁) (na : ∀ y oe, ω.lookup y = some oe → y ≠ x → ad y ≠ a₁) {Q : Unit → Shared → Prop}
    (h : ∀ s', Inv s₀ kp gE env (del x σ) ((x, od) :: del x ω) s' → Q () s') : wpAny M A (storeName env x (.ref a₁)) Q E s := by
  refine i.fx.store hk ho fun h' tk' fx' k sz => h _ ⟨upd vm x (.ref a₁), g, fun y => if y = x then a₁ else ad y, ?_, fun a o e => ?_, i.sub, fun a o e => ?_, i.fresh, fx', i.ft, fun y u e => ?_, fun y oe e => ?_, fun y z oe of e1 e2 hne => ?_⟩
  · obtain ⟨h1, t1, e1⟩ := i.shape
    exact ⟨h', tk', by rw [e1]⟩
  · exact (k a fun m => by rw [(i.ft a m).1] at e; cases e).trans (i.keep a o e)
  · exact (k a fun m => by rw [(i.ft a m).2] at e; cases e).trans (i.inc a o e)
  · obtain ⟨q, e⟩ := lookup_del e
    obtain ⟨o, w, a, b⟩ := i.var y u e
    exact ⟨o, w, (upd_ne q).trans a, b⟩
  · by_cases q : y = x
    · subst q
      simp [List.lookup] at e; subst e
      exact ⟨ho, by simp [upd], by simpa using r.step (fun _ e => (k _ nf).trans e) Sub.rfl', by simpa using n0, by simpa using ng, by simpa using nf⟩
    · obtain ⟨_, e⟩ := lookup_del (by simpa [List.lookup, beq_eq_false_iff_ne.mpr q] using e)
      obtain ⟨o, a, b, c, d', f⟩ := i.own y oe e
      simp only [q, if_false]
      exact ⟨o, (upd_ne q).trans a, b.step (fun _ e => (k _ f).trans e) Sub.rfl', c, d', f⟩
  · have look : ∀ {u : Str} {ou : OD}, ((x, od) :: del x ω).lookup u = some ou → u ≠ x → ω.lookup u = some ou := fun {u ou} e q => (lookup_del (by simpa [List.lookup, beq_eq_false_iff_ne.mpr q] using e)).2
    by_cases q : y = x
    · by_cases q2 : z = x
      · exact absurd (q.trans q2.symm) hne
      · simp only [q, q2, if_true, if_false]
        exact Ne.symm (na z of (look e2 q2) q2)
    · by_cases q2 : z = x
      · simp only [q, q2, if_true, if_false]
        exact na y oe (look e1 q) q
      · simp only [q, q2, if_false]
        exact i.apart y z oe of (look e1 q) (look e2 q2) hne
/-- an own object goes into the view -/
theorem Inv.freeze {x : Str} {ds : List D} (i : Inv s₀ kp gE env σ ω s) (h : ω.lookup x = some (.list ds)) : Inv s₀ kp gE env ((x, .list ds) :: σ) (del x ω) s := by
  obtain ⟨vm, g, ad, i⟩ := i
  obtain ⟨ho, a, ⟨vs, ⟨n1, e1⟩, ra⟩, n0, ng, nf⟩ := i.own x _ h
  generalize hoo : (⟨.type "list", none, .seq vs.toArray n1, #[]⟩ : Obj) = o at e1
  have sb : Sub g (put g (ad x) o) := fun b o' e => by
    by_cases q : b = ad x
    · rw [q, ng] at e; cases e
    · simp [put, q, e]
  refine ⟨vm, put g (ad x) o, ad, i.shape, i.keep, i.sub.trans sb, fun b o' e => ?_, fun b o' e => ?_, i.fx, fun b m => ⟨(i.ft b m).1, ?_⟩, fun y u e => ?_, fun y od e => ?_, fun y z od oe e1 e2 => i.apart y z od oe (lookup_del e1).2 (lookup_del e2).2⟩
  · by_cases q : b = ad x
    · subst q; rw [put_self] at e; cases e; exact e1
    · simp [put, q] at e; exact i.inc b o' e
  · by_cases q : b = ad x
    · subst q; exact .inr n0
    · simp [put, q] at e; exact i.fresh b o' e
  · have : b ≠ ad x := fun q => nf (q ▸ m)
    simp [put, this, (i.ft b m).2]
  · by_cases q : y = x
    · subst q
      simp [List.lookup] at e; subst e
      exact ⟨ho, _, a, .list (by rw [hoo]; exact put_self) (ra.mono sb)⟩
    · obtain ⟨o', w, a', b'⟩ := i.var y u (by simpa [List.lookup, beq_eq_false_iff_ne.mpr q] using e)
      exact ⟨o', w, a', b'.mono sb⟩
  · obtain ⟨q, e⟩ := lookup_del e
    obtain ⟨o', a', b', c', d', f'⟩ := i.own y od e
    have : ad y ≠ ad x := i.apart y x od _ e h q
    exact ⟨o', a', b'.step (fun _ e => e) sb, c', by simp [put, this, d'], f'⟩
theorem Inv.freezeD {x : Str} {ds : List (Int × D)} (i : Inv s₀ kp gE env σ ω s) (h : ω.lookup x = some (.dict ds)) : Inv s₀ kp gE env ((x, .dict ds) :: σ) (del x ω) s := by
  obtain ⟨vm, g, ad, i⟩ := i
  obtain ⟨ho, a, ⟨o, kvs, e1, hsm, hid, ra⟩, n0, ng, nf⟩ := i.own x _ h
  have sb : Sub g (put g (ad x) o) := fun b o' e => by
    by_cases q : b = ad x
    · rw [q, ng] at e; cases e
    · simp [put, q, e]
  refine ⟨vm, put g (ad x) o, ad, i.shape, i.keep, i.sub.trans sb, fun b o' e => ?_, fun b o' e => ?_, i.fx, fun b m => ⟨(i.ft b m).1, ?_⟩, fun y u e => ?_, fun y od e => ?_, fun y z od oe e1 e2 => i.apart y z od oe (lookup_del e1).2 (lookup_del e2).2⟩
  · by_cases q : b = ad x
    · subst q; rw [put_self] at e; cases e; exact e1
    · simp [put, q] at e; exact i.inc b o' e
  · by_cases q : b = ad x
    · subst q; exact .inr n0
    · simp [put, q] at e; exact i.fresh b o' e
  · have : b ≠ ad x := fun q => nf (q ▸ m)
    simp [put, this, (i.ft b m).2]
  · by_cases q : y = x
    · subst q
      simp [List.lookup] at e; subst e
      exact ⟨ho, _, a, .dict put_self hsm hid (ra.mono sb)⟩
    · obtain ⟨o', w, a', b'⟩ := i.var y u (by simpa [List.lookup, beq_eq_false_iff_ne.mpr q] using e)
      exact ⟨o', w, a', b'.mono sb⟩
  · obtain ⟨q, e⟩ := lookup_del e
    obtain ⟨o', a', b', c', d', f'⟩ := i.own y od e
    have : ad y ≠ ad x := i.apart y x od _ e h q
    exact ⟨o', a', b'.step (fun _ e => e) sb, c', by simp [put, this, d'], f'⟩
end
end Zn
/-! part ZnH -/
namespace Zn
open PySem PySem.W PySem.Calls PyProof.Rows PySem.Spec

inductive Out where
  | next (σ : Sig) (ω : OSig)
  | brk (σ : Sig) (ω : OSig)
  | cont (σ : Sig) (ω : OSig)
  | ret (d : D)
/-- what a frame hands on: all that was to be kept stands, the view grew by what is new -/
structure Hands (s₀ : Shared) (kp gE g' : View) (s' : Shared) : Prop where
  shape : ∃ h' tk', s' = { s₀ with heap := h', toks := tk' }
  keep : Inc kp s'.heap
  sub : Sub gE g'
  inc : Inc g' s'.heap
  fresh : ∀ a o, g' a = some o → gE a = some o ∨ kp a = none
noncomputable def Meets (s₀ : Shared) (kp gE : View) (env : Env) (o : Out) (fl : Flow) (s' : Shared) : Prop := match o with
  | .next σ ω => fl = .next ∧ Inv s₀ kp gE env σ ω s'
  | .brk σ ω => fl = .brk ∧ Inv s₀ kp gE env σ ω s'
  | .cont σ ω => fl = .cont ∧ Inv s₀ kp gE env σ ω s'
  | .ret d => ∃ v g', fl = .ret v ∧ Hands s₀ kp gE g' s' ∧ Rd g' v d
structure St (C : Cx) (A : Around) (env : Env) (σ : Sig) (ω : OSig) (st : Stmt) (Φ : Out → Prop) : Prop where
  of ::
  run : ∀ s₀ kp gE s, Sub C.hB.get? kp → Inv s₀ kp gE env σ ω s → wpAny C.M A (exec st env) (fun fl s' => ∃ o, Φ o ∧ Meets s₀ kp gE env o fl s') No s
structure Sts (C : Cx) (A : Around) (env : Env) (σ : Sig) (ω : OSig) (sts : List Stmt) (Φ : Out → Prop) : Prop where
  of ::
  run : ∀ s₀ kp gE s, Sub C.hB.get? kp → Inv s₀ kp gE env σ ω s → wpAny C.M A (execs sts env) (fun fl s' => ∃ o, Φ o ∧ Meets s₀ kp gE env o fl s') No s
noncomputable def Then (C : Cx) (A : Around) (env : Env) (rest : List Stmt) (Φ : Out → Prop) : Out → Prop
  | .next σ ω => Sts C A env σ ω rest Φ
  | o => Φ o

section
variable {C : Cx} {A : Around} {env : Env} {σ σ' : Sig} {ω ω' : OSig} {Φ Ψ : Out → Prop}
theorem Sts.wk {st : List Stmt} (h : Sts C A env σ' ω' st Φ) (k : ∀ x d, σ'.lookup x = some d → σ.lookup x = some d) (k' : ∀ x d, ω'.lookup x = some d → ω.lookup x = some d) : Sts C A env σ ω st Φ := .of fun s₀ kp gE s b i => h.run s₀ kp gE s b (i.wk k k')
theorem Sts.freeze {st : List Stmt} {x : Str} {ds : List D} (e : ω.lookup x = some (.list ds)) (h : Sts C A env ((x, .list ds) :: σ) (del x ω) st Φ) : Sts C A env σ ω st Φ := .of fun s₀ kp gE s b i => h.run s₀ kp gE s b (i.freeze e)
theorem Sts.freezeD {st : List Stmt} {x : Str} {ds : List (Int × D)} (e : ω.lookup x = some (.dict ds)) (h : Sts C A env ((x, .dict ds) :: σ) (del x ω) st Φ) : Sts C A env σ ω st Φ := .of fun s₀ kp gE s b i => h.run s₀ kp gE s b (i.freezeD e)
theorem sts_nil (h : Φ (.next σ ω)) : Sts C A env σ ω [] Φ := .of fun s₀ kp gE s b i => wpAny_pure ⟨_, h, rfl, i⟩
theorem sts_cons {st : Stmt} {rest : List Stmt} (h : St C A env σ ω st (Then C A env rest Φ)) : Sts C A env σ ω (st :: rest) Φ := .of fun s₀ kp gE s b i => by
  show wpAny _ _ (do match ← exec st env with | .next => execs rest env | f => pure f) _ _ s
  refine wpAny_bind (wpAny_mono (h.run s₀ kp gE s b i) (fun fl s' hh => ?_) no_imp)
  obtain ⟨o, a, m⟩ := hh
  cases o with
  | next σ' ω' => obtain ⟨rfl, i'⟩ := m; exact Sts.run a s₀ kp gE s' b i'
  | brk σ' ω' => obtain ⟨rfl, i'⟩ := m; exact wpAny_pure ⟨_, a, rfl, i'⟩
  | cont σ' ω' => obtain ⟨rfl, i'⟩ := m; exact wpAny_pure ⟨_, a, rfl, i'⟩
  | ret d => obtain ⟨v, g', rfl, k, r⟩ := m; exact wpAny_pure ⟨_, a, v, g', rfl, k, r⟩
theorem st_assign {x : Str} {px pos : Pos} {e : Expr} {d : D} (he : EnvOk env) (h : Ev C A env σ e d) (ho : Own env env.cells x) (k : Φ (.next ((x, d) :: σ) (del x ω)))
    (hs : swapsWith e (some (.Name x px)) pos.line env = pure false := by rfl) : St C A env σ ω (.Assign [.Name x px] e pos) Φ := .of fun s₀ kp gE s b ⟨vm, g, ad, i⟩ =>
  wpAny_Assign_Name (h.then (i.pre b) fun v s1 g1 k1 p1 r1 => (i.step k1).store he.kind ho r1 fun s2 i2 => ⟨_, k, rfl, i2⟩) hs
theorem st_aug {x : Str} {px pos : Pos} {op : Operator} {e : Expr} {a b d : D} (he : EnvOk env) (hr : Rm A 0) (hx : σ.lookup x = some a) (h : Ev C A env σ e b) (hb : ∀ (C : Cx) (A : Around) (g : View) (s : Shared) (v u : Value), Rm A 0 → Kp C.hB s.heap → Inc g s.heap → Rd g v a → Rd g u b → Gives C A g s (inplaceOp op v u) d)
    (k : Φ (.next ((x, d) :: σ) (del x ω))) (hc : (x == ("__classdict__" : Str)) = false := by decide) : St C A env σ ω (.AugAssign (.Name x px) op e pos) Φ := .of fun s₀ kp gE s b' ⟨vm, g, ad, i⟩ => by
  obtain ⟨ho, v, e1, r⟩ := i.var x a hx
  refine wpAny_AugAssign_Name (load_var he.kind (i.fx.var ho e1) hc (h.then (i.pre b') fun u s1 g1 k1 p1 r1 => (hb C A g1 s1 v u hr p1.base p1.inc (r.mono k1.sub) r1).mono fun w s2 g2 k2 r2 => ?_))
  exact ((i.step k1).step k2).store he.kind ho r2 fun s3 i3 => ⟨_, k, rfl, i3⟩
theorem st_if {t : Expr} {x y : List Stmt} {pos : Pos} {c : Bool} (h : Ts C A env σ t c) (h1 : c = true → Sts C A env σ ω x Φ) (h2 : c = false → Sts C A env σ ω y Φ) : St C A env σ ω (.If t x y pos) Φ := .of fun s₀ kp gE s b ⟨vm, g, ad, i⟩ =>
  wpAny_If (h.then (i.pre b) fun s1 g1 k1 p1 => by
    cases c with
    | true => exact (h1 rfl).run s₀ kp gE s1 b ⟨vm, g1, ad, i.step k1⟩
    | false => exact (h2 rfl).run s₀ kp gE s1 b ⟨vm, g1, ad, i.step k1⟩)
theorem InvG.out {s₀ s : Shared} {kp gE g : View} {vm : Str → Option Value} {ad : Str → Addr} (i : InvG s₀ kp gE env σ ω vm g ad s) : Hands s₀ kp gE g s := ⟨i.shape, i.keep, i.sub, i.inc, i.fresh⟩
theorem st_return {e : Expr} {d : D} {pos : Pos} (h : Ev C A env σ e d) (k : Φ (.ret d)) : St C A env σ ω (.Return (some e) pos) Φ := .of fun s₀ kp gE s b ⟨vm, g, ad, i⟩ =>
  wpAny_Return_some (h.then (i.pre b) fun v s1 g1 k1 p1 r1 => ⟨_, k, v, g1, rfl, (i.step k1).out, r1⟩)
theorem st_break {pos : Pos} (k : Φ (.brk σ ω)) : St C A env σ ω (.Break pos) Φ := .of fun s₀ kp gE s b i =>
  show wpAny _ _ (do standAt pos; pure Flow.brk) _ _ _ from wpAny_bind (wpAny_standAt (wpAny_pure ⟨_, k, rfl, i⟩))


/-- the frame's own places -/
noncomputable def Mine (env : Env) (ω : OSig) (ad : Str → Addr) (a : Addr) : Prop := Ft env env.cells a ∨ ∃ x od, ω.lookup x = some od ∧ a = ad x
open Classical in
noncomputable def others (env : Env) (ω : OSig) (ad : Str → Addr) (h : Heap) : View := fun a => if Mine env ω ad a then none else h.get? a
theorem others_some {env : Env} {ω : OSig} {ad : Str → Addr} {h : Heap} {a : Addr} {o : Obj} (n : ¬ Mine env ω ad a) (e : h.get? a = some o) : others env ω ad h a = some o := by simp [others, n, e]
theorem others_inv {env : Env} {ω : OSig} {ad : Str → Addr} {h : Heap} {a : Addr} {o : Obj} (e : others env ω ad h a = some o) : ¬ Mine env ω ad a ∧ h.get? a = some o := by
  unfold others at e
  split at e
  · cases e
  · rename_i n; exact ⟨n, e⟩
theorem others_mine {env : Env} {ω : OSig} {ad : Str → Addr} {h : Heap} {a : Addr} (m : Mine env ω ad a) : others env ω ad h a = none := by simp [others, m]
theorem InvG.mine {s₀ s : Shared} {kp gE g : View} {vm : Str → Option Value} {ad : Str → Addr} (i : InvG s₀ kp gE env σ ω vm g ad s) {a : Addr} (m : Mine env ω ad a) : kp a = none ∧ g a = none := by
  rcases m with m | ⟨x, od, e, rfl⟩
  · exact i.ft a m
  · obtain ⟨_, _, _, a, b, _⟩ := i.own x od e; exact ⟨a, b⟩
/-- from here on all but the frame's own places is to be kept -/
theorem InvG.rebase {s₀ s : Shared} {kp gE g : View} {vm : Str → Option Value} {ad : Str → Addr} (i : InvG s₀ kp gE env σ ω vm g ad s) : InvG s (others env ω ad s.heap) g env σ ω vm g ad s :=
  ⟨⟨s.heap, s.toks, rfl⟩, fun a o e => (others_inv e).2, Sub.rfl', i.inc, fun a o e => .inl e, i.fx, fun a m => ⟨others_mine (.inl m), (i.ft a m).2⟩, i.var, fun x od e =>
    let ⟨a, b, c, _, d, f⟩ := i.own x od e; ⟨a, b, c, others_mine (.inr ⟨x, od, e, rfl⟩), d, f⟩, i.apart⟩
theorem InvG.kpSub {s₀ s : Shared} {kp gE g : View} {vm : Str → Option Value} {ad : Str → Addr} (i : InvG s₀ kp gE env σ ω vm g ad s) : Sub kp (others env ω ad s.heap) := fun a o e =>
  others_some (fun m => by rw [(i.mine m).1] at e; cases e) (i.keep a o e)
theorem InvG.back {s₀ s s' : Shared} {kp gE g : View} {vm vm' : Str → Option Value} {ad ad' : Str → Addr} {g' : View} (i : InvG s₀ kp gE env σ ω vm g ad s) (j : InvG s (others env ω ad s.heap) g env σ' ω' vm' g' ad' s') : InvG s₀ kp gE env σ' ω' vm' g' ad' s' := by
  refine ⟨?_, fun a o e => j.keep a o (i.kpSub a o e), i.sub.trans j.sub, j.inc, fun a o e => ?_, j.fx, fun a m => ⟨?_, (j.ft a m).2⟩, j.var, fun x od e => ?_, j.apart⟩
  · obtain ⟨h1, t1, e1⟩ := i.shape
    obtain ⟨h2, t2, e2⟩ := j.shape
    exact ⟨h2, t2, by rw [e2, e1]⟩
  · rcases j.fresh a o e with z | z
    · exact i.fresh a o z
    · cases y : kp a with
      | none => exact .inr rfl
      | some o' => rw [i.kpSub a o' y] at z; cases z
  · exact (i.ft a m).1
  · obtain ⟨a, b, c, d, f⟩ := j.own x od e
    refine ⟨a, b, c, ?_, f⟩
    cases y : kp (ad' x) with
    | none => rfl
    | some o' => rw [i.kpSub _ o' y] at d; cases d
theorem InvG.backRet {s₀ s s' : Shared} {kp gE g : View} {vm : Str → Option Value} {ad : Str → Addr} {g' : View} (i : InvG s₀ kp gE env σ ω vm g ad s) (j : Hands s (others env ω ad s.heap) g g' s') : Hands s₀ kp gE g' s' := by
  refine ⟨?_, fun a o e => j.keep a o (i.kpSub a o e), i.sub.trans j.sub, j.inc, fun a o e => ?_⟩
  · obtain ⟨h1, t1, e1⟩ := i.shape
    obtain ⟨h2, t2, e2⟩ := j.shape
    exact ⟨h2, t2, by rw [e2, e1]⟩
  · rcases j.fresh a o e with z | z
    · exact i.fresh a o z
    · cases y : kp a with
      | none => exact .inr rfl
      | some o' => rw [i.kpSub a o' y] at z; cases z

/-- a for over data: what holds ahead of each turn is told by its number -/
theorem st_for {target iter : Expr} {body orelse : List Stmt} {pos : Pos} {ds : List D} (S : Nat → Sig × OSig) (P : Nat → Prop) (he : EnvOk env) (hr : Rm A 0) (hi : It C A env σ iter ds) (h0 : S 0 = (σ, ω)) (hP0 : P 0)
    (turn : ∀ i d, P i → ds[i]? = some d → ∃ τ, Tgt target d τ ∧ (∀ q ∈ τ, Own env env.cells q.1) ∧ (∀ q ∈ τ, (S i).2.lookup q.1 = none) ∧
      Sts C A env (τ ++ (S i).1) (S i).2 body (fun o => match o with
        | .next σ' ω' => P (i + 1) ∧ (∀ x d, (S (i + 1)).1.lookup x = some d → σ'.lookup x = some d) ∧ (∀ x d, (S (i + 1)).2.lookup x = some d → ω'.lookup x = some d)
        | .cont σ' ω' => P (i + 1) ∧ (∀ x d, (S (i + 1)).1.lookup x = some d → σ'.lookup x = some d) ∧ (∀ x d, (S (i + 1)).2.lookup x = some d → ω'.lookup x = some d)
        | .brk σ' ω' => Φ (.next σ' ω')
        | .ret d => Φ (.ret d)))
    (last : P ds.length → Sts C A env (S ds.length).1 (S ds.length).2 orelse Φ)
    (hs : ∀ x, foldedSetIterable iter env x = pure x := by intro _; rfl) : St C A env σ ω (.For target iter body orelse pos) Φ := .of fun s₀ kp gE s b ⟨vm, g, ad, i⟩ => by
  refine wpAny_For (wpAny_mono (hi.run g s (i.pre b)) (fun x s1 h1 => wpAny_mono h1 (fun it s2 h2 => ?_) no_imp) no_imp) hs
  obtain ⟨g2, I, fp, PW, Sw, rfl, k2, W, st, hP, hfp, gI, sI, T, hT, hcls⟩ := h2
  have i2 := i.step k2
  rw [show σ = (S 0).1 by rw [h0], show ω = (S 0).2 by rw [h0]] at i2
  have has2 : ∀ {a}, Mine env (S 0).2 ad a → s.heap.get? a ≠ none := fun {a} m => by
    rcases m with m | ⟨x, od, e, rfl⟩
    · exact i.fx.has m
    · rw [show (S 0).2 = ω by rw [h0]] at e
      obtain ⟨_, _, c, _⟩ := i.own x od e
      exact c.has
  -- the iterator's places stand apart from the frame's
  have ap0 : ¬ Mine env (S 0).2 ad I := fun m => has2 m sI
  -- the loop's own state: the frame's invariant; the iterator and what it reads stand apart
  refine codeAny_forLoop_any (fun k s' => ∃ j vm g ad, j ≤ ds.length ∧ P j ∧ k = ds.length + 1 - j ∧ Sw j s'.heap ∧ InvG s₀ kp gE env (S j).1 (S j).2 vm g ad s' ∧ Sub g2 g ∧ g I = none ∧ ¬ Mine env (S j).2 ad I)
    ?_ (ds.length + 1) ⟨0, vm, g2, ad, Nat.zero_le _, hP0, rfl, st, i2, Sub.rfl', gI, ap0⟩
  rintro k s' ⟨j, vm', g', ad', hj, hPj, rfl, st', ij, sb, gI', ap⟩
  -- what a step of the iterator leaves
  have after : ∀ h1 tk1, (∀ b o, b ∉ [I] → s'.heap.get? b = some o → h1.get? b = some o) → InvG s₀ kp gE env (S j).1 (S j).2 vm' g' ad' { s' with heap := h1, toks := tk1 } := fun h1 tk1 k1 => by
    have ne : ∀ {b}, b ≠ I → b ∉ [I] := fun q m => q (List.mem_singleton.mp m)
    have kI : kp I = none := by
      cases z : kp I with
      | none => rfl
      | some o => have := i.keep I o z; rw [sI] at this; cases this
    refine ⟨?_, fun a o e => k1 a o (ne fun q => ?_) (ij.keep a o e), ij.sub, fun a o e => k1 a o (ne fun q => ?_) (ij.inc a o e), ij.fresh, ij.fx.keepBut fun a o m e => k1 a o (ne fun q => ap (q ▸ .inl m)) e, ij.ft, ij.var, fun x od e => ?_, ij.apart⟩
    · obtain ⟨h2, t2, e2⟩ := ij.shape
      exact ⟨h1, tk1, by rw [e2]⟩
    · rw [q, kI] at e; cases e
    · rw [q, gI'] at e; cases e
    · obtain ⟨a, b, c, d⟩ := ij.own x od e
      exact ⟨a, b, c.step (fun _ e' => k1 _ _ (ne fun q => ap (.inr ⟨x, od, e, q.symm⟩)) e') Sub.rfl', d⟩
  by_cases hjn : j < ds.length
  · refine W.item j s' _ _ hjn st' fun v h1 tk1 hv st1 k1 => ?_
    have i1 := after h1 tk1 k1
    obtain ⟨oI, hoI, hcI⟩ := hcls _ _ st1
    refine go_cls (s := { s' with heap := h1, toks := tk1 }) hoI hcI hT ?_
    obtain ⟨d, hd, rd⟩ := hP j v hv
    obtain ⟨τ, tg, own, nown, body'⟩ := turn j d hPj hd
    have fx1 : Fx env env.cells vm' h1 := i1.fx
    refine asg tg hr he.kind (s := { s' with heap := h1, toks := tk1 }) fx1 own (rd.mono sb) i1.inc fun h2 tk2 vm2 fx2 k2' a2 b2 => ?_
    have i3 : InvG s₀ kp gE env (τ ++ (S j).1) (S j).2 vm2 g' ad' { s' with heap := h2, toks := tk2 } := by
      refine ⟨?_, fun a o e => k2' a o (fun m => ?_) (i1.keep a o e), i1.sub, fun a o e => k2' a o (fun m => ?_) (i1.inc a o e), i1.fresh, fx2, i1.ft, fun x u e => ?_, fun x od e => ?_, i1.apart⟩
      · obtain ⟨h9, t9, e9⟩ := ij.shape
        exact ⟨h2, tk2, by rw [e9]⟩
      · rw [(i1.ft a m).1] at e; cases e
      · rw [(i1.ft a m).2] at e; cases e
      · rcases lookup_app e with e | ⟨n, e⟩
        · obtain ⟨w, ew, rw'⟩ := a2 x u e
          exact ⟨own _ (mem_of_lookup e), w, ew, rw'⟩
        · obtain ⟨o, w, ew, rw'⟩ := i1.var x u e
          exact ⟨o, w, (b2 x n).trans ew, rw'⟩
      · obtain ⟨o, ew, c, d1, d2, f⟩ := i1.own x od e
        refine ⟨o, (b2 x ?_).trans ew, c.step (fun _ e' => k2' _ _ f e') Sub.rfl', d1, d2, f⟩
        cases z : τ.lookup x with
        | none => rfl
        | some u => rw [nown _ (mem_of_lookup z)] at e; cases e
    have apI : ¬ Mine env (S j).2 ad' I := ap
    have hI2 : h2.get? I = some oI := k2' I oI (fun m => ap (.inl m)) hoI
    have oI2 : others env (S j).2 ad' h2 I = some oI := others_some apI hI2
    have hlt : ds.length + 1 - (j + 1) < ds.length + 1 - j := by lia
    -- the next turn's state
    have next : ∀ {σ' ω' vm5 g5 ad5 s5}, InvG { s' with heap := h2, toks := tk2 } (others env (S j).2 ad' h2) g' env σ' ω' vm5 g5 ad5 s5 → P (j + 1) → (∀ x d, (S (j + 1)).1.lookup x = some d → σ'.lookup x = some d) → (∀ x d, (S (j + 1)).2.lookup x = some d → ω'.lookup x = some d) →
        ∃ m, m < ds.length + 1 - j ∧ ∃ j vm g ad, j ≤ ds.length ∧ P j ∧ m = ds.length + 1 - j ∧ Sw j s5.heap ∧ InvG s₀ kp gE env (S j).1 (S j).2 vm g ad s5 ∧ Sub g2 g ∧ g I = none ∧ ¬ Mine env (S j).2 ad I := by
      intro σ' ω' vm5 g5 ad5 s5 i5 hP5 w1 w2
      have i6 := i3.back i5
      have mI : ∀ {ωx : OSig}, (∀ x d, ωx.lookup x = some d → ω'.lookup x = some d) → ¬ Mine env ωx ad5 I := fun {ωx} ww m => by
        have : Mine env ω' ad5 I := by
          rcases m with m | ⟨x, od, e, q⟩
          · exact .inl m
          · exact .inr ⟨x, od, ww x od e, q⟩
        have := (i5.mine this).1
        rw [oI2] at this; cases this
      refine ⟨_, hlt, j + 1, vm5, g5, ad5, hjn, hP5, rfl, W.frame _ _ _ st1 fun b hb o e => ?_, ⟨i6.shape, i6.keep, i6.sub, i6.inc, i6.fresh, i6.fx, i6.ft, fun x u e => i6.var x u (w1 x u e), fun x od e => i6.own x od (w2 x od e), fun x y od oe e1 e2 => i6.apart x y od oe (w2 _ _ e1) (w2 _ _ e2)⟩, sb.trans i5.sub, ?_, mI w2⟩
      · rcases hfp b hb with rfl | q
        · rw [hoI] at e; cases e
          exact i5.keep _ _ oI2
        · cases z : g2 b with
          | none => exact absurd z q
          | some o' =>
            have e1 := i1.inc b o' (sb b o' z)
            have : o = o' := Option.some.inj (e.symm.trans e1)
            subst this
            exact i5.inc b o (i5.sub b o (sb b o z))
      · cases z : g5 I with
        | none => rfl
        | some o =>
          rcases i5.fresh I o z with y | y
          · rw [gI'] at y; cases y
          · rw [oI2] at y; cases y
    refine wpAny_mono (body'.run { s' with heap := h2, toks := tk2 } (others env (S j).2 ad' h2) g' { s' with heap := h2, toks := tk2 } (fun a o e => i3.kpSub a o (b a o e)) ⟨vm2, g', ad', i3.rebase⟩) (fun fl s5 hh => ?_) no_imp
    obtain ⟨o, ho, m⟩ := hh
    cases o with
    | next σ' ω' => obtain ⟨rfl, vm5, g5, ad5, i5⟩ := m; exact next i5 ho.1 ho.2.1 ho.2.2
    | cont σ' ω' => obtain ⟨rfl, vm5, g5, ad5, i5⟩ := m; exact next i5 ho.1 ho.2.1 ho.2.2
    | brk σ' ω' => obtain ⟨rfl, vm5, g5, ad5, i5⟩ := m; exact ⟨_, ho, rfl, vm5, g5, ad5, i3.back i5⟩
    | ret d' => obtain ⟨v', g5, rfl, h5, r5⟩ := m; exact ⟨_, ho, v', g5, rfl, i3.backRet h5, r5⟩
  · obtain rfl : j = ds.length := by lia
    refine W.done s' _ _ st' fun h1 tk1 k1 => ?_
    exact wpAny_mono ((last hPj).run s₀ kp gE _ b ⟨vm', g', ad', after h1 tk1 k1⟩) (fun _ _ x => x) no_imp
end
end Zn
/-! part ZnI -/
namespace Zn
open PySem PySem.W PySem.Calls PyProof.Rows PySem.Spec

/-- what a def of the text's answers: a datum for data, growing alone -/
structure Fn (C : Cx) (f : Addr) (k : Nat) (ds : List D) (d : D) : Prop where
  of ::
  run : ∀ (A : Around) (g : View) (s : Shared) (vs : List Value), Rm A k → Kp C.hB s.heap → Inc g s.heap → RdAll g vs ds → Gives C A g s (call (.ref f) vs) d

theorem bindL_other {kd : Str → Option NameKind} : ∀ (l : List (Str × Value)) (m : Str → Option Value) (x : Str), x ∉ l.map (·.1) → bindL kd l m x = m x
  | [], m, x, _ => rfl
  | (n, v) :: r, m, x, h => by
    unfold bindL
    rw [bindL_other r _ x fun q => h (.tail _ q)]
    have : x ≠ n := fun q => h (by rw [q]; exact .head _)
    split <;> simp [this]
theorem bindC_other {kd : Str → Option NameKind} : ∀ (l : List (Str × Value)) (m : Str → Option Value) (x : Str), x ∉ l.map (·.1) → bindC kd l m x = m x
  | [], m, x, _ => rfl
  | (n, v) :: r, m, x, h => by
    unfold bindC
    rw [bindC_other r _ x fun q => h (.tail _ q)]
    have : x ≠ n := fun q => h (by rw [q]; exact .head _)
    split <;> simp [this]
theorem zip_fst {α β : Type} : ∀ (l : List α) (r : List β), r.length = l.length → (l.zip r).map (·.1) = l
  | [], _, _ => rfl
  | a :: l, b :: r, h => by rw [List.zip_cons_cons, List.map_cons, zip_fst l r (by simpa using h)]
  | a :: l, [], h => by cases h
theorem bind_val {kd : Str → Option NameKind} {g : View} {x : Str} {d : D} : ∀ (names : List Str) (vs : List Value) (ds : List D) (m cm : Str → Option Value), names.Nodup → RdAll g vs ds → vs.length = names.length → (names.zip ds).lookup x = some d →
    ∃ v, Rd g v d ∧ (kd x = some .local → bindL kd (names.zip vs) m x = some v) ∧ (kd x ≠ some .local → bindC kd (names.zip vs) cm x = some v)
  | [], vs, ds, m, cm, _, _, _, e => by simp at e
  | n :: names, vs, ds, m, cm, nd, r, l, e => by
    cases r with
    | nil => cases l
    | @cons v vs d' ds r1 ra =>
      obtain ⟨n1, nd'⟩ := List.nodup_cons.mp nd
      have l' : vs.length = names.length := by simpa using l
      rw [List.zip_cons_cons] at e ⊢
      unfold bindL bindC
      by_cases q : x = n
      · subst q
        simp [List.lookup] at e; subst e
        refine ⟨v, r1, fun hk => ?_, fun hk => ?_⟩
        · rw [bindL_other _ _ _ (by rw [zip_fst _ _ l']; exact n1), if_pos hk]; simp
        · rw [bindC_other _ _ _ (by rw [zip_fst _ _ l']; exact n1), if_neg hk]; simp
      · exact bind_val names vs ds _ _ nd' ra l' (by simpa [List.lookup, beq_eq_false_iff_ne.mpr q] using e)

noncomputable def Ends (d : D) : Out → Prop
  | .ret d' => d' = d
  | .next _ _ => d = .none
  | _ => False
theorem fn_of {C : Cx} {f : Addr} {o : Obj} {fd : FuncData} {body : List Stmt} {names : List Str} {ds : List D} {d : D} {k : Nat} (hC : C.Ok) (ho : C.hB.get? f = some o) (hd : o.data = .func fd) (hcd : C.hB.CodeRec fd.code fd.qualname) (hb : fd.body = .stmts body)
    (hbind : ∀ vs, vs.length = names.length → bindArgs fd ⟨vs, []⟩ = pure (names.zip vs)) (hclo : fd.closure = []) (hnd : names.Nodup) (hlen : ds.length = names.length)
    (hown : ∀ L x c, (x, c) ∈ cellsFrom (L + 1) fd.scope.names [] → (callEnvC fd L f).kindOf x = some .cell ∧ (callEnvC fd L f).cells.lookup x = some c)
    (hnames : ∀ L, ∀ x ∈ names, Own (callEnvC fd L f) (callEnvC fd L f).cells x)
    (hco : fd.scope.isCoroutine = false) (hgen : fd.scope.isGenerator = false) (hk : fd.scope.kind = .function)
    (hbody : ∀ A L, Rm A k → Sts C A (callEnvC fd L f) (names.zip ds) [] body (Ends d)) : Fn C f (k + 1) ds d := .of fun A g s vs hr hB inc ra => by
  have hl : vs.length = names.length := ra.length.trans hlen
  refine wpAny_call (codeAny_call_cells (R := fun r s' => match r with | .ok (.ret v) => ∃ g', Stp g s g' s' ∧ Rd g' v d | .ok _ => False | .error e => No e s') (Nat.lt_of_le_of_lt (Nat.le_add_right _ _) hr.dep) (hB _ _ ho) hd (hC.nolimit.keeps hB) (let ⟨c, o, v, t, e, h, r⟩ := hcd; ⟨c, o, v, t, e, hB _ _ h, r⟩) hb (hbind vs hl) hclo ?_ (fun s₁ x => ?_) hco hgen hk)
  · intro y hy
    have : y.1 ∈ names := by
      have := (List.mem_map (f := Prod.fst)).mpr ⟨y, hy, rfl⟩
      rwa [zip_fst names vs hl] at this
    exact hnames s.heap.objs.size y.1 this
  · have none_ge : ∀ {a : Addr}, s.heap.objs.size ≤ a → s.heap.get? a = none ∧ g a = none := fun {a} h => by
      have h1 : s.heap.get? a = none := by
        cases z : s.heap.get? a with
        | none => rfl
        | some o => exact absurd (Heap.lt_size z) (Nat.not_lt.mpr h)
      refine ⟨h1, ?_⟩
      cases z : g a with
      | none => rfl
      | some o => rw [inc _ _ z] at h1; cases h1
    refine wpAny_mono ((hbody _ s.heap.objs.size (hr.deeper (callEnvC fd s.heap.objs.size f))).run s s.heap.get? g s₁ hB ⟨fun y => if (callEnvC fd s.heap.objs.size f).kindOf y = some .local then bindL (callEnvC fd s.heap.objs.size f).kindOf (names.zip vs) (fun _ => none) y else bindC (callEnvC fd s.heap.objs.size f).kindOf (names.zip vs) (fun _ => none) y, g, fun _ => 0,
      x.toInCall.same, x.toInCall.keep, Sub.rfl', inc.keep x.toInCall.keep, fun _ _ e => .inl e, ⟨⟨_, x.toInCall.ns, fun y v hy e => by simpa [hy] using e⟩, fun y c m => ?_, x.apart, fun y c m => Nat.ne_of_gt (x.above y c m)⟩, fun a m => ?_, fun y u e => ?_, fun y od e => by simp at e, fun y z od oe e => by simp at e⟩) (fun fl s' hh => ?_) fun e s' hh => hh.elim
    · have hc := (hown s.heap.objs.size y c m)
      refine ⟨hc.1, hc.2, _, x.cell y c hc.2, fun v e => ?_⟩
      have : ¬ (callEnvC fd s.heap.objs.size f).kindOf y = some .local := by rw [hc.1]; decide
      simpa [this] using e
    · rcases m with m | ⟨y, m⟩
      · exact none_ge (Nat.le_of_eq m.symm)
      · exact none_ge (Nat.le_of_lt (x.above y a m))
    · obtain ⟨v, r1, e1, e2⟩ := bind_val (kd := (callEnvC fd s.heap.objs.size f).kindOf) names vs ds (fun _ => none) (fun _ => none) hnd ra hl e
      refine ⟨hnames _ y ?_, v, ?_, r1⟩
      · have := (List.mem_map (f := Prod.fst)).mpr ⟨_, mem_of_lookup e, rfl⟩
        rwa [zip_fst names ds hlen] at this
      · split
        · rename_i q; exact e1 q
        · rename_i q; exact e2 q
    · obtain ⟨o', ho', m⟩ := hh
      cases o' with
      | ret d' => obtain ⟨v, g', rfl, h, r⟩ := m; obtain rfl : d' = d := ho'; exact ⟨g', ⟨h.shape, h.keep, h.sub, h.inc, h.fresh⟩, r⟩
      | next σ ω => obtain ⟨rfl, vm, g', ad, i⟩ := m; obtain rfl : d = .none := ho'; exact ⟨g', ⟨i.shape, i.keep, i.sub, i.inc, i.fresh⟩, .none⟩
      | brk => exact ho'.elim
      | cont => exact ho'.elim

/-- a call of a def by its global name -/
theorem ev_call {C : Cx} {A : Around} {env : Env} {σ : Sig} {x : Str} {p pos : Pos} {e : Expr} {es : List Expr} {f : Addr} {k : Nat} {ds : List D} {d : D} {o : Obj} {fd : FuncData} (hC : C.Ok) (he : EnvOk env) (hx : env.kindOf x = some .globalImplicit) (hm : C.mg x = some (.ref f))
    (ho : C.hB.get? f = some o) (hd : o.data = .func fd) (hf : Fn C f k ds d) (hr : Rm A k) (ha : EvL C A env σ (e :: es) ds)
    (hse : starEach (e :: es) env = (false, eval e env) :: starEach es env := by rfl) (hb : (x == ("__debug__" : Str)) = false := by decide) :
    Ev C A env σ (.Call (.Name x p) (e :: es) [] pos) d := .of fun g s pre => by
  show wpAny _ _ (do callWith pos (← eval (.Name x p) env) [] (backTo pos (starEach (e :: es) env)) (backToKw pos (keywordEach [] env))) _ _ s
  refine wpAny_bind (Name_function_global he.kind hx (loadGlobal_global (by rw [he.globals]; exact hC.g.keeps pre.base) hm ?_) hb)
  refine callWith_def hd (wpAny_mono (ha.run pos g s pre) (fun vs s1 ⟨g1, k1, r1⟩ => ⟨k1.keep _ _ (pre.base _ _ ho), (hf.run A g1 s1 vs hr (pre.base.trans k1.keep) k1.inc r1).after k1⟩) no_imp) hse
end Zn
/-! part ZnJ -/
namespace Zn
open PySem PySem.W PySem.Calls PyProof.Rows PySem.Spec PySem.SeqAt

/-! equality of data -/
mutual
noncomputable def eqd : D → D → Bool
  | .int a, .int b => a == b
  | .str x, .str y => x == y
  | .tup l, .tup r => eqds l r
  | .list l, .list r => eqds l r
  | _, _ => false
noncomputable def eqds : List D → List D → Bool
  | [], [] => true
  | a :: l, b :: r => eqd a b && eqds l r
  | _, _ => false
end
mutual
inductive Like : Nat → D → D → Prop
  | int {n : Nat} {a b : Int} : Like n (.int a) (.int b)
  | str {n : Nat} {a b : Str} : Like n (.str a) (.str b)
  | tup {n : Nat} {l r : List D} : LikeAll n l r → Like (n + 1) (.tup l) (.tup r)
  | list {n : Nat} {l r : List D} : LikeAll n l r → Like (n + 1) (.list l) (.list r)
inductive LikeAll : Nat → List D → List D → Prop
  | nil {n : Nat} : LikeAll n [] []
  | cons {n : Nat} {a b : D} {l r : List D} : Like n a b → LikeAll n l r → LikeAll n (a :: l) (b :: r)
end
theorem LikeAll.length : ∀ {n : Nat} {l r : List D}, LikeAll n l r → l.length = r.length
  | _, _, _, h => by
    cases h with
    | nil => rfl
    | cons _ k => rw [List.length_cons, List.length_cons, k.length]
mutual
theorem like_same {g : View} : ∀ {n : Nat} {v : Value} {d e : D}, Like n d e → Rd g v d → Rd g v e → eqd d e = true
  | _, _, _, _, k, x, y => by
    cases k with
    | int =>
      obtain ⟨t, rfl⟩ := x.int_inv; obtain ⟨t', e⟩ := y.int_inv
      cases e; simp [eqd]
    | str =>
      obtain ⟨t, rfl⟩ := x.str_inv; obtain ⟨t', e⟩ := y.str_inv
      cases e; simp [eqd]
    | tup k =>
      obtain ⟨a, vs, m, rfl, h, r⟩ := x.tup_inv; obtain ⟨a', vs', m', e, h', r'⟩ := y.tup_inv
      cases e
      rw [h] at h'
      have : vs = vs' := by injection h' with h'; injection h' with _ _ h' _; injection h' with h' _; simpa using h'
      subst this
      simpa [eqd] using likeAll_same k r r'
    | list k =>
      obtain ⟨a, vs, m, rfl, h, r⟩ := x.list_inv; obtain ⟨a', vs', m', e, h', r'⟩ := y.list_inv
      cases e
      rw [h] at h'
      have : vs = vs' := by injection h' with h'; injection h' with _ _ h' _; injection h' with h' _; simpa using h'
      subst this
      simpa [eqd] using likeAll_same k r r'
theorem likeAll_same {g : View} : ∀ {n : Nat} {vs : List Value} {ds es : List D}, LikeAll n ds es → RdAll g vs ds → RdAll g vs es → eqds ds es = true
  | _, _, _, _, k, x, y => by
    cases k with
    | nil => rfl
    | cons k l => cases x with | cons a b => cases y with | cons a' b' => simp [eqds, like_same k a a', likeAll_same l b b']
end
theorem tup_of {g : View} {h : Heap} {a : Addr} {vs : List Value} {n : Nat} (i : Inc g h) (e : g a = some ⟨.type "tuple", Option.none, .seq vs.toArray n, #[]⟩) : h.IsTuple a vs.toArray := ⟨_, i _ _ e, rfl, n, rfl⟩
theorem eqds_all : ∀ {ds es : List D}, ds.length = es.length → (List.range ds.length).all (fun j => eqd (ds.getD j .none) (es.getD j .none)) = eqds ds es
  | [], [], _ => rfl
  | a :: l, b :: r, h => by
    have := @eqds_all l r (by simpa using h)
    rw [List.length_cons, List.range_succ_eq_map, List.all_cons, List.all_map]
    simp only [eqds]
    rw [← this]
    rfl
mutual
theorem eqAt_like {A : Around} {g : View} {s : Shared} (i : Inc g s.heap) : ∀ {n : Nat} {d e : D} {v u : Value} {B : Around}, Like n d e → B.units + n < cLine → Rd g v d → Rd g u e → EqAt B s v u (eqd d e)
  | _, _, _, v, u, B, kk, hu, x, y => by
    cases kk with
    | int =>
      obtain ⟨t, rfl⟩ := x.int_inv; obtain ⟨t', rfl⟩ := y.int_inv
      simpa [eqd] using EqAt.int_int (A := B) (s := s) _ t _ t'
    | str =>
      obtain ⟨t, rfl⟩ := x.str_inv; obtain ⟨t', rfl⟩ := y.str_inv
      simpa [eqd] using EqAt.str_str (A := B) (s := s) _ t _ t'
    | @tup n l r k =>
      by_cases q : v = u
      · subst q; have e1 := like_same (Like.tup k) x y; rw [e1]; exact EqAt.same v
      · obtain ⟨a, vs, m, rfl, h, ra⟩ := x.tup_inv; obtain ⟨a', vs', m', rfl, h', ra'⟩ := y.tup_inv
        have hl := ra.length; have hl' := ra'.length; have hk := k.length
        have := EqAt.of_refs (A := B) (s := s) (l := a) (b := a') (fun e => q (by rw [e])) (RcAt.tuples (e := fun j => eqd (l.getD j .none) (r.getD j .none)) (tup_of i h) (tup_of i h') (by lia) fun j h1 h2 => likeAll_at (A := A) i k (by show B.units + 1 + n < cLine; lia) ra ra' (by simpa using h1) (by simpa using h2))
        rw [List.size_toArray, List.size_toArray, hl, hl', ← hk, Nat.min_self, eqds_all hk] at this
        simpa [eqd] using this
    | @list n l r k =>
      by_cases q : v = u
      · subst q; have e1 := like_same (Like.list k) x y; rw [e1]; exact EqAt.same v
      · obtain ⟨a, vs, m, rfl, h, ra⟩ := x.list_inv; obtain ⟨a', vs', m', rfl, h', ra'⟩ := y.list_inv
        have hl := ra.length; have hl' := ra'.length; have hk := k.length
        have := EqAt.of_refs (A := B) (s := s) (l := a) (b := a') (fun e => q (by rw [e])) (RcAt.lists (e := fun j => eqd (l.getD j .none) (r.getD j .none)) (isList_of i h) (isList_of i h') (by rw [List.size_toArray, List.size_toArray, hl, hl', hk]) (by lia) fun j h1 h2 => likeAll_at (A := A) i k (by show B.units + 1 + n < cLine; lia) ra ra' (by simpa using h1) (by simpa using h2))
        rw [List.size_toArray, hl, eqds_all hk] at this
        simpa [eqd] using this
theorem likeAll_at {A : Around} {g : View} {s : Shared} (i : Inc g s.heap) : ∀ {n : Nat} {ds es : List D} {vs us : List Value} {B : Around}, LikeAll n ds es → B.units + n < cLine → RdAll g vs ds → RdAll g us es → ∀ {j : Nat} (h1 : j < vs.length) (h2 : j < us.length), EqAt B s vs[j] us[j] (eqd (ds.getD j .none) (es.getD j .none))
  | _, _, _, _, _, B, kk, hu, x, y, j, h1, h2 => by
    cases kk with
    | nil => cases x; exact absurd h1 (Nat.not_lt_zero _)
    | cons k l => cases x with | cons a b => cases y with | cons a' b' => cases j with
      | zero => exact eqAt_like (A := A) i k hu a a'
      | succ j => simpa using likeAll_at (A := A) i l hu b b' (j := j) (by simpa using h1) (by simpa using h2)
end

theorem cmp_neL {l r : List D} {n : Nat} (k : LikeAll n l r) (hn : n ≤ 4) : ∀ (C : Cx) (A : Around) (g : View) (s : Shared) (v u : Value), Rm A 1 → Inc g s.heap → Rd g v (.list l) → Rd g u (.list r) → Gives C A g s (compareOp .NotEq v u) (.bool (!eqds l r)) := fun C A g s v u hr inc x y => by
  obtain ⟨a, vs, m, rfl, h, ra⟩ := x.list_inv; obtain ⟨a', vs', m', rfl, h', ra'⟩ := y.list_inv
  have hl := ra.length; have hl' := ra'.length; have hk := k.length
  have hu := hr.un
  refine gives_bool inc fun Q hq => RcNeAt.lists (e := fun j => eqd (l.getD j .none) (r.getD j .none)) (isList_of inc h) (isList_of inc h') (by rw [List.size_toArray, List.size_toArray, hl, hl', hk]) (by show _ < 9900; lia) (fun j h1 h2 => likeAll_at (A := A) inc k (by show A.units + 1 + n < 9900; lia) ra ra' (by simpa using h1) (by simpa using h2)) _ _ _ _ ?_
  rw [List.size_toArray, hl, eqds_all hk]; exact hq
theorem cmp_eqE : Cmp .Eq (.list []) (.list []) true := fun C A g s v u hr _ _ inc x y => by
  obtain ⟨a, vs, m, rfl, h, ra⟩ := x.list_inv; obtain ⟨a', vs', m', rfl, h', ra'⟩ := y.list_inv
  cases ra; cases ra'
  have hu := hr.un
  exact gives_bool inc fun Q hq => eq_listAt (e := fun _ => true) (isList_of inc h) (isList_of inc h') rfl (by show _ < 9900; omega) (fun j h1 h2 => absurd h1 (Nat.not_lt_zero _)) hq
theorem cmp_neE : Cmp .NotEq (.list []) (.list []) false := fun C A g s v u hr _ _ inc x y => by
  obtain ⟨a, vs, m, rfl, h, ra⟩ := x.list_inv; obtain ⟨a', vs', m', rfl, h', ra'⟩ := y.list_inv
  cases ra; cases ra'
  have hu := hr.un
  exact gives_bool inc fun Q hq => RcNeAt.lists (e := fun _ => true) (isList_of inc h) (isList_of inc h') rfl (by show _ < 9900; omega) (fun j h1 h2 => absurd h1 (Nat.not_lt_zero _)) _ _ _ _ hq
theorem cmp_eqN {l r : List D} (k : l.length ≠ r.length) : Cmp .Eq (.list l) (.list r) false := fun C A g s v u hr _ _ inc x y => by
  obtain ⟨a, vs, m, rfl, h, ra⟩ := x.list_inv; obtain ⟨a', vs', m', rfl, h', ra'⟩ := y.list_inv
  have hl := ra.length; have hl' := ra'.length
  have hu := hr.un
  exact gives_bool inc fun Q hq => eq_list_lengthsAt (isList_of inc h) (isList_of inc h') (by simp [hl, hl', k]) (by show _ < 9900; omega) hq
theorem cmp_neN {l r : List D} (k : l.length ≠ r.length) : Cmp .NotEq (.list l) (.list r) true := fun C A g s v u hr _ _ inc x y => by
  obtain ⟨a, vs, m, rfl, h, ra⟩ := x.list_inv; obtain ⟨a', vs', m', rfl, h', ra'⟩ := y.list_inv
  have hl := ra.length; have hl' := ra'.length
  have hu := hr.un
  exact gives_bool inc fun Q hq => RcNeAt.lists_lengths (isList_of inc h) (isList_of inc h') (by simp [hl, hl', k]) (by show _ < 9900; omega) _ _ _ _ hq
end Zn
/-! part ZnK -/
namespace Zn
open PySem PySem.W PySem.Calls PyProof.Rows PySem.Spec PySem.SeqAt

theorem Stp.at {g : View} {s : Shared} {h' : Heap} {tk a : Nat} {o : Obj} (i : Inc g s.heap) (k : Kp s.heap h') (n : s.heap.get? a = none) (e : h'.get? a = some o) : Stp g s (put g a o) { s with heap := h', toks := tk } := by
  refine ⟨⟨_, _, rfl⟩, k, sub_put i n, fun b o' e' => ?_, fun b o' e' => ?_⟩
  · by_cases q : b = a
    · subst q; rw [put_self] at e'; cases e'; exact e
    · simp [put, q] at e'; exact k _ _ (i _ _ e')
  · by_cases q : b = a
    · subst q; exact .inr n
    · simp [put, q] at e'; exact .inl e'
theorem Stp.grow {g : View} {s : Shared} {h' : Heap} {tk : Nat} (i : Inc g s.heap) (k : Kp s.heap h') : Stp g s g { s with heap := h', toks := tk } := ⟨⟨_, _, rfl⟩, k, Sub.rfl', i.keep k, fun _ _ e => .inl e⟩
theorem none_ge {h : Heap} {a : Addr} (k : h.objs.size ≤ a) : h.get? a = none := by
  cases e : h.get? a with
  | none => rfl
  | some o => exact absurd (Heap.lt_size e) (Nat.not_lt.mpr k)

/-! calls of built-ins -/
noncomputable def Bf (id : String) (ds : List D) (d : D) : Prop := ∀ (C : Cx) (A : Around) (g : View) (s : Shared) (vs : List Value), Rm A 0 → C.Ok → Kp C.hB s.heap → Inc g s.heap → RdAll g vs ds → Gives C A g s (call (.builtin id) vs) d
noncomputable def Tf (T : String) (ds : List D) (d : D) : Prop := ∀ (C : Cx) (A : Around) (g : View) (s : Shared) (vs : List Value), Rm A 0 → C.Ok → Kp C.hB s.heap → Inc g s.heap → RdAll g vs ds → Gives C A g s (call (.type T) vs) d
/-- a method by its name -/
noncomputable def Mth (d : D) (name : Str) (id : String) : Prop := ∃ T, PlainAttrs T ∧ Slot T name id ∧ typeOf (.builtin id) = pure (.type "method_descriptor") ∧
  ∀ (g : View) (s : Shared) (v : Value), Inc g s.heap → Rd g v d → s.TypeIs v T ∧ ∀ a, v = .ref a → ∃ o, s.heap.get? a = some o ∧ o.dict = none

section
variable {C : Cx} {A : Around} {env : Env} {σ : Sig}
theorem ev_bcall {x : Str} {id : String} {p pos : Pos} {e : Expr} {es : List Expr} {ds : List D} {d : D} (hC : C.Ok) (he : EnvOk env) (hr : Rm A 0) (hx : env.kindOf x = some .globalImplicit) (hm : C.mg x = none)
    (hb : bootBuiltins x = some (.builtin id)) (ha : EvL C A env σ (e :: es) ds) (hf : Bf id ds d)
    (hn : x ≠ ("__name__" : Str) := by decide) (hse : starEach (e :: es) env = (false, eval e env) :: starEach es env := by rfl) (hpl : (backTo pos (starEach es env)).any (·.1) = false := by rfl) (hd : (x == ("__debug__" : Str)) = false := by decide) :
    Ev C A env σ (.Call (.Name x p) (e :: es) [] pos) d := .of fun g s pre => by
  show wpAny _ _ (do callWith pos (← eval (.Name x p) env) [] (backTo pos (starEach (e :: es) env)) (backToKw pos (keywordEach [] env))) _ _ s
  refine wpAny_bind (Name_function_global he.kind hx (loadGlobal_builtin (by rw [he.globals]; exact hC.g.keeps pre.base) hm (by rw [he.builtins]; exact hC.b.keeps pre.base) ((hC.builtins x hn).trans hb) ?_) hd)
  exact callWith_builtin1 (wpAny_mono (ha.run pos g s pre) (fun vs s1 ⟨g1, k1, r1⟩ => (hf C A g1 s1 vs hr hC (pre.base.trans k1.keep) k1.inc r1).after k1) no_imp) hse hpl
theorem ev_tcall {x : Str} {T : String} {p pos : Pos} {e : Expr} {es : List Expr} {ds : List D} {d : D} (hC : C.Ok) (he : EnvOk env) (hr : Rm A 0) (hx : env.kindOf x = some .globalImplicit) (hm : C.mg x = none)
    (hb : bootBuiltins x = some (.type T)) (ha : EvL C A env σ (e :: es) ds) (hf : Tf T ds d)
    (hn : x ≠ ("__name__" : Str) := by decide) (hse : starEach (e :: es) env = (false, eval e env) :: starEach es env := by rfl) (hpl : (backTo pos (starEach es env)).any (·.1) = false := by rfl) (hd : (x == ("__debug__" : Str)) = false := by decide) :
    Ev C A env σ (.Call (.Name x p) (e :: es) [] pos) d := .of fun g s pre => by
  show wpAny _ _ (do callWith pos (← eval (.Name x p) env) [] (backTo pos (starEach (e :: es) env)) (backToKw pos (keywordEach [] env))) _ _ s
  refine wpAny_bind (Name_function_global he.kind hx (loadGlobal_builtin (by rw [he.globals]; exact hC.g.keeps pre.base) hm (by rw [he.builtins]; exact hC.b.keeps pre.base) ((hC.builtins x hn).trans hb) ?_) hd)
  exact PyProof.Rows.callWith_type1 (wpAny_mono (ha.run pos g s pre) (fun vs s1 ⟨g1, k1, r1⟩ => (hf C A g1 s1 vs hr hC (pre.base.trans k1.keep) k1.inc r1).after k1) no_imp) hse hpl
theorem ev_meth {o e : Expr} {es : List Expr} {name : Str} {id : String} {apos pos : Pos} {pl : Sem Bool} {d0 d : D} {ds : List D} (hC : C.Ok) (hr : Rm A 0) (h0 : Ev C A env σ o d0) (hm : Mth d0 name id) (ha : EvL C A env σ (e :: es) ds) (hf : Bf id (d0 :: ds) d)
    (he : eval (.Call (.Attribute o name apos) (e :: es) [] pos) env = (do
      let ov ← eval o env
      standAt apos.atName
      let (f, first) ← holding [ov] (getMethod ov name pl)
      callWith pos f first (backTo pos (starEach (e :: es) env)) []) := by rfl)
    (hse : starEach (e :: es) env = (false, eval e env) :: starEach es env := by rfl) (hpl : (backTo pos (starEach es env)).any (·.1) = false := by rfl) :
    Ev C A env σ (.Call (.Attribute o name apos) (e :: es) [] pos) d := .of fun g s pre => by
  obtain ⟨T, pa, slot, ty, hv⟩ := hm
  refine MethodCall_ (pl := pl) (h0.then pre fun v s1 g1 k1 p1 r1 => getMethod_builtin (hv g1 s1 v p1.inc r1).1 pa slot ty (hv g1 s1 v p1.inc r1).2 ?_) he
  refine callWith_method1 (wpAny_mono (ha.run pos g1 s1 p1) (fun vs s2 ⟨g2, k2, r2⟩ => ?_) no_imp) hse hpl
  exact (hf C A g2 s2 (v :: vs) hr hC (p1.base.trans k2.keep) k2.inc (.cons (r1.mono k2.sub) r2)).after (k1.trans k2)
theorem ev_meth0 {o : Expr} {name : Str} {id : String} {apos pos : Pos} {pl : Sem Bool} {d0 d : D} (hC : C.Ok) (hr : Rm A 0) (h0 : Ev C A env σ o d0) (hm : Mth d0 name id) (hf : Bf id [d0] d)
    (he : eval (.Call (.Attribute o name apos) [] [] pos) env = (do
      let ov ← eval o env
      standAt apos.atName
      let (f, first) ← holding [ov] (getMethod ov name pl)
      callWith pos f first (backTo pos (starEach [] env)) []) := by rfl) :
    Ev C A env σ (.Call (.Attribute o name apos) [] [] pos) d := .of fun g s pre => by
  obtain ⟨T, pa, slot, ty, hv⟩ := hm
  refine MethodCall_ (pl := pl) (h0.then pre fun v s1 g1 k1 p1 r1 => getMethod_builtin (hv g1 s1 v p1.inc r1).1 pa slot ty (hv g1 s1 v p1.inc r1).2 ?_) he
  exact callWith_method0 ((hf C A g1 s1 [v] hr hC p1.base p1.inc (.cons r1 .nil)).after k1)
end

theorem mth_list {ds : List D} {name : Str} {id : String} (slot : Slot "list" name id) (ty : typeOf (.builtin id) = pure (.type "method_descriptor")) : Mth (.list ds) name id :=
  ⟨"list", PySem.F.plainAttrs_list, slot, ty, fun g s v i r => by
    obtain ⟨a, vs, n, rfl, h, _⟩ := r.list_inv
    exact ⟨⟨_, i _ _ h, rfl⟩, fun b e => by cases e; exact ⟨_, i _ _ h, rfl⟩⟩⟩
theorem mth_str {x : Str} {name : Str} {id : String} (slot : Slot "str" name id) (ty : typeOf (.builtin id) = pure (.type "method_descriptor")) : Mth (.str x) name id :=
  ⟨"str", PySem.F.plainAttrs_str, slot, ty, fun g s v i r => by
    obtain ⟨t, rfl⟩ := r.str_inv
    exact ⟨typeIs_str _ _ _, fun b e => by cases e⟩⟩

theorem RdAll.one {g : View} {vs : List Value} {d : D} (r : RdAll g vs [d]) : ∃ v, vs = [v] ∧ Rd g v d := by
  cases r with | cons a b => cases b; exact ⟨_, rfl, a⟩
theorem RdAll.two {g : View} {vs : List Value} {d e : D} (r : RdAll g vs [d, e]) : ∃ v u, vs = [v, u] ∧ Rd g v d ∧ Rd g u e := by
  cases r with | cons a b => obtain ⟨u, rfl, b1⟩ := b.one; exact ⟨_, _, rfl, a, b1⟩
theorem RdAll.ints {g : View} : ∀ {vs : List Value} {ns : List Int}, RdAll g vs (ns.map .int) → IntsAre vs ns := by
  intro vs ns
  induction ns generalizing vs with
  | nil => intro h; cases h; exact .nil
  | cons n ns ih => intro h; cases h with | cons h r => obtain ⟨t, rfl⟩ := h.int_inv; exact .cons _ _ (ih r)
theorem RdAll.ofInts {g : View} : ∀ {vs : List Value} {ns : List Int}, IntsAre vs ns → RdAll g vs (ns.map .int) := by
  intro vs ns h
  induction h with
  | nil => exact .nil
  | cons n t h ih => exact .cons (.int n t) ih
theorem RdAll.strs {g : View} : ∀ {vs : List Value} {ns : List Str}, RdAll g vs (ns.map .str) → StrsAre vs ns := by
  intro vs ns
  induction ns generalizing vs with
  | nil => intro h; cases h; exact .nil
  | cons n ns ih => intro h; cases h with | cons h r => obtain ⟨t, rfl⟩ := h.str_inv; exact .cons _ _ (ih r)

theorem bf_len_list {ds : List D} (h : ds.length ≤ 1000) : Bf "len" [.list ds] (.int ds.length) := fun C A g s vs hr hC b i r => by
  obtain ⟨v, rfl, r1⟩ := r.one
  obtain ⟨a, us, n, rfl, e, ra⟩ := r1.list_inv
  have hl := ra.length
  refine call_len_list (isList_of i e) (by rw [List.size_toArray, hl]; exact Int.lt_of_le_of_lt (Int.ofNat_le.mpr h) (by decide)) ?_
  rw [List.size_toArray, hl]
  exact ⟨g, Stp.step_tok i _, .int _ _⟩
theorem bf_len_str {x : Str} (h : x.length ≤ 1000) : Bf "len" [.str x] (.int x.length) := fun C A g s vs hr hC b i r => by
  obtain ⟨v, rfl, r1⟩ := r.one
  obtain ⟨t, rfl⟩ := r1.str_inv
  exact SBL.len (by lia) ⟨g, Stp.step_tok i _, .int _ _⟩
theorem bf_abs {a : Int} : Bf "abs" [.int a] (.int (if a < 0 then -a else a)) := fun C A g s vs hr hC b i r => by
  obtain ⟨v, rfl, r1⟩ := r.one
  obtain ⟨t, rfl⟩ := r1.int_inv
  exact call_abs_int fun u tk => ⟨g, Stp.step_tok i _, .int _ _⟩
theorem bf_chr {a : Int} (h : (decide (a < 0) || decide (a > 1114111)) = false) : Bf "chr" [.int a] (.str ⟨#[a.toNat]⟩) := fun C A g s vs hr hC b i r => by
  obtain ⟨v, rfl, r1⟩ := r.one
  obtain ⟨t, rfl⟩ := r1.int_inv
  exact P.chr_of_int h ⟨g, Stp.step_tok i _, .str _ _⟩
theorem bf_ord {c : Nat} : Bf "ord" [.str ⟨#[c]⟩] (.int c) := fun C A g s vs hr hC b i r => by
  obtain ⟨v, rfl, r1⟩ := r.one
  obtain ⟨t, rfl⟩ := r1.str_inv
  exact P.ord_of_char ⟨g, Stp.step_tok i _, .int _ _⟩
theorem bf_hex {a : Int} (h : (baseText "0x" 16 a).length ≤ sizeLine) : Bf "hex" [.int a] (.str (baseText "0x" 16 a)) := fun C A g s vs hr hC b i r => by
  obtain ⟨v, rfl, r1⟩ := r.one
  obtain ⟨t, rfl⟩ := r1.int_inv
  exact P.hex_of_int ⟨g, Stp.step_tok i _, .str _ _⟩ h
theorem bf_max2 {a b : Int} : Bf "max" [.int a, .int b] (.int (if b > a then b else a)) := fun C A g s vs hr hC bb i r => by
  obtain ⟨v, u, rfl, r1, r2⟩ := r.two
  obtain ⟨t, rfl⟩ := r1.int_inv
  obtain ⟨t', rfl⟩ := r2.int_inv
  refine max_two_ints hr.hd fun h' tk hk => ?_
  split
  · exact ⟨g, Stp.grow i hk, .int _ _⟩
  · exact ⟨g, Stp.grow i hk, .int _ _⟩
theorem bf_sum {ns : List Int} : Bf "sum" [.list (ns.map .int)] (.int ns.sum) := fun C A g s vs hr hC b i r => by
  obtain ⟨v, rfl, r1⟩ := r.one
  obtain ⟨a, us, n, rfl, e, ra⟩ := r1.list_inv
  have hi := ra.ints
  have hn := hi.numsOf
  obtain ⟨xs, hx⟩ := hi.allInts.items
  have hl := isList_of i e
  rw [hx] at hl
  refine sum_intListG hr.hd hl fun h' tk t' hk => ?_
  have : preSum (numAt xs) xs.size = ns.sum := by
    have h1 := nums_intItems xs
    rw [← hx, show us.toArray.toList = us from rfl, hn] at h1
    rw [preSum_eq, List.take_of_length_le (by simp), ← h1]
  rw [this]
  exact ⟨g, Stp.grow i hk, .int _ _⟩
theorem bf_join {x : Str} {ys : List Str} (h : (ys.map fun x => x.length).sum + ys.length * x.length ≤ 16777216) : Bf "str.join" [.str x, .list (ys.map .str)] (.str (Txt.join x ys)) := fun C A g s vs hr hC b i r => by
  obtain ⟨v, u, rfl, r1, r2⟩ := r.two
  obtain ⟨t, rfl⟩ := r1.str_inv
  obtain ⟨a, us, n, rfl, e, ra⟩ := r2.list_inv
  exact join_list (isList_of i e) (by simpa using ra.strs) h fun t' k => ⟨g, Stp.step_tok i _, .str _ _⟩
theorem bf_lower {x : Str} (h : x.length ≤ 1000) : Bf "str.lower" [.str x] (.str (Txt.lower x)) := fun C A g s vs hr hC b i r => by
  obtain ⟨v, rfl, r1⟩ := r.one
  obtain ⟨t, rfl⟩ := r1.str_inv
  exact SCL.lower (by lia) fun _ => ⟨g, Stp.step_tok i _, .str _ _⟩
theorem bf_index {ns : List Int} {k : Int} (hk : k ∈ ns) (h : ns.length ≤ 1000) : Bf "list.index" [.list (ns.map .int), .int k] (.int (ns.idxOf k : Nat)) := fun C A g s vs hr hC b i r => by
  obtain ⟨v, u, rfl, r1, r2⟩ := r.two
  obtain ⟨a, us, n, rfl, e, ra⟩ := r1.list_inv
  obtain ⟨t, rfl⟩ := r2.int_inv
  have hi := ra.ints
  have hlen := hi.length
  have hj : ns.idxOf k < ns.length := List.idxOf_lt_length_iff.mpr hk
  refine call_meets PySem.F.slot_list_index ⟨_, i _ _ e, rfl⟩ PySem.F.entry_list_index (PySem.F.args_list_index_2 _ _)
    (list_indexAt a us.toArray n none #[] (.int k t) (isInt k) (ns.idxOf k) (by simpa [hlen] using hj) (by lia) ?_ ?_) ⟨i _ _ e, fun y hy => (eq_isInt k t hi y (by simpa using hy)).at _ _, g, Stp.step_tok i _, .int _ _⟩
  · show isInt k us[ns.idxOf k] = true
    rw [isInt_at k hi _ (by lia) hj]
    simpa using List.getElem_idxOf hj
  · intro j hjs hlt
    show isInt k us[j] = false
    rw [isInt_at k hi j (by simpa using hjs) (by lia)]
    exact ne_of_lt_idxOf hlt _
theorem tf_str {a : Int} (h : a.natAbs.log2 < 1920) : Tf "str" [.int a] (.str (Str.ofString (toString a))) := fun C A g s vs hr hC b i r => by
  obtain ⟨v, rfl, r1⟩ := r.one
  obtain ⟨t, rfl⟩ := r1.int_inv
  exact P.str_of_int h ⟨g, Stp.step_tok i _, .str _ _⟩
theorem tf_tuple {ds : List D} (h : ds.length ≤ 1000) : Tf "tuple" [.list ds] (.tup ds) := fun C A g s vs hr hC b i r => by
  obtain ⟨v, rfl, r1⟩ := r.one
  obtain ⟨a, us, n, rfl, e, ra⟩ := r1.list_inv
  refine call_tuple_list (isList_of i e) (fun h' hk => ?_) (by rw [List.size_toArray, ra.length]; exact small_size h)
  have k2 : Kp s.heap (h'.push { cls := .type "tuple", data := .seq us.toArray }) := fun b o e => Heap.get?_push_of_some _ (hk b o e)
  have n0 : s.heap.get? h'.objs.size = none := by
    cases z : s.heap.get? h'.objs.size with
    | none => rfl
    | some o => exact absurd (Heap.lt_size (hk _ _ z)) (Nat.lt_irrefl _)
  exact ⟨_, Stp.at (tk := s.toks) i k2 n0 (Heap.get?_push_size _ rfl), .tup (n := 0) put_self (ra.mono (sub_put i n0))⟩
theorem tf_range1 {a : Int} : Tf "range" [.int a] (.range 0 a) := fun C A g s vs hr hC b i r => by
  obtain ⟨v, rfl, r1⟩ := r.one
  obtain ⟨t, rfl⟩ := r1.int_inv
  refine call_range_1 ⟨_, (Stp.push i _).tok _, ?_⟩
  exact .range put_self
theorem tf_range2 {a c : Int} : Tf "range" [.int a, .int c] (.range a c) := fun C A g s vs hr hC b i r => by
  obtain ⟨v, u, rfl, r1, r2⟩ := r.two
  obtain ⟨t, rfl⟩ := r1.int_inv
  obtain ⟨t', rfl⟩ := r2.int_inv
  refine call_range_2 ⟨_, (Stp.push i _).tok _, ?_⟩
  exact .range put_self
noncomputable def seqI (a : Int) (n : Nat) : List D := (List.range n).map fun i => .int (a + (i : Nat) * 1)
theorem tf_list_range {a c : Int} {n : Nat} (hn : Builtin.Range.rangeSize a c 1 = (n : Int)) (hs : Builtin.Range.small a c 1 = true) (h : n ≤ 1000) : Tf "list" [.range a c] (.list (seqI a n)) := fun C A g s vs hr hC b i r => by
  obtain ⟨v, rfl, r1⟩ := r.one
  cases r1 with
  | range e =>
    refine call_list_range hr.hd (i _ _ e) hs hn (by lia) fun h' tk acc' c' hk hS hacc => ?_
    have : acc' = acc'.toList.toArray := by simp
    rw [this] at hS
    refine ⟨_, Stp.at i hk none_size hS, .list put_self ?_⟩
    refine RdAll.mono (sub_put i none_size) ?_
    have key : ∀ (l : List Value) (m k : Nat), l.length = m → (∀ j v, l[j]? = some v → ∃ t : Tok, v = Value.int (a + ((k + j : Nat) : Int) * 1) t) → RdAll g l ((List.range' k m).map fun i => D.int (a + (i : Nat) * 1)) := by
      intro l
      induction l with
      | nil => intro m k e _; subst e; exact .nil
      | cons v l ih =>
        intro m k e hv
        subst e
        obtain ⟨t, rfl⟩ := hv 0 v rfl
        refine .cons (.int _ t) (ih _ (k + 1) rfl fun j u hu => ?_)
        obtain ⟨t', e⟩ := hv (j + 1) u (by simpa using hu)
        exact ⟨t', by rw [e]; congr 4; lia⟩
    have := key acc'.toList n 0 (by simp [hacc.1]) fun j v hv => by simpa using hacc.2 j v (by simpa using hv)
    simpa [seqI, List.range_eq_range'] using this
end Zn
/-! part ZnL -/
namespace Zn
open PySem PySem.W PySem.Calls PyProof.Rows PySem.Spec PySem.SeqAt

/-! subscripts -/
noncomputable def Item (d0 d1 d : D) : Prop := ∀ (C : Cx) (A : Around) (g : View) (s : Shared) (v u : Value), Rm A 0 → Kp C.hB s.heap → Inc g s.heap → Rd g v d0 → Rd g u d1 →
  (∃ T id, s.TypeIs v T ∧ typeLookup (.type T) (Str.ofString "__getitem__") = pure (some (.builtin id))) ∧ Gives C A g s (getItem v u) d
theorem sub_tail {prog : Program} {w : World} {A : Around} {E : Value → Shared → Prop} {s : Shared} {value slice : Expr} {o i : Value} {T id : String} {ops : List Value} {Q : Value → Shared → Prop} (hT : s.TypeIs o T)
    (hl : typeLookup (.type T) (Str.ofString "__getitem__") = pure (some (.builtin id))) (h : wpAny (model prog w) A (getItem o i) Q E s)
    (hs : subscripted slice false o i = operate ops (getItem o i)) : wpAny (model prog w) A (subscriptTail value slice o i) Q E s := by
  unfold subscriptTail
  refine wpAny_bind ?_
  rw [getitemInPython_of_ne hT.not_modules]
  refine wpAny_bind (wpAny_specialOf hT hl ?_)
  have fin : wpAny (model prog w) A (subscripted slice false o i) (fun r s₃ => wpAny (model prog w) A (letTemporaryGo value o r >>= fun _ => pure r) Q E s₃) E s := by
    rw [hs]
    exact wpAny_operating (wpAny_mono h (fun r s₃ h₃ => wpAny_bind (wpAny_letTemporaryGo (wpAny_pure h₃))) fun _ _ x => x)
  first
    | exact wpAny_pure (wpAny_bind fin)
    | exact wpAny_bind (wpAny_pure (wpAny_bind fin))
    | exact wpAny_bind fin
noncomputable def clipped {α : Type} (lo hi : Option Int) (ds : List α) : List α := (ds.drop (lo.elim 0 (clipAt ds.length))).take (hi.elim ds.length (clipAt ds.length) - lo.elim 0 (clipAt ds.length))
noncomputable def strided {α : Type} (lo hi st : Option Int) (ds : List α) : List α := (sliceRange (sliceBounds lo hi st ds.length).1 (sliceBounds lo hi st ds.length).2.1 (sliceBounds lo hi st ds.length).2.2).filterMap (ds[·]?)
theorem RdAll.clipped {g : View} {vs : List Value} {ds : List D} (r : RdAll g vs ds) (lo hi : Option Int) : RdAll g (slicePick vs.toArray lo hi none).toList (clipped lo hi ds) := by
  rw [slicePick_plain, List.size_toArray, r.length]
  exact (r.drop _).take _
theorem RdAll.picked {g : View} {vs : List Value} {ds : List D} (r : RdAll g vs ds) : ∀ (is : List Nat), RdAll g (is.filterMap (vs[·]?)) (is.filterMap (ds[·]?))
  | [] => .nil
  | i :: is => by
    rw [List.filterMap_cons, List.filterMap_cons]
    cases e : vs[i]? with
    | none =>
      have : ds[i]? = none := by rw [List.getElem?_eq_none_iff] at e ⊢; rw [← r.length]; exact e
      rw [this]; exact r.picked is
    | some v =>
      obtain ⟨d, e', h⟩ := r.get e
      rw [e']; exact .cons h (r.picked is)
theorem RdAll.strided {g : View} {vs : List Value} {ds : List D} (r : RdAll g vs ds) (lo hi st : Option Int) : RdAll g (slicePick vs.toArray lo hi st).toList (strided lo hi st ds) := by
  unfold slicePick
  rw [List.size_toArray, r.length]
  have := r.picked (sliceRange (sliceBounds lo hi st ds.length).1 (sliceBounds lo hi st ds.length).2.1 (sliceBounds lo hi st ds.length).2.2)
  show RdAll g _ (List.filterMap _ _)
  simpa using this
theorem strided_map {α β : Type} (f : α → β) (lo hi st : Option Int) (ds : List α) : strided lo hi st (ds.map f) = (strided lo hi st ds).map f := by
  unfold strided
  rw [List.length_map, List.map_filterMap]
  congr 1; funext i; simp
theorem clipped_from {α : Type} (a : Nat) (ds : List α) : clipped (some (a : Int)) none ds = ds.drop a := by
  unfold clipped
  simp only [Option.elim, clipAt_nat]
  rcases Nat.le_total a ds.length with h | h
  · rw [Nat.min_eq_left h, List.take_of_length_le (by simp)]
  · rw [Nat.min_eq_right h, List.drop_of_length_le (Nat.le_refl _), List.drop_of_length_le h]; simp
theorem clipped_upto {α : Type} (b : Nat) (ds : List α) : clipped none (some (b : Int)) ds = ds.take b := by
  unfold clipped
  simp only [Option.elim, clipAt_nat, List.drop_zero, Nat.sub_zero]
  rcases Nat.le_total b ds.length with h | h
  · rw [Nat.min_eq_left h]
  · rw [Nat.min_eq_right h, List.take_of_length_le (Nat.le_refl _), List.take_of_length_le h]
theorem clipped_run {α : Type} (a b : Nat) (ds : List α) (h : b ≤ ds.length) : clipped (some (a : Int)) (some (b : Int)) ds = (ds.drop a).take (b - a) := by
  unfold clipped
  simp only [Option.elim, clipAt_nat]
  rw [Nat.min_eq_left h]
  rcases Nat.le_total a ds.length with h2 | h2
  · rw [Nat.min_eq_left h2]
  · rw [Nat.min_eq_right h2, List.drop_of_length_le h2, List.drop_of_length_le (Nat.le_refl _)]; simp

section
variable {C : Cx} {A : Around} {env : Env} {σ : Sig}
theorem ev_sub {value slice : Expr} {pos : Pos} {d0 d1 d : D} (hr : Rm A 0) (h0 : Ev C A env σ value d0) (h1 : Ev C A env σ slice d1) (hi : Item d0 d1 d)
    (hs : ∀ o i, subscripted slice false o i = operate [o, i] (getItem o i) := by intro _ _; rfl) : Ev C A env σ (.Subscript value slice pos) d := .of fun g s pre =>
  Subscript_ (h0.then pre fun v s1 g1 k1 p1 r1 => h1.then p1 fun u s2 g2 k2 p2 r2 => by
    obtain ⟨⟨T, id, hT, hl⟩, hg⟩ := hi C A g2 s2 v u hr p2.base p2.inc (r1.mono k2.sub) r2
    exact sub_tail hT hl (hg.after (k1.trans k2)) (hs _ _))
/-- a part of a slice -/
noncomputable def EvO (C : Cx) (A : Around) (env : Env) (σ : Sig) : Option Expr → Option Int → Prop
  | none, none => True
  | some e, some i => Ev C A env σ e (.int i)
  | _, _ => False
theorem EvO.then {oe : Option Expr} {oi : Option Int} (h : EvO C A env σ oe oi) {g : View} {s : Shared} (p : Pre C env σ g s) {Q : Value → Shared → Prop} {E : Value → Shared → Prop}
    (k : ∀ v s' g', Stp g s g' s' → Pre C env σ g' s' → IsPart v oi → Q v s') : wpAny C.M A (evalPart oe env) Q E s := by
  cases oe with
  | none =>
    cases oi with
    | none => rw [evalPart_none]; exact wpAny_pure (k _ _ g (Stp.refl p.inc) p .none)
    | some i => exact h.elim
  | some e =>
    cases oi with
    | none => exact h.elim
    | some i =>
      rw [evalPart_some]
      exact Ev.then h p fun v s' g' a b r => by obtain ⟨t, rfl⟩ := r.int_inv; exact k _ _ g' a b (.int i t)
theorem getitem_lookup_list : typeLookup (.type "list") (Str.ofString "__getitem__") = pure (some (.builtin "list.__getitem__")) := PySem.F.slot_list_getitem.lookup
theorem slice_run {value : Expr} {lo hi st : Option Expr} {p pos : Pos} {l h t : Option Int} {ds : List D} (hr : Rm A 0) (h0 : Ev C A env σ value (.list ds)) (hlo : EvO C A env σ lo l) (hhi : EvO C A env σ hi h) (hst : EvO C A env σ st t) (h0' : t ≠ some 0) (hsz : ds.length ≤ 1000)
    {R : List D} (hR : ∀ g vs, RdAll g vs ds → RdAll g (slicePick vs.toArray l h t).toList R)
    (hs : ∃ ops : Value → Value → List Value, ∀ o i, subscripted (.Slice lo hi st p) false o i = operate (ops o i) (getItem o i)) : Ev C A env σ (.Subscript value (.Slice lo hi st p) pos) (.list R) := .of fun g s pre => by
  obtain ⟨ops, hs⟩ := hs
  refine Subscript_ (h0.then pre fun v s1 g1 k1 p1 r1 => wpAny_Slice (hlo.then p1 fun vl s2 g2 k2 p2 r2 => hhi.then p2 fun vu s3 g3 k3 p3 r3 => hst.then p3 fun vs s4 g4 k4 p4 r4 => ?_))
  obtain ⟨a, us, n, rfl, e, ra⟩ := r1.list_inv
  have e4 := k4.sub _ _ (k3.sub _ _ (k2.sub _ _ e))
  have hl := isList_of p4.inc e4
  have hl' : (s4.heap.push { cls := .type "slice", data := .fields #[vl, vu, vs] }).IsList a us.toArray := hl.push _
  refine sub_tail (s := { s4 with heap := s4.heap.push { cls := .type "slice", data := .fields #[vl, vu, vs] } }) (T := "list") ⟨_, Heap.get?_push_of_some _ (p4.inc _ _ e4), rfl⟩ getitem_lookup_list ?_ (hs _ _)
  refine wpAny_getItem_list_slice hl' ⟨_, Heap.get?_push_size _ rfl, rfl, rfl⟩ r2 r3 r4 h0' ?_ (by rw [List.size_toArray, ra.length]; exact small_size hsz)
  have K : Stp g s g4 { s4 with heap := s4.heap.push { cls := .type "slice", data := .fields #[vl, vu, vs] } } := (((k1.trans k2).trans k3).trans k4).trans (Stp.pushOut p4.inc _)
  refine ⟨_, K.trans (Stp.push K.inc _ rfl), ?_⟩
  have := hR g4 us (((ra.mono k2.sub).mono k3.sub).mono k4.sub)
  refine .list (vs := (slicePick us.toArray l h t).toList) (n := 0) ?_ (this.mono (sub_put K.inc none_size))
  rw [put_self]
theorem ev_slice {value : Expr} {lo hi : Option Expr} {p pos : Pos} {l h : Option Int} {ds : List D} (hr : Rm A 0) (h0 : Ev C A env σ value (.list ds)) (hlo : EvO C A env σ lo l) (hhi : EvO C A env σ hi h) (hsz : ds.length ≤ 1000) : Ev C A env σ (.Subscript value (.Slice lo hi none p) pos) (.list (clipped l h ds)) :=
  slice_run (st := none) (t := none) hr h0 hlo hhi trivial (by simp) hsz (fun g vs r => r.clipped l h) ⟨fun o i => [i, o], fun _ _ => rfl⟩
theorem ev_slice3 {value st : Expr} {lo hi : Option Expr} {p pos : Pos} {l h : Option Int} {t : Int} {ds : List D} (hr : Rm A 0) (h0 : Ev C A env σ value (.list ds)) (hlo : EvO C A env σ lo l) (hhi : EvO C A env σ hi h) (hst : Ev C A env σ st (.int t)) (ht : t ≠ 0) (hsz : ds.length ≤ 1000) :
    Ev C A env σ (.Subscript value (.Slice lo hi (some st) p) pos) (.list (strided l h (some t) ds)) :=
  slice_run (st := some st) (t := some t) hr h0 hlo hhi hst (by simpa using ht) hsz (fun g vs r => r.strided l h _) ⟨fun o i => [o, i], fun _ _ => rfl⟩

theorem ev_neg {e : Expr} {pos : Pos} {i : Int} (h : Ev C A env σ e (.int i)) : Ev C A env σ (.UnaryOp .USub e pos) (.int (-i)) := .of fun g s p =>
  wpAny_UnaryOp (h.then p fun v s1 g1 k1 p1 r1 => by
    obtain ⟨t, rfl⟩ := r1.int_inv
    exact PyProof.Rows.neg_int ⟨g1, k1.tok _, .int _ _⟩)
end

theorem item_list {ds : List D} {i : Int} {d : D} (h0 : 0 ≤ i) (h : ds[i.toNat]? = some d) (hs : ds.length ≤ 1000) : Item (.list ds) (.int i) d := fun C A g s v u hr b inc r r' => by
  obtain ⟨a, vs, n, rfl, e, ra⟩ := r.list_inv
  obtain ⟨t, rfl⟩ := r'.int_inv
  obtain ⟨x, hx, rx⟩ := ra.get' h
  have hlt : i.toNat < ds.length := (List.getElem?_eq_some_iff.mp h).1
  exact ⟨⟨"list", _, ⟨_, inc _ _ e, rfl⟩, getitem_lookup_list⟩, wpAny_getItem_list (isList_of inc e) h0 (by lia) (by simpa using hx) ⟨g, Stp.refl inc, rx⟩⟩
theorem item_tup {ds : List D} {i : Int} {d : D} (h0 : 0 ≤ i) (h : ds[i.toNat]? = some d) (hs : ds.length ≤ 1000) : Item (.tup ds) (.int i) d := fun C A g s v u hr b inc r r' => by
  obtain ⟨a, vs, n, rfl, e, ra⟩ := r.tup_inv
  obtain ⟨t, rfl⟩ := r'.int_inv
  obtain ⟨x, hx, rx⟩ := ra.get' h
  have hlt : i.toNat < ds.length := (List.getElem?_eq_some_iff.mp h).1
  have hvl := ra.length
  refine ⟨⟨"tuple", _, ⟨_, inc _ _ e, rfl⟩, PySem.F.slot_tuple_getitem.lookup⟩, getItem_tuple (j := i.toNat) (isTup_of inc e) (by lia) (by lia) ?_ (by simpa using hx) ⟨g, Stp.refl inc, rx⟩⟩
  unfold seqIndex?
  rw [List.size_toArray, hvl]
  have : ¬ i < 0 := by lia
  simp only [this, if_false]
  split <;> first | rfl | (exfalso; simp at *; lia)
theorem item_str {x : Str} {i : Int} {c : Nat} (h0 : 0 ≤ i) (h : x.cps[i.toNat]? = some c) (hs : x.length ≤ 1000) : Item (.str x) (.int i) (.str ⟨#[c]⟩) := fun C A g s v u hr b inc r r' => by
  obtain ⟨t, rfl⟩ := r.str_inv
  obtain ⟨t', rfl⟩ := r'.int_inv
  have hlt : i.toNat < x.cps.size := (Array.getElem?_eq_some_iff.mp h).1
  have hlt' : i.toNat < x.length := hlt
  refine ⟨⟨"str", _, typeIs_str _ _ _, PySem.F.slot_str_getitem.lookup⟩, getItem_str (by simp; lia) ?_ ⟨g, Stp.step_tok inc _, .str _ _⟩⟩
  have : seqIndex? i x.length = some i.toNat := by
    unfold seqIndex?
    have : ¬ i < 0 := by lia
    simp only [this, if_false]
    split <;> first | rfl | (exfalso; simp at *; lia)
  rw [this]; simpa using h

theorem bin_catL {l r : List D} (h : l.length + r.length ≤ 1000) : Bin .Add (.list l) (.list r) (.list (l ++ r)) := fun C A g s v u hr _ inc x y => by
  obtain ⟨a, vs, n, rfl, e, ra⟩ := x.list_inv
  obtain ⟨b, ws, m, rfl, e', rb⟩ := y.list_inv
  have h1 := ra.length
  have h2 := rb.length
  refine concat_meets ⟨_, inc _ _ e, rfl⟩ ⟨_, inc _ _ e', rfl⟩ noFill_list_add seq_list_add PySem.F.slot_list_add PySem.F.entry_list_add (PySem.F.args_list_add_2 _ _) (list_addW a b vs.toArray ws.toArray n m none none #[] #[] (by simp [h1, h2]; exact small_size h)) ⟨inc _ _ e, inc _ _ e', ?_⟩
  have e2 : vs.toArray ++ ws.toArray = (vs ++ ws).toArray := by simp
  rw [e2]
  exact ⟨_, Stp.push inc _ rfl, .list (n := 0) put_self ((ra.append rb).mono (sub_put inc none_size))⟩
theorem cmp_gtS {x y : Str} : Cmp .Gt (.str x) (.str y) (decide (y.cps.toList < x.cps.toList)) := fun C A g s v u hr _ _ inc a b => by
  obtain ⟨t, rfl⟩ := a.str_inv; obtain ⟨t', rfl⟩ := b.str_inv
  exact gives_bool inc fun _ h => PySem.P.gt_str h
end Zn
/-! part ZnM -/
namespace Zn
open PySem PySem.W PySem.Calls PyProof.Rows PySem.Spec PySem.SeqAt

section
variable {C : Cx} {A : Around} {env : Env} {σ : Sig}
/-! more iterables -/
theorem it_tup_val {g : View} {s : Shared} {v : Value} {ds : List D} (hr : Rm A 0) (i : Inc g s.heap) (r : Rd g v (.tup ds)) : wpAny C.M A (pyIter v) (fun it s2 => ItAt C A g s ds it s2) No s := by
  obtain ⟨a, vs, n, rfl, e, ra⟩ := r.tup_inv
  have hl := tup_of i e
  have hne : a ≠ s.heap.objs.size := size_ne (i _ _ e)
  have W := Walks.tuple (prog := C.prog) (w := C.w) hr.hd _ _ hne vs.toArray
  rw [show vs.toArray.size = ds.length from List.size_toArray.trans ra.length] at W
  exact wpAny_pyIter_tuple hl ⟨g, s.heap.objs.size, [s.heap.objs.size, a], _, _, rfl, Stp.pushOut i _, W, ⟨⟨_, Heap.get?_push_size _ rfl, rfl, rfl⟩, hl.at fun o e => Heap.get?_push_of_some _ e⟩, fun k u hu => ra.get (by simpa using hu), fp_two e, view_size i, none_size,
    "tuple_iterator", by decide, fun k h st => let ⟨⟨o, h1, h2, _⟩, _⟩ := st; ⟨o, h1, h2⟩⟩
theorem it_tup {e : Expr} {ds : List D} (hr : Rm A 0) (h : Ev C A env σ e (.tup ds)) : It C A env σ e ds := .of fun g s p =>
  h.then p fun v s1 g1 k1 p1 r1 => wpAny_mono (it_tup_val hr p1.inc r1) (fun it s2 x => x.before k1) no_imp
theorem walks_lt {prog : Program} {w : World} {A : Around} {I : Addr} {fp wr : List Addr} {n : Nat} {P : Nat → Value → Prop} {St : Nat → Heap → Prop} (W : Walks prog w A I fp wr n P St) : Walks prog w A I fp wr n (fun i v => i < n ∧ P i v) St :=
  ⟨W.sub, W.frame, fun i s Q E hi st hQ => W.item i s Q E hi st fun v h' tk p => hQ v h' tk ⟨hi, p⟩, W.done, W.self⟩
theorem seqI_length {a : Int} {n : Nat} : (seqI a n).length = n := by simp [seqI]
theorem seqI_get {a : Int} {n k : Nat} (h : k < n) : (seqI a n)[k]? = some (.int (a + (k : Nat) * 1)) := by simp [seqI, h]
theorem it_range_val {g : View} {s : Shared} {v : Value} {a c : Int} {n : Nat} (hn : Builtin.Range.rangeSize a c 1 = (n : Int)) (hs : Builtin.Range.small a c 1 = true) (hr : Rm A 0) (i : Inc g s.heap) (r : Rd g v (.range a c)) : wpAny C.M A (pyIter v) (fun it s2 => ItAt C A g s (seqI a n) it s2) No s := by
  cases r with
  | range e =>
    have W := Walks.range (prog := C.prog) (w := C.w) hr.hd s.heap.objs.size a 1 n
    refine wpAny_pyIter_range (i _ _ e) hs ⟨g, s.heap.objs.size, [s.heap.objs.size], _, _, rfl, Stp.pushOut i _, by rw [seqI_length]; exact walks_lt W, ?_, fun k u hu => ?_, fp_one, view_size i, none_size,
      "range_iterator", by decide, fun k h st => ⟨_, st, rfl⟩⟩
    · show IsRangeIter _ _ _ _ _
      rw [hn]
      have := Heap.get?_push_size s.heap (o := { cls := .type "range_iterator", data := .fields #[rawInt a, rawInt (n : Int), rawInt 1] }) rfl
      simpa [IsRangeIter] using this
    · obtain ⟨hk, t, rfl⟩ := hu
      exact ⟨_, seqI_get hk, .int _ _⟩
theorem it_range {e : Expr} {a c : Int} {n : Nat} (hr : Rm A 0) (h : Ev C A env σ e (.range a c)) (hn : Builtin.Range.rangeSize a c 1 = (n : Int)) (hs : Builtin.Range.small a c 1 = true) : It C A env σ e (seqI a n) := .of fun g s p =>
  h.then p fun v s1 g1 k1 p1 r1 => wpAny_mono (it_range_val hn hs hr p1.inc r1) (fun it s2 x => x.before k1) no_imp
end

/-! statements that store comprehensions, own objects -/
section
variable {C : Cx} {A : Around} {env : Env} {σ σ' : Sig} {ω ω' : OSig} {Φ Ψ : Out → Prop} {s₀ s s' : Shared} {kp gE g g' : View} {vm : Str → Option Value} {ad : Str → Addr}
/-- all but one place, which is none of the frame's -/
theorem Inv.free {L : Addr} {oL : Obj} (i : Inv s₀ (fun a => if a = L then some oL else kp a) gE env σ ω s) (n1 : kp L = none) (n2 : gE L = none) {h' : Heap} (hs : Heap.SameBut L s.heap h') : Inv s₀ kp gE env σ ω { s with heap := h' } := by
  obtain ⟨vm, g, ad, i⟩ := i
  have gL : g L = none := by
    cases z : g L with
    | none => rfl
    | some o =>
      rcases i.fresh L o z with y | y
      · rw [n2] at y; cases y
      · simp at y
  refine ⟨vm, g, ad, ?_, fun a o e => ?_, i.sub, fun a o e => ?_, fun a o e => ?_, i.fx.keepBut fun a o m e => ?_, fun a m => ⟨?_, (i.ft a m).2⟩, i.var, fun x od e => ?_, i.apart⟩
  · obtain ⟨h1, t1, e1⟩ := i.shape
    exact ⟨h', t1, by rw [e1]⟩
  · have q : a ≠ L := fun q => by rw [q, n1] at e; cases e
    exact (hs.2 a q).trans (i.keep a o (by simp [q, e]))
  · have q : a ≠ L := fun q => by rw [q, gL] at e; cases e
    exact (hs.2 a q).trans (i.inc a o e)
  · rcases i.fresh a o e with y | y
    · exact .inl y
    · right
      by_cases q : a = L
      · rw [q]; exact n1
      · simpa [q] using y
  · have q : a ≠ L := fun q => by have := (i.ft a m).1; simp [q] at this
    exact (hs.2 a q).trans e
  · have q : a ≠ L := fun q => by have := (i.ft a m).1; simp [q] at this
    simpa [q] using (i.ft a m).1
  · obtain ⟨o, a, b, c, d, f⟩ := i.own x od e
    have q : ad x ≠ L := fun q => by simp [q] at c
    exact ⟨o, a, b.step (fun _ e => (hs.2 _ q).trans e) Sub.rfl', by simpa [q] using c, d, f⟩
theorem InvG.hold (i : InvG s₀ kp gE env σ ω vm g ad s) {L : Addr} {oL : Obj} (e : s.heap.get? L = some oL) (n : kp L = none) (n2 : g L = none) (nf : ¬ Ft env env.cells L) (na : ∀ x od, ω.lookup x = some od → ad x ≠ L) :
    InvG s₀ (fun a => if a = L then some oL else kp a) gE env σ ω vm g ad s := by
  refine ⟨i.shape, fun a o h => ?_, i.sub, i.inc, fun a o h => ?_, i.fx, fun a m => ⟨?_, (i.ft a m).2⟩, i.var, fun x od h => ?_, i.apart⟩
  · by_cases q : a = L
    · subst q; simp at h; subst h; exact e
    · simp [q] at h; exact i.keep a o h
  · rcases i.fresh a o h with y | y
    · exact .inl y
    · right
      have q : a ≠ L := fun q => by rw [q, n2] at h; cases h
      simp [q, y]
  · have q : a ≠ L := fun q => nf (q ▸ m)
    simp [q, (i.ft a m).1]
  · obtain ⟨o, a, b, c, d, f⟩ := i.own x od h
    exact ⟨o, a, b, by simp [na x od h, c], d, f⟩
theorem st_comp {x : Str} {px : Pos} {elt target iter : Expr} {ifs : List Expr} {scope : Scope} {pos spos : Pos} {ds : List D} {cl : List (Str × Addr)} (p : D → Bool) (f : D → D) (he : EnvOk env) (hr : Rm A 0) (hi : It C A env σ iter ds)
    (hcl : closureFor scope env = pure cl) (hk : scope.kind = .function) (hn : ∀ x ∈ scope.names, x.2 = .local → scope.names.lookup x.1 = some .local)
    (hown : ∀ L x c, (x, c) ∈ cellsFrom (L + 1) scope.names [] → (cenvOf scope cl L env).kindOf x = some .cell ∧ (cenvOf scope cl L env).cells.lookup x = some c)
    (hs : ∀ x, foldedSetIterable iter env x = pure x) (hsz : ds.length ≤ 1000)
    (turn : ∀ L d, d ∈ ds → ∃ τ κ, Tgt target d τ ∧ (∀ q ∈ τ, Own (cenvOf scope cl L env) (cellsFrom (L + 1) scope.names []) q.1) ∧ Caps env (cenvOf scope cl L env) σ κ ∧
      Tests C A (cenvOf scope cl L env) (τ ++ κ) ifs (p d) ∧ (p d = true → Ev C A (cenvOf scope cl L env) (τ ++ κ) elt (f d)))
    (hsw : swapsWith (.ListComp elt [⟨target, iter, ifs, 0⟩] scope pos) (some (.Name x px)) spos.line env = pure true) (ho : Own env env.cells x) (k : Φ (.next ((x, .list ((ds.filter p).map f)) :: σ) (del x ω))) :
    St C A env σ ω (.Assign [.Name x px] (.ListComp elt [⟨target, iter, ifs, 0⟩] scope pos) spos) Φ := .of fun s₀ kp gE s b ⟨vm, g, ad, i⟩ => by
  rw [exec_Assign_Name_used _ _ _ _ hsw]
  refine wpAny_bind (wpAny_standAt (wpAny_bind ?_))
  show wpAny _ A (do let _ ← comprehension (.ListComp elt [⟨target, iter, ifs, 0⟩] scope pos) scope env _ (newList []) false (eval iter env) (some (assign (.Name x px) env))) _ _ s
  refine wpAny_bind (comp_run (Q := fun _ s' => wpAny C.M A (pure ()) _ _ s') p f hr hi hcl hk hn hown hs hsz turn g s (i.pre b) fun L s' g' v m k1 r ns gL sL => ?_)
  have i1 := i.step k1
  have nL : kp L = none := by
    cases z : kp L with
    | none => rfl
    | some o => have := i.keep L o z; rw [sL] at this; cases this
  have nE : gE L = none := by
    cases z : gE L with
    | none => rfl
    | some o => have := k1.sub L o (i.sub L o z); rw [gL] at this; cases this
  obtain ⟨oL, hL1, hL2, hL3, hL4⟩ := ns
  have i2 := i1.hold hL3 nL gL (fun m => i.fx.has m sL) fun y od e q => by
    obtain ⟨_, _, c, _⟩ := i.own y od e
    exact c.has (q ▸ sL)
  refine wpAny_assign_Name (i2.store he.kind ho r fun s2 i3 => ?_)
  have hL' : s2.heap.get? L = some oL := by
    obtain ⟨_, _, _, j⟩ := i3
    exact j.keep L oL (by simp)
  refine ⟨m, ⟨oL, hL1, hL2, hL', hL4⟩, fun h' hs' => wpAny_pure (wpAny_pure ⟨_, k, rfl, i3.free nL nE hs'⟩)⟩

/-- an own object changes -/
theorem InvG.setOwn (i : InvG s₀ kp gE env σ ω vm g ad s) {x : Str} {od od' : OD} (hx : ω.lookup x = some od) {h' : Heap} {tk' : Nat} (hs : Heap.SameBut (ad x) s.heap h') (r : OwnAt h' g (ad x) od') : InvG s₀ kp gE env σ ((x, od') :: del x ω) vm g ad { s with heap := h', toks := tk' } := by
  obtain ⟨ho, a, b, n0, ng, nf⟩ := i.own x _ hx
  have look : ∀ {u : Str} {ou : OD}, ((x, od') :: del x ω).lookup u = some ou → u ≠ x → ω.lookup u = some ou := fun {u ou} e q => (lookup_del (by simpa [List.lookup, beq_eq_false_iff_ne.mpr q] using e)).2
  have any : ∀ {u : Str} {ou : OD}, ((x, od') :: del x ω).lookup u = some ou → ∃ ow, ω.lookup u = some ow := fun {u ou} e => by
    by_cases q : u = x
    · subst q; exact ⟨_, hx⟩
    · exact ⟨_, look e q⟩
  refine ⟨?_, fun b o e => ?_, i.sub, fun b o e => ?_, i.fresh, i.fx.keepBut fun b o m e => ?_, i.ft, i.var, fun y oe e => ?_, fun y z oe of e1 e2 => ?_⟩
  · obtain ⟨h1, t1, e1⟩ := i.shape
    exact ⟨h', tk', by rw [e1]⟩
  · exact (hs.2 b fun q => by rw [q, n0] at e; cases e).trans (i.keep b o e)
  · exact (hs.2 b fun q => by rw [q, ng] at e; cases e).trans (i.inc b o e)
  · exact (hs.2 b fun q => nf (q ▸ m)).trans e
  · by_cases q : y = x
    · subst q
      simp [List.lookup] at e; subst e
      exact ⟨ho, a, r, n0, ng, nf⟩
    · have e' := look e q
      obtain ⟨o, a', b', c, d', f⟩ := i.own y oe e'
      exact ⟨o, a', b'.step (fun _ e => (hs.2 _ (i.apart y x oe _ e' hx q)).trans e) Sub.rfl', c, d', f⟩
  · obtain ⟨ow, h1⟩ := any e1
    obtain ⟨ow', h2⟩ := any e2
    exact i.apart y z ow ow' h1 h2

/-- an expression that may change own objects -/
structure EvX (C : Cx) (A : Around) (env : Env) (σ : Sig) (ω : OSig) (e : Expr) (d : D) (ω' : OSig) : Prop where
  of ::
  run : ∀ s₀ kp gE s vm g ad, Sub C.hB.get? kp → InvG s₀ kp gE env σ ω vm g ad s → wpAny C.M A (eval e env) (fun v s' => ∃ g', InvG s₀ kp gE env σ ω' vm g' ad s' ∧ Sub g g' ∧ Rd g' v d) No s
theorem evx_ev {e : Expr} {d : D} (h : Ev C A env σ e d) : EvX C A env σ ω e d ω := .of fun s₀ kp gE s vm g ad b i => h.then (i.pre b) fun v s1 g1 k1 p1 r1 => ⟨g1, i.step k1, k1.sub, r1⟩
/-- an expression that makes an own object -/
structure EvN (C : Cx) (A : Around) (env : Env) (σ : Sig) (ω : OSig) (e : Expr) (od : OD) (ω' : OSig) : Prop where
  of ::
  run : ∀ s₀ kp gE s vm g ad, Sub C.hB.get? kp → InvG s₀ kp gE env σ ω vm g ad s → wpAny C.M A (eval e env) (fun v s' => ∃ g' a, v = .ref a ∧ InvG s₀ kp gE env σ ω' vm g' ad s' ∧ OwnAt s'.heap g' a od ∧ kp a = none ∧ g' a = none ∧ ¬ Ft env env.cells a ∧ ∀ y oe, ω'.lookup y = some oe → ad y ≠ a) No s
theorem st_own {x : Str} {px pos : Pos} {e : Expr} {od : OD} (he : EnvOk env) (h : EvN C A env σ ω e od ω') (ho : Own env env.cells x) (k : Φ (.next (del x σ) ((x, od) :: del x ω')))
    (hs : swapsWith e (some (.Name x px)) pos.line env = pure false := by rfl) : St C A env σ ω (.Assign [.Name x px] e pos) Φ := .of fun s₀ kp gE s b ⟨vm, g, ad, i⟩ =>
  wpAny_Assign_Name (wpAny_mono (h.run s₀ kp gE s vm g ad b i) (fun v s1 ⟨g1, a, e1, i1, r1, n0, ng, nf, na⟩ => by
    subst e1
    exact i1.storeOwn he.kind ho r1 n0 ng nf (fun y oe e _ => na y oe e) fun s2 i2 => ⟨_, k, rfl, i2⟩) no_imp) hs
/-- a new object of the frame's own -/
theorem InvG.pushOwn (i : InvG s₀ kp gE env σ ω vm g ad s) (o : Obj) (hf : o.isFreed = false) {od : OD} (r : OwnAt (s.heap.push o) g s.heap.objs.size od) :
    InvG s₀ kp gE env σ ω vm g ad { s with heap := s.heap.push o } ∧ OwnAt (s.heap.push o) g s.heap.objs.size od ∧ kp s.heap.objs.size = none ∧ g s.heap.objs.size = none ∧ ¬ Ft env env.cells s.heap.objs.size ∧ ∀ y oe, ω.lookup y = some oe → ad y ≠ s.heap.objs.size := by
  have n0 : s.heap.get? s.heap.objs.size = none := none_size
  refine ⟨i.step (Stp.pushOut i.inc o), r, ?_, view_size i.inc, fun m => i.fx.has m n0, fun y oe e q => ?_⟩
  · cases z : kp s.heap.objs.size with
    | none => rfl
    | some o' => have := i.keep _ _ z; rw [n0] at this; cases this
  · obtain ⟨_, _, c, _⟩ := i.own y oe e
    exact c.has (q ▸ n0)
theorem evn_list {es : List Expr} {ds : List D} {pos : Pos} (h : EvL C A env σ es ds) (hs : ds.length ≤ 1000 := by simp) : EvN C A env σ ω (.List es pos) (.list ds) ω := .of fun s₀ kp gE s vm g ad b i =>
  List_ (wpAny_mono (h.run pos g s (i.pre b)) (fun vs s1 ⟨g1, k1, r1⟩ => by
    have i1 := i.step k1
    refine wpAny_newObj_type (data := .seq vs.toArray) ?_ (by show vs.toArray.size ≤ sizeLine; rw [List.size_toArray, r1.length]; exact small_size hs)
    obtain ⟨a1, a2, a3, a4, a5, a6⟩ := i1.pushOwn { cls := .type "list", data := .seq vs.toArray } rfl (od := .list ds) ⟨vs, ⟨0, Heap.get?_push_size _ rfl⟩, r1⟩
    exact ⟨g1, _, rfl, a1, a2, a3, a4, a5, a6⟩) no_imp)
theorem evn_list1 {e : Expr} {d : D} {pos : Pos} (h : EvX C A env σ ω e d ω') (he : starEach [e] env = [(false, eval e env)] := by rfl) : EvN C A env σ ω (.List [e] pos) (.list [d]) ω' := .of fun s₀ kp gE s vm g ad b i => by
  refine List_ ?_
  rw [he]
  show wpAny _ _ (spliced [(false, eval e env)]) _ _ s
  refine spliced_cons (wpAny_mono (h.run s₀ kp gE s vm g ad b i) (fun v s1 ⟨g1, i1, sb, r1⟩ => spliced_nil ?_) no_imp)
  refine wpAny_newObj_type (data := .seq [v].toArray) ?_ (by show [v].toArray.size ≤ sizeLine; exact small_size (by simp))
  obtain ⟨a1, a2, a3, a4, a5, a6⟩ := i1.pushOwn { cls := .type "list", data := .seq [v].toArray } rfl (od := .list [d]) ⟨[v], ⟨0, Heap.get?_push_size _ rfl⟩, .cons r1 .nil⟩
  exact ⟨g1, _, rfl, a1, a2, a3, a4, a5, a6⟩
theorem evx_tup2 {x y : Expr} {d e : D} {n : Nat} {pos : Pos} (h1 : EvX C A env σ ω x d ω') (h2 : Ev C A env σ y e) (he : starEach [x, y] env = [(false, eval x env), (false, eval y env)] := by rfl) : EvX C A env σ ω (.Tuple [x, y] n pos) (.tup [d, e]) ω' := .of fun s₀ kp gE s vm g ad b i => by
  refine Tuple_ ?_
  rw [he]
  show wpAny _ _ (spliced [(false, eval x env), (false, eval y env)]) _ _ s
  refine spliced_cons (wpAny_mono (h1.run s₀ kp gE s vm g ad b i) (fun v s1 ⟨g1, i1, sb, r1⟩ => spliced_cons (h2.then (i1.pre b) fun u s2 g2 k2 p2 r2 => spliced_nil ?_)) no_imp)
  refine (gives_tuple (vs := [v, u]) (ds := [d, e]) p2.inc (.cons (r1.mono k2.sub) (.cons r2 .nil)) (small_size (by simp))).mono fun t s3 g3 k3 r3 => ⟨g3, (i1.step k2).step k3, (sb.trans k2.sub).trans k3.sub, r3⟩
end
end Zn
/-! part ZnN -/
namespace Zn
open PySem PySem.W PySem.Calls PyProof.Rows PySem.Spec PySem.SeqAt

section
variable {C : Cx} {A : Around} {env : Env} {σ σ' : Sig} {ω ω' : OSig} {Φ Ψ : Out → Prop} {s₀ s s' : Shared} {kp gE g g' : View} {vm : Str → Option Value} {ad : Str → Addr}

theorem own_read (i : InvG s₀ kp gE env σ ω vm g ad s) (he : EnvOk env) {x : Str} {px : Pos} {od : OD} (hx : ω.lookup x = some od) {M : Model} {E Q : Value → Shared → Prop} (hc : (x == ("__classdict__" : Str)) = false) (hd : (x == ("__debug__" : Str)) = false) (h : Q (.ref (ad x)) s) :
    wpAny M A (eval (.Name x px) env) Q E s := by
  obtain ⟨ho, a, _⟩ := i.own x od hx
  exact wpAny_Name (load_var he.kind (i.fx.var ho a) hc h) hd
/-- the road of a method of an own list, its one argument's value in hand -/
theorem own_meth {x : Str} {px apos pos : Pos} {e : Expr} {name : Str} {id : String} {pl : Sem Bool} {ds : List D} {d : D} (he : EnvOk env) (hx : ω.lookup x = some (.list ds)) (h : EvX C A env σ ω e d ω')
    (slot : Slot "list" name id) (ty : typeOf (.builtin id) = pure (.type "method_descriptor")) (b : Sub C.hB.get? kp) (i : InvG s₀ kp gE env σ ω vm g ad s) {Q : Value → Shared → Prop}
    (k : ∀ v s' g', InvG s₀ kp gE env σ ω' vm g' ad s' → Sub g g' → Rd g' v d → wpAny C.M A (call (.builtin id) [.ref (ad x), v]) Q No s')
    (hev : eval (.Call (.Attribute (.Name x px) name apos) [e] [] pos) env = (do
      let ov ← eval (.Name x px) env
      standAt apos.atName
      let (f, first) ← holding [ov] (getMethod ov name pl)
      callWith pos f first (backTo pos (starEach [e] env)) []))
    (hse : starEach [e] env = [(false, eval e env)]) (hc : (x == ("__classdict__" : Str)) = false) (hd : (x == ("__debug__" : Str)) = false) :
    wpAny C.M A (eval (.Call (.Attribute (.Name x px) name apos) [e] [] pos) env) Q No s := by
  refine MethodCall_ (pl := pl) (own_read i he hx hc hd ?_) hev
  obtain ⟨_, _, ⟨vs, ⟨n, hl⟩, _⟩, _⟩ := i.own x _ hx
  refine getMethod_builtin (T := "list") ⟨_, hl, rfl⟩ PySem.F.plainAttrs_list slot ty (fun a e => by cases e; exact ⟨_, hl, rfl⟩) ?_
  refine callWith_method1 (rest := []) ?_ hse rfl
  rw [hse]
  show wpAny _ _ (spliced [(false, eval e env)]) _ _ s
  exact spliced_cons (wpAny_mono (h.run s₀ kp gE s vm g ad b i) (fun v s1 ⟨g1, i1, sb, r1⟩ => spliced_nil (k v s1 g1 i1 sb r1)) no_imp)
theorem map_seq (f : Array Value → Array Value) (its : Array Value) (n : Nat) : ∃ n', Obj.mapSeq f ⟨.type "list", none, .seq its n, #[]⟩ = ⟨.type "list", none, .seq (f its) n', #[]⟩ := by
  unfold Obj.mapSeq
  exact ⟨_, rfl⟩
theorem plain_update {h : Heap} {a : Addr} {its out : Array Value} {n : Nat} (f : Array Value → Array Value) (e : h.get? a = some ⟨.type "list", none, .seq its n, #[]⟩) (hf : f its = out) : (h.update a (Obj.mapSeq f)).PlainList a out := by
  obtain ⟨n', e'⟩ := map_seq f its n
  refine ⟨n', ?_⟩
  rw [Heap.get?_update_self _ e (by rw [e']; rfl), e', hf]
theorem update_same {h : Heap} {a : Addr} {f : Obj → Obj} : Heap.SameBut a h (h.update a f) := Heap.SameBut.update ..
theorem st_append {x : Str} {px apos pos cpos : Pos} {e : Expr} {pl : Sem Bool} {ds : List D} {d : D} (he : EnvOk env) (hx : ω.lookup x = some (.list ds)) (h : EvX C A env σ ω e d ω') (hx' : ω'.lookup x = some (.list ds)) (hs : ds.length < 1000)
    (k : Φ (.next σ ((x, .list (ds ++ [d])) :: del x ω')))
    (hev : eval (.Call (.Attribute (.Name x px) (Str.ofString "append") apos) [e] [] cpos) env = (do
      let ov ← eval (.Name x px) env
      standAt apos.atName
      let (f, first) ← holding [ov] (getMethod ov (Str.ofString "append") pl)
      callWith cpos f first (backTo cpos (starEach [e] env)) []) := by rfl)
    (hse : starEach [e] env = [(false, eval e env)] := by rfl) (hc : (x == ("__classdict__" : Str)) = false := by decide) (hd : (x == ("__debug__" : Str)) = false := by decide)
    (hi : interactive env = false := by rfl) :
    St C A env σ ω (.Expr (.Call (.Attribute (.Name x px) (Str.ofString "append") apos) [e] [] cpos) pos) Φ := .of fun s₀ kp gE s b ⟨vm, g, ad, i⟩ => by
  refine wpAny_Expr_any (own_meth (pl := pl) he hx h PySem.F.slot_list_append PySem.F.type_list_append b i (fun v s1 g1 i1 sb r1 => ?_) hev hse hc hd) hi rfl
  obtain ⟨_, _, ⟨vs, hl, ra⟩, _⟩ := i1.own x _ hx'
  refine wpAny_list_append_plain hl (fun h' hl' hsb => ?_) (by rw [List.size_toArray, ra.length]; exact small_size (Nat.le_of_lt hs))
  exact ⟨_, k, rfl, vm, g1, ad, i1.setOwn (tk' := s1.toks) hx' hsb ⟨vs ++ [v], by simpa using hl', ra.append (.cons r1 .nil)⟩⟩
theorem st_extend {x : Str} {px apos pos cpos : Pos} {e : Expr} {pl : Sem Bool} {ds es : List D} (he : EnvOk env) (hx : ω.lookup x = some (.list ds)) (h : Ev C A env σ e (.list es)) (hs : ds.length + es.length ≤ 1000)
    (k : Φ (.next σ ((x, .list (ds ++ es)) :: del x ω)))
    (hev : eval (.Call (.Attribute (.Name x px) (Str.ofString "extend") apos) [e] [] cpos) env = (do
      let ov ← eval (.Name x px) env
      standAt apos.atName
      let (f, first) ← holding [ov] (getMethod ov (Str.ofString "extend") pl)
      callWith cpos f first (backTo cpos (starEach [e] env)) []) := by rfl)
    (hse : starEach [e] env = [(false, eval e env)] := by rfl) (hc : (x == ("__classdict__" : Str)) = false := by decide) (hd : (x == ("__debug__" : Str)) = false := by decide)
    (hi : interactive env = false := by rfl) :
    St C A env σ ω (.Expr (.Call (.Attribute (.Name x px) (Str.ofString "extend") apos) [e] [] cpos) pos) Φ := .of fun s₀ kp gE s b ⟨vm, g, ad, i⟩ => by
  refine wpAny_Expr_any (own_meth (pl := pl) he hx (evx_ev h) PySem.F.slot_list_extend PySem.F.type_list_extend b i (fun v s1 g1 i1 sb r1 => ?_) hev hse hc hd) hi rfl
  obtain ⟨_, _, ⟨vs, ⟨n, hl⟩, ra⟩, _, nb, _⟩ := i1.own x _ hx
  obtain ⟨a, us, m, rfl, hu, rb⟩ := r1.list_inv
  have h1 := ra.length
  have h2 := rb.length
  refine call_meets PySem.F.slot_list_extend ⟨_, hl, rfl⟩ PySem.F.entry_list_extend (PySem.F.args_list_extend_2 _ _) (AutoSeq1.list_extend_list_list_0 (ad x) vs.toArray n a us.toArray m ?_ ?_ ?_) ⟨hl, i1.inc _ _ hu, ?_⟩
  · simp only [Builtin.List.listTooLong, List.size_toArray, h1, h2, Bool.and_eq_true, decide_eq_true_eq, not_and]
    exact fun _ => Nat.not_lt.mpr (small_size hs)
  · rw [List.size_toArray, h1]; exact small_size (by lia)
  · rw [List.size_toArray, List.size_toArray, h1, h2]; exact Nat.le_succ_of_le (small_size hs)
  · refine ⟨_, k, rfl, vm, g1, ad, i1.setOwn (tk' := s1.toks) hx update_same ⟨vs ++ us, plain_update _ hl (by simp), ra.append rb⟩⟩
theorem evx_pop {x : Str} {px apos cpos : Pos} {e : Expr} {pl : Sem Bool} {ds : List D} {d : D} {i : Int} (he : EnvOk env) (hx : ω.lookup x = some (.list ds)) (h : Ev C A env σ e (.int i)) (h0 : 0 ≤ i) (hd' : ds[i.toNat]? = some d) (hs : ds.length ≤ 1000)
    (hev : eval (.Call (.Attribute (.Name x px) (Str.ofString "pop") apos) [e] [] cpos) env = (do
      let ov ← eval (.Name x px) env
      standAt apos.atName
      let (f, first) ← holding [ov] (getMethod ov (Str.ofString "pop") pl)
      callWith cpos f first (backTo cpos (starEach [e] env)) []) := by rfl)
    (hse : starEach [e] env = [(false, eval e env)] := by rfl) (hc : (x == ("__classdict__" : Str)) = false := by decide) (hd : (x == ("__debug__" : Str)) = false := by decide) :
    EvX C A env σ ω (.Call (.Attribute (.Name x px) (Str.ofString "pop") apos) [e] [] cpos) d ((x, .list (ds.eraseIdx i.toNat)) :: del x ω) := .of fun s₀ kp gE s vm g ad b inv => by
  refine own_meth (pl := pl) he hx (evx_ev h) PySem.F.slot_list_pop PySem.F.type_list_pop b inv (fun v s1 g1 i1 sb r1 => ?_) hev hse hc hd
  obtain ⟨_, _, ⟨vs, ⟨n, hl⟩, ra⟩, _, nb, _⟩ := i1.own x _ hx
  obtain ⟨t, rfl⟩ := r1.int_inv
  obtain ⟨y, hy, ry⟩ := ra.get' hd'
  have hvl := ra.length
  have hlt : i.toNat < ds.length := (List.getElem?_eq_some_iff.mp hd').1
  have hidx : seqIndex? i vs.toArray.size = some i.toNat := by
    unfold seqIndex?
    rw [List.size_toArray, hvl]
    have : ¬ i < 0 := by lia
    simp only [this, if_false]
    split <;> first | rfl | (exfalso; simp at *; lia)
  refine call_meets PySem.F.slot_list_pop ⟨_, hl, rfl⟩ PySem.F.entry_list_pop (PySem.F.args_list_pop_2 _ _) (MeetsSeq.list_pop_at (ad x) vs.toArray n i t i.toNat y ?_ hidx (by simpa using hy) (by rw [List.size_toArray, hvl]; exact small_size hs)) ⟨hl, ?_⟩
  · simp only [Builtin.List.listFitsIndex, Bool.and_eq_true, decide_eq_true_eq]; lia
  · refine ⟨g1, i1.setOwn (tk' := s1.toks) hx update_same ⟨vs.eraseIdx i.toNat, plain_update _ hl ?_, ?_⟩, sb, ry⟩
    · have hlt2 : i.toNat < vs.length := by lia
      simp [Array.eraseIdxIfInBounds, hlt2]
    · have : ∀ {vs : List Value} {ds : List D} (j : Nat), RdAll g1 vs ds → RdAll g1 (vs.eraseIdx j) (ds.eraseIdx j) := by
        intro vs ds j r
        rw [List.eraseIdx_eq_take_drop_succ, List.eraseIdx_eq_take_drop_succ]
        exact (r.take j).append (r.drop (j + 1))
      exact this _ ra
end
end Zn
/-! part ZnO -/
namespace Zn
open PySem PySem.W PySem.Calls PyProof.Rows PySem.Spec PySem.SeqAt

section
variable {C : Cx} {A : Around} {env : Env} {σ σ' : Sig} {ω ω' : OSig} {Φ Ψ : Out → Prop} {s₀ s s' : Shared} {kp gE g g' : View} {vm : Str → Option Value} {ad : Str → Addr}
theorem InvG.apartFrom (i : InvG s₀ kp gE env σ ω vm g ad s) {L : Addr} (n1 : kp L = none) (n2 : g L = none) (nf : ¬ Ft env env.cells L) (na : ∀ y oe, ω.lookup y = some oe → ad y ≠ L) {h' : Heap} {tk' : Nat} (hs : Heap.SameBut L s.heap h') : InvG s₀ kp gE env σ ω vm g ad { s with heap := h', toks := tk' } := by
  refine ⟨?_, fun a o e => ?_, i.sub, fun a o e => ?_, i.fresh, i.fx.keepBut fun a o m e => ?_, i.ft, i.var, fun x od e => ?_, i.apart⟩
  · obtain ⟨h1, t1, e1⟩ := i.shape
    exact ⟨h', tk', by rw [e1]⟩
  · exact (hs.2 a fun q => by rw [q, n1] at e; cases e).trans (i.keep a o e)
  · exact (hs.2 a fun q => by rw [q, n2] at e; cases e).trans (i.inc a o e)
  · exact (hs.2 a fun q => nf (q ▸ m)).trans e
  · obtain ⟨o, a, b, c, d, f⟩ := i.own x od e
    exact ⟨o, a, b.step (fun _ e' => (hs.2 _ (na x od e)).trans e') Sub.rfl', c, d, f⟩
theorem fresh_not_mods (hC : C.Ok) (b : Sub C.hB.get? kp) (i : Inc kp s.heap) {a : Addr} (n : s.heap.get? a = none) : (a == sysModules) = false := by
  rw [beq_eq_false_iff_ne]
  rintro rfl
  cases z : C.hB.get? sysModules with
  | none => exact hC.mods z
  | some o => have := i _ _ (b _ _ z); rw [n] at this; cases this
theorem evn_dict1 {k v : Expr} {pos : Pos} {a : Int} {d : D} (hC : C.Ok) (h1 : Ev C A env σ k (.int a)) (h2 : Ev C A env σ v d)
    (hsh : (evalEachOpt [some k] env).zip ((evalEach [v] env).map fun v => do let x ← v; standAt pos; pure x) = [(eval k env, (do let x ← eval v env; standAt pos; pure x : Sem Value))].map (fun p => (some p.1, p.2)) := by rfl) :
    EvN C A env σ ω (.Dict [some k] [v] pos) (.dict [(a, d)]) ω := .of fun s₀ kp gE s vm g ad b i => by
  have n0 : s.heap.get? s.heap.objs.size = none := none_size
  have nm := fresh_not_mods hC b i.keep n0
  have i0 := i.step (Stp.pushOut i.inc { cls := .type "dict", data := .dict #[] })
  have hnew := Heap.get?_push_size s.heap (o := { cls := .type "dict", data := .dict #[] }) rfl
  have kD : kp s.heap.objs.size = none := by
    cases z : kp s.heap.objs.size with
    | none => rfl
    | some o => have := i.keep _ _ z; rw [n0] at this; cases this
  refine wpAny_Dict_pairs (knd := intKind C.prog C.w) hsh (by simp) (by simp) (evalPairs_cons (h1.then (i0.pre b) fun kv s1 g1 k1 p1 r1 => wpAny_bind (h2.then p1 fun vv s2 g2 k2 p2 r2 => wpAny_bind (wpAny_standAt (wpAny_pure (evalPairs_nil ?_))))))
  obtain ⟨t, rfl⟩ := r1.int_inv
  have K := k1.trans k2
  have gD : g2 s.heap.objs.size = none := by
    cases z : g2 s.heap.objs.size with
    | none => rfl
    | some o =>
      rcases K.fresh _ _ z with y | y
      · rw [view_size i.inc] at y; cases y
      · rw [show (s.heap.push { cls := .type "dict", data := .dict #[] }).get? s.heap.objs.size = none from y] at hnew; cases hnew
  have hd := K.keep _ _ hnew
  refine ⟨[(a, vv)], ⟨intKind_is _ _ _ _, rfl, trivial⟩, ⟨_, #[], 0, hd, ⟨rfl, rfl, rfl⟩, rfl, fun _ he => by simp at he, .nil, List.nodup_nil⟩, fun h' hm hsb => ?_⟩
  obtain ⟨o, ho, hio⟩ := Heap.dictOf_iff.mp hm
  have i2 := i0.step K
  have nf : ¬ Ft env env.cells s.heap.objs.size := fun m => i.fx.has m n0
  have na : ∀ y oe, ω.lookup y = some oe → ad y ≠ s.heap.objs.size := fun y oe e q => by
    obtain ⟨_, _, c, _⟩ := i.own y oe e
    exact c.has (q ▸ n0)
  refine ⟨g2, _, rfl, i2.apartFrom kD gD nf na hsb, ⟨o, [(a, vv)], ho, nm, ⟨_, _, by simpa [merged, stored] using hio⟩, .cons r2 .nil⟩, kD, gD, nf, na⟩
theorem RdKv.length {g : View} : ∀ {kvs : List (Int × Value)} {ks : List (Int × D)}, RdKv g kvs ks → kvs.length = ks.length := by
  intro kvs
  induction kvs with
  | nil => intro ks h; cases h; rfl
  | cons x kvs ih => intro ks h; cases h with | cons _ r => rw [List.length_cons, List.length_cons, ih r]
theorem stored_new {g : View} {a : Int} {v : Value} {d : D} : ∀ {kvs : List (Int × Value)} {ks : List (Int × D)}, RdKv g kvs ks → a ∉ ks.map (·.1) → Rd g v d → (stored kvs a v = kvs ++ [(a, v)] ∧ RdKv g (kvs ++ [(a, v)]) (ks ++ [(a, d)]))
  | _, _, .nil, n, r => ⟨by simp [stored], .cons r .nil⟩
  | _, _, .cons (k := k) (kvs := kvs) h rest, n, r => by
    obtain ⟨e, f⟩ := stored_new rest (fun q => n (.tail _ q)) r
    have hk : k ≠ a := fun q => n (by simp [q])
    refine ⟨?_, .cons h f⟩
    unfold stored at e ⊢
    split at e
    · rename_i q
      have hl := congrArg List.length e
      simp at hl
    · rename_i q
      simp only [List.any_cons, hk, decide_false, Bool.false_or, q, Bool.false_eq_true, if_false]
theorem st_setitem {x : Str} {px p' pos : Pos} {k v : Expr} {ks : List (Int × D)} {a : Int} {d : D} (he : EnvOk env) (hx : ω.lookup x = some (.dict ks)) (hv : Ev C A env σ v d) (hk : Ev C A env σ k (.int a)) (hn : a ∉ ks.map (·.1)) (hl : ks.length ≤ 100)
    (hΦ : Φ (.next σ ((x, .dict (ks ++ [(a, d)])) :: del x ω))) (hs : swapsWith v (some (.Subscript (.Name x px) k p')) pos.line env = pure false := by rfl)
    (hc : (x == ("__classdict__" : Str)) = false := by decide) (hd : (x == ("__debug__" : Str)) = false := by decide) : St C A env σ ω (.Assign [.Subscript (.Name x px) k p'] v pos) Φ := .of fun s₀ kp gE s b ⟨vm, g, ad, i⟩ => by
  refine wpAny_Assign_Subscript (hv.then (i.pre b) fun vv s1 g1 k1 p1 r1 => ?_) hs
  have i1 := i.step k1
  refine own_read i1 he hx hc hd (hk.then p1 fun kv s2 g2 k2 p2 r2 => ?_)
  obtain ⟨t, rfl⟩ := r2.int_inv
  have i2 := i1.step k2
  obtain ⟨_, _, ⟨o, kvs, ho, hm, hid, hr⟩, _⟩ := i2.own x _ hx
  obtain ⟨e1, e2⟩ := stored_new hr hn (r1.mono k2.sub)
  have hlen : kvs.length = ks.length := hr.length
  refine wpAny_setItem_pairs (knd := intKind C.prog C.w) (intKind_is _ _ _ _) (Heap.dictOf_iff.mpr ⟨o, ho, hid.at _ _⟩) (fun h' hm' hsb => ?_) (by rw [hlen]; exact small_size (by lia))
  obtain ⟨o', ho', hio'⟩ := Heap.dictOf_iff.mp hm'
  exact ⟨_, hΦ, rfl, vm, g2, ad, i2.setOwn (tk' := s2.toks + 1) hx hsb ⟨o', _, ho', hm, ⟨_, _, by rw [e1] at hio'; exact hio'⟩, e2⟩⟩
end
end Zn
/-! part ZnS -/
namespace Zn
open PySem PySem.W PySem.Calls PyProof.Rows PySem.Spec PySem.SeqAt

noncomputable def isNone : D → Bool
  | .none => true
  | _ => false
noncomputable def noneable : D → Bool
  | .none | .str _ | .dict _ | .int _ => true
  | _ => false
theorem cmp_is {d : D} (h : noneable d = true) : Cmp .Is d .none (isNone d) := fun C A g s v u hr _ _ inc x y => by
  obtain rfl := y.none_inv
  cases x <;> first | exact gives_bool inc fun _ hq => wpAny_is_plain (by rfl) hq | cases h
theorem cmp_isNot {d : D} (h : noneable d = true) : Cmp .IsNot d .none (!isNone d) := fun C A g s v u hr _ _ inc x y => by
  obtain rfl := y.none_inv
  cases x <;> first | exact gives_bool inc fun _ hq => wpAny_isNot_plain (by rfl) hq | cases h
section
variable {C : Cx} {A : Around} {env : Env} {σ : Sig}
theorem ev_global {x : Str} {pos : Pos} {v : Value} {d : D} (hC : C.Ok) (he : EnvOk env) (hx : env.kindOf x = some .globalImplicit) (hm : C.mg x = some v) (r : Rd (fun _ => none) v d) (hd : (x == ("__debug__" : Str)) = false := by decide) : Ev C A env σ (.Name x pos) d := .of fun g s pre =>
  Name_function_global he.kind hx (loadGlobal_global (by rw [he.globals]; exact hC.g.keeps pre.base) hm ⟨g, Stp.refl pre.inc, r.mono fun a o e => by cases e⟩) hd
theorem gname {x : Str} {pos : Pos} {v : Value} {Q : Value → Shared → Prop} {g : View} {s : Shared} (hC : C.Ok) (he : EnvOk env) (hx : env.kindOf x = some .globalImplicit) (hm : C.mg x = some v) (pre : Pre C env σ g s) (hd : (x == ("__debug__" : Str)) = false) (h : Q v s) : wpAny C.M A (eval (.Name x pos) env) Q No s :=
  Name_function_global he.kind hx (loadGlobal_global (by rw [he.globals]; exact hC.g.keeps pre.base) hm h) hd
theorem SetOf.keep {h h' : Heap} {prog : Program} {w : World} {a : Addr} {S : Int → Bool} {n : Nat} (x : h.SetOf (intKind prog w) a S n) (k : Kp h h') : h'.SetOf (intKind prog w) a S n := by
  obtain ⟨o, es, ep, t, ho, r⟩ := x
  exact ⟨o, es, ep, t, k _ _ ho, r⟩
theorem ev_inset {x : Str} {p pos : Pos} {l : Expr} {a : Addr} {S : Int → Bool} {n : Nat} {i : Int} (hC : C.Ok) (he : EnvOk env) (hr : Rm A 0) (hx : env.kindOf x = some .globalImplicit) (hm : C.mg x = some (.ref a)) (hS : C.hB.SetOf (intKind C.prog C.w) a S n) (h1 : Ev C A env σ l (.int i))
    (hd : (x == ("__debug__" : Str)) = false := by decide) (hmk : behindInMarks .In (.Name x p) = false := by rfl) : Ev C A env σ (.Compare l [.In] [.Name x p] pos) (.bool (S i)) := .of fun g s pre =>
  wpAny_Compare1 (h1.then pre fun v s1 g1 k1 p1 r1 => gname hC he hx hm p1 hd (by
    obtain ⟨t, rfl⟩ := r1.int_inv
    exact wpAny_inSet_of (intKind_is _ _ _ _) rfl (SetOf.keep hS p1.base) ⟨g1, k1.tok _, .bool _⟩)) hmk
theorem mapOf_keep {h h' : Heap} {prog : Program} {w : World} {a : Addr} {f : Int → Option Value} (x : h.MapOf (intKind prog w) a f) (k : Kp h h') : h'.MapOf (intKind prog w) a f := by
  obtain ⟨o, es, ep, ho, r⟩ := x
  exact ⟨o, es, ep, k _ _ ho, r⟩
theorem ev_gget1 {x : Str} {px apos pos : Pos} {e : Expr} {pl : Sem Bool} {a : Addr} {f : Int → Option Value} {i : Int} {d : D} (hC : C.Ok) (he : EnvOk env) (hr : Rm A 0) (hx : env.kindOf x = some .globalImplicit) (hm : C.mg x = some (.ref a)) (ha : (a == sysModules) = false) (hf : C.hB.MapOf (intKind C.prog C.w) a f) (h1 : Ev C A env σ e (.int i)) (hv : Rd (fun _ => none) ((f i).getD .none) d)
    (hev : eval (.Call (.Attribute (.Name x px) (Str.ofString "get") apos) [e] [] pos) env = (do
      let ov ← eval (.Name x px) env
      standAt apos.atName
      let (f, first) ← holding [ov] (getMethod ov (Str.ofString "get") pl)
      callWith pos f first (backTo pos (starEach [e] env)) []) := by rfl)
    (hse : starEach [e] env = [(false, eval e env)] := by rfl) (hd : (x == ("__debug__" : Str)) = false := by decide) :
    Ev C A env σ (.Call (.Attribute (.Name x px) (Str.ofString "get") apos) [e] [] pos) d := .of fun g s pre => by
  have hf1 := mapOf_keep hf pre.base
  refine MethodCall_ (pl := pl) (gname hC he hx hm pre hd (getMethod_builtin hf1.typeIs PySem.F.plainAttrs_dict PySem.F.slot_dict_get PySem.F.type_dict_get hf1.noDict ?_)) hev
  refine callWith_method1 (rest := []) ?_ hse rfl
  rw [hse]
  show wpAny _ _ (spliced [(false, eval e env)]) _ _ s
  refine spliced_cons (h1.then pre fun v s1 g1 k1 p1 r1 => spliced_nil ?_)
  obtain ⟨t, rfl⟩ := r1.int_inv
  have hf2 := mapOf_keep hf p1.base
  exact call_meetsIn PySem.F.slot_dict_get hf2.typeIs PySem.F.entry_dict_get (PySem.F.args_dict_get_2 _ _) (meets_dict_get (intKind C.prog C.w) a (intKind_is _ _ _ _) ha) ⟨f, hf2, g1, k1.tok _, hv.mono fun a o e => by cases e⟩
theorem ev_gget2 {x : Str} {px apos pos : Pos} {e e2 : Expr} {pl : Sem Bool} {a : Addr} {f : Int → Option Value} {i : Int} {d d2 : D} (hC : C.Ok) (he : EnvOk env) (hr : Rm A 0) (hx : env.kindOf x = some .globalImplicit) (hm : C.mg x = some (.ref a)) (ha : (a == sysModules) = false) (hf : C.hB.MapOf (intKind C.prog C.w) a f) (h1 : Ev C A env σ e (.int i)) (h2 : Ev C A env σ e2 d2)
    (hv : match f i with | some v => Rd (fun _ => none) v d | none => d = d2)
    (hev : eval (.Call (.Attribute (.Name x px) (Str.ofString "get") apos) [e, e2] [] pos) env = (do
      let ov ← eval (.Name x px) env
      standAt apos.atName
      let (f, first) ← holding [ov] (getMethod ov (Str.ofString "get") pl)
      callWith pos f first (backTo pos (starEach [e, e2] env)) []) := by rfl)
    (hse : starEach [e, e2] env = [(false, eval e env), (false, eval e2 env)] := by rfl) (hd : (x == ("__debug__" : Str)) = false := by decide) :
    Ev C A env σ (.Call (.Attribute (.Name x px) (Str.ofString "get") apos) [e, e2] [] pos) d := .of fun g s pre => by
  have hf1 := mapOf_keep hf pre.base
  refine MethodCall_ (pl := pl) (gname hC he hx hm pre hd (getMethod_builtin hf1.typeIs PySem.F.plainAttrs_dict PySem.F.slot_dict_get PySem.F.type_dict_get hf1.noDict ?_)) hev
  rw [hse]
  show wpAny _ _ (callWith pos (.builtin "dict.get") [.ref a] [(false, eval e env), (false, eval e2 env)] []) _ _ s
  refine Calls.callWith_builtin rfl (evalArgs_plain ?_)
  refine spliced_cons (h1.then pre fun v s1 g1 k1 p1 r1 => spliced_cons (h2.then p1 fun u s2 g2 k2 p2 r2 => spliced_nil ?_))
  obtain ⟨t, rfl⟩ := r1.int_inv
  have hf2 := mapOf_keep hf p2.base
  refine call_meetsIn PySem.F.slot_dict_get hf2.typeIs PySem.F.entry_dict_get (PySem.F.args_dict_get_3 _ _ _) (meets_dict_get_default (intKind C.prog C.w) a (intKind_is _ _ _ _) ha u) ⟨f, hf2, g2, (k1.trans k2).tok _, ?_⟩
  cases hfi : f i with
  | none => rw [hfi] at hv; rw [hv]; exact r2
  | some v => rw [hfi] at hv; exact hv.mono fun a o e => by cases e
end
end Zn
/-! part ZnW -/
namespace Zn
open PySem PySem.W PySem.Calls PyProof.Rows PySem.Spec PySem.SeqAt
open PySem.F

/-! facts of the type filter -/
theorem mro_filter : mroOf (.type "filter") = pure [.type "filter", .type "object"] := by rw [mroOf_type]; kernel_rfl
theorem lookup_filter_new : typeLookup (.type "filter") "__new__" = pure (some (.builtin "filter.__new__")) := by rw [typeLookup_type, builtinLookup_eq_fast]; kernel_rfl
theorem owner_filter : Manifest.owners.lookup (String.ofList ['r', 'e', 't', 'l', 'i', 'f'].reverse) = some Manifest.sig_filter := by kernel_rfl
theorem slot_filter_init : Slot "filter" "__init__" "object.__init__" :=
  .of (owner := "object") (n := "__init__") (by rw [typeLookup_type, builtinLookup_eq_fast]; kernel_rfl) (by decide +kernel) (by decide +kernel) (by decide +kernel)
    (by first | exact .inl (by decide +kernel) | exact .inr (by decide +kernel)) (by rw [isSubtype_type]; kernel_rfl)
theorem slot_filter_next : Slot "filter" "__next__" "filter.__next__" :=
  .of (owner := "filter") (n := "__next__") (by rw [typeLookup_type, builtinLookup_eq_fast]; kernel_rfl) (by decide +kernel) (by decide +kernel) (by decide +kernel)
    (by first | exact .inl (by decide +kernel) | exact .inr (by decide +kernel)) (by rw [isSubtype_type]; kernel_rfl)
theorem slot_filter_iter : Slot "filter" "__iter__" "filter.__iter__" :=
  .of (owner := "filter") (n := "__iter__") (by rw [typeLookup_type, builtinLookup_eq_fast]; kernel_rfl) (by decide +kernel) (by decide +kernel) (by decide +kernel)
    (by first | exact .inl (by decide +kernel) | exact .inr (by decide +kernel)) (by rw [isSubtype_type]; kernel_rfl)
theorem entry_filter_next : entryFor table "filter.__next__" = some Builtin.«filter.__next__» := entryFor_of_tree (by kernel_rfl)
theorem entry_filter_new : entryFor table "filter.__new__" = some Builtin.«filter.__new__» := entryFor_of_tree (by kernel_rfl)
theorem entry_filter_iter : entryFor table "filter.__iter__" = some Builtin.«dict_keyiterator.__iter__» :=
  entryFor_alias (id' := "dict_keyiterator.__iter__") (by rw [fastTable_eq_tree]; kernel_rfl) (by first | rfl | decide +kernel | (unfold String.splitOn; simp +decide [String.splitOnAux])) (by decide +kernel) (by rw [fastTable_eq_tree]; kernel_rfl)
theorem args_filter_next_1 (a : Value) : argsOk "filter.__next__" ⟨[a], []⟩ := by
  unfold argsOk; rw [signature?_of (id := "filter.__next__") (n := ['_', '_', 't', 'x', 'e', 'n', '_', '_']) (o := ['r', 'e', 't', 'l', 'i', 'f']) (by kernel_rfl) owner_filter]; kernel_rfl
theorem args_filter_iter_1 (a : Value) : argsOk "filter.__iter__" ⟨[a], []⟩ := by
  unfold argsOk; rw [signature?_of (id := "filter.__iter__") (n := ['_', '_', 'r', 'e', 't', 'i', '_', '_']) (o := ['r', 'e', 't', 'l', 'i', 'f']) (by kernel_rfl) owner_filter]; kernel_rfl
theorem sub_filter : isSubtype (.type "filter") (.type "filter") = pure true := by rw [isSubtype_type]; kernel_rfl
theorem called_filter : TypeCalled "filter" "filter.__new__" "object.__init__" :=
  ⟨by decide +kernel, by decide +kernel, ⟨_, _, mro_filter⟩, madeBy_type mro_filter lookup_filter_new (by decide +kernel), by decide +kernel, sub_filter, slot_filter_init⟩
theorem typeCall_filter_2 (a b : Value) : checkTypeCall "filter" ⟨[a, b], []⟩ = pure () := by kernel_rfl
theorem newCall_filter_2 (a b : Value) : checkBuiltinCall "filter.__new__" ⟨[.type "filter", a, b], []⟩ = pure () := by kernel_rfl

section
variable {prog : Program} {w : World} {A : Around} {E : Value → Shared → Prop} {s : Shared}
noncomputable def filterObj (it : Addr) : Obj := { cls := .type "filter", data := .fields #[.none, .ref it] }
theorem call_filter {x : Value} {Q : Value → Shared → Prop} (h : wpAny (model prog w) A.in1.in1 (pyIter x) (fun it s' => ∃ I, it = .ref I ∧ Q (.ref s'.heap.objs.size) { s' with heap := s'.heap.push (filterObj I) }) E s) :
    wpAny (model prog w) A (call (.type "filter") [.none, x]) Q E s := by
  refine callType_newIn (S := fun A R s => wpAny (model prog w) A.in1 (pyIter x) (fun it s' => ∃ I, it = .ref I ∧ R (.ok (.ret (.ref s'.heap.objs.size))) { s' with heap := s'.heap.push (filterObj I) }) (fun e s' => R (.error e) s') s) called_filter (by decide) (typeCall_filter_2 _ _) (newCall_filter_2 _ _) (fun obj => F.args_object_init_3 obj _ _) entry_filter_new
    (.of_wp fun A R s h => ?_) ?_
  · have hsub := sub_filter
    obtain ⟨hp, g, d, tk, os⟩ := s
    have key : ∀ (Q' : Value → Shared → Prop), (∀ it s', (∃ I, it = .ref I ∧ R (.ok (.ret (.ref s'.heap.objs.size))) { s' with heap := s'.heap.push (filterObj I) }) → Q' it s') → wpAny (model prog w) A.in1 (pyIter x) Q' (fun e s' => R (.error e) s') ⟨hp, g, d, tk, os⟩ := fun Q' hq => wpAny_mono h hq (fun _ _ x => x)
    wp_walk using key _
    rintro it s' ⟨I, rfl, q⟩
    refine wpAny_bind (wpAny_newObj_type (T := "filter") (data := .fields [Value.none, Value.ref I].toArray) ?_ (by size_fits))
    exact wpAny_pure ⟨_, rfl, q⟩
  · refine wpAny_mono h (fun it s' ⟨I, e, q⟩ => ⟨I, e, ⟨_, Heap.get?_push_size _ rfl, rfl⟩, q⟩) fun _ _ x => x

/-! a step of a dict's values, raising at its end -/
variable {K : Type} [DecidableEq K] {knd : KeyKind prog w K}
theorem vals_head {it d : Addr} {i ep : Nat} {kvs : List (K × Value)} {Q : Option Value → Shared → Prop} (hit : s.heap.IsValIter it d i kvs.length ep) (hm : s.heap.DictAt knd d kvs ep)
    (hitem : ∀ k v, kvs[i]? = some (k, v) → ∀ h', h'.IsValIter it d (i + 1) kvs.length ep → Heap.SameBut it s.heap h' → Q (some v) { s with heap := h' })
    (hend : kvs[i]? = none → ∀ h' e, Heap.ExtBut it s.heap h' → (∃ o, h'.get? e = some o ∧ o.cls = .type "StopIteration") → E (.ref e) { s with heap := h' }) (hh : A.handled = none) :
    wpAny (model prog w) A (callSpecial? (.ref it) "__next__") Q E s := by
  obtain ⟨o, ho, hc, hd⟩ := id hit
  obtain ⟨od, es, hod, hcd, hdd, hk, hp, hn⟩ := id hm
  have hsz : es.size = kvs.length := by rw [← hp.length]; simp
  refine wpAny_callSpecial?_slot (name := Str.ofString "__next__") hit.typeIs F.slot_dict_valueiterator_next (wpAny_call_entry F.slot_dict_valueiterator_next hit.typeIs F.entry_dict_valueiterator_next ?_ (F.args_dict_valueiterator_next_1 _))
  refine wpAny_bind (wpAny_pure (wpAny_bind (wpAny_bind ?_)))
  first | refine wpAny_bind (wpAny_typeNameOfWhole_valiter hit.typeIs (wpAny_pure ?_)) | refine wpAny_bind (wpAny_typeNameOf_valiter hit.typeIs (wpAny_pure ?_))
  refine wpAny_bind (wpAny_fieldsOf ho hd ?_)
  have hown : Builtin.Dict_items.ownsTuple "dict_valueiterator" = false := by decide
  simp only [hown, Bool.false_eq_true, if_false]
  show wpAny _ _ (if (Value.ref d == Value.none) = true then _ else _) _ _ s
  rw [if_neg (show ¬ ((Value.ref d == Value.none) = true) from Bool.false_ne_true)]
  refine wpAny_bind (wpAny_pure (wpAny_bind (wpAny_dictEntries hod hdd ?_)))
  rw [if_neg (by rw [hsz]; simp)]
  refine wpAny_bind (wpAny_pure (wpAny_bind (wpAny_dictEpoch hod hdd ?_)))
  rw [if_neg (by simp)]
  refine wpAny_pure ?_
  by_cases hlt : i < kvs.length
  · have hlt' : i < es.size := by rw [hsz]; exact hlt
    have hx : kvs[i]? = some kvs[i] := List.getElem?_eq_getElem hlt
    have hval : es[i].val = kvs[i].2 := (hp.get? (e := es[i]) (by simp [hlt']) hx).2
    simp only [show ¬ ((i : Int) < 0) from by lia, if_false, Int.toNat_natCast, Array.getElem?_eq_getElem hlt']
    refine wpAny_bind ?_
    first | refine wpAny_bind (wpAny_typeNameOfWhole_valiter hit.typeIs (wpAny_pure ?_)) | refine wpAny_bind (wpAny_typeNameOf_valiter hit.typeIs (wpAny_pure ?_))
    refine wpAny_bind (wpAny_isOneOf_valiter hit.typeIs ?_)
    show wpAny _ _ (setField (.ref it) 1 (rawInt ((i : Int) + 1)) >>= _) _ _ s
    refine wpAny_bind (wpAny_setField ho hd (by simp) ?_)
    have hit' : (s.heap.update it (Obj.mapFields (·.setIfInBounds 1 (rawInt ((i : Int) + 1))))).IsValIter it d (i + 1) kvs.length ep :=
      ⟨_, Heap.get?_update_self _ ho (Obj.isFreed_of_fields (Obj.data_mapFields hd _)), (Obj.cls_mapFields ..).trans hc, by rw [Obj.data_mapFields hd]; simp [rawInt]⟩
    refine wpAny_bind (wpAny_holding ?_)
    refine wpAny_bind (wpAny_isOneOf_valiter (s := { s with heap := s.heap.update it (Obj.mapFields (·.setIfInBounds 1 (rawInt ((i : Int) + 1)))) }) hit'.typeIs ?_)
    refine wpAny_bind (wpAny_isOneOf_valiter (s := { s with heap := s.heap.update it (Obj.mapFields (·.setIfInBounds 1 (rawInt ((i : Int) + 1)))) }) hit'.typeIs ?_)
    show wpAny _ _ (pure es[i].val) _ _ _
    exact wpAny_pure (wpAny_pure ⟨_, rfl, hval ▸ hitem _ _ hx _ hit' (Heap.SameBut.update ..)⟩)
  · have hge : es.size ≤ i := by rw [hsz]; lia
    have hx : kvs[i]? = none := List.getElem?_eq_none (by lia)
    simp only [show ¬ ((i : Int) < 0) from by lia, if_false, Int.toNat_natCast, Array.getElem?_eq_none hge]
    refine wpAny_bind ?_
    first | refine wpAny_bind (wpAny_typeNameOfWhole_valiter hit.typeIs (wpAny_pure ?_)) | refine wpAny_bind (wpAny_typeNameOf_valiter hit.typeIs (wpAny_pure ?_))
    show wpAny _ _ (setField (.ref it) 0 .none >>= _) _ _ s
    refine wpAny_bind (wpAny_setField ho hd (by simp) ?_)
    show wpAny _ _ (newExc (.type "StopIteration") [] >>= _) _ _ _
    refine wpAny_bind ?_
    simp only [newExc, newTuple]
    refine wpAny_bind (wpAny_newObj_type ?_ (by size_fits))
    refine wpAny_bind (m := firstArgMember _ _) (wpAny_of_eq (a := Value.none) (by first | rfl | (simp only [firstArgMember]; rfl)) ?_)
    refine wpAny_newObj_type ?_ (by size_fits)
    refine wpAny_raiseNew_none hh ?_
    exact hend hx _ _ (((Heap.SameBut.update ..).extBut.push _).push _) ⟨_, Heap.get?_push_size _ rfl, rfl⟩

/-- what a value tells as a test: ints and None -/
noncomputable def TrOk (tr : Value → Bool) (v : Value) : Prop := (∃ n t, v = .int n t ∧ tr v = (n != 0)) ∨ (v = .none ∧ tr v = false)
theorem truthy_tr {tr : Value → Bool} {v : Value} (h : TrOk tr v) {Q : Bool → Shared → Prop} (q : Q (tr v) s) : wpAny (model prog w) A (truthy v) Q E s := by
  rcases h with ⟨n, t, rfl, e⟩ | ⟨rfl, e⟩
  · rw [e] at q; exact PyProof.Rows.truthy_int q
  · rw [e] at q; exact truthy_none q
theorem plain_filter_next : plainId "filter.__next__" = true := by decide +kernel
noncomputable def FiltSt (tr : Value → Bool) (F I d : Addr) (kvs : List (K × Value)) (ep : Nat) (j : Nat) (h : Heap) : Prop :=
  ∃ i, h.get? F = some (filterObj I) ∧ h.IsValIter I d i kvs.length ep ∧ h.DictAt knd d kvs ep ∧ i ≤ kvs.length ∧ (((kvs.drop i).map (·.2)).filter tr) = (((kvs.map (·.2)).filter tr).drop j)
theorem drop_cons_get {α : Type} {l : List α} {i : Nat} {a : α} (h : l[i]? = some a) : l.drop i = a :: l.drop (i + 1) := by
  have hlt : i < l.length := (List.getElem?_eq_some_iff.mp h).1
  rw [List.drop_eq_getElem_cons hlt, (List.getElem?_eq_some_iff.mp h).2]
theorem filt_code {A : Around} {R : Result → Shared → Prop} {F I d : Addr} {kvs : List (K × Value)} {ep : Nat} {tr : Value → Bool} (hh : A.handled = none) (hFI : F ≠ I) (hdI : d ≠ I) (htr : ∀ p ∈ kvs, TrOk tr p.2) :
    ∀ (k i : Nat) (s : Shared), kvs.length - i = k → i ≤ kvs.length → s.heap.get? F = some (filterObj I) → s.heap.IsValIter I d i kvs.length ep → s.heap.DictAt knd d kvs ep →
    (∀ v rest, ((kvs.drop i).map (·.2)).filter tr = v :: rest → ∀ i' h', i' ≤ kvs.length → ((kvs.drop i').map (·.2)).filter tr = rest → h'.IsValIter I d i' kvs.length ep → Heap.SameBut I s.heap h' → R (.ok (.ret v)) { s with heap := h' }) →
    (((kvs.drop i).map (·.2)).filter tr = [] → ∀ h' e, Heap.ExtBut I s.heap h' → (∃ o, h'.get? e = some o ∧ o.cls = .type "StopIteration") → R (.error (.ref e)) { s with heap := h' }) →
    codeAny (model prog w) A (.builtin "filter.__next__" ⟨[.ref F], []⟩) R s := by
  intro k
  induction k with
  | zero =>
    intro i s hk hi hF hit hm hok hend
    have hx : kvs[i]? = none := List.getElem?_eq_none (by lia)
    refine codeAny_builtin entry_filter_next ?_
    rw [Around.under_plainId plain_filter_next _]
    refine wpAny_bind (m := slotArgs "__next__" 0 _) (wpAny_pure ?_)
    refine wpAny_bind (wpAny_field hF rfl (x := .none) rfl ?_)
    refine wpAny_bind (wpAny_field hF rfl (x := .ref I) rfl ?_)
    refine wpAny_bind (vals_head (knd := knd) hit hm (fun k v e => by rw [hx] at e; cases e) (fun _ h' e hs ho => ?_) hh)
    exact hend (by rw [List.drop_of_length_le (by omega)]; rfl) h' e hs ho
  | succ k ih =>
    intro i s hk hi hF hit hm hok hend
    have hlt : i < kvs.length := by omega
    refine codeAny_builtin entry_filter_next ?_
    rw [Around.under_plainId plain_filter_next _]
    refine wpAny_bind (m := slotArgs "__next__" 0 _) (wpAny_pure ?_)
    refine wpAny_bind (wpAny_field hF rfl (x := .none) rfl ?_)
    refine wpAny_bind (wpAny_field hF rfl (x := .ref I) rfl ?_)
    refine wpAny_bind (vals_head (knd := knd) hit hm (fun k' v e h' hit' hs => ?_) (fun e => by rw [List.getElem?_eq_getElem hlt] at e; cases e) hh)
    have hmem : (k', v) ∈ kvs := List.mem_of_getElem? e
    have hd := drop_cons_get e
    have hF' : h'.get? F = some (filterObj I) := (hs.2 F hFI).trans hF
    have hm' : h'.DictAt knd d kvs ep := by obtain ⟨o, es, ho, r⟩ := hm; exact ⟨o, es, (hs.2 d hdI).trans ho, r⟩
    refine wpAny_bind (wpAny_holding (wpAny_bind (wpAny_rule (truthy_tr (htr _ hmem) ?_))))
    have hfil : ((kvs.drop i).map (·.2)).filter tr = if tr v then v :: ((kvs.drop (i + 1)).map (·.2)).filter tr else ((kvs.drop (i + 1)).map (·.2)).filter tr := by
      rw [hd, List.map_cons, List.filter_cons]
    cases htv : tr v with
    | true =>
      rw [htv, if_pos rfl] at hfil
      exact wpAny_pure (hok v _ hfil (i + 1) h' hlt rfl hit' hs)
    | false =>
      rw [htv, if_neg (by decide)] at hfil
      rw [hfil] at hok hend
      refine wpAny_pure ⟨plainId_quiet plain_filter_next _, ih (i + 1) _ (by lia) hlt hF' hit' hm' (fun v' rest e' i' h'' a b c hs' => ?_) (fun e' h'' e'' hs' ho => ?_)⟩
      · exact hok v' rest e' i' h'' a b c (hs.trans hs')
      · exact hend e' h'' e'' (fun b o hb q => hs' b o hb (hs.extBut b o hb q)) ho
theorem walks_filter {A : Around} {F I d : Addr} {kvs : List (K × Value)} {ep : Nat} {tr : Value → Bool} (hh : A.handled = none) (hFI : F ≠ I) (hdI : d ≠ I) (htr : ∀ p ∈ kvs, TrOk tr p.2) :
    Walks prog w A F [F, I, d] [I] ((kvs.map (·.2)).filter tr).length (fun j v => ((kvs.map (·.2)).filter tr)[j]? = some v) (FiltSt (knd := knd) tr F I d kvs ep) where
  sub := fun b hb => by simp at hb; simp [hb]
  frame := fun j h h' ⟨i, a, b, c, d1, e⟩ hk => ⟨i, hk F (by simp) _ a, b.at fun o q => hk I (by simp) o q, c.at' fun o q => hk d (by simp) o q, d1, e⟩
  item := fun j s Q E hj ⟨i, hF, hit, hm, hi, he⟩ hQ => by
    have hT : s.TypeIs (.ref F) "filter" := ⟨_, hF, rfl⟩
    unfold pyNext
    refine wpAny_bind (wpAny_attempt (wpAny_callSpecial?_slot (name := Str.ofString "__next__") hT slot_filter_next (wpAny_call (codeAny_call_builtin_code (plainId_quiet plain_filter_next _) (slot_filter_next.check _ _ _ _ _ _ _ _ hT (args_filter_next_1 _) (filt_code (knd := knd) hh hFI hdI htr _ i s rfl hi hF hit hm (fun v rest e i' h' hi' hr hit' hs => ?_) (fun e => ?_)))))))
    · refine wpAny_pure ?_
      have h1 : ((kvs.map (·.2)).filter tr).drop j = v :: rest := by rw [← he]; exact e
      have hv : ((kvs.map (·.2)).filter tr)[j]? = some v := by
        have := congrArg (·[0]?) h1
        simpa using this
      refine hQ v h' _ hv ⟨i', (hs.2 F hFI).trans hF, hit', ?_, hi', ?_⟩ fun b o hb q => (hs.2 b fun z => hb (by simp [z])).trans q
      · obtain ⟨o, es, ho, r⟩ := hm; exact ⟨o, es, (hs.2 d hdI).trans ho, r⟩
      · rw [hr]
        have := drop_cons_get hv
        rw [h1] at this
        exact (List.cons.inj this).2
    · rw [he] at e
      have := congrArg List.length e
      rw [List.length_drop, List.length_nil] at this
      omega
  done := fun s Q E ⟨i, hF, hit, hm, hi, he⟩ hQ => by
    have hT : s.TypeIs (.ref F) "filter" := ⟨_, hF, rfl⟩
    rw [List.drop_length] at he
    unfold pyNext
    refine wpAny_bind (wpAny_attempt (wpAny_callSpecial?_slot (name := Str.ofString "__next__") hT slot_filter_next (wpAny_call (codeAny_call_builtin_code (plainId_quiet plain_filter_next _) (slot_filter_next.check _ _ _ _ _ _ _ _ hT (args_filter_next_1 _) (filt_code (knd := knd) hh hFI hdI htr _ i s rfl hi hF hit hm (fun v rest e => ?_) (fun e h' e' hs ho => ?_)))))))
    · rw [he] at e; cases e
    · obtain ⟨o, ho1, ho2⟩ := ho
      refine wpAny_bind (wpAny_isInstance (T := "StopIteration") (b := true) ⟨_, ho1, ho2⟩ isSubtype_stop ?_)
      exact wpAny_pure (hQ _ _ fun b o hb q => hs b o (fun z => hb (by simp [z])) q)
  self := fun j s Q E ⟨i, hF, hit, hm, hi, he⟩ hQ => by
    have hT : s.TypeIs (.ref F) "filter" := ⟨_, hF, rfl⟩
    refine wpAny_pyIter_slot hT slot_filter_iter (wpAny_call_entry slot_filter_iter hT entry_filter_iter ?_ (args_filter_iter_1 _))
    show wpAny _ _ (ret (.ref F)) _ _ s
    exact wpAny_pure ⟨_, rfl, "filter", _, hT, slot_filter_next.lookup, hQ⟩
end
end Zn
/-! part ZnX -/
namespace Zn
open PySem PySem.W PySem.Calls PyProof.Rows PySem.Spec PySem.SeqAt
open PySem.F

section
variable {prog : Program} {w : World} {A : Around} {E : Value → Shared → Prop} {s : Shared}
theorem args_max_dflt (a d : Value) : argsOk "max" ⟨[a], [(Str.ofString "default", d)]⟩ := by unfold argsOk; kernel_rfl
theorem max_loop_none {A : Around} {R : Result → Shared → Prop} {I : Addr} {fp wr : List Addr} {P : Nat → Value → Prop} {St : Nat → Heap → Prop} {d : Value} (W : Walks prog w A.in1 I fp wr 0 P St) (S : Addr) (hSf : S ∉ fp) {s : Shared} {c : Nat} (hst : St 0 s.heap)
    (hS : s.heap.get? S = some { cls := .type "list", dict := none, data := .seq #[] c, slots := #[] })
    (hR : ∀ h' tk, (∀ b o, b ∉ wr → b ≠ S → s.heap.get? b = some o → h'.get? b = some o) → R (.ok (.ret d)) { s with heap := h', toks := tk }) :
    codeAny (model prog w) A (.builtin "max.loop" ⟨[.ref I, .none, .ref S], [(Str.ofString "default", d)]⟩) R s := by
  refine codeAny_builtin F.entry_max_loop ?_
  rw [Around.under_plainId F.plain_max_loop _]
  show wpAny _ A.in1 (seqItems? (.ref S) >>= _) _ _ s
  refine wpAny_bind (wpAny_seqItems hS rfl ?_)
  show wpAny _ A.in1 (tryCatch (pyNext (.ref I)) _ >>= _) _ _ s
  refine wpAny_bind (wpAny_tryCatch (W.done s _ _ hst fun h' tk hk' => ?_))
  exact wpAny_bind (wpAny_rule (wpAny_pure (hR h' tk fun b o hb _ e => hk' b o hb e)))
theorem max_loop_last {A : Around} {R : Result → Shared → Prop} {I : Addr} {fp wr : List Addr} {P : Nat → Value → Prop} {St : Nat → Heap → Prop} {d vb : Value} (W : Walks prog w A.in1 I fp wr 1 P St) (S : Addr) (hSf : S ∉ fp) {s : Shared} {c : Nat} (hst : St 1 s.heap)
    (hS : s.heap.get? S = some { cls := .type "list", dict := none, data := .seq #[vb, vb] c, slots := #[] })
    (hR : ∀ h' tk, (∀ b o, b ∉ wr → b ≠ S → s.heap.get? b = some o → h'.get? b = some o) → R (.ok (.ret vb)) { s with heap := h', toks := tk }) :
    codeAny (model prog w) A (.builtin "max.loop" ⟨[.ref I, .none, .ref S], [(Str.ofString "default", d)]⟩) R s := by
  have hSw : S ∉ wr := fun h => hSf (W.sub _ h)
  refine codeAny_builtin F.entry_max_loop ?_
  rw [Around.under_plainId F.plain_max_loop _]
  show wpAny _ A.in1 (seqItems? (.ref S) >>= _) _ _ s
  refine wpAny_bind (wpAny_seqItems hS rfl ?_)
  show wpAny _ A.in1 (tryCatch (pyNext (.ref I)) _ >>= _) _ _ s
  refine wpAny_bind (wpAny_tryCatch (W.done s _ _ hst fun h' tk hk' => ?_))
  have hS' := hk' S _ hSw hS
  show wpAny _ A.in1 (updateSeq S (fun _ => #[]) >>= _) _ _ _
  refine wpAny_bind ?_
  refine wpAny_updateSeq hS' rfl (wpAny_bind (wpAny_letGo (wpAny_pure ?_)))
  exact hR _ tk fun b o hbw hbS e => (Heap.get?_update_other _ _ (Ne.symm hbS)).trans (hk' b o hbw e)
theorem max_loop_first {A : Around} {R : Result → Shared → Prop} {I : Addr} {fp wr : List Addr} {P : Nat → Value → Prop} {St : Nat → Heap → Prop} {d : Value} (W : Walks prog w A.in1 I fp wr 1 P St) (S : Addr) (hSf : S ∉ fp) {s : Shared} {c : Nat} (hst : St 0 s.heap)
    (hS : s.heap.get? S = some { cls := .type "list", dict := none, data := .seq #[] c, slots := #[] })
    (hR : ∀ v h' tk, P 0 v → (∀ b o, b ∉ wr → b ≠ S → s.heap.get? b = some o → h'.get? b = some o) → R (.ok (.ret v)) { s with heap := h', toks := tk }) :
    codeAny (model prog w) A (.builtin "max.loop" ⟨[.ref I, .none, .ref S], [(Str.ofString "default", d)]⟩) R s := by
  have hSw : S ∉ wr := fun h => hSf (W.sub _ h)
  have hname : (toString "max" ++ toString ".loop" : String) = "max.loop" := by decide
  refine codeAny_builtin F.entry_max_loop ?_
  rw [Around.under_plainId F.plain_max_loop _]
  show wpAny _ A.in1 (seqItems? (.ref S) >>= _) _ _ s
  refine wpAny_bind (wpAny_seqItems hS rfl ?_)
  show wpAny _ A.in1 (tryCatch (pyNext (.ref I)) _ >>= _) _ _ s
  refine wpAny_bind (wpAny_tryCatch (W.item 0 s _ _ (by decide) hst fun v h' tk hP hst' hk' => ?_))
  have hS' := hk' S _ hSw hS
  show wpAny _ A.in1 (updateSeq S (fun _ => #[v, v]) >>= _) _ _ _
  refine wpAny_bind ?_
  refine wpAny_updateSeq hS' rfl ?_
  rw [hname]
  refine wpAny_pure ⟨plainId_quiet F.plain_max_loop _, max_loop_last W S hSf (W.frame _ _ _ hst' fun b hbf o e => ?_) (Heap.get?_update_self _ hS' rfl) fun h'' tk'' hk'' => ?_⟩
  · exact (Heap.get?_update_other _ _ (fun h : S = b => hSf (by rw [h]; exact hbf))).trans e
  · exact hR v h'' tk'' hP fun b o hbw hbS e => hk'' b o hbw hbS ((Heap.get?_update_other _ _ (Ne.symm hbS)).trans (hk' b o hbw e))
theorem call_max_dflt {x d : Value} {Q : Value → Shared → Prop}
    (h : wpAny (model prog w) A.in1 (pyIter x) (fun it s₂ => ∃ I fp wr n P St, it = .ref I ∧ Walks prog w A.in1 I fp wr n P St ∧ St 0 s₂.heap ∧ (∀ b ∈ fp, b < s₂.heap.objs.size) ∧ n ≤ 1 ∧
      (n = 0 → ∀ h' tk, (∀ b o, b ∉ wr → s₂.heap.get? b = some o → h'.get? b = some o) → Q d { s₂ with heap := h', toks := tk }) ∧
      (n = 1 → ∀ v h' tk, P 0 v → (∀ b o, b ∉ wr → s₂.heap.get? b = some o → h'.get? b = some o) → Q v { s₂ with heap := h', toks := tk })) E s) :
    wpAny (model prog w) A (call (.builtin "max") [x] [(Str.ofString "default", d)]) Q E s := by
  have hname : (toString "max" ++ toString ".loop" : String) = "max.loop" := by decide
  refine wpAny_call (codeAny_call_builtin F.plain_max F.entry_max ?_)
  have body : wpAny (model prog w) A.in1 (Builtin.«max» ⟨[x], [(Str.ofString "default", d)]⟩) (fun fin s' => match fin with
      | .done f => (match (Except.ok f : Result) with | .ok (.ret v) => Q v s' | .ok _ => False | .error e => E e s')
      | .again c' => c'.quiet = true ∧ codeAny (model prog w) A c' (fun r s' => match r with | .ok (.ret v) => Q v s' | .ok _ => False | .error e => E e s') s') E s := by
    show wpAny _ A.in1 (Builtin.Builtins.bindParams "max" ["key", "default"] 0 ⟨[], [(Str.ofString "default", d)]⟩ >>= _) _ _ s
    refine wpAny_bind (wpAny_of_eq (show Builtin.Builtins.bindParams "max" ["key", "default"] 0 ⟨[], [(Str.ofString "default", d)]⟩ = pure [none, some d] from rfl) ?_)
    refine wpAny_bind (wpAny_pure ?_)
    refine wpAny_bind (wpAny_mono h (fun it s₂ h₂ => ?_) fun _ _ e => e)
    obtain ⟨I, fp, wr, n, P, St, rfl, W, hst, hfp, hn, h0, h1⟩ := h₂
    refine wpAny_bind (wpAny_newObj_type ?_)
    have hSf : s₂.heap.objs.size ∉ fp := fun hm => Nat.lt_irrefl _ (hfp _ hm)
    rw [hname]
    have hst' := W.frame _ _ (s₂.heap.push { cls := .type "list", data := .seq ([] : List Value).toArray }) hst fun b _ o e => Heap.get?_push_of_some _ e
    have kk : ∀ {h' : Heap}, (∀ b o, b ∉ wr → b ≠ s₂.heap.objs.size → (s₂.heap.push { cls := .type "list", data := .seq ([] : List Value).toArray }).get? b = some o → h'.get? b = some o) → ∀ b o, b ∉ wr → s₂.heap.get? b = some o → h'.get? b = some o :=
      fun hk b o hbw e => hk b o hbw (Nat.ne_of_lt (Heap.lt_size e)) (Heap.get?_push_of_some _ e)
    rcases Nat.le_one_iff_eq_zero_or_eq_one.mp hn with rfl | rfl
    · exact wpAny_pure ⟨plainId_quiet F.plain_max_loop _, max_loop_none W s₂.heap.objs.size hSf hst' (Heap.get?_push_size _ rfl) fun h' tk hk => h0 rfl h' tk (kk hk)⟩
    · exact wpAny_pure ⟨plainId_quiet F.plain_max_loop _, max_loop_first W s₂.heap.objs.size hSf hst' (Heap.get?_push_size _ rfl) fun v h' tk hP hk => h1 rfl v h' tk hP (kk hk)⟩
  simp only [checkBuiltinCall, F.kind_max]
  have ha := args_max_dflt x d
  cases hsig : Manifest.signature? "max" with
  | none => exact wpAny_pure body
  | some sig =>
    simp only [argsOk, hsig] at ha
    have h2 : Bind.checkArgs "max" sig ⟨[x], [(Str.ofString "default", d)]⟩ = pure () := ha
    show wpAny _ A.in1 (Bind.checkArgs "max" sig ⟨[x], [(Str.ofString "default", d)]⟩) _ _ s
    rw [h2]; exact wpAny_pure body
end

/-! `in` by iteration -/
section
variable {prog : Program} {w : World} {A : Around} {E : Value → Shared → Prop} {s : Shared}
theorem plain_contains_iter : plainId "proto.contains_iter" = true := by decide +kernel
theorem entry_contains_iter : entryFor table "proto.contains_iter" = some Builtin.«proto.contains_iter» := entryFor_of_tree (by kernel_rfl)
theorem contains_iter_code {A : Around} {R : Result → Shared → Prop} {I : Addr} {fp wr : List Addr} {n : Nat} {P : Nat → Value → Prop} {St : Nat → Heap → Prop} {x : Value} (e : Nat → Bool) (W : Walks prog w A.in1 I fp wr n P St) (he : ∀ j v (s : Shared), P j v → EqAt A.in1 s v x (e j)) :
    ∀ (k j : Nat) (s : Shared), n - j = k → j ≤ n → St j s.heap → (∀ h' tk, (∀ b o, b ∉ wr → s.heap.get? b = some o → h'.get? b = some o) → R (.ok (.ret (.bool (((List.range n).drop j).any e)))) { s with heap := h', toks := tk }) →
    codeAny (model prog w) A (.builtin "proto.contains_iter" ⟨[.ref I, x], []⟩) R s := by
  intro k
  induction k with
  | zero =>
    intro j s hk hj hst hR
    have : j = n := by lia
    subst this
    refine codeAny_builtin entry_contains_iter ?_
    rw [Around.under_plainId plain_contains_iter _]
    show wpAny _ A.in1 (pyNext (.ref I) >>= _) _ _ s
    refine wpAny_bind (W.done s _ _ hst fun h' tk hk' => ?_)
    have := hR h' tk hk'
    rw [List.drop_of_length_le (by simp)] at this
    show wpAny _ A.in1 (do rule "in.by-iteration.exhausted"; ret (.bool false)) _ _ _
    exact wpAny_bind (wpAny_rule (wpAny_pure this))
  | succ k ih =>
    intro j s hk hj hst hR
    have hlt : j < n := by omega
    refine codeAny_builtin entry_contains_iter ?_
    rw [Around.under_plainId plain_contains_iter _]
    show wpAny _ A.in1 (pyNext (.ref I) >>= _) _ _ s
    refine wpAny_bind (W.item j s _ _ hlt hst fun v h' tk hP hst' hk' => ?_)
    have hany : ((List.range n).drop j).any e = (e j || ((List.range n).drop (j + 1)).any e) := by
      rw [List.drop_eq_getElem_cons (by simpa using hlt), List.any_cons]; simp
    rw [hany] at hR
    refine wpAny_bind (he j v _ hP prog w _ _ ?_)
    cases hb : e j with
    | true =>
      rw [hb, Bool.true_or] at hR
      exact wpAny_bind (wpAny_rule (wpAny_pure (hR h' tk hk')))
    | false =>
      rw [hb, Bool.false_or] at hR
      exact wpAny_pure ⟨plainId_quiet plain_contains_iter _, ih (j + 1) _ (by omega) hlt hst' fun h'' tk'' hk'' => hR h'' tk'' fun b o hb q => hk'' b o hb (hk' b o hb q)⟩
theorem no_contains_values : typeLookup (.type "dict_values") "__contains__" = pure none := by rw [typeLookup_type, builtinLookup_eq_fast]; kernel_rfl
theorem in_values {a : Addr} {x : Value} {Q : Value → Shared → Prop} (hT : s.TypeIs (.ref a) "dict_values")
    (h : wpAny (model prog w) A (pyIter (.ref a)) (fun it s₂ => ∃ I fp wr n P St e, it = .ref I ∧ Walks prog w A.in1 I fp wr n P St ∧ St 0 s₂.heap ∧ (∀ j v (s : Shared), P j v → EqAt A.in1 s v x (e j)) ∧
      ∀ h' tk, (∀ b o, b ∉ wr → s₂.heap.get? b = some o → h'.get? b = some o) → Q (.bool ((List.range n).any e)) { s₂ with heap := h', toks := tk }) (fun _ _ => False) s) :
    wpAny (model prog w) A (compareOp .In x (.ref a)) Q E s := by
  show wpAny _ _ (do return .bool (← contains (.ref a) x)) Q E s
  refine wpAny_bind ?_
  unfold contains
  refine wpAny_holding ?_
  show wpAny _ _ (specialOf (.ref a) "__contains__" >>= _) _ _ s
  refine wpAny_bind (wpAny_specialOf hT no_contains_values ?_)
  show wpAny _ _ (callSpecialUnlessNone? (.ref a) "__contains__" [x] _ >>= _) _ _ s
  unfold callSpecialUnlessNone?
  refine wpAny_bind (wpAny_bind (wpAny_specialOf hT no_contains_values (wpAny_pure ?_)))
  refine wpAny_bind (wpAny_rule (wpAny_bind (wpAny_tryCatch (wpAny_mono h (fun it s₂ h₂ => ?_) fun _ _ x => ?_))))
  · obtain ⟨I, fp, wr, n, P, St, e, rfl, W, hst, he, hQ⟩ := h₂
    refine wpAny_bind (wpAny_runValue (contains_iter_code e W he _ 0 s₂ rfl (Nat.zero_le _) hst fun h' tk hk => ?_))
    exact wpAny_pure (wpAny_pure (hQ h' tk hk))
  · exact x.elim
end

/-! a dict's values -/
theorem RdKv.vals {g : View} : ∀ {kvs : List (Int × Value)} {ks : List (Int × D)}, RdKv g kvs ks → RdAll g (kvs.map (·.2)) (ks.map (·.2)) := by
  intro kvs
  induction kvs with
  | nil => intro ks h; cases h; exact .nil
  | cons x kvs ih => intro ks h; cases h with | cons h r => exact .cons h (ih r)
noncomputable def trV : Value → Bool
  | .int n _ => n != 0
  | _ => false
noncomputable def trD : D → Bool
  | .int n => n != 0
  | _ => false
noncomputable def isIN : D → Bool
  | .int _ | .none => true
  | _ => false
theorem tr_same {g : View} {v : Value} {d : D} (r : Rd g v d) (h : isIN d = true) : trV v = trD d ∧ TrOk trV v := by
  cases r <;> first | exact ⟨rfl, .inr ⟨rfl, rfl⟩⟩ | exact ⟨rfl, .inl ⟨_, _, rfl, rfl⟩⟩ | cases h
theorem RdAll.tr {g : View} : ∀ {vs : List Value} {ds : List D}, RdAll g vs ds → (∀ d ∈ ds, isIN d = true) → RdAll g (vs.filter trV) (ds.filter trD) := by
  intro vs
  induction vs with
  | nil => intro ds h _; cases h; exact .nil
  | cons x vs ih =>
    intro ds h k
    cases h with
    | cons h r =>
      have e := (tr_same h (k _ (.head _))).1
      rw [List.filter_cons, List.filter_cons, e]
      split
      · exact .cons h (ih r fun d m => k d (.tail _ m))
      · exact ih r fun d m => k d (.tail _ m)
theorem RdKv.mem {g : View} : ∀ {kvs : List (Int × Value)} {ks : List (Int × D)}, RdKv g kvs ks → ∀ p ∈ kvs, ∃ q ∈ ks, Rd g p.2 q.2 := by
  intro kvs
  induction kvs with
  | nil => intro ks _ p m; cases m
  | cons x kvs ih =>
    intro ks w p m
    cases w with
    | cons h r =>
      rcases List.mem_cons.mp m with rfl | m
      · exact ⟨_, .head _, h⟩
      · obtain ⟨q, a, b⟩ := ih r p m; exact ⟨q, .tail _ a, b⟩
noncomputable def noneD : D → Bool
  | .none => true
  | _ => false

section
variable {C : Cx} {A : Around} {env : Env} {σ : Sig}
/-- the view of a dict's values -/
theorem ev_values {x : Str} {px apos pos : Pos} {pl : Sem Bool} {ks : List (Int × D)} (he : EnvOk env) (hx : σ.lookup x = some (.dict ks)) {g : View} {s : Shared} (pre : Pre C env σ g s) {Q : Value → Shared → Prop}
    (k : ∀ vw a o kvs, g a = some o → IntDict o kvs → RdKv g kvs ks → vw = s.heap.objs.size → Q (.ref vw) { s with heap := s.heap.push { cls := .type "dict_values", data := .fields #[.ref a] } })
    (hev : eval (.Call (.Attribute (.Name x px) (Str.ofString "values") apos) [] [] pos) env = (do
      let ov ← eval (.Name x px) env
      standAt apos.atName
      let (f, first) ← holding [ov] (getMethod ov (Str.ofString "values") pl)
      callWith pos f first (backTo pos (starEach [] env)) []))
    (hd : (x == ("__debug__" : Str)) = false) (hc : (x == ("__classdict__" : Str)) = false) :
    wpAny C.M A (eval (.Call (.Attribute (.Name x px) (Str.ofString "values") apos) [] [] pos) env) Q No s := by
  obtain ⟨v, hv, r⟩ := pre.sees x _ hx
  cases r with
  | @dict a o kvs _ h n hid hr =>
    have ho := pre.inc _ _ h
    have hdo : s.heap.DictOf (intKind C.prog C.w) a kvs := Heap.dictOf_iff.mpr ⟨o, ho, hid.at _ _⟩
    refine MethodCall_ (pl := pl) (wpAny_Name (load_var he.kind hv hc (getMethod_builtin hdo.typeIs PySem.F.plainAttrs_dict PySem.F.slot_dict_values PySem.F.type_dict_values hdo.mapOf.noDict ?_)) hd) hev
    refine callWith_method0 ?_
    exact call_meetsIn PySem.F.slot_dict_values hdo.typeIs PySem.F.entry_dict_values (PySem.F.args_dict_values_1 _) (meets_dict_values (intKind C.prog C.w) a n) ⟨⟨kvs, hdo⟩, k _ a o kvs h hid hr rfl⟩
theorem dictAt_of {h : Heap} {prog : Program} {w : World} {a : Addr} {o : Obj} {kvs : List (Int × Value)} (e : h.get? a = some o) (i : IntDict o kvs) : ∃ ep, h.DictAt (intKind prog w) a kvs ep := by
  obtain ⟨es, ep, a1, a2, a3, a4, a5⟩ := i.at prog w
  exact ⟨ep, o, es, e, a1, a2, a3, a4, a5⟩
theorem ts_invalues {x : Str} {px apos pos cp : Pos} {pl : Sem Bool} {l : Expr} {ks : List (Int × D)} (he : EnvOk env) (hr : Rm A 0) (hx : σ.lookup x = some (.dict ks)) (hk : ∀ p ∈ ks, isIN p.2 = true) (hl : Ev C A env σ l .none)
    (hev : eval (.Call (.Attribute (.Name x px) (Str.ofString "values") apos) [] [] pos) env = (do
      let ov ← eval (.Name x px) env
      standAt apos.atName
      let (f, first) ← holding [ov] (getMethod ov (Str.ofString "values") pl)
      callWith pos f first (backTo pos (starEach [] env)) []) := by rfl)
    (hd : (x == ("__debug__" : Str)) = false := by decide) (hc : (x == ("__classdict__" : Str)) = false := by decide)
    (hm : behindInMarks .In (.Call (.Attribute (.Name x px) (Str.ofString "values") apos) [] [] pos) = false := by rfl) :
    Ts C A env σ (.Compare l [.In] [.Call (.Attribute (.Name x px) (Str.ofString "values") apos) [] [] pos] cp) ((ks.map (·.2)).any noneD) := .of fun g s pre => by
  refine wpAny_isTrue_Compare1 (hl.then pre fun v s1 g1 k1 p1 r1 => ev_values he hx p1 (fun vw a o kvs h hid hr' e => ?_) hev hd hc) hm
  subst e
  obtain rfl := r1.none_inv
  have ho := p1.inc _ _ h
  have ho' : (s1.heap.push { cls := .type "dict_values", data := .fields #[.ref a] }).get? a = some o := Heap.get?_push_of_some _ ho
  obtain ⟨ep, hda⟩ := dictAt_of (prog := C.prog) (w := C.w) ho' hid
  have hv : Heap.IsValuesView (s1.heap.push { cls := .type "dict_values", data := .fields #[.ref a] }) s1.heap.objs.size a := ⟨_, Heap.get?_push_size _ rfl, rfl, rfl⟩
  have hsz : a < s1.heap.objs.size := Heap.lt_size ho
  have K1 : Stp g1 s1 g1 { s1 with heap := s1.heap.push { cls := .type "dict_values", data := .fields #[.ref a] } } := Stp.pushOut p1.inc _
  have hvals := hr'.vals
  refine in_values hv.typeIs (wpAny_pyIter_values (knd := intKind C.prog C.w) hv hda ⟨_, _, _, _, _, _, fun j => noneD ((ks.map (·.2)).getD j .none), rfl, Walks.dictValues (A := A.in1) hr.hd _ a (by show a ≠ (s1.heap.push _).objs.size; rw [Heap.size_push]; exact Nat.ne_of_lt (Nat.lt_succ_of_lt hsz)) kvs ep, ⟨⟨_, Heap.get?_push_size _ rfl, rfl, rfl⟩, hda.at' fun o e => Heap.get?_push_of_some _ e⟩, fun j v s' ⟨kk, hp⟩ => ?_, fun h' tk hk' => ?_⟩)
  · have hj : (kvs.map (·.2))[j]? = some v := by simp [hp]
    obtain ⟨d, hd1, hd2⟩ := hvals.get hj
    have hin : isIN d = true := by
      have hm := List.mem_of_getElem? hd1
      obtain ⟨q, hq, rfl⟩ := List.mem_map.mp hm
      exact hk q hq
    have : (ks.map (·.2)).getD j .none = d := by rw [List.getD, hd1]; rfl
    dsimp only
    rw [this]
    cases hd2 with
    | none => exact EqAt.same .none
    | int i t => exact EqAt.int_none i t
    | _ => cases hin
  · have e1 : (List.range kvs.length).any (fun j => noneD ((ks.map (·.2)).getD j .none)) = (ks.map (·.2)).any noneD := by
      have hlen : kvs.length = (ks.map (·.2)).length := by rw [List.length_map]; exact hr'.length
      rw [hlen]
      generalize ks.map (·.2) = l
      induction l with
      | nil => rfl
      | cons a l ih => rw [List.length_cons, List.range_succ_eq_map, List.any_cons, List.any_map, List.any_cons, ← ih]; rfl
    rw [e1]
    refine wpAny_truthy_bool ⟨rfl, g1, (k1.trans K1).trans ?_⟩
    refine ⟨⟨_, _, rfl⟩, fun b o' q => hk' b o' (fun z => ?_) (Heap.get?_push_of_some _ q), Sub.rfl', fun b o' q => hk' b o' (fun z => ?_) (Heap.get?_push_of_some _ (K1.inc _ _ q)), fun _ _ q => .inl q⟩
    · rw [List.mem_singleton.mp z] at q; exact Nat.lt_irrefl _ (Heap.lt_size q)
    · rw [List.mem_singleton.mp z] at q; exact Nat.lt_irrefl _ (K1.inc.lt q)

theorem ev_maxvals {x : Str} {p1 p2 px apos pos pos2 pos3 : Pos} {pl : Sem Bool} {e0 ed : Expr} {kp : Pos} {ks : List (Int × D)} {dd : Int} (hC : C.Ok) (he : EnvOk env) (hr : Rm A 0)
    (hx1 : env.kindOf (Str.ofString "max") = some .globalImplicit) (hm1 : C.mg (Str.ofString "max") = none) (hx2 : env.kindOf (Str.ofString "filter") = some .globalImplicit) (hm2 : C.mg (Str.ofString "filter") = none)
    (hx : σ.lookup x = some (.dict ks)) (hk : ∀ p ∈ ks, isIN p.2 = true) (hT : ((ks.map (·.2)).filter trD).length ≤ 1) (h0 : Ev C A env σ e0 .none) (h1 : Ev C A env σ ed (.int dd))
    (hev : eval (.Call (.Attribute (.Name x px) (Str.ofString "values") apos) [] [] pos) env = (do
      let ov ← eval (.Name x px) env
      standAt apos.atName
      let (f, first) ← holding [ov] (getMethod ov (Str.ofString "values") pl)
      callWith pos f first (backTo pos (starEach [] env)) []) := by rfl)
    (hse : starEach [e0, .Call (.Attribute (.Name x px) (Str.ofString "values") apos) [] [] pos] env = [(false, eval e0 env), (false, eval (.Call (.Attribute (.Name x px) (Str.ofString "values") apos) [] [] pos) env)] := by rfl)
    (hd : (x == ("__debug__" : Str)) = false := by decide) (hc : (x == ("__classdict__" : Str)) = false := by decide) :
    Ev C A env σ (.Call (.Name (Str.ofString "max") p1) [.Call (.Name (Str.ofString "filter") p2) [e0, .Call (.Attribute (.Name x px) (Str.ofString "values") apos) [] [] pos] [] pos2] [⟨some (Str.ofString "default"), ed, kp⟩] pos3) (((ks.map (·.2)).filter trD).headD (.int dd)) := .of fun g s pre => by
  show wpAny _ _ (do callWith pos3 (← eval (.Name (Str.ofString "max") p1) env) [] (backTo pos3 (starEach [_] env)) (backToKw pos3 (keywordEach [_] env))) _ _ s
  refine wpAny_bind (Name_function_global he.kind hx1 (loadGlobal_builtin (by rw [he.globals]; exact hC.g.keeps pre.base) hm1 (by rw [he.builtins]; exact hC.b.keeps pre.base) ((hC.builtins _ (by decide)).trans boot_max) ?_) (by decide))
  refine callWith_kw ?_
  refine spliced_cons ?_
  show wpAny _ _ (do callWith pos2 (← eval (.Name (Str.ofString "filter") p2) env) [] (backTo pos2 (starEach _ env)) (backToKw pos2 (keywordEach [] env))) _ _ s
  refine wpAny_bind (Name_function_global he.kind hx2 (loadGlobal_builtin (by rw [he.globals]; exact hC.g.keeps pre.base) hm2 (by rw [he.builtins]; exact hC.b.keeps pre.base) ((hC.builtins _ (by decide)).trans boot_filter) ?_) (by decide))
  refine PyProof.Rows.callWith_type1 ?_ (by rw [hse]; rfl) (by rfl)
  rw [hse]
  show wpAny _ _ (spliced [(false, eval e0 env), (false, eval _ env)]) _ _ s
  refine spliced_cons (h0.then pre fun v0 s0 g0 k0 p0 r0 => spliced_cons (ev_values he hx p0 (fun vw a o kvs h hid hr' e => spliced_nil ?_) hev hd hc))
  subst e
  obtain rfl := r0.none_inv
  have ho := p0.inc _ _ h
  have hsz : a < s0.heap.objs.size := Heap.lt_size ho
  generalize hs1 : ({ s0 with heap := s0.heap.push { cls := .type "dict_values", data := .fields #[.ref a] } } : Shared) = s1
  have K1 : Stp g0 s0 g0 s1 := hs1 ▸ Stp.pushOut p0.inc _
  have hv : Heap.IsValuesView s1.heap s0.heap.objs.size a := hs1 ▸ ⟨_, Heap.get?_push_size _ rfl, rfl, rfl⟩
  have hz1 : s1.heap.objs.size = s0.heap.objs.size + 1 := by rw [← hs1]; exact Heap.size_push ..
  obtain ⟨ep, hda⟩ := dictAt_of (prog := C.prog) (w := C.w) (K1.inc _ _ h) hid
  refine call_filter (wpAny_pyIter_values (knd := intKind C.prog C.w) hv hda ⟨_, rfl, ?_⟩)
  generalize hs2 : ({ s1 with heap := s1.heap.push { cls := .type "dict_valueiterator", data := .fields #[.ref a, .int 0 0, .int kvs.length 0, .int ep 0] } } : Shared) = s2
  have K2 : Stp g0 s1 g0 s2 := hs2 ▸ Stp.pushOut K1.inc _
  have hz2 : s2.heap.objs.size = s1.heap.objs.size + 1 := by rw [← hs2]; exact Heap.size_push ..
  have hit2 : s2.heap.IsValIter s1.heap.objs.size a 0 kvs.length ep := hs2 ▸ ⟨_, Heap.get?_push_size _ rfl, rfl, rfl⟩
  generalize hs3 : ({ s2 with heap := s2.heap.push (filterObj s1.heap.objs.size) } : Shared) = s3
  have K3 : Stp g0 s2 g0 s3 := hs3 ▸ Stp.pushOut K2.inc _
  have hF3 : s3.heap.get? s2.heap.objs.size = some (filterObj s1.heap.objs.size) := hs3 ▸ Heap.get?_push_size _ rfl
  have K := (K1.trans K2).trans K3
  have p3 := p0.step K
  refine spliced_nil ?_
  show wpAny _ _ (evalAll [do let v ← eval ed env; standAt pos3; pure v]) _ _ s3
  refine wpAny_bind (wpAny_bind (h1.then p3 fun vd s4 g4 k4 p4 r4 => wpAny_bind (wpAny_standAt (wpAny_pure (wpAny_bind (wpAny_holding (wpAny_pure (wpAny_pure ?_))))))))
  show wpAny _ _ (call (.builtin "max") [.ref s2.heap.objs.size] [(Str.ofString "default", vd)]) _ _ s4
  have hvals := hr'.vals
  have htr : ∀ p ∈ kvs, TrOk trV p.2 := fun p m => by
    obtain ⟨q, hq, rr⟩ := hr'.mem p m
    exact (tr_same rr (hk q hq)).2
  have hRT := hvals.tr (fun d m => by obtain ⟨q, hq, rfl⟩ := List.mem_map.mp m; exact hk q hq)
  have hlen := hRT.length
  have hFI : s2.heap.objs.size ≠ s1.heap.objs.size := by rw [hz2]; exact Nat.succ_ne_self _
  have hdI : a ≠ s1.heap.objs.size := by rw [hz1]; exact Nat.ne_of_lt (Nat.lt_succ_of_lt hsz)
  have hF4 := k4.keep _ _ hF3
  have hit4 : s4.heap.IsValIter s1.heap.objs.size a 0 kvs.length ep := hit2.at fun o q => k4.keep _ _ (K3.keep _ _ q)
  have hda4 : s4.heap.DictAt (intKind C.prog C.w) a kvs ep := hda.at' fun o q => k4.keep _ _ (K3.keep _ _ (K2.keep _ _ q))
  have W := walks_filter (prog := C.prog) (w := C.w) (knd := intKind C.prog C.w) (A := A.in1) (ep := ep) hr.hd hFI hdI htr
  have st : FiltSt (knd := intKind C.prog C.w) trV s2.heap.objs.size s1.heap.objs.size a kvs ep 0 s4.heap := ⟨0, hF4, hit4, hda4, Nat.zero_le _, by simp⟩
  have hI4 : ∃ oI, s4.heap.get? s1.heap.objs.size = some oI := by obtain ⟨o, e, _⟩ := hit4; exact ⟨o, e⟩
  have hI0 : s0.heap.get? s1.heap.objs.size = none := none_ge (by rw [hz1]; exact Nat.le_succ _)
  have gI : g4 s1.heap.objs.size = none := by
    cases z : g4 s1.heap.objs.size with
    | none => rfl
    | some o' =>
      rcases k4.fresh _ _ z with y | y
      · have := p0.inc _ _ y; rw [hI0] at this; cases this
      · obtain ⟨oI, e⟩ := hit2; have := K3.keep _ _ e.1; rw [y] at this; cases this
  have last : ∀ h' tk, (∀ b o, b ∉ [s1.heap.objs.size] → s4.heap.get? b = some o → h'.get? b = some o) → Stp g s g4 { s4 with heap := h', toks := tk } := fun h' tk hk' => by
    have KK := (k0.trans K).trans k4
    obtain ⟨hh, tt, e⟩ := KK.shape
    refine ⟨⟨h', tk, by rw [e]⟩, fun b o q => hk' b o (fun z => ?_) (KK.keep _ _ q), KK.sub, fun b o q => hk' b o (fun z => ?_) (KK.inc _ _ q), KK.fresh⟩
    · rw [List.mem_singleton.mp z] at q
      have := k0.keep _ _ q; rw [hI0] at this; cases this
    · rw [List.mem_singleton.mp z, gI] at q; cases q
  refine call_max_dflt (W.self 0 s4 _ _ st ⟨_, _, _, _, _, _, rfl, W, st, ?_, by rw [hlen]; exact hT, fun n0 h' tk hk' => ⟨g4, last h' tk hk', ?_⟩, fun n1 v h' tk hP hk' => ⟨g4, last h' tk hk', ?_⟩⟩)
  · intro b hb
    rcases List.mem_cons.mp hb with rfl | hb
    · exact Heap.lt_size hF4
    rcases List.mem_cons.mp hb with rfl | hb
    · obtain ⟨o, e⟩ := hI4; exact Heap.lt_size e
    · rw [List.mem_singleton.mp hb]; obtain ⟨o, es, e, _⟩ := hda4; exact Heap.lt_size e
  · rw [hlen] at n0
    rw [List.eq_nil_of_length_eq_zero n0]; exact r4
  · obtain ⟨d, hd1, hd2⟩ := (hRT.mono (K.sub.trans k4.sub)).get hP
    have : ((ks.map (·.2)).filter trD).headD (.int dd) = d := by
      cases hl : (ks.map (·.2)).filter trD with
      | nil => rw [hl] at hd1; cases hd1
      | cons y l => rw [hl] at hd1; simpa using hd1
    rw [this]; exact hd2
end
end Zn
/-! part ZnP -/
namespace Zn
open PySem PySem.W PySem.Calls PyProof.Rows PySem.Spec PySem.SeqAt

/-! the program's defs -/
noncomputable abbrev prg : Program := PySem.Challenge.pw_zn0031_01
noncomputable def stm (i : Nat) : Stmt := (prg.main.body[i]?).getD (.Pass ⟨0, 0, 0, 0⟩)
noncomputable def fdOf (pm cd : Value) : Stmt → FuncData
  | .FunctionDef name params body _ _ _ scope _ _ _ => docDef name params body scope pm cd .none
  | _ => default
noncomputable def nmOf : Stmt → Str
  | .FunctionDef name _ _ _ _ _ _ _ _ _ => name
  | _ => Str.empty
noncomputable def bdOf : Stmt → List Stmt
  | .FunctionDef _ _ body _ _ _ _ _ _ _ => body
  | _ => []
structure HasFn (C : Cx) (i c f : Nat) : Prop where
  has : ∃ pm o, C.hB.get? f = some o ∧ o.data = .func (fdOf pm (.ref c) (stm i))
  code : C.hB.CodeRec (.ref c) (nmOf (stm i))
noncomputable def globs : List (Str × Value) := [("TupleComp", .ref 38), ("COMPILER_FLAG_NAMES", .ref 43), ("pretty_flags", .ref 50), ("_NO_LINENO", .str "  --" 274), ("_get_lineno_width", .ref 57), ("b1_set", .ref 65), ("in_table_b1", .ref 75), ("b3_exceptions", .ref 76),
  ("map_table_b3", .ref 121), ("_law_spelled", .ref 126), ("_law_row", .ref 131), ("_law_told", .ref 138), ("_law_compared", .ref 143), ("_law_words", .ref 148), ("_law_worth", .ref 153), ("_law_pairings", .ref 160), ("law", .ref 165)]
noncomputable def used : List Str := ["max", "len", "str", "ord", "chr", "sum", "range", "list", "set", "sorted", "tuple", "abs", "hex", "filter"]
noncomputable def fnTable : List (Nat × Nat × Nat) := [(4, 49, 50), (6, 56, 57), (9, 74, 75), (11, 120, 121), (13, 125, 126), (14, 130, 131), (15, 137, 138), (16, 142, 143), (17, 147, 148), (18, 152, 153), (19, 159, 160), (20, 164, 165)]
noncomputable def strOf : Expr → Str
  | .Constant (.str x) _ _ => x
  | _ => Str.empty
noncomputable def intOf : Expr → Int
  | .Constant (.int i) _ _ => i
  | _ => 0
noncomputable def keyOf : Option Expr → Int
  | some e => intOf e
  | none => 0
noncomputable def pairsOf : Stmt → List (Int × Str)
  | .Assign _ (.Dict ks vs _) _ => (ks.map keyOf).zip (vs.map strOf)
  | _ => []
noncomputable def setOf : Stmt → List Int
  | .Assign _ (.Call _ [.BinOp (.List es _) _ (.Call _ [.Call _ [a, b] _ _] _ _) _] _ _) _ => es.map intOf ++ (List.range ((intOf b) - (intOf a)).toNat).map fun i => intOf a + (i : Nat)
  | _ => []
noncomputable def b3List : List (Int × Str) := pairsOf (stm 10)
noncomputable def cfList : List (Int × Str) := pairsOf (stm 3)
noncomputable def b1List : List Int := setOf (stm 8)
/-- a table of strs in the base heap -/
noncomputable def MapTab (C : Cx) (a : Addr) (l : List (Int × Str)) : Prop := ∃ f, C.hB.MapOf (intKind C.prog C.w) a f ∧ ∀ k, match l.lookup k with
  | some x => ∃ t, f k = some (.str x t)
  | none => f k = none
noncomputable def mst (i : Nat) : Stmt := (match stm 1 with | .ClassDef _ _ _ body _ _ _ _ _ _ _ => body | _ => []).getD i (.Pass ⟨0, 0, 0, 0⟩)
noncomputable def fdM (q : Str) (pm cd : Value) (st : Stmt) : FuncData := { fdOf pm cd st with qualname := q }
structure Cls (C : Cx) : Prop where
  cls : ∃ N mN, ClsAt C.hB 38 N mN ∧ mN (Str.ofString "__init__") = some (.ref 28) ∧ mN (Str.ofString "compare") = some (.ref 35) ∧ mN (Str.ofString "__getattribute__") = none ∧ mN (Str.ofString "__getattr__") = none ∧ mN (Str.ofString "__setattr__") = none ∧ mN (Str.ofString "comp_select_list") = none
  ini : ∃ o pm, C.hB.get? 28 = some o ∧ o.cls = .type "function" ∧ o.data = .func (fdM "TupleComp.__init__" pm (.ref 27) (mst 0)) ∧ C.hB.CodeRec (.ref 27) "TupleComp.__init__"
  cmp : ∃ o pm, C.hB.get? 35 = some o ∧ o.cls = .type "function" ∧ o.data = .func (fdM "TupleComp.compare" pm (.ref 34) (mst 1)) ∧ C.hB.CodeRec (.ref 34) "TupleComp.compare"
structure Has (C : Cx) : Prop where
  cls : Cls C
  b1 : ∃ n, C.hB.SetOf (intKind C.prog C.w) 65 (fun k => b1List.contains k) n
  b3 : MapTab C 76 b3List
  cf : MapTab C 43 cfList
  ok : C.Ok
  glob : ∀ x v, globs.lookup x = some v → C.mg x = some v
  miss : ∀ x, x ∈ used → C.mg x = none
  fns : ∀ p ∈ fnTable, HasFn C p.1 p.2.1 p.2.2
theorem fn_pack {C : Cx} (H : Has C) {i c f : Nat} (hf : (i, c, f) ∈ fnTable) {names : List Str} {ds : List D} {d : D} {k : Nat}
    (hbind : ∀ pm vs, vs.length = names.length → bindArgs (fdOf pm (.ref c) (stm i)) ⟨vs, []⟩ = pure (names.zip vs)) (hnd : names.Nodup) (hlen : ds.length = names.length)
    (hown : ∀ pm L x c', (x, c') ∈ cellsFrom (L + 1) (fdOf pm (.ref c) (stm i)).scope.names [] → (callEnvC (fdOf pm (.ref c) (stm i)) L f).kindOf x = some .cell ∧ (callEnvC (fdOf pm (.ref c) (stm i)) L f).cells.lookup x = some c')
    (hnames : ∀ pm L, ∀ x ∈ names, Own (callEnvC (fdOf pm (.ref c) (stm i)) L f) (callEnvC (fdOf pm (.ref c) (stm i)) L f).cells x)
    (hbody : ∀ pm A L, Rm A k → EnvOk (callEnvC (fdOf pm (.ref c) (stm i)) L f) → Sts C A (callEnvC (fdOf pm (.ref c) (stm i)) L f) (names.zip ds) [] (bdOf (stm i)) (Ends d))
    (hb : ∀ pm, (fdOf pm (.ref c) (stm i)).body = .stmts (bdOf (stm i)) ∧ (fdOf pm (.ref c) (stm i)).code = .ref c ∧ (fdOf pm (.ref c) (stm i)).qualname = nmOf (stm i) ∧ (fdOf pm (.ref c) (stm i)).closure = [] ∧
      (fdOf pm (.ref c) (stm i)).scope.isCoroutine = false ∧ (fdOf pm (.ref c) (stm i)).scope.isGenerator = false ∧ (fdOf pm (.ref c) (stm i)).scope.kind = .function ∧ (fdOf pm (.ref c) (stm i)).globals = mainGlobals ∧ (fdOf pm (.ref c) (stm i)).builtins = builtinsNs := by intro _; exact ⟨rfl, rfl, rfl, rfl, rfl, rfl, rfl, rfl, rfl⟩) : Fn C f (k + 1) ds d := by
  obtain ⟨⟨pm, o, ho, hd⟩, hc⟩ := H.fns _ hf
  obtain ⟨b1, b2, b3, b4, b5, b6, b7, b8, b9⟩ := hb pm
  exact fn_of H.ok ho hd (by rw [b2, b3]; exact hc) b1 (hbind pm) b4 hnd hlen (hown pm) (hnames pm) b5 b6 b7 fun A L hr => hbody pm A L hr ⟨b7, b8, b9⟩

theorem np {a b : Int} (h : b.natAbs < 1073741824) : Builtin.divisionGoesByPylong a b = false := PyProof.noPylong_small h
noncomputable def roomOf (n : Int) : Int := if decide ((n.fdiv 3).fmod 6 > 0) then (if 3 + (n.fdiv 18).fmod 2 > (n.fdiv 3).fmod 6 then 3 + (n.fdiv 18).fmod 2 else (n.fdiv 3).fmod 6) else 0
noncomputable def toldOf (n : Int) : D := .tup [.int (n.fmod 3), .int (roomOf n), .int ((n.fdiv 36).fmod 3)]
theorem fn_told {C : Cx} (H : Has C) (n : Int) : Fn C 138 1 [.int n] (toldOf n) := by
  refine fn_pack H (i := 15) (c := 137) (names := ["number"]) (k := 0) (by decide) (fun pm vs h => by obtain ⟨v, rfl⟩ := List.length_eq_one_iff.mp h; rfl) (by decide) rfl (fun pm L x c m => by cases m) (fun pm L x m => by rcases List.mem_singleton.mp m with rfl; exact .inl rfl) fun pm A L h0 he => ?_
  refine sts_cons (st_assign (d := .int ((n.fdiv 3).fmod 6)) he ?_ (.inl rfl) ?_)
  · exact ev_bin h0 (ev_bin h0 (ev_name he rfl) ev_int (bin_div (by decide) (np (by decide)))) ev_int (bin_mod (by decide))
  refine sts_cons (st_assign (d := .int (roomOf n)) he ?_ (.inl rfl) ?_)
  · refine ev_if (c := decide ((n.fdiv 3).fmod 6 > 0)) (ts_cmp H.ok h0 (ev_name he rfl) ev_int cmp_gt) (fun e => ?_) (fun e => ?_)
    · unfold roomOf; rw [if_pos e]
      exact ev_bcall H.ok he h0 rfl (H.miss _ (by decide)) (by decide +kernel) (evl_cons (ev_name he rfl) (evl_cons (ev_bin h0 ev_int (ev_bin h0 (ev_bin h0 (ev_name he rfl) ev_int (bin_div (by decide) (np (by decide)))) ev_int (bin_mod (by decide))) bin_add) evl_nil)) bf_max2
    · unfold roomOf; rw [if_neg (by simp [e])]; exact ev_int
  exact sts_cons (st_return (ev_tuple (evl_cons (ev_bin h0 (ev_name he rfl) ev_int (bin_mod (by decide))) (evl_cons (ev_name he rfl) (evl_cons (ev_bin h0 (ev_bin h0 (ev_name he rfl) ev_int (bin_div (by decide) (np (by decide)))) ev_int (bin_mod (by decide))) evl_nil)))) rfl)
end Zn
/-! part ZnQ -/
namespace Zn
open PySem PySem.W PySem.Calls PyProof.Rows PySem.Spec PySem.SeqAt

theorem filter_map_dec {α : Type} (enc : α → D) (dec : D → α) (p : α → Bool) (f : α → D) : ∀ (as : List α), (∀ a ∈ as, dec (enc a) = a) → (((as.map enc).filter (p ∘ dec)).map (f ∘ dec)) = (as.filter p).map f
  | [], _ => rfl
  | a :: as, h => by
    have e := h a (.head _)
    have ih := filter_map_dec enc dec p f as fun b m => h b (.tail _ m)
    rw [List.map_cons, List.filter_cons, List.filter_cons]
    simp only [Function.comp, e] at ih ⊢
    split
    · rw [List.map_cons, List.map_cons, ih]; simp [e]
    · exact ih
section
variable {C : Cx} {A : Around} {env : Env} {σ : Sig} {ω : OSig} {Φ : Out → Prop}
theorem ev_compT {α : Type} {as : List α} (enc : α → D) (dec : D → α) (p : α → Bool) (f : α → D) {elt target iter : Expr} {ifs : List Expr} {scope : Scope} {pos : Pos} {cl : List (Str × Addr)} (hdec : ∀ a ∈ as, dec (enc a) = a) (he : EnvOk env) (hr : Rm A 0) (hi : It C A env σ iter (as.map enc))
    (hcl : closureFor scope env = pure cl) (hsz : as.length ≤ 1000)
    (turn : ∀ L a, a ∈ as → EnvOk (cenvOf scope cl L env) → ∃ τ κ, Tgt target (enc a) τ ∧ (∀ q ∈ τ, Own (cenvOf scope cl L env) (cellsFrom (L + 1) scope.names []) q.1) ∧ Caps env (cenvOf scope cl L env) σ κ ∧
      Tests C A (cenvOf scope cl L env) (τ ++ κ) ifs (p a) ∧ (p a = true → Ev C A (cenvOf scope cl L env) (τ ++ κ) elt (f a)))
    (hown : ∀ L x c, (x, c) ∈ cellsFrom (L + 1) scope.names [] → (cenvOf scope cl L env).kindOf x = some .cell ∧ (cenvOf scope cl L env).cells.lookup x = some c)
    (hk : scope.kind = .function := by rfl) (hn : ∀ x ∈ scope.names, x.2 = .local → scope.names.lookup x.1 = some .local := by decide)
    (hs : ∀ x, foldedSetIterable iter env x = pure x := by intro _; rfl) :
    Ev C A env σ (.ListComp elt [⟨target, iter, ifs, 0⟩] scope pos) (.list ((as.filter p).map f)) := by
  have := ev_comp (elt := elt) (target := target) (ifs := ifs) (pos := pos) (p ∘ dec) (f ∘ dec) hr hi hcl hk hn hown hs (by rw [List.length_map]; exact hsz) fun L d hd => by
    obtain ⟨a, ha, rfl⟩ := List.mem_map.mp hd
    simp only [Function.comp, hdec a ha]
    exact turn L a ha ⟨hk, he.globals, he.builtins⟩
  rw [filter_map_dec enc dec p f as hdec] at this
  exact this
theorem st_compT {α : Type} {as : List α} (enc : α → D) (dec : D → α) (p : α → Bool) (f : α → D) {x : Str} {px : Pos} {elt target iter : Expr} {ifs : List Expr} {scope : Scope} {pos spos : Pos} {cl : List (Str × Addr)} (hdec : ∀ a ∈ as, dec (enc a) = a) (he : EnvOk env) (hr : Rm A 0) (hi : It C A env σ iter (as.map enc))
    (hcl : closureFor scope env = pure cl) (hsz : as.length ≤ 1000)
    (turn : ∀ L a, a ∈ as → EnvOk (cenvOf scope cl L env) → ∃ τ κ, Tgt target (enc a) τ ∧ (∀ q ∈ τ, Own (cenvOf scope cl L env) (cellsFrom (L + 1) scope.names []) q.1) ∧ Caps env (cenvOf scope cl L env) σ κ ∧
      Tests C A (cenvOf scope cl L env) (τ ++ κ) ifs (p a) ∧ (p a = true → Ev C A (cenvOf scope cl L env) (τ ++ κ) elt (f a)))
    (hown : ∀ L x c, (x, c) ∈ cellsFrom (L + 1) scope.names [] → (cenvOf scope cl L env).kindOf x = some .cell ∧ (cenvOf scope cl L env).cells.lookup x = some c)
    (ho : Own env env.cells x) (k : Φ (.next ((x, .list ((as.filter p).map f)) :: σ) (del x ω)))
    (hsw : swapsWith (.ListComp elt [⟨target, iter, ifs, 0⟩] scope pos) (some (.Name x px)) spos.line env = pure true := by rfl)
    (hk : scope.kind = .function := by rfl) (hn : ∀ x ∈ scope.names, x.2 = .local → scope.names.lookup x.1 = some .local := by decide)
    (hs : ∀ x, foldedSetIterable iter env x = pure x := by intro _; rfl) :
    St C A env σ ω (.Assign [.Name x px] (.ListComp elt [⟨target, iter, ifs, 0⟩] scope pos) spos) Φ := by
  refine st_comp (p ∘ dec) (f ∘ dec) he hr hi hcl hk hn hown hs (by rw [List.length_map]; exact hsz) (fun L d hd => ?_) hsw ho ?_
  · obtain ⟨a, ha, rfl⟩ := List.mem_map.mp hd
    simp only [Function.comp, hdec a ha]
    exact turn L a ha ⟨hk, he.globals, he.builtins⟩
  · rw [filter_map_dec enc dec p f as hdec]; exact k
end

theorem len2 {α : Type} : ∀ {l : List α}, l.length = 2 → ∃ a b, l = [a, b]
  | [a, b], _ => ⟨a, b, rfl⟩
theorem len3 {α : Type} : ∀ {l : List α}, l.length = 3 → ∃ a b c, l = [a, b, c]
  | [a, b, c], _ => ⟨a, b, c, rfl⟩
section
variable {C : Cx} {A : Around} {env : Env} {σ : Sig} {ω : OSig} {Φ : Out → Prop}
/-- a comprehension without tests -/
theorem ev_compM {α : Type} {as : List α} {R : List D} (enc : α → D) (dec : D → α) (f : α → D) {elt target iter : Expr} {scope : Scope} {pos : Pos} {cl : List (Str × Addr)} (hdec : ∀ a ∈ as, dec (enc a) = a) (he : EnvOk env) (hr : Rm A 0) (hi : It C A env σ iter (as.map enc)) (hR : as.map f = R)
    (hcl : closureFor scope env = pure cl) (hsz : as.length ≤ 1000)
    (turn : ∀ L a, a ∈ as → EnvOk (cenvOf scope cl L env) → ∃ τ κ, Tgt target (enc a) τ ∧ (∀ q ∈ τ, Own (cenvOf scope cl L env) (cellsFrom (L + 1) scope.names []) q.1) ∧ Caps env (cenvOf scope cl L env) σ κ ∧ Ev C A (cenvOf scope cl L env) (τ ++ κ) elt (f a))
    (hown : ∀ L x c, (x, c) ∈ cellsFrom (L + 1) scope.names [] → (cenvOf scope cl L env).kindOf x = some .cell ∧ (cenvOf scope cl L env).cells.lookup x = some c)
    (hk : scope.kind = .function := by rfl) (hn : ∀ x ∈ scope.names, x.2 = .local → scope.names.lookup x.1 = some .local := by decide)
    (hs : ∀ x, foldedSetIterable iter env x = pure x := by intro _; rfl) :
    Ev C A env σ (.ListComp elt [⟨target, iter, [], 0⟩] scope pos) (.list R) := by
  have := ev_compT (elt := elt) (target := target) (ifs := []) (pos := pos) enc dec (fun _ => true) f hdec he hr hi hcl hsz (fun L a ha he' => let ⟨τ, κ, h1, h2, h3, h4⟩ := turn L a ha he'; ⟨τ, κ, h1, h2, h3, tests_nil, fun _ => h4⟩) hown hk hn hs
  rw [List.filter_eq_self.mpr fun _ _ => rfl, hR] at this
  exact this
theorem st_compM {α : Type} {as : List α} {R : List D} (enc : α → D) (dec : D → α) (f : α → D) {x : Str} {px : Pos} {elt target iter : Expr} {scope : Scope} {pos spos : Pos} {cl : List (Str × Addr)} (hdec : ∀ a ∈ as, dec (enc a) = a) (he : EnvOk env) (hr : Rm A 0) (hi : It C A env σ iter (as.map enc)) (hR : as.map f = R)
    (hcl : closureFor scope env = pure cl) (hsz : as.length ≤ 1000)
    (turn : ∀ L a, a ∈ as → EnvOk (cenvOf scope cl L env) → ∃ τ κ, Tgt target (enc a) τ ∧ (∀ q ∈ τ, Own (cenvOf scope cl L env) (cellsFrom (L + 1) scope.names []) q.1) ∧ Caps env (cenvOf scope cl L env) σ κ ∧ Ev C A (cenvOf scope cl L env) (τ ++ κ) elt (f a))
    (hown : ∀ L x c, (x, c) ∈ cellsFrom (L + 1) scope.names [] → (cenvOf scope cl L env).kindOf x = some .cell ∧ (cenvOf scope cl L env).cells.lookup x = some c)
    (ho : Own env env.cells x) (k : Φ (.next ((x, .list R) :: σ) (del x ω)))
    (hsw : swapsWith (.ListComp elt [⟨target, iter, [], 0⟩] scope pos) (some (.Name x px)) spos.line env = pure true := by rfl)
    (hk : scope.kind = .function := by rfl) (hn : ∀ x ∈ scope.names, x.2 = .local → scope.names.lookup x.1 = some .local := by decide)
    (hs : ∀ x, foldedSetIterable iter env x = pure x := by intro _; rfl) :
    St C A env σ ω (.Assign [.Name x px] (.ListComp elt [⟨target, iter, [], 0⟩] scope pos) spos) Φ := by
  refine st_compT (ifs := []) enc dec (fun _ => true) f hdec he hr hi hcl hsz (fun L a ha he' => let ⟨τ, κ, h1, h2, h3, h4⟩ := turn L a ha he'; ⟨τ, κ, h1, h2, h3, tests_nil, fun _ => h4⟩) hown ho ?_ hsw hk hn hs
  rw [List.filter_eq_self.mpr fun _ _ => rfl, hR]
  exact k
end
/-! keys, told rows -/
noncomputable abbrev Key := Nat × Int
noncomputable def keyD (p : Key) : D := .tup [.int p.1, .int p.2]
noncomputable def dKey : D → Key
  | .tup [.int c, .int s] => (c.toNat, s)
  | _ => (0, 0)
theorem dKey_keyD (p : Key) : dKey (keyD p) = p := by simp [dKey, keyD]
noncomputable def rowD (l : List Int) : D := .tup (l.map .int)
noncomputable def cmpOf (l r : List Int) (ks : List Key) : Int := (((ks.filter fun p : Key => l.getD p.1 0 != r.getD p.1 0).map fun p : Key => if decide (l.getD p.1 0 > r.getD p.1 0) then p.2 else -p.2) ++ [0]).headD 0
theorem item_row {l : List Int} {c : Nat} (hc : c < l.length) (hl : l.length ≤ 1000) : Item (rowD l) (.int (c : Int)) (.int (l.getD c 0)) :=
  item_tup (by lia) (by simp [List.getD, hc]) (by simpa using hl)
theorem fn_compared {C : Cx} (H : Has C) (l r : List Int) (ks : List Key) (hl : l.length = 3) (hr' : r.length = 3) (hk : ∀ p ∈ ks, p.1 < 3) (hks : ks.length ≤ 900) : Fn C 143 1 [rowD l, rowD r, .list (ks.map keyD)] (.int (cmpOf l r ks)) := by
  refine fn_pack H (i := 16) (c := 142) (names := ["one", "other", "keys"]) (k := 0) (by decide) (fun pm vs h => by obtain ⟨a, b, c, rfl⟩ := len3 h; rfl) (by decide) rfl
    (fun pm L x c m => by repeat (rcases List.mem_cons.mp m with h | m; · cases h; exact ⟨rfl, rfl⟩)
                          cases m) (fun pm L x m => by
      rcases List.mem_cons.mp m with rfl | m
      · exact .inr ⟨rfl, rfl⟩
      rcases List.mem_cons.mp m with rfl | m
      · exact .inr ⟨rfl, rfl⟩
      rcases List.mem_singleton.mp m with rfl; exact .inl rfl) fun pm A L h0 he => ?_
  have hlen : ((ks.filter fun p : Key => l.getD p.1 0 != r.getD p.1 0).map fun p : Key => D.int (if decide (l.getD p.1 0 > r.getD p.1 0) then p.2 else -p.2)).length ≤ 900 := by
    rw [List.length_map]; exact Nat.le_trans (List.length_filter_le _ _) hks
  refine sts_cons (st_compT (as := ks) keyD dKey (fun p => l.getD p.1 0 != r.getD p.1 0) (fun p => .int (if decide (l.getD p.1 0 > r.getD p.1 0) then p.2 else -p.2)) (fun p _ => dKey_keyD p) he h0 (it_list h0 (ev_name he rfl)) rfl (by lia) (fun L' p hp he' => ?_) ?_ (.inl rfl) ?_)
  · have hc := hk p hp
    refine ⟨_, [("one", rowD l), ("other", rowD r)], .two (by decide), ?_, ⟨⟨rfl, rfl, rfl, rfl⟩, ⟨rfl, rfl, rfl, rfl⟩, trivial⟩, ?_, fun _ => ?_⟩
    · intro q m
      rcases List.mem_cons.mp m with rfl | m
      · exact .inl rfl
      · rcases List.mem_singleton.mp m with rfl; exact .inl rfl
    · exact tests_one (ts_cmp H.ok h0 (ev_sub h0 (ev_name he' rfl) (ev_name he' rfl) (item_row (by lia) (by lia))) (ev_sub h0 (ev_name he' rfl) (ev_name he' rfl) (item_row (by lia) (by lia))) cmp_ne)
    · refine ev_if (c := decide (l.getD p.1 0 > r.getD p.1 0)) (ts_cmp H.ok h0 (ev_sub h0 (ev_name he' rfl) (ev_name he' rfl) (item_row (by lia) (by lia))) (ev_sub h0 (ev_name he' rfl) (ev_name he' rfl) (item_row (by lia) (by lia))) cmp_gt) (fun e => ?_) (fun e => ?_)
      · rw [if_pos e]; exact ev_name he' rfl
      · rw [if_neg (by rw [e]; simp)]; exact ev_neg (ev_name he' rfl)
  · intro L' x c m
    cases m
  refine sts_cons (st_return (ev_sub h0 (ev_bin h0 (ev_name he rfl) (ev_list (evl_cons ev_int evl_nil)) (bin_catL ?_)) ev_int (item_list (by decide) ?_ ?_)) rfl)
  · simp at hlen ⊢; lia
  · unfold cmpOf
    cases h : (ks.filter fun p : Key => l.getD p.1 0 != r.getD p.1 0) with
    | nil => rfl
    | cons p rest => rfl
  · simp at hlen ⊢; lia
end Zn
/-! part ZnR -/
namespace Zn
open PySem PySem.W PySem.Calls PyProof.Rows PySem.Spec PySem.SeqAt

/-! words of flags -/
noncomputable def isStrC : Expr → Bool
  | .Constant (.str _) _ _ => true
  | _ => false
theorem evl_strs {C : Cx} {A : Around} {env : Env} {σ : Sig} : ∀ (es : List Expr), es.all isStrC = true → EvL C A env σ es ((es.map strOf).map .str)
  | [], _ => evl_nil
  | e :: es, h => by
    rw [List.all_cons, Bool.and_eq_true] at h
    obtain ⟨h1, h2⟩ := h
    unfold isStrC at h1
    split at h1
    · exact evl_cons ev_str (evl_strs es h2)
    · cases h1
noncomputable def eltsOf : Stmt → List Expr
  | .Assign _ (.List es _) _ => es
  | _ => []
noncomputable def headS : List Stmt → List Expr
  | s :: _ => eltsOf s
  | [] => []
noncomputable def flagEs : List Expr := headS (bdOf (stm 17))
noncomputable def flagNames : List Str := flagEs.map strOf
theorem flagEs_ok : flagEs.all isStrC = true := by decide +kernel
theorem flag_len : flagNames.length = 10 := by decide +kernel
noncomputable def digs : Str := "1248"
noncomputable def wordOf (p : Nat) : Str := if decide ((p : Int) < 10) then flagNames.getD p Str.empty else ("0x" : Str) ++ ⟨#[digs.cps.getD (p % 4) 0]⟩ ++ Txt.mul "0" ((p : Int).fdiv 4)
noncomputable def wordsOf (ps : List Nat) : Str := if ps.map wordOf ≠ [] then Txt.join ", " (ps.map wordOf) else "0x0"
theorem mulOk {n : Nat} (h : n < 10) : MulOk ("0" : Str) (n : Int) := by
  revert n
  unfold MulOk
  decide
theorem fdiv4 (p : Nat) : ((p : Int).fdiv 4) = ((p / 4 : Nat) : Int) := by
  rw [Int.fdiv_eq_ediv_of_nonneg _ (by decide)]; rfl
theorem fmod4 (p : Nat) : ((p : Int).fmod 4) = ((p % 4 : Nat) : Int) := by
  rw [Int.fmod_eq_emod_of_nonneg _ (by decide)]; rfl
noncomputable def dI : D → Int
  | .int i => i
  | _ => 0
noncomputable def dN : D → Nat := fun d => (dI d).toNat
noncomputable def natD (n : Nat) : D := .int n
theorem dN_natD (n : Nat) : dN (natD n) = n := by simp [dN, natD, dI]
theorem lens : ∀ p, p < 32 → (wordOf p).length ≤ 30 := by decide +kernel
theorem fn_words {C : Cx} (H : Has C) (ps : List Nat) (hp : ∀ p ∈ ps, p < 32) (hl : ps.length ≤ 900) : Fn C 148 1 [.list (ps.map natD)] (.str (wordsOf ps)) := by
  refine fn_pack H (i := 17) (c := 147) (names := ["places"]) (k := 0) (by decide) (fun pm vs h => by obtain ⟨v, rfl⟩ := List.length_eq_one_iff.mp h; rfl) (by decide) rfl
    (fun pm L x c m => by repeat (rcases List.mem_cons.mp m with h | m; · cases h; exact ⟨rfl, rfl⟩)
                          cases m) (fun pm L x m => by rcases List.mem_singleton.mp m with rfl; exact .inl rfl) fun pm A L h0 he => ?_
  refine sts_cons (st_assign (d := .list (flagNames.map .str)) he ?_ (.inr ⟨rfl, rfl⟩) ?_)
  · exact ev_list (evl_strs flagEs flagEs_ok) (by rw [List.length_map]; show flagNames.length ≤ 1000; rw [flag_len]; decide)
  refine sts_cons (st_compT (as := ps) natD dN (fun _ => true) (fun p => .str (wordOf p)) (fun p _ => dN_natD p) he h0 (it_list h0 (ev_name he rfl)) rfl (by lia) (fun L' p hp' he' => ?_) ?_ (.inl rfl) ?_)
  · have hlt := hp p hp'
    refine ⟨_, [("names", .list (flagNames.map .str))], .name, ?_, ⟨⟨rfl, rfl, rfl, rfl⟩, trivial⟩, tests_nil, fun _ => ?_⟩
    · intro q m
      rcases List.mem_singleton.mp m with rfl; exact .inl rfl
    · refine ev_if (c := decide ((p : Int) < 10)) (ts_cmp H.ok h0 (ev_name he' rfl) ev_int cmp_lt) (fun e => ?_) (fun e => ?_)
      · unfold wordOf; rw [if_pos e]
        have e' : p < 10 := by have := of_decide_eq_true e; lia
        refine ev_sub h0 (ev_name he' rfl) (ev_name he' rfl) (item_list (by show (0 : Int) ≤ p; lia) ?_ (by rw [List.length_map, flag_len]; decide))
        simp [List.getD, flag_len, e']
      · unfold wordOf; rw [if_neg (by rw [e]; simp)]
        have h4 : p % 4 < 4 := Nat.mod_lt _ (by decide)
        have hd4 : p / 4 < 10 := by lia
        refine ev_bin h0 (ev_bin h0 ev_str (ev_sub h0 ev_str (ev_bin h0 (ev_name he' rfl) ev_int (bin_mod (by decide))) ?_) (bin_cat ?_)) (ev_bin h0 ev_str (ev_bin h0 (ev_name he' rfl) ev_int (bin_div (by decide) (np (by decide)))) (bin_rep ?_)) (bin_cat ?_)
        · rw [fmod4]
          refine item_str (by lia) ?_ (by decide)
          rw [Int.toNat_natCast]
          generalize p % 4 = k at h4
          revert k; decide
        · exact small_size (by show 2 + 1 ≤ 1000; decide)
        · rw [fdiv4]; exact mulOk hd4
        · rw [fdiv4]
          generalize p / 4 = k at hd4
          have : ∀ k < 10, (Txt.mul "0" ((k : Nat) : Int)).length ≤ 100 := by decide
          have h := this k hd4
          refine small_size ?_
          have h3 : (("0x" : Str) ++ (⟨#[digs.cps.getD (p % 4) 0]⟩ : Str)).length = 3 := by
            generalize p % 4 = j
            rfl
          omega
  · intro L' x c m
    cases m
  have hf : (ps.filter fun _ => true) = ps := List.filter_eq_self.mpr fun _ _ => rfl
  have hm : (ps.map fun p => D.str (wordOf p)) = (ps.map wordOf).map .str := by rw [List.map_map]; rfl
  rw [hf, hm]
  have hc : Cmp .NotEq (.list ((ps.map wordOf).map .str)) (.list []) (decide (ps.map wordOf ≠ [])) := by
    cases ps with
    | nil => exact cmp_neE
    | cons p ps => exact cmp_neN (by simp)
  refine sts_cons (st_return (ev_if (c := decide (ps.map wordOf ≠ [])) (ts_cmp H.ok h0 (ev_name he rfl) (ev_list evl_nil) hc) (fun e => ?_) (fun e => ?_)) rfl)
  · unfold wordsOf
    rw [if_pos (of_decide_eq_true e)]
    refine ev_meth H.ok h0 ev_str (mth_str PySem.F.slot_str_join PySem.F.type_str_join) (evl_cons (ev_name he rfl) evl_nil) (bf_join ?_)
    have : ((ps.map wordOf).map fun x => x.length).sum ≤ 30 * ps.length := by
      clear hf hm hc e
      clear hl
      induction ps with
      | nil => simp
      | cons p ps ih =>
        have h1 := lens p (hp p (.head _))
        have h2 := ih fun q m => hp q (.tail _ m)
        simp only [List.map_cons, List.sum_cons, List.length_cons]
        lia
    have h2 : ((", " : Str)).length = 2 := rfl
    rw [List.length_map, h2]
    lia
  · unfold wordsOf
    rw [if_neg (of_decide_eq_false e)]
    exact ev_str
end Zn
/-! part ZnU -/
namespace Zn
open PySem PySem.W PySem.Calls PyProof.Rows PySem.Spec PySem.SeqAt

noncomputable def in1 (c : Nat) : Bool := b1List.contains (c : Int)
noncomputable def map3 (c : Nat) : Str := match b3List.lookup (c : Int) with
  | some x => x
  | none => Txt.lower ⟨#[c]⟩
theorem fn_in1 {C : Cx} (H : Has C) (c : Nat) : Fn C 75 1 [.str ⟨#[c]⟩] (.bool (in1 c)) := by
  refine fn_pack H (i := 9) (c := 74) (names := ["code"]) (k := 0) (by decide) (fun pm vs h => by obtain ⟨v, rfl⟩ := List.length_eq_one_iff.mp h; rfl) (by decide) rfl (fun pm L x c m => by cases m) (fun pm L x m => by rcases List.mem_singleton.mp m with rfl; exact .inl rfl) fun pm A L h0 he => ?_
  obtain ⟨n, hS⟩ := H.b1
  exact sts_cons (st_return (ev_inset (S := fun k => b1List.contains k) (i := (c : Int)) H.ok he h0 rfl (H.glob _ _ (by rfl)) hS (ev_bcall H.ok he h0 rfl (H.miss _ (by decide)) (by decide +kernel) (evl_cons (ev_name he rfl) evl_nil) bf_ord)) rfl)
theorem fn_map3 {C : Cx} (H : Has C) (c : Nat) : Fn C 121 1 [.str ⟨#[c]⟩] (.str (map3 c)) := by
  refine fn_pack H (i := 11) (c := 120) (names := ["code"]) (k := 0) (by decide) (fun pm vs h => by obtain ⟨v, rfl⟩ := List.length_eq_one_iff.mp h; rfl) (by decide) rfl (fun pm L x c m => by cases m) (fun pm L x m => by rcases List.mem_singleton.mp m with rfl; exact .inl rfl) fun pm A L h0 he => ?_
  obtain ⟨f, hf, hl⟩ := H.b3
  have hc := hl (c : Int)
  have get : ∀ d, Rd (fun _ => none) ((f (c : Int)).getD .none) d → Sts C A (callEnvC (fdOf pm (.ref 120) (stm 11)) L 121) (("r", d) :: List.zip ["code"] [D.str ⟨#[c]⟩]) [] (bdOf (stm 11)).tail (Ends (.str (map3 c))) → Sts C A (callEnvC (fdOf pm (.ref 120) (stm 11)) L 121) (List.zip ["code"] [D.str ⟨#[c]⟩]) [] (bdOf (stm 11)) (Ends (.str (map3 c))) := fun d hd h => by
    refine sts_cons (st_assign (d := d) he (ev_gget1 (i := (c : Int)) H.ok he h0 rfl (H.glob _ _ (by rfl)) (by decide) hf (ev_bcall H.ok he h0 rfl (H.miss _ (by decide)) (by decide +kernel) (evl_cons (ev_name he rfl) evl_nil) bf_ord) hd) (.inl rfl) h)
  unfold map3 at get ⊢
  cases e : b3List.lookup (c : Int) with
  | some x =>
    rw [e] at hc get
    obtain ⟨t, hfc⟩ := hc
    refine get (.str x) (by rw [hfc]; exact .str x t) ?_
    refine sts_cons (st_if (c := true) (ts_cmp H.ok h0 (ev_name he rfl) ev_none (cmp_isNot (d := .str x) rfl)) (fun _ => ?_) (fun h => by cases h))
    exact sts_cons (st_return (ev_name he rfl) rfl)
  | none =>
    rw [e] at hc get
    have hfc : f (c : Int) = none := hc
    refine get .none (by rw [hfc]; exact .none) ?_
    refine sts_cons (st_if (c := false) (ts_cmp H.ok h0 (ev_name he rfl) ev_none (cmp_isNot (d := .none) rfl)) (fun h => by cases h) (fun _ => ?_))
    refine sts_nil ?_
    exact sts_cons (st_return (ev_meth0 H.ok h0 (ev_name he rfl) (mth_str PySem.F.slot_str_lower PySem.F.type_str_lower) (bf_lower (by show (1 : Nat) ≤ 1000; decide))) rfl)
end Zn
/-! part ZnV -/
namespace Zn
open PySem PySem.W PySem.Calls PyProof.Rows PySem.Spec PySem.SeqAt

noncomputable def one (c : Nat) : Str := ⟨#[c]⟩
noncomputable def tab10 : List Int := [0, 1, 2, 4, 7, 8, 9, 10, 11, 12]
noncomputable def tab4 : List Int := [173, 8203, 8288, 65039]
noncomputable def begin1 (m : Int) : Int := 119808 + 52 * tab10.getD m.toNat 0
noncomputable def cap (c : Nat) : Str := one ((c : Int) - 32).toNat
noncomputable def alp (b : Int) (c : Nat) : Str := one (b + c - 97).toNat
noncomputable def sp0 (w : Str) : Str := Txt.join "" (w.cps.toList.map cap)
noncomputable def sp1 (w : Str) (m : Int) : Str := Txt.join "" (w.cps.toList.map (alp (begin1 m)))
noncomputable def sp2 (w : Str) (m : Int) : Str := if w == "k" then w else if w == "ss" then one (223 : Int).toNat else one (64261 + m).toNat
noncomputable def un3 (m : Int) : Str := one (tab4.getD m.toNat 0).toNat
noncomputable def sp3 (w : Str) (m : Int) : Str := un3 m ++ Txt.join (un3 m) (w.cps.toList.map one)
noncomputable def spelled (w : Str) (way : Int) : Str :=
  if way.fmod 4 == 0 then sp0 w else if way.fmod 4 == 1 then sp1 w ((way.fdiv 4).fmod 10) else if way.fmod 4 == 2 then sp2 w ((way.fdiv 4).fmod 2) else sp3 w ((way.fdiv 4).fmod 4)
noncomputable def chD (c : Nat) : D := .str ⟨#[c]⟩
noncomputable def dCh : D → Nat
  | .str x => x.cps.getD 0 0
  | _ => 0
theorem dCh_chD (c : Nat) : dCh (chD c) = c := rfl
theorem sum_ones (l : List Nat) (f : Nat → Str) (h : ∀ c, (f c).length = 1) : ((l.map f).map fun x => x.length).sum = l.length := by
  induction l with
  | nil => rfl
  | cons a l ih => simp only [List.map_cons, List.sum_cons, List.length_cons, ih, h]; lia
theorem fmod_lt (a : Int) {b : Int} (h : 0 < b) : 0 ≤ a.fmod b ∧ a.fmod b < b := ⟨Int.fmod_nonneg_of_pos a h, Int.fmod_lt_of_pos a h⟩
theorem intMul_small {a b : Int} (h : Builtin.Int.intBits a ≤ 64) : IntMulOk a b := IntMulOk.of_left h
theorem tab10_lt : ∀ k < 10, 0 ≤ tab10.getD k 0 ∧ tab10.getD k 0 ≤ 12 := by decide
theorem tab4_lt : ∀ k < 4, 0 ≤ tab4.getD k 0 ∧ tab4.getD k 0 ≤ 65039 := by decide
theorem getmap {l : List Int} {k : Nat} (h : k < l.length) : (l.map D.int)[k]? = some (.int (l.getD k 0)) := by simp [List.getD, h]
theorem fn_spelled {C : Cx} (H : Has C) (w : Str) (way : Int) (hw : ∀ c ∈ w.cps.toList, 97 ≤ c ∧ c ≤ 122) (hl : w.cps.toList.length ≤ 2) : Fn C 126 1 [.str w, .int way] (.str (spelled w way)) := by
  refine fn_pack H (i := 13) (c := 125) (names := ["word", "way"]) (k := 0) (by decide) (fun pm vs h => by obtain ⟨a, b, rfl⟩ := len2 h; rfl) (by decide) rfl
    (fun pm L x c m => by repeat (rcases List.mem_cons.mp m with h | m; · cases h; exact ⟨rfl, rfl⟩)
                          cases m) (fun pm L x m => by
      rcases List.mem_cons.mp m with rfl | m
      · exact .inl rfl
      rcases List.mem_singleton.mp m with rfl; exact .inl rfl) fun pm A L h0 he => ?_
  have hsg : signs w = w.cps.toList.map chD := rfl
  unfold spelled
  have hall : (w.cps.toList.filter fun _ => true) = w.cps.toList := List.filter_eq_self.mpr fun _ _ => rfl
  refine sts_cons (st_assign (d := .int (way.fmod 4)) he (ev_bin h0 (ev_name he rfl) ev_int (bin_mod (by decide))) (.inl rfl) ?_)
  refine sts_cons (st_assign (d := .int (way.fdiv 4)) he (ev_bin h0 (ev_name he rfl) ev_int (bin_div (by decide) (np (by decide)))) (.inl rfl) ?_)
  generalize way.fdiv 4 = m
  refine sts_cons (st_if (c := way.fmod 4 == 0) (ts_cmp H.ok h0 (ev_name he rfl) ev_int cmp_eq) (fun e => ?_) (fun e => ?_))
  · -- capitals
    rw [if_pos e]
    refine sts_cons (st_return (ev_meth H.ok h0 ev_str (mth_str PySem.F.slot_str_join PySem.F.type_str_join) (evl_cons (d := .list ((w.cps.toList.map cap).map .str)) ?_ evl_nil) (bf_join ?_)) rfl)
    · refine ev_compM (as := w.cps.toList) chD dCh (fun c => .str (cap c)) (fun c _ => dCh_chD c) he h0 (hsg ▸ it_str h0 (ev_name he rfl)) (by rw [List.map_map]; rfl) rfl (by lia) (fun L' c hc he' => ?_) ?_
      · refine ⟨_, [], .name, ?_, trivial, ?_⟩
        · intro q m; rcases List.mem_singleton.mp m with rfl; exact .inl rfl
        · have := hw c hc
          exact ev_bcall H.ok he' h0 rfl (H.miss _ (by decide)) (by decide +kernel) (evl_cons (ev_bin h0 (ev_bcall H.ok he' h0 rfl (H.miss _ (by decide)) (by decide +kernel) (evl_cons (ev_name he' rfl) evl_nil) bf_ord) ev_int bin_sub) evl_nil) (bf_chr (by simp; lia))
      · intro L' x c m; cases m
    · rw [sum_ones _ _ fun _ => rfl, List.length_map]; have : (("" : Str)).length = 0 := rfl
      rw [this]; lia
  refine sts_nil ?_
  rw [if_neg (by rw [e]; decide)]
  refine sts_cons (st_if (c := way.fmod 4 == 1) (ts_cmp H.ok h0 (ev_name he rfl) ev_int cmp_eq) (fun e => ?_) (fun e => ?_))
  · -- mathematical alphabets
    rw [if_pos e]
    have hm := fmod_lt m (b := 10) (by decide)
    have ht := tab10_lt (m.fmod 10).toNat (by omega)
    refine sts_cons (st_assign (d := .int (begin1 (m.fmod 10))) he ?_ (.inr ⟨rfl, rfl⟩) ?_)
    · unfold begin1
      refine ev_bin h0 ev_int (ev_bin h0 ev_int (ev_sub h0 (ev_list (evl_cons ev_int (evl_cons ev_int (evl_cons ev_int (evl_cons ev_int (evl_cons ev_int (evl_cons ev_int (evl_cons ev_int (evl_cons ev_int (evl_cons ev_int (evl_cons ev_int evl_nil)))))))))) (by decide)) (ev_bin h0 (ev_name he rfl) ev_int (bin_mod (by decide))) (item_list hm.1 ?_ (by decide))) (bin_mul (intMul_small (by decide)))) bin_add
      exact getmap (l := tab10) (show _ < 10 by omega)
    have hb : 119808 ≤ begin1 (m.fmod 10) ∧ begin1 (m.fmod 10) ≤ 200000 := by unfold begin1; lia
    unfold sp1
    generalize begin1 (m.fmod 10) = bg at hb
    refine sts_cons (st_return (ev_meth H.ok h0 ev_str (mth_str PySem.F.slot_str_join PySem.F.type_str_join) (evl_cons (d := .list ((w.cps.toList.map (alp bg)).map .str)) ?_ evl_nil) (bf_join ?_)) rfl)
    · refine ev_compM (as := w.cps.toList) chD dCh (fun c => .str (alp bg c)) (fun c _ => dCh_chD c) he h0 (hsg ▸ it_str h0 (ev_name he rfl)) (by rw [List.map_map]; rfl) rfl (by lia) (fun L' c hc he' => ?_) ?_
      · refine ⟨_, [("begin", .int bg)], .name, ?_, ⟨⟨rfl, rfl, rfl, rfl⟩, trivial⟩, ?_⟩
        · intro q m; rcases List.mem_singleton.mp m with rfl; exact .inl rfl
        · have := hw c hc
          exact ev_bcall H.ok he' h0 rfl (H.miss _ (by decide)) (by decide +kernel) (evl_cons (ev_bin h0 (ev_bin h0 (ev_name he' rfl) (ev_bcall H.ok he' h0 rfl (H.miss _ (by decide)) (by decide +kernel) (evl_cons (ev_name he' rfl) evl_nil) bf_ord) bin_add) ev_int bin_sub) evl_nil) (bf_chr (by simp; lia))
      · intro L' x c m; cases m
    · rw [sum_ones _ _ fun _ => rfl, List.length_map]; have : (("" : Str)).length = 0 := rfl
      rw [this]; lia
  refine sts_nil ?_
  rw [if_neg (by rw [e]; decide)]
  refine sts_cons (st_if (c := way.fmod 4 == 2) (ts_cmp H.ok h0 (ev_name he rfl) ev_int cmp_eq) (fun e => ?_) (fun e => ?_))
  · -- ligatures
    rw [if_pos e]
    unfold sp2
    refine sts_cons (st_if (c := w == "k") (ts_cmp H.ok h0 (ev_name he rfl) ev_str cmp_eqS) (fun e2 => ?_) (fun e2 => ?_))
    · rw [if_pos e2]
      exact sts_cons (st_return (ev_name he rfl) rfl)
    refine sts_nil ?_
    rw [if_neg (by rw [e2]; decide)]
    have hm := fmod_lt m (b := 2) (by decide)
    refine sts_cons (st_return (ev_if (c := w == "ss") (ts_cmp H.ok h0 (ev_name he rfl) ev_str cmp_eqS) (fun e3 => ?_) (fun e3 => ?_)) rfl)
    · rw [if_pos e3]
      exact ev_bcall H.ok he h0 rfl (H.miss _ (by decide)) (by decide +kernel) (evl_cons ev_int evl_nil) (bf_chr (a := 223) (by decide))
    · rw [if_neg (by rw [e3]; decide)]
      exact ev_bcall H.ok he h0 rfl (H.miss _ (by decide)) (by decide +kernel) (evl_cons (ev_bin h0 ev_int (ev_bin h0 (ev_name he rfl) ev_int (bin_mod (by decide))) bin_add) evl_nil) (bf_chr (a := 64261 + m.fmod 2) (by simp; lia))
  -- unseen signs
  refine sts_nil ?_
  rw [if_neg (by rw [e]; decide)]
  have hm := fmod_lt m (b := 4) (by decide)
  have ht := tab4_lt (m.fmod 4).toNat (by omega)
  refine sts_cons (st_assign (d := .str (un3 (m.fmod 4))) he ?_ (.inl rfl) ?_)
  · refine ev_bcall H.ok he h0 rfl (H.miss _ (by decide)) (by decide +kernel) (evl_cons (ev_sub h0 (ev_list (evl_cons ev_int (evl_cons ev_int (evl_cons ev_int (evl_cons ev_int evl_nil)))) (by decide)) (ev_bin h0 (ev_name he rfl) ev_int (bin_mod (by decide))) (item_list hm.1 (getmap (l := tab4) (show _ < 4 by omega)) (by decide))) evl_nil) (bf_chr ?_)
    generalize tab4.getD (m.fmod 4).toNat 0 = q at ht
    simp; lia
  unfold sp3
  have hul : (un3 (m.fmod 4)).length = 1 := rfl
  generalize un3 (m.fmod 4) = u at hul
  have hj : ((w.cps.toList.map one).map fun x => x.length).sum + (w.cps.toList.map one).length * u.length ≤ 4 := by
    rw [sum_ones _ _ fun _ => rfl, List.length_map, hul]; lia
  refine sts_cons (st_return (ev_bin h0 (ev_name he rfl) (ev_meth H.ok h0 (ev_name he rfl) (mth_str PySem.F.slot_str_join PySem.F.type_str_join) (evl_cons (d := .list ((w.cps.toList.map one).map .str)) ?_ evl_nil) (bf_join (by lia))) (bin_cat ?_)) rfl)
  · refine ev_compM (as := w.cps.toList) chD dCh (fun c => .str (one c)) (fun c _ => dCh_chD c) he h0 (hsg ▸ it_str h0 (ev_name he rfl)) (by rw [List.map_map]; rfl) rfl (by lia) (fun L' c hc he' => ?_) ?_
    · refine ⟨_, [], .name, ?_, trivial, ?_⟩
      · intro q m; rcases List.mem_singleton.mp m with rfl; exact .inl rfl
      · exact ev_name he' rfl
    · intro L' x c m; cases m
  · have h1 : (Txt.join u (w.cps.toList.map one)).length ≤ ((w.cps.toList.map one).map fun x => x.length).sum + (w.cps.toList.map one).length * u.length := by
      unfold Txt.join; rw [StrLaws.glued_eq_join]
      exact StrLaws.join_length_le _ _
    exact small_size (by lia)
end Zn
/-! part ZnY -/
namespace Zn
open PySem PySem.W PySem.Calls PyProof.Rows PySem.Spec PySem.SeqAt

noncomputable def slen (v : Int) : Int := ((Str.ofString (toString v)).length : Nat)
noncomputable def linesOf (v : Option Int) (odd : Bool) : List (Int × D) := (0, .int 0) :: ((match v with | some v => [(2, .int v)] | none => []) ++ (if odd then [(4, .none)] else []))
noncomputable def widthOf (v : Option Int) (odd : Bool) : Int := match v with
  | none => 0
  | some v => let w := if slen v > 3 then slen v else 3
    if decide (w < 4) && odd then 4 else w
noncomputable def topD : Option Int → List D
  | some v => [.int v]
  | none => []
theorem fn_width {C : Cx} (H : Has C) (v : Option Int) (odd : Bool) (hv : ∀ x, v = some x → 0 < x ∧ x.natAbs.log2 < 1920 ∧ (Str.ofString (toString x)).length ≤ 1000) : Fn C 57 1 [.dict (linesOf v odd)] (.int (widthOf v odd)) := by
  refine fn_pack H (i := 6) (c := 56) (names := ["linestarts"]) (k := 0) (by decide) (fun pm vs h => by obtain ⟨v, rfl⟩ := List.length_eq_one_iff.mp h; rfl) (by decide) rfl (fun pm L x c m => by cases m) (fun pm L x m => by rcases List.mem_singleton.mp m with rfl; exact .inl rfl) fun pm A L h0 he => ?_
  have hin : ∀ p ∈ linesOf v odd, isIN p.2 = true := by
    unfold linesOf
    cases v <;> cases odd <;> simp [isIN]
  have hT : ((linesOf v odd).map (·.2)).filter trD = topD v := by
    unfold linesOf topD
    cases v with
    | none => cases odd <;> simp [trD]
    | some v =>
      have : v ≠ 0 := by have := (hv v rfl).1; lia
      have e1 : trD (.int v) = true := by simp [trD, this]
      have e2 : trD .none = false := rfl
      have e3 : trD (.int 0) = false := rfl
      cases odd <;> simp [List.filter_cons, e1, e2, e3]
  have hN : ((linesOf v odd).map (·.2)).any noneD = odd := by
    unfold linesOf
    cases v <;> cases odd <;> simp [noneD]
  have hTl : (((linesOf v odd).map (·.2)).filter trD).length ≤ 1 := by rw [hT]; cases v <;> simp [topD]
  generalize linesOf v odd = ks at *
  refine sts_cons (st_if (c := false) (ts_cmp H.ok h0 (ev_name he rfl) ev_none (cmp_is (d := .dict ks) rfl)) (fun h => by cases h) (fun _ => sts_nil ?_))
  refine sts_cons (st_assign (d := ((ks.map (·.2)).filter trD).headD (.int (-1))) he (ev_maxvals H.ok he h0 rfl (H.miss _ (by decide)) rfl (H.miss _ (by decide)) rfl hin hTl ev_none (ev_neg ev_int)) (.inl rfl) ?_)
  rw [hT]
  cases v with
  | none =>
    refine sts_cons (st_if (c := true) (ts_cmp H.ok h0 (ev_name he rfl) (ev_neg ev_int) cmp_eq) (fun _ => ?_) (fun h => by cases h))
    exact sts_cons (st_return ev_int rfl)
  | some v =>
    obtain ⟨hv0, hv1, hv2⟩ := hv v rfl
    have hne : (v == -1) = false := by rw [beq_eq_false_iff_ne]; lia
    refine sts_cons (st_if (c := false) (hne ▸ ts_cmp H.ok h0 (ev_name he rfl) (ev_neg ev_int) cmp_eq) (fun h => by cases h) (fun _ => sts_nil ?_))
    refine sts_cons (st_assign (d := .int (if slen v > 3 then slen v else 3)) he ?_ (.inl rfl) ?_)
    · exact ev_bcall H.ok he h0 rfl (H.miss _ (by decide)) (by decide +kernel) (evl_cons ev_int (evl_cons (ev_bcall H.ok he h0 rfl (H.miss _ (by decide)) (by decide +kernel) (evl_cons (ev_tcall H.ok he h0 rfl (H.miss _ (by decide)) (by decide +kernel) (evl_cons (ev_name he rfl) evl_nil) (tf_str hv1)) evl_nil) (bf_len_str hv2)) evl_nil)) bf_max2
    unfold widthOf
    dsimp only
    generalize (if slen v > 3 then slen v else 3) = wd
    refine sts_cons (st_if (c := decide (wd < 4) && odd) (ts_and (ts_cmp H.ok h0 (ev_name he rfl) (ev_bcall (ds := [.str "  --"]) (d := .int 4) H.ok he h0 rfl (H.miss _ (by decide)) (by decide +kernel) (evl_cons (ev_global H.ok he rfl (H.glob _ _ (by rfl)) (.str _ _)) evl_nil) (bf_len_str (x := "  --") (by decide))) cmp_lt) (fun _ => by rw [← hN]; exact ts_invalues he h0 rfl hin ev_none)) (fun h => ?_) (fun h => sts_nil ?_))
    · rw [if_pos h]
      refine sts_cons (st_assign (d := .int 4) he (ev_bcall (ds := [.str "  --"]) (d := .int 4) H.ok he h0 rfl (H.miss _ (by decide)) (by decide +kernel) (evl_cons (ev_global H.ok he rfl (H.glob _ _ (by rfl)) (.str _ _)) evl_nil) (bf_len_str (x := "  --") (by decide))) (.inl rfl) (sts_nil ?_))
      exact sts_cons (st_return (ev_name he rfl) rfl)
    · rw [if_neg (by rw [h]; decide)]
      exact sts_cons (st_return (ev_name he rfl) rfl)
end Zn
/-! part ZnZ -/
namespace Zn
open PySem PySem.W PySem.Calls PyProof.Rows PySem.Spec PySem.SeqAt

theorem ev_fcall {C : Cx} (H : Has C) {A : Around} {env : Env} {σ : Sig} {x : Str} {p pos : Pos} {e : Expr} {es : List Expr} {i c f : Nat} {k : Nat} {ds : List D} {d : D} (he : EnvOk env) (hf : (i, c, f) ∈ fnTable) (hx : env.kindOf x = some .globalImplicit) (hg : globs.lookup x = some (.ref f))
    (hfn : Fn C f k ds d) (hr : Rm A k) (ha : EvL C A env σ (e :: es) ds) (hse : starEach (e :: es) env = (false, eval e env) :: starEach es env := by rfl) (hb : (x == ("__debug__" : Str)) = false := by decide) :
    Ev C A env σ (.Call (.Name x p) (e :: es) [] pos) d := by
  obtain ⟨⟨pm, o, ho, hd⟩, _⟩ := H.fns _ hf
  exact ev_call H.ok he hx (H.glob _ _ hg) ho hd hfn hr ha hse hb

noncomputable def wordAt (w : Nat) : Str := if w = 0 then "k" else if w = 1 then "ss" else "st"
noncomputable def cleaned (x : Str) : Str := Txt.join "" ((x.cps.toList.filter fun c => !in1 c).map map3)
theorem clean0 : ∀ w < 3, cleaned (sp0 (wordAt w)) = wordAt w := by decide +kernel
theorem clean1 : ∀ w < 3, ∀ m < 10, cleaned (sp1 (wordAt w) (m : Nat)) = wordAt w := by decide +kernel
theorem clean2 : ∀ w < 3, ∀ m < 2, cleaned (sp2 (wordAt w) (m : Nat)) = wordAt w := by decide +kernel
theorem clean3 : ∀ w < 3, ∀ m < 4, cleaned (sp3 (wordAt w) (m : Nat)) = wordAt w := by decide +kernel
theorem fmod_nat (a : Int) (b : Nat) (h : 0 < b) : ∃ m < b, a.fmod b = (m : Nat) := by
  have := fmod_lt a (b := (b : Int)) (by lia)
  exact ⟨(a.fmod b).toNat, by omega, by omega⟩
theorem clean_spelled (w : Nat) (hw : w < 3) (way : Int) : cleaned (spelled (wordAt w) way) = wordAt w := by
  unfold spelled
  split
  · exact clean0 w hw
  split
  · obtain ⟨m, h, e⟩ := fmod_nat (way.fdiv 4) 10 (by decide)
    rw [show (way.fdiv 4).fmod 10 = ((m : Nat) : Int) from e]; exact clean1 w hw m h
  split
  · obtain ⟨m, h, e⟩ := fmod_nat (way.fdiv 4) 2 (by decide)
    rw [show (way.fdiv 4).fmod 2 = ((m : Nat) : Int) from e]; exact clean2 w hw m h
  · obtain ⟨m, h, e⟩ := fmod_nat (way.fdiv 4) 4 (by decide)
    rw [show (way.fdiv 4).fmod 4 = ((m : Nat) : Int) from e]; exact clean3 w hw m h
theorem word_chars : ∀ w < 3, (wordAt w).cps.toList.length ≤ 2 ∧ ∀ c ∈ (wordAt w).cps.toList, 97 ≤ c ∧ c ≤ 122 := by decide
theorem slen_of : ∀ f < 6, ∀ m < 9, 0 < f → slen ((1 + (m : Nat)) * 10 ^ (f - 1)) = (f : Nat) := by decide +kernel
noncomputable def lineOf (f m : Nat) : Option Int := if 0 < f then some ((1 + (m : Nat)) * 10 ^ (f - 1)) else none

theorem fits_line : ∀ f < 6, ∀ m < 9, 0 < f → (0 : Int) < (1 + (m : Nat)) * 10 ^ (f - 1) ∧ ((1 + ((m : Nat) : Int)) * 10 ^ (f - 1)).natAbs.log2 < 1920 ∧ (Str.ofString (toString ((1 + ((m : Nat) : Int)) * 10 ^ (f - 1)))).length ≤ 1000 := by decide +kernel
theorem bits9 : ∀ m < 9, Builtin.Int.intBits (1 + ((m : Nat) : Int)) ≤ 64 := by decide +kernel
theorem roomOf_eq (n : Int) (f m : Nat) (hf : (n.fdiv 3).fmod 6 = (f : Nat)) (hf6 : f < 6) (hm9 : m < 9) : widthOf (lineOf f m) ((n.fdiv 18).fmod 2 == 1) = roomOf n := by
  have ho := fmod_lt (n.fdiv 18) (b := 2) (by decide)
  unfold roomOf lineOf widthOf
  rw [hf]
  by_cases h0 : 0 < f
  · have hs := slen_of f hf6 m hm9 h0
    simp only [h0, if_true, hs]
    have hc : decide ((f : Int) > 0) = true := by simpa using h0
    rw [hc]
    generalize (n.fdiv 18).fmod 2 = o at ho
    have : o = 0 ∨ o = 1 := by lia
    rcases this with rfl | rfl
    · have e : ((0 : Int) == 1) = false := rfl
      rw [e, Bool.and_false]
      simp only [Bool.false_eq_true, if_false, if_true]
      split <;> split <;> lia
    · have e : ((1 : Int) == 1) = true := rfl
      rw [e, Bool.and_true]
      by_cases h3 : (f : Int) > 3
      · simp only [h3, if_true]
        have : decide ((f : Int) < 4) = false := by simpa using (by lia : ¬ ((f : Int) < 4))
        rw [this]; simp only [Bool.false_eq_true, if_false]
        split <;> lia
      · simp only [h3, if_false]
        have : decide ((3 : Int) < 4) = true := rfl
        rw [this]; simp only [if_true]
        split <;> lia
  · have : f = 0 := by lia
    subst this
    rfl
theorem slen0 : ∀ w < 3, (sp0 (wordAt w)).cps.toList.length ≤ 10 := by decide +kernel
theorem slen1 : ∀ w < 3, ∀ m < 10, (sp1 (wordAt w) (m : Nat)).cps.toList.length ≤ 10 := by decide +kernel
theorem slen2 : ∀ w < 3, ∀ m < 2, (sp2 (wordAt w) (m : Nat)).cps.toList.length ≤ 10 := by decide +kernel
theorem slen3 : ∀ w < 3, ∀ m < 4, (sp3 (wordAt w) (m : Nat)).cps.toList.length ≤ 10 := by decide +kernel
theorem spelled_len (w : Nat) (hw : w < 3) (way : Int) : (spelled (wordAt w) way).cps.toList.length ≤ 10 := by
  unfold spelled
  split
  · exact slen0 w hw
  split
  · obtain ⟨m, h, e⟩ := fmod_nat (way.fdiv 4) 10 (by decide)
    rw [show (way.fdiv 4).fmod 10 = ((m : Nat) : Int) from e]; exact slen1 w hw m h
  split
  · obtain ⟨m, h, e⟩ := fmod_nat (way.fdiv 4) 2 (by decide)
    rw [show (way.fdiv 4).fmod 2 = ((m : Nat) : Int) from e]; exact slen2 w hw m h
  · obtain ⟨m, h, e⟩ := fmod_nat (way.fdiv 4) 4 (by decide)
    rw [show (way.fdiv 4).fmod 4 = ((m : Nat) : Int) from e]; exact slen3 w hw m h
theorem b3_len : ∀ c ∈ b3List, c.2.length ≤ 10 := by decide +kernel
theorem lookup_mem {α β : Type} [BEq α] [LawfulBEq α] : ∀ {l : List (α × β)} {a : α} {b : β}, l.lookup a = some b → (a, b) ∈ l
  | (x, y) :: l, a, b, h => by
    rw [List.lookup_cons] at h
    split at h
    · rename_i q; cases h; rw [beq_iff_eq.mp q]; exact .head _
    · exact .tail _ (lookup_mem h)
theorem map3_len (c : Nat) : (map3 c).length ≤ 10 := by
  unfold map3
  cases e : b3List.lookup (c : Int) with
  | some x => exact b3_len ((c : Int), x) (lookup_mem e)
  | none => exact Nat.le_trans (len_lower _) (by show 3 * 1 ≤ 10; decide)
noncomputable def rowOf (n : Int) : D := .tup [.str (wordAt (n.fmod 3).toNat), .int (roomOf n), .int ((n.fdiv 36).fmod 3)]
theorem word_get (w : Nat) (h : w < 3) : ([D.str "k", D.str "ss", D.str "st"] : List D)[w]? = some (.str (wordAt w)) := by
  match w, h with
  | 0, _ => rfl
  | 1, _ => rfl
  | 2, _ => rfl
theorem fn_row {C : Cx} (H : Has C) (n : Int) : Fn C 131 2 [.int n] (rowOf n) := by
  refine fn_pack H (i := 14) (c := 130) (names := ["number"]) (k := 1) (by decide) (fun pm vs h => by obtain ⟨v, rfl⟩ := List.length_eq_one_iff.mp h; rfl) (by decide) rfl (fun pm L x c m => by cases m) (fun pm L x m => by rcases List.mem_singleton.mp m with rfl; exact .inl rfl) fun pm A L h1 he => ?_
  have h0 : Rm A 0 := h1.le (by decide)
  have hw := fmod_lt n (b := 3) (by decide)
  have hw3 : (n.fmod 3).toNat < 3 := by omega
  obtain ⟨wl, wc⟩ := word_chars _ hw3
  obtain ⟨f, hf6, hf⟩ := fmod_nat (n.fdiv 3) 6 (by decide)
  obtain ⟨m, hm9, hm⟩ := fmod_nat (n.fdiv 108) 9 (by decide)
  replace hf : (n.fdiv 3).fmod 6 = (f : Nat) := hf
  replace hm : (n.fdiv 108).fmod 9 = (m : Nat) := hm
  have hcl := clean_spelled _ hw3 (n.fdiv 108)
  refine sts_cons (st_assign (d := .int (n.fdiv 108)) he (ev_bin h0 (ev_name he rfl) ev_int (bin_div (by decide) (np (by decide)))) (.inl rfl) ?_)
  refine sts_cons (st_assign (d := .str (spelled (wordAt (n.fmod 3).toNat) (n.fdiv 108))) he (ev_fcall H he (i := 13) (c := 125) (by decide) rfl (by rfl) (fn_spelled H _ _ wc wl) h1 (evl_cons (ev_sub h0 (ev_list (evl_cons ev_str (evl_cons ev_str (evl_cons ev_str evl_nil))) (by decide)) (ev_bin h0 (ev_name he rfl) ev_int (bin_mod (by decide))) (item_list hw.1 (word_get _ hw3) (by decide))) (evl_cons (ev_name he rfl) evl_nil))) (.inl rfl) ?_)
  have hxl := spelled_len _ hw3 (n.fdiv 108)
  generalize spelled (wordAt (n.fmod 3).toNat) (n.fdiv 108) = x at hcl hxl
  have hjoin : (((x.cps.toList.filter fun c => !in1 c).map map3).map fun x => x.length).sum + ((x.cps.toList.filter fun c => !in1 c).map map3).length * (("" : Str)).length ≤ 16777216 := by
    have h1 : (x.cps.toList.filter fun c => !in1 c).length ≤ 10 := Nat.le_trans (List.length_filter_le _ _) hxl
    have h2 : ∀ l : List Nat, ((l.map map3).map fun x => x.length).sum ≤ 10 * l.length := by
      intro l
      induction l with
      | nil => simp
      | cons a l ih =>
        have := map3_len a
        simp only [List.map_cons, List.sum_cons, List.length_cons]; lia
    have h3 := h2 (x.cps.toList.filter fun c => !in1 c)
    have h4 : (("" : Str)).length = 0 := rfl
    rw [h4]; lia
  refine sts_cons (st_assign (d := .str (wordAt (n.fmod 3).toNat)) he ?_ (.inl rfl) ?_)
  · rw [← hcl]
    refine ev_meth H.ok h0 ev_str (mth_str PySem.F.slot_str_join PySem.F.type_str_join) (evl_cons (d := .list (((x.cps.toList.filter fun c => !in1 c).map map3).map .str)) ?_ evl_nil) (bf_join hjoin)
    rw [List.map_map]
    refine ev_compT (as := x.cps.toList) chD dCh (fun c => !in1 c) (D.str ∘ map3) (fun c _ => dCh_chD c) he h0 (it_str h0 (ev_name he rfl)) rfl (by lia) (fun L' c hc he' => ?_) ?_
    · refine ⟨_, [], .name, ?_, trivial, ?_, fun _ => ?_⟩
      · intro q m; rcases List.mem_singleton.mp m with rfl; exact .inl rfl
      · exact tests_one (ts_not (ts_plain h0 (ev_fcall H he' (i := 9) (c := 74) (by decide) rfl (by rfl) (fn_in1 H c) h1 (evl_cons (ev_name he' rfl) evl_nil)) tru_bool))
      · exact ev_fcall H he' (i := 11) (c := 120) (by decide) rfl (by rfl) (fn_map3 H c) h1 (evl_cons (ev_name he' rfl) evl_nil)
    · intro L' x c m; cases m
  have hpow : ∀ f : Nat, f < 6 → 0 < f → ((10 : Int) ^ ((f : Int) - 1).toNat) = 10 ^ (f - 1) := fun f _ h => by
    have : ((f : Int) - 1).toNat = f - 1 := by lia
    rw [this]
  have ho := fmod_lt (n.fdiv 18) (b := 2) (by decide)
  have hro := roomOf_eq n f m hf hf6 hm9
  have hv : ∀ y, lineOf f m = some y → 0 < y ∧ y.natAbs.log2 < 1920 ∧ (Str.ofString (toString y)).length ≤ 1000 := fun y e => by
    unfold lineOf at e
    split at e
    · cases e; rename_i h; exact fits_line f hf6 m hm9 h
    · cases e
  -- the second line
  have second : ∀ σ : Sig, List.lookup (Str.ofString "number") σ = some (D.int n) → List.lookup (Str.ofString "name") σ = some (D.str (wordAt (n.fmod 3).toNat)) →
      Sts C A (callEnvC (fdOf pm (.ref 130) (stm 14)) L 131) σ [("lines", .dict (linesOf (lineOf f m) false))] ((bdOf (stm 14)).drop 6) (Ends (rowOf n)) := fun σ e1 e2 => by
    have last : ∀ (σ : Sig) odd, odd = ((n.fdiv 18).fmod 2 == 1) → List.lookup (Str.ofString "number") σ = some (D.int n) → List.lookup (Str.ofString "name") σ = some (D.str (wordAt (n.fmod 3).toNat)) →
        Sts C A (callEnvC (fdOf pm (.ref 130) (stm 14)) L 131) σ [("lines", .dict (linesOf (lineOf f m) odd))] ((bdOf (stm 14)).drop 7) (Ends (rowOf n)) := fun σ odd eo e1 e2 => by
      refine Sts.freezeD (x := "lines") (ds := linesOf (lineOf f m) odd) rfl ?_
      refine sts_cons (st_return (ev_tuple (evl_cons (ev_name he ?_) (evl_cons (ev_fcall H he (i := 6) (c := 56) (f := 57) (d := .int (roomOf n)) (by decide) rfl (by rfl) (by rw [← hro, ← eo]; exact fn_width H _ _ hv) h1 (evl_cons (ev_name he ?_) evl_nil)) (evl_cons (ev_bin h0 (ev_bin h0 (ev_name he ?_) ev_int (bin_div (by decide) (np (by decide)))) ev_int (bin_mod (by decide))) evl_nil))) (by simp)) rfl)
      · exact e2
      · rfl
      · exact e1
    have hk4 : linesOf (lineOf f m) false ++ [(4, D.none)] = linesOf (lineOf f m) true := by unfold linesOf; cases lineOf f m <;> rfl
    have hn4 : (4 : Int) ∉ (linesOf (lineOf f m) false).map (·.1) := by unfold linesOf; cases lineOf f m <;> simp
    have hl4 : (linesOf (lineOf f m) false).length ≤ 100 := by unfold linesOf; cases lineOf f m <;> simp
    refine sts_cons (st_if (c := (n.fdiv 18).fmod 2 == 1) (ts_cmp H.ok h0 (ev_bin h0 (ev_bin h0 (ev_name he e1) ev_int (bin_div (by decide) (np (by decide)))) ev_int (bin_mod (by decide))) ev_int cmp_eq) (fun h => ?_) (fun h => sts_nil (last σ false h.symm e1 e2)))
    refine sts_cons (st_setitem he (ks := linesOf (lineOf f m) false) rfl ev_none ev_int hn4 hl4 (sts_nil ?_))
    rw [hk4]
    exact last σ true h.symm e1 e2
  refine sts_cons (st_own he (evn_dict1 H.ok ev_int ev_int) (.inl rfl) ?_)
  refine sts_cons (st_assign (d := .int (f : Nat)) he (by rw [← hf]; exact ev_bin h0 (ev_bin h0 (ev_name he rfl) ev_int (bin_div (by decide) (np (by decide)))) ev_int (bin_mod (by decide))) (.inl rfl) ?_)
  by_cases hf0 : 0 < f
  · have hl : lineOf f m = some ((1 + (m : Int)) * 10 ^ (f - 1)) := by unfold lineOf; rw [if_pos hf0]
    have hc : decide ((f : Int) > 0) = true := by simpa using hf0
    refine sts_cons (st_if (c := true) (by rw [← hc]; exact ts_cmp H.ok h0 (ev_name he rfl) ev_int cmp_gt) (fun _ => ?_) (fun h => by cases h))
    refine sts_cons (st_setitem (d := .int ((1 + (m : Int)) * 10 ^ (f - 1))) he (ks := [(0, .int 0)]) rfl ?_ ev_int (by decide) (by decide) (sts_nil ?_))
    · rw [← hpow f hf6 hf0, ← hm]
      refine ev_bin h0 (ev_bin h0 ev_int (ev_bin h0 (ev_name he rfl) ev_int (bin_mod (by decide))) bin_add) (ev_bin h0 ev_int (ev_bin h0 (ev_name he rfl) ev_int bin_sub) (bin_pow (by lia) (by lia) (by decide))) (bin_mul (intMul_small ?_))
      rw [hm]; exact bits9 m hm9
    · rw [hl] at second
      exact second _ rfl rfl
  · have hf00 : f = 0 := by lia
    subst hf00
    refine sts_cons (st_if (c := false) (ts_cmp H.ok h0 (ev_name he rfl) ev_int (cmp_gt (a := ((0 : Nat) : Int)) (b := 0))) (fun h => by cases h) (fun _ => sts_nil ?_))
    exact second _ rfl rfl
end Zn
/-! part ZpA -/
namespace Zn
open PySem PySem.W PySem.Calls PyProof.Rows PySem.Spec PySem.SeqAt

theorem xor_add : ∀ (n x y : Nat), x ≤ n → (x ^^^ y) + 2 * (x &&& y) = x + y := by
  intro n
  induction n with
  | zero => intro x y h; obtain rfl : x = 0 := by lia
            simp
  | succ n ih =>
    intro x y h
    by_cases hx : x = 0
    · subst hx; simp
    have h1 := ih (x / 2) (y / 2) (by lia)
    have a1 := Nat.div_add_mod (x ^^^ y) 2
    have a2 := Nat.div_add_mod (x &&& y) 2
    have b1 : (x ^^^ y) / 2 = x / 2 ^^^ y / 2 := Nat.xor_div_two
    have b2 : (x &&& y) / 2 = x / 2 &&& y / 2 := Nat.and_div_two
    have c1 : (x ^^^ y) % 2 = (x + y) % 2 := by
      have : (x ^^^ y) % 2 = (x % 2) ^^^ (y % 2) := Nat.xor_mod_two_pow (n := 1)
      rw [this, Nat.add_mod]
      have hx := Nat.mod_two_eq_zero_or_one x
      have hy := Nat.mod_two_eq_zero_or_one y
      rcases hx with e | e <;> rcases hy with f | f <;> rw [e, f] <;> rfl
    have c2 : (x &&& y) % 2 = (x % 2) * (y % 2) := by
      have : (x &&& y) % 2 = (x % 2) &&& (y % 2) := Nat.and_mod_two_pow (n := 1)
      rw [this]
      have hx := Nat.mod_two_eq_zero_or_one x
      have hy := Nat.mod_two_eq_zero_or_one y
      rcases hx with e | e <;> rcases hy with f | f <;> rw [e, f] <;> rfl
    have hx := Nat.mod_two_eq_zero_or_one x
    have hy := Nat.mod_two_eq_zero_or_one y
    rcases hx with e | e <;> rcases hy with f | f <;> rw [e, f] at c2 <;> lia
theorem bitXor_nat (x y : Nat) : Builtin.bitXor (x : Int) (y : Int) = ((x ^^^ y : Nat) : Int) := by
  unfold Builtin.bitXor
  rw [bitOr_and, bitAnd_pp (by lia) (by lia)]
  have := xor_add x x y (Nat.le_refl _)
  simp only [Int.toNat_natCast]
  lia
theorem bitAnd_nat (x y : Nat) : Builtin.bitAnd (x : Int) (y : Int) = ((x &&& y : Nat) : Int) := by
  rw [bitAnd_pp (by lia) (by lia)]; simp
theorem and_pow (x i : Nat) : x &&& 2 ^ i = if x.testBit i then 2 ^ i else 0 := by
  refine Nat.eq_of_testBit_eq fun j => ?_
  rw [Nat.testBit_and, Nat.testBit_two_pow]
  by_cases h : i = j
  · subst h
    cases e : x.testBit i
    · simp
    · simp [Nat.testBit_two_pow]
  · have : decide (i = j) = false := by simpa using h
    rw [this, Bool.and_false]
    split
    · rw [Nat.testBit_two_pow, this]
    · simp
/-- the part from the place i on -/
noncomputable def high (F i : Nat) : Nat := F / 2 ^ i * 2 ^ i
theorem high_bit (F i : Nat) : (high F i).testBit i = F.testBit i := by
  unfold high
  rw [Nat.testBit_mul_two_pow, Nat.testBit_div_two_pow]; simp
theorem high_zero (F : Nat) : high F 0 = F := by simp [high]
theorem high_succ (F i : Nat) : high F (i + 1) = if F.testBit i then high F i ^^^ 2 ^ i else high F i := by
  have h := xor_add (high F i) (high F i) (2 ^ i) (Nat.le_refl _)
  rw [and_pow, high_bit] at h
  have hb : F.testBit i = decide (F / 2 ^ i % 2 = 1) := by rw [Nat.testBit_eq_decide_div_mod_eq]
  have hd : F / 2 ^ i / 2 = F / 2 ^ (i + 1) := by rw [Nat.div_div_eq_div_mul, Nat.pow_succ]
  have hm := Nat.div_add_mod (F / 2 ^ i) 2
  have key : F / 2 ^ i * 2 ^ i = F / 2 ^ (i + 1) * 2 ^ (i + 1) + (F / 2 ^ i % 2) * 2 ^ i := by
    rw [← hd, Nat.pow_succ, ← Nat.mul_assoc, Nat.mul_comm (F / 2 ^ i / 2 * 2 ^ i) 2, ← Nat.mul_assoc, ← Nat.add_mul, hm]
  have hmod := Nat.mod_two_eq_zero_or_one (F / 2 ^ i)
  cases hF : F.testBit i with
  | true =>
    rw [hF] at h hb
    have h1 : F / 2 ^ i % 2 = 1 := by simpa using hb.symm
    rw [h1, Nat.one_mul] at key
    simp only [if_true] at h ⊢
    unfold high at h ⊢
    lia
  | false =>
    rw [hF] at hb
    have h0 : F / 2 ^ i % 2 = 0 := by
      rcases hmod with e | e
      · exact e
      · rw [e] at hb; simp at hb
    rw [h0] at key
    simp only [Bool.false_eq_true, if_false]
    unfold high
    lia
theorem high_big {F : Nat} (h : F < 2 ^ 32) : high F 32 = 0 := by unfold high; rw [Nat.div_eq_of_lt h]
noncomputable def bitsTo (F i : Nat) : List Nat := (List.range i).filter F.testBit
theorem bitsTo_succ (F i : Nat) : bitsTo F (i + 1) = bitsTo F i ++ if F.testBit i then [i] else [] := by
  unfold bitsTo
  rw [List.range_succ, List.filter_append]
  congr 1
  rw [List.filter_cons]
  split <;> rfl
theorem bitsTo_high {F i : Nat} (h : high F i = 0) (k : Nat) : bitsTo F (i + k) = bitsTo F i := by
  induction k with
  | zero => rfl
  | succ k ih =>
    rw [← Nat.add_assoc, bitsTo_succ, ih]
    have : F.testBit (i + k) = false := by
      have h1 : F / 2 ^ i = 0 := by
        unfold high at h
        rcases Nat.mul_eq_zero.mp h with h | h
        · exact h
        · exact absurd h (Nat.pos_iff_ne_zero.mp (Nat.two_pow_pos i))
      have h2 : (F / 2 ^ i).testBit k = F.testBit (i + k) := by rw [Nat.testBit_div_two_pow, Nat.add_comm]
      rw [← h2, h1]; simp
    rw [this]; simp

theorem ixor_nat {x y : Nat} : ∀ (C : Cx) (A : Around) (g : View) (s : Shared) (v u : Value), Rm A 0 → Kp C.hB s.heap → Inc g s.heap → Rd g v (.int x) → Rd g u (.int y) → Gives C A g s (inplaceOp .BitXor v u) (.int ((x ^^^ y : Nat) : Int)) := fun C A g s v u hr _ inc a b => by
  obtain ⟨t, rfl⟩ := a.int_inv; obtain ⟨t', rfl⟩ := b.int_inv
  rw [← bitXor_nat]
  exact gives_int inc fun _ h => ixor_int h
theorem tru_int {i : Int} : Tru (.int i) (i != 0) := fun C A g s v E Q hr inc x k => by
  obtain ⟨t, rfl⟩ := x.int_inv
  exact PyProof.Rows.truthy_int (k s g (Stp.refl inc))
theorem look1 {α : Type} {x : Str} {d : α} {l : List (Str × α)} (h : l.lookup x = some d) : ∀ y e, [(x, d)].lookup y = some e → l.lookup y = some e := fun y e q => by
  by_cases z : y = x
  · subst z; simp [List.lookup] at q; subst q; exact h
  · simp [List.lookup, beq_eq_false_iff_ne.mpr z] at q
noncomputable def flagAt (p : Nat) : Str := match cfList.lookup ((2 ^ p : Nat) : Int) with
  | some x => x
  | none => baseText "0x" 16 ((2 ^ p : Nat) : Int)
theorem flagAt_word : ∀ p < 32, flagAt p = wordOf p := by decide +kernel
theorem hex_len : ∀ p < 32, (baseText "0x" 16 ((2 ^ p : Nat) : Int)).length ≤ 1000 := by decide +kernel
theorem fn_pretty {C : Cx} (H : Has C) (F : Nat) (hF : F < 2 ^ 32) : Fn C 50 1 [.int F] (.str (wordsOf (bitsTo F 32))) := by
  refine fn_pack H (i := 4) (c := 49) (names := ["flags"]) (k := 0) (by decide) (fun pm vs h => by obtain ⟨v, rfl⟩ := List.length_eq_one_iff.mp h; rfl) (by decide) rfl (fun pm L x c m => by cases m) (fun pm L x m => by rcases List.mem_singleton.mp m with rfl; exact .inl rfl) fun pm A L h0 he => ?_
  obtain ⟨f, hf, hl⟩ := H.cf
  have hin : ∀ i, ∀ p ∈ bitsTo F i, p < i := fun i p h => by simpa using (List.mem_filter.mp h).1
  have hlen : ∀ i, (bitsTo F i).length ≤ i := fun i => by
    have := List.length_filter_le F.testBit (List.range i)
    simpa [bitsTo] using this
  refine sts_cons (st_own he (evn_list evl_nil) (.inl rfl) ?_)
  -- the end: the names joined
  have fin : ∀ (σ : Sig) (l : List Str), l.length ≤ 40 → (l.map fun x => x.length).sum ≤ 2000 → Sts C A (callEnvC (fdOf pm (.ref 49) (stm 4)) L 50) σ [("names", .list (l.map .str))] ((bdOf (stm 4)).drop 2) (Ends (.str (Txt.join ", " l))) := fun σ l h1 h2 => by
    refine Sts.freeze (x := "names") (ds := l.map .str) rfl ?_
    refine sts_cons (st_return (ev_meth H.ok h0 ev_str (mth_str PySem.F.slot_str_join PySem.F.type_str_join) (evl_cons (ev_name he rfl) evl_nil) (bf_join ?_)) rfl)
    have : ((", " : Str)).length = 2 := rfl
    rw [this]; lia
  have wsum : ∀ i ≤ 32, (((bitsTo F i).map wordOf).map fun x => x.length).sum ≤ 30 * i := fun i hi => by
    have : ∀ l : List Nat, (∀ p ∈ l, p < 32) → ((l.map wordOf).map fun x => x.length).sum ≤ 30 * l.length := by
      intro l
      induction l with
      | nil => simp
      | cons a l ih =>
        intro h
        have h1 := lens a (h a (.head _))
        have h2 := ih fun p m => h p (.tail _ m)
        simp only [List.map_cons, List.sum_cons, List.length_cons]; lia
    have h1 := this (bitsTo F i) fun p m => Nat.lt_of_lt_of_le (hin i p m) hi
    have h2 := hlen i
    lia
  have wl : ∀ i ≤ 32, ((bitsTo F i).map wordOf).length ≤ 40 := fun i hi => by rw [List.length_map]; have := hlen i; lia
  show Sts C A _ [("flags", D.int ((F : Nat) : Int))] [("names", .list [])] _ _
  have e0 : ([("flags", D.int ((F : Nat) : Int))] : Sig) = ([("flags", D.int ((high F 0 : Nat) : Int))] : Sig) := by rw [high_zero]
  rw [e0]
  refine sts_cons (st_for (ds := seqI 0 32) (fun i => ([("flags", D.int ((high F i : Nat) : Int))], [("names", .list (((bitsTo F i).map wordOf).map .str))])) (fun i => i ≤ 32 ∧ (F = 0 ∨ high F i ≠ 0)) he h0
    (it_range h0 (ev_tcall H.ok he h0 rfl (H.miss _ (by decide)) (by decide +kernel) (evl_cons ev_int evl_nil) tf_range1) (by decide) (by decide)) rfl ⟨by decide, ?_⟩ (fun i d hP hd => ?_) (fun hP => ?_))
  · rw [high_zero]; exact Classical.em _
  · have hi : i < 32 := by have := (List.getElem?_eq_some_iff.mp hd).1; rwa [seqI_length] at this
    rw [seqI_get hi] at hd
    have hdi : d = .int (i : Nat) := by
      rw [← Option.some.inj hd]; congr 1; lia
    subst hdi
    refine ⟨_, .name, fun q m => by rcases List.mem_singleton.mp m with rfl; exact .inl rfl, fun q m => by rcases List.mem_singleton.mp m with rfl; rfl, ?_⟩
    have hshl : (1 : Int) * 2 ^ ((i : Nat) : Int).toNat = ((2 ^ i : Nat) : Int) := by rw [Int.toNat_natCast]; simp
    refine sts_cons (st_assign (d := .int ((2 ^ i : Nat) : Int)) he (by rw [← hshl]; exact ev_bin h0 ev_int (ev_name he rfl) (bin_shl (by lia) (by lia) (by decide))) (.inl rfl) ?_)
    have hand : (Builtin.bitAnd ((high F i : Nat) : Int) ((2 ^ i : Nat) : Int) != 0) = F.testBit i := by
      rw [bitAnd_nat, and_pow, high_bit]
      cases F.testBit i
      · rfl
      · have := Nat.two_pow_pos i
        simp only [if_true, bne_iff_ne, ne_eq]
        omega
    refine sts_cons (st_if (c := F.testBit i) (by rw [← hand]; exact ts_plain h0 (ev_bin h0 (ev_name he rfl) (ev_name he rfl) bin_and) tru_int) (fun hb => ?_) (fun hb => ?_))
    · have hbs := bitsTo_succ F i
      have hhs := high_succ F i
      rw [hb] at hbs hhs
      simp only [if_true] at hbs hhs
      have hc := hl ((2 ^ i : Nat) : Int)
      refine sts_cons (st_append (d := .str (flagAt i)) he (ds := ((bitsTo F i).map wordOf).map .str) rfl (evx_ev (ev_gget2 (i := ((2 ^ i : Nat) : Int)) (d2 := .str (baseText "0x" 16 ((2 ^ i : Nat) : Int))) H.ok he h0 rfl (H.glob _ _ (by rfl)) (by decide) hf (ev_name he rfl) (ev_bcall H.ok he h0 rfl (H.miss _ (by decide)) (by decide +kernel) (evl_cons (ev_name he rfl) evl_nil) (bf_hex (small_size (hex_len i hi)))) ?_)) rfl ?_ ?_)
      · unfold flagAt
        cases e : cfList.lookup ((2 ^ i : Nat) : Int) with
        | some x => rw [e] at hc; obtain ⟨t, ht⟩ := hc; rw [ht]; exact .str _ _
        | none => rw [e] at hc; rw [show f ((2 ^ i : Nat) : Int) = none from hc]
      · rw [List.length_map, List.length_map]; have := hlen i; lia
      refine sts_cons (st_aug (a := .int ((high F i : Nat) : Int)) (b := .int ((2 ^ i : Nat) : Int)) (d := .int ((high F (i + 1) : Nat) : Int)) he h0 rfl (ev_name he rfl) (by rw [hhs]; exact ixor_nat) ?_)
      have hnm : (((bitsTo F i).map wordOf).map D.str ++ [D.str (flagAt i)]) = ((bitsTo F (i + 1)).map wordOf).map D.str := by
        rw [hbs, List.map_append, List.map_append, flagAt_word i hi]; rfl
      rw [hnm]
      refine sts_cons (st_if (c := !(((high F (i + 1) : Nat) : Int) != 0)) (ts_not (ts_plain h0 (ev_name he rfl) tru_int)) (fun hz => ?_) (fun hz => ?_))
      · have hz' : high F (i + 1) = 0 := by simpa using hz
        have h32 : bitsTo F 32 = bitsTo F (i + 1) := by
          have := bitsTo_high hz' (32 - (i + 1))
          rwa [show i + 1 + (32 - (i + 1)) = 32 from by lia] at this
        refine sts_cons (st_break ?_)
        have := fin ([("flags", D.int ((high F (i + 1) : Nat) : Int))]) ((bitsTo F (i + 1)).map wordOf) (wl _ (by lia)) (by have := wsum (i + 1) (by lia); lia)
        have hw : wordsOf (bitsTo F 32) = Txt.join ", " ((bitsTo F (i + 1)).map wordOf) := by
          unfold wordsOf
          rw [h32, hbs, if_pos (by simp)]
        rw [hw]
        exact Sts.wk this (look1 rfl) (look1 rfl)
      · refine sts_nil (sts_nil (sts_nil ⟨⟨by lia, .inr ?_⟩, look1 rfl, look1 rfl⟩))
        intro q; rw [q] at hz; simp at hz
    · have hbs := bitsTo_succ F i
      have hhs := high_succ F i
      rw [hb] at hbs hhs
      simp only [Bool.false_eq_true, if_false, List.append_nil] at hbs hhs
      refine sts_nil (sts_nil ⟨⟨by lia, ?_⟩, ?_, ?_⟩)
      · rw [hhs]; exact hP.2
      · rw [hhs]; exact look1 rfl
      · rw [hbs]; exact look1 rfl
  · rw [seqI_length] at hP ⊢
    have hF0 : F = 0 := by
      rcases hP.2 with h | h
      · exact h
      · exact absurd (high_big hF) h
    subst hF0
    refine sts_cons (st_append (d := .str "0x0") he (ds := []) rfl (evx_ev (ev_bcall H.ok he h0 rfl (H.miss _ (by decide)) (by decide +kernel) (evl_cons (ev_name he rfl) evl_nil) (bf_hex (a := 0) (by decide)))) rfl (by decide) (sts_nil ?_))
    exact fin _ ["0x0"] (by decide) (by decide)
end Zn
/-! part ZpB -/
namespace Zn
open PySem PySem.W PySem.Calls PyProof.Rows PySem.Spec PySem.SeqAt

/-! pairings -/
noncomputable abbrev Tab := List (List Int)
noncomputable def tabD (t : Tab) : D := .list (t.map fun r => .list (r.map .int))
noncomputable def ent (t : Tab) (i j : Nat) : Int := (t.getD i []).getD j 0
noncomputable def sgn : Nat → Int
  | 0 => 1
  | n + 1 => -sgn n
noncomputable def without (ps : List Nat) (k : Nat) : List Nat := (ps.drop 1).take (k - 1) ++ ps.drop (k + 1)
noncomputable def part (t : Tab) (f : List Nat → Int) (ps : List Nat) : Nat → Int
  | 0 => 0
  | i + 1 => part t f ps i + sgn i * ent t (ps.getD (i + 1) 0) (ps.getD 0 0) * f (without ps (i + 1))
noncomputable def pairN (t : Tab) : Nat → List Nat → Int
  | 0, _ => 1
  | n + 1, ps => if ps = [] then 1 else part t (pairN t n) ps (ps.length - 1)
structure TabOk (t : Tab) (n : Nat) : Prop where
  len : t.length = n
  rows : ∀ r ∈ t, r.length = n
  small : ∀ i j, -3 ≤ ent t i j ∧ ent t i j ≤ 3
  few : n ≤ 900
theorem sgn_or (n : Nat) : sgn n = 1 ∨ sgn n = -1 := by
  induction n with
  | zero => exact .inl rfl
  | succ n ih => rcases ih with h | h <;> simp [sgn, h]
theorem bits3 {x : Int} (h : -3 ≤ x ∧ x ≤ 3) : Builtin.Int.intBits x ≤ 64 := by
  have : x = -3 ∨ x = -2 ∨ x = -1 ∨ x = 0 ∨ x = 1 ∨ x = 2 ∨ x = 3 := by lia
  rcases this with rfl | rfl | rfl | rfl | rfl | rfl | rfl <;> decide +kernel
theorem without_len {ps : List Nat} {k : Nat} (h1 : 1 ≤ k) (h2 : k < ps.length) : (without ps k).length = ps.length - 2 := by
  unfold without
  rw [List.length_append, List.length_take, List.length_drop, List.length_drop]
  lia
theorem without_mem {ps : List Nat} {k x : Nat} (h : x ∈ without ps k) : x ∈ ps := by
  unfold without at h
  rcases List.mem_append.mp h with h | h
  · exact List.mem_of_mem_drop (List.mem_of_mem_take h)
  · exact List.mem_of_mem_drop h
theorem item_place {ps : List Nat} {i : Nat} (h : i < ps.length) (hf : ps.length ≤ 900) : Item (.list (ps.map natD)) (.int (i : Nat)) (.int ((ps.getD i 0 : Nat) : Int)) :=
  item_list (by lia) (by rw [Int.toNat_natCast]; simp [List.getD, h, natD]) (by rw [List.length_map]; lia)
theorem sub_look {l l' : Sig} (h : ∀ p ∈ l, l'.lookup p.1 = some p.2) : ∀ x d, l.lookup x = some d → l'.lookup x = some d := fun x d e => h (x, d) (lookup_mem e)
theorem range_size (a b : Nat) : Builtin.Range.rangeSize ((a : Nat) : Int) ((b : Nat) : Int) 1 = ((b - a : Nat) : Int) := by
  rw [rangeSize_nat]; lia
theorem range_small {a b : Nat} (ha : a ≤ 1000) (hb : b ≤ 1000) : Builtin.Range.small ((a : Nat) : Int) ((b : Nat) : Int) 1 = true := by
  unfold Builtin.Range.small Builtin.Range.rangeFitsLong
  rw [range_size]
  simp only [Bool.and_eq_true, decide_eq_true_eq, Bool.or_eq_true, if_pos (show (1 : Int) > 0 by decide)]
  refine ⟨by omega, .inr (by lia)⟩
end Zn
/-! part ZpC -/
namespace Zn
open PySem PySem.W PySem.Calls PyProof.Rows PySem.Spec PySem.SeqAt
open Builtin.ObjectAttr

noncomputable def attrN : Str := Str.ofString "comp_select_list"
theorem obj_attr : typeLookup (.type "object") attrN = pure none := by unfold attrN; rw [typeLookup_type, builtinLookup_eq_fast]; kernel_rfl
theorem obj_compare : typeLookup (.type "object") (Str.ofString "compare") = pure none := by rw [typeLookup_type, builtinLookup_eq_fast]; kernel_rfl
/-- the making of an object -/
theorem make_inst {C : Cx} (hC : C.Ok) (K : Cls C) {A : Around} {g : View} {s : Shared} {v : Value} {d : D} (hr : Rm A 2) (b : Kp C.hB s.heap) (i : Inc g s.heap) (r : Rd g v d) : Gives C A g s (call (.ref 38) [v]) (.inst d) := by
  obtain ⟨N, mN, X, hi, hcm, hga, hgt, hst, hna⟩ := K.cls
  obtain ⟨oI, pm, hI, hIc, hId, hIr⟩ := K.ini
  obtain ⟨hh, gg, dd, tt, os⟩ := s
  have Xk := X.keeps b
  obtain ⟨nm, q, bs, sn, sub, col, dic, k0, k1, k2, k3, k5, hCo⟩ := Xk.obj
  refine wpAny_call_obj_init PySem.F.objNew hCo Xk.ns hi (b _ _ hI) hIc fun h' x dx Mk => ?_
  have kb : Kp C.hB h' := b.trans Mk.keeps
  refine wpAny_call (codeAny_call_cells (s := (⟨h', gg, dd, tt, os⟩ : Shared)) (R := fun r s' => match r with | .ok (.ret w) => w = .none ∧ ∃ g', Stp g ⟨hh, gg, dd, tt, os⟩ g' s' ∧ Rd g' (.ref x) (.inst d) | .ok _ => False | .error e => No e s') (binds := [(Str.ofString "self", .ref x), (attrN, v)]) ?_ (kb _ _ hI) hId (hC.nolimit.keeps kb) (let ⟨c, o, w, t, e, h, rr⟩ := hIr; ⟨c, o, w, t, e, kb _ _ h, rr⟩) rfl rfl rfl ?_ (fun s₁ y => ?_) rfl rfl rfl)
  · have := hr.dep
    show A.depth + 1 < 1000
    lia
  · intro z hz
    rcases List.mem_cons.mp hz with rfl | hz
    · exact .inl rfl
    rcases List.mem_singleton.mp hz with rfl; exact .inl rfl
  · generalize hL : h'.objs.size = L at y ⊢
    have hself : bindL (callEnvC (fdM "TupleComp.__init__" pm (.ref 27) (mst 0)) L 28).kindOf [(Str.ofString "self", .ref x), (attrN, v)] (fun _ => none) (Str.ofString "self") = some (.ref x) := rfl
    have harg : bindL (callEnvC (fdM "TupleComp.__init__" pm (.ref 27) (mst 0)) L 28).kindOf [(Str.ofString "self", .ref x), (attrN, v)] (fun _ => none) attrN = some v := rfl
    refine wpAny_bind (plainObj_wpAny_Assign_Attribute ?_)
    refine wpAny_Name (wpAny_loadName_local rfl rfl y.toInCall.ns harg ?_) rfl
    refine wpAny_Name (wpAny_loadName_local rfl rfl y.toInCall.ns hself ?_) rfl
    obtain ⟨h1, tk1, e1⟩ := y.toInCall.same
    have hk1 := y.toInCall.keep
    subst e1
    have kk : Kp C.hB h1 := kb.trans hk1
    have X1 := X.keeps kk
    obtain ⟨nm, q, bs, sn, sub, col, dic, k0, k1, k2, k3, k5, hCo1⟩ := X1.obj
    have hxC : x ≠ 38 := by
      rintro rfl
      have := Mk.newX
      rw [hCo] at this; cases this
    have Ix : h1.Inst x 38 fun _ => none := by
      obtain ⟨o, a1, a2, a3, a4⟩ := Mk.inst
      refine ⟨o, hk1 _ _ a1, a2, a3, ?_⟩
      rcases a4 with a4 | ⟨d', a5, a6, a7⟩
      · exact .inl a4
      · exact .inr ⟨d', a5, a6, a7.at fun o e => hk1 _ _ e⟩
    obtain ⟨ox, hx0, _⟩ := id Mk.inst
    have hdx := Mk.dict ox hx0
    have hx1 := hk1 _ _ hx0
    refine store_attr (name := attrN) PySem.F.store_object hCo1 X1.ns hst hna obj_attr hxC Ix (fun h2 tk2 I2 hk2 hsame => ?_) Within.nil (by decide)
    refine wpAny_pure ⟨rfl, ?_⟩
    obtain ⟨o2, b1, b2, b3, b4⟩ := I2
    obtain ⟨o1, c1, c2, c3, c4, c5⟩ := hsame ox hx1
    obtain rfl := Option.some.inj (c1.symm.trans b1)
    have hd2 := c5 dx hdx
    rcases b4 with ⟨b4, _⟩ | ⟨d', b5, b6, od, es, ep, b7, b8, b9, b10, b11⟩
    · rw [hd2] at b4; cases b4
    obtain rfl := Option.some.inj (hd2.symm.trans b5)
    have keep2 : Kp hh h2 := fun a o e => by
      have ax : a ≠ x := by rintro rfl; rw [Mk.newX] at e; cases e
      have ad : a ≠ dx := by rintro rfl; rw [Mk.newD] at e; cases e
      refine hk2 a o ax (fun o₀ d₀ e₀ ed => ?_) (hk1 _ _ (Mk.keeps _ _ e))
      obtain rfl := Option.some.inj (hx1.symm.trans e₀)
      obtain rfl := Option.some.inj (hdx.symm.trans ed)
      exact ad
    have S1 : Stp g ⟨hh, gg, dd, tt, os⟩ (put g x o1) ⟨h2, gg, dd, tk2, os⟩ := Stp.at (s := ⟨hh, gg, dd, tt, os⟩) i keep2 Mk.newX b1
    refine ⟨put (put g x o1) dx od, ⟨⟨h2, tk2, rfl⟩, keep2, S1.sub.trans fun a o e => ?_, fun a o e => ?_, fun a o e => ?_⟩, ?_⟩
    · by_cases q : a = dx
      · subst q
        have : put g x o1 a = none := by
          have ga : g a = none := by
            cases z : g a with
            | none => rfl
            | some o' => have := i _ _ z; rw [show hh.get? a = none from Mk.newD] at this; cases this
          simp [put, b6, ga]
        rw [this] at e; cases e
      · simp [put, q] at e ⊢; exact e
    · by_cases q : a = dx
      · subst q; rw [put_self] at e; cases e; exact b7
      · exact S1.inc a o (by simpa [put, q] using e)
    · by_cases q : a = dx
      · subst q; exact .inr Mk.newD
      · exact S1.fresh a o (by simpa [put, q] using e)
    · have gx : put (put g x o1) dx od x = some o1 := by simp [put, Ne.symm b6]
      have sb : Sub g (put (put g x o1) dx od) := fun a o e => by
        have ax : a ≠ x := by rintro rfl; have := i _ _ e; rw [show hh.get? a = none from Mk.newX] at this; cases this
        have ad : a ≠ dx := by rintro rfl; have := i _ _ e; rw [show hh.get? a = none from Mk.newD] at this; cases this
        simp [put, ax, ad, e]
      exact .inst gx b2 b3 hd2 b6 put_self (fun h e => ⟨od, es, ep, e, b8, b9, b10, b11⟩) (r.mono sb)
end Zn
/-! part ZpD -/
namespace Zn
open PySem PySem.W PySem.Calls PyProof.Rows PySem.Spec PySem.SeqAt

theorem inst_heap {g : View} {h : Heap} {v : Value} {d : D} (i : Inc g h) (r : Rd g v (.inst d)) : ∃ a u, v = .ref a ∧ h.Inst a 38 (fun y => if y = attrN then some u else none) ∧ Rd g u d := by
  cases r with
  | inst h1 h2 h3 h4 h5 h6 h7 h8 => exact ⟨_, _, rfl, ⟨_, i _ _ h1, h2, h3, .inr ⟨_, h4, h5, h7 h (i _ _ h6)⟩⟩, h8⟩
section
variable {C : Cx} {A : Around} {env : Env} {σ : Sig}
theorem ev_make {x : Str} {p pos : Pos} {e : Expr} {d : D} (H : Has C) (he : EnvOk env) (hr : Rm A 2) (hx : env.kindOf x = some .globalImplicit) (hg : globs.lookup x = some (.ref 38)) (ha : EvL C A env σ [e] [d])
    (hse : starEach [e] env = [(false, eval e env)] := by rfl) (hd : (x == ("__debug__" : Str)) = false := by decide) : Ev C A env σ (.Call (.Name x p) [e] [] pos) (.inst d) := .of fun g s pre => by
  obtain ⟨N, mN, X, _⟩ := H.cls.cls
  show wpAny _ _ (do callWith pos (← eval (.Name x p) env) [] (backTo pos (starEach [e] env)) (backToKw pos (keywordEach [] env))) _ _ s
  refine wpAny_bind (gname H.ok he hx (H.glob _ _ hg) pre hd ?_)
  refine callWith_cls X (wpAny_mono (ha.run pos g s pre) (fun vs s1 ⟨g1, k1, r1⟩ => ?_) no_imp) (by rw [hse]; rfl) rfl
  obtain ⟨v, rfl, r2⟩ := r1.one
  exact ⟨pre.base.trans k1.keep, (make_inst H.ok H.cls hr (pre.base.trans k1.keep) k1.inc r2).after k1⟩
/-- a field of an object -/
theorem ev_attr {x : Str} {xp pos : Pos} {ds : List D} (H : Has C) (h : Ev C A env σ (.Name x xp) (.inst (.tup ds)))
    (hev : eval (.Attribute (.Name x xp) attrN pos) env = (do
          let o ← eval (.Name x xp) env
          standAt pos.atName
          let r ← holding [o] (getAttr o attrN true)
          letTemporaryGo (.Name x xp) o r
          pure r) := by rfl) : Ev C A env σ (.Attribute (.Name x xp) attrN pos) (.tup ds) := .of fun g s pre => by
  obtain ⟨N, mN, X, hi, hcm, hga, hgt, hst, hna⟩ := H.cls.cls
  refine Attribute_Name_ (h.then pre fun v s1 g1 k1 p1 r1 => ?_) hev
  obtain ⟨a, u, rfl, I, ru⟩ := inst_heap p1.inc r1
  obtain ⟨hh, gg, dd, tt, os⟩ := s1
  have Xk := X.keeps p1.base
  obtain ⟨nm, q, bs, sn, sub, col, dic, k0, k2, k3, k4, k5, hCo⟩ := Xk.obj
  refine load_attr hCo Xk.ns hga hna obj_attr I (v := u) (by simp) ?_ ⟨g1, k1.tok _, ru⟩
  obtain ⟨t, vs, n, rfl, _⟩ := ru.tup_inv
  rfl
/-- a call of the method compare -/
theorem ev_compare {o : Expr} {apos pos : Pos} {pl : Sem Bool} {x y : Expr} {k : Nat} {d0 d1 d2 d : D} (H : Has C) (hr : Rm A k) (h0 : Ev C A env σ o (.inst d0)) (ha : EvL C A env σ [x, y] [d1, d2]) (hf : Fn C 35 k [.inst d0, d1, d2] d)
    (hev : eval (.Call (.Attribute o (Str.ofString "compare") apos) [x, y] [] pos) env = (do
      let ov ← eval o env
      standAt apos.atName
      let (f, first) ← holding [ov] (getMethod ov (Str.ofString "compare") pl)
      callWith pos f first (backTo pos (starEach [x, y] env)) []) := by rfl)
    (hse : starEach [x, y] env = (false, eval x env) :: starEach [y] env := by rfl) : Ev C A env σ (.Call (.Attribute o (Str.ofString "compare") apos) [x, y] [] pos) d := .of fun g s pre => by
  obtain ⟨N, mN, X, hi, hcm, hga, hgt, hst, hna⟩ := H.cls.cls
  obtain ⟨oI, pm, hI, hIc, hId, hIr⟩ := H.cls.cmp
  refine MethodCall_ (pl := pl) (h0.then pre fun v s1 g1 k1 p1 r1 => ?_) hev
  obtain ⟨a, u, rfl, I, ru⟩ := inst_heap p1.inc r1
  obtain ⟨hh, gg, dd, tt, os⟩ := s1
  have Xk := X.keeps p1.base
  obtain ⟨nm, q, bs, sn, sub, col, dic, k0, k2, k3, k4, k5, hCo⟩ := Xk.obj
  refine method_of hCo Xk.ns hga hgt hcm (p1.base _ _ hI) hIc obj_compare I (if_neg (by decide)) ?_
  refine callWith_meth (h₀ := C.hB) hId hI (wpAny_mono (ha.run pos g1 _ p1) (fun vs s2 ⟨g2, k2, r2⟩ => ?_) no_imp) hse
  have b2 : Kp C.hB s2.heap := p1.base.trans k2.keep
  exact ⟨b2, (hf.run A g2 s2 (.ref a :: vs) hr b2 k2.inc (.cons (r1.mono k2.sub) r2)).after (k1.trans k2)⟩
end

/-! the rows and how compare tells them -/
structure RowT where
  name : Str
  room : Int
  count : Int
noncomputable def rowT (r : RowT) : D := .tup [.str r.name, .int r.room, .int r.count]
noncomputable def ltR (x y : RowT) (c : Nat) : Bool := match c with
  | 0 => decide (x.name.cps.toList < y.name.cps.toList)
  | 1 => decide (x.room < y.room)
  | _ => decide (x.count < y.count)
noncomputable def colD (r : RowT) (c : Nat) : D := match c with
  | 0 => .str r.name
  | 1 => .int r.room
  | _ => .int r.count
theorem item_rowT {r : RowT} {c : Nat} (h : c < 3) : Item (rowT r) (.int (c : Nat)) (colD r c) := by
  match c, h with
  | 0, _ => exact item_tup (by decide) rfl (by simp)
  | 1, _ => exact item_tup (by decide) rfl (by simp)
  | 2, _ => exact item_tup (by decide) rfl (by simp)
theorem cmp_ltR {x y : RowT} {c : Nat} (h : c < 3) : Cmp .Lt (colD x c) (colD y c) (ltR x y c) := by
  match c, h with
  | 0, _ => exact cmp_ltS
  | 1, _ => exact cmp_lt
  | 2, _ => exact cmp_lt
theorem cmp_gtR {x y : RowT} {c : Nat} (h : c < 3) : Cmp .Gt (colD x c) (colD y c) (ltR y x c) := by
  match c, h with
  | 0, _ => exact cmp_gtS
  | 1, _ => exact cmp_gt
  | 2, _ => exact cmp_gt
noncomputable def cmpR (x y : RowT) : List Key → Int
  | [] => 0
  | k :: ks => if ltR x y k.1 then -k.2 else if ltR y x k.1 then k.2 else cmpR x y ks
theorem cmpR_drop (x y : RowT) : ∀ (ks : List Key) (i : Nat), (∀ j < i, ∀ k, ks[j]? = some k → ltR x y k.1 = false ∧ ltR y x k.1 = false) → cmpR x y ks = cmpR x y (ks.drop i)
  | ks, 0, _ => by simp
  | [], i + 1, _ => by simp
  | k :: ks, i + 1, h => by
    obtain ⟨h1, h2⟩ := h 0 (by lia) k rfl
    rw [List.drop_succ_cons, ← cmpR_drop x y ks i fun j hj k' e => h (j + 1) (by lia) k' (by simpa using e)]
    simp [cmpR, h1, h2]
theorem fn_compare {C : Cx} (H : Has C) (x y : RowT) (ks : List Key) (hk : ∀ p ∈ ks, p.1 < 3) (hks : ks.length ≤ 900) : Fn C 35 1 [.inst (.tup (ks.map keyD)), rowT x, rowT y] (.int (cmpR x y ks)) := by
  obtain ⟨o, pm, ho, hoc, hod, hoR⟩ := H.cls.cmp
  refine fn_of (names := ["self", "left", "right"]) (body := bdOf (mst 1)) H.ok ho hod hoR rfl (fun vs h => by obtain ⟨a, b, c, rfl⟩ := len3 h; rfl) rfl (by decide) rfl (fun L x c m => by cases m) (fun L x m => ?_) rfl rfl rfl fun A L h0 => ?_
  · rcases List.mem_cons.mp m with rfl | m
    · exact .inl rfl
    rcases List.mem_cons.mp m with rfl | m
    · exact .inl rfl
    rcases List.mem_singleton.mp m with rfl; exact .inl rfl
  have he : EnvOk (callEnvC (fdM "TupleComp.compare" pm (.ref 34) (mst 1)) L 35) := ⟨rfl, rfl, rfl⟩
  refine sts_cons (st_for (ds := ks.map keyD) (fun _ => ([("self", .inst (.tup (ks.map keyD))), ("left", rowT x), ("right", rowT y)], [])) (fun i => ∀ j < i, ∀ k, ks[j]? = some k → ltR x y k.1 = false ∧ ltR y x k.1 = false) he h0
    (it_tup h0 (ev_attr H (ev_name he rfl))) rfl (fun j h => absurd h (Nat.not_lt_zero _)) (fun i d hP hd => ?_) (fun hP => ?_))
  · obtain ⟨k, hk1, rfl⟩ : ∃ k, ks[i]? = some k ∧ keyD k = d := by simpa using hd
    have hk3 := hk k (List.mem_of_getElem? hk1)
    have hdrop := drop_cons_get hk1
    have hcmp := cmpR_drop x y ks i hP
    rw [hdrop] at hcmp
    refine ⟨_, .two (by decide), fun q m => ?_, fun q m => rfl, ?_⟩
    · rcases List.mem_cons.mp m with rfl | m
      · exact .inl rfl
      · rcases List.mem_singleton.mp m with rfl; exact .inl rfl
    refine sts_cons (st_assign (d := colD x k.1) he (ev_sub h0 (ev_name he rfl) (ev_name he rfl) (item_rowT hk3)) (.inl rfl) ?_)
    refine sts_cons (st_assign (d := colD y k.1) he (ev_sub h0 (ev_name he rfl) (ev_name he rfl) (item_rowT hk3)) (.inl rfl) ?_)
    refine sts_cons (st_if (c := ltR x y k.1) (ts_cmp H.ok h0 (ev_name he rfl) (ev_name he rfl) (cmp_ltR hk3)) (fun h1 => ?_) (fun h1 => sts_nil ?_))
    · rw [hcmp]
      refine sts_cons (st_return (d := .int (-k.2)) (ev_neg (ev_name he rfl)) ?_)
      show _ = _
      simp [cmpR, h1]
    refine sts_cons (st_if (c := ltR y x k.1) (ts_cmp H.ok h0 (ev_name he rfl) (ev_name he rfl) (cmp_gtR hk3)) (fun h2 => ?_) (fun h2 => sts_nil (sts_nil ⟨fun j hj k' e => ?_, ?_, fun x d e => by cases e⟩)))
    · rw [hcmp]
      refine sts_cons (st_return (d := .int k.2) (ev_name he rfl) ?_)
      show _ = _
      simp [cmpR, h1, h2]
    · by_cases q : j < i
      · exact hP j q k' e
      · obtain rfl : j = i := by lia
        rw [hk1] at e; cases e
        exact ⟨h1, h2⟩
    · refine sub_look fun p hp => ?_
      repeat (rcases List.mem_cons.mp hp with rfl | hp; · rfl)
      cases hp
  · rw [List.length_map] at hP
    have hcmp := cmpR_drop x y ks ks.length hP
    rw [List.drop_length] at hcmp
    rw [hcmp]
    exact sts_nil (sts_cons (st_return ev_int rfl))
end Zn
/-! part ZpE -/
namespace Zn
open PySem PySem.W PySem.Calls PyProof.Rows PySem.Spec PySem.SeqAt

/-! small sets of ints below 8 -/
noncomputable def tblZ (led : Bool) (ks : List Nat) : SetTable := { mask := 7, place := ks.toArray, dummies := #[], finger := 0, led, moves := 0, plain := true }
inductive EsOf : List (Int × Value) → List Nat → Prop
  | nil : EsOf [] []
  | cons (k : Nat) (t : Tok) {es : List (Int × Value)} {ks : List Nat} : EsOf es ks → EsOf (((k : Int), .int k t) :: es) (k :: ks)
theorem EsOf.length : ∀ {es ks}, EsOf es ks → es.length = ks.length := by
  intro es ks h
  induction h with
  | nil => rfl
  | cons _ _ r ih => rw [List.length_cons, List.length_cons, ih]
theorem EsOf.take : ∀ {es ks}, EsOf es ks → ∀ n, EsOf (es.take n) (ks.take n) := by
  intro es ks h
  induction h with
  | nil => intro n; simp; exact .nil
  | cons k t r ih =>
    intro n
    cases n with
    | zero => exact .nil
    | succ n => exact .cons k t (ih n)
theorem EsOf.drop : ∀ {es ks}, EsOf es ks → ∀ n, EsOf (es.drop n) (ks.drop n) := by
  intro es ks h
  induction h with
  | nil => intro n; simp; exact .nil
  | cons k t r ih =>
    intro n
    cases n with
    | zero => exact .cons k t r
    | succ n => exact ih n
theorem EsOf.append : ∀ {es ks fs ls}, EsOf es ks → EsOf fs ls → EsOf (es ++ fs) (ks ++ ls) := by
  intro es ks fs ls h h'
  induction h with
  | nil => exact h'
  | cons k t r ih => exact .cons k t ih
theorem EsOf.get : ∀ {es ks}, EsOf es ks → ∀ {i : Nat} {e}, es[i]? = some e → ∃ k t, ks[i]? = some k ∧ e = ((k : Int), .int k t) := by
  intro es ks hh
  induction hh with
  | nil => intro i e h; simp at h
  | cons k t r ih =>
    intro i e h
    cases i with
    | zero => simp at h; exact ⟨k, t, rfl, h.symm⟩
    | succ i => simpa using ih (by simpa using h)
theorem small_hash : ∀ k < 8, hashInt ((k : Nat) : Int) = (k : Nat) := by decide
theorem EsOf.elems {prog : Program} {w : World} : ∀ {es ks}, EsOf es ks → (∀ k ∈ ks, k < 8) → ElemsOf (intKind prog w) es := by
  intro es ks hh
  induction hh with
  | nil => exact fun _ e h => absurd h List.not_mem_nil
  | cons k t r ih =>
    intro hk e h
    rcases List.mem_cons.mp h with rfl | h
    · exact ⟨⟨(k : Nat), intKind_is _ _ _ _, (small_hash k (hk k (.head _))).symm⟩, rfl⟩
    · exact ih (fun x m => hk x (.tail _ m)) e h
/-- the set of the ints that a mask's bits tell -/
noncomputable def SetZ (w : World) (h : Heap) (a : Addr) (m : Nat) : Prop := ∃ es ep, h.get? a = some { cls := .type "set", dict := none, data := .set (List.toArray es) ep (tblZ (!w.params.followText "set-order") (bitsTo m 8)), slots := #[] } ∧ EsOf es (bitsTo m 8)
noncomputable def posIn (m k : Nat) : Nat := ((bitsTo m 8).filter (· < k)).length
theorem free_ok : ∀ led, ∀ m < 256, ∀ k < 8, m.testBit k = false → (tblZ led (bitsTo m 8)).freeSlot ((k : Nat) : Int) = some (k, false) := by decide +kernel
theorem ins_ok : ∀ m < 256, ∀ k < 8, m.testBit k = false → bitsTo (m ||| 2 ^ k) 8 = (bitsTo m 8).take (posIn m k) ++ k :: (bitsTo m 8).drop (posIn m k) := by decide +kernel
theorem below_pos : ∀ m < 256, ∀ k < 8, m.testBit k = false → SetTable.below (bitsTo m 8).toArray k = posIn m k := by decide +kernel
theorem put_ok (led : Bool) (m : Nat) (hm : m < 256) (k : Nat) (hk : k < 8) (hb : m.testBit k = false) : (tblZ led (bitsTo m 8)).put k = (tblZ led (bitsTo (m ||| 2 ^ k) 8), posIn m k) := by
  have h3 : SetTable.insertAt (bitsTo m 8).toArray (posIn m k) k = (bitsTo (m ||| 2 ^ k) 8).toArray := by
    rw [ins_ok m hm k hk hb]
    unfold SetTable.insertAt
    apply Array.toList_inj.mp
    simp [List.take_of_length_le]
  have h4 : SetTable.has #[] k = false := rfl
  unfold SetTable.put tblZ
  dsimp only
  rw [below_pos m hm k hk hb, h3, h4]
  rfl
theorem or_same : ∀ m < 256, ∀ k < 8, m.testBit k = true → m ||| 2 ^ k = m := by decide +kernel
theorem or_lt : ∀ m < 256, ∀ k < 8, m ||| 2 ^ k < 256 := by decide +kernel
theorem below_ok : ∀ m < 256, ∀ j ≤ (bitsTo m 8).length, SetTable.below (bitsTo m 8).toArray (if j = 0 then 0 else (bitsTo m 8).getD (j - 1) 0 + 1) = j := by decide +kernel
end Zn
/-! part ZpF -/
namespace Zn
open PySem PySem.W PySem.Calls PyProof.Rows PySem.Spec PySem.SeqAt

theorem bits8 {m : Nat} : ∀ k ∈ bitsTo m 8, k < 8 := fun k h => by simpa using (List.mem_filter.mp h).1
section
variable {prog : Program} {w : World} {A : Around} {E : Value → Shared → Prop} {s : Shared}
theorem tbl_fits {led : Bool} {m : Nat} {es : List (Int × Value)} (e : EsOf es (bitsTo m 8)) (h : (bitsTo m 8).length ≤ 7) : (tblZ led (bitsTo m 8)).fits es.toArray.size = true := by
  have := e.length
  simp [SetTable.fits, SetTable.fill, tblZ, this, h]
theorem setZ_add {a m k : Nat} {t : Tok} {Q : Bool → Shared → Prop} (hm : m < 256) (hk : k < 8) (hlen : (bitsTo (m ||| 2 ^ k) 8).length ≤ 4) (S : SetZ w s.heap a m)
    (h : ∀ b h', Heap.SameBut a s.heap h' → SetZ w h' a (m ||| 2 ^ k) → Q b { s with heap := h' }) : wpAny (model prog w) A (setAddHashed a (.int (k : Nat) t) (hashInt (k : Nat))) Q E s := by
  obtain ⟨es, ep, ho, he⟩ := S
  have hel : ElemsOf (intKind prog w) es := he.elems bits8
  have hlm : (bitsTo m 8).length ≤ 4 := by
    cases hb : m.testBit k with
    | true => rw [or_same m hm k hk hb] at hlen; exact hlen
    | false =>
      rw [ins_ok m hm k hk hb, List.length_append, List.length_cons, List.length_take, List.length_drop] at hlen
      omega
  have hsz : es.toArray.size = (bitsTo m 8).length := by rw [List.size_toArray, he.length]
  have hf := tbl_fits (led := !w.params.followText "set-order") he (by lia)
  have hb1 : es.toArray.size < scanBound := by rw [hsz]; have : scanBound = 4096 := rfl; lia
  unfold setAddHashed setAddHashedIn
  refine wpAny_holding (wpAny_bind (wpAny_setState_of ho rfl hf ?_))
  dsimp only
  rw [byScan_of (knd := intKind prog w) rfl hb1 (by simpa using hel)]
  simp only [↓reduceIte]
  unfold setAddByScan
  refine wpAny_bind ?_
  refine wpAny_bind (wpAny_rule ?_)
  refine wpAny_bind (wpAny_setScan_of (knd := intKind prog w) (k := ((k : Nat) : Int)) (intKind_is _ _ _ _) ho rfl hf (by simpa using hel) ?_)
  have hfind : ∀ {es : List (Int × Value)} {ks : List Nat}, EsOf es ks → (es.findIdx? fun e => (intKind prog w).is ((k : Nat) : Int) e.2).isSome = ks.contains k := by
    intro es ks r
    induction r with
    | nil => rfl
    | cons k' t' r ih =>
      rw [List.findIdx?_cons, List.contains_cons]
      by_cases q : k = k'
      · subst q; simp [intKind, Value.isInt]
      · have h1 : (intKind prog w).is ((k : Nat) : Int) (Value.int ((k' : Nat) : Int) t') = false := by
          simp only [intKind, Value.isInt, beq_eq_false_iff_ne]; lia
        have h2 : (k == k') = false := by simpa using q
        rw [h1, h2]; simpa using ih
  have hfi := hfind he
  have hcon : (bitsTo m 8).contains k = m.testBit k := by
    cases hb : m.testBit k with
    | true => exact List.contains_iff_mem.mpr (List.mem_filter.mpr ⟨by simpa using hk, hb⟩)
    | false =>
      cases hc : (bitsTo m 8).contains k with
      | false => rfl
      | true => have := (List.mem_filter.mp (List.contains_iff_mem.mp hc)).2; rw [hb] at this; cases this
  rw [hcon] at hfi
  dsimp only
  cases hr : es.findIdx? fun e => (intKind prog w).is ((k : Nat) : Int) e.2 with
  | some j =>
    rw [hr] at hfi
    have hb : m.testBit k = true := by simpa using hfi.symm
    refine wpAny_pure (wpAny_pure ?_)
    have e : s = { s with heap := s.heap } := by cases s; rfl
    rw [e]
    exact h _ s.heap (Heap.SameBut.refl a s.heap) (by rw [or_same m hm k hk hb]; exact ⟨es, ep, ho, he⟩)
  | none =>
    rw [hr] at hfi
    have hb : m.testBit k = false := by simpa using hfi.symm
    have hfr := free_ok (!w.params.followText "set-order") m hm k hk hb
    have hpt := put_ok (!w.params.followText "set-order") m hm k hk hb
    have hin := ins_ok m hm k hk hb
    have hsh := small_hash k hk
    have hE : EsOf (es.take (posIn m k) ++ (((k : Nat) : Int), Value.int ((k : Nat) : Int) t) :: es.drop (posIn m k)) (bitsTo (m ||| 2 ^ k) 8) := by
      rw [hin]; exact (he.take _).append (.cons k t (he.drop _))
    have hins : SetTable.insertAt es.toArray (posIn m k) (((k : Nat) : Int), Value.int ((k : Nat) : Int) t) = (es.take (posIn m k) ++ (((k : Nat) : Int), Value.int ((k : Nat) : Int) t) :: es.drop (posIn m k)).toArray := by
      unfold SetTable.insertAt
      apply Array.toList_inj.mp
      simp [List.take_of_length_le]
    have hfits2 := tbl_fits (led := !w.params.followText "set-order") hE (by lia)
    generalize hes : (es.take (posIn m k) ++ (((k : Nat) : Int), Value.int ((k : Nat) : Int) t) :: es.drop (posIn m k)) = es2 at hE hins hfits2
    have hlay : layNew (tblZ (!w.params.followText "set-order") (bitsTo m 8)) es.toArray (hashInt ((k : Nat) : Int)) (.int ((k : Nat) : Int) t) = (es2.toArray, tblZ (!w.params.followText "set-order") (bitsTo (m ||| 2 ^ k) 8), false, false) := by
      unfold layNew
      rw [hsh, hfr]
      dsimp only
      rw [hpt]
      dsimp only
      rw [hins]
      simp only [SetTable.orStandIn, hfits2, if_true, Bool.not_true]
    rw [hlay]
    dsimp only
    have hful : (tblZ (!w.params.followText "set-order") (bitsTo (m ||| 2 ^ k) 8)).tooFull = false := by
      simp only [SetTable.tooFull, SetTable.fill, tblZ, List.size_toArray]
      simp only [List.length_nil, Nat.add_zero, decide_eq_false_iff_not, ge_iff_le, Nat.not_le]
      lia
    refine wpAny_bind (wpAny_pure (wpAny_bind ?_))
    refine wpAny_pure (a := true) ?_
    simp only [if_true]
    refine wpAny_bind (wpAny_storeSet_of ho rfl ?_ (small_size (by rw [List.size_toArray, hE.length]; lia)))
    rw [if_neg (by rw [hful]; decide)]
    refine wpAny_pure (wpAny_pure (h _ _ (Heap.SameBut.update ..) ⟨es2, ep + 1, ?_, hE⟩))
    rw [Heap.get?_update_self _ ho (by rfl)]
    rfl
noncomputable def maskTo (f : Nat → Nat) : Nat → Nat
  | 0 => 0
  | i + 1 => maskTo f i ||| 2 ^ f i
theorem maskTo_lt {f : Nat → Nat} : ∀ i, (∀ j < i, f j < 8) → maskTo f i < 256
  | 0, _ => by show 0 < 256; decide
  | i + 1, h => or_lt _ (maskTo_lt i fun j hj => h j (Nat.lt_succ_of_lt hj)) _ (h i (Nat.lt_succ_self _))
theorem set_loopZ {A : Around} {R : Result → Shared → Prop} {I S : Addr} {fp wr : List Addr} {n : Nat} {P : Nat → Value → Prop} {St : Nat → Heap → Prop} (W : Walks prog w A.in1 I fp wr n P St) (hSf : S ∉ fp) (f : Nat → Nat) (hP : ∀ i v, P i v → ∃ t, v = .int (f i : Nat) t)
    (hf : ∀ i < n, f i < 8) (hl : ∀ i ≤ n, (bitsTo (maskTo f i) 8).length ≤ 4) :
    ∀ (k i : Nat) (s : Shared), n - i = k → i ≤ n → St i s.heap → SetZ w s.heap S (maskTo f i) →
      (∀ h' tk, (∀ b o, b ∉ wr → b ≠ S → s.heap.get? b = some o → h'.get? b = some o) → SetZ w h' S (maskTo f n) → R (.ok (.ret .none)) { s with heap := h', toks := tk }) →
      codeAny (model prog w) A (.builtin "set.update.loop" ⟨[.ref S, .ref I], []⟩) R s := by
  have hSw : S ∉ wr := fun h => hSf (W.sub _ h)
  intro k
  induction k with
  | zero =>
    intro i s hk hi hst hS hR
    have : i = n := by lia
    subst this
    refine codeAny_builtin F.entry_set_update_loop ?_
    rw [Around.under_plainId F.plain_set_update_loop _]
    show wpAny _ A.in1 (pyNext (.ref I) >>= _) _ _ s
    refine wpAny_bind (W.done s _ _ hst fun h' tk hk' => ?_)
    show wpAny _ A.in1 (ret Value.none) _ _ _
    obtain ⟨es, ep, ho, he⟩ := hS
    exact wpAny_pure (hR h' tk (fun b o hb _ e => hk' b o hb e) ⟨es, ep, hk' _ _ hSw ho, he⟩)
  | succ k ih =>
    intro i s hk hi hst hS hR
    have hlt : i < n := by omega
    refine codeAny_builtin F.entry_set_update_loop ?_
    rw [Around.under_plainId F.plain_set_update_loop _]
    show wpAny _ A.in1 (pyNext (.ref I) >>= _) _ _ s
    refine wpAny_bind (W.item i s _ _ hlt hst fun v h1 tk1 hP1 hst1 hk1 => ?_)
    obtain ⟨t, rfl⟩ := hP i v hP1
    obtain ⟨es, ep, ho, he⟩ := hS
    show wpAny _ A.in1 (holding [Value.int (f i : Nat) t] (setAdd S (.int (f i : Nat) t)) >>= _) _ _ _
    refine wpAny_bind (wpAny_holding ?_)
    unfold setAdd
    refine wpAny_holding ?_
    refine wpAny_bind ((intKind prog w).pyHash (k := ((f i : Nat) : Int)) (intKind_is _ _ _ _) ?_)
    refine setZ_add (s := { heap := h1, gens := s.gens, drawn := s.drawn, toks := tk1 + 1, os := s.os }) (maskTo_lt i fun j hj => hf j (by lia)) (hf i hlt) (hl (i + 1) hlt) ⟨es, ep, hk1 _ _ hSw ho, he⟩ fun b h2 hs2 hS2 => ?_
    refine wpAny_pure ⟨plainId_quiet F.plain_set_update_loop _, ih (i + 1) _ (by omega) hlt (W.frame _ _ _ hst1 fun b hb o e => ?_) hS2 fun h3 tk3 hk3 hS3 => ?_⟩
    · exact (hs2.2 b fun q => hSf (q ▸ hb)).trans e
    · exact hR h3 tk3 (fun b o hb hbS e => hk3 b o hb hbS ((hs2.2 b hbS).trans (hk1 b o hb e))) hS3
end
end Zn
/-! part ZpG -/
namespace Zs
open PySem Zn
section
variable {prog : Program} {w : World} {A : Around} {E : Value → Shared → Prop} {s : Shared}
theorem code_set_newZ (a : Value) {Q₁ : Value → Shared → Prop}
    (h : Q₁ (.ref s.heap.objs.size) { s with heap := s.heap.push { cls := .type "set", dict := none, data := .set #[] 0 (.fresh 0 0 (!w.params.followText "set-order")) } }) :
    codeAny (model prog w) A (.call (.builtin "set.__new__") ⟨[.type "set", a], []⟩) (wants Q₁ E) s := by
  refine codeAny_of_tree ?_
  show wpAny _ A.in1 (do checkBuiltinCall "set.__new__" ⟨[.type "set", a], []⟩; again (.builtin "set.__new__" ⟨[.type "set", a], []⟩)) _ _ s
  refine wpAny_bind (wpAny_of_eq (F.newCall_set_1 a) (wpAny_pure ⟨plainId_quiet F.plain_set_new _, codeAny_builtin F.entry_set_new ?_⟩))
  rw [Around.under_plainId F.plain_set_new _]
  unfold Builtin.«set.__new__» Builtin.Frozenset.newClass
  have hsub := sub_set_self
  obtain ⟨hp, g, d, tk, os⟩ := s
  dsimp only
  wp_walk
  refine wpAny_askSetting (wpAny_pure ?_)
  dsimp only
  simp only [newObj]
  refine wpAny_bind (wpAny_alloc (wpAny_pure ?_))
  exact wpAny_pure h

set_option maxHeartbeats 3200000 in
theorem call_setZ {l : Addr} {items : Array Value} {f : Nat → Nat} {Q : Value → Shared → Prop}
    (hh : A.handled = none) (hl : s.heap.IsList l items) (hi : ∀ (i : Nat) v, items[i]? = some v → ∃ t, v = .int (f i : Nat) t) (hf : ∀ i < items.size, f i < 8) (hlen : ∀ i ≤ items.size, (bitsTo (maskTo f i) 8).length ≤ 4)
    (h : ∀ (h' : Heap) (tk : Nat), SetZ w h' s.heap.objs.size (maskTo f items.size) → (∀ b o, s.heap.get? b = some o → h'.get? b = some o) → Q (.ref s.heap.objs.size) { s with heap := h', toks := tk }) :
    wpAny (model prog w) A (call (.type "set") [.ref l]) Q E s := by
  obtain ⟨c, tl, hmro⟩ := F.called_set.mro
  have hmade := F.called_set.made
  have hsub := F.called_set.sub
  refine wpAny_call (codeAny_of_tree ?_)
  show wpAny _ _ (callAny (.type "set") _) _ _ _
  refine wpAny_pure ⟨Code.quiet_builtin _ (by decide +kernel), codeAny_builtin F.entry_type_call ?_⟩
  rw [Around.under_plain (weight_type_call_type "set" [.ref l] []) rfl]
  have h1 := F.called_set.notType
  have h2 := F.called_set.canCreate
  have hct := F.typeCall_set_1 (.ref l)
  repeat (any_goals (first | assumption | wp_step))
  generalize hled : (!w.params.followText "set-order") = led at *
  refine codeAny_mono (code_set_newZ (.ref l) (E := E) (Q₁ := fun obj s₁ => obj = .ref s.heap.objs.size ∧ s₁ = { s with heap := s.heap.push { cls := .type "set", dict := none, data := .set #[] 0 (.fresh 0 0 led) } }) ⟨rfl, by rw [hled]⟩) fun r s₁ hr => ?_
  cases r with
  | error e => exact hr
  | ok fl =>
    cases fl with
    | ret obj =>
      obtain ⟨rfl, rfl⟩ := hr
      have hS : (s.heap.push { cls := .type "set", dict := none, data := .set #[] 0 (.fresh 0 0 led) }).get? s.heap.objs.size = some { cls := .type "set", dict := none, data := .set #[] 0 (.fresh 0 0 led) } := Heap.get?_push_size _ rfl
      have hT : Shared.TypeIs { s with heap := s.heap.push { cls := .type "set", dict := none, data := .set #[] 0 (.fresh 0 0 led) } } (.ref s.heap.objs.size) "set" := ⟨_, hS, rfl⟩
      have hli := F.called_set.init.lookup
      have hbi := F.called_set.init.bind (.ref s.heap.objs.size)
      repeat (any_goals (first | assumption | wp_step))
      refine codeAny_mono (codeAny_call_builtin (R := wants (fun r s₂ => r = .none ∧ ∃ h' tk, s₂ = { s with heap := h', toks := tk } ∧
          SetZ w h' s.heap.objs.size (maskTo f items.size) ∧ (∀ b o, s.heap.get? b = some o → h'.get? b = some o)) E) F.called_set.init.plain F.entry_set_init (check_set_init_1 hT ?_)) fun r₂ s₂ hr₂ => ?_
      · obtain ⟨ol, hol, hcl, nl, hdl⟩ := hl
        obtain ⟨ocls, odict, odata, oslots⟩ := ol
        simp only at hcl hdl
        subst hcl; subst hdl
        have hol' : (s.heap.push { cls := .type "set", dict := none, data := .set #[] 0 (.fresh 0 0 led) }).get? l = some { cls := .type "list", dict := odict, data := .seq items nl, slots := oslots } := Heap.get?_push_of_some _ hol
        have hsls := F.sub_list_set
        have hslf := F.sub_list_frozenset
        have hne : (Value.type "list" == Value.type "dict") = false := by decide
        have hl1 : (s.heap.push { cls := .type "set", dict := none, data := .set #[] 0 (.fresh 0 0 led) }).IsList l items := ⟨_, hol', rfl, nl, rfl⟩
        unfold Builtin.«set.__init__» noKeywords Builtin.Frozenset.updateFrom
        generalize hPI : pyIter = PI
        wp_walk
        subst hPI
        refine wpAny_pyIter_list hl1 ?_
        refine wpAny_bind (wpAny_runValue ?_)
        have hlS : l < s.heap.objs.size := Heap.lt_size hol
        have hh3 : A.in1.in1.in1.handled = none := by simp [hh]
        have hz : (s.heap.push { cls := .type "set", dict := none, data := .set #[] 0 (.fresh 0 0 led) }).objs.size = s.heap.objs.size + 1 := Heap.size_push ..
        have hneI : l ≠ (s.heap.push { cls := .type "set", dict := none, data := .set #[] 0 (.fresh 0 0 led) }).objs.size := by
          rw [hz]; exact Nat.ne_of_lt (Nat.lt_succ_of_lt hlS)
        have hSf : s.heap.objs.size ∉ [(s.heap.push { cls := .type "set", dict := none, data := .set #[] 0 (.fresh 0 0 led) }).objs.size, l] := by
          rw [hz]; simp only [List.mem_cons, List.mem_singleton, List.not_mem_nil, or_false, not_or]
          exact ⟨Nat.ne_of_lt (Nat.lt_succ_self _), Nat.ne_of_gt hlS⟩
        refine set_loopZ (Walks.list hh3 _ l hneI items) hSf f hi hf hlen (items.size - 0) 0 _ (by lia) (Nat.zero_le _) ⟨⟨_, Heap.get?_push_size _ rfl, rfl, rfl⟩, (hl1.push _)⟩ ?hS0 ?hR
        case hS0 =>
          have hb0 : bitsTo (maskTo f 0) 8 = [] := by show bitsTo 0 8 = []; decide +kernel
          refine ⟨[], 0, ?_, by rw [hb0]; exact .nil⟩
          rw [hled, hb0]
          exact Heap.get?_push_of_some _ hS
        case hR =>
          intro h' tk hk' hS'
          refine wpAny_pure ?_
          show wpAny _ _ (ret Value.none) _ _ _
          refine wpAny_pure ⟨rfl, h', tk, rfl, hS', fun b o e => ?_⟩
          have hb1 : b ≠ s.heap.objs.size := Nat.ne_of_lt (Heap.lt_size e)
          have hb2 : b ≠ (s.heap.push { cls := .type "set", dict := none, data := .set #[] 0 (.fresh 0 0 led) }).objs.size := by
            rw [hz]; exact Nat.ne_of_lt (Nat.lt_succ_of_lt (Heap.lt_size e))
          exact hk' b o (fun z => hb2 (List.mem_singleton.mp z)) hb1 (Heap.get?_push_of_some _ (Heap.get?_push_of_some _ e))
      · cases r₂ with
        | error e => exact hr₂
        | ok fl₂ =>
          cases fl₂ with
          | ret r =>
            obtain ⟨rfl, h', tk, rfl, hS', hk'⟩ := hr₂
            repeat (any_goals (first | assumption | wp_step))
            exact h _ _ hS' hk'
          | _ => exact hr₂.elim
    | _ => exact hr.elim
end
end Zs
/-! part ZpH -/
namespace Zn
open PySem PySem.W PySem.Calls PyProof.Rows PySem.Spec PySem.SeqAt
theorem erase_perm {α : Type} {l : List α} {i : Nat} (h : i < l.length) : (l[i] :: l.eraseIdx i).Perm l := by
  rw [List.eraseIdx_eq_take_drop_succ]
  have e : l = l.take i ++ l[i] :: l.drop (i + 1) := by rw [← List.drop_eq_getElem_cons h, List.take_append_drop]
  conv => rhs; rw [e]
  exact List.perm_middle.symm
theorem pick_go {α : Type} (next : Nat → Nat) : ∀ (fuel k : Nat) (left : List α) (out : Array α), left.length = fuel → (pickOrder.go next fuel k left out).toList.Perm (out.toList ++ left)
  | 0, k, left, out, h => by
    obtain rfl := List.eq_nil_of_length_eq_zero h
    simp [pickOrder.go]
  | fuel + 1, k, left, out, h => by
    have hpos : 0 < left.length := by lia
    have hlt : next k % left.length < left.length := Nat.mod_lt _ hpos
    unfold pickOrder.go
    rw [List.getElem?_eq_getElem hlt]
    dsimp only
    have ih := pick_go next fuel (k + 1) (left.eraseIdx (next k % left.length)) (out.push left[next k % left.length]) (by rw [List.length_eraseIdx_of_lt hlt]; lia)
    refine ih.trans ?_
    rw [Array.toList_push, List.append_assoc]
    refine List.Perm.append_left _ ?_
    exact erase_perm hlt
theorem pick_perm {α : Type} (next : Nat → Nat) (xs : Array α) : (pickOrder next xs).toList.Perm xs.toList := by
  unfold pickOrder
  have := pick_go next xs.size 0 xs.toList #[] (by simp)
  simpa using this
section
variable {prog : Program} {w : World} {A : Around} {E : Value → Shared → Prop} {s : Shared}
theorem entry_set_iter : entryFor table "set.__iter__" = some Builtin.«frozenset.__iter__» :=
  entryFor_alias (id' := "frozenset.__iter__") (by rw [fastTable_eq_tree]; kernel_rfl) (by first | rfl | decide +kernel | (unfold String.splitOn; simp +decide [String.splitOnAux])) (by decide +kernel) (by rw [fastTable_eq_tree]; kernel_rfl)
noncomputable def iterObj (first i a n ep : Nat) : Obj := { cls := .type "set_iterator", data := .fields #[rawInt first, rawInt i, .ref a, rawInt n, rawInt ep] }
noncomputable def setObj (led : Bool) (es : List (Int × Value)) (ep m : Nat) : Obj := { cls := .type "set", dict := none, data := .set es.toArray ep (tblZ led (bitsTo m 8)), slots := #[] }
theorem owner_set_iterator : Manifest.owners.lookup (String.ofList ['r', 'o', 't', 'a', 'r', 'e', 't', 'i', '_', 't', 'e', 's'].reverse) = some Manifest.sig_set_iterator := by kernel_rfl
theorem slot_set_iterator_next : Slot "set_iterator" "__next__" "set_iterator.__next__" :=
  .of (owner := "set_iterator") (n := "__next__") (by rw [typeLookup_type, builtinLookup_eq_fast]; kernel_rfl) (by decide +kernel) (by decide +kernel) (by decide +kernel)
    (by first | exact .inl (by decide +kernel) | exact .inr (by decide +kernel)) (by rw [isSubtype_type]; kernel_rfl)
theorem entry_set_iterator_next : entryFor table "set_iterator.__next__" = some Builtin.«set_iterator.__next__» := entryFor_of_tree (by kernel_rfl)
theorem args_set_iterator_next_1 (a : Value) : argsOk "set_iterator.__next__" ⟨[a], []⟩ := by
  unfold argsOk; rw [signature?_of (id := "set_iterator.__next__") (n := ['_', '_', 't', 'x', 'e', 'n', '_', '_']) (o := ['r', 'o', 't', 'a', 'r', 'e', 't', 'i', '_', 't', 'e', 's']) (by kernel_rfl) owner_set_iterator]; kernel_rfl
theorem wpAny_setsByText {Q : Bool → Shared → Prop} (h : Q (w.params.followText "set-order") s) : wpAny (model prog w) A setsByText Q E s := by
  unfold setsByText
  exact wpAny_bind (wpAny_askSetting (wpAny_pure h))
theorem iterZ {a m ep : Nat} {es : List (Int × Value)} {Q : Value → Shared → Prop} (ho : s.heap.get? a = some (setObj (!w.params.followText "set-order") es ep m)) (he : EsOf es (bitsTo m 8)) (hl : (bitsTo m 8).length ≤ 4)
    (h : Q (.ref s.heap.objs.size) { s with heap := s.heap.push (iterObj 0 0 a es.length ep) }) : wpAny (model prog w) A (pyIter (.ref a)) Q E s := by
  have hT : s.TypeIs (.ref a) "set" := ⟨_, ho, rfl⟩
  have hf := tbl_fits (led := !w.params.followText "set-order") he (by lia)
  have hz : es.toArray.size = es.length := List.size_toArray
  refine wpAny_pyIter_slot hT F.slot_set_iter (wpAny_call_entry F.slot_set_iter hT entry_set_iter ?_ (F.args_set_iter_1 _))
  unfold Builtin.«frozenset.__iter__» Builtin.Frozenset.slot0 slotArgs
  simp only [List.isEmpty_nil, Bool.not_true, Bool.false_eq_true, ↓reduceIte, bind_assoc, List.length_nil, bne_self_eq_false]
  unfold Builtin.Frozenset.addrOf Builtin.Frozenset.sizeOf setDrawn
  refine wpAny_bind (wpAny_pure ?_)
  try dsimp only
  refine wpAny_bind (wpAny_pure ?_)
  refine wpAny_bind (wpAny_bind (wpAny_setEntries_of ho rfl hf (wpAny_pure ?_)))
  refine wpAny_bind (wpAny_bind (wpAny_setState_of ho rfl hf (wpAny_bind (wpAny_setsByText (wpAny_pure ?_)))))
  rw [if_neg (by cases w.params.followText "set-order" <;> exact Bool.false_ne_true)]
  refine wpAny_bind (wpAny_pure (wpAny_bind (wpAny_setEpoch_of ho rfl hf ?_)))
  refine wpAny_bind (wpAny_newObj_type ?_ (by size_fits))
  rw [hz]
  exact wpAny_pure ⟨_, rfl, "set_iterator", _, ⟨_, Heap.get?_push_size _ rfl, rfl⟩, slot_set_iterator_next.lookup, h⟩
/-- the order in which a set gives its elements -/
noncomputable def ordZ (w : World) (a ep : Nat) (es : List (Int × Value)) : List (Int × Value) := if w.params.followText "set-order" = true then (pickOrder (w.params.setOrder a ep) es.toArray).toList else es
theorem ordZ_perm (w : World) (a ep : Nat) (es : List (Int × Value)) : (ordZ w a ep es).Perm es := by
  unfold ordZ
  split
  · simpa using pick_perm (w.params.setOrder a ep) es.toArray
  · exact List.Perm.refl _
noncomputable def firstZ (w : World) (m j : Nat) : Nat := if w.params.followText "set-order" = true then 0 else if j = 0 then 0 else (bitsTo m 8).getD (j - 1) 0 + 1
theorem setNextZ {a m ep j : Nat} {es : List (Int × Value)} {Q : Option (Value × Nat) → Shared → Prop} (hm : m < 256) (ho : s.heap.get? a = some (setObj (!w.params.followText "set-order") es ep m)) (he : EsOf es (bitsTo m 8)) (hl : (bitsTo m 8).length ≤ 4) (hj : j ≤ es.length)
    (h : Q ((ordZ w a ep es)[j]?.map fun e => (e.2, firstZ w m (j + 1))) s) : wpAny (model prog w) A (setNext a (firstZ w m j) j ep) Q E s := by
  have hf := tbl_fits (led := !w.params.followText "set-order") he (by lia)
  unfold setNext
  refine wpAny_bind (wpAny_setState_of ho rfl hf (wpAny_bind (wpAny_setsByText ?_)))
  unfold ordZ firstZ at h
  unfold firstZ
  cases hb : w.params.followText "set-order" with
  | true =>
    rw [hb] at h
    simp only [if_true] at h ⊢
    refine wpAny_ite ?_
    rw [if_neg (by simp)]
    refine wpAny_bind ?_
    unfold setWalk
    refine wpAny_bind (wpAny_setState_of ho rfl hf (wpAny_bind (wpAny_setsByText ?_)))
    rw [hb]
    simp only [if_true]
    refine wpAny_bind (wpAny_askSetting (wpAny_pure (wpAny_pure ?_)))
    rw [Array.getElem?_toList] at h
    exact h
  | false =>
    rw [hb] at h
    simp only [Bool.false_eq_true, if_false] at h ⊢
    rw [if_neg (by exact Bool.false_ne_true)]
    refine wpAny_bind (wpAny_of_eq (a := ()) rfl (wpAny_pure ?_))
    have hbl := below_ok m hm j (by rw [← he.length]; exact hj)
    show Q (match es.toArray[SetTable.below (bitsTo m 8).toArray (if j = 0 then 0 else (bitsTo m 8).getD (j - 1) 0 + 1)]?, (bitsTo m 8).toArray[SetTable.below (bitsTo m 8).toArray (if j = 0 then 0 else (bitsTo m 8).getD (j - 1) 0 + 1)]? with
      | some (_, x), some j => some (x, j + 1)
      | _, _ => none) s
    rw [hbl, List.getElem?_toArray, List.getElem?_toArray]
    simp only [Nat.add_sub_cancel, Nat.add_eq_zero_iff, Nat.succ_ne_self, and_false, if_false] at h
    cases hx : es[j]? with
    | none => rw [hx] at h; simpa using h
    | some e =>
      obtain ⟨k, t, hk, rfl⟩ := he.get hx
      rw [hx] at h
      rw [hk]
      simpa [List.getD, hk] using h
end
end Zn
/-! part ZpI -/
namespace Zn
open PySem PySem.W PySem.Calls PyProof.Rows PySem.Spec PySem.SeqAt
noncomputable def StZ (w : World) (I a m ep : Nat) (es : List (Int × Value)) (i : Nat) (h : Heap) : Prop :=
  (∃ o, h.get? I = some o ∧ o.cls = .type "set_iterator" ∧ o.data = .fields #[rawInt (firstZ w m i), rawInt i, .ref a, rawInt es.length, rawInt ep]) ∧ h.get? a = some (setObj (!w.params.followText "set-order") es ep m)
section
variable {prog : Program} {w : World} {A : Around} {E : Value → Shared → Prop} {s : Shared}
theorem slot_set_iterator_iter : Slot "set_iterator" "__iter__" "set_iterator.__iter__" :=
  .of (owner := "set_iterator") (n := "__iter__") (by rw [typeLookup_type, builtinLookup_eq_fast]; kernel_rfl) (by decide +kernel) (by decide +kernel) (by decide +kernel)
    (by first | exact .inl (by decide +kernel) | exact .inr (by decide +kernel)) (by rw [isSubtype_type]; kernel_rfl)
theorem entry_set_iterator_iter : entryFor table "set_iterator.__iter__" = some Builtin.«dict_keyiterator.__iter__» :=
  entryFor_alias (id' := "dict_keyiterator.__iter__") (by rw [fastTable_eq_tree]; kernel_rfl) (by first | rfl | decide +kernel | (unfold String.splitOn; simp +decide [String.splitOnAux])) (by decide +kernel) (by rw [fastTable_eq_tree]; kernel_rfl)
theorem args_set_iterator_iter_1 (a : Value) : argsOk "set_iterator.__iter__" ⟨[a], []⟩ := by
  unfold argsOk; rw [signature?_of (id := "set_iterator.__iter__") (n := ['_', '_', 'r', 'e', 't', 'i', '_', '_']) (o := ['r', 'o', 't', 'a', 'r', 'e', 't', 'i', '_', 't', 'e', 's']) (by kernel_rfl) owner_set_iterator]; kernel_rfl
theorem iter_selfZ {it : Addr} {Q : Value → Shared → Prop} (hT : s.TypeIs (.ref it) "set_iterator") (h : Q (.ref it) s) : wpAny (model prog w) A (pyIter (.ref it)) Q E s := by
  refine wpAny_pyIter_slot hT slot_set_iterator_iter (wpAny_call_entry slot_set_iterator_iter hT entry_set_iterator_iter ?_ (args_set_iterator_iter_1 _))
  show wpAny _ _ (ret (.ref it)) _ _ s
  exact wpAny_pure ⟨_, rfl, "set_iterator", _, hT, slot_set_iterator_next.lookup, h⟩
theorem nextZ_item {I a m ep i : Nat} {es : List (Int × Value)} {e : Int × Value} {Q : Option Value → Shared → Prop} (hm : m < 256) (he : EsOf es (bitsTo m 8)) (hl : (bitsTo m 8).length ≤ 4) (hne : a ≠ I)
    (st : StZ w I a m ep es i s.heap) (hx : (ordZ w a ep es)[i]? = some e) (hQ : ∀ h', StZ w I a m ep es (i + 1) h' → Heap.SameBut I s.heap h' → Q (some e.2) { s with heap := h' }) :
    wpAny (model prog w) A (pyNext (.ref I)) Q E s := by
  obtain ⟨⟨o, ho, hc, hd⟩, ha⟩ := id st
  have hT : s.TypeIs (.ref I) "set_iterator" := ⟨o, ho, hc⟩
  have hf := tbl_fits (led := !w.params.followText "set-order") he (by lia)
  have hi : i < es.length := by
    have := (List.getElem?_eq_some_iff.mp hx).1
    rwa [(ordZ_perm w a ep es).length_eq] at this
  unfold pyNext
  refine wpAny_bind (wpAny_attempt (wpAny_callSpecial?_slot (name := Str.ofString "__next__") hT slot_set_iterator_next
    (wpAny_call_entry slot_set_iterator_next hT entry_set_iterator_next ?_ (args_set_iterator_next_1 _))))
  show wpAny _ _ (fieldsOf (.ref I) >>= _) _ _ s
  refine wpAny_bind (wpAny_fieldsOf ho hd ?_)
  show wpAny _ _ (setEntries a >>= _) _ _ s
  refine wpAny_bind (wpAny_setEntries_of ha rfl hf ?_)
  rw [if_neg (by simp)]
  show wpAny _ _ (setNext a (firstZ w m i : Int).toNat (i : Int).toNat (ep : Int).toNat >>= _) _ _ s
  simp only [Int.toNat_natCast]
  refine wpAny_bind (setNextZ hm ha he hl (by lia) ?_)
  rw [hx]
  show wpAny _ _ (setField (.ref I) 0 _ >>= _) _ _ s
  refine wpAny_bind (wpAny_setField ho hd (by simp) ?_)
  have hd1 : (Obj.mapFields (fun vs => vs.set! 0 (rawInt (firstZ w m (i + 1)))) o).data = .fields #[rawInt (firstZ w m (i + 1)), rawInt i, .ref a, rawInt es.length, rawInt ep] := by rw [Obj.data_mapFields hd]; rfl
  have ho1 := Heap.get?_update_self (Obj.mapFields (fun vs => vs.set! 0 (rawInt (firstZ w m (i + 1))))) ho (Obj.isFreed_of_fields hd1)
  refine wpAny_bind (wpAny_setField ho1 hd1 (by simp) ?_)
  have hd2 : (Obj.mapFields (fun vs => vs.set! 1 (rawInt ((i : Int) + 1))) (Obj.mapFields (fun vs => vs.set! 0 (rawInt (firstZ w m (i + 1)))) o)).data = .fields #[rawInt (firstZ w m (i + 1)), rawInt ((i : Int) + 1), .ref a, rawInt es.length, rawInt ep] := by rw [Obj.data_mapFields hd1]; rfl
  refine wpAny_pure ⟨_, rfl, wpAny_pure (hQ _ ⟨⟨_, Heap.get?_update_self _ ho1 (Obj.isFreed_of_fields hd2), ?_, hd2⟩, ?_⟩ ?_)⟩
  · rw [Obj.cls_mapFields, Obj.cls_mapFields]; exact hc
  · rw [Heap.get?_update_other _ _ (Ne.symm hne), Heap.get?_update_other _ _ (Ne.symm hne)]; exact ha
  · exact (Heap.SameBut.update ..).trans (Heap.SameBut.update ..)
theorem nextZ_end {I a m ep : Nat} {es : List (Int × Value)} {Q : Option Value → Shared → Prop} (hh : A.handled = none) (hm : m < 256) (he : EsOf es (bitsTo m 8)) (hl : (bitsTo m 8).length ≤ 4) (hne : a ≠ I)
    (st : StZ w I a m ep es es.length s.heap) (hQ : ∀ h', Heap.ExtBut I s.heap h' → Q none { s with heap := h' }) :
    wpAny (model prog w) A (pyNext (.ref I)) Q E s := by
  obtain ⟨⟨o, ho, hc, hd⟩, ha⟩ := id st
  have hT : s.TypeIs (.ref I) "set_iterator" := ⟨o, ho, hc⟩
  have hf := tbl_fits (led := !w.params.followText "set-order") he (by lia)
  have hx : (ordZ w a ep es)[es.length]? = none := by rw [List.getElem?_eq_none_iff, (ordZ_perm w a ep es).length_eq]; exact Nat.le_refl _
  unfold pyNext
  refine wpAny_bind (wpAny_attempt (wpAny_callSpecial?_slot (name := Str.ofString "__next__") hT slot_set_iterator_next
    (wpAny_call_entry slot_set_iterator_next hT entry_set_iterator_next ?_ (args_set_iterator_next_1 _))))
  show wpAny _ _ (fieldsOf (.ref I) >>= _) _ _ s
  refine wpAny_bind (wpAny_fieldsOf ho hd ?_)
  show wpAny _ _ (setEntries a >>= _) _ _ s
  refine wpAny_bind (wpAny_setEntries_of ha rfl hf ?_)
  rw [if_neg (by simp)]
  show wpAny _ _ (setNext a (firstZ w m es.length : Int).toNat (es.length : Int).toNat (ep : Int).toNat >>= _) _ _ s
  simp only [Int.toNat_natCast]
  refine wpAny_bind (setNextZ hm ha he hl (Nat.le_refl _) ?_)
  rw [hx]
  show wpAny _ _ (setField (.ref I) 2 .none >>= _) _ _ s
  refine wpAny_bind (wpAny_setField ho hd (by simp) ?_)
  show wpAny _ _ (newExc (.type "StopIteration") [] >>= _) _ _ _
  refine wpAny_bind ?_
  simp only [newExc, newTuple]
  refine wpAny_bind (wpAny_newObj_type ?_ (by size_fits))
  refine wpAny_bind (m := firstArgMember _ _) (wpAny_of_eq (a := Value.none) (by first | rfl | (simp only [firstArgMember]; rfl)) ?_)
  refine wpAny_newObj_type ?_ (by size_fits)
  refine wpAny_raiseNew_none hh ?_
  refine wpAny_bind (wpAny_isInstance (T := "StopIteration") (b := true) ⟨_, Heap.get?_push_size _ rfl, rfl⟩ isSubtype_stop ?_)
  exact wpAny_pure (hQ _ (((Heap.SameBut.update ..).extBut.push _).push _))
theorem StZ.keep {I a m ep i : Nat} {es : List (Int × Value)} {h h' : Heap} (st : StZ w I a m ep es i h) (hk : ∀ b, b = I ∨ b = a → ∀ o, h.get? b = some o → h'.get? b = some o) : StZ w I a m ep es i h' :=
  let ⟨⟨o, ho, x⟩, ha⟩ := st
  ⟨⟨o, hk I (.inl rfl) o ho, x⟩, hk a (.inr rfl) _ ha⟩
theorem walksZ (hh : A.handled = none) {I a m ep : Nat} {es : List (Int × Value)} (hm : m < 256) (he : EsOf es (bitsTo m 8)) (hl : (bitsTo m 8).length ≤ 4) (hne : a ≠ I) :
    Walks prog w A I [I, a] [I] es.length (fun i v => ∃ e, (ordZ w a ep es)[i]? = some e ∧ v = e.2) (StZ w I a m ep es) where
  sub := fun b hb => by simp at hb; simp [hb]
  frame := fun i h h' st hk => st.keep fun b hb o e => hk b (by rcases hb with rfl | rfl <;> simp) o e
  item := fun i s Q E hi st hQ => by
    have : i < (ordZ w a ep es).length := by rw [(ordZ_perm w a ep es).length_eq]; exact hi
    refine nextZ_item hm he hl hne st (List.getElem?_eq_getElem this) fun h' st' hs => ?_
    exact hQ _ h' s.toks ⟨_, List.getElem?_eq_getElem this, rfl⟩ st' fun b o hb e => hs.extBut b o (fun h => hb (by simp [h])) e
  done := fun s Q E st hQ => nextZ_end hh hm he hl hne st fun h' he' => hQ h' s.toks fun b o hb e => he' b o (fun h => hb (by simp [h])) e
  self := fun i s Q E st hQ => by
    obtain ⟨⟨o, ho, hc, hd⟩, ha⟩ := st
    exact iter_selfZ ⟨o, ho, hc⟩ hQ
end
end Zn
/-! part ZpJ -/
namespace Zn
open PySem PySem.W PySem.Calls PyProof.Rows PySem.Spec PySem.SeqAt
section
variable {prog : Program} {w : World} {A : Around} {E : Value → Shared → Prop} {s : Shared}
theorem hintZ {r : Addr} {Q : Bool → Shared → Prop} (hT : s.TypeIs (.ref r) "set") (h : Q false s) : wpAny (model prog w) A (Builtin.List.listLengthHint (.ref r)) Q E s := by
  unfold Builtin.List.listLengthHint
  refine wpAny_bind (wpAny_specialOf hT PySem.F.slot_set_len.lookup ?_)
  generalize hid : ("set.__len__" : String) = id0
  wp_delta
  rw [show splitId id0 = some ("set", "__len__") from by subst hid; decide +kernel]
  subst hid
  refine wpAny_bind (wpAny_isInstance (T := "set") (b := true) hT (by rw [isSubtype_type]; kernel_rfl) ?_)
  refine wpAny_ite_split (fun hab => absurd hab (by decide)) (fun _ => ?_)
  refine wpAny_ite_split (fun _ => ?_) (fun hab => absurd (by decide +kernel) hab)
  refine wpAny_bind (wpAny_typeOf hT ?_)
  exact wpAny_pure h
theorem kdlZ {a m ep : Nat} {es : List (Int × Value)} (hm : m < 256) (he : EsOf es (bitsTo m 8)) (hl : (bitsTo m 8).length ≤ 4) :
    KdlSrc prog w "set" a a es.length (fun i v => ∃ e, (ordZ w a ep es)[i]? = some e ∧ v = e.2) (fun h => h.get? a = some (setObj (!w.params.followText "set-order") es ep m)) where
  type := fun _ hm => ⟨_, hm, rfl⟩
  there := fun _ hm => ⟨Heap.lt_size hm, Heap.lt_size hm⟩
  keep := fun _ _ hm hk => hk a (.inl rfl) _ hm
  notList := by decide
  notTuple := by decide
  hint := fun _ _ _ _ hm hq => hintZ ⟨_, hm, rfl⟩ hq
  iter := fun _ s hh ho => ⟨_, _, (fun _ _ hq => iterZ ho he hl hq), walksZ hh hm he hl (Nat.ne_of_lt (Heap.lt_size ho)), ⟨⟨_, Heap.get?_push_size _ rfl, rfl, by
    show Data.fields _ = Data.fields _
    have : firstZ w m 0 = 0 := by unfold firstZ; simp
    rw [this]⟩, Heap.get?_push_of_some _ ho⟩⟩
theorem codeZ {a m ep : Nat} {es : List (Int × Value)} {R : Result → Shared → Prop} (hh : A.handled = none) (hm : m < 256) (he : EsOf es (bitsTo m 8)) (hl : (bitsTo m 8).length ≤ 4)
    (ho : s.heap.get? a = some (setObj (!w.params.followText "set-order") es ep m))
    (h : ∀ h' tk acc c, (∀ b o, s.heap.get? b = some o → h'.get? b = some o) → h'.get? s.heap.objs.size = some { cls := .type "list", dict := none, data := .seq acc c, slots := #[] } → acc.toList = (ordZ w a ep es).map (·.2) → R (.ok (.ret (.ref s.heap.objs.size))) { s with heap := h', toks := tk }) :
    codeAny (model prog w) A (.builtin "proto.collect" ⟨[.ref a], []⟩) R s := by
  have hlt := Heap.lt_size ho
  refine codeAny_builtin F.entry_proto_collect ?_
  rw [Around.under_plainId F.plain_proto_collect _]
  show wpAny _ A.in1 (newList [] >>= fun l => again (.builtin "list.__iadd__" ⟨[l, .ref a], []⟩)) _ _ s
  refine wpAny_bind (wpAny_newObj_type ?_)
  refine wpAny_pure ⟨plainId_quiet F.plain_list_iadd _, codeAny_builtin F.entry_list_iadd ?_⟩
  rw [Around.under_plainId F.plain_list_iadd _]
  show wpAny _ A.in1 (Builtin.List.listExtendWith (.ref s.heap.objs.size) (.ref a) (.ref s.heap.objs.size)) _ _ _
  have hS0 : (s.heap.push { cls := .type "list", data := .seq ([] : List Value).toArray }).get? s.heap.objs.size = some { cls := .type "list", data := .seq #[] } := Heap.get?_push_size _ rfl
  refine kdl_extend (A := A) (R := R) (s := { s with heap := s.heap.push { cls := .type "list", data := .seq ([] : List Value).toArray } }) (kdlZ hm he hl) hh (Heap.get?_push_of_some _ ho) _ (Nat.ne_of_gt hlt) (Nat.ne_of_gt hlt) _ 0 hS0 (fun h' tk acc' c' hk hS hacc => ?_) (by rw [he.length, sizeLine_eq]; lia)
  have e : acc'.toList = (ordZ w a ep es).map (·.2) := by
    have hL : (ordZ w a ep es).length = es.length := (ordZ_perm w a ep es).length_eq
    apply List.ext_getElem?
    intro i
    rw [List.getElem?_map, Array.getElem?_toList]
    cases hx : acc'[i]? with
    | none =>
      rw [Array.getElem?_eq_none_iff, hacc.1] at hx
      rw [List.getElem?_eq_none (by lia)]
      rfl
    | some v =>
      obtain ⟨e, h1, h2⟩ := hacc.2 i v hx
      rw [h1, h2]; rfl
  exact h h' tk acc' c' (fun b o e => hk b o (Nat.ne_of_lt (Heap.lt_size e)) (Heap.get?_push_of_some _ e)) hS e
theorem collectZ {a m ep : Nat} {es : List (Int × Value)} {Q : List Value → Shared → Prop} (hh : A.handled = none) (hm : m < 256) (he : EsOf es (bitsTo m 8)) (hl : (bitsTo m 8).length ≤ 4)
    (ho : s.heap.get? a = some (setObj (!w.params.followText "set-order") es ep m))
    (h : ∀ h' tk, (∀ b o, s.heap.get? b = some o → h'.get? b = some o) → Q ((ordZ w a ep es).map (·.2)) { s with heap := h', toks := tk }) : wpAny (model prog w) A (collect (.ref a)) Q E s := by
  unfold collect
  refine wpAny_bind (wpAny_runValue (codeZ hh hm he hl ho fun h' tk acc c hk hS e => ?_))
  show wpAny _ A (load s.heap.objs.size >>= _) _ _ _
  refine wpAny_bind (wpAny_load hS ?_)
  show wpAny _ A (pure acc.toList) _ _ _
  rw [e]
  exact wpAny_pure (h h' tk hk)
theorem EsOf.ints : ∀ {es : List (Int × Value)} {ks : List Nat}, EsOf es ks → IntsAre (es.map (·.2)) (ks.map fun k : Nat => (k : Int)) := by
  intro es ks h
  induction h with
  | nil => exact .nil
  | cons k t r ih => exact .cons _ _ ih
theorem ints_perm {vs us : List Value} (h : us.Perm vs) : ∀ {ns : List Int}, IntsAre vs ns → ∃ ms, IntsAre us ms ∧ ms.Perm ns := by
  induction h with
  | nil => exact fun h => ⟨_, h, .refl _⟩
  | cons x _ ih =>
    intro ns h
    cases h with
    | cons n t r => obtain ⟨ms, h1, h2⟩ := ih r; exact ⟨_, .cons n t h1, h2.cons _⟩
  | swap x y l =>
    intro ns h
    cases h with
    | cons n t r => cases r with
      | cons n' t' r => exact ⟨_, .cons n' t' (.cons n t r), .swap _ _ _⟩
  | trans _ _ i1 i2 =>
    intro ns h
    obtain ⟨ms, h1, h2⟩ := i2 h
    obtain ⟨ls, h3, h4⟩ := i1 h1
    exact ⟨ls, h3, h4.trans h2⟩
theorem ordZ_ints {a m ep : Nat} {es : List (Int × Value)} (he : EsOf es (bitsTo m 8)) : ∃ ns, IntsAre ((ordZ w a ep es).map (·.2)) ns ∧ ns.Perm ((bitsTo m 8).map fun k : Nat => (k : Int)) := by
  have h := (ordZ_perm w a ep es).map (·.2)
  exact ints_perm h he.ints
theorem sortedZ_set {a m ep : Nat} {es : List (Int × Value)} {Q : Value → Shared → Prop} (hh : A.handled = none) (hm : m < 256) (he : EsOf es (bitsTo m 8)) (hl : (bitsTo m 8).length ≤ 4)
    (ho : s.heap.get? a = some (setObj (!w.params.followText "set-order") es ep m))
    (h : ∀ (r : Addr) (out : Array Value) (e : Nat) h' tk, IntsAre out.toList ((bitsTo m 8).map fun k : Nat => (k : Int)) → h'.get? r = some (seqObj "list" out e) → s.heap.get? r = none → (∀ b o, s.heap.get? b = some o → h'.get? b = some o) → Q (.ref r) { s with heap := h', toks := tk }) :
    wpAny (model prog w) A (call (.builtin "sorted") [.ref a]) Q E s := by
  obtain ⟨ns, hI, hp⟩ := ordZ_ints (w := w) (a := a) (ep := ep) he
  refine Calls.call_function_entry kind_sorted plain_sorted entry_sorted (args_sorted1 _) ?_
  unfold Builtin.«sorted»
  refine wpAny_bind (m := checkCount "sorted" 1 1 _) (wpAny_pure ?_)
  refine wpAny_bind (collectZ (by simpa using hh) hm he hl ho fun h' tk hk => ?_)
  generalize hvs : (ordZ w a ep es).map (·.2) = vs at hI
  have hlen : vs.length < 64 := by
    rw [← hvs, List.length_map, (ordZ_perm w a ep es).length_eq, he.length]; lia
  refine wpAny_bind (wpAny_newList ?_)
  have hoL : (h'.push (seqObj "list" vs.toArray 0)).get? h'.objs.size = some (seqObj "list" vs.toArray 0) := Heap.get?_push_size _ rfl
  refine wpAny_bind (wpAny_holding (wpAny_call_entry slot_list_sort ⟨_, hoL, rfl⟩ entry_list_sort (list_sort_tree hoL hI hlen fun out ns' a1 a2 a3 => ⟨_, rfl, ?_⟩) (args_list_sort _)))
  obtain ⟨e, h1⟩ := sortedHeap_at (vs := vs) (out := out) hoL
  have hnew : s.heap.get? h'.objs.size = none := by
    cases z : s.heap.get? h'.objs.size with
    | none => rfl
    | some o => exact absurd (Heap.lt_size (hk _ _ z)) (Nat.lt_irrefl _)
  refine wpAny_pure ⟨_, rfl, h h'.objs.size out e _ _ ?_ h1 hnew fun b o eb => ?_⟩
  rotate_left
  · have hb := Heap.lt_size (hk b o eb)
    rw [sortedHeap_old (Nat.ne_of_lt hb) (by rw [size_push']; exact Nat.lt_succ_of_lt hb)]
    exact Heap.get?_push_of_some _ (hk b o eb)
  have : ns' = (bitsTo m 8).map fun k : Nat => (k : Int) := by
    have hs : ((bitsTo m 8).map fun k : Nat => (k : Int)).Pairwise (· ≤ ·) := by
      rw [List.pairwise_map]
      exact ((List.pairwise_lt_range (n := 8)).filter _).imp fun h => by lia
    exact (a2.trans hp).eq_of_pairwise (fun x y _ _ h1 h2 => by lia) a3 hs
  rw [← this]; exact a1
end
end Zn
/-! part ZpK -/
namespace Zn
open Zs PySem PySem.W PySem.Calls PyProof.Rows PySem.Spec PySem.SeqAt
/-- the distinct numbers of a list of small numbers, in order -/
noncomputable def kindsOf (ns : List Nat) : List Nat := (List.range 8).filter (ns.contains ·)
theorem testBit_or_pow (a k j : Nat) : (a ||| 2 ^ k).testBit j = (a.testBit j || decide (k = j)) := by
  rw [Nat.testBit_or, Nat.testBit_two_pow]
theorem maskTo_bit (f : Nat → Nat) (j : Nat) : ∀ i, (maskTo f i).testBit j = (List.range i).any (fun x => f x == j)
  | 0 => by simp [maskTo]
  | i + 1 => by
    show (maskTo f i ||| 2 ^ f i).testBit j = _
    rw [testBit_or_pow, maskTo_bit f j i, List.range_succ, List.any_append]
    simp only [List.any_cons, List.any_nil, Bool.or_false]
    rfl
theorem bits_mask (ns : List Nat) : bitsTo (maskTo (fun i => ns.getD i 0) ns.length) 8 = kindsOf ns := by
  unfold bitsTo kindsOf
  apply List.filter_congr
  intro j _
  rw [maskTo_bit]
  apply Bool.eq_iff_iff.mpr
  rw [List.any_eq_true, List.contains_iff_mem]
  constructor
  · rintro ⟨i, hi, h⟩
    have hi' : i < ns.length := by simpa using hi
    have : ns[i] = j := by simpa [List.getD, hi'] using h
    rw [← this]; exact List.getElem_mem hi'
  · intro h
    obtain ⟨i, hi, e⟩ := List.mem_iff_getElem.mp h
    exact ⟨i, by simpa using hi, by simp [List.getD, hi, e]⟩
theorem bits_few {m : Nat} {K : List Nat} (h : ∀ j, m.testBit j = true → j ∈ K) (hK : K.length ≤ 4) : (bitsTo m 8).length ≤ 4 := by
  refine Nat.le_trans (List.Nodup.length_le_of_subset (l₂ := K) ?_ fun j hj => ?_) hK
  · exact (List.nodup_range (n := 8)).filter _
  · exact h j (List.mem_filter.mp hj).2
section
variable {C : Cx} {A : Around} {env : Env} {σ : Sig}
theorem ev_sortedset {p p2 pos pos2 : Pos} {e : Expr} {ns K : List Nat} (hC : C.Ok) (he : EnvOk env) (hr : Rm A 0) (hx : env.kindOf "sorted" = some .globalImplicit) (hm : C.mg "sorted" = none)
    (hx2 : env.kindOf "set" = some .globalImplicit) (hm2 : C.mg "set" = none) (hb : bootBuiltins "sorted" = some (.builtin "sorted")) (hb2 : bootBuiltins "set" = some (.type "set"))
    (h : Ev C A env σ e (.list (ns.map natD))) (h8 : ∀ n ∈ ns, n < 8) (hK : ∀ n ∈ ns, n ∈ K) (hKl : K.length ≤ 4)
    (hse : starEach [e] env = [(false, eval e env)] := by rfl) :
    Ev C A env σ (.Call (.Name "sorted" p) [.Call (.Name "set" p2) [e] [] pos2] [] pos) (.list ((kindsOf ns).map natD)) := .of fun g s pre => by
  show wpAny _ _ (do callWith pos (← eval (.Name "sorted" p) env) [] (backTo pos (starEach [.Call (.Name "set" p2) [e] [] pos2] env)) (backToKw pos (keywordEach [] env))) _ _ s
  refine wpAny_bind (Name_function_global he.kind hx (loadGlobal_builtin (by rw [he.globals]; exact hC.g.keeps pre.base) hm (by rw [he.builtins]; exact hC.b.keeps pre.base) ((hC.builtins _ (by decide)).trans hb) ?_) (by decide))
  refine callWith_builtin1 (rest := []) ?_ rfl rfl
  show wpAny _ _ (spliced [(false, eval (.Call (.Name "set" p2) [e] [] pos2) env)]) _ _ s
  refine spliced_cons ?_
  show wpAny _ _ (do callWith pos2 (← eval (.Name "set" p2) env) [] (backTo pos2 (starEach [e] env)) (backToKw pos2 (keywordEach [] env))) _ _ s
  refine wpAny_bind (Name_function_global he.kind hx2 (loadGlobal_builtin (by rw [he.globals]; exact hC.g.keeps pre.base) hm2 (by rw [he.builtins]; exact hC.b.keeps pre.base) ((hC.builtins _ (by decide)).trans hb2) ?_) (by decide))
  refine PyProof.Rows.callWith_type1 (rest := []) ?_ hse rfl
  rw [hse]
  show wpAny _ _ (spliced [(false, eval e env)]) _ _ s
  refine spliced_cons (h.then pre fun v s1 g1 k1 p1 r1 => spliced_nil ?_)
  obtain ⟨a, us, n, rfl, eu, ra⟩ := r1.list_inv
  have hl := ra.length
  rw [List.length_map] at hl
  have hP : ∀ (i : Nat) v, us.toArray[i]? = some v → ∃ t, v = .int ((ns.getD i 0 : Nat) : Int) t := fun i v hv => by
    obtain ⟨d, hd, rd⟩ := ra.get (by simpa using hv)
    have hi : i < ns.length := by have := (List.getElem?_eq_some_iff.mp hd).1; simpa using this
    have : d = .int ((ns.getD i 0 : Nat) : Int) := by
      have : (ns.map natD)[i]? = some (natD ns[i]) := by simp [hi]
      rw [this] at hd
      rw [← Option.some.inj hd]; simp [natD, List.getD, hi]
    subst this
    exact rd.int_inv
  have hg : ∀ i < ns.length, ns.getD i 0 ∈ ns := fun i hi => by simp [List.getD, hi]
  have hz : us.toArray.size = ns.length := by rw [List.size_toArray, hl]
  have hf8 : ∀ i < us.toArray.size, ns.getD i 0 < 8 := fun i hi => h8 _ (hg i (by lia))
  have hmask : ∀ i ≤ us.toArray.size, (bitsTo (maskTo (fun i => ns.getD i 0) i) 8).length ≤ 4 := fun i hi => by
    refine bits_few (K := K) (fun j hj => ?_) hKl
    rw [maskTo_bit, List.any_eq_true] at hj
    obtain ⟨x, hx, q⟩ := hj
    have hx' : x < i := by simpa using hx
    have q' : ns.getD x 0 = j := by simpa using q
    rw [← q']; exact hK _ (hg x (by lia))
  refine call_setZ (f := fun i => ns.getD i 0) hr.hd (isList_of p1.inc eu) hP hf8 hmask fun h2 tk2 hS hk2 => ?_
  obtain ⟨es, ep, ho, hes⟩ := hS
  have hm256 : maskTo (fun i => ns.getD i 0) us.toArray.size < 256 := maskTo_lt _ hf8
  have hm4 := hmask us.toArray.size (Nat.le_refl _)
  rw [hz] at hes ho hm256 hm4
  refine spliced_nil (sortedZ_set (s := { s1 with heap := h2, toks := tk2 }) hr.hd hm256 hes hm4 ho fun r out ee h3 tk3 hI hr3 hn3 hk3 => ?_)
  have kk : Kp s1.heap h3 := fun b o e => hk3 b o (hk2 b o e)
  have nn : s1.heap.get? r = none := by
    cases z : s1.heap.get? r with
    | none => rfl
    | some o => have := hk2 _ _ z; rw [show h2.get? r = none from hn3] at this; cases this
  have hout : out = out.toList.toArray := by simp
  rw [hout] at hr3
  refine ⟨_, k1.trans (Stp.at p1.inc kk nn hr3), .list put_self ?_⟩
  have := RdAll.ofInts (g := g1) hI
  rw [bits_mask, List.map_map] at this
  exact this.mono (sub_put p1.inc nn)
end
end Zn
/-! part ZpL -/
namespace Zn
open PySem PySem.W PySem.Calls PyProof.Rows PySem.Spec PySem.SeqAt

/-! a comprehension of two clauses -/
noncomputable def Vars (cenv : Env) (cs : List (Str × Addr)) (vm : Str → Option Value) (g : View) (ρ : Sig) : Prop := ∀ x d, ρ.lookup x = some d → Own cenv cs x ∧ ∃ v, vm x = some v ∧ Rd g v d
theorem Vars.mono {cenv : Env} {cs : List (Str × Addr)} {vm : Str → Option Value} {g g' : View} {ρ : Sig} (h : Vars cenv cs vm g ρ) (sb : Sub g g') : Vars cenv cs vm g' ρ := fun x d e => let ⟨o, v, a, r⟩ := h x d e; ⟨o, v, a, r.mono sb⟩
noncomputable def TL (ρ : Sig) (cenv : Env) (cs : List (Str × Addr)) (I D' : Addr) (g₂ : View) (s₄ : Shared) (L : List D) (g : View) (s' : Shared) : Prop :=
  ∃ h' tk' vm ys, s' = { s₄ with heap := h', toks := tk' } ∧ h'.PlainList D' (List.toArray ys) ∧ Fx cenv cs vm h' ∧ Sub g₂ g ∧ Inc g h' ∧ (∀ a o, g a = some o → g₂ a = some o ∨ s₄.heap.get? a = none) ∧
    RdAll g ys L ∧ (∀ a o, ¬ Mv cenv cs I D' a → s₄.heap.get? a = some o → h'.get? a = some o) ∧ (∀ a, Mv cenv cs I D' a → g a = none) ∧ Vars cenv cs vm g ρ
section
variable {C : Cx} {A : Around} {cenv : Env} {cs : List (Str × Addr)} {I D' : Addr} {g₂ g g' : View} {s₄ s s' : Shared} {L : List D} {ρ : Sig}
theorem TL.moved (ap : Apart cenv cs I D') (t : TL ρ cenv cs I D' g₂ s₄ L g s') {h'' : Heap} {tk'' : Nat} (k : ∀ b o, b ∉ [I] → s'.heap.get? b = some o → h''.get? b = some o) : TL ρ cenv cs I D' g₂ s₄ L g { s' with heap := h'', toks := tk'' } := by
  obtain ⟨h', tk', vm, ys, rfl, hl, fx, sb, inc, fr, ra, kp, gn, vr⟩ := t
  have ne : ∀ {b}, b ≠ I → b ∉ [I] := fun q m => q (List.mem_singleton.mp m)
  refine ⟨h'', tk'', vm, ys, rfl, hl.at fun o e => k _ o (ne (Ne.symm ap.id)) e, fx.keepBut fun a o m e => k a o (ne fun q => ap.fi (q ▸ m)) e, sb, fun a o e => k a o (ne fun q => ?_) (inc a o e), fr, ra, fun a o m e => k a o (ne fun q => m (.inr (.inl q))) (kp a o m e), gn, vr⟩
  rw [gn a (.inr (.inl q))] at e; cases e
theorem TL.none_of (t : TL ρ cenv cs I D' g₂ s₄ L g s) (hI : s.heap.get? I ≠ none) (k : Stp g s g' s') : ∀ a, Mv cenv cs I D' a → g' a = none := fun a m => by
  obtain ⟨h', tk', vm, ys, e', hl, fx, sb, inc, fr, ra, kp, gn, vr⟩ := t
  have e1 : s.heap = h' := congrArg Shared.heap e'
  cases q : g' a with
  | none => rfl
  | some oq =>
    rcases k.fresh a oq q with q | q
    · rw [gn a m] at q; cases q
    · exfalso
      rcases m with m | rfl | rfl
      · exact fx.has m (e1 ▸ q)
      · exact hI q
      · obtain ⟨_, e9⟩ := hl; rw [← e1] at e9; exact absurd (q.symm.trans e9) (by simp)
theorem TL.step (t : TL ρ cenv cs I D' g₂ s₄ L g s) (hI : s.heap.get? I ≠ none) (k : Stp g s g' s') : TL ρ cenv cs I D' g₂ s₄ L g' s' := by
  have gn' := t.none_of hI k
  obtain ⟨h', tk', vm, ys, e', hl, fx, sb, inc, fr, ra, kp, gn, vr⟩ := t
  have e1 : s.heap = h' := congrArg Shared.heap e'
  subst e1
  obtain ⟨ha, ta, ea⟩ := k.shape
  refine ⟨s'.heap, ta, vm, ys, by rw [ea, e'], hl.at (fun o e => k.keep _ o e), fx.keep k.keep, sb.trans k.sub, k.inc, fun a o e => ?_, ra.mono k.sub, fun a o m e => k.keep a o (kp a o m e), gn', vr.mono k.sub⟩
  rcases k.fresh a o e with q | q
  · exact fr a o q
  · by_cases m : Mv cenv cs I D' a
    · rw [gn' a m] at e; cases e
    · cases z : s₄.heap.get? a with
      | none => exact .inr rfl
      | some o' => have := kp a o' m z; rw [q] at this; cases this
theorem TL.less {τ : Sig} (t : TL (τ ++ ρ) cenv cs I D' g₂ s₄ L g s) (dis : ∀ x, ρ.lookup x ≠ none → τ.lookup x = none) : TL ρ cenv cs I D' g₂ s₄ L g s := by
  obtain ⟨h', tk', vm, ys, e', hl, fx, sb, inc, fr, ra, kp, gn, vr⟩ := t
  refine ⟨h', tk', vm, ys, e', hl, fx, sb, inc, fr, ra, kp, gn, fun x d e => vr x d ?_⟩
  have h0 := dis x (by rw [e]; simp)
  clear vr
  induction τ with
  | nil => exact e
  | cons q r ih =>
    obtain ⟨y, u⟩ := q
    simp only [List.cons_append, List.lookup] at h0 ⊢
    split at h0
    · cases h0
    · exact ih (fun z hz => by
        have := dis z hz
        simp only [List.lookup] at this
        split at this
        · cases this
        · exact this) h0
/-- the list takes one more -/
theorem TL.push (ap : Apart cenv cs I D') (t : TL ρ cenv cs I D' g₂ s₄ L g s) {v : Value} {d : D} (r : Rd g v d) (hl : L.length ≤ 1000) {Q : Value → Shared → Prop}
    (k : ∀ s' u, TL ρ cenv cs I D' g₂ s₄ (L ++ [d]) g s' → (∀ b o, b ≠ D' → s.heap.get? b = some o → s'.heap.get? b = some o) → Q u s') : wpAny C.M A (call (.builtin "list.append") [.ref D', v]) Q No s := by
  obtain ⟨h', tk', vm, ys, e', hp, fx, sb, inc, fr, ra, kp, gn, vr⟩ := t
  have e1 : s.heap = h' := congrArg Shared.heap e'
  subst e1
  refine wpAny_list_append_plain hp (fun h6 hl6 hs6 => ?_) (by rw [List.size_toArray, ra.length]; exact small_size hl)
  refine k _ _ ⟨h6, s.toks, vm, ys ++ [v], by rw [e'], by rw [← List.push_toArray]; exact hl6, fx.keepBut fun a o m e => (hs6.2 a fun q => ap.fd (q ▸ m)).trans e, sb, fun a o e => ?_, fr, ra.append (.cons r .nil), fun a o m e => (hs6.2 a fun q => m (.inr (.inr q))).trans (kp a o m e), gn, vr⟩ fun b o n e => (hs6.2 b n).trans e
  exact (hs6.2 a fun q => by rw [gn a (.inr (.inr q))] at e; cases e).trans (inc a o e)
noncomputable def Gd (p : D → Bool) (F : D → List D) (d : D) : List D := if p d then F d else []
theorem comp_goG {code : Code} {R : Result → Shared → Prop} {target : Expr} {ifs : List Expr} {act : Sem Unit} {fp : List Addr} {P : Nat → Value → Prop} {St : Nat → Heap → Prop} {ds L₀ : List D} {p : D → Bool} {F : D → List D}
    (hloop : ∀ (Iv : Nat → Shared → Prop), (∀ n s, Iv n s → wpAny C.M A (pyNext (.ref I)) (fun r s₁ => match r with
      | none => R (.ok .next) s₁
      | some v => wpAny C.M A (letOwnedTupleGo target (.ref I) v) (fun _ s₁' => wpAny C.M A (assign target cenv v) (fun _ s₂ =>
          wpAny C.M A (forIn ifs true fun c r => if r = true then do let ok ← PySem.isTrue c cenv (eval c cenv); pure (ForInStep.yield ok) else pure (ForInStep.yield r)) (fun ok s₃ =>
            if ok = true then wpAny C.M A act (fun _ s₅ => ∃ m, m < n ∧ Iv m s₅) No s₃
            else ∃ m, m < n ∧ Iv m s₃) No s₂) No s₁') No s₁) No s) → ∀ n s, Iv n s → codeAny C.M A code R s)
    (hr : Rm A 0) (hk : cenv.scope.kind = .function) (W : Walks C.prog C.w A I fp [I] ds.length P St) (st : St 0 s₄.heap) (hP : ∀ i v, P i v → ∃ d, ds[i]? = some d ∧ Rd g₂ v d)
    {T : String} (hT : owners.contains T = false) (hcls : ∀ i h, St i h → ∃ o, h.get? I = some o ∧ o.cls = .type T)
    (ap : Apart cenv cs I D') (hfp : ∀ b ∈ fp, ¬ Ft cenv cs b ∧ b ≠ D') (base : Kp C.hB s₄.heap) (hB : ∀ a o, C.hB.get? a = some o → ¬ Mv cenv cs I D' a)
    (start : TL ρ cenv cs I D' g₂ s₄ L₀ g₂ s₄)
    (turn : ∀ i d, ds[i]? = some d → ∃ τ κ, Tgt target d τ ∧ (∀ q ∈ τ, Own cenv cs q.1) ∧ (∀ x, ρ.lookup x ≠ none → τ.lookup x = none) ∧ (∀ h g, Inc g h → Sub g₂ g → (∀ a o, ¬ Mv cenv cs I D' a → s₄.heap.get? a = some o → h.get? a = some o) → Sees cenv h g κ) ∧ Tests C A cenv ((τ ++ ρ) ++ κ) ifs (p d) ∧
      (p d = true → ∀ g s, TL (τ ++ ρ) cenv cs I D' g₂ s₄ (L₀ ++ (ds.take i).flatMap (Gd p F)) g s → St (i + 1) s.heap → Pre C cenv ((τ ++ ρ) ++ κ) g s → wpAny C.M A act (fun _ s' => ∃ g', TL ρ cenv cs I D' g₂ s₄ (L₀ ++ (ds.take i).flatMap (Gd p F) ++ F d) g' s' ∧ St (i + 1) s'.heap) No s))
    (done : ∀ g s', TL ρ cenv cs I D' g₂ s₄ (L₀ ++ ds.flatMap (Gd p F)) g s' → R (.ok .next) s') :
    codeAny C.M A code R s₄ := by
  refine hloop (fun k s' => ∃ i, i ≤ ds.length ∧ k = ds.length + 1 - i ∧ St i s'.heap ∧ ∃ g, TL ρ cenv cs I D' g₂ s₄ (L₀ ++ (ds.take i).flatMap (Gd p F)) g s') ?_ (ds.length + 1) s₄ ⟨0, Nat.zero_le _, rfl, st, g₂, by simpa using start⟩
  rintro k s' ⟨i, hi, rfl, st', g, tu⟩
  by_cases hin : i < ds.length
  · refine W.item i s' _ _ hin st' fun v h1 tk1 hv st1 k1 => ?_
    have tu1 := tu.moved ap (tk'' := tk1) k1
    obtain ⟨o, ho, hoc⟩ := hcls _ _ st1
    refine go_cls (s := { s' with heap := h1, toks := tk1 }) ho hoc hT ?_
    obtain ⟨h', tk', vm', ys, e', hl', fx', sb, inc', fr, ra, kp, gn, vr⟩ := id tu1
    obtain ⟨d, hd, rd⟩ := hP i v hv
    obtain ⟨τ, κ, tg, own, dis, cap, tst, el⟩ := turn i d hd
    have e1 : h1 = h' := congrArg Shared.heap e'
    subst e1
    refine asg tg hr hk (s := { s' with heap := h1, toks := tk1 }) fx' own (rd.mono sb) inc' fun h2 tk2 vm2 fx2 k2 a2 b2 => ?_
    have kp2 : ∀ a o, ¬ Mv cenv cs I D' a → s₄.heap.get? a = some o → h2.get? a = some o := fun a o m e => k2 a o (fun q => m (.inl q)) (kp a o m e)
    have inc2 : Inc g h2 := fun a o e => k2 a o (fun q => by rw [gn a (.inl q)] at e; cases e) (inc' a o e)
    have shp : s' = { s₄ with heap := s'.heap, toks := s'.toks } := by
      obtain ⟨h9, t9, v9, y9, r9, _⟩ := tu
      rw [r9]
    have vr2 : Vars cenv cs vm2 g (τ ++ ρ) := fun x u e => by
      rcases lookup_app e with e | ⟨e0, e⟩
      · obtain ⟨w, ew, rw'⟩ := a2 x u e
        exact ⟨own _ (mem_of_lookup e), w, ew, rw'⟩
      · obtain ⟨o1, w, ew, rw'⟩ := vr x u e
        exact ⟨o1, w, (b2 x e0).trans ew, rw'⟩
    have tu2 : TL (τ ++ ρ) cenv cs I D' g₂ s₄ (L₀ ++ (ds.take i).flatMap (Gd p F)) g { s' with heap := h2, toks := tk2 } :=
      ⟨h2, tk2, vm2, ys, by rw [shp], plain_at hl' fun o e => k2 _ o ap.fd e, fx2, sb, inc2, fr, ra, kp2, gn, vr2⟩
    have pre : Pre C cenv ((τ ++ ρ) ++ κ) g { s' with heap := h2, toks := tk2 } := by
      refine ⟨fun a o e => kp2 a o (hB a o e) (base a o e), inc2, fun x u e => ?_⟩
      rcases lookup_app e with e | ⟨_, e⟩
      · obtain ⟨o1, w, ew, rw'⟩ := vr2 x u e
        exact ⟨w, fx2.var o1 ew, rw'⟩
      · exact cap h2 g inc2 sb kp2 x u e
    have st2 : St (i + 1) h2 := W.frame _ _ _ st1 fun b hb o e => k2 b o (hfp b hb).1 e
    have hI2 : h2.get? I ≠ none := by rw [k2 _ o ap.fi ho]; simp
    refine wpAny_mono (tst.run g _ pre) (fun ok s3 hok => ?_) no_imp
    obtain ⟨rfl, g3, k3⟩ := hok
    have hlt : ds.length + 1 - (i + 1) < ds.length + 1 - i := by lia
    have ra' : (ds.take (i + 1)).flatMap (Gd p F) = (ds.take i).flatMap (Gd p F) ++ Gd p F d := by
      rw [List.take_add_one, hd, List.flatMap_append]; simp
    have tu3 := tu2.step hI2 k3
    have st3 : St (i + 1) s3.heap := W.frame _ _ _ st2 fun b hb o e => k3.keep b o e
    cases hp : p d with
    | false =>
      simp only [Bool.false_eq_true, if_false]
      refine ⟨_, hlt, i + 1, hin, rfl, st3, g3, ?_⟩
      rw [ra', show Gd p F d = [] by simp [Gd, hp], List.append_nil]
      exact tu3.less dis
    | true =>
      simp only [if_true]
      refine wpAny_mono (el hp g3 s3 tu3 st3 (pre.step k3)) (fun _ s5 h5 => ?_) no_imp
      obtain ⟨g5, t5, st5⟩ := h5
      refine ⟨_, hlt, i + 1, hin, rfl, st5, g5, ?_⟩
      rw [ra', show Gd p F d = F d by simp [Gd, hp], ← List.append_assoc]
      exact t5
  · obtain rfl : i = ds.length := by lia
    refine W.done s' _ _ st' fun h1 tk1 k1 => ?_
    rw [List.take_length] at tu
    exact done _ _ (tu.moved ap k1)
end
end Zn
/-! part ZpM -/
namespace Zn
open PySem PySem.W PySem.Calls PyProof.Rows PySem.Spec PySem.SeqAt

/-! the two loops of a comprehension of two clauses -/
noncomputable abbrev two (elt t0 i0 t1 i1 : Expr) (ifs : List Expr) (scope : Scope) (pos : Pos) : Expr := .ListComp elt [⟨t0, i0, [], 0⟩, ⟨t1, i1, ifs, 0⟩] scope pos
noncomputable def actO (elt t0 i0 t1 i1 : Expr) (ifs : List Expr) (scope : Scope) (pos : Pos) (acc : Value) (env : Env) : Sem Unit := do
  let x ← eval i1 env
  standAt i1.pos
  let x ← foldedSetIterable i1 env x
  let _ ← runOwn (.compStart (two elt t0 i0 t1 i1 ifs scope pos) 1 (← holding [x] (pyIter x)) acc env) env
noncomputable def actI (elt : Expr) (acc : Value) (env : Env) : Sem Unit := do let _ ← call (.builtin "list.append") [acc, ← eval elt env]
theorem compTurn_out0 (elt t0 i0 t1 i1 : Expr) (ifs : List Expr) (scope : Scope) (pos : Pos) (it acc : Value) (env : Env) :
    compTurn (two elt t0 i0 t1 i1 ifs scope pos) 0 it acc env = (standAt i0.pos >>= fun _ => pyNext it >>= fun r => match r with
      | none => pure (.done .next)
      | some v =>
        letOwnedTupleGo t0 it v >>= fun _ => assign t0 env v >>= fun _ =>
        (forIn ([] : List Expr) true fun c r => if r = true then do let ok ← isTrue c env (eval c env); pure (ForInStep.yield ok) else pure (ForInStep.yield r)) >>= fun ok =>
        if ok = true then (eval i1 env >>= fun x => standAt i1.pos >>= fun _ => foldedSetIterable i1 env x >>= fun x =>
          holding [x] (pyIter x) >>= fun j => runOwn (.compStart (two elt t0 i0 t1 i1 ifs scope pos) 1 j acc env) env >>= fun _ =>
          again (.compLoop (two elt t0 i0 t1 i1 ifs scope pos) 0 it acc env))
        else again (.compLoop (two elt t0 i0 t1 i1 ifs scope pos) 0 it acc env)) := by rfl
theorem compTurn_out (elt t0 i0 t1 i1 : Expr) (ifs : List Expr) (scope : Scope) (pos : Pos) (it acc : Value) (env : Env) :
    compTurn (two elt t0 i0 t1 i1 ifs scope pos) 0 it acc env = (standAt i0.pos >>= fun _ => pyNext it >>= fun r => match r with
      | none => pure (.done .next)
      | some v =>
        letOwnedTupleGo t0 it v >>= fun _ => assign t0 env v >>= fun _ =>
        (forIn ([] : List Expr) true fun c r => if r = true then do let ok ← isTrue c env (eval c env); pure (ForInStep.yield ok) else pure (ForInStep.yield r)) >>= fun ok =>
        if ok = true then (actO elt t0 i0 t1 i1 ifs scope pos acc env >>= fun _ =>
          again (.compLoop (two elt t0 i0 t1 i1 ifs scope pos) 0 it acc env))
        else again (.compLoop (two elt t0 i0 t1 i1 ifs scope pos) 0 it acc env)) := by
  rw [compTurn_out0]
  unfold actO
  simp only [bind_assoc, pure_bind]
theorem compTurn_in (elt t0 i0 t1 i1 : Expr) (ifs : List Expr) (scope : Scope) (pos : Pos) (it acc : Value) (env : Env) :
    compTurn (two elt t0 i0 t1 i1 ifs scope pos) 1 it acc env = (do
      standAt i1.pos
      match ← pyNext it with
      | none => pure (.done .next)
      | some v =>
        letOwnedTupleGo t1 it v
        assign t1 env v
        let mut ok := true
        for c in ifs do
          if ok then ok ← isTrue c env (eval c env)
        if ok then actI elt acc env
        again (.compLoop (two elt t0 i0 t1 i1 ifs scope pos) 1 it acc env)) := by rfl
section
variable {C : Cx} {A : Around} {env : Env} {R : Result → Shared → Prop}
theorem loopO {elt t0 i0 t1 i1 : Expr} {ifs : List Expr} {scope : Scope} {pos : Pos} {it acc : Value} (Iv : Nat → Shared → Prop)
    (turn : ∀ n s, Iv n s → wpAny C.M A (pyNext it) (fun r s₁ => match r with
      | none => R (.ok .next) s₁
      | some v => wpAny C.M A (letOwnedTupleGo t0 it v) (fun _ s₁' => wpAny C.M A (assign t0 env v) (fun _ s₂ =>
          wpAny C.M A (forIn ([] : List Expr) true fun c r => if r = true then do let ok ← PySem.isTrue c env (eval c env); pure (ForInStep.yield ok) else pure (ForInStep.yield r)) (fun ok s₃ =>
            if ok = true then wpAny C.M A (actO elt t0 i0 t1 i1 ifs scope pos acc env) (fun _ s₅ => ∃ m, m < n ∧ Iv m s₅) No s₃
            else ∃ m, m < n ∧ Iv m s₃) No s₂) No s₁') No s₁) No s) (n : Nat) (s : Shared) (h : Iv n s) :
    codeAny C.M A (.compLoop (two elt t0 i0 t1 i1 ifs scope pos) 0 it acc env) R s := by
  refine codeAny_loop rfl Iv (fun n s hI => ?_) n h
  show wpAny _ A ((compTurn (two elt t0 i0 t1 i1 ifs scope pos) 0 it acc env).onRaise (fun x => do noteFrame x env; theTreesLotGoes x)) _ _ s
  refine wpAny_noted ?_
  rw [compTurn_out]
  refine wpAny_bind (wpAny_standAt (wpAny_bind (wpAny_mono (turn n s hI) (fun r s₁ h₁ => ?_) no_imp)))
  cases r with
  | none => exact wpAny_pure h₁
  | some v =>
    refine wpAny_bind (wpAny_mono h₁ (fun _ s₁' h₁' => ?_) no_imp)
    refine wpAny_bind (wpAny_mono h₁' (fun _ s₂ h₂ => wpAny_bind (wpAny_mono h₂ (fun ok s₃ h₃ => ?_) no_imp)) no_imp)
    cases ok with
    | false => exact wpAny_pure ⟨rfl, h₃⟩
    | true => exact wpAny_bind (wpAny_mono h₃ (fun _ s₅ h₅ => wpAny_pure ⟨rfl, h₅⟩) no_imp)
theorem loopI {elt t0 i0 t1 i1 : Expr} {ifs : List Expr} {scope : Scope} {pos : Pos} {it acc : Value} (Iv : Nat → Shared → Prop)
    (turn : ∀ n s, Iv n s → wpAny C.M A (pyNext it) (fun r s₁ => match r with
      | none => R (.ok .next) s₁
      | some v => wpAny C.M A (letOwnedTupleGo t1 it v) (fun _ s₁' => wpAny C.M A (assign t1 env v) (fun _ s₂ =>
          wpAny C.M A (forIn ifs true fun c r => if r = true then do let ok ← PySem.isTrue c env (eval c env); pure (ForInStep.yield ok) else pure (ForInStep.yield r)) (fun ok s₃ =>
            if ok = true then wpAny C.M A (actI elt acc env) (fun _ s₅ => ∃ m, m < n ∧ Iv m s₅) No s₃
            else ∃ m, m < n ∧ Iv m s₃) No s₂) No s₁') No s₁) No s) (n : Nat) (s : Shared) (h : Iv n s) :
    codeAny C.M A (.compLoop (two elt t0 i0 t1 i1 ifs scope pos) 1 it acc env) R s := by
  refine codeAny_loop rfl Iv (fun n s hI => ?_) n h
  show wpAny _ A ((compTurn (two elt t0 i0 t1 i1 ifs scope pos) 1 it acc env).onRaise (fun x => do noteFrame x env; theTreesLotGoes x)) _ _ s
  refine wpAny_noted ?_
  rw [compTurn_in]
  refine wpAny_bind (wpAny_standAt (wpAny_bind (wpAny_mono (turn n s hI) (fun r s₁ h₁ => ?_) no_imp)))
  cases r with
  | none => exact wpAny_pure h₁
  | some v =>
    refine wpAny_bind (wpAny_mono h₁ (fun _ s₁' h₁' => ?_) no_imp)
    refine wpAny_bind (wpAny_mono h₁' (fun _ s₂ h₂ => wpAny_bind (wpAny_mono h₂ (fun ok s₃ h₃ => ?_) no_imp)) no_imp)
    cases ok with
    | false => exact wpAny_pure ⟨rfl, h₃⟩
    | true => exact wpAny_bind (wpAny_mono h₃ (fun _ s₅ h₅ => wpAny_pure ⟨rfl, h₅⟩) no_imp)
theorem startI {elt t0 i0 t1 i1 : Expr} {ifs : List Expr} {scope : Scope} {pos : Pos} {it acc : Value} {s : Shared}
    (h0 : codeAny C.M A (.compLoop (two elt t0 i0 t1 i1 ifs scope pos) 1 it acc env) R s)
    (h : wpAny C.M A (pyIter it) (fun it' s' => codeAny C.M A (.compLoop (two elt t0 i0 t1 i1 ifs scope pos) 1 it' acc env) R s') No s) :
    codeAny C.M A (.compStart (two elt t0 i0 t1 i1 ifs scope pos) 1 it acc env) R s := by
  refine codeAny_of_tree ?_
  show wpAny _ _ ((compStart (two elt t0 i0 t1 i1 ifs scope pos) 1 it acc env).onRaise (fun x => do noteFrame x env; standAt theWindowsPlace)) _ _ s
  refine wpAny_notedAt ?_
  unfold compStart
  show wpAny _ _ (ask >>= _) _ _ s
  refine wpAny_bind (wpAny_askSetting (wpAny_ite ?_))
  split
  · first
      | exact wpAny_bind (wpAny_pure (wpAny_pure (And.intro rfl h0)))
      | exact wpAny_pure (And.intro rfl h0)
  · refine wpAny_bind (wpAny_rule ?_)
    show wpAny _ _ (standAt i1.pos >>= _) _ _ s
    exact wpAny_bind (wpAny_standAt (wpAny_bind (wpAny_mono h (fun it' s' h' => wpAny_pure (And.intro rfl h')) no_imp)))
end
section
variable {C : Cx} {A : Around} {cenv : Env} {cs : List (Str × Addr)} {I D' : Addr} {g₂ g : View} {s₄ s : Shared} {L : List D} {ρ : Sig}
/-- the inner loop, amid a turn of the outer one -/
theorem actO_run {elt t0 i0 t1 i1 : Expr} {ifs : List Expr} {scope : Scope} {pos : Pos} {St : Heap → Prop} {fp : List Addr} {es : List D} {p : D → Bool} {f : D → D} {κ : Sig}
    (hr : Rm A 0) (hk : cenv.scope.kind = .function) (ap : Apart cenv cs I D') (t : TL ρ cenv cs I D' g₂ s₄ L g s) (hI : s.heap.get? I ≠ none) (pre : Pre C cenv (ρ ++ κ) g s) (hB : ∀ a o, C.hB.get? a = some o → ¬ Mv cenv cs I D' a)
    (st : St s.heap) (hfp : ∀ b ∈ fp, (¬ Ft cenv cs b ∧ b ≠ D') ∧ s.heap.get? b ≠ none) (hfr : ∀ h h', St h → (∀ b ∈ fp, ∀ o, h.get? b = some o → h'.get? b = some o) → St h')
    (hκ : ∀ h g, Inc g h → Sub g₂ g → (∀ a o, ¬ Mv cenv cs I D' a → s₄.heap.get? a = some o → h.get? a = some o) → Sees cenv h g κ)
    (hi : It C A cenv (ρ ++ κ) i1 es) (hs : ∀ x, foldedSetIterable i1 cenv x = pure x) (hL : L.length + es.length ≤ 1000)
    (turn : ∀ d, d ∈ es → ∃ τ, Tgt t1 d τ ∧ (∀ q ∈ τ, Own cenv cs q.1) ∧ (∀ x, ρ.lookup x ≠ none → τ.lookup x = none) ∧ Tests C A cenv ((τ ++ ρ) ++ κ) ifs (p d) ∧ (p d = true → Ev C A cenv ((τ ++ ρ) ++ κ) elt (f d))) :
    wpAny C.M A (actO elt t0 i0 t1 i1 ifs scope pos (.ref D') cenv) (fun _ s' => ∃ g', TL ρ cenv cs I D' g₂ s₄ (L ++ es.flatMap (Gd p fun d => [f d])) g' s' ∧ St s'.heap) No s := by
  unfold actO
  refine wpAny_bind (wpAny_mono (hi.run g s pre) (fun x s1 h1 => ?_) no_imp)
  refine wpAny_bind (wpAny_standAt ?_)
  refine wpAny_bind (wpAny_of_eq (hs x) ?_)
  refine wpAny_bind (wpAny_holding (wpAny_mono h1 (fun it s2 h2 => ?_) no_imp))
  obtain ⟨g5, J, fpJ, P, StJ, rfl, k2, W, stJ, hP, hfpJ, gJ, sJ, T, hT, hcls⟩ := h2
  have t5 := t.step hI k2
  have st5 : St s2.heap := hfr _ _ st fun b _ o e => k2.keep b o e
  obtain ⟨h', tk', vm, ys, e', hl, fx, sb, inc, fr, ra, kp, gn, vr⟩ := id t5
  have e1 : s2.heap = h' := congrArg Shared.heap e'
  subst e1
  have neJ : ∀ b, s.heap.get? b ≠ none → b ≠ J := fun b hb q => hb (q ▸ sJ)
  obtain ⟨h0', tk0, vm0, ys0, e0, hl0, fx0, _, _, _, _, _, gn0, _⟩ := id t
  have e01 : s.heap = h0' := congrArg Shared.heap e0
  subst e01
  have hD0 : s.heap.get? D' ≠ none := by obtain ⟨_, e9⟩ := hl0; rw [e9]; simp
  have apJ : Apart cenv cs J D' := ⟨fun m => (neJ J (fx0.has m)) rfl, ap.fd, fun q => neJ D' hD0 q.symm⟩
  have gnJ : ∀ a, Mv cenv cs J D' a → g5 a = none := fun a m => by
    rcases m with m | rfl | rfl
    · exact gn a (.inl m)
    · exact gJ
    · exact gn _ (.inr (.inr rfl))
  have hBJ : ∀ a o, C.hB.get? a = some o → ¬ Mv cenv cs J D' a := fun a o e m => by
    rcases m with m | rfl | rfl
    · exact hB a o e (.inl m)
    · exact neJ a (by rw [pre.base a o e]; simp) rfl
    · exact hB _ o e (.inr (.inr rfl))
  have fpJ' : ∀ b ∈ fpJ, ¬ Ft cenv cs b ∧ b ≠ D' := fun b hb => by
    rcases hfpJ b hb with rfl | q
    · exact ⟨apJ.fi, apJ.id⟩
    · exact ⟨fun m => q (gn b (.inl m)), fun m => q (gn b (.inr (.inr m)))⟩
  have start : TL ρ cenv cs J D' g5 s2 L g5 s2 := ⟨s2.heap, s2.toks, vm, ys, rfl, hl, fx, Sub.rfl', inc, fun _ _ e => .inl e, ra, fun _ _ _ e => e, gnJ, vr⟩
  have hI2 : s2.heap.get? I ≠ none := by
    cases z : s.heap.get? I with
    | none => exact absurd z hI
    | some o => rw [k2.keep _ _ z]; simp
  have key : ∀ (R : Result → Shared → Prop), (∀ s', (∃ g', TL ρ cenv cs I D' g₂ s₄ (L ++ es.flatMap (Gd p fun d => [f d])) g' s' ∧ St s'.heap) → R (.ok .next) s') →
      codeAny C.M A (.compLoop (two elt t0 i0 t1 i1 ifs scope pos) 1 (.ref J) (.ref D') cenv) R s2 := by
    intro R hR
    refine comp_goG (F := fun d => [f d]) (act := actI elt (.ref D') cenv) (target := t1) (ifs := ifs) (I := J) (p := p) (L₀ := L) (ds := es) (ρ := ρ) (fun Iv tn n s hv => loopI Iv tn n s hv) hr hk W stJ hP hT hcls apJ fpJ' (pre.base.trans k2.keep) hBJ start ?_ ?_
    · intro i d hd
      obtain ⟨τ, tg, own, dis, tst, el⟩ := turn d (List.mem_of_getElem? hd)
      refine ⟨τ, κ, tg, own, dis, fun h g' i' sb' kp' => ?_, tst, fun hp g3 s3 t3 st3 p3 => ?_⟩
      · refine hκ h g' i' (sb.trans sb') fun a o m e => ?_
        refine kp' a o (fun mj => ?_) (kp a o m e)
        rcases mj with mj | rfl | rfl
        · exact m (.inl mj)
        · exact absurd e (by
            intro e
            have hs0 : s₄.heap.get? a = none := by
              cases z : s₄.heap.get? a with
              | none => rfl
              | some o' =>
                obtain ⟨hh, tt, vv, yy, ee, _, _, _, _, _, _, kk, _⟩ := id t
                have e9 : s.heap = hh := congrArg Shared.heap ee
                have := kk a o' m z
                rw [← e9, sJ] at this; cases this
            rw [hs0] at e; cases e)
        · exact m (.inr (.inr rfl))
      · unfold actI
        refine wpAny_bind ((el hp).then p3 fun x s5 g6 k5 p5 r5 => ?_)
        have hJ3 : s3.heap.get? J ≠ none := by obtain ⟨o, ho, _⟩ := hcls _ _ st3; rw [ho]; simp
        have t6 := t3.step hJ3 k5
        refine wpAny_bind (t6.push apJ r5 ?_ fun s7 u t7 k7 => wpAny_pure ⟨g6, t7.less dis, ?_⟩)
        · rw [List.length_append]
          have : ((es.take i).flatMap (Gd p fun d => [f d])).length ≤ (es.take i).length := by
            generalize es.take i = l
            induction l with
            | nil => exact Nat.le_refl _
            | cons a l ih =>
              rw [List.flatMap_cons, List.length_append, List.length_cons]
              have : (Gd p (fun d => [f d]) a).length ≤ 1 := by unfold Gd; split <;> simp
              lia
          have h2 : (es.take i).length ≤ es.length := by rw [List.length_take]; lia
          lia
        · exact W.frame _ _ _ st3 fun b hb o e => k7 b o (fpJ' b hb).2 (k5.keep b o e)
    · intro g9 s9 t9
      refine hR s9 ?_
      obtain ⟨h9, tk9, vm9, ys9, e9, hl9, fx9, sb9, inc9, fr9, ra9, kp9, gn9, vr9⟩ := t9
      have q9 : s9.heap = h9 := congrArg Shared.heap e9
      subst q9
      have gI9 : g9 I = none := by
        cases z : g9 I with
        | none => rfl
        | some o =>
          rcases fr9 I o z with y | y
          · rw [gn I (.inr (.inl rfl))] at y; cases y
          · exact absurd y hI2
      refine ⟨g9, ⟨s9.heap, tk9, vm9, ys9, by rw [e9, e'], hl9, fx9, sb.trans sb9, inc9, fun a o e => ?_, ra9, fun a o m e => ?_, fun a m => ?_, vr9⟩, ?_⟩
      · rcases fr9 a o e with y | y
        · exact fr a o y
        · by_cases m : Mv cenv cs I D' a
          · rcases m with m | rfl | rfl
            · rw [gn9 a (.inl m)] at e; cases e
            · rw [gI9] at e; cases e
            · rw [gn9 _ (.inr (.inr rfl))] at e; cases e
          · cases z : s₄.heap.get? a with
            | none => exact .inr rfl
            | some o' => have := kp a o' m z; rw [y] at this; cases this
      · have h2 := kp a o m e
        refine kp9 a o (fun mj => ?_) h2
        rcases mj with mj | rfl | rfl
        · exact m (.inl mj)
        · obtain ⟨hh, tt, vv, yy, ee, _, _, _, _, _, _, kk, _⟩ := id t
          have e10 : s.heap = hh := congrArg Shared.heap ee
          have := kk a o m e
          rw [← e10, sJ] at this; cases this
        · exact m (.inr (.inr rfl))
      · rcases m with m | rfl | rfl
        · exact gn9 a (.inl m)
        · exact gI9
        · exact gn9 _ (.inr (.inr rfl))
      · refine hfr _ _ st5 fun b hb o e => kp9 b o (fun mj => ?_) e
        obtain ⟨⟨b1, b2⟩, b3⟩ := hfp b hb
        rcases mj with mj | mj | mj
        · exact b1 mj
        · exact neJ b b3 mj
        · exact b2 mj
  refine wpAny_bind (wpAny_runOwn ?_)
  have keyR := fun R hR => startI (key R hR) (W.self 0 s2 _ _ stJ (key R hR))
  exact keyR _ fun s' h => wpAny_pure h
end
end Zn
/-! part ZpN -/
namespace Zn
open PySem PySem.W PySem.Calls PyProof.Rows PySem.Spec PySem.SeqAt
section
variable {C : Cx} {A : Around} {env : Env} {σ : Sig}
theorem ev_comp2 {elt t0 i0 t1 i1 : Expr} {ifs : List Expr} {scope : Scope} {pos : Pos} {ds : List D} {cl : List (Str × Addr)} (F : D → List D) (p : D → D → Bool) (f : D → D → D) (hr : Rm A 0) (hi : It C A env σ i0 ds)
    (hcl : closureFor scope env = pure cl) (hk : scope.kind = .function) (hn : ∀ x ∈ scope.names, x.2 = .local → scope.names.lookup x.1 = some .local)
    (hown : ∀ L x c, (x, c) ∈ cellsFrom (L + 1) scope.names [] → (cenvOf scope cl L env).kindOf x = some .cell ∧ (cenvOf scope cl L env).cells.lookup x = some c)
    (hs : ∀ x, foldedSetIterable i0 env x = pure x) (hs1 : ∀ L x, foldedSetIterable i1 (cenvOf scope cl L env) x = pure x)
    (hsz : ∀ i d, ds[i]? = some d → ((ds.take i).flatMap (Gd (fun _ => true) fun d => (F d).flatMap (Gd (p d) fun e => [f d e]))).length + (F d).length ≤ 1000)
    (turn : ∀ L d, d ∈ ds → ∃ ρ κ, Tgt t0 d ρ ∧ (∀ q ∈ ρ, Own (cenvOf scope cl L env) (cellsFrom (L + 1) scope.names []) q.1) ∧ Caps env (cenvOf scope cl L env) σ κ ∧ It C A (cenvOf scope cl L env) (ρ ++ κ) i1 (F d) ∧
      ∀ e, e ∈ F d → ∃ τ, Tgt t1 e τ ∧ (∀ q ∈ τ, Own (cenvOf scope cl L env) (cellsFrom (L + 1) scope.names []) q.1) ∧ (∀ x, ρ.lookup x ≠ none → τ.lookup x = none) ∧
        Tests C A (cenvOf scope cl L env) ((τ ++ ρ) ++ κ) ifs (p d e) ∧ (p d e = true → Ev C A (cenvOf scope cl L env) ((τ ++ ρ) ++ κ) elt (f d e))) :
    Ev C A env σ (two elt t0 i0 t1 i1 ifs scope pos) (.list (ds.flatMap (Gd (fun _ => true) fun d => (F d).flatMap (Gd (p d) fun e => [f d e])))) := .of fun g s pre => by
  show wpAny _ _ (eval _ _) _ _ _
  rw [eval_ListComp]
  have fin : ∀ (L : Addr) s' g' v m, Stp g s g' s' → Rd g' v (.list (ds.flatMap (Gd (fun _ => true) fun d => (F d).flatMap (Gd (p d) fun e => [f d e])))) → s'.heap.Ns L m → g' L = none → s.heap.get? L = none →
      compPost C.M A No none (fun v s' => ∃ g', Stp g s g' s' ∧ Rd g' v (.list (ds.flatMap (Gd (fun _ => true) fun d => (F d).flatMap (Gd (p d) fun e => [f d e]))))) v L (.ok .next) s' := by
    intro L s' g' v m k r ns gL sL
    refine ⟨m, ns, fun h' hs' => ⟨g', ⟨?_, fun a o e => ?_, k.sub, fun a o e => ?_, k.fresh⟩, r⟩⟩
    · obtain ⟨h1, t1, e⟩ := k.shape
      exact ⟨h', t1, by rw [e]⟩
    · exact (hs'.2 a fun q => by rw [q, sL] at e; cases e).trans (k.keep a o e)
    · exact (hs'.2 a fun q => by rw [q, gL] at e; cases e).trans (k.inc a o e)
  refine wpAny_comprehension_free (g := ⟨t0, i0, [], 0⟩) (gs := [⟨t1, i1, ifs, 0⟩]) rfl hs hcl hk hn (wpAny_mono (hi.run g s pre) (fun x s1 h1 => wpAny_mono h1 (fun it s2 h2 => ?_) no_imp) no_imp)
  obtain ⟨g2, I, fp, P, St, rfl, k2, W, st, hP, hfp', gI, sI, T, hT, hcls⟩ := h2
  have hfp : ∀ b ∈ fp, b < s2.heap.objs.size := fun b hb => by
    rcases hfp' b hb with rfl | q
    · obtain ⟨o, e, _⟩ := hcls 0 _ st; exact Heap.lt_size e
    · cases z : g2 b with
      | none => exact absurd z q
      | some o => exact k2.inc.lt z
  refine wpAny_newObj_type (newEnv_comp fun h' k4 ns4 ok4 sz4 => ?_)
  have hC : (s2.heap.push { cls := .type "list", data := .seq ([] : List Value).toArray }).objs.size = s2.heap.objs.size + 1 := Heap.size_push ..
  dsimp only at k4 ns4 ok4 sz4 ⊢
  rw [hC] at ns4 ok4 sz4 ⊢
  have env_eq : ({ newEnv scope (s2.heap.objs.size + 1) env.globals (cellsFrom (s2.heap.objs.size + 1 + 1) scope.names cl) env.qual none .none (some env) builtinsNs with scope := relabel scope env } : Env) = cenvOf scope cl (s2.heap.objs.size + 1) env := rfl
  show codeAny _ _ (.compStart _ 0 (.ref I) (.ref s2.heap.objs.size) (cenvOf scope cl (s2.heap.objs.size + 1) env)) (compPost _ _ _ none _ _ (s2.heap.objs.size + 1)) _
  generalize hL : s2.heap.objs.size + 1 = L at ns4 ok4 sz4 ⊢
  have k24 : Kp s2.heap h' := fun b o e => k4 b o (Heap.get?_push_of_some _ e)
  have ok4' : CellsOk h' (L + 1) (cellsFrom (L + 1) scope.names []) := ok4
  have fx : Fx (cenvOf scope cl L env) (cellsFrom (L + 1) scope.names []) (fun _ => none) h' := by
    refine ⟨⟨_, ns4, fun _ _ _ e => by cases e⟩, fun x c m => ⟨(hown L x c m).1, (hown L x c m).2, none, (ok4'.empty x c m).1, fun _ e => by cases e⟩, ok4'.apart, fun x c m => ?_⟩
    have q : @LE.le Nat _ (L + 1) c := (ok4'.empty x c m).2
    exact Nat.ne_of_gt q
  have ftlt : ∀ a, Ft (cenvOf scope cl L env) (cellsFrom (L + 1) scope.names []) a → s2.heap.objs.size < a := fun a m => by
    rcases m with q | ⟨x, m⟩
    · have q' : a = L := q
      rw [q', ← hL]; exact Nat.lt_succ_self _
    · have q : @LE.le Nat _ (L + 1) a := (ok4'.empty x a m).2
      rw [← hL] at q
      exact Nat.lt_of_lt_of_le (Nat.lt_succ_of_lt (Nat.lt_succ_self _)) q
  have Ilt : I < s2.heap.objs.size := hfp I (W.sub I (.head _))
  have mvge : ∀ a, Mv (cenvOf scope cl L env) (cellsFrom (L + 1) scope.names []) I s2.heap.objs.size a → s2.heap.objs.size ≤ a ∨ a = I := fun a m => by
    rcases m with m | m | m
    · exact .inl (Nat.le_of_lt (ftlt a m))
    · exact .inr m
    · exact .inl (Nat.le_of_eq m.symm)
  have mvold : ∀ a o, s.heap.get? a = some o → ¬ Mv (cenvOf scope cl L env) (cellsFrom (L + 1) scope.names []) I s2.heap.objs.size a := fun a o e m => by
    rcases mvge a m with q | rfl
    · exact absurd (Heap.lt_size (k2.keep a o e)) (Nat.not_lt.mpr q)
    · rw [sI] at e; cases e
  have ap : Apart (cenvOf scope cl L env) (cellsFrom (L + 1) scope.names []) I s2.heap.objs.size := ⟨fun m => absurd (ftlt I m) (Nat.not_lt.mpr (Nat.le_of_lt Ilt)), fun m => absurd (ftlt _ m) (Nat.lt_irrefl _), Nat.ne_of_lt Ilt⟩
  have fp2 : ∀ b ∈ fp, ¬ Ft (cenvOf scope cl L env) (cellsFrom (L + 1) scope.names []) b ∧ b ≠ s2.heap.objs.size := fun b hb => ⟨fun m => absurd (ftlt b m) (Nat.not_lt.mpr (Nat.le_of_lt (hfp b hb))), Nat.ne_of_lt (hfp b hb)⟩
  have hB : ∀ a o, C.hB.get? a = some o → ¬ Mv (cenvOf scope cl L env) (cellsFrom (L + 1) scope.names []) I s2.heap.objs.size a := fun a o e => mvold a o (pre.base a o e)
  have gMv : ∀ a, Mv (cenvOf scope cl L env) (cellsFrom (L + 1) scope.names []) I s2.heap.objs.size a → g2 a = none := fun a m => by
    rcases mvge a m with q | rfl
    · cases z : g2 a with
      | none => rfl
      | some o => exact absurd (k2.inc.lt z) (Nat.not_lt.mpr q)
    · exact gI
  have hl0 : h'.PlainList s2.heap.objs.size (List.toArray []) := plain_at ⟨0, Heap.get?_push_size _ rfl⟩ fun o e => k4 _ o e
  have key : codeAny C.M A (.compLoop (two elt t0 i0 t1 i1 ifs scope pos) 0 (.ref I) (.ref s2.heap.objs.size) (cenvOf scope cl L env)) (compPost C.M A No none (fun v s' => ∃ g', Stp g s g' s' ∧ Rd g' v (.list (ds.flatMap (Gd (fun _ => true) fun d => (F d).flatMap (Gd (p d) fun e => [f d e]))))) (.ref s2.heap.objs.size) L) { s2 with heap := h' } := by
    have hk' : (cenvOf scope cl L env).scope.kind = .function := hk
    refine comp_goG (g₂ := g2) (D' := s2.heap.objs.size) (fp := fp) (F := fun d => (F d).flatMap (Gd (p d) fun e => [f d e])) (act := actO elt t0 i0 t1 i1 ifs scope pos (.ref s2.heap.objs.size) (cenvOf scope cl L env)) (target := t0) (ifs := []) (I := I) (p := fun _ => true) (L₀ := []) (ds := ds) (ρ := []) (cs := cellsFrom (L + 1) scope.names []) (St := St) (P := P)
      (fun Iv tn n s hv => loopO Iv tn n s hv) hr hk' W (W.frame _ _ _ st fun b _ o e => k24 b o e) hP hT hcls ap fp2 ((pre.base.trans k2.keep).trans k24) hB
      ⟨h', s2.toks, _, [], rfl, hl0, fx, Sub.rfl', k2.inc.keep k24, fun _ _ e => .inl e, .nil, fun _ _ _ e => e, gMv, fun x d e => by cases e⟩ ?_ ?_
    · intro i d hd
      obtain ⟨ρ, κ, t1', t2, t3, t4, t5⟩ := turn L d (List.mem_of_getElem? hd)
      have hκ : ∀ h g, Inc g h → Sub g2 g → (∀ a o, ¬ Mv (cenvOf scope cl L env) (cellsFrom (L + 1) scope.names []) I s2.heap.objs.size a → h'.get? a = some o → h.get? a = some o) → Sees (cenvOf scope cl L env) h g κ :=
        fun h g i sb kp => t3.sees pre.sees (fun a o e => kp a o (mvold a o e) (k24 a o (k2.keep a o e))) (k2.sub.trans sb)
      refine ⟨ρ, κ, t1', t2, fun x h => absurd rfl h, hκ, tests_nil, fun _ g3 s3 t3' st3 p3 => ?_⟩
      rw [List.append_nil] at t3' p3
      rw [List.nil_append] at t3' ⊢
      obtain ⟨o3, ho3, _⟩ := hcls _ _ st3
      have hI3 : s3.heap.get? I ≠ none := by rw [ho3]; simp
      refine wpAny_mono (actO_run (ρ := ρ) (κ := κ) (p := p d) (f := f d) (es := F d) (St := St (i + 1)) (fp := fp) (C := C) (cs := cellsFrom (L + 1) scope.names []) (I := I) hr hk' ap t3' hI3 p3 hB st3 (fun b hb => ⟨fp2 b hb, ?_⟩) (fun h h' a b => W.frame _ _ _ a b) hκ t4 (hs1 L) (hsz i d hd) fun e he => ?_) (fun _ s5 h5 => ?_) no_imp
      · rcases hfp' b hb with rfl | q
        · exact hI3
        · obtain ⟨_, _, _, _, ee, _, _, sb3, inc3, _⟩ := t3'
          have e9 := congrArg Shared.heap ee
          cases z : g2 b with
          | none => exact absurd z q
          | some o => rw [show s3.heap = _ from e9, inc3 _ _ (sb3 _ _ z)]; simp
      · exact t5 e he
      · obtain ⟨g5, t6, st5⟩ := h5
        refine ⟨g5, ?_, st5⟩
        obtain ⟨q1, q2, q3, q4, q5, q6, q7, q8, q9, q10, q11, q12, q13, _⟩ := t6
        exact ⟨q1, q2, q3, q4, q5, q6, q7, q8, q9, q10, q11, q12, q13, fun x d e => by cases e⟩
    · intro g9 s9 t9
      obtain ⟨h9, t9, vm9, ys, rfl, hl9, fx9, sb9, inc9, fr9, ra9, kp9, gn9, _⟩ := t9
      rw [List.nil_append] at ra9
      obtain ⟨m, ns9, _⟩ := fx9.ns
      obtain ⟨n9, e9⟩ := hl9
      generalize hoo : (⟨.type "list", none, .seq ys.toArray n9, #[]⟩ : Obj) = o at e9
      have gD : g9 s2.heap.objs.size = none := gn9 _ (.inr (.inr rfl))
      have DL : L ≠ s2.heap.objs.size := by rw [← hL]; exact Nat.ne_of_gt (Nat.lt_succ_self _)
      have sbp : Sub g9 (put g9 s2.heap.objs.size o) := fun b o' e => by
        by_cases q : b = s2.heap.objs.size
        · rw [q, gD] at e; cases e
        · simp [put, q, e]
      refine fin L _ (put g9 s2.heap.objs.size o) _ m ⟨?_, fun a ob e => ?_, (k2.sub.trans sb9).trans sbp, fun a ob e => ?_, fun a ob e => ?_⟩ (.list (by rw [hoo]; exact put_self) (ra9.mono sbp)) ns9 ?_ ?_
      · obtain ⟨hh, tt, e⟩ := k2.shape
        exact ⟨h9, t9, by rw [e]⟩
      · exact kp9 a ob (mvold a ob e) (k24 a ob (k2.keep a ob e))
      · by_cases q : a = s2.heap.objs.size
        · subst q; rw [put_self] at e; cases e; exact e9
        · simp [put, q] at e; exact inc9 a ob e
      · by_cases q : a = s2.heap.objs.size
        · subst q
          right
          cases z : s.heap.get? s2.heap.objs.size with
          | none => rfl
          | some o' => exact absurd (Heap.lt_size (k2.keep _ _ z)) (Nat.lt_irrefl _)
        · simp [put, q] at e
          rcases fr9 a ob e with z | z
          · exact k2.fresh a ob z
          · cases y : s.heap.get? a with
            | none => exact .inr rfl
            | some o' => have := k24 a o' (k2.keep a o' y); rw [show h'.get? a = none from z] at this; cases this
      · have gL : g9 L = none := gn9 L (.inl (.inl rfl))
        simp [put, DL, gL]
      · cases z : s.heap.get? L with
        | none => rfl
        | some o' => exact absurd (.inl (.inl rfl)) (mvold L o' z)
  exact codeAny_compStart_list key (W.self 0 { s2 with heap := h' } _ _ (W.frame _ _ _ st fun b _ o e => k24 b o e) key)
end
end Zn
/-! part ZpO -/
namespace Zn
open PySem PySem.W PySem.Calls PyProof.Rows PySem.Spec PySem.SeqAt

/-! the worth, in plain words -/
noncomputable abbrev Told := List (List Nat)
noncomputable def val (ts : Told) (c p : Nat) : Nat := (ts.getD p []).getD c 0
noncomputable def kindsF (ts : Told) (c : Nat) (fam : List Nat) : List Nat := kindsOf (fam.map (val ts c))
noncomputable def splitF (ts : Told) (c : Nat) (fam : List Nat) : List (List Nat) := (kindsF ts c fam).map fun k => fam.filter fun p => val ts c p == k
noncomputable def oddF (ts : Told) (c : Nat) (fam : List Nat) : List Nat := (List.range (splitF ts c fam).length).filter fun k => ((splitF ts c fam).getD k []).length % 2 == 1
noncomputable def flagsF (ts : Told) (c sh : Nat) (K fam : List Nat) : Nat := fam.foldl (fun a p => a ^^^ 2 ^ (sh + K.idxOf (val ts c p))) 0
noncomputable def absI (a : Int) : Int := if a < 0 then -a else a
noncomputable def famW (ts : Told) (k : Key) (w : Int) (fam : List Nat) : Int := w * absI k.2 ^ ((oddF ts k.1 fam).length / 2)
noncomputable def partsF (ts : Told) (c : Nat) (fam : List Nat) : List (List Nat) := (splitF ts c fam).filter fun part => decide (part.length > 1)
noncomputable def stepW (ts : Told) (x : Int × List (List Nat)) (k : Key) : Int × List (List Nat) := (x.2.foldl (famW ts k) x.1, x.2.flatMap (partsF ts k.1))
noncomputable def worthL (ts : Told) (ks : List Key) : Int × List (List Nat) := ks.foldl (stepW ts) (1, [List.range ts.length])
noncomputable def worthOf (ts : Told) (ks : List Key) : Int := if (worthL ts ks).2 = [] then (worthL ts ks).1 else 0
noncomputable def colK (c : Nat) : List Nat := if c = 1 then [0, 3, 4, 5] else [0, 1, 2]
theorem colK_len (c : Nat) : (colK c).length ≤ 4 := by unfold colK; split <;> decide
theorem colK_lt (c : Nat) : ∀ k ∈ colK c, k < 8 := by unfold colK; split <;> decide
theorem mem_kindsOf {ns : List Nat} {k : Nat} : k ∈ kindsOf ns ↔ k < 8 ∧ k ∈ ns := by
  unfold kindsOf; rw [List.mem_filter, List.mem_range, List.contains_iff_mem]
theorem nodup_kindsOf (ns : List Nat) : (kindsOf ns).Nodup := (List.nodup_range (n := 8)).filter _
structure ToldOk (ts : Told) : Prop where
  rows : ∀ r ∈ ts, r.length = 3
  vals : ∀ p < ts.length, ∀ c < 3, val ts c p ∈ colK c
  few : ts.length ≤ 6
theorem kindsF_len {ts : Told} (T : ToldOk ts) {c : Nat} (hc : c < 3) {fam : List Nat} (hf : ∀ p ∈ fam, p < ts.length) : (kindsF ts c fam).length ≤ 4 := by
  refine Nat.le_trans (List.Nodup.length_le_of_subset (nodup_kindsOf _) (l₂ := colK c) fun k hk => ?_) (colK_len c)
  obtain ⟨p, hp, rfl⟩ := List.mem_map.mp (mem_kindsOf.mp hk).2
  exact T.vals p (hf p hp) c hc
theorem mem_kindsF {ts : Told} (T : ToldOk ts) {c : Nat} (hc : c < 3) {fam : List Nat} (hf : ∀ p ∈ fam, p < ts.length) {p : Nat} (hp : p ∈ fam) : val ts c p ∈ kindsF ts c fam :=
  mem_kindsOf.mpr ⟨colK_lt c _ (T.vals p (hf p hp) c hc), List.mem_map_of_mem hp⟩
theorem flags_bit (f : Nat → Nat) (j : Nat) : ∀ (fam : List Nat) (a : Nat), (fam.foldl (fun a p => a ^^^ 2 ^ f p) a).testBit j = (a.testBit j ^^ ((fam.filter fun p => f p == j).length % 2 == 1))
  | [], a => by simp
  | p :: fam, a => by
    rw [List.foldl_cons, flags_bit f j fam, Nat.testBit_xor, Nat.testBit_two_pow, List.filter_cons]
    by_cases h : f p = j
    · simp only [h, decide_true, beq_self_eq_true, if_true, List.length_cons]
      rcases Nat.mod_two_eq_zero_or_one (fam.filter fun p => f p == j).length with e | e
      · have : ((fam.filter fun p => f p == j).length + 1) % 2 = 1 := by lia
        rw [e, this]; cases a.testBit j <;> rfl
      · have : ((fam.filter fun p => f p == j).length + 1) % 2 = 0 := by lia
        rw [e, this]; cases a.testBit j <;> rfl
    · simp [h]
theorem flags_lt (f : Nat → Nat) : ∀ (fam : List Nat) (a : Nat), a < 2 ^ 32 → (∀ p ∈ fam, f p < 32) → (fam.foldl (fun a p => a ^^^ 2 ^ f p) a) < 2 ^ 32
  | [], a, h, _ => h
  | p :: fam, a, h, k => flags_lt f fam _ (Nat.xor_lt_two_pow h (Nat.pow_lt_pow_right (by decide) (k p (.head _)))) fun q m => k q (.tail _ m)
theorem idx_inj {K : List Nat} (hK : K.Nodup) {v k : Nat} (hv : v ∈ K) (hk : k < K.length) : (K.idxOf v == k) = (v == K.getD k 0) := by
  have e : K.getD k 0 = K[k] := by simp [List.getD, hk]
  rw [e]
  apply Bool.eq_iff_iff.mpr
  rw [beq_iff_eq, beq_iff_eq]
  constructor
  · intro h
    have hl := List.idxOf_lt_length_iff.mpr hv
    have := List.getElem_idxOf hl
    rw [← this]; congr 1
  · rintro rfl
    exact hK.idxOf_getElem k hk
theorem flags_bits {ts : Told} {c sh : Nat} {K fam : List Nat} (hK : K.Nodup) (hf : ∀ p ∈ fam, val ts c p ∈ K) (hs : sh + K.length ≤ 32) :
    bitsTo (flagsF ts c sh K fam) 32 = ((List.range K.length).filter fun k => (fam.filter fun p => val ts c p == K.getD k 0).length % 2 == 1).map (sh + ·) := by
  have bit : ∀ j, (flagsF ts c sh K fam).testBit j = ((fam.filter fun p => sh + K.idxOf (val ts c p) == j).length % 2 == 1) := fun j => by
    unfold flagsF
    rw [flags_bit (fun p => sh + K.idxOf (val ts c p)) j fam 0]; simp
  have idlt : ∀ p ∈ fam, K.idxOf (val ts c p) < K.length := fun p hp => List.idxOf_lt_length_iff.mpr (hf p hp)
  have none : ∀ j, (j < sh ∨ sh + K.length ≤ j) → (flagsF ts c sh K fam).testBit j = false := fun j h => by
    rw [bit, List.filter_eq_nil_iff.mpr]
    · rfl
    · intro p hp
      have := idlt p hp
      simp only [beq_iff_eq]; lia
  obtain ⟨m, hm⟩ : ∃ m, 32 = sh + (K.length + m) := ⟨32 - sh - K.length, by omega⟩
  unfold bitsTo
  rw [hm, List.range_add, List.filter_append, List.range_add, List.map_append, List.filter_append]
  have a1 : (List.range sh).filter (flagsF ts c sh K fam).testBit = [] := List.filter_eq_nil_iff.mpr fun j hj => by
    rw [none j (.inl (List.mem_range.mp hj))]; decide
  have a3 : (((List.range m).map (K.length + ·)).map (sh + ·)).filter (flagsF ts c sh K fam).testBit = [] := List.filter_eq_nil_iff.mpr fun j hj => by
    obtain ⟨x, hx, rfl⟩ := List.mem_map.mp hj
    obtain ⟨y, hy, rfl⟩ := List.mem_map.mp hx
    rw [none _ (.inr (by lia))]; decide
  rw [a1, a3, List.nil_append, List.append_nil, List.filter_map]
  congr 1
  apply List.filter_congr
  intro k hk
  have hk' := List.mem_range.mp hk
  show (flagsF ts c sh K fam).testBit (sh + k) = _
  rw [bit]
  congr 3
  apply List.filter_congr
  intro p hp
  rw [← idx_inj hK (hf p hp) hk']
  apply Bool.eq_iff_iff.mpr
  rw [beq_iff_eq, beq_iff_eq]; lia
theorem odd_eq (ts : Told) (c : Nat) (fam : List Nat) : oddF ts c fam = (List.range (kindsF ts c fam).length).filter fun k => (fam.filter fun p => val ts c p == (kindsF ts c fam).getD k 0).length % 2 == 1 := by
  unfold oddF splitF
  rw [List.length_map]
  apply List.filter_congr
  intro k hk
  have hk' := List.mem_range.mp hk
  simp [List.getD, hk']
theorem flags_words {ts : Told} (T : ToldOk ts) {c sh : Nat} (hc : c < 3) {fam : List Nat} (hf : ∀ p ∈ fam, p < ts.length) (hs : sh ≤ 22) :
    flagsF ts c sh (kindsF ts c fam) fam < 2 ^ 32 ∧ bitsTo (flagsF ts c sh (kindsF ts c fam) fam) 32 = (oddF ts c fam).map (sh + ·) := by
  have hl := kindsF_len T hc hf
  refine ⟨flags_lt (fun p => sh + (kindsF ts c fam).idxOf (val ts c p)) fam 0 (by decide) fun p hp => ?_, ?_⟩
  · have := List.idxOf_lt_length_iff.mpr (mem_kindsF T hc hf hp)
    show sh + _ < 32
    lia
  · rw [odd_eq]
    exact flags_bits (K := kindsF ts c fam) (nodup_kindsOf _) (fun p hp => mem_kindsF T hc hf hp) (by lia)
end Zn
/-! part ZpP -/
namespace Zn
open PySem PySem.W PySem.Calls PyProof.Rows PySem.Spec PySem.SeqAt
theorem cmp_neS {x y : Str} : Cmp .NotEq (.str x) (.str y) (x != y) := fun C A g s v u hr _ _ inc a b => by
  obtain ⟨t, rfl⟩ := a.str_inv; obtain ⟨t', rfl⟩ := b.str_inv
  exact gives_bool inc fun _ h => ne_str h
theorem worthL_snoc (ts : Told) (ks : List Key) (k : Key) : worthL ts (ks ++ [k]) = stepW ts (worthL ts ks) k := by
  unfold worthL; rw [List.foldl_append]; rfl
theorem take_snoc {α : Type} {l : List α} {i : Nat} {a : α} (h : l[i]? = some a) : l.take (i + 1) = l.take i ++ [a] := by
  rw [List.take_add_one, h]; rfl
structure FamsOk (ts : Told) (m : Nat) (fams : List (List Nat)) : Prop where
  places : ∀ fam ∈ fams, ∀ p ∈ fam, p < ts.length
  small : ∀ fam ∈ fams, fam.length ≤ ts.length
  few : fams.length ≤ m
theorem parts_ok {ts : Told} (T : ToldOk ts) {c : Nat} (hc : c < 3) {fam : List Nat} (hf : ∀ p ∈ fam, p < ts.length) (hl : fam.length ≤ ts.length) : FamsOk ts 4 (partsF ts c fam) := by
  have key : ∀ part ∈ partsF ts c fam, ∃ k, part = fam.filter fun p => val ts c p == k := fun part h => by
    obtain ⟨k, _, e⟩ := List.mem_map.mp (List.mem_filter.mp h).1
    exact ⟨k, e.symm⟩
  refine ⟨fun part h p hp => ?_, fun part h => ?_, ?_⟩
  · obtain ⟨k, rfl⟩ := key part h
    exact hf p (List.mem_filter.mp hp).1
  · obtain ⟨k, rfl⟩ := key part h
    exact Nat.le_trans (List.length_filter_le _ _) hl
  · refine Nat.le_trans (List.length_filter_le _ _) ?_
    unfold splitF
    rw [List.length_map]
    exact kindsF_len T hc hf
theorem flat_ok {ts : Told} (T : ToldOk ts) {c : Nat} (hc : c < 3) : ∀ {m : Nat} {fams : List (List Nat)}, FamsOk ts m fams → FamsOk ts (4 * m) (fams.flatMap (partsF ts c))
  | m, fams, F => by
    refine ⟨fun part h p hp => ?_, fun part h => ?_, ?_⟩
    · obtain ⟨fam, h1, h2⟩ := List.mem_flatMap.mp h
      exact (parts_ok T hc (F.places fam h1) (F.small fam h1)).places part h2 p hp
    · obtain ⟨fam, h1, h2⟩ := List.mem_flatMap.mp h
      exact (parts_ok T hc (F.places fam h1) (F.small fam h1)).small part h2
    · have : (fams.flatMap (partsF ts c)).length ≤ 4 * fams.length := by
        have h1 := F.places; have h2 := F.small
        clear F
        induction fams with
        | nil => simp
        | cons a l ih =>
          have := (parts_ok T hc (h1 a (.head _)) (h2 a (.head _))).few
          have := ih (fun f h => h1 f (.tail _ h)) (fun f h => h2 f (.tail _ h))
          rw [List.flatMap_cons, List.length_append, List.length_cons]; lia
      have := F.few
      lia
theorem worthL_ok {ts : Told} (T : ToldOk ts) {ks : List Key} (hk : ∀ k ∈ ks, k.1 < 3) : FamsOk ts (4 ^ ks.length) (worthL ts ks).2 := by
  have key : ∀ (ks : List Key) (x : Int × List (List Nat)) (m : Nat), (∀ k ∈ ks, k.1 < 3) → FamsOk ts m x.2 → FamsOk ts (4 ^ ks.length * m) (ks.foldl (stepW ts) x).2 := by
    intro ks
    induction ks with
    | nil => intro x m _ h; simpa using h
    | cons k ks ih =>
      intro x m hk h
      have := ih (stepW ts x k) (4 * m) (fun q h => hk q (.tail _ h)) (flat_ok T (hk k (.head _)) h)
      rw [List.foldl_cons, List.length_cons, Nat.pow_succ]
      rwa [Nat.mul_assoc]
  have := key ks (1, [List.range ts.length]) 1 hk ⟨fun fam h p hp => ?_, fun fam h => ?_, Nat.le_refl _⟩
  · simpa [worthL] using this
  · rw [List.mem_singleton.mp h] at hp; exact List.mem_range.mp hp
  · rw [List.mem_singleton.mp h, List.length_range]; exact Nat.le_refl _
theorem idx_cast (v : Nat) : ∀ K : List Nat, (K.map fun k : Nat => (k : Int)).idxOf (v : Int) = K.idxOf v
  | [] => rfl
  | k :: K => by
    rw [List.map_cons, List.idxOf_cons, List.idxOf_cons, idx_cast v K]
    have : ((k : Int) == (v : Int)) = (k == v) := by
      apply Bool.eq_iff_iff.mpr
      rw [beq_iff_eq, beq_iff_eq]; lia
    rw [this]
theorem absI_nat (a : Int) : absI a = (a.natAbs : Int) := by unfold absI; split <;> lia
theorem absI_lt {a : Int} (h : -3 ≤ a ∧ a ≤ 3) : (absI a).natAbs < 2 ^ 64 := by
  rw [absI_nat]; show a.natAbs < 2 ^ 64
  have : a.natAbs ≤ 3 := by omega
  exact Nat.lt_of_le_of_lt this (by decide)
theorem pow_bits {a : Int} (h : -3 ≤ a ∧ a ≤ 3) {n : Nat} (hn : n ≤ 2) : Builtin.Int.intBits (absI a ^ n) ≤ 64 := by
  rw [absI_nat]
  have ha : a.natAbs ≤ 3 := by omega
  generalize a.natAbs = k at ha
  have : ∀ k ≤ 3, ∀ n ≤ 2, Builtin.Int.intBits (((k : Nat) : Int) ^ n) ≤ 64 := by decide +kernel
  exact this k ha n hn
noncomputable def castR (r : List Nat) : List Int := r.map fun k : Nat => (k : Int)
noncomputable def toldD (ts : Told) : D := .list (ts.map fun r => rowD (castR r))
noncomputable def famsD (fams : List (List Nat)) : D := .list (fams.map fun f => .list (f.map natD))
section
variable {C : Cx} {A : Around} {env : Env} {σ : Sig}
theorem ev_val {ts : Told} {p1 p2 p3 q r : Pos} (T : ToldOk ts) {c p : Nat} (hc : c < 3) (hp : p < ts.length) (he : EnvOk env) (hr : Rm A 0) (h1 : List.lookup (Str.ofString "told") σ = some (toldD ts)) (h2 : List.lookup (Str.ofString "place") σ = some (natD p)) (h3 : List.lookup (Str.ofString "column") σ = some (D.int (c : Nat))) :
    Ev C A env σ (.Subscript (.Subscript (.Name "told" p1) (.Name "place" p2) q) (.Name "column" p3) r) (natD (val ts c p)) := by
  have hrow : (castR (ts.getD p [])).length = 3 := by
    unfold castR
    rw [List.length_map, List.getD, List.getElem?_eq_getElem hp]
    exact T.rows _ (List.getElem_mem hp)
  have hf := T.few
  have e1 : ((castR (ts.getD p [])).getD c 0) = ((val ts c p : Nat) : Int) := by
    have h3 : c < (ts.getD p []).length := by unfold castR at hrow; rw [List.length_map] at hrow; lia
    unfold castR val
    generalize ts.getD p [] = r at h3
    simp [List.getD, h3]
  have h4 := item_row (l := castR (ts.getD p [])) (c := c) (by lia) (by lia)
  rw [e1] at h4
  refine ev_sub hr (ev_sub hr (ev_name he h1) (ev_name he h2) (d := rowD (castR (ts.getD p []))) ?_) (ev_name he h3) h4
  exact item_list (by lia) (by rw [Int.toNat_natCast]; simp [List.getD, hp]) (by rw [List.length_map]; lia)
end
end Zn
/-! part ZpQ -/
namespace Zn
open PySem PySem.W PySem.Calls PyProof.Rows PySem.Spec PySem.SeqAt
theorem seqI0 (n : Nat) : seqI 0 n = (List.range n).map natD := by
  unfold seqI natD
  apply List.map_congr_left
  intro i _
  exact congrArg D.int (by lia)
noncomputable def dL : D → List Nat
  | .list ds => ds.map dN
  | _ => []
noncomputable def famD (f : List Nat) : D := .list (f.map natD)
theorem dL_famD (f : List Nat) : dL (famD f) = f := by
  unfold dL famD
  dsimp only
  rw [List.map_map]
  calc f.map (dN ∘ natD) = f.map id := List.map_congr_left fun p _ => dN_natD p
    _ = f := List.map_id f
theorem beq_cast (a b : Nat) : (((a : Nat) : Int) == ((b : Nat) : Int)) = (a == b) := by
  apply Bool.eq_iff_iff.mpr
  rw [beq_iff_eq, beq_iff_eq]; lia
theorem odd_cast (n : Nat) : (((n : Nat) : Int).fmod 2 == 1) = (n % 2 == 1) := by
  rw [Int.fmod_eq_emod_of_nonneg _ (by decide)]
  apply Bool.eq_iff_iff.mpr
  rw [beq_iff_eq, beq_iff_eq]; lia
theorem gt_cast (n : Nat) : decide (((n : Nat) : Int) > 1) = decide (n > 1) := by
  apply Bool.eq_iff_iff.mpr
  rw [decide_eq_true_iff, decide_eq_true_iff]; omega
theorem half_cast (n : Nat) : ((n : Nat) : Int).fdiv 2 = ((n / 2 : Nat) : Int) := by
  rw [Int.fdiv_eq_ediv_of_nonneg _ (by decide)]; rfl
theorem fn_worth {C : Cx} (H : Has C) {ts : Told} (T : ToldOk ts) (ks : List Key) (hk : ∀ k ∈ ks, k.1 < 3 ∧ -3 ≤ k.2 ∧ k.2 ≤ 3) (hks : ks.length ≤ 3) (sh : Nat) (hsh : sh ≤ 22) : Fn C 153 2 [toldD ts, .list (ks.map keyD), .int (sh : Nat)] (.int (worthOf ts ks)) := by
  refine fn_pack H (i := 18) (c := 152) (names := ["told", "keys", "shift"]) (k := 1) (by decide) (fun pm vs h => by obtain ⟨a, b, c, rfl⟩ := len3 h; rfl) (by decide) rfl
    (fun pm L x c m => by repeat (rcases List.mem_cons.mp m with h | m; · cases h; exact ⟨rfl, rfl⟩)
                          cases m) (fun pm L x m => by
      rcases List.mem_cons.mp m with rfl | m
      · exact .inr ⟨rfl, rfl⟩
      rcases List.mem_cons.mp m with rfl | m
      · exact .inl rfl
      rcases List.mem_singleton.mp m with rfl; exact .inr ⟨rfl, rfl⟩) fun pm A L h1 he => ?_
  have h0 : Rm A 0 := h1.le (by decide)
  have hn := T.few
  have hlast : (worthL ts ks).2 = [] ∨ (worthL ts ks).2 ≠ [] := by cases (worthL ts ks).2 <;> simp
  refine sts_cons (st_assign (d := famsD [List.range ts.length]) he ?_ (.inl rfl) ?_)
  · refine ev_list (evl_cons ?_ evl_nil) (by simp)
    have := @tf_list_range 0 (ts.length : Nat) ts.length (range_size 0 ts.length) (range_small (a := 0) (by decide) (by lia)) (by lia)
    rw [seqI0] at this
    refine ev_tcall (T := "list") H.ok he h0 rfl (H.miss _ (by decide)) (by decide +kernel) (evl_cons (ev_tcall H.ok he h0 rfl (H.miss _ (by decide)) (by decide +kernel) (evl_cons (ev_bcall H.ok he h0 rfl (H.miss _ (by decide)) (by decide +kernel) (evl_cons (ev_name he rfl) evl_nil) (bf_len_list (by rw [List.length_map]; lia))) evl_nil) tf_range1) evl_nil) ?_
    rw [List.length_map]; exact this
  refine sts_cons (st_assign (d := .int 1) he ev_int (.inl rfl) ?_)
  refine sts_cons (st_for (ds := ks.map keyD) (fun i => ([("worth", .int (worthL ts (ks.take i)).1), ("families", famsD (worthL ts (ks.take i)).2), ("told", toldD ts), ("keys", .list (ks.map keyD)), ("shift", .int (sh : Nat))], [])) (fun _ => True) he h0
    (it_list h0 (ev_name he rfl)) ?_ trivial (fun i d _ hd => ?_) (fun _ => ?_))
  · rfl
  · obtain ⟨k, hk1, rfl⟩ : ∃ k, ks[i]? = some k ∧ keyD k = d := by simpa using hd
    obtain ⟨hc, hs1, hs2⟩ := hk k (List.mem_of_getElem? hk1)
    have hi : i < ks.length := (List.getElem?_eq_some_iff.mp hk1).1
    have F := worthL_ok T (ks := ks.take i) fun q hq => (hk q (List.mem_of_mem_take hq)).1
    have hsnoc : worthL ts (ks.take (i + 1)) = stepW ts (worthL ts (ks.take i)) k := by rw [take_snoc hk1, worthL_snoc]
    rw [hsnoc]
    generalize worthL ts (ks.take i) = W at F ⊢
    obtain ⟨w, fams⟩ := W
    have few : fams.length ≤ 16 := by
      refine Nat.le_trans F.few ?_
      rw [List.length_take]
      exact (Nat.pow_le_pow_right (n := 4) (j := 2) (by decide) (by lia))
    have flen : ∀ j, ((fams.take j).flatMap (partsF ts k.1)).length ≤ 64 := fun j => by
      have := (flat_ok T hc (m := 16) (fams := fams.take j) ⟨fun f h => F.places f (List.mem_of_mem_take h), fun f h => F.small f (List.mem_of_mem_take h), by rw [List.length_take]; lia⟩).few
      omega
    refine ⟨_, .two (by decide), fun q m => ?_, fun q m => rfl, ?_⟩
    · rcases List.mem_cons.mp m with rfl | m
      · exact .inr ⟨rfl, rfl⟩
      · rcases List.mem_singleton.mp m with rfl; exact .inl rfl
    refine sts_cons (st_own he (evn_list evl_nil) (.inl rfl) ?_)
    refine sts_cons (st_for (ds := fams.map famD) (fun j => ([("column", .int (k.1 : Nat)), ("step", .int k.2), ("worth", .int ((fams.take j).foldl (famW ts k) w)), ("families", famsD fams), ("told", toldD ts), ("keys", .list (ks.map keyD)), ("shift", .int (sh : Nat))], [("parts", .list (((fams.take j).flatMap (partsF ts k.1)).map famD))])) (fun _ => True) he h0
      (it_list h0 (ev_name he rfl)) ?_ trivial (fun j d _ hd => ?_) (fun _ => ?_))
    · rfl
    · obtain ⟨fam, hf1, rfl⟩ : ∃ fam, fams[j]? = some fam ∧ famD fam = d := by simpa using hd
      have hpl := F.places fam (List.mem_of_getElem? hf1)
      have hfl := F.small fam (List.mem_of_getElem? hf1)
      rw [take_snoc hf1, List.foldl_append, List.flatMap_append, show [fam].flatMap (partsF ts k.1) = partsF ts k.1 fam by simp, List.map_append, List.foldl_cons, List.foldl_nil]
      have hpj := flen j
      generalize (fams.take j).foldl (famW ts k) w = wj
      generalize (fams.take j).flatMap (partsF ts k.1) = pj at hpj ⊢
      refine ⟨_, .name, fun q m => by rcases List.mem_singleton.mp m with rfl; exact .inr ⟨rfl, rfl⟩, fun q m => by rcases List.mem_singleton.mp m with rfl; rfl, ?_⟩
      refine sts_cons (st_assign (d := .list ((kindsF ts k.1 fam).map natD)) he ?_ (.inl rfl) ?_)
      · refine ev_sortedset (ns := fam.map (val ts k.1)) (K := colK k.1) H.ok he h0 rfl (H.miss _ (by decide)) rfl (H.miss _ (by decide)) (by decide +kernel) (by decide +kernel) ?_ (fun n hn => ?_) (fun n hn => ?_) (colK_len _)
        · refine ev_compM (as := fam) natD dN (fun p => natD (val ts k.1 p)) (fun p _ => dN_natD p) he h0 (it_list h0 (ev_name he rfl)) (by rw [List.map_map]; rfl) rfl (by lia) (fun L' p hp he' => ?_) ?_
          · refine ⟨_, [("told", toldD ts), ("column", .int (k.1 : Nat))], .name, ?_, ⟨⟨rfl, rfl, rfl, rfl⟩, ⟨rfl, rfl, rfl, rfl⟩, trivial⟩, ?_⟩
            · intro q m; rcases List.mem_singleton.mp m with rfl; exact .inl rfl
            · exact ev_val T hc (hpl p hp) he' h0 rfl rfl rfl
          · intro L' x c m; cases m
        · obtain ⟨p, hp, rfl⟩ := List.mem_map.mp hn
          exact colK_lt _ _ (T.vals p (hpl p hp) _ hc)
        · obtain ⟨p, hp, rfl⟩ := List.mem_map.mp hn
          exact T.vals p (hpl p hp) _ hc
      have hkl := kindsF_len T hc hpl
      refine sts_cons (st_assign (d := .int 0) he ev_int (.inl rfl) ?_)
      have hmem : ∀ p ∈ fam, val ts k.1 p ∈ kindsF ts k.1 fam := fun p hp => mem_kindsF T hc hpl hp
      refine sts_cons (st_for (ds := fam.map natD) (fun q => ([("flags", .int ((flagsF ts k.1 sh (kindsF ts k.1 fam) (fam.take q) : Nat) : Int)), ("kinds", .list ((kindsF ts k.1 fam).map natD)), ("family", famD fam), ("column", .int (k.1 : Nat)), ("step", .int k.2), ("worth", .int wj), ("families", famsD fams), ("told", toldD ts), ("keys", .list (ks.map keyD)), ("shift", .int (sh : Nat))], [("parts", .list (pj.map famD))])) (fun _ => True) he h0
        (it_list h0 (ev_name he rfl)) ?_ trivial (fun q d _ hd => ?_) (fun _ => ?_))
      · rfl
      · obtain ⟨p, hp1, rfl⟩ : ∃ p, fam[q]? = some p ∧ natD p = d := by simpa using hd
        have hp := List.mem_of_getElem? hp1
        refine ⟨_, .name, fun q m => by rcases List.mem_singleton.mp m with rfl; exact .inl rfl, fun q m => by rcases List.mem_singleton.mp m with rfl; rfl, ?_⟩
        have hix := List.idxOf_lt_length_iff.mpr (hmem p hp)
        have hstep : ((flagsF ts k.1 sh (kindsF ts k.1 fam) (fam.take (q + 1)) : Nat) : Int) = Builtin.bitXor ((flagsF ts k.1 sh (kindsF ts k.1 fam) (fam.take q) : Nat) : Int) (1 * 2 ^ (((sh : Nat) : Int) + (((kindsF ts k.1 fam).map fun k : Nat => (k : Int)).idxOf ((val ts k.1 p : Nat) : Int) : Nat)).toNat) := by
          rw [idx_cast, show ((sh : Nat) : Int) + ((kindsF ts k.1 fam).idxOf (val ts k.1 p) : Nat) = ((sh + (kindsF ts k.1 fam).idxOf (val ts k.1 p) : Nat) : Int) by lia, Int.toNat_natCast,
            show (1 : Int) * 2 ^ (sh + (kindsF ts k.1 fam).idxOf (val ts k.1 p)) = ((2 ^ (sh + (kindsF ts k.1 fam).idxOf (val ts k.1 p)) : Nat) : Int) by simp, bitXor_nat]
          rw [take_snoc hp1]
          unfold flagsF
          rw [List.foldl_append]; rfl
        refine sts_cons (st_assign (d := .int ((flagsF ts k.1 sh (kindsF ts k.1 fam) (fam.take (q + 1)) : Nat) : Int)) he ?_ (.inl rfl) (sts_nil ⟨trivial, ?_, ?_⟩))
        · rw [hstep]
          refine ev_bin h0 (ev_name he rfl) (ev_bin h0 ev_int (ev_bin h0 (ev_name he rfl) (ev_meth H.ok h0 (d0 := .list (((kindsF ts k.1 fam).map fun k : Nat => (k : Int)).map .int)) ?_ (mth_list PySem.F.slot_list_index PySem.F.type_list_index) (evl_cons (ev_val T hc (hpl p hp) he h0 rfl rfl rfl) evl_nil) (bf_index ?_ ?_)) bin_add) (bin_shl ?_ ?_ (by decide))) bin_xor
          · rw [List.map_map]; exact ev_name he rfl
          · exact List.mem_map_of_mem (hmem p hp)
          · rw [List.length_map]; lia
          · lia
          · rw [idx_cast]; lia
        · refine sub_look fun p hp => ?_
          repeat (rcases List.mem_cons.mp hp with rfl | hp; · rfl)
          cases hp
        · refine fun x d e => e
      refine sts_nil ?_
      rw [List.length_map, List.take_length]
      obtain ⟨hF, hB⟩ := flags_words T hc hpl hsh
      have hsl : (splitF ts k.1 fam).length = (kindsF ts k.1 fam).length := by unfold splitF; rw [List.length_map]
      have hsm : ∀ part ∈ splitF ts k.1 fam, part.length ≤ 6 := fun part h => by
        obtain ⟨q, _, rfl⟩ := List.mem_map.mp h
        have := List.length_filter_le (fun p => val ts k.1 p == q) fam
        lia
      have hol : (oddF ts k.1 fam).length ≤ 4 := by
        have := List.length_filter_le (fun q => ((splitF ts k.1 fam).getD q []).length % 2 == 1) (List.range (splitF ts k.1 fam).length)
        rw [List.length_range] at this
        unfold oddF; lia
      have hol' : ((List.range (splitF ts k.1 fam).length).filter fun q => ((splitF ts k.1 fam).getD q []).length % 2 == 1).length ≤ 4 := hol
      have hod : ∀ q ∈ oddF ts k.1 fam, q < 4 := fun q h => by
        have := List.mem_range.mp (List.mem_filter.mp h).1
        lia
      -- split
      refine sts_cons (st_assign (d := .list ((splitF ts k.1 fam).map famD)) he (ev_compM (as := kindsF ts k.1 fam) (R := (splitF ts k.1 fam).map famD) natD dN (fun κ => famD (fam.filter fun p => val ts k.1 p == κ)) (fun p _ => dN_natD p) he h0 (it_list h0 (ev_name he rfl)) (by unfold splitF; rw [List.map_map]; rfl) rfl (by lia) (fun L' κ hκ he' => ?_) ?_) (.inr ⟨rfl, rfl⟩) ?_)
      · refine ⟨_, [("family", famD fam), ("told", toldD ts), ("column", .int (k.1 : Nat))], .name, ?_, ⟨⟨rfl, rfl, rfl, rfl⟩, ⟨rfl, rfl, rfl, rfl⟩, ⟨rfl, rfl, rfl, rfl⟩, trivial⟩, ?_⟩
        · intro q m; rcases List.mem_singleton.mp m with rfl; exact .inr ⟨rfl, rfl⟩
        · refine ev_compT (as := fam) natD dN (fun p => val ts k.1 p == κ) natD (fun p _ => dN_natD p) he' h0 (it_list h0 (ev_name he' rfl)) rfl (by lia) (fun L'' p hp he'' => ?_) ?_
          · refine ⟨_, [("told", toldD ts), ("column", .int (k.1 : Nat)), ("kind", natD κ)], .name, ?_, ⟨⟨rfl, rfl, rfl, rfl⟩, ⟨rfl, rfl, rfl, rfl⟩, ⟨rfl, rfl, rfl, rfl⟩, trivial⟩, ?_, fun _ => ev_name he'' rfl⟩
            · intro q m; rcases List.mem_singleton.mp m with rfl; exact .inl rfl
            · rw [← beq_cast]
              exact tests_one (ts_cmp H.ok h0 (ev_val T hc (hpl p hp) he'' h0 rfl rfl rfl) (ev_name he'' rfl) cmp_eq)
          · intro L' x c m; cases m
      · intro L' x c m
        repeat (rcases List.mem_cons.mp m with h | m; · cases h; exact ⟨rfl, rfl⟩)
        cases m
      -- odd
      refine sts_cons (st_compT (as := List.range (splitF ts k.1 fam).length) natD dN (fun q => ((splitF ts k.1 fam).getD q []).length % 2 == 1) natD (fun p _ => dN_natD p) he h0 ?_ rfl (by rw [List.length_range]; lia) (fun L' q hq he' => ?_) ?_ (.inl rfl) ?_)
      · rw [← seqI0]
        refine it_range h0 (ev_tcall (T := "range") H.ok he h0 rfl (H.miss _ (by decide)) (by decide +kernel) (evl_cons (ev_bcall (id := "len") H.ok he h0 rfl (H.miss _ (by decide)) (by decide +kernel) (evl_cons (ev_name he rfl) evl_nil) (bf_len_list (by rw [List.length_map]; lia))) evl_nil) tf_range1) ?_ ?_
        · rw [List.length_map]; exact range_size 0 _
        · rw [List.length_map]; exact range_small (a := 0) (by decide) (by lia)
      · have hq' := List.mem_range.mp hq
        have hg : (splitF ts k.1 fam).getD q [] ∈ splitF ts k.1 fam := by simp [List.getD, hq']
        refine ⟨_, [("split", .list ((splitF ts k.1 fam).map famD))], .name, ?_, ⟨⟨rfl, rfl, rfl, rfl⟩, trivial⟩, ?_, fun _ => ev_name he' rfl⟩
        · intro q m; rcases List.mem_singleton.mp m with rfl; exact .inl rfl
        · rw [← odd_cast, show ((splitF ts k.1 fam).getD q []).length = (((splitF ts k.1 fam).getD q []).map natD).length by rw [List.length_map]]
          refine tests_one (ts_cmp H.ok h0 (ev_bin h0 (ev_bcall (id := "len") H.ok he' h0 rfl (H.miss _ (by decide)) (by decide +kernel) (evl_cons (ev_sub h0 (ev_name he' rfl) (ev_name he' rfl) (item_list (by lia) ?_ ?_)) evl_nil) (bf_len_list ?_)) ev_int (bin_mod (by decide))) ev_int cmp_eq)
          · rw [Int.toNat_natCast]; simp [List.getD, hq', famD]
          · rw [List.length_map]; lia
          · rw [List.length_map]; have := hsm _ hg; lia
      · intro L' x c m; cases m
      -- the words are the same
      refine sts_cons (st_if (c := false) ?_ (fun h => by cases h) (fun _ => sts_nil ?_))
      · have hne : (wordsOf (bitsTo (flagsF ts k.1 sh (kindsF ts k.1 fam) fam) 32) != wordsOf ((oddF ts k.1 fam).map (sh + ·))) = false := by rw [hB]; simp
        refine (fun h => by rw [hne] at h; exact h : Ts _ _ _ _ _ (wordsOf (bitsTo (flagsF ts k.1 sh (kindsF ts k.1 fam) fam) 32) != wordsOf ((oddF ts k.1 fam).map (sh + ·))) → Ts _ _ _ _ _ false) ?_
        refine ts_cmp H.ok h0 (ev_fcall H he (i := 4) (c := 49) (by decide) rfl (by rfl) (fn_pretty H _ hF) h1 (evl_cons (ev_name he rfl) evl_nil)) (ev_fcall H he (i := 17) (c := 147) (by decide) rfl (by rfl) (fn_words H _ (fun p hp => ?_) (by rw [List.length_map]; lia)) h1 (evl_cons ?_ evl_nil)) cmp_neS
        · obtain ⟨q, hq, rfl⟩ := List.mem_map.mp hp
          have := hod q hq; lia
        · refine ev_compM (as := oddF ts k.1 fam) natD dN (fun q => natD (sh + q)) (fun p _ => dN_natD p) he h0 (it_list h0 (ev_name he rfl)) (by rw [List.map_map]; rfl) rfl (by lia) (fun L' q hq he' => ?_) ?_
          · refine ⟨_, [("shift", .int (sh : Nat))], .name, ?_, ⟨⟨rfl, rfl, rfl, rfl⟩, trivial⟩, ?_⟩
            · intro q m; rcases List.mem_singleton.mp m with rfl; exact .inl rfl
            · exact ev_bin h0 (ev_name he' rfl) (ev_name he' rfl) bin_add
          · intro L' x c m; cases m
      refine sts_cons (st_assign (d := .int (famW ts k wj fam)) he ?_ (.inl rfl) ?_)
      · have hh : (oddF ts k.1 fam).length / 2 ≤ 2 := by lia
        unfold famW
        refine ev_bin h0 (ev_name he rfl) ?_ (bin_mul (IntMulOk.of_right (pow_bits ⟨hs1, hs2⟩ hh)))
        have e : absI k.2 ^ ((oddF ts k.1 fam).length / 2) = absI k.2 ^ (((((oddF ts k.1 fam).map natD).length : Nat) : Int).fdiv 2).toNat := by
          rw [List.length_map, half_cast, Int.toNat_natCast]
        rw [e]
        refine ev_bin h0 (ev_bcall (id := "abs") H.ok he h0 rfl (H.miss _ (by decide)) (by decide +kernel) (evl_cons (ev_name he rfl) evl_nil) bf_abs) (ev_bin h0 (ev_bcall (id := "len") H.ok he h0 rfl (H.miss _ (by decide)) (by decide +kernel) (evl_cons (ev_name he rfl) evl_nil) (bf_len_list ?_)) ev_int (bin_div (by decide) (np (by decide)))) (bin_pow ?_ ?_ (absI_lt ⟨hs1, hs2⟩))
        · rw [List.length_map]; lia
        · rw [List.length_map, half_cast]; lia
        · rw [List.length_map, half_cast]; lia
      refine sts_cons (st_extend he rfl (ds := pj.map famD) (es := (partsF ts k.1 fam).map famD) ?_ ?_ (sts_nil ⟨trivial, ?_, ?_⟩))
      · refine ev_compT (as := splitF ts k.1 fam) famD dL (fun part => decide (part.length > 1)) famD (fun p _ => dL_famD p) he h0 (it_list h0 (ev_name he rfl)) rfl (by lia) (fun L' part hp he' => ?_) ?_
        · refine ⟨_, [], .name, ?_, trivial, ?_, fun _ => ev_name he' rfl⟩
          · intro q m; rcases List.mem_singleton.mp m with rfl; exact .inl rfl
          · rw [← gt_cast, show part.length = (part.map natD).length by rw [List.length_map]]
            refine tests_one (ts_cmp H.ok h0 (ev_bcall (id := "len") H.ok he' h0 rfl (H.miss _ (by decide)) (by decide +kernel) (evl_cons (ev_name he' rfl) evl_nil) (bf_len_list ?_)) ev_int cmp_gt)
            rw [List.length_map]; have := hsm _ hp; lia
        · intro L' x c m; cases m
      · have := (parts_ok T hc hpl hfl).few
        rw [List.length_map, List.length_map]; lia
      · refine sub_look fun p hp => ?_
        repeat (rcases List.mem_cons.mp hp with rfl | hp; · rfl)
        cases hp
      · exact fun x d e => e
    · rw [List.length_map, List.take_length]
      refine sts_nil (Sts.freeze (x := "parts") rfl ?_)
      refine sts_cons (st_assign (d := famsD (stepW ts (w, fams) k).2) he (ev_name he rfl) (.inl rfl) (sts_nil ⟨trivial, ?_, fun x d e => by cases e⟩))
      refine sub_look fun p hp => ?_
      repeat (rcases List.mem_cons.mp hp with rfl | hp; · rfl)
      cases hp
  · rw [List.length_map, List.take_length]
    by_cases hz : (worthL ts ks).2 = []
    · refine sts_nil (sts_cons (st_return (d := .int (worthOf ts ks)) ?_ rfl))
      refine ev_if (c := true) (ts_cmp H.ok h0 (ev_name he rfl) (ev_list evl_nil) (by rw [hz]; exact cmp_eqE)) (fun _ => ?_) (fun h => by cases h)
      have : worthOf ts ks = (worthL ts ks).1 := by unfold worthOf; rw [if_pos hz]
      rw [this]; exact ev_name he rfl
    · refine sts_nil (sts_cons (st_return (d := .int (worthOf ts ks)) ?_ rfl))
      refine ev_if (c := false) (ts_cmp H.ok h0 (ev_name he rfl) (ev_list evl_nil) (cmp_eqN (by rw [List.length_map]; simpa using hz))) (fun h => by cases h) (fun _ => ?_)
      have : worthOf ts ks = 0 := by unfold worthOf; rw [if_neg hz]
      rw [this]; exact ev_int
end Zn
/-! part ZpR -/
namespace Zs
open PySem PySem.SeqAt
open AutoSeq1 (wpAny_loadPart')
open MeetsSeq MeetsSeq2 MeetsSeq3 PySem.W PySem.Calls PyProof.Rows PySem.Spec
noncomputable def gtL : List Int → List Int → Bool
  | a :: l, b :: r => if a = b then gtL l r else decide (a > b)
  | _, _ => false
theorem cmp_back {M : Model} {A : Around} {E : Value → Shared → Prop} {s : Shared} {a b : Value} {Q : Value → Shared → Prop} (h : wpAny M A (compareOp .Gt a b) Q E s) : wpAny M A (richCompare .Gt a b) Q E s := h
theorem gt_loopZ (l b : Addr) (items items2 : Array Value) (n n2 : Nat) (dd dd2 : Option Addr) (sl sl2 : Array (Option Value)) (ns ms : List Int) (h1 : items.size = ns.length) (h2 : items2.size = ms.length) (hsz : ns.length = ms.length)
    (v1 : ∀ j (h : j < items.size), ∃ t, items[j] = .int (ns.getD j 0) t) (v2 : ∀ j (h : j < items2.size), ∃ t, items2[j] = .int (ms.getD j 0) t) (k : Nat) :
    ∀ i : Nat, items.size - i = k → Meets (Builtin.«list.__eq__.loop» ⟨[.ref l, .ref b, rawInt i, rawInt 4], []⟩)
      (fun A R s => s.heap.get? l = some { cls := .type "list", dict := dd, data := .seq items n, slots := sl } ∧ s.heap.get? b = some { cls := .type "list", dict := dd2, data := .seq items2 n2, slots := sl2 } ∧
        R (.ok (.ret (.bool (gtL (ns.drop i) (ms.drop i))))) s) := by
  induction k with
  | zero =>
    intro i hk prog w A R s h
    obtain ⟨hp, g, d, tk, os⟩ := s; obtain ⟨hl, hb, h⟩ := h
    wp_walk using wpAny_loadPart' hl, wpAny_loadPart' hb
    have hi1 : items[((i : Nat) : Int).toNat]? = none := by simp; lia
    have hi2 : items2[((i : Nat) : Int).toNat]? = none := by simp; lia
    have hd : ns.drop i = [] := List.drop_eq_nil_of_le (by lia)
    rw [hd] at h
    rw [hi1, hi2]
    wp_walk using wpAny_loadPart' hl, wpAny_loadPart' hb
    show R (.ok (.ret (.bool (decide (items.size > items2.size))))) _
    rw [h1, h2, hsz, decide_eq_false (Nat.lt_irrefl _)]
    simpa [gtL] using h
  | succ k ih =>
    intro i hk prog w A R s h
    obtain ⟨hp, g, d, tk, os⟩ := s; obtain ⟨hl, hb, h⟩ := h
    wp_walk using wpAny_loadPart' hl, wpAny_loadPart' hb
    have hlt : i < items.size := by lia
    have hlt2 : i < items2.size := by lia
    have hi1 : items[((i : Nat) : Int).toNat]? = some items[i] := by simp [hlt]
    have hi2 : items2[((i : Nat) : Int).toNat]? = some items2[i] := by simp [hlt2]
    have hc : ((i : Int) + 1) = ((i + 1 : Nat) : Int) := by push_cast; rfl
    have d1 : ns.drop i = ns.getD i 0 :: ns.drop (i + 1) := by rw [List.drop_eq_getElem_cons (by lia)]; simp [List.getD, show i < ns.length by lia]
    have d2 : ms.drop i = ms.getD i 0 :: ms.drop (i + 1) := by rw [List.drop_eq_getElem_cons (by lia)]; simp [List.getD, show i < ms.length by lia]
    rw [d1, d2] at h
    obtain ⟨t1, e1⟩ := v1 i hlt
    obtain ⟨t2, e2⟩ := v2 i hlt2
    rw [hi1, hi2, e1, e2]
    refine wpAny_bind (EqAt.int_int (ns.getD i 0) t1 (ms.getD i 0) t2 prog w _ _ ?_)
    by_cases hb' : ns.getD i 0 = ms.getD i 0
    · have hq : (ns.getD i 0 == ms.getD i 0) = true := by simpa using hb'
      rw [hq]
      simp only [gtL, if_pos hb'] at h
      wp_walk
      rw [hc]
      exact ⟨plainId_quiet plain_eq_loop _, codeAny_builtin entry_eq_loop (by
        rw [Around.under_plainId plain_eq_loop _]
        exact ih (i + 1) (by lia) prog w A R _ ⟨hl, hb, by simpa using h⟩)⟩
    · have hq : (ns.getD i 0 == ms.getD i 0) = false := by simpa using hb'
      rw [hq]
      simp only [gtL, if_neg hb'] at h
      wp_walk using wpAny_loadPart' hl, wpAny_loadPart' hb
      rw [hi1, hi2, e1, e2]
      dsimp only
      refine wpAny_bind (cmp_back (gt_int ?_))
      exact wpAny_pure h
theorem list_gtZ (l b : Addr) (items items2 : Array Value) (n n2 : Nat) (dd dd2 : Option Addr) (sl sl2 : Array (Option Value)) (ns ms : List Int) (h1 : items.size = ns.length) (h2 : items2.size = ms.length) (hsz : ns.length = ms.length)
    (v1 : ∀ j (h : j < items.size), ∃ t, items[j] = .int (ns.getD j 0) t) (v2 : ∀ j (h : j < items2.size), ∃ t, items2[j] = .int (ms.getD j 0) t) :
    Meets (Builtin.«list.__gt__» ⟨[.ref l, .ref b], []⟩)
      (fun A R s => s.heap.get? l = some { cls := .type "list", dict := dd, data := .seq items n, slots := sl } ∧ s.heap.get? b = some { cls := .type "list", dict := dd2, data := .seq items2 n2, slots := sl2 } ∧
        R (.ok (.ret (.bool (gtL ns ms)))) s) := by
  intro prog w A R s h
  obtain ⟨hp, g, d, tk, os⟩ := s; obtain ⟨hl, hb, h⟩ := h
  have f3 := AutoSeq1.sub_list_list
  wp_walk using wpAny_loadPart' hl, wpAny_loadPart' hb
  exact ⟨plainId_quiet plain_eq_loop _, codeAny_builtin entry_eq_loop (by
    rw [Around.under_plainId plain_eq_loop _]
    exact gt_loopZ l b items items2 n n2 dd dd2 sl sl2 ns ms h1 h2 hsz v1 v2 _ 0 rfl prog w A R _ ⟨hl, hb, by simpa using h⟩)⟩
end Zs
namespace Zn
open Zs PySem PySem.W PySem.Calls PyProof.Rows PySem.Spec PySem.SeqAt
theorem ints_at {vs : List Value} {ns : List Int} (h : IntsAre vs ns) : ∀ j (hj : j < vs.toArray.size), ∃ t, vs.toArray[j] = .int (ns.getD j 0) t := by
  induction h with
  | nil => intro j hj; exact absurd hj (Nat.not_lt_zero _)
  | cons n t r ih =>
    intro j hj
    cases j with
    | zero => exact ⟨t, rfl⟩
    | succ j =>
      obtain ⟨u, e⟩ := ih j (by simpa using hj)
      exact ⟨u, by simpa using e⟩
theorem cmp_gtL {ns ms : List Int} (hsz : ns.length = ms.length) : Cmp .Gt (.list (ns.map .int)) (.list (ms.map .int)) (gtL ns ms) := fun C A g s v u hr _ _ inc x y => by
  obtain ⟨a, vs, m, rfl, h, ra⟩ := x.list_inv; obtain ⟨a', vs', m', rfl, h', ra'⟩ := y.list_inv
  have hu := hr.un
  have i1 := ra.ints
  have i2 := ra'.ints
  refine gives_bool inc fun Q hq => ?_
  refine cmp_back (richCompare_meets_room (op := .Gt) ⟨_, inc _ _ h, rfl⟩ ⟨_, inc _ _ h', rfl⟩ F.slot_list_gt F.entry_list_gt (F.args_list_gt_2 _ _)
    (list_gtZ a a' vs.toArray vs'.toArray m m' none none #[] #[] ns ms (by rw [List.size_toArray, i1.length]) (by rw [List.size_toArray, i2.length]) hsz (ints_at i1) (ints_at i2))
    ⟨inc _ _ h, inc _ _ h', show Value.bool (gtL ns ms) ≠ Value.notImplemented ∧ Q (.bool (gtL ns ms)) s from ⟨(fun x => nomatch x), hq⟩⟩ (by show A.units < 9900; omega))
end Zn
/-! part ZpS -/
namespace Zn
open PySem PySem.W PySem.Calls PyProof.Rows PySem.Spec PySem.SeqAt
structure TabOk2 (t : Tab) (n w : Nat) : Prop where
  len : t.length = n
  rows : ∀ r ∈ t, r.length = w
  small : ∀ i j, -3 ≤ ent t i j ∧ ent t i j ≤ 3
  few : w ≤ 900
  le : n ≤ w
theorem item_tab2 {t : Tab} {n w i : Nat} (T : TabOk2 t n w) (h : i < n) : Item (tabD t) (.int (i : Nat)) (.list ((t.getD i []).map .int)) := by
  have hl : i < t.length := by rw [T.len]; exact h
  have hf := T.few
  have := T.le
  exact item_list (by lia) (by rw [Int.toNat_natCast]; simp [List.getD, hl]) (by rw [List.length_map, T.len]; lia)
theorem item_ent2 {t : Tab} {n w i j : Nat} (T : TabOk2 t n w) (hi : i < n) (hj : j < w) : Item (.list ((t.getD i []).map .int)) (.int (j : Nat)) (.int (ent t i j)) := by
  have hl : i < t.length := by rw [T.len]; exact hi
  have hr : (t.getD i []).length = w := by
    rw [List.getD, List.getElem?_eq_getElem hl]
    exact T.rows _ (List.getElem_mem hl)
  have hf := T.few
  unfold ent
  exact item_list (by lia) (by rw [Int.toNat_natCast]; exact getmap (by rw [hr]; exact hj)) (by rw [List.length_map, hr]; lia)
theorem without_drop {ps : List Nat} {k x : Nat} (h : x ∈ without ps k) : x ∈ ps.drop 1 := by
  unfold without at h
  rcases List.mem_append.mp h with h | h
  · exact List.mem_of_mem_take h
  · rw [Nat.add_comm, ← List.drop_drop] at h
    exact List.mem_of_mem_drop h
theorem fn_pairings2 {C : Cx} (H : Has C) (t : Tab) (n w : Nat) (T : TabOk2 t n w) : ∀ (m : Nat) (ps : List Nat), ps.length ≤ m → m ≤ 100 → (∀ p ∈ ps, p < w) → (∀ p ∈ ps.drop 1, p < n) → Fn C 160 (m + 1) [tabD t, .list (ps.map natD)] (.int (pairN t m ps)) := by
  intro m
  induction m with
  | zero =>
    intro ps h _ _ _
    obtain rfl : ps = [] := List.eq_nil_of_length_eq_zero (by lia)
    refine fn_pack H (i := 19) (c := 159) (names := ["table", "places"]) (k := 0) (by decide) (fun pm vs h => by obtain ⟨a, b, rfl⟩ := len2 h; rfl) (by decide) rfl
      (fun pm L x c m => by repeat (rcases List.mem_cons.mp m with h | m; · cases h; exact ⟨rfl, rfl⟩)
                            cases m) (fun pm L x m => by
        rcases List.mem_cons.mp m with rfl | m
        · exact .inl rfl
        rcases List.mem_singleton.mp m with rfl; exact .inl rfl) fun pm A L h0 he => ?_
    refine sts_cons (st_if (c := true) (ts_cmp H.ok h0 (ev_name he rfl) (ev_list evl_nil) cmp_eqE) (fun _ => ?_) (fun h => by cases h))
    exact sts_cons (st_return ev_int rfl)
  | succ m ih =>
    intro ps h hm hp hq
    refine fn_pack H (i := 19) (c := 159) (names := ["table", "places"]) (k := m + 1) (by decide) (fun pm vs h => by obtain ⟨a, b, rfl⟩ := len2 h; rfl) (by decide) rfl
      (fun pm L x c m => by repeat (rcases List.mem_cons.mp m with h | m; · cases h; exact ⟨rfl, rfl⟩)
                            cases m) (fun pm L x m => by
        rcases List.mem_cons.mp m with rfl | m
        · exact .inl rfl
        rcases List.mem_singleton.mp m with rfl; exact .inl rfl) fun pm A L h1 he => ?_
    have h0 : Rm A 0 := h1.le (by lia)
    by_cases hne : ps = []
    · subst hne
      refine sts_cons (st_if (c := true) (ts_cmp H.ok h0 (ev_name he rfl) (ev_list evl_nil) cmp_eqE) (fun _ => ?_) (fun h => by cases h))
      exact sts_cons (st_return ev_int rfl)
    have hpos : 0 < ps.length := List.length_pos_iff.mpr hne
    refine sts_cons (st_if (c := false) (ts_cmp H.ok h0 (ev_name he rfl) (ev_list evl_nil) (cmp_eqN (by rw [List.length_map]; simp; exact hne))) (fun h => by cases h) (fun _ => sts_nil ?_))
    refine sts_cons (st_assign (d := .int 0) he ev_int (.inl rfl) ?_)
    refine sts_cons (st_assign (d := .int 1) he ev_int (.inl rfl) ?_)
    have hpair : pairN t (m + 1) ps = part t (pairN t m) ps (ps.length - 1) := by simp [pairN, hne]
    rw [hpair]
    have hrs : Builtin.Range.rangeSize 1 ((ps.length : Nat) : Int) 1 = ((ps.length - 1 : Nat) : Int) := range_size 1 ps.length
    have hsm : Builtin.Range.small 1 ((ps.length : Nat) : Int) 1 = true := range_small (a := 1) (by decide) (by lia)
    refine sts_cons (st_for (ds := seqI 1 (ps.length - 1)) (fun i => ([("turn", .int (sgn i)), ("worth", .int (part t (pairN t m) ps i)), ("table", tabD t), ("places", .list (ps.map natD))], [])) (fun _ => True) he h0
      (it_range h0 (ev_tcall H.ok he h0 rfl (H.miss _ (by decide)) (by decide +kernel) (evl_cons ev_int (evl_cons (ev_bcall H.ok he h0 rfl (H.miss _ (by decide)) (by decide +kernel) (evl_cons (ev_name he rfl) evl_nil) (bf_len_list (by rw [List.length_map]; lia))) evl_nil)) tf_range2) (by rw [List.length_map]; exact hrs) (by rw [List.length_map]; exact hsm)) ?_ trivial (fun i d _ hd => ?_) (fun _ => ?_))
    · rfl
    · have hi : i < ps.length - 1 := by have := (List.getElem?_eq_some_iff.mp hd).1; rwa [seqI_length] at this
      rw [seqI_get hi] at hd
      have hdi : d = .int ((i + 1 : Nat) : Int) := by
        rw [← Option.some.inj hd]; exact congrArg D.int (by lia)
      subst hdi
      have hlt : i + 1 < ps.length := by lia
      have hg : ∀ j, j < ps.length → ps.getD j 0 < w := fun j hj => by
        rw [List.getD, List.getElem?_eq_getElem hj]; exact hp _ (List.getElem_mem hj)
      have hg1 : ps.getD (i + 1) 0 < n := hq _ (by
        rw [List.getD, List.getElem?_eq_getElem hlt, Option.getD_some]
        have : (ps.drop 1)[i]? = some ps[i + 1] := by rw [List.getElem?_drop, Nat.add_comm, List.getElem?_eq_getElem hlt]
        exact List.mem_of_getElem? this)
      refine ⟨_, .name, fun q m => by rcases List.mem_singleton.mp m with rfl; exact .inl rfl, fun q m => rfl, ?_⟩
      have hwo := without_len (ps := ps) (k := i + 1) (by lia) hlt
      have hs1 : clipped (some (1 : Int)) (some ((i + 1 : Nat) : Int)) (ps.map natD) ++ clipped (some ((i + 1 + 1 : Nat) : Int)) none (ps.map natD) = (without ps (i + 1)).map natD := by
        rw [show ((1 : Int)) = ((1 : Nat) : Int) from rfl, clipped_run 1 (i + 1) _ (by rw [List.length_map]; lia), clipped_from]
        unfold without
        rw [List.map_append, List.map_take, List.map_drop, List.map_drop]
      refine sts_cons (st_assign (d := .int (part t (pairN t m) ps (i + 1))) he ?_ (.inl rfl) ?_)
      · show Ev _ _ _ _ _ (.int (part t (pairN t m) ps i + sgn i * ent t (ps.getD (i + 1) 0) (ps.getD 0 0) * pairN t m (without ps (i + 1))))
        refine ev_bin h0 (ev_name he rfl) (ev_bin h0 (ev_bin h0 (ev_name he rfl) (ev_sub h0 (ev_sub h0 (ev_name he rfl) (ev_sub h0 (ev_name he rfl) (ev_name he rfl) (item_place hlt (by lia))) (item_tab2 T hg1)) (ev_sub h0 (ev_name he rfl) ev_int (item_place (i := 0) (by omega) (by lia))) (item_ent2 T hg1 (hg _ (by omega)))) (bin_mul (intMul_small ?_)))
          (ev_fcall H he (i := 19) (c := 159) (by decide) rfl (by rfl) (ih (without ps (i + 1)) (by lia) (by lia) (fun p h => hp p (without_mem h)) fun p h => hq p (without_drop (List.mem_of_mem_drop h))) h1 (evl_cons (ev_name he rfl) (evl_cons ?_ evl_nil))) (bin_mul (intMul_small ?_))) bin_add
        · rcases sgn_or i with e | e <;> rw [e] <;> decide
        · rw [← hs1]
          refine ev_bin h0 (ev_slice h0 (ev_name he rfl) (l := some 1) (h := some ((i + 1 : Nat) : Int)) ev_int (ev_name he rfl) (by rw [List.length_map]; lia)) (ev_slice h0 (ev_name he rfl) (l := some ((i + 1 + 1 : Nat) : Int)) (h := none) ?_ trivial (by rw [List.length_map]; lia)) (bin_catL ?_)
          · exact ev_bin h0 (ev_name he rfl) ev_int bin_add
          · have := congrArg List.length hs1
            rw [List.length_append, List.length_map, hwo] at this
            lia
        · have := T.small (ps.getD (i + 1) 0) (ps.getD 0 0)
          rcases sgn_or i with e | e <;> rw [e] <;> exact bits3 (by lia)
      refine sts_cons (st_assign (d := .int (sgn (i + 1))) he (ev_neg (ev_name he rfl)) (.inl rfl) (sts_nil ⟨trivial, ?_, fun x d e => by cases e⟩))
      refine sub_look fun p hp => ?_
      repeat (rcases List.mem_cons.mp hp with rfl | hp; · rfl)
      cases hp
    · rw [seqI_length]
      exact sts_nil (sts_cons (st_return (ev_name he rfl) rfl))
end Zn
/-! part ZpT -/
namespace Zn
open PySem PySem.W PySem.Calls PyProof.Rows PySem.Spec PySem.SeqAt
theorem ts_neL {C : Cx} {A : Around} {env : Env} {σ : Sig} {l r : Expr} {pos : Pos} {a b : List D} {n : Nat} (hr : Rm A 1) (h1 : Ev C A env σ l (.list a)) (h2 : Ev C A env σ r (.list b)) (k : LikeAll n a b) (hn : n ≤ 4) (hm : behindInMarks .NotEq r = false := by rfl) :
    Ts C A env σ (.Compare l [.NotEq] [r] pos) (!eqds a b) := .of fun g s p =>
  wpAny_isTrue_Compare1 (h1.then p fun v s1 g1 k1 p1 r1 => h2.then p1 fun u s2 g2 k2 p2 r2 => (cmp_neL k hn C A g2 s2 v u hr p2.inc (r1.mono k2.sub) r2).mono fun w s3 g3 k3 r3 => by
    obtain rfl := r3.bool_inv
    exact wpAny_truthy_bool ⟨rfl, g3, (k1.trans k2).trans k3⟩) hm

/-! the law, in plain words -/
noncomputable def numsL (xs : List Int) : List Int := (xs.take 63).map fun x => x.fmod (10 ^ (6 : Int).toNat)
noncomputable def base6 : List Int := [217, 150, 734, 345, 610, 9]
noncomputable def cnt (ns : List Int) : Nat := 6 - ns.length % 2
noncomputable def entryL (ns : List Int) (k : Nat) : Int := base6.getD k 0 + (strided (some (k : Nat)) none (some 6) ns).sum
noncomputable def entriesL (ns : List Int) : List Int := (List.range (cnt ns)).map (entryL ns)
noncomputable def rowR (e : Int) : RowT := ⟨wordAt (e.fmod 3).toNat, roomOf e, (e.fdiv 36).fmod 3⟩
noncomputable def toldN (e : Int) : List Nat := [(e.fmod 3).toNat, (roomOf e).toNat, ((e.fdiv 36).fmod 3).toNat]
theorem room_nonneg (e : Int) : 0 ≤ roomOf e := by
  have h2 := fmod_lt (e.fdiv 18) (b := 2) (by decide)
  unfold roomOf
  split
  · split
    · omega
    · rename_i h _; have := of_decide_eq_true h; omega
  · exact Int.le_refl 0
theorem toldN_ok (e : Int) : rowD (castR (toldN e)) = toldOf e := by
  have h1 := fmod_lt e (b := 3) (by decide)
  have h2 := room_nonneg e
  have h3 := fmod_lt (e.fdiv 36) (b := 3) (by decide)
  unfold rowD castR toldN toldOf
  simp only [List.map_cons, List.map_nil]
  rw [Int.toNat_of_nonneg h1.1, Int.toNat_of_nonneg h2, Int.toNat_of_nonneg h3.1]
end Zn
/-! part ZpU -/
namespace Zn
open Zs PySem PySem.W PySem.Calls PyProof.Rows PySem.Spec PySem.SeqAt
theorem dI_int (i : Int) : dI (.int i) = i := rfl
noncomputable def colsL : List Nat := [0, 1, 2]
noncomputable def i0L (T : Int) : Nat := (T.fmod 3).toNat
noncomputable def i1L (T : Int) : Nat := ((T.fdiv 3).fmod 2).toNat
noncomputable def s0L (T : Int) : Int := (T.fdiv 6 + 5).fmod 7 - 3
noncomputable def s1L (T : Int) : Int := (T.fdiv 42).fmod 7 - 3
noncomputable def s2L (T : Int) : Int := (T.fdiv 294 + 6).fmod 7 - 3
noncomputable def keysL (T : Int) : List Key := [(colsL.getD (i0L T) 0, s0L T), ((colsL.eraseIdx (i0L T)).getD (i1L T) 0, s1L T), (((colsL.eraseIdx (i0L T)).eraseIdx (i1L T)).getD 0 0, s2L T)]
noncomputable def toldsL (ns : List Int) : Told := (entriesL ns).map toldN
noncomputable def rowsL (ns : List Int) : List RowT := (entriesL ns).map rowR
noncomputable def rowsD (rs : List RowT) : D := .list (rs.map rowT)
noncomputable def tabRow (rs : List RowT) (ks : List Key) : Tab := rs.map fun x => rs.map fun y => cmpR x y ks
noncomputable def tabTold (ts : Told) (ks : List Key) : Tab := ts.map fun x => ts.map fun y => cmpOf (castR x) (castR y) ks
noncomputable def markOf (r : List Nat) (ks : List Key) : List Int := ks.map fun k => if decide (k.2 < 0) then -((r.getD k.1 0 : Nat) : Int) else ((r.getD k.1 0 : Nat) : Int)
noncomputable def marksL (ts : Told) (ks : List Key) : Tab := ts.map fun r => markOf r ks
noncomputable def turnsL (ms : Tab) (n : Nat) : List Int := (List.range n).flatMap fun l => ((List.range n).take l).flatMap fun e => if gtL (ms.getD e []) (ms.getD l []) then [1] else []
noncomputable def tabFin (t : Tab) (n : Nat) : Tab := if n % 2 = 1 then t.map fun r => r ++ [1] else t
noncomputable def placesFin (n : Nat) : List Nat := if n % 2 = 1 then n :: List.range n else List.range n
noncomputable def lawOf (ns : List Int) : Bool :=
  pairN (tabFin (tabTold (toldsL ns) (keysL ns.sum)) (cnt ns)) 6 (placesFin (cnt ns)) == (-1) ^ (turnsL (marksL (toldsL ns) (keysL ns.sum)) (cnt ns)).sum.toNat * worthOf (toldsL ns) (keysL ns.sum)
noncomputable def tripOf (e : Int) : Int × Int × Int := (e.fmod 3, roomOf e, (e.fdiv 36).fmod 3)
noncomputable def tripD (t : Int × Int × Int) : D := .tup [.int t.1, .int t.2.1, .int t.2.2]
noncomputable def dTrip : D → Int × Int × Int
  | .tup [a, b, c] => (dI a, dI b, dI c)
  | _ => (0, 0, 0)
theorem rows_like : ∀ rs : List RowT, LikeAll 1 (rs.map rowT) (rs.map rowT)
  | [] => .nil
  | r :: rs => .cons (.tup (.cons .str (.cons .int (.cons .int .nil)))) (rows_like rs)
theorem rows_same : ∀ rs : List RowT, eqds (rs.map rowT) (rs.map rowT) = true
  | [] => rfl
  | r :: rs => by simp [eqds, eqd, rowT, rows_same rs]
theorem tab_like : ∀ t : Tab, LikeAll 1 (t.map fun r => D.list (r.map .int)) (t.map fun r => D.list (r.map .int))
  | [] => .nil
  | r :: t => .cons (.list (by induction r with
    | nil => exact .nil
    | cons a l ih => exact .cons .int ih)) (tab_like t)
theorem ints_same : ∀ r : List Int, eqds (r.map .int) (r.map .int) = true
  | [] => rfl
  | a :: r => by simp [eqds, eqd, ints_same r]
theorem tab_same : ∀ t : Tab, eqds (t.map fun r => D.list (r.map .int)) (t.map fun r => D.list (r.map .int)) = true
  | [] => rfl
  | r :: t => by simp [eqds, eqd, ints_same r, tab_same t]
noncomputable def dS : D → Str
  | .str x => x
  | _ => Str.empty
noncomputable def dRow : D → RowT
  | .tup [a, b, c] => ⟨dS a, dI b, dI c⟩
  | _ => ⟨Str.empty, 0, 0⟩
noncomputable def toldR (r : List Nat) : D := rowD (castR r)
noncomputable def dTold : D → List Nat
  | .tup ds => ds.map dN
  | _ => []
theorem dTold_ok (r : List Nat) : dTold (toldR r) = r := by
  unfold dTold toldR rowD castR
  dsimp only
  rw [List.map_map, List.map_map]
  calc r.map (dN ∘ (D.int ∘ fun k : Nat => (k : Int))) = r.map id := List.map_congr_left fun p _ => dN_natD p
    _ = r := List.map_id r
theorem flat_len {α β : Type} (f : α → List β) (m : Nat) (h : ∀ a, (f a).length ≤ m) : ∀ l : List α, (l.flatMap f).length ≤ m * l.length
  | [] => by simp
  | a :: l => by
    have := flat_len f m h l
    have := h a
    rw [List.flatMap_cons, List.length_append, List.length_cons, Nat.mul_succ]; lia
theorem turns_eq (ms : Tab) (n : Nat) : (turnsL ms n).map D.int = ((List.range n).map natD).flatMap (Gd (fun _ => true) fun d => (((List.range n).take (dN d)).map natD).flatMap (Gd (fun e => gtL (ms.getD (dN e) []) (ms.getD (dN d) [])) fun _ => [.int 1])) := by
  unfold turnsL
  rw [List.map_flatMap, List.flatMap_map]
  congr 1; funext l
  simp only [Gd, if_true, dN_natD]
  rw [List.map_flatMap, List.flatMap_map]
  congr 1; funext e
  simp only [Gd, dN_natD]
  split <;> rfl
theorem turn_len (ms : Tab) {n : Nat} (hn : n ≤ 6) (i : Nat) (d : D) :
    ((((List.range n).map natD).take i).flatMap (Gd (fun _ => true) fun d => (((List.range n).take (dN d)).map natD).flatMap (Gd (fun e => gtL (ms.getD (dN e) []) (ms.getD (dN d) [])) fun _ => [D.int 1]))).length + (((List.range n).take (dN d)).map natD).length ≤ 1000 := by
  have b1 : ∀ d : D, (((List.range n).take (dN d)).map natD).length ≤ 6 := fun d => by
    rw [List.length_map, List.length_take, List.length_range]; lia
  have b2 := flat_len (Gd (fun _ => true) fun d => (((List.range n).take (dN d)).map natD).flatMap (Gd (fun e => gtL (ms.getD (dN e) []) (ms.getD (dN d) [])) fun _ => [D.int 1])) 6 (fun d => by
    have h1 := flat_len (Gd (fun e => gtL (ms.getD (dN e) []) (ms.getD (dN d) [])) fun _ => [D.int 1]) 1 (fun e => by unfold Gd; split <;> simp) (((List.range n).take (dN d)).map natD)
    have h2 := b1 d
    have h3 : Gd (fun _ => true) (fun d => (((List.range n).take (dN d)).map natD).flatMap (Gd (fun e => gtL (ms.getD (dN e) []) (ms.getD (dN d) [])) fun _ => [D.int 1])) d = (((List.range n).take (dN d)).map natD).flatMap (Gd (fun e => gtL (ms.getD (dN e) []) (ms.getD (dN d) [])) fun _ => [D.int 1]) := rfl
    rw [h3]
    lia) (((List.range n).map natD).take i)
  have h1 := b1 d
  have b3 : (((List.range n).map natD).take i).length ≤ 6 := by rw [List.length_take, List.length_map, List.length_range]; lia
  lia
theorem keys_ok (T : Int) : ∀ k ∈ keysL T, k.1 < 3 ∧ -3 ≤ k.2 ∧ k.2 ≤ 3 := by
  have hi0 := fmod_lt T (b := 3) (by decide)
  have hi1 := fmod_lt (T.fdiv 3) (b := 2) (by decide)
  have a0 : i0L T < 3 := by unfold i0L; omega
  have a1 : i1L T < 2 := by unfold i1L; omega
  have b0 := fmod_lt (T.fdiv 6 + 5) (b := 7) (by decide)
  have b1 := fmod_lt (T.fdiv 42) (b := 7) (by decide)
  have b2 := fmod_lt (T.fdiv 294 + 6) (b := 7) (by decide)
  have c0 : colsL.getD (i0L T) 0 < 3 ∧ (colsL.eraseIdx (i0L T)).getD (i1L T) 0 < 3 ∧ ((colsL.eraseIdx (i0L T)).eraseIdx (i1L T)).getD 0 0 < 3 := by
    generalize i0L T = i at a0
    generalize i1L T = j at a1
    match i, a0, j, a1 with
    | 0, _, 0, _ => decide
    | 1, _, 0, _ => decide
    | 2, _, 0, _ => decide
    | 0, _, 1, _ => decide
    | 1, _, 1, _ => decide
    | 2, _, 1, _ => decide
  intro k h
  unfold keysL s0L s1L s2L at h
  rcases List.mem_cons.mp h with rfl | h
  · exact ⟨c0.1, by dsimp only; omega, by dsimp only; omega⟩
  rcases List.mem_cons.mp h with rfl | h
  · exact ⟨c0.2.1, by dsimp only; omega, by dsimp only; omega⟩
  rcases List.mem_singleton.mp h with rfl
  exact ⟨c0.2.2, by dsimp only; omega, by dsimp only; omega⟩
theorem cmpOf_small {l r : List Int} {ks : List Key} (h : ∀ k ∈ ks, -3 ≤ k.2 ∧ k.2 ≤ 3) : -3 ≤ cmpOf l r ks ∧ cmpOf l r ks ≤ 3 := by
  unfold cmpOf
  have := fun p (m : p ∈ ks.filter fun p : Key => l.getD p.1 0 != r.getD p.1 0) => h p (List.mem_filter.mp m).1
  generalize ks.filter (fun p : Key => l.getD p.1 0 != r.getD p.1 0) = fs at this
  match fs, this with
  | [], _ => exact ⟨(by decide : (-3 : Int) ≤ 0), (by decide : (0 : Int) ≤ 3)⟩
  | p :: fs, this =>
    have := this p (.head _)
    simp only [List.map_cons, List.cons_append, List.headD_cons]
    split <;> omega
theorem ent_small {t : Tab} (h : ∀ r ∈ t, ∀ x ∈ r, -3 ≤ x ∧ x ≤ 3) (i j : Nat) : -3 ≤ ent t i j ∧ ent t i j ≤ 3 := by
  unfold ent
  by_cases hi : i < t.length
  · have hr : t.getD i [] = t[i] := by simp [List.getD, hi]
    rw [hr]
    by_cases hj : j < t[i].length
    · have hx : t[i].getD j 0 = t[i][j] := by simp [List.getD, hj]
      rw [hx]
      exact h _ (List.getElem_mem hi) _ (List.getElem_mem hj)
    · have hx : t[i].getD j 0 = 0 := by simp [List.getD, show t[i].length ≤ j by lia]
      rw [hx]; decide
  · have hr : t.getD i [] = [] := by simp [List.getD, show t.length ≤ i by lia]
    rw [hr]; exact ⟨(by decide : (-3 : Int) ≤ 0), (by decide : (0 : Int) ≤ 3)⟩
theorem fin_ok {ts : Told} {ks : List Key} (h5 : ts.length = 5 ∨ ts.length = 6) (hk : ∀ k ∈ ks, -3 ≤ k.2 ∧ k.2 ≤ 3) : TabOk2 (tabFin (tabTold ts ks) ts.length) ts.length 6 := by
  have base : ∀ r ∈ tabTold ts ks, r.length = ts.length ∧ ∀ x ∈ r, -3 ≤ x ∧ x ≤ 3 := fun r hr => by
    unfold tabTold at hr
    obtain ⟨x, hx, rfl⟩ := List.mem_map.mp hr
    refine ⟨List.length_map .., fun y hy => ?_⟩
    obtain ⟨z, hz, rfl⟩ := List.mem_map.mp hy
    exact cmpOf_small hk
  have hlen : (tabTold ts ks).length = ts.length := by unfold tabTold; rw [List.length_map]
  unfold tabFin
  split
  · rename_i h
    refine ⟨by rw [List.length_map, hlen], fun r hr => ?_, ent_small fun r hr x hx => ?_, by decide, by lia⟩
    · obtain ⟨q, hq, rfl⟩ := List.mem_map.mp hr
      rw [List.length_append, (base q hq).1]; simp only [List.length_cons, List.length_nil]; lia
    · obtain ⟨q, hq, rfl⟩ := List.mem_map.mp hr
      rcases List.mem_append.mp hx with m | m
      · exact (base q hq).2 x m
      · rcases List.mem_singleton.mp m with rfl; decide
  · rename_i h
    exact ⟨hlen, fun r hr => by rw [(base r hr).1]; lia, ent_small fun r hr x hx => (base r hr).2 x hx, by decide, by lia⟩
theorem ones_sum : ∀ l : List Int, (∀ x ∈ l, x = 1) → l.sum = (l.length : Nat)
  | [], _ => rfl
  | a :: l, h => by
    rw [List.sum_cons, ones_sum l fun x m => h x (.tail _ m), h a (.head _), List.length_cons]; lia
theorem turns_sum (ms : Tab) {n : Nat} (hn : n ≤ 6) : 0 ≤ (turnsL ms n).sum ∧ (turnsL ms n).sum ≤ 36 := by
  have h1 := ones_sum (turnsL ms n) fun x m => by
    unfold turnsL at m
    obtain ⟨l, _, m⟩ := List.mem_flatMap.mp m
    obtain ⟨e, _, m⟩ := List.mem_flatMap.mp m
    split at m
    · exact List.mem_singleton.mp m
    · cases m
  have h2 : (turnsL ms n).length ≤ 6 * (List.range n).length := flat_len _ 6 (fun l => by
    have := flat_len (fun e => if gtL (ms.getD e []) (ms.getD l []) then [(1 : Int)] else []) 1 (fun e => by split <;> simp) ((List.range n).take l)
    have h3 : ((List.range n).take l).length ≤ n := by rw [List.length_take, List.length_range]; lia
    lia) _
  rw [List.length_range] at h2
  lia
theorem one_pow (k : Nat) : ((-1 : Int) ^ k = 1) ∨ ((-1 : Int) ^ k = -1) := by
  induction k with
  | zero => exact .inl rfl
  | succ k ih => rcases ih with h | h <;> rw [Int.pow_succ, h] <;> decide
noncomputable def intsD (r : List Int) : D := .list (r.map .int)
noncomputable def dInts : D → List Int
  | .list ds => ds.map dI
  | _ => []
theorem dInts_ok (r : List Int) : dInts (intsD r) = r := by
  unfold dInts intsD
  dsimp only
  rw [List.map_map]
  calc r.map (dI ∘ D.int) = r.map id := List.map_congr_left fun p _ => rfl
    _ = r := List.map_id r
theorem fn_law {C : Cx} (H : Has C) (xs : List Int) (hx : xs.length ≤ 1000) (hrow : tabRow (rowsL (numsL xs)) (keysL (numsL xs).sum) = tabTold (toldsL (numsL xs)) (keysL (numsL xs).sum)) (hok : ToldOk (toldsL (numsL xs))) :
    Fn C 165 9 [.list (xs.map .int)] (.bool (lawOf (numsL xs))) := by
  refine fn_pack H (i := 20) (c := 164) (names := ["script"]) (k := 8) (by decide) (fun pm vs h => by obtain ⟨v, rfl⟩ := List.length_eq_one_iff.mp h; rfl) (by decide) rfl
    (fun pm L x c m => by repeat (rcases List.mem_cons.mp m with h | m; · cases h; exact ⟨rfl, rfl⟩)
                          cases m) (fun pm L x m => by rcases List.mem_singleton.mp m with rfl; exact .inl rfl) fun pm A L h8 he => ?_
  have h0 : Rm A 0 := h8.le (by decide)
  have h1 : Rm A 1 := h8.le (by decide)
  have h2 : Rm A 2 := h8.le (by decide)
  have hnl : (numsL xs).length ≤ 63 := by unfold numsL; rw [List.length_map, List.length_take]; lia
  -- numbers
  refine sts_cons (st_assign (d := .list ((numsL xs).map .int)) he (ev_compM (as := xs.take 63) D.int dI (fun x => .int (x.fmod (10 ^ (6 : Int).toNat))) (fun x _ => dI_int x) he h0 (it_list h0 ?_) (by unfold numsL; rw [List.map_map]; rfl) rfl (by rw [List.length_take]; lia) (fun L' x hx' he' => ?_) ?_) (.inr ⟨rfl, rfl⟩) ?_)
  · rw [show (xs.take 63).map D.int = clipped none (some ((63 : Nat) : Int)) (xs.map D.int) by rw [clipped_upto, List.map_take]]
    exact ev_slice h0 (ev_name he rfl) (l := none) (h := some ((63 : Nat) : Int)) trivial ev_int (by rw [List.length_map]; omega)
  · refine ⟨_, [], .name, ?_, trivial, ?_⟩
    · intro q m; rcases List.mem_singleton.mp m with rfl; exact .inl rfl
    · exact ev_bin h0 (ev_name he' rfl) (ev_bin h0 ev_int ev_int (bin_pow (by decide) (by decide) (by decide))) (bin_mod (by decide))
  · intro L' x c m; cases m
  generalize numsL xs = ns at hnl hrow hok ⊢
  -- total
  refine sts_cons (st_assign (d := .int ns.sum) he (ev_bcall (id := "sum") H.ok he h0 rfl (H.miss _ (by decide)) (by decide +kernel) (evl_cons (ev_name he rfl) evl_nil) bf_sum) (.inl rfl) ?_)
  -- base
  refine sts_cons (st_assign (d := .list (base6.map .int)) he (ev_list (evl_cons ev_int (evl_cons ev_int (evl_cons ev_int (evl_cons ev_int (evl_cons ev_int (evl_cons ev_int evl_nil)))))) (by decide)) (.inr ⟨rfl, rfl⟩) ?_)
  -- entries
  have hcn : cnt ns ≤ 6 := by unfold cnt; omega
  refine sts_cons (st_compM (as := List.range (cnt ns)) (R := (entriesL ns).map .int) natD dN (fun k => .int (entryL ns k)) (fun p _ => dN_natD p) he h0 ?_ (by unfold entriesL; rw [List.map_map]; rfl) rfl (by rw [List.length_range]; lia) (fun L' k hk he' => ?_) ?_ (.inl rfl) ?_)
  · rw [← seqI0]
    have e : (6 : Int) - (((ns.map D.int).length : Nat) : Int).fmod 2 = ((cnt ns : Nat) : Int) := by
      rw [List.length_map, Int.fmod_eq_emod_of_nonneg _ (by decide)]; unfold cnt; lia
    refine it_range h0 (ev_tcall (T := "range") H.ok he h0 rfl (H.miss _ (by decide)) (by decide +kernel) (evl_cons (ev_bin h0 ev_int (ev_bin h0 (ev_bcall (id := "len") H.ok he h0 rfl (H.miss _ (by decide)) (by decide +kernel) (evl_cons (ev_name he rfl) evl_nil) (bf_len_list (by rw [List.length_map]; lia))) ev_int (bin_mod (by decide))) bin_sub) evl_nil) tf_range1) ?_ ?_
    · rw [e]; exact range_size 0 _
    · rw [e]; exact range_small (a := 0) (by decide) (by lia)
  · have hk6 : k < 6 := by have := List.mem_range.mp hk; lia
    refine ⟨_, [("base", .list (base6.map .int)), ("numbers", .list (ns.map .int))], .name, ?_, ⟨⟨rfl, rfl, rfl, rfl⟩, ⟨rfl, rfl, rfl, rfl⟩, trivial⟩, ?_⟩
    · intro q m; rcases List.mem_singleton.mp m with rfl; exact .inl rfl
    · refine ev_bin h0 (ev_sub h0 (ev_name he' rfl) (ev_name he' rfl) (item_list (by lia) (by rw [Int.toNat_natCast]; exact getmap hk6) (by decide))) (ev_bcall (id := "sum") H.ok he' h0 rfl (H.miss _ (by decide)) (by decide +kernel) (evl_cons (d := .list ((strided (some (k : Nat)) none (some 6) ns).map .int)) ?_ evl_nil) bf_sum) bin_add
      rw [← strided_map]
      exact ev_slice3 h0 (ev_name he' rfl) (l := some (k : Nat)) (h := none) (ev_name he' rfl) trivial ev_int (by decide) (by rw [List.length_map]; lia)
  · intro L' x c m; cases m
  -- rows, told
  have hel : (entriesL ns).length ≤ 6 := by unfold entriesL; rw [List.length_map, List.length_range]; exact hcn
  refine sts_cons (st_assign (d := rowsD (rowsL ns)) he (ev_compM (as := entriesL ns) D.int dI rowOf (fun x _ => dI_int x) he h0 (it_list h0 (ev_name he rfl)) (by unfold rowsL; rw [List.map_map]; rfl) rfl (by lia) (fun L' x hx' he' => ?_) ?_) (.inr ⟨rfl, rfl⟩) ?_)
  · refine ⟨_, [], .name, ?_, trivial, ?_⟩
    · intro q m; rcases List.mem_singleton.mp m with rfl; exact .inl rfl
    · exact ev_fcall H he' (i := 14) (c := 130) (by decide) rfl (by rfl) (fn_row H x) h2 (evl_cons (ev_name he' rfl) evl_nil)
  · intro L' x c m; cases m
  refine sts_cons (st_assign (d := toldD (toldsL ns)) he (ev_compM (as := entriesL ns) D.int dI toldOf (fun x _ => dI_int x) he h0 (it_list h0 (ev_name he rfl)) (by unfold toldsL; rw [List.map_map]; exact List.map_congr_left fun e _ => (toldN_ok e).symm) rfl (by lia) (fun L' x hx' he' => ?_) ?_) (.inr ⟨rfl, rfl⟩) ?_)
  · refine ⟨_, [], .name, ?_, trivial, ?_⟩
    · intro q m; rcases List.mem_singleton.mp m with rfl; exact .inl rfl
    · exact ev_fcall H he' (i := 15) (c := 137) (by decide) rfl (by rfl) (fn_told H x) h1 (evl_cons (ev_name he' rfl) evl_nil)
  · intro L' x c m; cases m
  -- the rows are as told
  refine sts_cons (st_if (c := false) ?_ (fun h => by cases h) (fun _ => sts_nil ?_))
  · refine (fun h => by rw [rows_same] at h; exact h : Ts _ _ _ _ _ (!eqds ((rowsL ns).map rowT) ((rowsL ns).map rowT)) → Ts _ _ _ _ _ false) ?_
    refine ts_neL h1 (ev_name he rfl) (ev_compM (as := (entriesL ns).map tripOf) tripD dTrip (fun t => .tup [.str (wordAt t.1.toNat), .int t.2.1, .int t.2.2]) (fun x _ => rfl) he h0 (it_list h0 ?_) (by unfold rowsL; rw [List.map_map, List.map_map]; rfl) rfl (by rw [List.length_map]; lia) (fun L' x hx' he' => ?_) ?_) (rows_like _) (by decide)
    · have : toldD (toldsL ns) = .list (((entriesL ns).map tripOf).map tripD) := by
        unfold toldD toldsL
        rw [List.map_map, List.map_map]
        exact congrArg D.list (List.map_congr_left fun e _ => toldN_ok e)
      rw [← this]; exact ev_name he rfl
    · obtain ⟨e, _, rfl⟩ := List.mem_map.mp hx'
      have hw := fmod_lt e (b := 3) (by decide)
      have hw3 : (e.fmod 3).toNat < 3 := by omega
      refine ⟨_, [], .three (by decide) (by decide) (by decide), ?_, trivial, ?_⟩
      · intro q m
        rcases List.mem_cons.mp m with rfl | m
        · exact .inl rfl
        rcases List.mem_cons.mp m with rfl | m
        · exact .inl rfl
        rcases List.mem_singleton.mp m with rfl; exact .inl rfl
      · exact ev_tuple (evl_cons (ev_sub h0 (ev_list (evl_cons ev_str (evl_cons ev_str (evl_cons ev_str evl_nil))) (by decide)) (ev_name he' rfl) (item_list hw.1 (word_get _ hw3) (by decide))) (evl_cons (ev_name he' rfl) (evl_cons (ev_name he' rfl) evl_nil))) (by simp)
    · intro L' x c m; cases m
  -- columns, keys
  generalize hT0 : ns.sum = T at hrow ⊢
  have hi0 := fmod_lt T (b := 3) (by decide)
  have hi1 := fmod_lt (T.fdiv 3) (b := 2) (by decide)
  have hi0' : i0L T < 3 := by unfold i0L; omega
  have hi1' : i1L T < 2 := by unfold i1L; omega
  have get0 : (colsL.map natD)[(T.fmod 3).toNat]? = some (natD (colsL.getD (i0L T) 0)) := by
    show (colsL.map natD)[i0L T]? = _
    generalize i0L T = i at hi0'
    match i, hi0' with
    | 0, _ => rfl
    | 1, _ => rfl
    | 2, _ => rfl
  have get1 : ((colsL.map natD).eraseIdx (T.fmod 3).toNat)[((T.fdiv 3).fmod 2).toNat]? = some (natD ((colsL.eraseIdx (i0L T)).getD (i1L T) 0)) := by
    show ((colsL.map natD).eraseIdx (i0L T))[i1L T]? = _
    generalize i0L T = i at hi0'
    generalize i1L T = j at hi1'
    match i, hi0', j, hi1' with
    | 0, _, 0, _ => rfl
    | 1, _, 0, _ => rfl
    | 2, _, 0, _ => rfl
    | 0, _, 1, _ => rfl
    | 1, _, 1, _ => rfl
    | 2, _, 1, _ => rfl
  have get2 : (((colsL.map natD).eraseIdx (T.fmod 3).toNat).eraseIdx ((T.fdiv 3).fmod 2).toNat)[(0 : Int).toNat]? = some (natD (((colsL.eraseIdx (i0L T)).eraseIdx (i1L T)).getD 0 0)) := by
    show (((colsL.map natD).eraseIdx (i0L T)).eraseIdx (i1L T))[0]? = _
    generalize i0L T = i at hi0'
    generalize i1L T = j at hi1'
    match i, hi0', j, hi1' with
    | 0, _, 0, _ => rfl
    | 1, _, 0, _ => rfl
    | 2, _, 0, _ => rfl
    | 0, _, 1, _ => rfl
    | 1, _, 1, _ => rfl
    | 2, _, 1, _ => rfl
  refine sts_cons (st_own he (evn_list (ds := colsL.map natD) (evl_cons ev_int (evl_cons ev_int (evl_cons ev_int evl_nil))) (by decide)) (.inl rfl) ?_)
  refine sts_cons (st_own he (evn_list1 (d := keyD (colsL.getD (i0L T) 0, s0L T)) (evx_tup2 (evx_pop he (ds := colsL.map natD) rfl (ev_bin h0 (ev_name he rfl) ev_int (bin_mod (by decide))) hi0.1 get0 (by decide)) (ev_bin h0 (ev_bin h0 (ev_bin h0 (ev_bin h0 (ev_name he rfl) ev_int (bin_div (by decide) (np (by decide)))) ev_int bin_add) ev_int (bin_mod (by decide))) ev_int bin_sub))) (.inr ⟨rfl, rfl⟩) ?_)
  refine sts_cons (st_append (x := "keys") he rfl (d := keyD ((colsL.eraseIdx (i0L T)).getD (i1L T) 0, s1L T)) (evx_tup2 (evx_pop he (ds := (colsL.map natD).eraseIdx (T.fmod 3).toNat) rfl (ev_bin h0 (ev_bin h0 (ev_name he rfl) ev_int (bin_div (by decide) (np (by decide)))) ev_int (bin_mod (by decide))) hi1.1 get1 ?_) (ev_bin h0 (ev_bin h0 (ev_bin h0 (ev_name he rfl) ev_int (bin_div (by decide) (np (by decide)))) ev_int (bin_mod (by decide))) ev_int bin_sub)) rfl (by simp) ?_)
  · exact Nat.le_trans (List.length_eraseIdx_le _ _) (by decide)
  refine Sts.freeze (x := "columns") (ds := ((colsL.map natD).eraseIdx (T.fmod 3).toNat).eraseIdx ((T.fdiv 3).fmod 2).toNat) rfl ?_
  refine sts_cons (st_append (x := "keys") he rfl (d := keyD (((colsL.eraseIdx (i0L T)).eraseIdx (i1L T)).getD 0 0, s2L T)) (evx_ev (ev_tuple (evl_cons (ev_sub h0 (ev_name he rfl) ev_int (item_list (by decide) get2 ?_)) (evl_cons (ev_bin h0 (ev_bin h0 (ev_bin h0 (ev_bin h0 (ev_name he rfl) ev_int (bin_div (by decide) (np (by decide)))) ev_int bin_add) ev_int (bin_mod (by decide))) ev_int bin_sub) evl_nil)) (by simp))) rfl (by simp) ?_)
  · exact Nat.le_trans (List.length_eraseIdx_le _ _) (Nat.le_trans (List.length_eraseIdx_le _ _) (by decide))
  refine Sts.freeze (x := "keys") (ds := (keysL T).map keyD) rfl ?_
  have hk3 : ∀ k ∈ keysL T, k.1 < 3 ∧ -3 ≤ k.2 ∧ k.2 ≤ 3 := keys_ok T
  have hkl : (keysL T).length = 3 := rfl
  generalize hks : keysL T = ks at hrow hk3 hkl ⊢
  have hrl : (rowsL ns).length ≤ 6 := by unfold rowsL; rw [List.length_map]; exact hel
  have htl : (toldsL ns).length ≤ 6 := hok.few
  generalize hrs : rowsL ns = rs at hrow hrl ⊢
  generalize hts : toldsL ns = ts at hrow hok htl ⊢
  refine sts_cons (st_assign (d := .inst (.tup (ks.map keyD))) he (ev_make H he h2 rfl (by rfl) (evl_cons (ev_tcall (T := "tuple") H.ok he h0 rfl (H.miss _ (by decide)) (by decide +kernel) (evl_cons (ev_name he rfl) evl_nil) (tf_tuple (by rw [List.length_map]; lia))) evl_nil)) (.inr ⟨rfl, rfl⟩) ?_)
  -- table
  refine sts_cons (st_compM (as := rs) (R := (tabRow rs ks).map fun r => .list (r.map .int)) rowT dRow (fun x => .list ((rs.map fun y => cmpR x y ks).map .int)) (fun p _ => rfl) he h0 (it_list h0 (ev_name he rfl)) (by unfold tabRow; rw [List.map_map]; rfl) rfl (by lia) (fun L' x hx' he' => ?_) ?_ (.inl rfl) ?_)
  · refine ⟨_, [("rows", rowsD rs), ("comparer", .inst (.tup (ks.map keyD)))], .name, ?_, ⟨⟨rfl, rfl, rfl, rfl⟩, ⟨rfl, rfl, rfl, rfl⟩, trivial⟩, ?_⟩
    · intro q m; rcases List.mem_singleton.mp m with rfl; exact .inr ⟨rfl, rfl⟩
    · refine ev_compM (as := rs) rowT dRow (fun y => .int (cmpR x y ks)) (fun p _ => rfl) he' h0 (it_list h0 (ev_name he' rfl)) (by rw [List.map_map]; rfl) rfl (by lia) (fun L'' y hy he'' => ?_) ?_
      · refine ⟨_, [("one", rowT x), ("comparer", .inst (.tup (ks.map keyD)))], .name, ?_, ⟨⟨rfl, rfl, rfl, rfl⟩, ⟨rfl, rfl, rfl, rfl⟩, trivial⟩, ?_⟩
        · intro q m; rcases List.mem_singleton.mp m with rfl; exact .inl rfl
        · exact ev_compare H h1 (ev_name he'' rfl) (evl_cons (ev_name he'' rfl) (evl_cons (ev_name he'' rfl) evl_nil)) (fn_compare H x y ks (fun p h => (hk3 p h).1) (by lia))
      · intro L' x c m; cases m
  · intro L' x c m
    repeat (rcases List.mem_cons.mp m with h | m; · cases h; exact ⟨rfl, rfl⟩)
    cases m
  -- the table is as compared
  have hr3 : ∀ r ∈ ts, (castR r).length = 3 := fun r h => by unfold castR; rw [List.length_map]; exact hok.rows r h
  refine sts_cons (st_if (c := false) ?_ (fun h => by cases h) (fun _ => sts_nil ?_))
  · refine (fun h => by rw [tab_same] at h; exact h : Ts _ _ _ _ _ (!eqds ((tabTold ts ks).map fun r => D.list (r.map .int)) ((tabTold ts ks).map fun r => D.list (r.map .int))) → Ts _ _ _ _ _ false) ?_
    refine ts_neL h1 (ev_name he ?_) (ev_compM (as := ts) toldR dTold (fun x => .list ((ts.map fun y => cmpOf (castR x) (castR y) ks).map .int)) (fun p _ => dTold_ok p) he h0 (it_list h0 (ev_name he rfl)) (by unfold tabTold; rw [List.map_map]; rfl) rfl (by lia) (fun L' x hx' he' => ?_) ?_) (tab_like _) (by decide)
    · rw [hrow]; rfl
    · refine ⟨_, [("told", toldD ts), ("keys", .list (ks.map keyD))], .name, ?_, ⟨⟨rfl, rfl, rfl, rfl⟩, ⟨rfl, rfl, rfl, rfl⟩, trivial⟩, ?_⟩
      · intro q m; rcases List.mem_singleton.mp m with rfl; exact .inr ⟨rfl, rfl⟩
      · refine ev_compM (as := ts) toldR dTold (fun y => .int (cmpOf (castR x) (castR y) ks)) (fun p _ => dTold_ok p) he' h0 (it_list h0 (ev_name he' rfl)) (by rw [List.map_map]; rfl) rfl (by lia) (fun L'' y hy he'' => ?_) ?_
        · refine ⟨_, [("one", toldR x), ("keys", .list (ks.map keyD))], .name, ?_, ⟨⟨rfl, rfl, rfl, rfl⟩, ⟨rfl, rfl, rfl, rfl⟩, trivial⟩, ?_⟩
          · intro q m; rcases List.mem_singleton.mp m with rfl; exact .inl rfl
          · exact ev_fcall H he'' (i := 16) (c := 142) (by decide) rfl (by rfl) (fn_compared H (castR x) (castR y) ks (hr3 x hx') (hr3 y hy) (fun p h => (hk3 p h).1) (by lia)) h1 (evl_cons (ev_name he'' rfl) (evl_cons (ev_name he'' rfl) (evl_cons (ev_name he'' rfl) evl_nil)))
        · intro L' x c m; cases m
    · intro L' x c m
      repeat (rcases List.mem_cons.mp m with h | m; · cases h; exact ⟨rfl, rfl⟩)
      cases m
  -- the worth
  have hsh : ((((ns.map D.int).length : Nat) : Int).fmod 23) = ((ns.length % 23 : Nat) : Int) := by
    rw [List.length_map, Int.fmod_eq_emod_of_nonneg _ (by decide)]; rfl
  refine sts_cons (st_assign (d := .int (worthOf ts ks)) he (ev_fcall H he (i := 18) (c := 152) (by decide) rfl (by rfl) (fn_worth H hok ks hk3 (by lia) (ns.length % 23) (by have := Nat.mod_lt ns.length (show 0 < 23 by decide); lia)) h2 (evl_cons (ev_name he rfl) (evl_cons (ev_name he rfl) (evl_cons ?_ evl_nil)))) (.inl rfl) ?_)
  · rw [← hsh]
    exact ev_bin h0 (ev_bcall (id := "len") H.ok he h0 rfl (H.miss _ (by decide)) (by decide +kernel) (evl_cons (ev_name he rfl) evl_nil) (bf_len_list (by rw [List.length_map]; lia))) ev_int (bin_mod (by decide))
  refine sts_cons (st_if (c := false) (ts_cmp H.ok h0 (ev_name he rfl) ev_none (cmp_is (d := .int (worthOf ts ks)) rfl)) (fun h => by cases h) (fun _ => sts_nil ?_))
  -- marks
  refine sts_cons (st_assign (d := tabD (marksL ts ks)) he (ev_compM (as := ts) toldR dTold (fun r => .list ((markOf r ks).map .int)) (fun p _ => dTold_ok p) he h0 (it_list h0 (ev_name he rfl)) (by unfold marksL; rw [List.map_map]; rfl) rfl (by lia) (fun L' r hr' he' => ?_) ?_) (.inr ⟨rfl, rfl⟩) ?_)
  · have hr33 := hr3 r hr'
    refine ⟨_, [("keys", .list (ks.map keyD))], .name, ?_, ⟨⟨rfl, rfl, rfl, rfl⟩, trivial⟩, ?_⟩
    · intro q m; rcases List.mem_singleton.mp m with rfl; exact .inr ⟨rfl, rfl⟩
    · refine ev_compM (as := ks) keyD dKey (fun k => .int (if decide (k.2 < 0) then -((r.getD k.1 0 : Nat) : Int) else ((r.getD k.1 0 : Nat) : Int))) (fun p _ => dKey_keyD p) he' h0 (it_list h0 (ev_name he' rfl)) (by unfold markOf; rw [List.map_map]; rfl) rfl (by lia) (fun L'' k hk he'' => ?_) ?_
      · have hc := (hk3 k hk).1
        have hget : (castR r).getD k.1 0 = ((r.getD k.1 0 : Nat) : Int) := by
          have h3 : k.1 < r.length := by unfold castR at hr33; rw [List.length_map] at hr33; lia
          unfold castR
          simp [List.getD, h3]
        have hit := item_row (l := castR r) (c := k.1) (by lia) (by lia)
        rw [hget] at hit
        refine ⟨_, [("entry", toldR r)], .two (by decide), ?_, ⟨⟨rfl, rfl, rfl, rfl⟩, trivial⟩, ?_⟩
        · intro q m
          rcases List.mem_cons.mp m with rfl | m
          · exact .inl rfl
          rcases List.mem_singleton.mp m with rfl; exact .inl rfl
        · refine ev_if (c := decide (k.2 < 0)) (ts_cmp H.ok h0 (ev_name he'' rfl) ev_int cmp_lt) (fun e => ?_) (fun e => ?_)
          · rw [if_pos e]; exact ev_neg (ev_sub h0 (ev_name he'' rfl) (ev_name he'' rfl) hit)
          · rw [if_neg (by rw [e]; simp)]; exact ev_sub h0 (ev_name he'' rfl) (ev_name he'' rfl) hit
      · intro L' x c m; cases m
  · intro L' x c m
    repeat (rcases List.mem_cons.mp m with h | m; · cases h; exact ⟨rfl, rfl⟩)
    cases m
  -- places
  have hrn : rs.length = cnt ns := by rw [← hrs]; unfold rowsL entriesL; rw [List.length_map, List.length_map, List.length_range]
  have htn : ts.length = cnt ns := by rw [← hts]; unfold toldsL entriesL; rw [List.length_map, List.length_map, List.length_range]
  have hlenrow : ((((rs.map rowT).length : Nat) : Int)) = ((cnt ns : Nat) : Int) := by rw [List.length_map, hrn]
  refine sts_cons (st_assign (d := .list ((List.range (cnt ns)).map natD)) he ?_ (.inr ⟨rfl, rfl⟩) ?_)
  · have := @tf_list_range 0 (cnt ns : Nat) (cnt ns) (range_size 0 _) (range_small (a := 0) (by decide) (by lia)) (by lia)
    rw [seqI0, ← hlenrow] at this
    exact ev_tcall (T := "list") H.ok he h0 rfl (H.miss _ (by decide)) (by decide +kernel) (evl_cons (ev_tcall (T := "range") H.ok he h0 rfl (H.miss _ (by decide)) (by decide +kernel) (evl_cons (ev_bcall (id := "len") H.ok he h0 rfl (H.miss _ (by decide)) (by decide +kernel) (evl_cons (ev_name he rfl) evl_nil) (bf_len_list (by rw [List.length_map]; lia))) evl_nil) tf_range1) evl_nil) this
  -- turned
  refine sts_cons (st_assign (d := .int (turnsL (marksL ts ks) (cnt ns)).sum) he (ev_bcall (id := "sum") H.ok he h0 rfl (H.miss _ (by decide)) (by decide +kernel) (evl_cons (d := .list ((turnsL (marksL ts ks) (cnt ns)).map .int)) ?_ evl_nil) bf_sum) (.inl rfl) ?_)
  · have hml : ∀ e < cnt ns, ((marksL ts ks).getD e []).length = ks.length := fun e he => by
      unfold marksL markOf; simp [List.getD, show e < ts.length by lia]
    rw [turns_eq]
    refine ev_comp2 (fun d => ((List.range (cnt ns)).take (dN d)).map natD) (fun d e => gtL ((marksL ts ks).getD (dN e) []) ((marksL ts ks).getD (dN d) [])) (fun _ _ => .int 1) h0 (it_list h0 (ev_name he rfl)) rfl rfl (by decide) (fun L x c m => by cases m) (fun _ => rfl) (fun _ _ => rfl) (fun i d hd => ?_) (fun L' d hd => ?_)
    · exact turn_len _ hcn i d
    · obtain ⟨l, hl, rfl⟩ := List.mem_map.mp hd
      have hl' := List.mem_range.mp hl
      have hpl : ∀ e < cnt ns, (tabD (marksL ts ks)) = tabD (marksL ts ks) ∧ Item (tabD (marksL ts ks)) (natD e) (.list (((marksL ts ks).getD e []).map .int)) := fun e he => by
        have hm : e < (marksL ts ks).length := by unfold marksL; rw [List.length_map]; lia
        refine ⟨rfl, item_list (by lia) ?_ (by rw [List.length_map]; unfold marksL; rw [List.length_map]; lia)⟩
        rw [Int.toNat_natCast]; simp [List.getD, hm]
      refine ⟨_, [("places", .list ((List.range (cnt ns)).map natD)), ("marks", tabD (marksL ts ks))], .name, ?_, ⟨⟨rfl, rfl, rfl, rfl⟩, ⟨rfl, rfl, rfl, rfl⟩, trivial⟩, ?_, fun e hem => ?_⟩
      · intro q m; rcases List.mem_singleton.mp m with rfl; exact .inl rfl
      · rw [dN_natD]
        refine it_list h0 ?_
        rw [List.map_take, ← clipped_upto]
        exact ev_slice h0 (ev_name ⟨rfl, he.globals, he.builtins⟩ rfl) (l := none) (h := some ((l : Nat) : Int)) trivial (ev_name ⟨rfl, he.globals, he.builtins⟩ rfl) (by rw [List.length_map, List.length_range]; lia)
      · obtain ⟨j, hj, rfl⟩ := List.mem_map.mp hem
        have hj' := List.mem_range.mp (List.mem_of_mem_take hj)
        rw [dN_natD, dN_natD]
        refine ⟨_, .name, ?_, ?_, tests_one (ts_cmp H.ok h0 (ev_sub h0 (ev_name ⟨rfl, he.globals, he.builtins⟩ rfl) (ev_name ⟨rfl, he.globals, he.builtins⟩ rfl) (hpl j hj').2) (ev_sub h0 (ev_name ⟨rfl, he.globals, he.builtins⟩ rfl) (ev_name ⟨rfl, he.globals, he.builtins⟩ rfl) (hpl l hl').2) (cmp_gtL (by rw [hml j hj', hml l hl']))), fun _ => ev_int⟩
        · intro q m; rcases List.mem_singleton.mp m with rfl; exact .inl rfl
        · intro x hx
          by_cases q : x = Str.ofString "earlier"
          · subst q; exact absurd rfl hx
          · simp [List.lookup, beq_eq_false_iff_ne.mpr q]
  have hts5 : ts.length = 5 ∨ ts.length = 6 := by rw [htn]; unfold cnt; lia
  have TO := fin_ok hts5 (fun k m => (hk3 k m).2)
  rw [htn] at TO
  have hsum := turns_sum (marksL ts ks) hcn
  have hpow : ∀ x : Int, IntMulOk ((-1 : Int) ^ (turnsL (marksL ts ks) (cnt ns)).sum.toNat) x := fun x => intMul_small (by rcases one_pow (turnsL (marksL ts ks) (cnt ns)).sum.toNat with e | e <;> rw [e] <;> decide)
  have hrange : ∀ p ∈ List.range (cnt ns), p < cnt ns := fun p m => List.mem_range.mp m
  have h7 : Rm A 7 := h8.le (by decide)
  refine sts_cons (st_if (ts_cmp H.ok h0 (ev_bin h0 (ev_bcall (id := "len") H.ok he h0 rfl (H.miss _ (by decide)) (by decide +kernel) (evl_cons (ev_name he rfl) evl_nil) (bf_len_list (by rw [List.length_map, List.length_range]; lia))) ev_int (bin_mod (by decide))) ev_int cmp_eq) (fun e => ?_) (fun e => ?_))
  · have e' : cnt ns % 2 = 1 := by
      have := eq_of_beq e
      rw [List.length_map, List.length_range, Int.fmod_eq_emod_of_nonneg _ (by decide)] at this
      lia
    have hT : tabFin (tabTold ts ks) (cnt ns) = (tabTold ts ks).map fun r => r ++ [1] := by unfold tabFin; rw [if_pos e']
    have hP : placesFin (cnt ns) = cnt ns :: List.range (cnt ns) := by unfold placesFin; rw [if_pos e']
    refine sts_cons (st_compM (as := tabTold ts ks) (R := (tabFin (tabTold ts ks) (cnt ns)).map intsD) intsD dInts (fun r => intsD (r ++ [1])) (fun r _ => dInts_ok r) he h0 (it_list h0 (ev_name he ?_)) (by rw [hT, List.map_map]; rfl) rfl (by unfold tabTold; rw [List.length_map]; lia) (fun L' r hr' he' => ?_) ?_ (.inl rfl) ?_)
    · rw [← hrow]; rfl
    · refine ⟨_, [], .name, ?_, trivial, ?_⟩
      · intro q m; rcases List.mem_singleton.mp m with rfl; exact .inl rfl
      · have hrl' : r.length ≤ 6 := by
          unfold tabTold at hr'
          obtain ⟨x, hx, rfl⟩ := List.mem_map.mp hr'
          rw [List.length_map]; omega
        unfold intsD
        rw [List.map_append]
        exact ev_bin h0 (ev_name he' rfl) (ev_list (evl_cons ev_int evl_nil)) (bin_catL (by rw [List.length_map]; simp only [List.length_cons, List.length_nil]; lia))
    · intro L' x c m; cases m
    refine sts_cons (st_assign (d := .list ((placesFin (cnt ns)).map natD)) he ?_ (.inr ⟨rfl, rfl⟩) (sts_nil ?_))
    · rw [hP, List.map_cons, show natD (cnt ns) = .int (((rs.map rowT).length : Nat) : Int) from congrArg D.int hlenrow.symm]
      exact ev_bin h0 (ev_list (evl_cons (ev_bcall (id := "len") H.ok he h0 rfl (H.miss _ (by decide)) (by decide +kernel) (evl_cons (ev_name he rfl) evl_nil) (bf_len_list (by rw [List.length_map]; lia))) evl_nil)) (ev_name he rfl) (bin_catL (by simp only [List.length_map, List.length_range, List.length_cons, List.length_nil]; lia))
    · refine sts_cons (st_return (ev_cmp H.ok h0 (ev_fcall H he (i := 19) (c := 159) (by decide) rfl (by rfl) (fn_pairings2 H _ (cnt ns) 6 TO 6 (placesFin (cnt ns)) (by rw [hP, List.length_cons, List.length_range]; lia) (by decide) (fun p m => ?_) (fun p m => ?_)) h7 (evl_cons (ev_name he rfl) (evl_cons (ev_name he rfl) evl_nil))) (ev_bin h0 (ev_bin h0 (ev_neg ev_int) (ev_name he rfl) (bin_pow hsum.1 (by lia) (by decide))) (ev_name he rfl) (bin_mul (hpow _))) cmp_eq) ?_)
      · rw [hP] at m
        rcases List.mem_cons.mp m with rfl | m
        · lia
        · have := hrange p m; lia
      · rw [hP] at m; exact hrange p m
      · unfold lawOf; rw [hT0, hks, hts]; rfl
  · have e' : ¬ cnt ns % 2 = 1 := fun q => by
      have : (((((List.range (cnt ns)).map natD).length : Nat) : Int).fmod 2 == 1) = true := by
        rw [List.length_map, List.length_range, Int.fmod_eq_emod_of_nonneg _ (by decide)]
        exact beq_iff_eq.mpr (by lia)
      rw [this] at e; cases e
    have hT : tabFin (tabTold ts ks) (cnt ns) = tabTold ts ks := by unfold tabFin; rw [if_neg e']
    have hP : placesFin (cnt ns) = List.range (cnt ns) := by unfold placesFin; rw [if_neg e']
    refine sts_nil (sts_cons (st_return (ev_cmp H.ok h0 (ev_fcall H he (i := 19) (c := 159) (by decide) rfl (by rfl) (fn_pairings2 H _ (cnt ns) 6 TO 6 (placesFin (cnt ns)) (by rw [hP, List.length_range]; omega) (by decide) (fun p m => ?_) (fun p m => ?_)) h7 (evl_cons (ev_name he ?_) (evl_cons (ev_name he ?_) evl_nil))) (ev_bin h0 (ev_bin h0 (ev_neg ev_int) (ev_name he rfl) (bin_pow hsum.1 (by lia) (by decide))) (ev_name he rfl) (bin_mul (hpow _))) cmp_eq) ?_))
    · rw [hP] at m; have := hrange p m; lia
    · rw [hP] at m; exact hrange p (List.mem_of_mem_drop m)
    · rw [hT, ← hrow]; rfl
    · rw [hP]; rfl
    · unfold lawOf; rw [hT0, hks, hts]; rfl
end Zn
/-! part ZhA -/
namespace Zh
open PySem PySem.W PySem.Calls PyProof.Rows PySem.Spec
/-! exact runs of straight code at the top -/
noncomputable abbrev prg : Program := PySem.Challenge.pw_zn0031_01
noncomputable abbrev go (w : World) (n : Nat) (s : Shared) (t : Thread) : Option (Shared × Thread) := segGo treeTable prg w 11 (some (.ref 6)) 1 n s t
noncomputable abbrev B1 : List Frame := [topFrame ⟨0, 0, 0, 0⟩]
theorem go_trans {w : World} : ∀ {n m : Nat} {s s' s'' : Shared} {t t' t'' : Thread}, go w n s t = some (s', t') → go w m s' t' = some (s'', t'') → go w (n + m) s t = some (s'', t'')
  | 0, m, s, s', s'', t, t', t'', h, k => by
    obtain ⟨rfl, rfl⟩ : s = s' ∧ t = t' := by simpa [go, segGo] using h
    rw [Nat.zero_add]; exact k
  | n + 1, m, s, s', s'', t, t', t'', h, k => by
    rw [show n + 1 + m = n + m + 1 by lia]
    unfold go segGo at h ⊢
    cases he : endAt 1 t with
    | some f => rw [he] at h; cases h
    | none =>
      rw [he] at h
      cases hk : stepOk 11 (some (.ref 6)) t with
      | false => rw [hk] at h; cases h
      | true =>
        rw [hk] at h
        cases hs : step (denote treeTable) prg w s t with
        | halt o s₂ => rw [hs] at h; cases h
        | go s₂ t₂ => rw [hs] at h; exact go_trans h k
structure Ends (w : World) (n : Nat) (s : Shared) (t : Thread) (s' : Shared) (t' : Thread) : Prop where
  ex : ∃ m, m ≤ n ∧ go w m s t = some (s', t')
theorem Ends.refl {w : World} {n : Nat} {s : Shared} {t : Thread} : Ends w n s t s t := ⟨0, Nat.zero_le _, rfl⟩
theorem Ends.trans {w : World} {n m : Nat} {s s' s'' : Shared} {t t' t'' : Thread} (h : Ends w n s t s' t') (k : Ends w m s' t' s'' t'') : Ends w (n + m) s t s'' t'' := by
  obtain ⟨a, ha, h⟩ := h
  obtain ⟨b, hb, k⟩ := k
  exact ⟨a + b, Nat.add_le_add ha hb, go_trans h k⟩
theorem Ends.of {w : World} {n : Nat} {s s' : Shared} {t t' : Thread} (h : go w n s t = some (s', t')) : Ends w n s t s' t' := ⟨n, Nat.le_refl _, h⟩
noncomputable abbrev thr {α : Type} (x : Sem α) (K : α → Sem Fin) (H : Value → Sem Fin) (gd : Bool → Bool) (lv : List Value → List Value) (b : List Stmt) (env : Env) (q : Pos) : Thread := ⟨x.wrap K H gd lv, .body b env, q, B1⟩
structure Runs {α : Type} (w : World) (n : Nat) (x : Sem α) (s : Shared) (q : Pos) (a : α) (s' : Shared) (q' : Pos) : Prop where
  run : ∀ (K : α → Sem Fin) (H : Value → Sem Fin) (gd : Bool → Bool) (lv : List Value → List Value) (b : List Stmt) (env : Env), Ends w n s (thr x K H gd lv b env q) s' ⟨K a, .body b env, q', B1⟩
section
variable {α β : Type} {w : World} {n m : Nat} {s s' s'' : Shared} {q q' q'' : Pos}
theorem runs_pure {a : α} : Runs w 0 (Sem.pure a) s q a s q := ⟨fun _ _ _ _ _ _ => Ends.refl⟩
theorem Runs.le {x : Sem α} {a : α} (h : Runs w n x s q a s' q') (k : n ≤ m) : Runs w m x s q a s' q' := ⟨fun K H gd lv b env => by
  obtain ⟨i, hi, e⟩ := h.run K H gd lv b env
  exact ⟨i, Nat.le_trans hi k, e⟩⟩
theorem runs_wrap {x : Sem α} {a : α} {f : α → Sem β} {H : Value → Sem β} {gd : Bool → Bool} {lv : List Value → List Value} {c : β} (h : Runs w n x s q a s' q') (k : Runs w m (f a) s' q' c s'' q'') : Runs w (n + m) (x.wrap f H gd lv) s q c s'' q'' := ⟨fun K H' gd' lv' b env => by
  unfold thr
  rw [Sem.wrap_wrap]
  exact (h.run _ _ _ _ b env).trans (k.run K H' gd' lv' b env)⟩
theorem runs_bind {x : Sem α} {a : α} {f : α → Sem β} {c : β} (h : Runs w n x s q a s' q') (k : Runs w m (f a) s' q' c s'' q'') : Runs w (n + m) (x >>= f) s q c s'' q'' := by
  rw [Sem.bind_eq_wrap']; exact runs_wrap h k
theorem runs_keep {l : List Value} {x : Sem α} {a : α} (h : Runs w n x s q a s' q') : Runs w n (x.keep l) s q a s' q' := by
  rw [Sem.keep_eq_wrap]; exact runs_wrap h runs_pure
theorem runs_holding {l : List Value} {x : Sem α} {a : α} (h : Runs w n x s q a s' q') : Runs w n (holding l x) s q a s' q' := by
  unfold holding; split
  · exact h
  · exact runs_keep h
theorem runs_onRaise {x : Sem α} {a : α} {f : Value → Sem Unit} (h : Runs w n x s q a s' q') : Runs w n (x.onRaise f) s q a s' q' := by
  rw [Sem.onRaise_eq_wrap]; exact runs_wrap h runs_pure
theorem runs_load {a : Addr} {p : Option Value} {o : Obj} {k : Obj → Sem α} {c : α} (h : s.heap.get? a = some o) (r : Runs w n (k o) s q c s' q') : Runs w (1 + n) (.load a p k) s q c s' q' := ⟨fun K H gd lv b env => by
  refine Ends.trans (n := 1) (Ends.of ?_) (r.run K H gd lv b env)
  obtain ⟨hp, g, d, t, os⟩ := s
  show (match step (denote treeTable) prg w ⟨hp, g, d, t, os⟩ ⟨.load a p fun x => (k x).wrap K H gd lv, .body b env, q, B1⟩ with | .go s' t' => some (s', t') | .halt _ _ => none) = _
  simp only [step, show hp.get? a = some o from h]⟩
theorem runs_update {a : Addr} {p : Option Value} {f : Obj → Obj} {k : Unit → Sem α} {c : α} (h : (s.heap.get? a).isSome = true) (ha : Nat.ble 11 a = true) (r : Runs w n (k ()) { s with heap := s.heap.update a f } q c s' q') : Runs w (1 + n) (.update a p f k) s q c s' q' := ⟨fun K H gd lv b env => by
  refine Ends.trans (n := 1) (Ends.of ?_) (r.run K H gd lv b env)
  obtain ⟨hp, g, d, t, os⟩ := s
  show (match stepOk 11 (some (.ref 6)) ⟨.update a p f fun x => (k x).wrap K H gd lv, .body b env, q, B1⟩ with | false => none | true => match step (denote treeTable) prg w ⟨hp, g, d, t, os⟩ ⟨.update a p f fun x => (k x).wrap K H gd lv, .body b env, q, B1⟩ with | .go s' t' => some (s', t') | .halt _ _ => none) = _
  rw [show stepOk 11 (some (.ref 6)) ⟨.update a p f fun x => (k x).wrap K H gd lv, .body b env, q, B1⟩ = true by
    show (true && (Nat.ble 11 a || a == mainNs || a == cStatics || _)) = true
    rw [ha]; rfl]
  simp only [step, show (hp.get? a).isSome = true from h, if_true]⟩
theorem runs_alloc {o : Obj} {k : Addr → Sem α} {c : α} (r : Runs w n (k s.heap.objs.size) { s with heap := s.heap.push o } q c s' q') : Runs w (1 + n) (.alloc o k) s q c s' q' := ⟨fun K H gd lv b env => by
  refine Ends.trans (n := 1) (Ends.of ?_) (r.run K H gd lv b env)
  rfl⟩
theorem runs_rule {t : String} {k : Unit → Sem α} {c : α} (r : Runs w n (k ()) s q c s' q') : Runs w (1 + n) (.rule t k) s q c s' q' := ⟨fun K H gd lv b env => Ends.trans (n := 1) (Ends.of rfl) (r.run K H gd lv b env)⟩
theorem runs_at {p : Pos} {k : Unit → Sem α} {c : α} (r : Runs w n (k ()) s p c s' q') : Runs w (1 + n) (.at p k) s q c s' q' := ⟨fun K H gd lv b env => Ends.trans (n := 1) (Ends.of rfl) (r.run K H gd lv b env)⟩
theorem runs_fresh {k : Tok → Sem α} {c : α} (r : Runs w n (k s.toks) { s with toks := s.toks + 1 } q c s' q') : Runs w (1 + n) (.fresh k) s q c s' q' := ⟨fun K H gd lv b env => Ends.trans (n := 1) (Ends.of rfl) (r.run K H gd lv b env)⟩
/-- a loop over a list -/
theorem runs_forIn {l : List α} {f : α → β → Sem (ForInStep β)} (st : Nat → β) (S : Nat → Shared) (Q : Nat → Pos) (c : Nat) (turn : ∀ i (h : i < l.length), Runs w c (f l[i] (st i)) (S i) (Q i) (.yield (st (i + 1))) (S (i + 1)) (Q (i + 1))) :
    Runs w (c * l.length) (forIn l (st 0) f) (S 0) (Q 0) (st l.length) (S l.length) (Q l.length) := by
  induction l generalizing st S Q with
  | nil => exact runs_pure
  | cons a l ih =>
    rw [List.forIn_cons]
    have h0 := turn 0 (by simp)
    have := ih (fun i => st (i + 1)) (fun i => S (i + 1)) (fun i => Q (i + 1)) (fun i h => turn (i + 1) (by simp; omega))
    rw [List.length_cons, Nat.mul_succ, Nat.add_comm]
    exact runs_bind h0 this
end
end Zh
/-! part ZhB -/
namespace Zh
open PySem PySem.W PySem.Calls PyProof.Rows PySem.Spec PyProof
theorem tw_segGo : @segGo = PySem.W.Fast.tw3277212676724774461 := PySem.W.Fast.te3277212676724774461
theorem tw_table : treeTable = PySem.W.Fast.tw14364793385576792824 := PySem.W.Fast.te14364793385576792824
theorem tw_hash : pyHash = PySem.W.Fast.tw10540108854288196387 := PySem.W.Fast.te10540108854288196387
theorem hash_false (w : World) : (fun (i : Int) (t : Tok) (s : Shared) (q : Pos) (K : Int → Sem Fin) (H : Value → Sem Fin) (gd : Bool → Bool) (lv : List Value → List Value) (b : List Stmt) (env : Env) => segGo treeTable prg (w.withFollow "special-get-raises" false) 11 (some (.ref 6)) 1 5 s (thr (pyHash (.int i t)) K H gd lv b env q)) =
    fun i t s q K H gd lv b env => some ({ s with toks := s.toks + 1 }, thr (pyHashByItsType.reduced (rawHash i)) K H gd lv b env q) := by
  rw [tw_segGo, tw_table, tw_hash]
  kernel_rfl!
theorem hash_true (w : World) : (fun (i : Int) (t : Tok) (s : Shared) (q : Pos) (K : Int → Sem Fin) (H : Value → Sem Fin) (gd : Bool → Bool) (lv : List Value → List Value) (b : List Stmt) (env : Env) => segGo treeTable prg (w.withFollow "special-get-raises" true) 11 (some (.ref 6)) 1 5 s (thr (pyHash (.int i t)) K H gd lv b env q)) =
    fun i t s q K H gd lv b env => some ({ s with toks := s.toks + 1 }, thr (pyHashByItsType.reduced (rawHash i)) K H gd lv b env q) := by
  rw [tw_segGo, tw_table, tw_hash]
  kernel_rfl!
end Zh
namespace Zh
open PySem PySem.W PySem.Calls PyProof.Rows PySem.Spec PyProof
section
variable {α β : Type} {w : World} {n m : Nat} {s s' s'' : Shared} {q q' q'' : Pos}
theorem runs_hash_any {i : Int} {t : Tok} : Runs w 5 (pyHash (.int i t)) s q (hashInt i) { s with toks := s.toks + 1 } q := by
  have h : ∀ w : World, ∀ (K : Int → Sem Fin) (H : Value → Sem Fin) (gd : Bool → Bool) (lv : List Value → List Value) (b : List Stmt) (env : Env),
      segGo treeTable prg w 11 (some (.ref 6)) 1 5 s (thr (pyHash (.int i t)) K H gd lv b env q) = some ({ s with toks := s.toks + 1 }, thr (pyHashByItsType.reduced (rawHash i)) K H gd lv b env q) :=
    byRow2 "special-get-raises" (fun w K H gd lv b env => congrFun (congrFun (congrFun (congrFun (congrFun (congrFun (congrFun (congrFun (congrFun (congrFun (hash_false w) i) t) s) q) K) H) gd) lv) b) env)
      (fun w K H gd lv b env => congrFun (congrFun (congrFun (congrFun (congrFun (congrFun (congrFun (congrFun (congrFun (congrFun (hash_true w) i) t) s) q) K) H) gd) lv) b) env)
  have hr := rawHash_range i
  have e : pyHashByItsType.reduced (rawHash i) = .pure (hashInt i) := by
    unfold pyHashByItsType.reduced
    show (if (decide (-(2 : Int) ^ 63 ≤ rawHash i) && decide (rawHash i < 2 ^ 63)) = true then _ else _) = _
    rw [if_pos (by rw [decide_eq_true hr.1, decide_eq_true hr.2]; rfl)]
    rfl
  refine ⟨fun K H gd lv b env => ?_⟩
  have := h w K H gd lv b env
  rw [e] at this
  exact Ends.of this
theorem runs_mkInt {i : Int} : Runs w 1 (mkInt i) s q (.int i s.toks) { s with toks := s.toks + 1 } q := runs_bind (n := 1) (m := 0) (x := fresh) (a := s.toks) (runs_fresh runs_pure) runs_pure
theorem runs_mkText {x : Str} : Runs w 1 (mkText x) s q (.str x s.toks) { s with toks := s.toks + 1 } q := runs_bind (n := 1) (m := 0) (x := fresh) (a := s.toks) (runs_fresh runs_pure) runs_pure
theorem runs_standAt {p : Pos} : Runs w 1 (standAt p) s q () s p := runs_at runs_pure
/-! dicts at the top -/
noncomputable def dob (es : List DictEntry) : Obj := { cls := .type "dict", data := .dict es.toArray es.length }
theorem runs_entries {d : Addr} {p : Option Value} {es : List DictEntry} (h : s.heap.get? d = some (dob es)) : Runs w 1 (dictEntries d p) s q es.toArray s q := by
  unfold dictEntries
  refine runs_bind (n := 1) (m := 0) (a := dob es) (runs_load h runs_pure) ?_
  exact runs_pure
theorem runs_epoch {d : Addr} {p : Option Value} {es : List DictEntry} (h : s.heap.get? d = some (dob es)) : Runs w 1 (dictEpoch d p) s q es.length s q := by
  unfold dictEpoch
  refine runs_bind (n := 1) (m := 0) (a := dob es) (runs_load h runs_pure) ?_
  exact runs_pure
theorem places_nil {es : List DictEntry} {h : Int} (hn : ∀ e ∈ es, e.hash ≠ h) : placesWithHash es.toArray.size (fun i => es.toArray[i]?.map (·.hash)) h = [] := by
  unfold placesWithHash
  rw [List.filter_eq_nil_iff]
  intro i hi
  have hl : i < es.length := by simpa using List.mem_range.mp hi
  have := hn es[i] (List.getElem_mem hl)
  simp [hl, this]
theorem runs_find {d : Addr} {k : Int} {t : Tok} {h : Int} {es : List DictEntry} (hd : s.heap.get? d = some (dob es)) (hn : ∀ e ∈ es, e.hash ≠ h) : Runs w 1 (dictFind d (.int k t) h) s q none s q := by
  unfold dictFind
  refine runs_holding (runs_bind (m := 0) (runs_entries hd) ?_)
  dsimp only
  rw [places_nil hn]
  rw [if_pos (by rfl)]
  exact runs_bind (n := 0) (m := 0) (runs_pure (a := (none, ()))) runs_pure
theorem small_line {es : List DictEntry} (h : es.length ≤ 1000) : (dob es).data.pastItsLine = none := by
  unfold dob Data.pastItsLine
  dsimp only
  rw [if_neg]
  rw [List.size_toArray, sizeLine]
  have : (1000 : Nat) < 2 ^ 24 + 1 := by decide
  lia
theorem dob_push (es : List DictEntry) (e : DictEntry) : Obj.mapDictKeys (·.push e) (dob es) = dob (es ++ [e]) := by
  unfold dob Obj.mapDictKeys
  simp
theorem runs_push {d : Addr} {p : Option Value} {e : DictEntry} {es : List DictEntry} {h' : Heap} (hd : s.heap.get? d = some (dob es)) (ha : Nat.ble 11 d = true) (hu : s.heap.update d (Obj.mapDictKeys (·.push e)) = h') (hd' : h'.get? d = some (dob (es ++ [e]))) (hl : es.length < 1000) :
    Runs w 3 (updateDictKeys d (·.push e) p) s q () { s with heap := h' } q := by
  unfold updateDictKeys
  refine runs_bind (n := 1) (m := 2) (runs_load hd runs_pure) ?_
  show Runs w 2 (updatePart d p (Obj.mapDictKeys (·.push e)) >>= fun _ => lookBehind d p) s q () _ q
  refine runs_bind (n := 1) (m := 1) (runs_update (by rw [hd]; rfl) ha runs_pure) ?_
  unfold lookBehind
  rw [hu]
  refine runs_bind (n := 1) (m := 0) (runs_load hd' runs_pure) ?_
  rw [small_line (by rw [List.length_append]; simp only [List.length_cons, List.length_nil]; lia)]
  exact runs_pure
theorem runs_setHashed {d : Addr} {k : Int} {t : Tok} {h : Int} {v : Value} {es : List DictEntry} {h' : Heap} (hd : s.heap.get? d = some (dob es)) (hn : ∀ e ∈ es, e.hash ≠ h) (ha : Nat.ble 11 d = true) (hu : s.heap.update d (Obj.mapDictKeys (·.push ⟨h, .int k t, v⟩)) = h') (hd' : h'.get? d = some (dob (es ++ [⟨h, .int k t, v⟩]))) (hl : es.length < 1000) :
    Runs w 5 (dictSetHashed d (.int k t) h v) s q () { s with heap := h' } q := by
  unfold dictSetHashed
  refine runs_holding (runs_bind (n := 1) (m := 4) (runs_find hd hn) ?_)
  dsimp only
  exact runs_bind (n := 1) (m := 3) (runs_rule runs_pure) (runs_push hd ha hu hd' hl)
theorem runs_dictSet {d : Addr} {k : Int} {t : Tok} {v : Value} {es : List DictEntry} {h' : Heap} (hd : s.heap.get? d = some (dob es)) (hn : ∀ e ∈ es, e.hash ≠ hashInt k) (ha : Nat.ble 11 d = true) (hu : s.heap.update d (Obj.mapDictKeys (·.push ⟨hashInt k, .int k t, v⟩)) = h') (hd' : h'.get? d = some (dob (es ++ [⟨hashInt k, .int k t, v⟩]))) (hl : es.length < 1000) :
    Runs w 10 (dictSet d (.int k t) v) s q () { s with heap := h', toks := s.toks + 1 } q := by
  unfold dictSet
  exact runs_holding (runs_bind (n := 5) (m := 5) runs_hash_any (runs_setHashed (s := { s with toks := s.toks + 1 }) hd hn ha hu hd' hl))
theorem runs_put {d : Addr} {k : Int} {t : Tok} {h : Int} {v : Value} {es : List DictEntry} {h' : Heap} (hd : s.heap.get? d = some (dob es)) (hn : ∀ e ∈ es, e.hash ≠ h) (ha : Nat.ble 11 d = true) (hu : s.heap.update d (Obj.mapDictKeys (·.push ⟨h, .int k t, v⟩)) = h') (hd' : h'.get? d = some (dob (es ++ [⟨h, .int k t, v⟩]))) (hl : es.length < 1000) :
    Runs w 4 (dictPut d h (.int k t) v) s q () { s with heap := h' } q := by
  unfold dictPut
  refine runs_bind (n := 1) (m := 3) (runs_find hd hn) ?_
  exact runs_push hd ha hu hd' hl
end
end Zh
/-! part ZhC -/
namespace Zh
open PySem PySem.W PySem.Calls PyProof.Rows PySem.Spec PyProof
section
variable {α β : Type} {w : World} {n m : Nat} {s s' s'' : Shared} {q q' q'' : Pos}
structure Item (w : World) (p : Pos) (e : Sem Value × Sem Value) (x : Int × Str) : Prop where
  key : ∀ s q, Runs w 1 e.1 s q (.int x.1 s.toks) { s with toks := s.toks + 1 } q
  val : ∀ s q, Runs w 2 e.2 s q (.str x.2 s.toks) { s with toks := s.toks + 1 } p
inductive Items (w : World) (p : Pos) : List (Sem Value × Sem Value) → List (Int × Str) → Prop where
  | nil : Items w p [] []
  | cons {e : Sem Value × Sem Value} {x : Int × Str} {es : List (Sem Value × Sem Value)} {xs : List (Int × Str)} (h : Item w p e x) (r : Items w p es xs) : Items w p (e :: es) (x :: xs)
theorem Items.len {w : World} {p : Pos} : ∀ {es xs}, Items w p es xs → es.length = xs.length := by
  intro es xs h
  induction h with
  | nil => rfl
  | cons _ r ih => rw [List.length_cons, List.length_cons, ih]
theorem Items.at {w : World} {p : Pos} : ∀ {es xs}, Items w p es xs → ∀ i (h : i < es.length) (h' : i < xs.length), Item w p es[i] xs[i] := by
  intro es xs hh
  induction hh with
  | nil => intro i h; exact absurd h (Nat.not_lt_zero _)
  | cons k r ih =>
    intro i h h'
    cases i with
    | zero => exact k
    | succ i => exact ih i (by simpa using h) (by simpa using h')
theorem Items.sub {w : World} {p : Pos} : ∀ {es xs}, Items w p es xs → ∀ a, Items w p (es.drop a) (xs.drop a) ∧ Items w p (es.take a) (xs.take a) := by
  intro es xs hh
  induction hh with
  | nil => intro a; simp only [List.drop_nil, List.take_nil]; exact ⟨.nil, .nil⟩
  | cons h r ih =>
    intro a
    cases a with
    | zero => exact ⟨.cons h r, .nil⟩
    | succ a => exact ⟨(ih a).1, .cons h (ih a).2⟩
noncomputable def ent (a b : Nat) (x : Int × Str) : DictEntry := ⟨hashInt x.1, .int x.1 a, .str x.2 b⟩
/-- entries made one after another, from a token on -/
noncomputable def ents (t : Nat) (xs : List (Int × Str)) : List DictEntry := xs.zipIdx.map fun x => ent (t + 3 * x.2) (t + 3 * x.2 + 1) x.1
theorem ents_snoc (t : Nat) (xs : List (Int × Str)) (x : Int × Str) : ents t (xs ++ [x]) = ents t xs ++ [ent (t + 3 * xs.length) (t + 3 * xs.length + 1) x] := by
  unfold ents; rw [List.zipIdx_append, List.map_append]; simp
theorem ents_len (t : Nat) (xs : List (Int × Str)) : (ents t xs).length = xs.length := by unfold ents; rw [List.length_map, List.length_zipIdx]
theorem ents_hash (t : Nat) (xs : List (Int × Str)) : ∀ e ∈ ents t xs, ∃ x ∈ xs, e.hash = hashInt x.1 := fun e h => by
  unfold ents at h
  obtain ⟨x, hx, rfl⟩ := List.mem_map.mp h
  exact ⟨x.1, List.fst_mem_of_mem_zipIdx hx, rfl⟩
/-- entries of a short display -/
noncomputable def entsS (t n : Nat) (xs : List (Int × Str)) : List DictEntry := xs.zipIdx.map fun x => ent (t + 2 * x.2) (t + 2 * x.2 + 1) x.1
theorem entsS_snoc (t n : Nat) (xs : List (Int × Str)) (x : Int × Str) : entsS t n (xs ++ [x]) = entsS t n xs ++ [ent (t + 2 * xs.length) (t + 2 * xs.length + 1) x] := by
  unfold entsS; rw [List.zipIdx_append, List.map_append]; simp
theorem entsS_len (t n : Nat) (xs : List (Int × Str)) : (entsS t n xs).length = xs.length := by unfold entsS; rw [List.length_map, List.length_zipIdx]
theorem entsS_hash (t n : Nat) (xs : List (Int × Str)) : ∀ e ∈ entsS t n xs, ∃ x ∈ xs, e.hash = hashInt x.1 := fun e h => by
  unfold entsS at h
  obtain ⟨x, hx, rfl⟩ := List.mem_map.mp h
  exact ⟨x.1, List.fst_mem_of_mem_zipIdx hx, rfl⟩
noncomputable def Apart (xs : List (Int × Str)) : Prop := (xs.map fun x => hashInt x.1).Nodup
theorem take_snoc {α : Type} {l : List α} {i : Nat} (h : i < l.length) : l.take (i + 1) = l.take i ++ [l[i]] := by rw [List.take_add_one, List.getElem?_eq_getElem h]; rfl
theorem Apart.at {xs : List (Int × Str)} (a : Apart xs) {i : Nat} (h : i < xs.length) : ∀ x ∈ xs.take i, hashInt x.1 ≠ hashInt xs[i].1 := fun x hx e => by
  obtain ⟨j, hj, rfl⟩ := List.mem_iff_getElem.mp hx
  rw [List.length_take] at hj
  rw [List.getElem_take] at e
  have := List.pairwise_iff_getElem.mp a j i (by rw [List.length_map]; lia) (by rw [List.length_map]; exact h) (by lia)
  rw [List.getElem_map, List.getElem_map] at this
  exact this e
theorem push_update (h : Heap) (o : Obj) (f : Obj → Obj) : (h.push o).update h.objs.size f = h.push (f o) := by
  obtain ⟨objs, l⟩ := h
  simp only [Heap.push, Heap.update, Heap.mk.injEq, and_true]
  apply Array.ext_getElem?
  intro i
  rw [Array.getElem?_modify, Array.getElem?_push, Array.getElem?_push]
  by_cases e : objs.size = i
  · subst e; simp
  · simp [e, Ne.symm e]
theorem dob_free (es : List DictEntry) : (dob es).isFreed = false := rfl
/-- a display of sixteen items or more, evaluated one after another into a dict of its own -/
theorem runs_subLong {p : Pos} {ps : List (Sem Value × Sem Value)} {xs : List (Int × Str)} (I2 : Items w p ps xs) (h15 : 15 < xs.length) (hs : xs.length ≤ 900) (ha : Apart xs) (h11 : 11 ≤ s.heap.objs.size) :
    Runs w (2 + 13 * xs.length) (subDict ps) s q s.heap.objs.size { s with heap := s.heap.push (dob (ents s.toks xs)), toks := s.toks + 3 * xs.length } p := by
  have hl := I2.len
  unfold subDict
  refine (runs_bind (n := 1) (m := 1 + 13 * ps.length) (a := s.heap.objs.size) (runs_alloc runs_pure) ?_).le (by lia)
  refine runs_bind (n := 1 + 13 * ps.length) (m := 0) (a := ()) (s' := { s with heap := s.heap.push (dob (ents s.toks xs)), toks := s.toks + 3 * xs.length }) (q' := p) (runs_holding ?_) runs_pure
  rw [if_neg (by lia)]
  refine runs_bind (n := 1) (m := 13 * ps.length) (runs_rule runs_pure) ?_
  have loop := runs_forIn (w := w) (l := ps) (f := fun x r => match x with | (k, v) => (do let kv ← k; let vv ← holding [kv] v; holding [kv, vv] (dictSet s.heap.objs.size kv vv); pure PUnit.unit; pure (ForInStep.yield PUnit.unit))) (fun _ => PUnit.unit)
    (fun i => { s with heap := s.heap.push (dob (ents s.toks (xs.take i))), toks := s.toks + 3 * i }) (fun i => if i = 0 then q else p) 13 (fun i h => ?_)
  · simp only [show (ps.length = 0) = False from eq_false (by lia), if_false] at loop
    rw [show xs.take ps.length = xs from List.take_of_length_le (by lia), hl] at loop
    rw [hl]
    exact runs_bind (n := 13 * xs.length) (m := 0) loop runs_pure
  · have hx : i < xs.length := by lia
    have I := I2.at i h hx
    have e : ps[i] = (ps[i].1, ps[i].2) := rfl
    rw [e]
    dsimp only
    refine (runs_bind (n := 1) (m := 12) (I.key _ _) (runs_bind (n := 2) (m := 10) (runs_holding (I.val _ _)) (runs_bind (n := 10) (m := 0) (runs_holding (runs_dictSet (es := ents s.toks (xs.take i)) (h' := s.heap.push (dob (ents s.toks (xs.take (i + 1))))) ?_ ?_ ?_ ?_ ?_ ?_)) ?_)))
    · exact Heap.get?_push_size _ (dob_free _)
    · intro e he
      obtain ⟨x, hx', e'⟩ := ents_hash _ _ e he
      rw [e']; exact ha.at hx x hx'
    · exact Nat.ble_eq_true_of_le h11
    · show (s.heap.push (dob (ents s.toks (xs.take i)))).update _ _ = _
      rw [push_update, dob_push, take_snoc hx, ents_snoc]
      rw [List.length_take, Nat.min_eq_left (by lia)]
      rfl
    · rw [Heap.get?_push_size _ (dob_free _), take_snoc hx, ents_snoc, List.length_take, Nat.min_eq_left (by lia)]
      rfl
    · rw [ents_len, List.length_take]; lia
    · have : (if i + 1 = 0 then q else p) = p := by simp
      rw [this]
      show Runs w 0 (pure _) _ _ _ _ _
      exact runs_pure
/-- the same of few items: all are evaluated first -/
theorem runs_pairs {p : Pos} : ∀ {ps : List (Sem Value × Sem Value)} {xs : List (Int × Str)} {s : Shared} {q : Pos}, Items w p ps xs → Runs w (3 * xs.length) (evalPairs ps) s q (xs.zipIdx.map fun x => (.int x.1.1 (s.toks + 2 * x.2), .str x.1.2 (s.toks + 2 * x.2 + 1))) { s with toks := s.toks + 2 * xs.length } (if xs = [] then q else p)
  | _, _, s, q, .nil => runs_pure
  | (k, v) :: ps, x :: xs, s, q, .cons I r => by
    unfold evalPairs
    rw [List.length_cons]
    refine (runs_bind (n := 1) (m := 2 + 3 * xs.length) (I.key _ _) (runs_bind (n := 2) (m := 3 * xs.length) (runs_holding (I.val _ _)) ?_)).le (by lia)
    have ih := runs_pairs (s := { s with toks := s.toks + 1 + 1 }) (q := p) r
    have := runs_bind (n := 3 * xs.length) (m := 0) (f := fun t => (pure ((Value.int x.1 s.toks, Value.str x.2 (s.toks + 1)) :: t) : Sem (List (Value × Value)))) (runs_holding (l := [Value.int x.1 s.toks, Value.str x.2 (s.toks + 1)]) ih) runs_pure
    have e1 : (if xs = [] then p else p) = p := by split <;> rfl
    have e2 : (if x :: xs = [] then q else p) = p := if_neg (by simp)
    rw [e1] at this
    rw [e2]
    have e3 : ((x :: xs).zipIdx.map fun y => (Value.int y.1.1 (s.toks + 2 * y.2), Value.str y.1.2 (s.toks + 2 * y.2 + 1))) = (Value.int x.1 s.toks, Value.str x.2 (s.toks + 1)) :: (xs.zipIdx.map fun y => (Value.int y.1.1 (s.toks + 1 + 1 + 2 * y.2), Value.str y.1.2 (s.toks + 1 + 1 + 2 * y.2 + 1))) := by
      rw [List.zipIdx_cons, List.map_cons, Nat.zero_add, List.zipIdx_succ, List.map_map]
      refine congr (congrArg List.cons rfl) (List.map_congr_left fun y _ => ?_)
      simp only [Function.comp]
      rw [show s.toks + 2 * (y.2 + 1) = s.toks + 1 + 1 + 2 * y.2 by lia]
    rw [e3, show s.toks + 2 * (xs.length + 1) = s.toks + 1 + 1 + 2 * xs.length by lia]
    exact this
end
end Zh
/-! part ZhD -/
namespace Zh
open PySem PySem.W PySem.Calls PyProof.Rows PySem.Spec PyProof
section
variable {α β : Type} {w : World} {n m : Nat} {s s' s'' : Shared} {q q' q'' : Pos}
theorem runs_loop {l : List α} {f : α → β → Sem (ForInStep β)} {init r : β} {N : Nat} (st : Nat → β) (S : Nat → Shared) (Q : Nat → Pos) (c : Nat) (h0 : st 0 = init) (hr : st l.length = r) (hs0 : S 0 = s) (hsn : S l.length = s') (hq0 : Q 0 = q) (hqn : Q l.length = q') (hN : c * l.length ≤ N)
    (turn : ∀ i (h : i < l.length), Runs w c (f l[i] (st i)) (S i) (Q i) (.yield (st (i + 1))) (S (i + 1)) (Q (i + 1))) : Runs w N (forIn l init f) s q r s' q' := by
  have := runs_forIn (w := w) (f := f) st S Q c turn
  rw [h0, hr, hs0, hsn, hq0, hqn] at this
  exact this.le hN
theorem runs_subShort {p : Pos} {ps : List (Sem Value × Sem Value)} {xs : List (Int × Str)} (I2 : Items w p ps xs) (h15 : xs.length ≤ 15) (h0 : xs ≠ []) (ha : Apart xs) (h11 : 11 ≤ s.heap.objs.size) :
    Runs w (1 + 13 * xs.length) (subDict ps) s q s.heap.objs.size { s with heap := s.heap.push (dob (entsS s.toks 0 xs)), toks := s.toks + 3 * xs.length } p := by
  have hl := I2.len
  unfold subDict
  refine (runs_bind (n := 1) (m := 13 * ps.length) (a := s.heap.objs.size) (runs_alloc runs_pure) ?_).le (by lia)
  refine runs_bind (n := 13 * ps.length) (m := 0) (a := ()) (s' := { s with heap := s.heap.push (dob (entsS s.toks 0 xs)), toks := s.toks + 3 * xs.length }) (q' := p) (runs_holding ?_) runs_pure
  rw [if_pos (by lia)]
  have P := runs_pairs (s := { s with heap := s.heap.push { cls := .type "dict", data := .dict #[] } }) (q := q) I2
  rw [if_neg h0] at P
  refine (runs_bind (n := 3 * xs.length) (m := 10 * xs.length) P (runs_holding ?_)).le (by lia)
  have loop := runs_forIn (w := w) (l := xs.zipIdx.map fun x => (Value.int x.1.1 (s.toks + 2 * x.2), Value.str x.1.2 (s.toks + 2 * x.2 + 1))) (f := fun x r => match x with | (k, v) => (do dictSet s.heap.objs.size k v; pure (ForInStep.yield PUnit.unit))) (fun _ => PUnit.unit)
    (fun i => { s with heap := s.heap.push (dob (entsS s.toks 0 (xs.take i))), toks := s.toks + 2 * xs.length + i }) (fun i => p) 10 (fun i h => ?_)
  · rw [List.length_map, List.length_zipIdx] at loop
    rw [show xs.take xs.length = xs from List.take_of_length_le (by lia)] at loop
    rw [show s.toks + 3 * xs.length = s.toks + 2 * xs.length + xs.length by lia]
    exact runs_bind (n := 10 * xs.length) (m := 0) loop runs_pure
  · rw [List.length_map, List.length_zipIdx] at h
    rw [List.getElem_map, List.getElem_zipIdx]
    dsimp only
    rw [Nat.zero_add]
    refine runs_bind (n := 10) (m := 0) (runs_dictSet (es := entsS s.toks 0 (xs.take i)) (h' := s.heap.push (dob (entsS s.toks 0 (xs.take (i + 1))))) ?_ ?_ ?_ ?_ ?_ ?_) runs_pure
    · exact Heap.get?_push_size _ (dob_free _)
    · intro e he
      obtain ⟨x, hx', e'⟩ := entsS_hash _ _ _ e he
      rw [e']; exact ha.at h x hx'
    · exact Nat.ble_eq_true_of_le h11
    · show (s.heap.push (dob (entsS s.toks 0 (xs.take i)))).update _ _ = _
      rw [push_update, dob_push, take_snoc h, entsS_snoc]
      rw [List.length_take, Nat.min_eq_left (by lia)]
      rfl
    · rw [Heap.get?_push_size _ (dob_free _), take_snoc h, entsS_snoc, List.length_take, Nat.min_eq_left (by lia)]
      rfl
    · rw [entsS_len, List.length_take]; lia
theorem ents_append (t : Nat) (xs ys : List (Int × Str)) : ents t (xs ++ ys) = ents t xs ++ ents (t + 3 * xs.length) ys := by
  unfold ents
  rw [List.zipIdx_append, List.map_append, Nat.zero_add]
  refine congrArg _ ?_
  rw [List.zipIdx_eq_map_add, List.map_map]
  refine List.map_congr_left fun y _ => ?_
  simp only [Function.comp]
  rw [show t + 3 * (xs.length + y.2) = t + 3 * xs.length + 3 * y.2 by lia]
/-! heaps grown by a list -/
noncomputable def hp (h : Heap) (os : List Obj) : Heap := ⟨h.objs ++ os.toArray, h.life⟩
theorem hp_nil (h : Heap) : hp h [] = h := by unfold hp; simp
theorem hp_size (h : Heap) (os : List Obj) : (hp h os).objs.size = h.objs.size + os.length := by unfold hp; simp
theorem hp_push (h : Heap) (os : List Obj) (o : Obj) : (hp h os).push o = hp h (os ++ [o]) := by
  unfold hp Heap.push; simp
theorem hp_get {h : Heap} {os : List Obj} {j : Nat} {o : Obj} (e : os[j]? = some o) (f : o.isFreed = false) : (hp h os).get? (h.objs.size + j) = some o := by
  have : (hp h os).objs[h.objs.size + j]? = some o := by
    unfold hp
    dsimp only
    rw [Array.getElem?_append_right (by lia)]
    simpa using e
  unfold Heap.get?
  rw [this]
  obtain ⟨c, d, x, sl⟩ := o
  cases x <;> first | rfl | cases f
theorem hp_upd (h : Heap) (o : Obj) (os : List Obj) (f : Obj → Obj) : (hp h (o :: os)).update h.objs.size f = hp h (f o :: os) := by
  unfold hp Heap.update
  simp only [Heap.mk.injEq, and_true]
  apply Array.ext_getElem?
  intro i
  rw [Array.getElem?_modify]
  by_cases e : h.objs.size = i
  · subst e; simp
  · rw [if_neg e]
    rcases Nat.lt_or_ge i h.objs.size with l | g
    · simp [Array.getElem?_append, l]
    · obtain ⟨k, rfl⟩ : ∃ k, i = h.objs.size + (k + 1) := ⟨i - h.objs.size - 1, by lia⟩
      simp [Array.getElem?_append]
/-- a dict merged into another one -/
theorem runs_merge {h : Heap} {E F : List DictEntry} {os : List Obj} {j : Nat} (hj : (dob E :: os)[j]? = some (dob F)) (hj0 : 0 < j) (hE : E ≠ []) (h11 : 11 ≤ h.objs.size) (hF : ∀ e ∈ F, ∃ k t, e.key = .int k t) (ha : ((E ++ F).map (·.hash)).Nodup) (hl : (E ++ F).length < 1000) (hs : s.heap = hp h (dob E :: os)) :
    Runs w (5 + 6 * F.length) (mergeMapping h.objs.size (.ref (h.objs.size + j)) false) s q () { s with heap := hp h (dob (E ++ F) :: os) } q := by
  have gsub : ∀ X, (hp h (dob X :: os)).get? (h.objs.size + j) = some (dob F) := fun X => hp_get (by
    obtain ⟨i, rfl⟩ : ∃ i, j = i + 1 := ⟨j - 1, by lia⟩
    simpa using hj) (dob_free _)
  have gmain : ∀ X, (hp h (dob X :: os)).get? h.objs.size = some (dob X) := fun X => hp_get (j := 0) rfl (dob_free _)
  have S0 : s.heap.get? (h.objs.size + j) = some (dob F) := by rw [hs]; exact gsub E
  have S1 : s.heap.get? h.objs.size = some (dob E) := by rw [hs]; exact gmain E
  unfold mergeMapping
  have hin : Runs w 1 (isInstance (.ref (h.objs.size + j)) (.type "dict")) s q true s q := by
    unfold isInstance typeOf
    refine runs_bind (n := 1) (m := 0) (a := Value.type "dict") (runs_bind (n := 1) (m := 0) (a := dob F) (runs_load S0 runs_pure) runs_pure) ?_
    rw [PySem.F.sub_dict_dict]; exact runs_pure
  have hsp : Runs w 1 (specialOf (.ref (h.objs.size + j)) "__iter__") s q (some (.builtin "dict.__iter__")) s q := by
    unfold specialOf typeOf
    refine runs_bind (n := 1) (m := 0) (a := Value.type "dict") (runs_bind (n := 1) (m := 0) (a := dob F) (runs_load S0 runs_pure) runs_pure) ?_
    rw [PySem.F.slot_dict_iter.lookup]; exact runs_pure
  refine (runs_bind (n := 1) (m := 4 + 6 * F.length) hin ?_).le (by lia)
  rw [if_pos rfl]
  refine (runs_bind (n := 1) (m := 3 + 6 * F.length) hsp ?_).le (by lia)
  refine runs_bind (n := 0) (m := 3 + 6 * F.length) (a := true) (by rw [beq_self_eq_true]; exact runs_pure) ?_ |>.le (by lia)
  dsimp only
  rw [if_neg (by rw [beq_iff_eq]; intro e; have : h.objs.size + j = 1 := e; lia)]
  refine runs_bind (n := 1) (m := 2 + 6 * F.length) (runs_entries S1) ?_ |>.le (by lia)
  rw [if_neg (by cases E with | nil => exact absurd rfl hE | cons a l => simp)]
  refine runs_bind (n := 1) (m := 1 + 6 * F.length) (runs_entries S0) ?_ |>.le (by lia)
  refine runs_bind (n := 1) (m := 6 * F.length) (runs_epoch S0) ?_
  refine runs_bind (n := 6 * F.length) (m := 0) (a := PUnit.unit) (runs_loop (fun _ => PUnit.unit) (fun i => { s with heap := hp h (dob (E ++ F.take i) :: os) }) (fun i => q) 6 rfl rfl (by rw [List.take_zero, List.append_nil, ← hs]) (by rw [List.length_range, List.size_toArray, List.take_of_length_le (Nat.le_refl _)]) rfl rfl (by rw [List.length_range, List.size_toArray]; exact Nat.le_refl _) fun i hi => ?_) runs_pure
  rw [List.length_range, List.size_toArray] at hi
  rw [List.getElem_range]
  refine runs_bind (n := 1) (m := 5) (runs_entries (gsub _)) ?_
  rw [show F.toArray[i]? = some F[i] by simp [hi]]
  dsimp only
  obtain ⟨k, t, hk⟩ := hF F[i] (List.getElem_mem hi)
  have hent : F[i] = ⟨F[i].hash, .int k t, F[i].val⟩ := by rw [← hk]
  refine runs_bind (n := 4) (m := 1) (a := ()) (s' := { s with heap := hp h (dob (E ++ F.take (i + 1)) :: os) }) (q' := q) (runs_holding ?_) (runs_bind (n := 1) (m := 0) (runs_epoch (es := F) (gsub _)) ?_)
  · rw [if_neg (by simp), hk]
    refine runs_put (es := E ++ F.take i) (gmain _) ?_ (Nat.ble_eq_true_of_le h11) ?_ ?_ ?_
    · intro e he
      have key := List.pairwise_iff_getElem.mp ha
      rcases List.mem_append.mp he with m | m
      · obtain ⟨a, la, rfl⟩ := List.mem_iff_getElem.mp m
        have := key a (E.length + i) (by simp; lia) (by simp; omega) (by lia)
        rw [List.getElem_map, List.getElem_map, List.getElem_append_left la, List.getElem_append_right (by lia)] at this
        simpa using this
      · obtain ⟨a, la, rfl⟩ := List.mem_iff_getElem.mp m
        rw [List.length_take] at la
        have := key (E.length + a) (E.length + i) (by simp; lia) (by simp; omega) (by lia)
        rw [List.getElem_map, List.getElem_map, List.getElem_append_right (by lia), List.getElem_append_right (by lia)] at this
        rw [List.getElem_take]
        simpa using this
    · rw [hp_upd, dob_push, take_snoc hi, ← List.append_assoc, ← hent]
    · rw [gmain, take_snoc hi, ← List.append_assoc, ← hent]
    · rw [List.length_append] at hl ⊢; rw [List.length_take]; lia
  · rw [if_neg (by simp)]; exact runs_pure
end
end Zh
/-! part ZhE -/
namespace Zh
open PySem PySem.W PySem.Calls PyProof.Rows PySem.Spec PyProof
section
variable {α β : Type} {w : World} {n m : Nat} {s s' s'' : Shared} {q q' q'' : Pos}
noncomputable def chunk (xs : List (Int × Str)) (k : Nat) : List (Int × Str) := (xs.take (17 * (k + 1))).drop (17 * k)
noncomputable def fobs (t : Nat) (xs : List (Int × Str)) (k : Nat) : List Obj := (List.range k).map fun j => dob (ents (t + 51 * (j + 1)) (chunk xs (j + 1)))
noncomputable def dheap (h : Heap) (t : Nat) (xs : List (Int × Str)) : Nat → Heap
  | 0 => h
  | k + 1 => hp h (dob (ents t (xs.take (17 * (k + 1)))) :: fobs t xs k)
theorem fobs_len (t : Nat) (xs : List (Int × Str)) (k : Nat) : (fobs t xs k).length = k := by unfold fobs; rw [List.length_map, List.length_range]
theorem fobs_succ (t : Nat) (xs : List (Int × Str)) (k : Nat) : fobs t xs (k + 1) = fobs t xs k ++ [dob (ents (t + 51 * (k + 1)) (chunk xs (k + 1)))] := by
  unfold fobs; rw [List.range_succ, List.map_append]; rfl
theorem run_eq {α : Type} {l : List α} {i c : Nat} (h : i < l.length) (hc : c ≤ i) : (l.take i).drop c ++ [l[i]] = (l.take (i + 1)).drop c := by
  rw [take_snoc h, List.drop_append_of_le_length (by rw [List.length_take]; lia)]
theorem take_chunk (xs : List (Int × Str)) (k : Nat) : xs.take (17 * k) ++ chunk xs k = xs.take (17 * (k + 1)) := by
  unfold chunk
  have : xs.take (17 * k) = (xs.take (17 * (k + 1))).take (17 * k) := by rw [List.take_take]; congr 1; lia
  rw [this, List.take_append_drop]
theorem ents_keys (t : Nat) (xs : List (Int × Str)) : (ents t xs).map (·.hash) = xs.map fun x => hashInt x.1 := by
  unfold ents
  rw [List.map_map]
  calc xs.zipIdx.map _ = (xs.zipIdx.map Prod.fst).map fun x => hashInt x.1 := by rw [List.map_map]; rfl
    _ = _ := by rw [List.zipIdx_map_fst]
theorem entsS_keys (t n : Nat) (xs : List (Int × Str)) : (entsS t n xs).map (·.hash) = xs.map fun x => hashInt x.1 := by
  unfold entsS
  rw [List.map_map]
  calc xs.zipIdx.map _ = (xs.zipIdx.map Prod.fst).map fun x => hashInt x.1 := by rw [List.map_map]; rfl
    _ = _ := by rw [List.zipIdx_map_fst]
theorem ents_int (t : Nat) (xs : List (Int × Str)) : ∀ e ∈ ents t xs, ∃ k t, e.key = .int k t := fun e h => by
  unfold ents at h
  obtain ⟨x, hx, rfl⟩ := List.mem_map.mp h
  exact ⟨_, _, rfl⟩
theorem entsS_int (t n : Nat) (xs : List (Int × Str)) : ∀ e ∈ entsS t n xs, ∃ k t, e.key = .int k t := fun e h => by
  unfold entsS at h
  obtain ⟨x, hx, rfl⟩ := List.mem_map.mp h
  exact ⟨_, _, rfl⟩
theorem Apart.take {xs : List (Int × Str)} (a : Apart xs) (n : Nat) : Apart (xs.take n) := by
  unfold Apart at *; rw [List.map_take]; exact a.sublist (List.take_sublist _ _)
theorem Apart.drop {xs : List (Int × Str)} (a : Apart xs) (n : Nat) : Apart (xs.drop n) := by
  unfold Apart at *; rw [List.map_drop]; exact a.sublist (List.drop_sublist _ _)
theorem runs_display {p : Pos} {ps : List (Sem Value × Sem Value)} {xs : List (Int × Str)} {K r : Nat} (I : Items w p ps xs) (hx : xs.length = 17 * (K + 1) + r) (hr0 : 0 < r) (hr : r ≤ 15) (ha : Apart xs) (hl : xs.length < 1000) (h11 : 11 ≤ s.heap.objs.size) :
    Runs w (400 * xs.length + 400) (dictDisplay (ps.map fun e => (some e.1, e.2))) s q (.ref s.heap.objs.size)
      { s with heap := hp s.heap (dob (ents s.toks (xs.take (17 * (K + 1))) ++ entsS (s.toks + 51 * (K + 1)) 0 (xs.drop (17 * (K + 1)))) :: (fobs s.toks xs K ++ [dob (entsS (s.toks + 51 * (K + 1)) 0 (xs.drop (17 * (K + 1))))])), toks := s.toks + 3 * xs.length } p := by
  have hps := I.len
  unfold dictDisplay
  dsimp only
  refine runs_bind (n := 400 * xs.length) (m := 400) (a := (some s.heap.objs.size, ps.drop (17 * (K + 1)))) (s' := { s with heap := dheap s.heap s.toks xs (K + 1), toks := s.toks + 51 * (K + 1) }) (q' := p) ?_ ?_
  · refine runs_loop (fun i => (if i < 17 then none else some s.heap.objs.size, (ps.take i).drop (17 * (i / 17)))) (fun i => { s with heap := dheap s.heap s.toks xs (i / 17), toks := s.toks + 51 * (i / 17) }) (fun i => if i < 17 then q else p) 400 ?_ ?_ ?_ ?_ ?_ ?_ ?_ fun i h => ?_
    · simp
    · rw [List.length_map, if_neg (by lia), List.take_of_length_le (Nat.le_refl _), show ps.length / 17 = K + 1 by lia]
    · rfl
    · rw [List.length_map, show ps.length / 17 = K + 1 by lia]
    · rfl
    · rw [List.length_map, if_neg (by lia)]
    · rw [List.length_map]; lia
    rw [List.length_map] at h
    rw [List.getElem_map]
    dsimp only
    rw [show (ps[i].1, ps[i].2) = ps[i] from rfl, run_eq h (by lia)]
    by_cases hj : i % 17 = 16
    · obtain ⟨k, hk⟩ : ∃ k, i / 17 = k := ⟨_, rfl⟩
      have e1 : i + 1 = 17 * (k + 1) := by lia
      have e2 : (i + 1) / 17 = k + 1 := by lia
      have hrun : (ps.take (i + 1)).drop (17 * (i / 17)) = (ps.take (17 * (k + 1))).drop (17 * k) := by rw [e1, hk]
      rw [hrun, e2, hk]
      have Ic : Items w p ((ps.take (17 * (k + 1))).drop (17 * k)) (chunk xs k) := ((I.sub (17 * (k + 1))).2.sub (17 * k)).1
      have lc : (chunk xs k).length = 17 := by unfold chunk; rw [List.length_drop, List.length_take]; lia
      have lr : ((ps.take (17 * (k + 1))).drop (17 * k)).length = 17 := Ic.len.trans lc
      have ac : Apart (chunk xs k) := (ha.take _).drop _
      rw [if_pos (by rw [lr]; rfl), if_neg (by rw [List.isEmpty_iff]; intro e; rw [e] at lr; cases lr)]
      rw [if_neg (show ¬ i + 1 < 17 by lia), if_neg (show ¬ i + 1 < 17 by lia)]
      have hd : (ps.take (i + 1)).drop (17 * (k + 1)) = [] := by rw [← e1]; exact List.drop_eq_nil_of_le (by rw [List.length_take]; lia)
      rw [hd]
      refine runs_bind (n := 400) (m := 0) (a := some s.heap.objs.size) ?_ runs_pure
      cases k with
      | zero =>
        rw [if_pos (show i < 17 by lia)]
        dsimp only
        have := runs_subLong (s := { s with heap := dheap s.heap s.toks xs 0, toks := s.toks + 51 * 0 }) (q := if i < 17 then q else p) Ic (by lia) (by lia) ac h11
        refine (runs_bind (n := 2 + 13 * (chunk xs 0).length) (m := 0) this ?_).le (by lia)
        have e3 : hp s.heap [dob (ents s.toks (xs.take 17))] = s.heap.push (dob (ents s.toks (chunk xs 0))) := by
          rw [← List.nil_append [dob _], ← hp_push, hp_nil]; rfl
        rw [lc]
        show Runs w 0 (pure (some s.heap.objs.size)) _ _ _ { s with heap := hp s.heap [dob (ents s.toks (xs.take 17))], toks := s.toks + 51 * 1 } _
        rw [e3]
        exact runs_pure
      | succ k =>
        rw [if_neg (show ¬ i < 17 by lia), if_neg (show ¬ i < 17 by lia)]
        dsimp only
        have sz : (dheap s.heap s.toks xs (k + 1)).objs.size = s.heap.objs.size + (k + 1) := by
          show (hp _ _).objs.size = _
          rw [hp_size, List.length_cons, fobs_len]
        have := runs_subLong (s := { s with heap := dheap s.heap s.toks xs (k + 1), toks := s.toks + 51 * (k + 1) }) (q := p) Ic (by lia) (by lia) ac (by show 11 ≤ (dheap s.heap s.toks xs (k + 1)).objs.size; lia)
        dsimp only at this
        rw [sz, lc] at this
        refine (runs_bind (n := 2 + 13 * 17) (m := 5 + 6 * 17) (runs_holding this) ?_).le (by lia)
        have hp1 : (dheap s.heap s.toks xs (k + 1)).push (dob (ents (s.toks + 51 * (k + 1)) (chunk xs (k + 1)))) = hp s.heap (dob (ents s.toks (xs.take (17 * (k + 1)))) :: fobs s.toks xs (k + 1)) := by
          show (hp _ _).push _ = _
          rw [hp_push, fobs_succ]; rfl
        rw [hp1]
        have eE : ents s.toks (xs.take (17 * (k + 1))) ++ ents (s.toks + 51 * (k + 1)) (chunk xs (k + 1)) = ents s.toks (xs.take (17 * (k + 1 + 1))) := by
          rw [← take_chunk xs (k + 1), ents_append, List.length_take, Nat.min_eq_left (by lia), show 3 * (17 * (k + 1)) = 51 * (k + 1) by lia]
        have M := runs_merge (w := w) (q := p) (h := s.heap) (E := ents s.toks (xs.take (17 * (k + 1)))) (F := ents (s.toks + 51 * (k + 1)) (chunk xs (k + 1))) (os := fobs s.toks xs (k + 1)) (j := k + 1)
          (s := { s with heap := hp s.heap (dob (ents s.toks (xs.take (17 * (k + 1)))) :: fobs s.toks xs (k + 1)), toks := s.toks + 51 * (k + 1) + 3 * 17 })
          (by rw [List.getElem?_cons_succ, fobs_succ, List.getElem?_append_right (by rw [fobs_len]; lia), fobs_len, Nat.sub_self]; rfl) (by lia)
          (by intro e; have := congrArg List.length e; rw [ents_len, List.length_take] at this; simp only [List.length_nil] at this; lia) h11 (ents_int _ _)
          (by rw [eE, ents_keys]; exact ha.take _) (by rw [eE, ents_len, List.length_take]; lia) rfl
        rw [ents_len, lc, eE] at M
        refine runs_bind (n := 5 + 6 * 17) (m := 0) (a := ()) (runs_onRaise (runs_holding M)) ?_
        show Runs w 0 (pure (some s.heap.objs.size)) _ _ _ { s with heap := hp s.heap (dob (ents s.toks (xs.take (17 * (k + 1 + 1)))) :: fobs s.toks xs (k + 1)), toks := s.toks + 51 * (k + 1 + 1) } _
        rw [show s.toks + 51 * (k + 1 + 1) = s.toks + 51 * (k + 1) + 3 * 17 by lia]
        exact runs_pure
    · have e2 : (i + 1) / 17 = i / 17 := by lia
      rw [e2, if_neg (by
        rw [beq_iff_eq, List.length_drop, List.length_take]; lia)]
      have e3 : (i + 1 < 17) = (i < 17) := by rw [eq_iff_iff]; lia
      simp only [e3]
      exact runs_pure.le (Nat.zero_le _)
  · dsimp only
    have lr : (xs.drop (17 * (K + 1))).length = r := by rw [List.length_drop]; lia
    have Ir : Items w p (ps.drop (17 * (K + 1))) (xs.drop (17 * (K + 1))) := (I.sub _).1
    rw [if_neg (by rw [List.isEmpty_iff]; intro e; have := Ir.len; rw [e, lr] at this; simp only [List.length_nil] at this; lia)]
    have sz : (dheap s.heap s.toks xs (K + 1)).objs.size = s.heap.objs.size + (K + 1) := by
      show (hp _ _).objs.size = _
      rw [hp_size, List.length_cons, fobs_len]
    have := runs_subShort (s := { s with heap := dheap s.heap s.toks xs (K + 1), toks := s.toks + 51 * (K + 1) }) (q := p) Ir (by lia) (by intro e; rw [e] at lr; simp only [List.length_nil] at lr; lia) (ha.drop _) (by show 11 ≤ (dheap s.heap s.toks xs (K + 1)).objs.size; lia)
    dsimp only at this
    rw [sz, lr] at this
    refine runs_bind (n := 400) (m := 0) (a := some s.heap.objs.size) ?_ runs_pure
    refine (runs_bind (n := 1 + 13 * r) (m := 5 + 6 * r) (runs_holding this) ?_).le (by lia)
    have hp1 : (dheap s.heap s.toks xs (K + 1)).push (dob (entsS (s.toks + 51 * (K + 1)) 0 (xs.drop (17 * (K + 1))))) = hp s.heap (dob (ents s.toks (xs.take (17 * (K + 1)))) :: (fobs s.toks xs K ++ [dob (entsS (s.toks + 51 * (K + 1)) 0 (xs.drop (17 * (K + 1))))])) := by
      show (hp _ _).push _ = _
      rw [hp_push]; rfl
    rw [hp1]
    have M := runs_merge (w := w) (q := p) (h := s.heap) (E := ents s.toks (xs.take (17 * (K + 1)))) (F := entsS (s.toks + 51 * (K + 1)) 0 (xs.drop (17 * (K + 1)))) (os := fobs s.toks xs K ++ [dob (entsS (s.toks + 51 * (K + 1)) 0 (xs.drop (17 * (K + 1))))]) (j := K + 1)
      (s := { s with heap := hp s.heap (dob (ents s.toks (xs.take (17 * (K + 1)))) :: (fobs s.toks xs K ++ [dob (entsS (s.toks + 51 * (K + 1)) 0 (xs.drop (17 * (K + 1))))])), toks := s.toks + 51 * (K + 1) + 3 * r })
      (by rw [List.getElem?_cons_succ, List.getElem?_append_right (by rw [fobs_len]; lia), fobs_len, Nat.sub_self]; rfl) (by lia)
      (by intro e; have := congrArg List.length e; rw [ents_len, List.length_take] at this; simp only [List.length_nil] at this; lia) h11 (entsS_int _ _ _)
      (by rw [List.map_append, ents_keys, entsS_keys, ← List.map_append, List.take_append_drop]; exact ha) (by rw [List.length_append, ents_len, entsS_len, ← List.length_append, List.take_append_drop]; exact hl) rfl
    rw [entsS_len, lr] at M
    refine runs_bind (n := 5 + 6 * r) (m := 0) (a := ()) (runs_onRaise (runs_holding M)) ?_
    rw [show s.toks + 3 * xs.length = s.toks + 51 * (K + 1) + 3 * r by lia]
    exact runs_pure
end
end Zh
/-! part ZhF -/
section
set_option maxHeartbeats 0
namespace Zh
open PySem PySem.W PySem.Calls PyProof.Rows PySem.Spec PyProof
noncomputable abbrev envT : Env := { scope := prg.main.scope, locals := mainNs, globals := mainNs, cells := [], code := .ref 13, frame := some 14 }
noncomputable def cdT : Code := .body (behindTheImports prg) envT
noncomputable def stmt (i : Nat) : Stmt := (prg.main.body[i]?).getD (.Pass ⟨0, 0, 0, 0⟩)
noncomputable abbrev qSegRunT := PySem.W.Fast.tw10110043849684766642
noncomputable abbrev qTable := PySem.W.Fast.tw14364793385576792824
noncomputable abbrev qExecs := PySem.W.Fast.tw12563942051412417395
theorem q_segRunT : @segRunT = qSegRunT := PySem.W.Fast.te10110043849684766642
theorem q_execs : execs = qExecs := PySem.W.Fast.te12563942051412417395
theorem q_table : treeTable = qTable := PySem.W.Fast.te14364793385576792824
noncomputable def pos8 : Pos := { line := 41, col := 0, endLine := 41, endCol := 8 }
/-- the run of one statement -/
noncomputable def rT (w : World) (n i : Nat) (s : SharedT) (pos : Pos) : Option (Flow × SharedT × Code × Pos) := qSegRunT qTable prg w 11 (some (.ref 6)) 1 n s ⟨(qExecs [stmt i] envT).wrap doneF deadEnd id id, cdT, pos, B1⟩
theorem rT_ok {w : World} {n i : Nat} {s s' : SharedT} {pos pos' : Pos} (h : rT w n i s pos = some (.next, s', cdT, pos')) : segRun treeTable prg w 11 (some (.ref 6)) 1 n s.abs (piecesOf [stmt i] envT cdT pos B1) = some (.next, s'.abs, cdT, pos') := by
  refine segRun_of ?_
  rw [q_segRunT, q_table]
  unfold piecesOf
  rw [q_execs]
  exact h
/-! the first statements -/
noncomputable def treeOf : Option (Flow × SharedT × Code × Pos) → BT
  | some (_, s, _, _) => s.tree
  | none => .nil
noncomputable def wOf (P : Params) : World := ⟨fun _ _ => 0, P⟩
noncomputable abbrev stT (T : Params → BT) (n toks : Nat) (w : World) (os : OsState) : SharedT := { tree := T w.params, n := n, life := { }, gens := { toList := [] }, drawn := { }, toks := toks, os := os }
/-- the tree after a statement -/
noncomputable def nextS (N : Nat) (T : Params → BT) (n toks i : Nat) (pos : Pos) (P : Params) : BT := treeOf (rT (wOf P) N i (stT T n toks (wOf P) default) pos)
noncomputable def nextT (T : Params → BT) (n toks i : Nat) (pos : Pos) (P : Params) : BT := nextS 60 T n toks i pos P
noncomputable def insAll : BT → Nat → List Obj → BT
  | T, _, [] => T
  | T, n, o :: os => insAll (T.ins n o) (n + 1) os
noncomputable def seqO (t : String) (l : List Value) (n : Nat) : Obj := { cls := .type t, data := .seq l.toArray n }
noncomputable def fldO (t : String) (l : List Value) : Obj := { cls := .type t, data := .fields l.toArray }
noncomputable def cfE : List DictEntry := [(1, 233, "OPTIMIZED"), (2, 235, "NEWLOCALS"), (4, 237, "VARARGS"), (8, 239, "VARKEYWORDS"), (16, 241, "NESTED"), (32, 243, "GENERATOR"), (64, 245, "NOFREE"), (128, 247, "COROUTINE"), (256, 249, "ITERABLE_COROUTINE"), (512, 251, "ASYNC_GENERATOR")].map fun x : Int × Nat × String => ent x.2.1 (x.2.1 + 1) (x.1, Str.ofString x.2.2)
noncomputable def T0 (P : Params) : BT := insAll .nil 0 [boot_o_0 P, boot_o_1 P, boot_o_2 P, boot_o_3 P, boot_o_4 P, boot_o_5 P, boot_o_6 P, boot_o_7 P, boot_o_8 P, boot_o_9 P, boot_o_10 P, seqO "tuple" [] 0, { cls := .none, data := .fields #[] },
  fldO "code" [.str "<module>" 182, .str "<module>" 183, .str "/claim/cut.py" 184, .int 1 0, .int 0 0, .int 0 0, .int 0 0, .int 0 0, .ref 11, .bool false, .int 181 0, .ref 12, .none, .none, .none, .none, .int 185 0, .int 1 0, .str "/claim/cut.py" 186],
  { cls := .type "frame", slots := #[some (.ref 13), some (.ref 3), some (.ref 3), none, some (.str "__main__" 164), none, some (.ref 0)] }]
noncomputable def pos0 : Pos := ⟨0, 0, 0, 0⟩
noncomputable def pos1 : Pos := ⟨1, 0, 1, 8⟩
noncomputable def pos2 : Pos := ⟨2, 0, 15, 16⟩
noncomputable def pos3 : Pos := ⟨16, 0, 16, 8⟩
noncomputable def pos4 : Pos := ⟨17, 0, 17, 19⟩
noncomputable def pos5 : Pos := ⟨18, 0, 29, 27⟩
noncomputable def pos6 : Pos := ⟨30, 0, 30, 10⟩
noncomputable def pos7 : Pos := ⟨31, 0, 40, 23⟩
noncomputable def T1 : Params → BT := nextT T0 15 187 0 pos0
noncomputable def pmC : Value := .str "cpy313.pstats" 187
noncomputable def nsE (P : Params) (x : String) (t : Nat) (v : Value) : DictEntry := ⟨PyData.keyHash P x, .str x t, v⟩
noncomputable def cdO (l : List Value) : Obj := fldO "code" l
noncomputable def clsObjs (P : Params) : List Obj := [seqO "tuple" [] 0, fldO "builtin_function_or_method" [.builtin "type.__prepare__", .type "type"],
  { cls := .type "dict", data := .dict #[nsE P "__module__" 196 pmC, nsE P "__qualname__" 198 (.str "TupleComp" 197), nsE P "__firstlineno__" 200 (.int 2 199), nsE P "__init__" 208 (.ref 28), nsE P "compare" 221 (.ref 35), nsE P "__static_attributes__" 223 (.ref 36)] 6 },
  seqO "tuple" [] 0, { cls := .none, data := .fields #[.int 4 0, .int 4 0, .ref 27, .int 7 0, .int 4 0, .ref 34] },
  cdO [.str "TupleComp" 191, .str "TupleComp" 192, .str "/claim/cut.py" 193, .int 2 0, .int 0 0, .int 0 0, .int 0 0, .int 0 0, .ref 18, .bool false, .int 181 0, .ref 19, .none, .none, .none, .none, .int 194 0, .int 2 0, .str "/claim/cut.py" 195],
  { cls := .type "frame", slots := #[some (.ref 20), some (.ref 3), some (.ref 17), none, some pmC, none, some (.ref 0)] },
  seqO "tuple" [] 0, { cls := .none, data := .fields #[] }, seqO "tuple" [.str "self" 204, .str "comp_select_list" 205] 0, seqO "tuple" [] 0,
  { cls := .none, data := .func { Zn.fdM "TupleComp.__init__" .none .none (Zn.mst 0) with globals := 0 } },
  cdO [.str "__init__" 201, .str "TupleComp.__init__" 202, .str "/claim/cut.py" 203, .int 4 0, .int 2 0, .int 0 0, .int 0 0, .int 3 0, .ref 22, .bool true, .int 181 0, .ref 23, .none, .ref 24, .ref 25, .ref 26, .int 206 0, .int 4 0, .str "/claim/cut.py" 207],
  { cls := .type "function", data := .func (Zn.fdM "TupleComp.__init__" pmC (.ref 27) (Zn.mst 0)) },
  seqO "tuple" [] 0, { cls := .none, data := .fields #[] }, seqO "tuple" [.str "self" 212, .str "left" 213, .str "right" 214, .str "index" 215, .str "direction" 216, .str "l" 217, .str "r" 218] 0, seqO "tuple" [] 0,
  { cls := .none, data := .func { Zn.fdM "TupleComp.compare" .none .none (Zn.mst 1) with globals := 0 } },
  cdO [.str "compare" 209, .str "TupleComp.compare" 210, .str "/claim/cut.py" 211, .int 7 0, .int 3 0, .int 0 0, .int 0 0, .int 3 0, .ref 29, .bool true, .int 181 0, .ref 30, .none, .ref 31, .ref 32, .ref 33, .int 219 0, .int 7 0, .str "/claim/cut.py" 220],
  { cls := .type "function", data := .func (Zn.fdM "TupleComp.compare" pmC (.ref 34) (Zn.mst 1)) },
  seqO "tuple" [.str "comp_select_list" 222] 0,
  { cls := .type "dict", data := .dict #[nsE P "__module__" 196 pmC, nsE P "__firstlineno__" 200 (.int 2 199), nsE P "__init__" 208 (.ref 28), nsE P "compare" 221 (.ref 35), nsE P "__static_attributes__" 223 (.ref 36), nsE P "__dict__" 225 (.ref 39), nsE P "__weakref__" 227 (.ref 40), nsE P "__doc__" 228 .none] 4 },
  excClassObj "TupleComp" "TupleComp" 38 37 [.type "object"] [.type "object"] true [] [] false none none none none (some (.str "TupleComp" 189)) (some (.str "TupleComp" 197)) (some (.bool true)) "object.__new__",
  fldO "getset_descriptor" [.str "__dict__" 224, .ref 38, .builtin "function.__dict__", .builtin "function.__dict__#set"], fldO "getset_descriptor" [.str "__weakref__" 226, .ref 38, .builtin "ExceptionGroup.__weakref__", .none],
  fldO "super" [.ref 38, .ref 38, .ref 38], fldO "builtin_function_or_method" [.builtin "object.__init_subclass__", .ref 38]]
noncomputable def T2 (P : Params) : BT := ((insAll (T1 P) 15 (clsObjs P)).set 12 (fun _ => { cls := .none, data := .fields #[.int 2 0, .int 0 0, .ref 20] })).set 3 (Obj.putName "TupleComp" (PyData.keyHash P "TupleComp") (.str "TupleComp" 230) (.ref 38))
noncomputable def T3 : Params → BT := nextT T2 43 231 2 pos2
noncomputable def T4 (P : Params) : BT := ((T3 P).ins 43 (dob cfE)).set 3 (Obj.putName "COMPILER_FLAG_NAMES" (PyData.keyHash P "COMPILER_FLAG_NAMES") (.str "COMPILER_FLAG_NAMES" 263) (.ref 43))
noncomputable def T5 : Params → BT := nextT T4 44 264 4 pos4
noncomputable def T6 : Params → BT := nextT T5 51 274 5 pos5
noncomputable def T7 : Params → BT := nextT T6 51 276 6 pos6
noncomputable def T8 : Params → BT := nextT T7 58 285 7 pos7
noncomputable abbrev St8 (w : World) (os : OsState) : SharedT := stT T8 58 287 w os
/-! the set -/
noncomputable def b1a : List Value := [.int 173 287, .int 847 288, .int 6150 289, .int 6155 290, .int 6156 291, .int 6157 292, .int 8203 293, .int 8204 294, .int 8205 295, .int 8288 296, .int 65279 297]
noncomputable def b1b : List Value := [.int 65024 303, .int 65025 304, .int 65026 305, .int 65027 306, .int 65028 307, .int 65029 308, .int 65030 309, .int 65031 310, .int 65032 311, .int 65033 312, .int 65034 313, .int 65035 314, .int 65036 315, .int 65037 316, .int 65038 317, .int 65039 318]
noncomputable def b1e : List (Int × Value) := [(65024, .int 65024 303), (65025, .int 65025 304), (65026, .int 65026 305), (65027, .int 65027 306), (65028, .int 65028 307), (65029, .int 65029 308), (6150, .int 6150 289), (65030, .int 65030 309), (65031, .int 65031 310), (65032, .int 65032 311), (65033, .int 65033 312), (6155, .int 6155 290), (6156, .int 6156 291), (6157, .int 6157 292), (8203, .int 8203 293), (8204, .int 8204 294), (8205, .int 8205 295), (65034, .int 65034 313), (65035, .int 65035 314), (65036, .int 65036 315), (65037, .int 65037 316), (65038, .int 65038 317), (65039, .int 65039 318), (173, .int 173 287), (847, .int 847 288), (8288, .int 8288 296), (65279, .int 65279 297)]
noncomputable def b1p : List Nat := [0, 1, 2, 3, 4, 5, 6, 7, 8, 9, 10, 11, 12, 13, 14, 15, 16, 17, 18, 19, 20, 21, 22, 45, 79, 96, 127]
noncomputable def b1Obj (led : Bool) : Obj := { cls := .type "set", data := .set b1e.toArray 29 { mask := 127, place := b1p.toArray, dummies := #[], finger := 0, led := led, moves := 2, plain := true } }
noncomputable def T9 (led : Bool) (P : Params) : BT := (((((((((((( T8 P).ins 58 (seqO "list" b1a 0)).ins 59 (fldO "range" [.int 65024 298, .int 65040 299, .int 1 300])).ins 60 (seqO "list" b1b 18)).ins 61 (fldO "range_iterator" [.int 65040 0, .int 0 0, .int 1 0])).ins 62 (seqO "tuple" [] 0)).ins 63 (fldO "StopIteration" [.ref 62, .none, .none, .none, .bool false, .none])).ins 64 (seqO "list" (b1a ++ b1b) 0)).ins 65 (b1Obj led)).ins 66 (fldO "list_iterator" [.none, .int 27 0])).ins 67 (seqO "tuple" [] 0)).ins 68 (fldO "StopIteration" [.ref 67, .none, .none, .none, .bool false, .none])).set 3 (Obj.putName "b1_set" (PyData.keyHash P "b1_set") (.str "b1_set" 346) (.ref 65))
noncomputable abbrev St9 (led : Bool) (w : World) (os : OsState) : SharedT := { tree := T9 led w.params, n := 69, life := { }, gens := { toList := [] }, drawn := { }, toks := 347, os := os }
noncomputable def pos9 : Pos := { line := 42, col := 0, endLine := 42, endCol := 6 }
end Zh
end
/-! part ZhG -/
section
set_option maxHeartbeats 0
namespace Zh
open PySem PySem.W PySem.Calls PyProof.Rows PySem.Spec PyProof
theorem set_ff (w : World) : (fun os => rT ((w.withFollow "set-order" false).withFollow "special-get-raises" false) 1000 8 (St8 ((w.withFollow "set-order" false).withFollow "special-get-raises" false) os) pos8) = fun os => some (.next, St9 true ((w.withFollow "set-order" false).withFollow "special-get-raises" false) os, cdT, pos9) := by kernel_rfl!
theorem set_ft (w : World) : (fun os => rT ((w.withFollow "set-order" true).withFollow "special-get-raises" false) 1000 8 (St8 ((w.withFollow "set-order" true).withFollow "special-get-raises" false) os) pos8) = fun os => some (.next, St9 false ((w.withFollow "set-order" true).withFollow "special-get-raises" false) os, cdT, pos9) := by kernel_rfl!
theorem set_tf (w : World) : (fun os => rT ((w.withFollow "set-order" false).withFollow "special-get-raises" true) 1000 8 (St8 ((w.withFollow "set-order" false).withFollow "special-get-raises" true) os) pos8) = fun os => some (.next, St9 true ((w.withFollow "set-order" false).withFollow "special-get-raises" true) os, cdT, pos9) := by kernel_rfl!
theorem set_tt (w : World) : (fun os => rT ((w.withFollow "set-order" true).withFollow "special-get-raises" true) 1000 8 (St8 ((w.withFollow "set-order" true).withFollow "special-get-raises" true) os) pos8) = fun os => some (.next, St9 false ((w.withFollow "set-order" true).withFollow "special-get-raises" true) os, cdT, pos9) := by kernel_rfl!
theorem follow_set (w : World) (a b : Bool) : ((w.withFollow "set-order" b).withFollow "special-get-raises" a).params.followText "set-order" = b := by
  simp [World.withFollow]
noncomputable def SetRun (w : World) : Prop := (fun os => rT w 1000 8 (St8 w os) pos8) = fun os => some (.next, St9 (!w.params.followText "set-order") w os, cdT, pos9)
theorem set_run (w : World) : SetRun w :=
  byRow2 "special-get-raises" (P := SetRun)
    (byRow2 "set-order" (P := fun w => SetRun (w.withFollow "special-get-raises" false)) (fun w => by unfold SetRun; rw [follow_set]; exact set_ff w) (fun w => by unfold SetRun; rw [follow_set]; exact set_ft w))
    (byRow2 "set-order" (P := fun w => SetRun (w.withFollow "special-get-raises" true)) (fun w => by unfold SetRun; rw [follow_set]; exact set_tf w) (fun w => by unfold SetRun; rw [follow_set]; exact set_tt w)) w
end Zh
end
/-! part ZhH -/
section
set_option maxHeartbeats 0
namespace Zh
open PySem PySem.W PySem.Calls PyProof.Rows PySem.Spec PyProof
theorem run0 (w : World) : (fun os => rT w 60 0 (stT T0 15 187 w os) pos0) = fun os => some (.next, stT T1 15 189 w os, cdT, pos1) := by kernel_rfl!
theorem run1 (w : World) : (fun os => rT w 300 1 (stT T1 15 189 w os) pos1) = fun os => some (.next, stT T2 43 231 w os, cdT, pos2) := by kernel_rfl!
theorem run2 (w : World) : (fun os => rT w 60 2 (stT T2 43 231 w os) pos2) = fun os => some (.next, stT T3 43 233 w os, cdT, pos3) := by kernel_rfl!
theorem run3f (w : World) : (fun os => rT (w.withFollow "special-get-raises" false) 200 3 (stT T3 43 233 (w.withFollow "special-get-raises" false) os) pos3) = fun os => some (.next, stT T4 44 264 (w.withFollow "special-get-raises" false) os, cdT, pos4) := by kernel_rfl!
theorem run3t (w : World) : (fun os => rT (w.withFollow "special-get-raises" true) 200 3 (stT T3 43 233 (w.withFollow "special-get-raises" true) os) pos3) = fun os => some (.next, stT T4 44 264 (w.withFollow "special-get-raises" true) os, cdT, pos4) := by kernel_rfl!
theorem run3 (w : World) : (fun os => rT w 200 3 (stT T3 43 233 w os) pos3) = fun os => some (.next, stT T4 44 264 w os, cdT, pos4) :=
  byRow2 "special-get-raises" (P := fun w => (fun os => rT w 200 3 (stT T3 43 233 w os) pos3) = fun os => some (.next, stT T4 44 264 w os, cdT, pos4)) run3f run3t w
theorem run4 (w : World) : (fun os => rT w 60 4 (stT T4 44 264 w os) pos4) = fun os => some (.next, stT T5 51 274 w os, cdT, pos5) := by kernel_rfl!
theorem run5 (w : World) : (fun os => rT w 60 5 (stT T5 51 274 w os) pos5) = fun os => some (.next, stT T6 51 276 w os, cdT, pos6) := by kernel_rfl!
theorem run6 (w : World) : (fun os => rT w 60 6 (stT T6 51 276 w os) pos6) = fun os => some (.next, stT T7 58 285 w os, cdT, pos7) := by kernel_rfl!
theorem run7 (w : World) : (fun os => rT w 60 7 (stT T7 58 285 w os) pos7) = fun os => some (.next, stT T8 58 287 w os, cdT, pos8) := by kernel_rfl!
noncomputable def T10 (led : Bool) : Params → BT := nextT (T9 led) 69 347 9 pos9
noncomputable def pos10 : Pos := { line := 43, col := 0, endLine := 44, endCol := 30 }
theorem run9 (led : Bool) (w : World) : (fun os => rT w 60 9 (stT (T9 led) 69 347 w os) pos9) = fun os => some (.next, stT (T10 led) 76 354 w os, cdT, pos10) := by kernel_rfl!
/-! the dict -/
noncomputable def b3objs : List Obj := dob (ents 354 (Zn.b3List.take 646) ++ entsS 2292 0 (Zn.b3List.drop 646)) :: (fobs 354 Zn.b3List 37 ++ [dob (entsS 2292 0 (Zn.b3List.drop 646))])
noncomputable def T11 (led : Bool) (P : Params) : BT := (insAll (T10 led P) 76 b3objs).set 3 (Obj.putName "b3_exceptions" (PyData.keyHash P "b3_exceptions") (.str "b3_exceptions" 2304) (.ref 76))
noncomputable def pos11 : Pos := ⟨45, 0, 45, 13⟩
noncomputable def T12 (led : Bool) : Params → BT := nextT (T11 led) 115 2305 11 pos11
noncomputable def pos12 : Pos := ⟨46, 0, 50, 23⟩
theorem run11 (led : Bool) (w : World) : (fun os => rT w 60 11 (stT (T11 led) 115 2305 w os) pos11) = fun os => some (.next, stT (T12 led) 122 2313 w os, cdT, pos12) := by kernel_rfl!
noncomputable def T13 (led : Bool) : Params → BT := nextT (T12 led) 122 2313 12 pos12
noncomputable def pos13 : Pos := ⟨51, 0, 51, 8⟩
theorem run12 (led : Bool) (w : World) : (fun os => rT w 60 12 (stT (T12 led) 122 2313 w os) pos12) = fun os => some (.next, stT (T13 led) 122 2315 w os, cdT, pos13) := by kernel_rfl!
noncomputable def T14 (led : Bool) : Params → BT := nextT (T13 led) 122 2315 13 pos13
noncomputable def pos14 : Pos := ⟨52, 0, 65, 60⟩
theorem run13 (led : Bool) (w : World) : (fun os => rT w 60 13 (stT (T13 led) 122 2315 w os) pos13) = fun os => some (.next, stT (T14 led) 127 2321 w os, cdT, pos14) := by kernel_rfl!
noncomputable def T15 (led : Bool) : Params → BT := nextT (T14 led) 127 2321 14 pos14
noncomputable def pos15 : Pos := ⟨66, 0, 76, 61⟩
theorem run14 (led : Bool) (w : World) : (fun os => rT w 60 14 (stT (T14 led) 127 2321 w os) pos14) = fun os => some (.next, stT (T15 led) 132 2327 w os, cdT, pos15) := by kernel_rfl!
noncomputable def T16 (led : Bool) : Params → BT := nextT (T15 led) 132 2327 15 pos15
noncomputable def pos16 : Pos := ⟨77, 0, 80, 47⟩
theorem run15 (led : Bool) (w : World) : (fun os => rT w 60 15 (stT (T15 led) 132 2327 w os) pos15) = fun os => some (.next, stT (T16 led) 139 2336 w os, cdT, pos16) := by kernel_rfl!
noncomputable def T17 (led : Bool) : Params → BT := nextT (T16 led) 139 2336 16 pos16
noncomputable def pos17 : Pos := ⟨81, 0, 83, 27⟩
theorem run16 (led : Bool) (w : World) : (fun os => rT w 60 16 (stT (T16 led) 139 2336 w os) pos16) = fun os => some (.next, stT (T17 led) 144 2342 w os, cdT, pos17) := by kernel_rfl!
noncomputable def T18 (led : Bool) : Params → BT := nextT (T17 led) 144 2342 17 pos17
noncomputable def pos18 : Pos := ⟨84, 0, 87, 53⟩
theorem run17 (led : Bool) (w : World) : (fun os => rT w 60 17 (stT (T17 led) 144 2342 w os) pos17) = fun os => some (.next, stT (T18 led) 149 2348 w os, cdT, pos18) := by kernel_rfl!
noncomputable def T19 (led : Bool) : Params → BT := nextT (T18 led) 149 2348 18 pos18
noncomputable def pos19 : Pos := ⟨88, 0, 105, 41⟩
theorem run18 (led : Bool) (w : World) : (fun os => rT w 60 18 (stT (T18 led) 149 2348 w os) pos18) = fun os => some (.next, stT (T19 led) 154 2354 w os, cdT, pos19) := by kernel_rfl!
noncomputable def T20 (led : Bool) : Params → BT := nextT (T19 led) 154 2354 19 pos19
noncomputable def pos20 : Pos := ⟨106, 0, 114, 16⟩
theorem run19 (led : Bool) (w : World) : (fun os => rT w 60 19 (stT (T19 led) 154 2354 w os) pos19) = fun os => some (.next, stT (T20 led) 161 2365 w os, cdT, pos20) := by kernel_rfl!
noncomputable def T21 (led : Bool) : Params → BT := nextT (T20 led) 161 2365 20 pos20
noncomputable def pos21 : Pos := ⟨115, 0, 141, 65⟩
theorem run20 (led : Bool) (w : World) : (fun os => rT w 60 20 (stT (T20 led) 161 2365 w os) pos20) = fun os => some (.next, stT (T21 led) 166 2371 w os, cdT, pos21) := by kernel_rfl!
end Zh
end
/-! part ZhI -/
section
set_option maxHeartbeats 0
namespace Zh
open PySem PySem.W PySem.Calls PyProof.Rows PySem.Spec PyProof
noncomputable def ks10 : List (Option Expr) := match stmt 10 with | .Assign _ (.Dict ks _ _) _ => ks | _ => []
noncomputable def vs10 : List Expr := match stmt 10 with | .Assign _ (.Dict _ vs _) _ => vs | _ => []
noncomputable def dp10 : Pos := match stmt 10 with | .Assign _ (.Dict _ _ p) _ => p | _ => ⟨0, 0, 0, 0⟩
noncomputable def sp10 : Pos := match stmt 10 with | .Assign _ _ p => p | _ => ⟨0, 0, 0, 0⟩
noncomputable def np10 : Pos := match stmt 10 with | .Assign [.Name _ p] _ _ => p | _ => ⟨0, 0, 0, 0⟩
theorem stmt10 : stmt 10 = .Assign [.Name "b3_exceptions" np10] (.Dict ks10 vs10 dp10) sp10 := by kernel_rfl!
theorem b3_list : Zn.b3List = (ks10.map Zn.keyOf).zip (vs10.map Zn.strOf) := by kernel_rfl!
noncomputable def okK : Option Expr → Bool
  | some (.Constant (.int _) _ _) => true
  | _ => false
noncomputable def okV : Expr → Bool
  | .Constant (.str _) _ _ => true
  | _ => false
noncomputable def okKV : List (Option Expr) → List Expr → Bool
  | [], [] => true
  | k :: ks, v :: vs => okK k && okV v && okKV ks vs
  | _, _ => false
theorem ok10 : okKV ks10 vs10 = true := by kernel_rfl!
noncomputable def ascends : List Int → Bool
  | a :: b :: l => decide (a < b) && ascends (b :: l)
  | _ => true
theorem asc10 : (decide (0 ≤ (Zn.b3List.map (·.1)).headD 0) && ascends (Zn.b3List.map (·.1)) && decide ((Zn.b3List.map (·.1)).getLastD 0 < 1114112)) = true := by kernel_rfl!
theorem len10 : Zn.b3List.length = 650 := by kernel_rfl!
theorem asc_lt : ∀ (l : List Int), ascends l = true → l.Pairwise (· < ·) ∧ ∀ x ∈ l, x ≤ l.getLastD 0
  | [], _ => ⟨.nil, fun _ h => by cases h⟩
  | [a], _ => ⟨List.pairwise_singleton _ _, fun x h => by rcases List.mem_singleton.mp h with rfl; exact Int.le_refl _⟩
  | a :: b :: l, h => by
    obtain ⟨h1, h2⟩ := Bool.and_eq_true_iff.mp h
    have h1 := of_decide_eq_true h1
    obtain ⟨p, q⟩ := asc_lt (b :: l) h2
    have e : (a :: b :: l).getLastD 0 = (b :: l).getLastD 0 := by simp [List.getLastD]
    refine ⟨List.pairwise_cons.mpr ⟨fun x hx => ?_, p⟩, fun x hx => ?_⟩
    · rcases List.mem_cons.mp hx with rfl | hx
      · exact h1
      · exact Int.lt_trans h1 (List.rel_of_pairwise_cons p hx)
    · rw [e]
      rcases List.mem_cons.mp hx with rfl | hx
      · exact Int.le_trans (Int.le_of_lt h1) (q b (.head _))
      · exact q x hx
theorem hash_small {k : Int} (h0 : 0 ≤ k) (h1 : k < 1114112) : hashInt k = k := by
  have : rawHash k = k := by
    simp only [rawHash]
    rw [if_neg (show ¬ k < 0 by lia)]
    have e : ((k.natAbs % (2 ^ 61 - 1) : Nat) : Int) = k := by
      rw [Nat.mod_eq_of_lt (by lia)]; lia
    rw [show ((k.natAbs : Int) % ((2 ^ 61 - 1 : Nat) : Int)) = ((k.natAbs % (2 ^ 61 - 1) : Nat) : Int) from rfl, e]
    rw [if_neg (by rw [beq_iff_eq]; lia)]
  unfold hashInt
  rw [this, if_neg (by rw [beq_iff_eq]; lia)]
theorem b3_range : ∀ x ∈ Zn.b3List, 0 ≤ x.1 ∧ x.1 < 1114112 := fun x hx => by
  obtain ⟨h, h3⟩ := Bool.and_eq_true_iff.mp asc10
  obtain ⟨h1, h2⟩ := Bool.and_eq_true_iff.mp h
  have h1 := of_decide_eq_true h1
  have h3 := of_decide_eq_true h3
  obtain ⟨p, q⟩ := asc_lt _ h2
  have hm : x.1 ∈ Zn.b3List.map (·.1) := List.mem_map_of_mem hx
  refine ⟨?_, Int.lt_of_le_of_lt (q _ hm) h3⟩
  generalize Zn.b3List.map (·.1) = l at h1 p hm
  cases l with
  | nil => cases hm
  | cons a l =>
    rcases List.mem_cons.mp hm with e | m
    · rw [e]; exact h1
    · exact Int.le_trans h1 (Int.le_of_lt (List.rel_of_pairwise_cons p m))
theorem b3_apart : Apart Zn.b3List := by
  unfold Apart
  have e : (Zn.b3List.map fun x => hashInt x.1) = Zn.b3List.map (·.1) := List.map_congr_left fun x hx => hash_small (b3_range x hx).1 (b3_range x hx).2
  rw [e]
  obtain ⟨h, h3⟩ := Bool.and_eq_true_iff.mp asc10
  obtain ⟨h1, h2⟩ := Bool.and_eq_true_iff.mp h
  exact (asc_lt _ h2).1.imp fun h => Int.ne_of_lt h
/-! the items -/
noncomputable def pairOf (env : Env) (p : Pos) (e : Option Expr × Expr) : Sem Value × Sem Value := (match e.1 with | some k => eval k env | none => pure .none, do let x ← eval e.2 env; standAt p; pure x)
theorem okK_inv {k : Option Expr} (h : okK k = true) : ∃ i a b, k = some (.Constant (.int i) a b) := by
  unfold okK at h; split at h
  · exact ⟨_, _, _, rfl⟩
  · cases h
theorem okV_inv {v : Expr} (h : okV v = true) : ∃ x a b, v = .Constant (.str x) a b := by
  unfold okV at h; split at h
  · exact ⟨_, _, _, rfl⟩
  · cases h
theorem okKV_inv {k : Option Expr} {ks : List (Option Expr)} {v : Expr} {vs : List Expr} (h : okKV (k :: ks) (v :: vs) = true) : okK k = true ∧ okV v = true ∧ okKV ks vs = true := by
  unfold okKV at h
  simpa only [Bool.and_eq_true, and_assoc] using h
theorem zip_pairs (env : Env) (p : Pos) (ks : List (Option Expr)) : ∀ (vs : List Expr), okKV ks vs = true →
    (evalEachOpt ks env).zip ((evalEach vs env).map fun v => do let x ← v; standAt p; pure x) = ((ks.zip vs).map (pairOf env p)).map fun e => (some e.1, e.2) := by
  induction ks with
  | nil => intro vs h; rw [List.zip_nil_left]; rfl
  | cons k ks ih =>
    intro vs h
    cases vs with
    | nil => unfold okKV at h; cases h
    | cons v vs =>
      obtain ⟨h1, h2, h3⟩ := okKV_inv h
      obtain ⟨i, a, b, rfl⟩ := okK_inv h1
      rw [evalEachOpt, evalEach, List.map_cons, List.zip_cons_cons, List.zip_cons_cons, List.map_cons, List.map_cons, ih vs h3]
      rfl
theorem items_of (w : World) (env : Env) (p : Pos) (ks : List (Option Expr)) : ∀ (vs : List Expr), okKV ks vs = true → Items w p ((ks.zip vs).map (pairOf env p)) ((ks.map Zn.keyOf).zip (vs.map Zn.strOf)) := by
  induction ks with
  | nil => intro vs h; rw [List.zip_nil_left]; exact .nil
  | cons k ks ih =>
    intro vs h
    cases vs with
    | nil => unfold okKV at h; cases h
    | cons v vs =>
      obtain ⟨h1, h2, h3⟩ := okKV_inv h
      obtain ⟨i, a, b, rfl⟩ := okK_inv h1
      obtain ⟨x, c, d, rfl⟩ := okV_inv h2
      refine .cons ⟨fun s q => ?_, fun s q => ?_⟩ (ih vs h3)
      · exact runs_mkInt
      · exact runs_bind (n := 1) (m := 1) runs_mkText (runs_bind (n := 1) (m := 0) runs_standAt runs_pure)
end Zh
end
/-! part ZhJ -/
section
set_option maxHeartbeats 0
namespace Zh
open PySem PySem.W PySem.Calls PyProof.Rows PySem.Spec PyProof
theorem segRun_mono {w : World} (k : Nat) : ∀ (n : Nat) (s : Shared) (t : Thread) (r : Flow × Shared × Code × Pos), segRun treeTable prg w 11 (some (.ref 6)) 1 n s t = some r → segRun treeTable prg w 11 (some (.ref 6)) 1 (n + k) s t = some r
  | 0, _, _, _, h => by simp [segRun] at h
  | n + 1, s, t, r, h => by
    rw [show n + 1 + k = n + k + 1 by lia]
    unfold segRun at h ⊢
    cases ht : endAt 1 t with
    | some f => rw [ht] at h; exact h
    | none =>
      rw [ht] at h
      cases hk : stepOk 11 (some (.ref 6)) t with
      | false => rw [hk] at h; cases h
      | true =>
        rw [hk] at h
        cases hs : step (denote treeTable) prg w s t with
        | halt o s' => rw [hs] at h; cases h
        | go s' t' => rw [hs] at h; exact segRun_mono k n s' t' r h
theorem Ends.run {w : World} {n N : Nat} {s s' : Shared} {t t' : Thread} {r : Flow × Shared × Code × Pos} (h : Ends w n s t s' t') (k : segRun treeTable prg w 11 (some (.ref 6)) 1 N s' t' = some r) : segRun treeTable prg w 11 (some (.ref 6)) 1 (n + N) s t = some r := by
  obtain ⟨m, hm, e⟩ := h
  have := segRun_mono (n - m) _ _ _ _ (seg_go e k)
  rwa [show m + N + (n - m) = n + N by lia] at this
noncomputable def okIns : BT → Nat → List Obj → Bool
  | _, _, [] => true
  | T, n, o :: os => ((T.ins n o).get n).isSome && okIns (T.ins n o) (n + 1) os
theorem hp_abs : ∀ (os : List Obj) (T : BT) (n : Nat) (life : Life), okIns T n os = true → hp (absHeap T n life) os = absHeap (insAll T n os) (n + os.length) life
  | [], T, n, life, _ => hp_nil _
  | o :: os, T, n, life, h => by
    obtain ⟨h1, h2⟩ := Bool.and_eq_true_iff.mp h
    have ih := hp_abs os (T.ins n o) (n + 1) life h2
    rw [absHeap_ins h1] at ih
    rw [show insAll T n (o :: os) = insAll (T.ins n o) (n + 1) os from rfl, List.length_cons, show n + (os.length + 1) = n + 1 + os.length by lia, ← ih]
    unfold hp Heap.push
    simp
theorem okb3 (led : Bool) : (fun P => okIns (T10 led P) 76 b3objs) = fun _ => true := by kernel_rfl!
theorem b3objs_len : b3objs.length = 39 := by kernel_rfl!
noncomputable def tail10 (v : Value) : Sem Flow := do
  standAt np10
  bindName envT "b3_exceptions" v
  pure .next
theorem tail_run (led : Bool) (w : World) : (fun os => qSegRunT qTable prg w 11 (some (.ref 6)) 1 12 { tree := insAll (T10 led w.params) 76 b3objs, n := 115, life := { }, gens := { toList := [] }, drawn := { }, toks := 2304, os := os } ⟨(tail10 (.ref 76)).wrap doneF deadEnd id id, cdT, dp10, B1⟩) =
    fun os => some (.next, stT (T11 led) 115 2305 w os, cdT, pos11) := by kernel_rfl!
theorem exec10 : exec (stmt 10) envT = (do standAt sp10; let v ← eval (.Dict ks10 vs10 dp10) envT; tail10 v) := by
  rw [stmt10]
  exact exec_Assign_Name envT "b3_exceptions" np10 (.Dict ks10 vs10 dp10) sp10 (by kernel_rfl!)
end Zh
end
/-! part ZhK -/
section
set_option maxHeartbeats 0
namespace Zh
open PySem PySem.W PySem.Calls PyProof.Rows PySem.Spec PyProof
theorem eval_dict (ks : List (Option Expr)) (vs : List Expr) (pos : Pos) (env : Env) : eval (.Dict ks vs pos) env = (do standAt pos; dictDisplay ((evalEachOpt ks env).zip ((evalEach vs env).map fun v => do let x ← v; standAt pos; pure x))) := rfl
theorem evalDict10 (w : World) (s : Shared) (q : Pos) (h11 : 11 ≤ s.heap.objs.size) (ht : s.toks = 354) : Runs w 262000 (eval (.Dict ks10 vs10 dp10) envT) s q (.ref s.heap.objs.size)
    { s with heap := hp s.heap b3objs, toks := 2304 } dp10 := by
  have e : eval (.Dict ks10 vs10 dp10) envT = (do standAt dp10; dictDisplay (((ks10.zip vs10).map (pairOf envT dp10)).map fun e => (some e.1, e.2))) := by
    rw [← zip_pairs envT dp10 ks10 vs10 ok10]
    exact eval_dict ks10 vs10 dp10 envT
  rw [e]
  have I : Items w dp10 ((ks10.zip vs10).map (pairOf envT dp10)) Zn.b3List := by rw [b3_list]; exact items_of w envT dp10 ks10 vs10 ok10
  have D := runs_display (w := w) (q := dp10) (s := s) (K := 37) (r := 4) I len10 (by decide) (by decide) b3_apart (by rw [len10]; decide) h11
  rw [len10, ht, show 354 + 51 * (37 + 1) = 2292 from rfl, show 17 * (37 + 1) = 646 from rfl, show 354 + 3 * 650 = 2304 from rfl, show 400 * 650 + 400 = 260400 from rfl] at D
  unfold b3objs
  exact (runs_bind (n := 1) runs_standAt D).le (by decide)
end Zh
end
/-! part ZhL -/
section
set_option maxHeartbeats 0
namespace Zh
open PySem PySem.W PySem.Calls PyProof.Rows PySem.Spec PyProof
noncomputable abbrev mid10 (led : Bool) (w : World) (os : OsState) : SharedT := { tree := insAll (T10 led w.params) 76 b3objs, n := 115, life := { }, gens := { toList := [] }, drawn := { }, toks := 2304, os := os }
theorem tail_ok (led : Bool) (w : World) (os : OsState) : segRun treeTable prg w 11 (some (.ref 6)) 1 12 (mid10 led w os).abs ⟨(tail10 (.ref 76)).wrap doneF deadEnd id id, cdT, dp10, B1⟩ = some (.next, (stT (T11 led) 115 2305 w os).abs, cdT, pos11) := by
  refine segRun_of ?_
  rw [q_segRunT, q_table]
  exact congrFun (tail_run led w) os
theorem size10 (led : Bool) (w : World) (os : OsState) : (stT (T10 led) 76 354 w os).abs.heap.objs.size = 76 := absHeap_size _ _ _
theorem mid_eq (led : Bool) (w : World) (os : OsState) : ({ (stT (T10 led) 76 354 w os).abs with heap := hp (stT (T10 led) 76 354 w os).abs.heap b3objs, toks := 2304 } : Shared) = (mid10 led w os).abs := by
  have hh := hp_abs b3objs (T10 led w.params) 76 { } (congrFun (okb3 led) w.params)
  rw [b3objs_len] at hh
  unfold SharedT.abs
  dsimp only
  rw [hh]
theorem R10 (led : Bool) (w : World) (os : OsState) : Runs w 262000 (eval (.Dict ks10 vs10 dp10) envT) (stT (T10 led) 76 354 w os).abs sp10 (.ref 76) (mid10 led w os).abs dp10 := by
  have R := evalDict10 w (stT (T10 led) 76 354 w os).abs sp10 (by rw [size10]; decide) rfl
  rw [size10, mid_eq] at R
  exact R
theorem at_wrap (p : Pos) (E : Sem Value) (T : Value → Sem Flow) (K : Flow → Sem Fin) (H : Value → Sem Fin) (gd : Bool → Bool) (lv : List Value → List Value) :
    ((do standAt p; let v ← E; T v) : Sem Flow).wrap K H gd lv = (standAt p >>= fun _ => E).wrap (fun v => (T v).wrap K H gd lv) H gd lv := by
  show Sem.at p (fun _ => (E >>= T).wrap K H gd lv) = Sem.at p (fun _ => E.wrap (fun v => (T v).wrap K H gd lv) H gd lv)
  rw [Sem.bind_eq_wrap', Sem.wrap_wrap]
  rfl
theorem b3_thr : thr (standAt sp10 >>= fun _ => eval (.Dict ks10 vs10 dp10) envT) (fun v => (tail10 v).wrap doneF deadEnd id id) deadEnd id id (behindTheImports prg) envT pos10 = pieceOf (stmt 10) envT cdT pos10 B1 := by
  unfold thr pieceOf
  rw [exec10, at_wrap]
  rfl
theorem b3_run (led : Bool) (w : World) (os : OsState) : segRun treeTable prg w 11 (some (.ref 6)) 1 262050 (stT (T10 led) 76 354 w os).abs (pieceOf (stmt 10) envT cdT pos10 B1) = some (.next, (stT (T11 led) 115 2305 w os).abs, cdT, pos11) := by
  have R2 := runs_bind (n := 1) (w := w) (q := pos10) (x := standAt sp10) (f := fun _ => eval (.Dict ks10 vs10 dp10) envT) runs_standAt (R10 led w os)
  have run := R2.run (fun v => (tail10 v).wrap doneF deadEnd id id) deadEnd id id (behindTheImports prg) envT
  have this := run.run (tail_ok led w os)
  rw [b3_thr] at this
  have := segRun_mono 37 _ _ _ _ this
  rwa [show 1 + 262000 + 12 + 37 = 262050 from rfl] at this
end Zh
end
/-! part ZhM -/
section
set_option maxHeartbeats 0
namespace Zh
open PySem PySem.W PySem.Calls PyProof.Rows PySem.Spec PyProof
noncomputable abbrev StB (w : World) (os : OsState) : SharedT := stT T0 15 187 w os
noncomputable abbrev Boot (w : World) (os : OsState) : Shared := ⟨boot_heap w.params, Array.mk [], boot_drawn, boot_toks, os⟩
theorem pre_run (w : World) : (fun os => topGo treeTable prg w 11 (some (.ref 6)) 12 (Boot w os) (topStub prg)) = fun os => some ((StB w os).abs, ⟨denote treeTable (.body (behindTheImports prg) envT), cdT, ⟨0, 0, 0, 0⟩, B1⟩) := by kernel_rfl!
theorem block_run (w : World) : (fun os => segRun treeTable prg w 11 (some (.ref 6)) 1 1 (StB w os).abs (blockOf (behindTheImports prg) envT cdT ⟨0, 0, 0, 0⟩ B1)) = fun os => some (.next, (StB w os).abs, cdT, ⟨0, 0, 0, 0⟩) := by kernel_rfl!
theorem fin_run (w : World) : (fun (s : Shared) (pos : Pos) => topRun treeTable prg w 11 (some (.ref 6)) 3 s ⟨doneF .next, cdT, pos, B1⟩) = fun s _ => some s := by kernel_rfl!
theorem body_eq : behindTheImports prg = [stmt 0] ++ ([stmt 1] ++ ([stmt 2] ++ ([stmt 3] ++ ([stmt 4] ++ ([stmt 5] ++ ([stmt 6] ++ ([stmt 7] ++ ([stmt 8] ++ ([stmt 9] ++ (stmt 10 :: ([stmt 11] ++ ([stmt 12] ++ ([stmt 13] ++ ([stmt 14] ++ ([stmt 15] ++ ([stmt 16] ++ ([stmt 17] ++ ([stmt 18] ++ ([stmt 19] ++ ([stmt 20] ++ [])))))))))))))))))))) := by kernel_rfl!
theorem seg_one {w : World} {os : OsState} {i n t n' t' : Nat} {T T' : Params → BT} {pos pos' : Pos} (h : (fun os => rT w 60 i (stT T n t w os) pos) = fun os => some (.next, stT T' n' t' w os, cdT, pos')) {N : Nat} {rest : List Stmt} {r : Shared}
    (k : topRun treeTable prg w 11 (some (.ref 6)) N (stT T' n' t' w os).abs (restOf rest envT cdT pos' B1) = some r) : topRun treeTable prg w 11 (some (.ref 6)) (60 + N) (stT T n t w os).abs (restOf ([stmt i] ++ rest) envT cdT pos B1) = some r :=
  piece_app (rT_ok (congrFun h os)) k
theorem top_run (w : World) (os : OsState) : topRun treeTable prg w 11 (some (.ref 6)) (12 + (1 + (60 + (300 + (60 + (200 + (60 + (60 + (60 + (60 + (1000 + (60 + (262050 + (60 + (60 + (60 + (60 + (60 + (60 + (60 + (60 + (60 + (60 + 3))))))))))))))))))))))) (Boot w os) (topStub prg) = some (stT (T21 (!w.params.followText "set-order")) 166 2371 w os).abs := by
  refine go_top (congrFun (pre_run w) os) ?_
  refine piece_block (congrFun (block_run w) os) ?_
  rw [show restOf (behindTheImports prg) envT cdT ⟨0, 0, 0, 0⟩ B1 = restOf ([stmt 0] ++ ([stmt 1] ++ ([stmt 2] ++ ([stmt 3] ++ ([stmt 4] ++ ([stmt 5] ++ ([stmt 6] ++ ([stmt 7] ++ ([stmt 8] ++ ([stmt 9] ++ (stmt 10 :: ([stmt 11] ++ ([stmt 12] ++ ([stmt 13] ++ ([stmt 14] ++ ([stmt 15] ++ ([stmt 16] ++ ([stmt 17] ++ ([stmt 18] ++ ([stmt 19] ++ ([stmt 20] ++ []))))))))))))))))))))) envT cdT ⟨0, 0, 0, 0⟩ B1 from congrArg (fun b => restOf b envT cdT ⟨0, 0, 0, 0⟩ B1) body_eq]
  generalize hled : (!w.params.followText "set-order") = led
  refine seg_one (run0 w) ?_
  refine piece_app (rT_ok (congrFun (run1 w) os)) ?_
  refine seg_one (run2 w) ?_
  refine piece_app (rT_ok (congrFun (run3 w) os)) ?_
  refine seg_one (run4 w) ?_
  refine seg_one (run5 w) ?_
  refine seg_one (run6 w) ?_
  refine seg_one (run7 w) ?_
  have S := set_run w
  unfold SetRun at S
  rw [hled] at S
  refine piece_app (rT_ok (congrFun S os)) ?_
  refine seg_one (run9 led w) ?_
  refine piece_cons (b3_run led w os) ?_
  refine seg_one (run11 led w) ?_
  refine seg_one (run12 led w) ?_
  refine seg_one (run13 led w) ?_
  refine seg_one (run14 led w) ?_
  refine seg_one (run15 led w) ?_
  refine seg_one (run16 led w) ?_
  refine seg_one (run17 led w) ?_
  refine seg_one (run18 led w) ?_
  refine seg_one (run19 led w) ?_
  refine seg_one (run20 led w) ?_
  exact piece_nil (congrFun (congrFun (fin_run w) _) _)
end Zh
end
/-! part ZhN -/
section
set_option maxHeartbeats 0
namespace Zh
open PySem PySem.W PySem.Calls PyProof.Rows PySem.Spec PyProof
noncomputable def q1 : Program := view prg [20]
noncomputable def loose1 : List Str := ["TupleComp", "COMPILER_FLAG_NAMES", "pretty_flags", "_NO_LINENO", "_get_lineno_width", "b1_set", "in_table_b1", "b3_exceptions", "map_table_b3", "_law_spelled", "_law_row", "_law_told", "_law_compared", "_law_words", "_law_worth", "_law_pairings"]
noncomputable abbrev EndS (led : Bool) (P : Params) (os : OsState) : Shared := ⟨absHeap (T21 led P) 166 { }, Array.mk [], { }, 2371, os⟩
theorem look (led : Bool) : (fun (P : Params) (os : OsState) => ((staticsOk (importedModules prg.main.body) (boot_heap P) (EndS led P os).heap && namesBound prg (EndS led P os).heap && gensDone (EndS led P os) && laidKept (boot_heap P) (EndS led P os).heap),
    openSeen q1 loose1 (importedModules prg.main.body) (fun _ => true) true (EndS led P os))) = fun _ _ => (true, openGood q1 loose1) := by kernel_rfl!
end Zh
end
/-! part ZhO -/
section
set_option maxHeartbeats 0
namespace Zh
open PySem PySem.W PySem.Calls PyProof.Rows PySem.Spec PyProof
noncomputable def codeAt : Option Obj → Str → Bool
  | some ⟨_, _, .fields vs, _⟩, q => (match vs.toList with
    | _ :: .str q' _ :: _ => q' == q
    | _ => false)
  | _, _ => false
noncomputable def fnObj (fd : FuncData) : Obj := { cls := .type "function", data := .func fd }
theorem code_all (led : Bool) : (fun P => codeAt ((T21 led P).get 49) (Zn.nmOf (Zn.stm 4)) && codeAt ((T21 led P).get 56) (Zn.nmOf (Zn.stm 6)) && codeAt ((T21 led P).get 74) (Zn.nmOf (Zn.stm 9)) && codeAt ((T21 led P).get 120) (Zn.nmOf (Zn.stm 11)) && codeAt ((T21 led P).get 125) (Zn.nmOf (Zn.stm 13)) && codeAt ((T21 led P).get 130) (Zn.nmOf (Zn.stm 14)) && codeAt ((T21 led P).get 137) (Zn.nmOf (Zn.stm 15)) && codeAt ((T21 led P).get 142) (Zn.nmOf (Zn.stm 16)) && codeAt ((T21 led P).get 147) (Zn.nmOf (Zn.stm 17)) && codeAt ((T21 led P).get 152) (Zn.nmOf (Zn.stm 18)) && codeAt ((T21 led P).get 159) (Zn.nmOf (Zn.stm 19)) && codeAt ((T21 led P).get 164) (Zn.nmOf (Zn.stm 20)) && codeAt ((T21 led P).get 27) "TupleComp.__init__" && codeAt ((T21 led P).get 34) "TupleComp.compare") = fun _ => true := by kernel_rfl!
theorem obj_all (led : Bool) : (fun P => ((T21 led P).get 50, ((T21 led P).get 57, ((T21 led P).get 75, ((T21 led P).get 121, ((T21 led P).get 126, ((T21 led P).get 131, ((T21 led P).get 138, ((T21 led P).get 143, ((T21 led P).get 148, ((T21 led P).get 153, ((T21 led P).get 160, ((T21 led P).get 165, ((T21 led P).get 28, ((T21 led P).get 35, ((T21 led P).get 38, ((T21 led P).get 43, ((T21 led P).get 65, (T21 led P).get 76)))))))))))))))))) =
    fun P => (some (fnObj (Zn.fdOf (.str "cpy313.dis" 231) (.ref 49) (Zn.stm 4))), (some (fnObj (Zn.fdOf (.str "cpy313.dis" 231) (.ref 56) (Zn.stm 6))), (some (fnObj (Zn.fdOf (.str "cpy313.stringprep" 285) (.ref 74) (Zn.stm 9))), (some (fnObj (Zn.fdOf (.str "cpy313.stringprep" 285) (.ref 120) (Zn.stm 11))), (some (fnObj (Zn.fdOf (.str "law_zn0031_01" 2313) (.ref 125) (Zn.stm 13))), (some (fnObj (Zn.fdOf (.str "law_zn0031_01" 2313) (.ref 130) (Zn.stm 14))), (some (fnObj (Zn.fdOf (.str "law_zn0031_01" 2313) (.ref 137) (Zn.stm 15))), (some (fnObj (Zn.fdOf (.str "law_zn0031_01" 2313) (.ref 142) (Zn.stm 16))), (some (fnObj (Zn.fdOf (.str "law_zn0031_01" 2313) (.ref 147) (Zn.stm 17))), (some (fnObj (Zn.fdOf (.str "law_zn0031_01" 2313) (.ref 152) (Zn.stm 18))), (some (fnObj (Zn.fdOf (.str "law_zn0031_01" 2313) (.ref 159) (Zn.stm 19))), (some (fnObj (Zn.fdOf (.str "law_zn0031_01" 2313) (.ref 164) (Zn.stm 20))), (some (fnObj (Zn.fdM "TupleComp.__init__" (.str "cpy313.pstats" 187) (.ref 27) (Zn.mst 0))), (some (fnObj (Zn.fdM "TupleComp.compare" (.str "cpy313.pstats" 187) (.ref 34) (Zn.mst 1))), (some (excClassObj "TupleComp" "TupleComp" 38 37 [.type "object"] [.type "object"] true [] [] false none none none none (some (.str "TupleComp" 189)) (some (.str "TupleComp" 197)) (some (.bool true)) "object.__new__"), (some (dob cfE), (some (b1Obj led), some (dob (ents 354 (Zn.b3List.take 646) ++ entsS 2292 0 (Zn.b3List.drop 646)))))))))))))))))))) := by kernel_rfl!
noncomputable abbrev H1 (P : Params) : Heap := absHeap (T21 (!P.followText "set-order") P) 166 { }
theorem ns_all (led : Bool) : (fun P => (absHeap (T21 led P) 166 { }).isNs mainGlobals && (absHeap (T21 led P) 166 { }).isNs 37 && (absHeap (T21 led P) 166 { }).isNs cStatics && Zn.used.all (fun x => ((absHeap (T21 led P) 166 { }).nsMap mainGlobals x).isNone) && ((absHeap (T21 led P) 166 { }).get? sysModules).isSome) = fun _ => true := by kernel_rfl!
theorem glob_all (led : Bool) : (fun P => Zn.globs.map fun x => (absHeap (T21 led P) 166 { }).nsMap mainGlobals x.1) = fun _ => Zn.globs.map fun x => some x.2 := by kernel_rfl!
theorem cls_all (led : Bool) : (fun P => ["__init__", "compare", "__getattribute__", "__getattr__", "__setattr__", "comp_select_list"].map fun x => (absHeap (T21 led P) 166 { }).nsMap 37 (Str.ofString x)) = fun _ => [some (.ref 28), some (.ref 35), none, none, none, none] := by kernel_rfl!
end Zh
end
/-! part ZhP -/
namespace Zh
open PySem PySem.W PySem.Calls PyProof.Rows PySem.Spec PyProof
theorem pair_eq {α β : Type} {a c : α} {b d : β} (h : (a, b) = (c, d)) : a = c ∧ b = d := ⟨congrArg Prod.fst h, congrArg Prod.snd h⟩
theorem get_abs {T : BT} {a : Nat} {o : Obj} (e : T.get a = some o) (ha : a < 166) (f : o.isFreed = false) : (absHeap T 166 { }).get? a = some o := by
  rw [abs_get ha e]
  obtain ⟨c, d, x, sl⟩ := o
  cases x <;> first | rfl | cases f
inductive EntRel : List DictEntry → List (Int × Str) → Prop where
  | nil : EntRel [] []
  | cons (a b : Nat) (x : Int × Str) {E : List DictEntry} {xs : List (Int × Str)} (r : EntRel E xs) : EntRel (ent a b x :: E) (x :: xs)
theorem EntRel.append : ∀ {E F : List DictEntry} {xs ys : List (Int × Str)}, EntRel E xs → EntRel F ys → EntRel (E ++ F) (xs ++ ys) := by
  intro E F xs ys h r'
  induction h with
  | nil => exact r'
  | cons a b x r ih => exact .cons a b x ih
theorem rel_map (f g : Nat → Nat) : ∀ (xs : List (Int × Str)) (n : Nat), EntRel ((xs.zipIdx n).map fun x => ent (f x.2) (g x.2) x.1) xs
  | [], _ => .nil
  | x :: xs, n => .cons _ _ x (rel_map f g xs (n + 1))
theorem ents_rel (t : Nat) (xs : List (Int × Str)) : EntRel (ents t xs) xs := rel_map (fun i => t + 3 * i) (fun i => t + 3 * i + 1) xs 0
theorem entsS_rel (t n : Nat) (xs : List (Int × Str)) : EntRel (entsS t n xs) xs := rel_map (fun i => t + 2 * i) (fun i => t + 2 * i + 1) xs 0
theorem EntRel.find (k : Int) : ∀ {E : List DictEntry} {xs : List (Int × Str)}, EntRel E xs → match xs.lookup k with
    | some x => ∃ t, (E.find? fun e => Value.isInt k e.key).map (·.val) = some (.str x t)
    | none => (E.find? fun e => Value.isInt k e.key).map (·.val) = none
  | _, _, .nil => rfl
  | _, _, .cons a b x (E := E) (xs := xs) r => by
    have ih := r.find k
    obtain ⟨k', y⟩ := x
    rw [List.lookup_cons, List.find?_cons]
    have e : Value.isInt k (ent a b (k', y)).key = (k' == k) := rfl
    rw [e]
    cases h : k' == k with
    | true =>
      rw [show (k == k') = true from by rw [beq_iff_eq] at h ⊢; exact h.symm]
      exact ⟨b, rfl⟩
    | false =>
      rw [show (k == k') = false from by rw [beq_eq_false_iff_ne] at h ⊢; exact Ne.symm h]
      exact ih
theorem EntRel.keys {prog : Program} {w : World} : ∀ {E : List DictEntry} {xs : List (Int × Str)}, EntRel E xs → ∀ e ∈ E, ∃ k, (intKind prog w).is k e.key = true ∧ e.hash = (intKind prog w).hash k := by
  intro E xs hh
  induction hh with
  | nil => intro _ h; cases h
  | cons a b x r ih =>
    intro e h
    rcases List.mem_cons.mp h with rfl | h
    · exact ⟨x.1, beq_self_eq_true _, rfl⟩
    · exact ih e h
theorem mapTab {C : Zn.Cx} {a : Addr} {E : List DictEntry} {xs : List (Int × Str)} (h : C.hB.get? a = some (dob E)) (r : EntRel E xs) : Zn.MapTab C a xs := by
  refine ⟨findBy Value.isInt E.toArray, ⟨dob E, E.toArray, _, h, ⟨rfl, rfl, rfl⟩, rfl, fun e he => r.keys e (by simpa using he), fun k => rfl⟩, fun k => ?_⟩
  have := r.find k
  have e : findBy Value.isInt E.toArray k = (E.find? fun e => Value.isInt k e.key).map (·.val) := by
    unfold findBy; rw [List.find?_toArray]
  rw [e]; exact this
theorem cf_rel : EntRel cfE Zn.cfList := by
  have e : Zn.cfList = ([(1, 233, "OPTIMIZED"), (2, 235, "NEWLOCALS"), (4, 237, "VARARGS"), (8, 239, "VARKEYWORDS"), (16, 241, "NESTED"), (32, 243, "GENERATOR"), (64, 245, "NOFREE"), (128, 247, "COROUTINE"), (256, 249, "ITERABLE_COROUTINE"), (512, 251, "ASYNC_GENERATOR")] : List (Int × Nat × String)).map fun x => (x.1, Str.ofString x.2.2) := by kernel_rfl!
  rw [e]
  unfold cfE
  generalize ([(1, 233, "OPTIMIZED"), (2, 235, "NEWLOCALS"), (4, 237, "VARARGS"), (8, 239, "VARKEYWORDS"), (16, 241, "NESTED"), (32, 243, "GENERATOR"), (64, 245, "NOFREE"), (128, 247, "COROUTINE"), (256, 249, "ITERABLE_COROUTINE"), (512, 251, "ASYNC_GENERATOR")] : List (Int × Nat × String)) = l
  induction l with
  | nil => exact .nil
  | cons x l ih => exact .cons _ _ _ ih
theorem b1_ok : (b1e.all fun e => (match e.2 with | .int i _ => i == e.1 | _ => false) && decide (0 ≤ e.1) && decide (e.1 < 1114112) && Zn.b1List.contains e.1) = true := by kernel_rfl!
theorem b1_ok2 : (Zn.b1List.all fun k => b1e.any fun e => e.1 == k) = true := by kernel_rfl!
theorem b1_mem {e : Int × Value} (h : e ∈ b1e) : (∃ t, e.2 = .int e.1 t) ∧ 0 ≤ e.1 ∧ e.1 < 1114112 ∧ Zn.b1List.contains e.1 = true := by
  have := List.all_eq_true.mp b1_ok e h
  obtain ⟨h1, h4⟩ := Bool.and_eq_true_iff.mp this
  obtain ⟨h1, h3⟩ := Bool.and_eq_true_iff.mp h1
  obtain ⟨h1, h2⟩ := Bool.and_eq_true_iff.mp h1
  refine ⟨?_, of_decide_eq_true h2, of_decide_eq_true h3, h4⟩
  obtain ⟨k, v⟩ := e
  dsimp only at h1 ⊢
  cases v <;> first | exact ⟨_, by rw [eq_of_beq h1]⟩ | cases h1
theorem setB1 {prog : Program} {w : World} {h : Heap} {led : Bool} (e : h.get? 65 = some (b1Obj led)) : h.SetOf (intKind prog w) 65 (fun k => Zn.b1List.contains k) b1e.length := by
  refine ⟨_, b1e.toArray, 29, _, e, ⟨rfl, rfl, rfl⟩, rfl, fun x hx => ?_, fun k => ⟨fun hk => ?_, fun hk => ?_⟩, by decide, by rfl, by rfl⟩
  · obtain ⟨⟨t, ht⟩, h0, h1, _⟩ := b1_mem hx
    exact ⟨⟨x.1, by rw [ht]; exact beq_self_eq_true _, (hash_small h0 h1).symm⟩, by rw [ht]; rfl⟩
  · have := List.all_eq_true.mp b1_ok2 k (List.contains_iff_mem.mp hk)
    obtain ⟨x, hx, hk'⟩ := List.any_eq_true.mp this
    obtain ⟨⟨t, ht⟩, _⟩ := b1_mem hx
    exact ⟨x, hx, by rw [ht]; exact hk'⟩
  · obtain ⟨x, hx, hk⟩ := hk
    obtain ⟨⟨t, ht⟩, _, _, h4⟩ := b1_mem hx
    rw [ht] at hk
    have : x.1 = k := eq_of_beq hk
    rw [← this]; exact h4
theorem codeRec {h : Heap} {c : Nat} {q : Str} {T : BT} (hk : ∀ b o, (absHeap T 166 { }).get? b = some o → h.get? b = some o) (hc : c < 166) (e : codeAt (T.get c) q = true) : h.CodeRec (.ref c) q := by
  cases g : T.get c with
  | none => rw [g] at e; cases e
  | some o =>
    rw [g] at e
    obtain ⟨cl, d, x, sl⟩ := o
    cases x with
    | fields vs =>
      have gg : (absHeap T 166 { }).get? c = some ⟨cl, d, .fields vs, sl⟩ := get_abs g hc rfl
      obtain ⟨l⟩ := vs
      match l, e with
      | _ :: .str q' t :: _, e =>
        have : q' = q := eq_of_beq e
        subst this
        exact ⟨c, _, _, t, rfl, hk _ _ gg, rfl, rfl⟩
    | _ => cases e
theorem lookup_mem {x : Str} {v : Value} : ∀ {l : List (Str × Value)}, l.lookup x = some v → (x, v) ∈ l
  | [], h => by cases h
  | (y, u) :: l, h => by
    rw [List.lookup_cons] at h
    cases e : x == y with
    | true => rw [e] at h; rw [eq_of_beq e, ← Option.some.inj h]; exact .head _
    | false => rw [e] at h; exact .tail _ (lookup_mem h)
theorem and_both {a b : Bool} (h : (a && b) = true) : a = true ∧ b = true := Bool.and_eq_true_iff.mp h
theorem map_mem {α β : Type} {f g : α → β} {x : α} : ∀ {l : List α}, l.map f = l.map g → x ∈ l → f x = g x
  | y :: l, h, m => by
    rw [List.map_cons, List.map_cons] at h
    obtain ⟨h1, h2⟩ := List.cons.inj h
    rcases List.mem_cons.mp m with rfl | m
    · exact h1
    · exact map_mem h2 m
theorem has_of {led : Bool} {T : BT} {w : World} {h : Heap} {mg mb : Str → Option Value} {p : Program} {loose : List Str} {mean : ExcName → Option Value} (hk : ∀ b o, (absHeap T 166 { }).get? b = some o → h.get? b = some o) (Tp : Top p loose mean mg mb h)
    (O : (T.get 50, (T.get 57, (T.get 75, (T.get 121, (T.get 126, (T.get 131, (T.get 138, (T.get 143, (T.get 148, (T.get 153, (T.get 160, (T.get 165, (T.get 28, (T.get 35, (T.get 38, (T.get 43, (T.get 65, T.get 76))))))))))))))))) = (some (fnObj (Zn.fdOf (.str "cpy313.dis" 231) (.ref 49) (Zn.stm 4))), (some (fnObj (Zn.fdOf (.str "cpy313.dis" 231) (.ref 56) (Zn.stm 6))), (some (fnObj (Zn.fdOf (.str "cpy313.stringprep" 285) (.ref 74) (Zn.stm 9))), (some (fnObj (Zn.fdOf (.str "cpy313.stringprep" 285) (.ref 120) (Zn.stm 11))), (some (fnObj (Zn.fdOf (.str "law_zn0031_01" 2313) (.ref 125) (Zn.stm 13))), (some (fnObj (Zn.fdOf (.str "law_zn0031_01" 2313) (.ref 130) (Zn.stm 14))), (some (fnObj (Zn.fdOf (.str "law_zn0031_01" 2313) (.ref 137) (Zn.stm 15))), (some (fnObj (Zn.fdOf (.str "law_zn0031_01" 2313) (.ref 142) (Zn.stm 16))), (some (fnObj (Zn.fdOf (.str "law_zn0031_01" 2313) (.ref 147) (Zn.stm 17))), (some (fnObj (Zn.fdOf (.str "law_zn0031_01" 2313) (.ref 152) (Zn.stm 18))), (some (fnObj (Zn.fdOf (.str "law_zn0031_01" 2313) (.ref 159) (Zn.stm 19))), (some (fnObj (Zn.fdOf (.str "law_zn0031_01" 2313) (.ref 164) (Zn.stm 20))), (some (fnObj (Zn.fdM "TupleComp.__init__" (.str "cpy313.pstats" 187) (.ref 27) (Zn.mst 0))), (some (fnObj (Zn.fdM "TupleComp.compare" (.str "cpy313.pstats" 187) (.ref 34) (Zn.mst 1))), (some (excClassObj "TupleComp" "TupleComp" 38 37 [.type "object"] [.type "object"] true [] [] false none none none none (some (.str "TupleComp" 189)) (some (.str "TupleComp" 197)) (some (.bool true)) "object.__new__"), (some (dob cfE), (some (b1Obj led), some (dob (ents 354 (Zn.b3List.take 646) ++ entsS 2292 0 (Zn.b3List.drop 646)))))))))))))))))))))
    (Cc : (codeAt (T.get 49) (Zn.nmOf (Zn.stm 4)) && codeAt (T.get 56) (Zn.nmOf (Zn.stm 6)) && codeAt (T.get 74) (Zn.nmOf (Zn.stm 9)) && codeAt (T.get 120) (Zn.nmOf (Zn.stm 11)) && codeAt (T.get 125) (Zn.nmOf (Zn.stm 13)) && codeAt (T.get 130) (Zn.nmOf (Zn.stm 14)) && codeAt (T.get 137) (Zn.nmOf (Zn.stm 15)) && codeAt (T.get 142) (Zn.nmOf (Zn.stm 16)) && codeAt (T.get 147) (Zn.nmOf (Zn.stm 17)) && codeAt (T.get 152) (Zn.nmOf (Zn.stm 18)) && codeAt (T.get 159) (Zn.nmOf (Zn.stm 19)) && codeAt (T.get 164) (Zn.nmOf (Zn.stm 20)) && codeAt (T.get 27) "TupleComp.__init__" && codeAt (T.get 34) "TupleComp.compare") = true)
    (N0 : ((absHeap T 166 { }).isNs mainGlobals && (absHeap T 166 { }).isNs 37 && (absHeap T 166 { }).isNs cStatics && Zn.used.all (fun x => ((absHeap T 166 { }).nsMap mainGlobals x).isNone) && ((absHeap T 166 { }).get? sysModules).isSome) = true)
    (glo : (Zn.globs.map fun x => (absHeap T 166 { }).nsMap mainGlobals x.1) = Zn.globs.map fun x => some x.2)
    (cl : (["__init__", "compare", "__getattribute__", "__getattr__", "__setattr__", "comp_select_list"].map fun x => (absHeap T 166 { }).nsMap 37 (Str.ofString x)) = [some (.ref 28), some (.ref 35), none, none, none, none]) : Zn.Has ⟨prg, w, h, mg, mb⟩ := by
  obtain ⟨e50, O⟩ := pair_eq O
  obtain ⟨e57, O⟩ := pair_eq O
  obtain ⟨e75, O⟩ := pair_eq O
  obtain ⟨e121, O⟩ := pair_eq O
  obtain ⟨e126, O⟩ := pair_eq O
  obtain ⟨e131, O⟩ := pair_eq O
  obtain ⟨e138, O⟩ := pair_eq O
  obtain ⟨e143, O⟩ := pair_eq O
  obtain ⟨e148, O⟩ := pair_eq O
  obtain ⟨e153, O⟩ := pair_eq O
  obtain ⟨e160, O⟩ := pair_eq O
  obtain ⟨e165, O⟩ := pair_eq O
  obtain ⟨e28, O⟩ := pair_eq O
  obtain ⟨e35, O⟩ := pair_eq O
  obtain ⟨e38, O⟩ := pair_eq O
  obtain ⟨e43, O⟩ := pair_eq O
  obtain ⟨e65, O⟩ := pair_eq O
  have e76 := O
  obtain ⟨Cc, c34⟩ := and_both Cc
  obtain ⟨Cc, c27⟩ := and_both Cc
  obtain ⟨Cc, c164⟩ := and_both Cc
  obtain ⟨Cc, c159⟩ := and_both Cc
  obtain ⟨Cc, c152⟩ := and_both Cc
  obtain ⟨Cc, c147⟩ := and_both Cc
  obtain ⟨Cc, c142⟩ := and_both Cc
  obtain ⟨Cc, c137⟩ := and_both Cc
  obtain ⟨Cc, c130⟩ := and_both Cc
  obtain ⟨Cc, c125⟩ := and_both Cc
  obtain ⟨Cc, c120⟩ := and_both Cc
  obtain ⟨Cc, c74⟩ := and_both Cc
  obtain ⟨Cc, c56⟩ := and_both Cc
  have c49 := Cc
  obtain ⟨N0, n5⟩ := and_both N0
  obtain ⟨N0, n4⟩ := and_both N0
  obtain ⟨N0, n3⟩ := and_both N0
  obtain ⟨n1, n2⟩ := and_both N0
  have G1 : h.Ns mainGlobals ((absHeap T 166 { }).nsMap mainGlobals) := (Heap.Ns.of_isNs n1).keeps hk
  have mge : mg = (absHeap T 166 { }).nsMap mainGlobals := Tp.g.eq_nsMap.trans G1.eq_nsMap.symm
  have hin : ∀ {a : Nat} {o : Obj}, T.get a = some o → a < 166 → o.isFreed = false → h.get? a = some o := fun e l f => hk _ _ (get_abs e l f)
  have fn : ∀ {i c f : Nat} {pm : Value}, T.get f = some (fnObj (Zn.fdOf pm (.ref c) (Zn.stm i))) → f < 166 → c < 166 → codeAt (T.get c) (Zn.nmOf (Zn.stm i)) = true → Zn.HasFn ⟨prg, w, h, mg, mb⟩ i c f := fun e l l' k => ⟨⟨_, _, hin e l rfl, rfl⟩, codeRec hk l' k⟩
  simp only [List.map_cons, List.map_nil, List.cons.injEq, and_true] at cl
  obtain ⟨k1, k2, k3, k4, k5, k6⟩ := cl
  refine ⟨⟨⟨37, _, ⟨⟨_, _, _, _, _, _, _, _, _, _, _, _, hin e38 (by decide) rfl⟩, (Heap.Ns.of_isNs n2).keeps hk⟩, k1, k2, k3, k4, k5, k6⟩, ⟨_, _, hin e28 (by decide) rfl, rfl, rfl, codeRec hk (by decide) c27⟩, ⟨_, _, hin e35 (by decide) rfl, rfl, rfl, codeRec hk (by decide) c34⟩⟩,
    ⟨_, setB1 (hin e65 (by decide) rfl)⟩, ?_, mapTab (hin e43 (by decide) rfl) cf_rel, ⟨Tp.g, Tp.b, Tp.nolimit, ?_, Tp.builtins⟩, fun x v e => ?_, fun x hx => ?_, fun p hp => ?_⟩
  · have r := (ents_rel 354 (Zn.b3List.take 646)).append (entsS_rel 2292 0 (Zn.b3List.drop 646))
    rw [List.take_append_drop] at r
    exact mapTab (hin e76 (by decide) rfl) r
  · cases g : (absHeap T 166 { }).get? sysModules with
    | none => rw [g] at n5; cases n5
    | some o => intro q; have := hk _ _ g; rw [show h.get? sysModules = none from q] at this; cases this
  · have m := lookup_mem e
    show mg x = some v
    rw [mge]
    exact map_mem (f := fun x : Str × Value => (absHeap T 166 { }).nsMap mainGlobals x.1) (g := fun x => some x.2) glo m
  · have := List.all_eq_true.mp n4 x hx
    show mg x = none
    rw [mge]
    exact Option.isNone_iff_eq_none.mp this
  · unfold Zn.fnTable at hp
    rcases List.mem_cons.mp hp with rfl | hp
    · exact fn e50 (by decide) (by decide) c49
    rcases List.mem_cons.mp hp with rfl | hp
    · exact fn e57 (by decide) (by decide) c56
    rcases List.mem_cons.mp hp with rfl | hp
    · exact fn e75 (by decide) (by decide) c74
    rcases List.mem_cons.mp hp with rfl | hp
    · exact fn e121 (by decide) (by decide) c120
    rcases List.mem_cons.mp hp with rfl | hp
    · exact fn e126 (by decide) (by decide) c125
    rcases List.mem_cons.mp hp with rfl | hp
    · exact fn e131 (by decide) (by decide) c130
    rcases List.mem_cons.mp hp with rfl | hp
    · exact fn e138 (by decide) (by decide) c137
    rcases List.mem_cons.mp hp with rfl | hp
    · exact fn e143 (by decide) (by decide) c142
    rcases List.mem_cons.mp hp with rfl | hp
    · exact fn e148 (by decide) (by decide) c147
    rcases List.mem_cons.mp hp with rfl | hp
    · exact fn e153 (by decide) (by decide) c152
    rcases List.mem_cons.mp hp with rfl | hp
    · exact fn e160 (by decide) (by decide) c159
    rcases List.mem_cons.mp hp with rfl | hp
    · exact fn e165 (by decide) (by decide) c164
    cases hp
theorem has {w : World} {h : Heap} {mg mb : Str → Option Value} {p : Program} {loose : List Str} {mean : ExcName → Option Value} (hk : ∀ b o, (H1 w.params).get? b = some o → h.get? b = some o) (Tp : Top p loose mean mg mb h) : Zn.Has ⟨prg, w, h, mg, mb⟩ :=
  has_of (led := !w.params.followText "set-order") (T := T21 (!w.params.followText "set-order") w.params) hk Tp (congrFun (obj_all _) w.params) (congrFun (code_all _) w.params) (congrFun (ns_all _) w.params) (congrFun (glob_all _) w.params) (congrFun (cls_all _) w.params)
end Zh
/-! part ZhQ -/
namespace Zh
open PySem PySem.W PySem.Calls PyProof.Rows PySem.Spec PyProof
theorem opening_eq : opening prg = plainProg prg.main.scope.names := by kernel_rfl!
theorem fence_eq : (fun s => fenceModules? prg s) = fun s => some s := by kernel_rfl!
theorem size_all : (fun (P : Params) => ((boot_heap P).isNs mainGlobals && (Array.mk ([] : List GenState)).size == 0, (boot_heap P).objs.size, (boot_heap P).nsMap mainGlobals "__annotations__")) = fun _ => (true, 11, some (.ref 6)) := by kernel_rfl!
noncomputable abbrev End1 (w : World) (os : OsState) : Shared := ⟨H1 w.params, Array.mk [], { }, 2371, os⟩
theorem end_eq (w : World) (os : OsState) : (stT (T21 (!w.params.followText "set-order")) 166 2371 w os).abs = End1 w os := by
  unfold SharedT.abs
  with_reducible rfl
theorem run_end (w : World) (os : OsState) : topRun treeTable prg w 11 (some (.ref 6)) 270000 ⟨boot_heap w.params, Array.mk [], boot_drawn, boot_toks, os⟩ (topStub prg) = some (End1 w os) := by
  have h := top_run w os
  rw [end_eq] at h
  generalize End1 w os = r at h ⊢
  have e : (12 + (1 + (60 + (300 + (60 + (200 + (60 + (60 + (60 + (60 + (1000 + (60 + (262050 + (60 + (60 + (60 + (60 + (60 + (60 + (60 + (60 + (60 + (60 + 3))))))))))))))))))))))) = 264586 := rfl
  rw [e] at h
  exact topRun_mono 5414 _ _ _ _ h
theorem look_end (w : World) : (fun os => ((staticsOk (importedModules prg.main.body) (boot_heap w.params) (H1 w.params) && namesBound prg (H1 w.params) && gensDone (End1 w os) && laidKept (boot_heap w.params) (H1 w.params)),
    openSeen q1 loose1 (importedModules prg.main.body) (fun _ => true) true (End1 w os), (End1 w os).heap)) = fun _ => (true, openGood q1 loose1, H1 w.params) := by
  funext os
  have := congrFun (congrFun (look (!w.params.followText "set-order")) w.params) os
  obtain ⟨e1, e2⟩ := pair_eq this
  exact Prod.ext e1 (Prod.ext e2 (by with_reducible rfl))
theorem left : LeftO prg q1 loose1 (fun _ => true) (fun s => s.heap) (fun w => H1 w.params) 300000 := by
  refine LeftO.of_pieces (H₀ := boot_heap) (H₁ := H1) (gs₀ := Array.mk []) (gs₁ := Array.mk []) (d₀ := boot_drawn) (d₁ := { }) (k₀ := boot_toks) (k₁ := 2371) (m₀ := 11) (ann := some (.ref 6)) (M := 270000) ?_ ?_ ?_ ?_ ?_
  · exact boot_open opening_eq (by decide) (fun s => congrFun fence_eq s)
  · exact fun w => congrFun size_all w.params
  · exact fun w os => run_end w os
  · decide
  · exact fun w => look_end w
end Zh
/-! part ZhR1 -/
section
set_option maxHeartbeats 1000000
namespace Zh
open PySem PySem.W PySem.Calls PyProof.Rows PySem.Spec PyProof
abbrev theRow : OpenRow := PySem.Challenge.rw_zn0031_01.row
noncomputable def recOf : Stmt → DefRec
  | .FunctionDef name params body _ _ _ scope _ _ pos => ⟨name, params, body, scope, pos⟩
  | _ => ⟨Str.empty, ⟨[], [], none, [], [], none, []⟩, [], ⟨.module, [], false, false, []⟩, ⟨0, 0, 0, 0⟩⟩
noncomputable def lawRec : DefRec := recOf (Zn.stm 20)
theorem law_def : defOf q1 theRow.name = some (lawRec, []) := by kernel_rfl!
structure Plain : Prop where
  row : ∀ xs : List Int, Zn.tabRow (Zn.rowsL (Zn.numsL xs)) (Zn.keysL (Zn.numsL xs).sum) = Zn.tabTold (Zn.toldsL (Zn.numsL xs)) (Zn.keysL (Zn.numsL xs).sum)
  told : ∀ xs : List Int, Zn.ToldOk (Zn.toldsL (Zn.numsL xs))
  law : ∀ xs : List Int, Zn.lawOf (Zn.numsL xs) = true
theorem hasInts {R : WRecords} : ∀ {ds : List WData}, WShape.hasItems R ds .int = true → ∃ xs : List Int, ds = xs.map .int
  | [], _ => ⟨[], rfl⟩
  | d :: ds, h => by
    simp only [WShape.hasItems, Bool.and_eq_true] at h
    obtain ⟨xs, rfl⟩ := hasInts h.2
    obtain ⟨i, rfl⟩ := hasW_int h.1
    exact ⟨i :: xs, rfl⟩
theorem rdInts {P : Params} {h : Heap} : ∀ {vs : List Value} {xs : List Int}, WellAll P h vs (xs.map .int) → Zn.RdAll (fun a => h.get? a) vs (xs.map .int) := by
  intro vs xs
  induction xs generalizing vs with
  | nil => intro w; cases w; exact .nil
  | cons x xs ih => intro w; cases w with | cons a r => cases a; exact .cons (.int _ _) (ih r)
theorem pre_args {args : List WData} (h : theRow.claim.pre args = true) : ∃ xs : List Int, args = [.list (xs.map .int)] ∧ xs.length ≤ 63 := by
  obtain ⟨h1, h2⟩ := pre_splitW (r := theRow.toRowW) h
  obtain ⟨d, r, rfl, h3, h4⟩ := hasAllW_cons h1
  obtain rfl := hasAllW_nil h4
  obtain ⟨ds, rfl, h5⟩ := hasW_list h3
  obtain ⟨xs, rfl⟩ := hasInts h5
  refine ⟨xs, rfl, ?_⟩
  have h6 : (WTm.and (.not (.lt (.lit (.int 63)) (.len (.arg 0)))) (.lit (.bool true))).holds theRow.toRowW.records { args := [.list (xs.map .int)] } = true := h2
  have h7 := (holds_andW h6).1
  have e : (WTm.not (.lt (.lit (.int 63)) (.len (.arg 0)))).value theRow.toRowW.records { args := [.list (xs.map .int)] } = some (.bool (!decide ((63 : Int) < ((xs.map WData.int).length : Nat)))) := by
    have w := w_lt (R := theRow.toRowW.records) (e := { args := [.list (xs.map .int)] }) (a := .lit (.int 63)) (b := .len (.arg 0)) (x := 63) (y := ((xs.map WData.int).length : Nat)) rfl (w_len_list rfl)
    simp only [WTm.value, w] at w ⊢
    rw [w]
  have := condW_of h7 e
  rw [List.length_map] at this
  simp at this
  lia
theorem has_law (P : Plain) {w : World} {h : Heap} {mg mb : Str → Option Value} (H : Zn.Has ⟨prg, w, h, mg, mb⟩) {s₁ : Shared} (hs : s₁.heap = h) (hg : s₁.gens = #[]) {a : Addr} {vs : List Value} {xs : List Int} (hx : xs.length ≤ 63) (gt : h.get? a = some { cls := .type "list", data := .seq vs.toArray }) (wl : WellAll w.params h vs (xs.map .int)) :
    wpAny (model prg w) callerA (call (.ref 165) [.ref a]) (fun v s' => v = .bool true ∧ (∀ b o, s₁.heap.get? b = some o → s'.heap.get? b = some o) ∧ s'.os = s₁.os ∧ s'.gens = #[]) (fun _ _ => False) s₁ := by
  subst hs
  have F := (Zn.fn_law H xs (by lia) (P.row xs) (P.told xs)).run callerA (fun a => s₁.heap.get? a) s₁ [.ref a] ⟨rfl, by decide, by decide⟩ (fun _ _ e => e) (fun _ _ e => e) (.cons (.list gt (rdInts wl)) .nil)
  rw [P.law xs] at F
  refine wpAny_mono F ?_ Zn.no_imp
  rintro v s' ⟨g', k, r⟩
  obtain rfl := r.bool_inv
  obtain ⟨h', t', e⟩ := k.shape
  exact ⟨rfl, k.keep, by rw [e], by rw [e]; exact hg⟩
end Zh
end
/-! part ZhS -/
section
set_option maxHeartbeats 1000000
namespace Zh
open PySem PySem.W PySem.Calls PyProof.Rows PySem.Spec PyProof
theorem list_of {P : Params} {h : Heap} {v : Value} {xs : List WData} (w : Well P h v (.list xs)) : ∃ a vs, v = .ref a ∧ h.get? a = some { cls := .type "list", data := .seq vs.toArray } ∧ WellAll P h vs xs := by
  cases w with
  | list g r => exact ⟨_, _, rfl, g, r⟩
theorem post_true (args : List WData) : theRow.claim.post args (.bool true) args = true := by
  show (WShape.has theRow.records (.bool true) .bool && (WTm.eq .res (.lit (.bool true))).holds theRow.records { args := args, res := some (.bool true), after := args }) = true
  refine Bool.and_eq_true_iff.mpr ⟨by simp [WShape.has, WShape.arms], ?_⟩
  simp [WTm.holds, WTm.value, PySem.W.same]
theorem ask_law (P : Plain) : WalkO q1 loose1 (fun _ _ => True) (fun w h => ∀ b o, (H1 w.params).get? b = some o → h.get? b = some o) theRow.toRowW lawRec [] (fun f vs => PySem.call f vs) := by
  intro w s₀ s₁ mg mb G Y a o pm cd doc dV kV ho hd hc hdf hm hg args vals as hpre hlay hrd hwl hlo
  obtain ⟨xs, rfl, hx⟩ := pre_args hpre
  have H := has Y G.T
  have ha : a = 165 := by
    have h1 := H.glob (Str.ofString "law") (.ref 165) rfl
    have h2 : mg (Str.ofString "law") = some (.ref a) := hm
    have h3 : mg (Str.ofString "law") = some (.ref 165) := h1
    rw [h2] at h3
    exact Value.ref.inj (Option.some.inj h3)
  subst ha
  cases hwl with
  | cons hw hn =>
    cases hn
    obtain ⟨b, vs, rfl, gt, wl⟩ := list_of hw
    refine wpAny_mono (has_law P H rfl hg hx gt wl) ?_ (fun _ _ x => x.elim)
    rintro v s' ⟨rfl, hK, hos, hgens⟩
    refine GoodW.toG ⟨.inl ⟨.bool true, .bool true, [], rfl, fun _ => rfl, .bool true, ?_, fun _ => ⟨List.nodup_nil, fun _ h => by cases h⟩⟩, hK, hos, hgens⟩
    exact post_true _
theorem holds (P : Plain) : PySem.Challenge.rw_zn0031_01.Holds := by
  refine holds_law (by decide +kernel) fun said => ?_
  refine holds_open (r := theRow) (q := q1) (loose := loose1) (Xt := fun _ => true) (XP := fun _ _ => True) (Yf := fun s => s.heap) (Ya := fun w => H1 w.params) (YP := fun w h => ∀ b o, (H1 w.params).get? b = some o → h.get? b = some o) (N := 300000) left ?_ ?_ ?_ ?_ law_def ?hp ?hk ?hRf ?hwr said ?ok ?hb ?hw (ask_law P)
  · intro w s e b o h; rw [show s.heap = H1 w.params from e]; exact h
  · intro w h h' y k b o e; exact k _ _ (y _ _ e)
  · intro s _; trivial
  · intro mg h h' x _; exact x
  case hp => kernel_rfl!
  case hk => kernel_rfl!
  case hRf => exact fun s _ => recFacts_nil rfl
  case hwr => rfl
  case ok => decide +kernel
  case hb => exact ⟨rfl, rfl, rfl, rfl, rfl, by decide +kernel⟩
  case hw => w_witness2
end Zh
end
/-! part ZqA -/
namespace Zq
open Zs PySem Zn
/-! the plain law -/
theorem cast_told (e : Int) : castR (toldN e) = [e.fmod 3, roomOf e, (e.fdiv 36).fmod 3] := by
  have h1 := fmod_lt e (b := 3) (by decide)
  have h2 := room_nonneg e
  have h3 := fmod_lt (e.fdiv 36) (b := 3) (by decide)
  unfold castR toldN
  simp only [List.map_cons, List.map_nil]
  rw [Int.toNat_of_nonneg h1.1, Int.toNat_of_nonneg h2, Int.toNat_of_nonneg h3.1]
theorem room_vals (e : Int) : (roomOf e).toNat ∈ colK 1 := by
  have h1 := fmod_lt (e.fdiv 3) (b := 6) (by decide)
  have h2 := fmod_lt (e.fdiv 18) (b := 2) (by decide)
  unfold roomOf
  generalize (e.fdiv 3).fmod 6 = f at h1
  generalize (e.fdiv 18).fmod 2 = m at h2
  show _ ∈ [0, 3, 4, 5]
  split
  · rename_i h; have := of_decide_eq_true h
    split
    · have : m = 0 ∨ m = 1 := by lia
      rcases this with rfl | rfl <;> decide
    · have : f = 3 ∨ f = 4 ∨ f = 5 := by lia
      rcases this with rfl | rfl | rfl <;> decide
  · decide
theorem three_vals {a : Int} (h : 0 ≤ a ∧ a < 3) : a.toNat ∈ ([0, 1, 2] : List Nat) := by
  have : a = 0 ∨ a = 1 ∨ a = 2 := by lia
  rcases this with rfl | rfl | rfl <;> decide
theorem told_vals (e : Int) : ∀ c < 3, (toldN e).getD c 0 ∈ colK c := fun c hc => by
  match c, hc with
  | 0, _ => exact three_vals (fmod_lt e (b := 3) (by decide))
  | 1, _ => exact room_vals e
  | 2, _ => exact three_vals (fmod_lt (e.fdiv 36) (b := 3) (by decide))
theorem cnt_le (ns : List Int) : cnt ns = 5 ∨ cnt ns = 6 := by unfold cnt; lia
theorem told_len (ns : List Int) : (toldsL ns).length = cnt ns := by unfold toldsL entriesL; simp
theorem told_mem {ns : List Int} {r : List Nat} (h : r ∈ toldsL ns) : ∃ e, r = toldN e := by
  unfold toldsL at h
  obtain ⟨e, _, rfl⟩ := List.mem_map.mp h
  exact ⟨e, rfl⟩
theorem told_ok (ns : List Int) : ToldOk (toldsL ns) := by
  refine ⟨fun r h => ?_, fun p hp c hc => ?_, ?_⟩
  · obtain ⟨e, rfl⟩ := told_mem h; rfl
  · unfold val
    have : (toldsL ns).getD p [] ∈ toldsL ns := by rw [List.getD, List.getElem?_eq_getElem hp]; exact List.getElem_mem hp
    obtain ⟨e, he⟩ := told_mem this
    rw [he]; exact told_vals e c hc
  · rw [told_len]; rcases cnt_le ns with h | h <;> lia
theorem cmpOf_cons (l r : List Int) (k : Key) (ks : List Key) : cmpOf l r (k :: ks) = if l.getD k.1 0 = r.getD k.1 0 then cmpOf l r ks else if l.getD k.1 0 > r.getD k.1 0 then k.2 else -k.2 := by
  unfold cmpOf
  rw [List.filter_cons]
  by_cases h : l.getD k.1 0 = r.getD k.1 0
  · rw [if_pos h, if_neg (by simpa using h)]
  · rw [if_neg h, if_pos (by simpa using h), List.map_cons, List.cons_append, List.headD_cons]
    simp only [decide_eq_true_eq]
theorem word_lt : ∀ a < 3, ∀ b < 3, decide ((wordAt a).cps.toList < (wordAt b).cps.toList) = decide (a < b) := by decide +kernel
theorem ltR_eq (e e' : Int) {c : Nat} (hc : c < 3) : ltR (rowR e) (rowR e') c = decide ((castR (toldN e)).getD c 0 < (castR (toldN e')).getD c 0) := by
  rw [cast_told, cast_told]
  match c, hc with
  | 0, _ =>
    have h1 := fmod_lt e (b := 3) (by decide)
    have h2 := fmod_lt e' (b := 3) (by decide)
    show decide ((wordAt (e.fmod 3).toNat).cps.toList < (wordAt (e'.fmod 3).toNat).cps.toList) = decide (e.fmod 3 < e'.fmod 3)
    rw [word_lt _ (by omega) _ (by omega)]
    rw [decide_eq_decide]; omega
  | 1, _ => rfl
  | 2, _ => rfl
theorem cmp_same (e e' : Int) : ∀ {ks : List Key}, (∀ k ∈ ks, k.1 < 3) → cmpR (rowR e) (rowR e') ks = cmpOf (castR (toldN e)) (castR (toldN e')) ks
  | [], _ => rfl
  | k :: ks, h => by
    have hk := h k (.head _)
    rw [cmpR, cmpOf_cons, ltR_eq e e' hk, ltR_eq e' e hk, cmp_same e e' fun k m => h k (.tail _ m)]
    generalize (castR (toldN e)).getD k.1 0 = a
    generalize (castR (toldN e')).getD k.1 0 = b
    simp only [decide_eq_true_eq]
    by_cases h1 : a < b
    · rw [if_pos h1, if_neg (by lia), if_neg (by lia)]
    · rw [if_neg h1]
      by_cases h2 : b < a
      · rw [if_pos h2, if_neg (by lia), if_pos h2]
      · rw [if_neg h2, if_pos (by lia)]
theorem row_eq (ns : List Int) {ks : List Key} (h : ∀ k ∈ ks, k.1 < 3) : tabRow (rowsL ns) ks = tabTold (toldsL ns) ks := by
  unfold tabRow tabTold rowsL toldsL
  rw [List.map_map, List.map_map]
  refine List.map_congr_left fun e _ => ?_
  simp only [Function.comp]
  rw [List.map_map, List.map_map]
  exact List.map_congr_left fun e' _ => cmp_same e e' h
end Zq
/-! part ZqB -/
namespace Zq
open Zs PySem Zn
section
variable {α : Type}
noncomputable def F4 (e : α → α → Int) (a b c d : α) : Int := e b a * e d c - e c a * e d b + e d a * e c b
noncomputable def F6 (e : α → α → Int) (a b c d f g : α) : Int := e b a * F4 e c d f g - e c a * F4 e b d f g + e d a * F4 e b c f g - e f a * F4 e b c d g + e g a * F4 e b c d f
noncomputable def F5 (e : α → α → Int) (a b c d f : α) : Int := F4 e b c d f - F4 e a c d f + F4 e a b d f - F4 e a b c f + F4 e a b c d
theorem F6_1 {e : α → α → Int} {a b : α} (h : e a b = - e b a) (c d f g : α) : F6 e b a c d f g = - F6 e a b c d f g := by unfold F6 F4; grind
theorem F6_2 {e : α → α → Int} {b c : α} (h : e b c = - e c b) (a d f g : α) : F6 e a c b d f g = - F6 e a b c d f g := by unfold F6 F4; grind
theorem F6_3 {e : α → α → Int} {c d : α} (h : e c d = - e d c) (a b f g : α) : F6 e a b d c f g = - F6 e a b c d f g := by unfold F6 F4; grind
theorem F6_4 {e : α → α → Int} {d f : α} (h : e d f = - e f d) (a b c g : α) : F6 e a b c f d g = - F6 e a b c d f g := by unfold F6 F4; grind
theorem F6_5 {e : α → α → Int} {f g : α} (h : e f g = - e g f) (a b c d : α) : F6 e a b c d g f = - F6 e a b c d f g := by unfold F6 F4; grind
theorem F5_1 {e : α → α → Int} {a b : α} (h : e a b = - e b a) (c d f : α) : F5 e b a c d f = - F5 e a b c d f := by unfold F5 F4; grind
theorem F5_2 {e : α → α → Int} {b c : α} (h : e b c = - e c b) (a d f : α) : F5 e a c b d f = - F5 e a b c d f := by unfold F5 F4; grind
theorem F5_3 {e : α → α → Int} {c d : α} (h : e c d = - e d c) (a b f : α) : F5 e a b d c f = - F5 e a b c d f := by unfold F5 F4; grind
theorem F5_4 {e : α → α → Int} {d f : α} (h : e d f = - e f d) (a b c : α) : F5 e a b c f d = - F5 e a b c d f := by unfold F5 F4; grind
end
theorem pair6 (t : Tab) (a b c d f g : Nat) : pairN t 6 [a, b, c, d, f, g] = F6 (ent t) a b c d f g := by
  simp [pairN, part, Zn.without, sgn, F6, F4]
  grind
theorem cmp_anti (l r : List Int) : ∀ ks : List Key, cmpOf r l ks = - cmpOf l r ks
  | [] => rfl
  | k :: ks => by
    rw [cmpOf_cons, cmpOf_cons, cmp_anti l r ks]
    generalize l.getD k.1 0 = a
    generalize r.getD k.1 0 = b
    by_cases h : a = b
    · rw [if_pos h, if_pos h.symm]
    · rw [if_neg h, if_neg (Ne.symm h)]
      by_cases h2 : a > b
      · rw [if_pos h2, if_neg (by lia)]
      · rw [if_neg h2, if_pos (by lia)]; lia
/-- what compare tells of a later and an earlier row -/
noncomputable def ce (ks : List Key) (x y : List Nat) : Int := cmpOf (castR x) (castR y) ks
theorem law6 (ks : List Key) (a b c d f g : List Nat) : pairN (tabFin (tabTold [a, b, c, d, f, g] ks) 6) 6 (placesFin 6) = F6 (ce ks) a b c d f g := by
  show pairN (tabTold [a, b, c, d, f, g] ks) 6 [0, 1, 2, 3, 4, 5] = _
  rw [pair6]
  rfl
theorem law5 (ks : List Key) (a b c d f : List Nat) : pairN (tabFin (tabTold [a, b, c, d, f] ks) 5) 6 (placesFin 5) = F5 (ce ks) a b c d f := by
  show pairN ((tabTold [a, b, c, d, f] ks).map fun r => r ++ [1]) 6 [5, 0, 1, 2, 3, 4] = _
  rw [pair6]
  unfold F6 F5
  have e0 : ent ((tabTold [a, b, c, d, f] ks).map fun r => r ++ [1]) 0 5 = 1 := rfl
  have e1 : ent ((tabTold [a, b, c, d, f] ks).map fun r => r ++ [1]) 1 5 = 1 := rfl
  have e2 : ent ((tabTold [a, b, c, d, f] ks).map fun r => r ++ [1]) 2 5 = 1 := rfl
  have e3 : ent ((tabTold [a, b, c, d, f] ks).map fun r => r ++ [1]) 3 5 = 1 := rfl
  have e4 : ent ((tabTold [a, b, c, d, f] ks).map fun r => r ++ [1]) 4 5 = 1 := rfl
  rw [e0, e1, e2, e3, e4]
  simp only [Int.one_mul]
  rfl
/-- inversions -/
noncomputable def gt1 (ks : List Key) (x y : List Nat) : Nat := if gtL (markOf x ks) (markOf y ks) then 1 else 0
noncomputable def I6 (ks : List Key) (a b c d f g : List Nat) : Nat := gt1 ks a b + (gt1 ks a c + gt1 ks b c) + (gt1 ks a d + gt1 ks b d + gt1 ks c d) + (gt1 ks a f + gt1 ks b f + gt1 ks c f + gt1 ks d f) + (gt1 ks a g + gt1 ks b g + gt1 ks c g + gt1 ks d g + gt1 ks f g)
noncomputable def I5 (ks : List Key) (a b c d f : List Nat) : Nat := gt1 ks a b + (gt1 ks a c + gt1 ks b c) + (gt1 ks a d + gt1 ks b d + gt1 ks c d) + (gt1 ks a f + gt1 ks b f + gt1 ks c f + gt1 ks d f)
theorem one_if (b : Bool) (l : List Int) : ((if b then [(1 : Int)] else []) ++ l).sum = ((if b then 1 else 0 : Nat) : Int) + l.sum := by cases b <;> simp
theorem turns6 (ks : List Key) (a b c d f g : List Nat) : (turnsL (marksL [a, b, c, d, f, g] ks) 6).sum = ((I6 ks a b c d f g : Nat) : Int) := by
  have e : turnsL (marksL [a, b, c, d, f, g] ks) 6 = (if gtL (markOf a ks) (markOf b ks) then [(1 : Int)] else []) ++ ((if gtL (markOf a ks) (markOf c ks) then [(1 : Int)] else []) ++ ((if gtL (markOf b ks) (markOf c ks) then [(1 : Int)] else []) ++
    ((if gtL (markOf a ks) (markOf d ks) then [(1 : Int)] else []) ++ ((if gtL (markOf b ks) (markOf d ks) then [(1 : Int)] else []) ++ ((if gtL (markOf c ks) (markOf d ks) then [(1 : Int)] else []) ++
    ((if gtL (markOf a ks) (markOf f ks) then [(1 : Int)] else []) ++ ((if gtL (markOf b ks) (markOf f ks) then [(1 : Int)] else []) ++ ((if gtL (markOf c ks) (markOf f ks) then [(1 : Int)] else []) ++ ((if gtL (markOf d ks) (markOf f ks) then [(1 : Int)] else []) ++
    ((if gtL (markOf a ks) (markOf g ks) then [(1 : Int)] else []) ++ ((if gtL (markOf b ks) (markOf g ks) then [(1 : Int)] else []) ++ ((if gtL (markOf c ks) (markOf g ks) then [(1 : Int)] else []) ++ ((if gtL (markOf d ks) (markOf g ks) then [(1 : Int)] else []) ++ ((if gtL (markOf f ks) (markOf g ks) then [(1 : Int)] else []) ++ [])))))))))))))) := by
    simp [turnsL, marksL, List.range, List.range.loop]
  rw [e]
  simp only [one_if, List.sum_nil]
  unfold I6 gt1
  lia
theorem turns5 (ks : List Key) (a b c d f : List Nat) : (turnsL (marksL [a, b, c, d, f] ks) 5).sum = ((I5 ks a b c d f : Nat) : Int) := by
  have e : turnsL (marksL [a, b, c, d, f] ks) 5 = (if gtL (markOf a ks) (markOf b ks) then [(1 : Int)] else []) ++ ((if gtL (markOf a ks) (markOf c ks) then [(1 : Int)] else []) ++ ((if gtL (markOf b ks) (markOf c ks) then [(1 : Int)] else []) ++
    ((if gtL (markOf a ks) (markOf d ks) then [(1 : Int)] else []) ++ ((if gtL (markOf b ks) (markOf d ks) then [(1 : Int)] else []) ++ ((if gtL (markOf c ks) (markOf d ks) then [(1 : Int)] else []) ++
    ((if gtL (markOf a ks) (markOf f ks) then [(1 : Int)] else []) ++ ((if gtL (markOf b ks) (markOf f ks) then [(1 : Int)] else []) ++ ((if gtL (markOf c ks) (markOf f ks) then [(1 : Int)] else []) ++ ((if gtL (markOf d ks) (markOf f ks) then [(1 : Int)] else []) ++ []))))))))) := by
    simp [turnsL, marksL, List.range, List.range.loop]
  rw [e]
  simp only [one_if, List.sum_nil]
  unfold I5 gt1
  lia
end Zq
/-! part ZqC -/
namespace Zq
open Zs PySem Zn
noncomputable def prodI : List Int → Int
  | [] => 1
  | a :: l => a * prodI l
theorem prodI_append : ∀ a b : List Int, prodI (a ++ b) = prodI a * prodI b
  | [], b => by rw [List.nil_append, prodI, Int.one_mul]
  | x :: a, b => by rw [List.cons_append, prodI, prodI, prodI_append a b, Int.mul_assoc]
theorem prodI_perm {a b : List Int} (h : a.Perm b) : prodI a = prodI b := by
  induction h with
  | nil => rfl
  | cons x _ ih => rw [prodI, prodI, ih]
  | swap x y l => rw [prodI, prodI, prodI, prodI, Int.mul_left_comm]
  | trans _ _ h1 h2 => rw [h1, h2]
theorem prodI_mul {α : Type} (f g : α → Int) : ∀ l : List α, prodI (l.map fun x => f x * g x) = prodI (l.map f) * prodI (l.map g)
  | [] => rfl
  | x :: l => by
    rw [List.map_cons, List.map_cons, List.map_cons, prodI, prodI, prodI, prodI_mul f g l]
    grind
theorem prodI_flat {α β : Type} (P : α → List β) (g : β → Int) : ∀ l : List α, prodI ((l.flatMap P).map g) = prodI (l.map fun x => prodI ((P x).map g))
  | [] => rfl
  | x :: l => by rw [List.flatMap_cons, List.map_append, prodI_append, List.map_cons, prodI, prodI_flat P g l]
theorem prodI_filter {α β : Type} (f : α → β) (p : β → Bool) (g : β → Int) : ∀ l : List α, prodI (((l.map f).filter p).map g) = prodI (l.map fun v => if p (f v) then g (f v) else 1)
  | [] => rfl
  | x :: l => by
    rw [List.map_cons, List.filter_cons, List.map_cons, prodI]
    have ih := prodI_filter f p g l
    cases h : p (f x) with
    | true => simp only [if_true, List.map_cons, prodI, ih]
    | false => simp only [Bool.false_eq_true, if_false, Int.one_mul, ih]
noncomputable def kindR (c : Nat) (fam : List (List Nat)) : List Nat := kindsOf (fam.map (·.getD c 0))
noncomputable def partR (c : Nat) (fam : List (List Nat)) (v : Nat) : List (List Nat) := fam.filter fun r => r.getD c 0 == v
noncomputable def fw : List Key → List (List Nat) → Int
  | [], _ => 0
  | k :: ks, fam => absI k.2 ^ (((kindR k.1 fam).map fun v => (partR k.1 fam v).length % 2).sum / 2) * prodI ((kindR k.1 fam).map fun v => if decide ((partR k.1 fam v).length > 1) then fw ks (partR k.1 fam v) else 1)
section
variable (ts : Told)
noncomputable def rowAt (p : Nat) : List Nat := ts.getD p []
theorem part_map (c : Nat) (f : List Nat) (v : Nat) : partR c (f.map (rowAt ts)) v = (f.filter fun p => val ts c p == v).map (rowAt ts) := by
  unfold partR; rw [List.filter_map]; rfl
theorem kind_map (c : Nat) (f : List Nat) : kindR c (f.map (rowAt ts)) = kindsF ts c f := by
  unfold kindR kindsF; rw [List.map_map]; rfl
theorem map_range (l : List Nat) : (List.range l.length).map (fun i => l.getD i 0) = l := by
  apply List.ext_getElem
  · simp
  · intro i h1 h2; simp [h2]
theorem odd_sum (l : List Nat) (f : Nat → Nat) : ((List.range l.length).filter fun i => f (l.getD i 0) % 2 == 1).length = (l.map fun v => f v % 2).sum := by
  have e : ((List.range l.length).filter fun i => f (l.getD i 0) % 2 == 1).length = (l.filter fun v => f v % 2 == 1).length := by
    conv => rhs; rw [← map_range l]
    rw [List.filter_map, List.length_map]; rfl
  rw [e]
  clear e
  induction l with
  | nil => rfl
  | cons a l ih =>
    rw [List.filter_cons, List.map_cons, List.sum_cons, ← ih]
    have : f a % 2 = 0 ∨ f a % 2 = 1 := by lia
    rcases this with h | h <;> simp [h]
    lia
theorem fw_fam (k : Key) (ks : List Key) (f : List Nat) : fw (k :: ks) (f.map (rowAt ts)) = absI k.2 ^ ((oddF ts k.1 f).length / 2) * prodI ((partsF ts k.1 f).map fun q => fw ks (q.map (rowAt ts))) := by
  rw [fw, kind_map, odd_eq, odd_sum (kindsF ts k.1 f) (fun v => (f.filter fun p => val ts k.1 p == v).length)]
  unfold partsF splitF
  rw [prodI_filter]
  simp only [part_map, List.length_map]
theorem foldl_fam (k : Key) : ∀ (fams : List (List Nat)) (w : Int), fams.foldl (famW ts k) w = w * prodI (fams.map fun f => absI k.2 ^ ((oddF ts k.1 f).length / 2))
  | [], w => by rw [List.foldl_nil, List.map_nil, prodI, Int.mul_one]
  | f :: fams, w => by
    rw [List.foldl_cons, foldl_fam k fams, List.map_cons, prodI, famW, Int.mul_assoc]
theorem fams_fw : ∀ (ks : List Key) (w : Int) (fams : List (List Nat)), (if (ks.foldl (stepW ts) (w, fams)).2 = [] then (ks.foldl (stepW ts) (w, fams)).1 else 0) = w * prodI (fams.map fun f => fw ks (f.map (rowAt ts)))
  | [], w, fams => by
    rw [List.foldl_nil]
    cases fams with
    | nil => simp [prodI]
    | cons f fams => simp [prodI, fw]
  | k :: ks, w, fams => by
    rw [List.foldl_cons]
    rw [show stepW ts (w, fams) k = (fams.foldl (famW ts k) w, fams.flatMap (partsF ts k.1)) from rfl]
    rw [fams_fw ks, foldl_fam, prodI_flat, Int.mul_assoc, ← prodI_mul]
    congr 2
    exact List.map_congr_left fun f _ => (fw_fam ts k ks f).symm
theorem worth_fw (ks : List Key) : worthOf ts ks = fw ks ts := by
  unfold worthOf worthL
  rw [fams_fw ts ks 1 [List.range ts.length], List.map_cons, List.map_nil, prodI, prodI, Int.mul_one, Int.one_mul]
  congr 1
  apply List.ext_getElem
  · simp
  · intro i h1 h2; simp [rowAt, h2]
end
theorem kind_perm {c : Nat} {a b : List (List Nat)} (h : a.Perm b) : kindR c a = kindR c b := by
  unfold kindR kindsOf
  apply List.filter_congr
  intro v _
  rw [Bool.eq_iff_iff, List.contains_iff_mem, List.contains_iff_mem]
  exact (h.map _).mem_iff
theorem fw_perm : ∀ (ks : List Key) {a b : List (List Nat)}, a.Perm b → fw ks a = fw ks b
  | [], _, _, _ => rfl
  | k :: ks, a, b, h => by
    rw [fw, fw, kind_perm h]
    have hl : ∀ v, (partR k.1 a v).length = (partR k.1 b v).length := fun v => (h.filter _).length_eq
    simp only [hl]
    congr 2
    refine List.map_congr_left fun v _ => ?_
    have hp : (partR k.1 a v).Perm (partR k.1 b v) := h.filter _
    rw [fw_perm ks hp]
end Zq
/-! part ZqD -/
namespace Zq
open Zs PySem Zn
theorem gt_asym : ∀ a b : List Int, gtL a b = true → gtL b a = false
  | a :: l, b :: r, h => by
    rw [gtL] at h ⊢
    by_cases e : a = b
    · rw [if_pos e] at h; rw [if_pos e.symm]; exact gt_asym l r h
    · rw [if_neg e] at h; rw [if_neg (Ne.symm e)]
      have := of_decide_eq_true h
      exact decide_eq_false (by lia)
  | [], [], h => by simp [gtL] at h
  | [], _ :: _, h => by simp [gtL] at h
  | _ :: _, [], h => by simp [gtL] at h
theorem gt_eq : ∀ a b : List Int, a.length = b.length → gtL a b = false → gtL b a = false → a = b
  | [], [], _, _, _ => rfl
  | [], _ :: _, h, _, _ => by cases h
  | _ :: _, [], h, _, _ => by cases h
  | a :: l, b :: r, h, h1, h2 => by
    rw [gtL] at h1 h2
    by_cases e : a = b
    · rw [if_pos e] at h1; rw [if_pos e.symm] at h2
      rw [e, gt_eq l r (by simpa using h) h1 h2]
    · rw [if_neg e] at h1; rw [if_neg (Ne.symm e)] at h2
      have := of_decide_eq_false h1
      have := of_decide_eq_false h2
      lia
theorem gt_trans : ∀ a b c : List Int, a.length = b.length → b.length = c.length → gtL a b = false → gtL b c = false → gtL a c = false
  | [], _, _, _, _, _, _ => by simp [gtL]
  | _ :: _, [], _, h, _, _, _ => by cases h
  | _ :: _, _ :: _, [], _, h, _, _ => by cases h
  | a :: l, b :: r, c :: t, h, h', h1, h2 => by
    rw [gtL] at h1 h2 ⊢
    by_cases e : a = b
    · rw [if_pos e] at h1
      by_cases e' : b = c
      · rw [if_pos e'] at h2; rw [if_pos (e.trans e')]; exact gt_trans l r t (by simpa using h) (by simpa using h') h1 h2
      · rw [if_neg e'] at h2; rw [if_neg (by lia)]
        have := of_decide_eq_false h2
        exact decide_eq_false (by lia)
    · rw [if_neg e] at h1
      have := of_decide_eq_false h1
      by_cases e' : b = c
      · rw [if_neg (by lia)]; exact decide_eq_false (by lia)
      · rw [if_neg e'] at h2
        have := of_decide_eq_false h2
        rw [if_neg (by lia)]; exact decide_eq_false (by omega)
theorem mark_len (r : List Nat) (ks : List Key) : (markOf r ks).length = ks.length := by unfold markOf; rw [List.length_map]
theorem mark_inj {ks : List Key} {x y : List Nat} (hc : ∀ c < 3, ∃ k ∈ ks, k.1 = c) (hx : x.length = 3) (hy : y.length = 3) (h : markOf x ks = markOf y ks) : x = y := by
  have key : ∀ c < 3, x.getD c 0 = y.getD c 0 := fun c h3 => by
    obtain ⟨k, hk, rfl⟩ := hc c h3
    unfold markOf at h
    have : ∀ {l : List Key}, l.map (fun k => if decide (k.2 < 0) then -((x.getD k.1 0 : Nat) : Int) else ((x.getD k.1 0 : Nat) : Int)) = l.map (fun k => if decide (k.2 < 0) then -((y.getD k.1 0 : Nat) : Int) else ((y.getD k.1 0 : Nat) : Int)) → k ∈ l → x.getD k.1 0 = y.getD k.1 0 := by
      intro l
      induction l with
      | nil => intro _ m; cases m
      | cons a l ih =>
        intro h m
        rw [List.map_cons, List.map_cons] at h
        obtain ⟨h1, h2⟩ := List.cons.inj h
        rcases List.mem_cons.mp m with rfl | m
        · split at h1 <;> omega
        · exact ih h2 m
    exact this h hk
  match x, hx, y, hy with
  | [a, b, c], _, [a', b', c'], _ =>
    have h0 : a = a' := key 0 (by decide)
    have h1 : b = b' := key 1 (by decide)
    have h2 : c = c' := key 2 (by decide)
    rw [h0, h1, h2]
noncomputable def PL (ks : List Key) (L : List (List Nat)) : Prop :=
  (∀ a b c d f g, L = [a, b, c, d, f, g] → F6 (ce ks) a b c d f g = (-1) ^ I6 ks a b c d f g * fw ks L) ∧
  (∀ a b c d f, L = [a, b, c, d, f] → F5 (ce ks) a b c d f = (-1) ^ I5 ks a b c d f * fw ks L)
theorem flip {A B w : Int} {n m : Nat} (h : A = (-1) ^ n * w) (hB : B = -A) (hm : m = n + 1 ∨ n = m + 1) : B = (-1) ^ m * w := by
  rcases hm with e | e
  · rw [hB, h, e, Int.pow_succ]; grind
  · rw [hB, h, e, Int.pow_succ]; grind
theorem swap_ok {ks : List Key} {x y : List Nat} (hg : gt1 ks x y + gt1 ks y x = 1) {pre post : List (List Nat)} (h : PL ks (pre ++ x :: y :: post)) : PL ks (pre ++ y :: x :: post) := by
  have hp : (pre ++ x :: y :: post).Perm (pre ++ y :: x :: post) := (List.Perm.swap y x post).append_left pre
  have ha : ∀ u v, ce ks u v = - ce ks v u := fun u v => cmp_anti _ _ ks
  constructor
  · intro a b c d f g e
    rw [← fw_perm ks hp]
    match pre, e with
    | [], e =>
      simp only [List.nil_append, List.cons.injEq] at e
      obtain ⟨rfl, rfl, rfl⟩ := e
      exact flip (h.1 _ _ _ _ _ _ rfl) (F6_1 (ha _ _) _ _ _ _) (by unfold I6; lia)
    | [p], e =>
      simp only [List.cons_append, List.nil_append, List.cons.injEq] at e
      obtain ⟨rfl, rfl, rfl, rfl⟩ := e
      exact flip (h.1 _ _ _ _ _ _ rfl) (F6_2 (ha _ _) _ _ _ _) (by unfold I6; lia)
    | [p, p'], e =>
      simp only [List.cons_append, List.nil_append, List.cons.injEq] at e
      obtain ⟨rfl, rfl, rfl, rfl, rfl⟩ := e
      exact flip (h.1 _ _ _ _ _ _ rfl) (F6_3 (ha _ _) _ _ _ _) (by unfold I6; lia)
    | [p, p', p2], e =>
      simp only [List.cons_append, List.nil_append, List.cons.injEq] at e
      obtain ⟨rfl, rfl, rfl, rfl, rfl, rfl⟩ := e
      exact flip (h.1 _ _ _ _ _ _ rfl) (F6_4 (ha _ _) _ _ _ _) (by unfold I6; lia)
    | [p, p', p2, p3], e =>
      simp only [List.cons_append, List.nil_append, List.cons.injEq] at e
      obtain ⟨rfl, rfl, rfl, rfl, rfl, rfl, rfl⟩ := e
      exact flip (h.1 _ _ _ _ _ _ rfl) (F6_5 (ha _ _) _ _ _ _) (by unfold I6; lia)
    | p :: p' :: p2 :: p3 :: p4 :: q, e =>
      have := congrArg List.length e
      simp at this
      lia
  · intro a b c d f e
    rw [← fw_perm ks hp]
    match pre, e with
    | [], e =>
      simp only [List.nil_append, List.cons.injEq] at e
      obtain ⟨rfl, rfl, rfl⟩ := e
      exact flip (h.2 _ _ _ _ _ rfl) (F5_1 (ha _ _) _ _ _) (by unfold I5; lia)
    | [p], e =>
      simp only [List.cons_append, List.nil_append, List.cons.injEq] at e
      obtain ⟨rfl, rfl, rfl, rfl⟩ := e
      exact flip (h.2 _ _ _ _ _ rfl) (F5_2 (ha _ _) _ _ _) (by unfold I5; lia)
    | [p, p'], e =>
      simp only [List.cons_append, List.nil_append, List.cons.injEq] at e
      obtain ⟨rfl, rfl, rfl, rfl, rfl⟩ := e
      exact flip (h.2 _ _ _ _ _ rfl) (F5_3 (ha _ _) _ _ _) (by unfold I5; lia)
    | [p, p', p2], e =>
      simp only [List.cons_append, List.nil_append, List.cons.injEq] at e
      obtain ⟨rfl, rfl, rfl, rfl, rfl, rfl⟩ := e
      exact flip (h.2 _ _ _ _ _ rfl) (F5_4 (ha _ _) _ _ _) (by unfold I5; lia)
    | p :: p' :: p2 :: p3 :: q, e =>
      have := congrArg List.length e
      simp at this
      lia
theorem gt1_one {ks : List Key} {x y : List Nat} (h : markOf x ks ≠ markOf y ks) : gt1 ks x y + gt1 ks y x = 1 := by
  unfold gt1
  have hl : (markOf x ks).length = (markOf y ks).length := by rw [mark_len, mark_len]
  cases h1 : gtL (markOf x ks) (markOf y ks) with
  | true => rw [gt_asym _ _ h1]; rfl
  | false =>
    cases h2 : gtL (markOf y ks) (markOf x ks) with
    | true => rfl
    | false => exact absurd (gt_eq _ _ hl h1 h2) h
theorem perm_ok {ks : List Key} (hc : ∀ c < 3, ∃ k ∈ ks, k.1 = c) {L L' : List (List Nat)} (h : L.Perm L') : ∀ pre, (∀ r ∈ pre ++ L, r.length = 3) → PL ks (pre ++ L) → PL ks (pre ++ L') := by
  induction h with
  | nil => exact fun _ _ p => p
  | cons x _ ih =>
    intro pre g p
    have := ih (pre ++ [x]) (by simpa using g) (by simpa using p)
    simpa using this
  | swap x y l =>
    intro pre g p
    by_cases e : markOf y ks = markOf x ks
    · rw [mark_inj hc (g y (by simp)) (g x (by simp)) e] at p ⊢; exact p
    · exact swap_ok (gt1_one e) p
  | trans h1 h2 ih1 ih2 =>
    intro pre g p
    exact ih2 pre (fun r m => g r ((h1.append_left pre).mem_iff.mpr m)) (ih1 pre g p)
noncomputable def leR (ks : List Key) (x y : List Nat) : Bool := !gtL (markOf x ks) (markOf y ks)
theorem by_sorted {ks : List Key} (hc : ∀ c < 3, ∃ k ∈ ks, k.1 = c) (L : List (List Nat)) (S : ∀ L' : List (List Nat), L'.Perm L → L'.Pairwise (fun x y => gtL (markOf x ks) (markOf y ks) = false) → PL ks L') (g : ∀ r ∈ L, r.length = 3) : PL ks L := by
  have hp : (L.mergeSort (leR ks)).Perm L := List.mergeSort_perm L (leR ks)
  have hs : (L.mergeSort (leR ks)).Pairwise (fun x y => leR ks x y = true) := List.pairwise_mergeSort (le := leR ks)
    (fun a b c h1 h2 => by
      unfold leR at h1 h2 ⊢
      rw [Bool.not_eq_true'] at h1 h2 ⊢
      exact gt_trans _ _ _ (by rw [mark_len, mark_len]) (by rw [mark_len, mark_len]) h1 h2)
    (fun a b => by
      unfold leR
      cases h : gtL (markOf a ks) (markOf b ks) with
      | false => rfl
      | true => rw [gt_asym _ _ h]; rfl) L
  have := S _ hp (hs.imp fun h => by unfold leR at h; rwa [Bool.not_eq_true'] at h)
  have := perm_ok hc hp [] (fun r m => g r (hp.mem_iff.mp (by simpa using m))) (by simpa using this)
  simpa using this
end Zq
/-! part ZqE -/
namespace Zq
open Zs PySem Zn
/-! a sorted list: by the first key in which neighbours differ -/
noncomputable def lv : List Key → List Nat → List Nat → Nat
  | [], _, _ => 0
  | k :: ks, x, y => if x.getD k.1 0 = y.getD k.1 0 then lv ks x y + 1 else 0
noncomputable def Wl : List Key → Nat → Int
  | [], _ => 0
  | k :: _, 0 => absI k.2
  | _ :: ks, n + 1 => Wl ks n
theorem cast_get (x : List Nat) (c : Nat) : (castR x).getD c 0 = ((x.getD c 0 : Nat) : Int) := by
  unfold castR
  rw [List.getD, List.getD, List.getElem?_map]
  cases x[c]? <;> rfl
theorem gt_mark (k : Key) (ks : List Key) (x y : List Nat) : gtL (markOf x (k :: ks)) (markOf y (k :: ks)) = if x.getD k.1 0 = y.getD k.1 0 then gtL (markOf x ks) (markOf y ks) else if k.2 < 0 then decide (x.getD k.1 0 < y.getD k.1 0) else decide (x.getD k.1 0 > y.getD k.1 0) := by
  show gtL ((if decide (k.2 < 0) then -((x.getD k.1 0 : Nat) : Int) else ((x.getD k.1 0 : Nat) : Int)) :: markOf x ks) ((if decide (k.2 < 0) then -((y.getD k.1 0 : Nat) : Int) else ((y.getD k.1 0 : Nat) : Int)) :: markOf y ks) = _
  rw [gtL]
  generalize x.getD k.1 0 = a
  generalize y.getD k.1 0 = b
  by_cases h : a = b
  · subst h; simp
  · rw [if_neg h]
    by_cases hk : k.2 < 0
    · simp only [hk, decide_true, if_true]; rw [if_neg (by lia), decide_eq_decide]; lia
    · simp only [hk, decide_false, Bool.false_eq_true, if_false]; rw [if_neg (by lia), decide_eq_decide]; omega
/-- what compare tells of a row and one not behind it -/
theorem ce_lv : ∀ (ks : List Key) (x y : List Nat), gtL (markOf y ks) (markOf x ks) = false → ce ks x y = Wl ks (lv ks x y)
  | [], _, _, _ => rfl
  | k :: ks, x, y, h => by
    rw [gt_mark] at h
    unfold ce
    rw [cmpOf_cons, cast_get, cast_get, lv]
    generalize hx : x.getD k.1 0 = a at h
    generalize hy : y.getD k.1 0 = b at h
    by_cases e : a = b
    · rw [if_pos e.symm] at h
      rw [if_pos e, if_pos (by lia)]
      exact ce_lv ks x y h
    · rw [if_neg (Ne.symm e)] at h
      rw [if_neg e, if_neg (by lia)]
      show _ = absI k.2
      unfold absI
      by_cases hk : k.2 < 0
      · rw [if_pos hk] at h ⊢
        have := of_decide_eq_false h
        rw [if_neg (by lia)]
      · rw [if_neg hk] at h ⊢
        have := of_decide_eq_false h
        rw [if_pos (by lia)]
theorem lv_min : ∀ (ks : List Key) (x y z : List Nat), gtL (markOf x ks) (markOf y ks) = false → gtL (markOf y ks) (markOf z ks) = false → lv ks x z = min (lv ks x y) (lv ks y z)
  | [], _, _, _, _, _ => rfl
  | k :: ks, x, y, z, h1, h2 => by
    rw [gt_mark] at h1 h2
    rw [lv, lv, lv]
    generalize x.getD k.1 0 = a at h1
    generalize y.getD k.1 0 = b at h1 h2
    generalize z.getD k.1 0 = c at h2
    by_cases e1 : a = b
    · rw [if_pos e1] at h1
      by_cases e2 : b = c
      · rw [if_pos e2] at h2
        rw [if_pos e1, if_pos e2, if_pos (e1.trans e2), lv_min ks x y z h1 h2]; lia
      · rw [if_neg (by lia), if_neg e2]; lia
    · rw [if_neg e1] at h1
      by_cases e2 : b = c
      · rw [if_neg (by lia), if_neg e1]; lia
      · rw [if_neg e2] at h2
        rw [if_neg e1, if_neg e2]
        by_cases hk : k.2 < 0
        · rw [if_pos hk] at h1 h2
          have := of_decide_eq_false h1
          have := of_decide_eq_false h2
          rw [if_neg (by lia)]; lia
        · rw [if_neg hk] at h1 h2
          have := of_decide_eq_false h1
          have := of_decide_eq_false h2
          rw [if_neg (by lia)]; lia
theorem lv_le : ∀ (ks : List Key) (x y : List Nat), lv ks x y ≤ ks.length
  | [], _, _ => Nat.le_refl _
  | k :: ks, x, y => by
    rw [lv]; split
    · exact Nat.succ_le_succ (lv_le ks x y)
    · exact Nat.zero_le _
theorem lv_comm : ∀ (ks : List Key) (x y : List Nat), lv ks x y = lv ks y x
  | [], _, _ => rfl
  | k :: ks, x, y => by
    rw [lv, lv, lv_comm ks x y]
    by_cases h : x.getD k.1 0 = y.getD k.1 0
    · rw [if_pos h, if_pos h.symm]
    · rw [if_neg h, if_neg (Ne.symm h)]
theorem lv_self : ∀ (ks : List Key) (x : List Nat), lv ks x x = ks.length
  | [], _ => rfl
  | k :: ks, x => by rw [lv, if_pos rfl, lv_self ks x]; rfl
/-! families by representatives -/
noncomputable def rp (E : Nat → Nat → Bool) : List Nat → List Nat
  | [] => []
  | p :: r => p :: (rp E r).filter fun q => !E p q
theorem mem_rp {E : Nat → Nat → Bool} : ∀ {l : List Nat} {x : Nat}, x ∈ rp E l → x ∈ l
  | p :: r, x, h => by
    rcases List.mem_cons.mp h with rfl | h
    · exact .head _
    · exact .tail _ (mem_rp (List.mem_filter.mp h).1)
theorem rp_nodup (v : Nat → Nat) : ∀ l : List Nat, ((rp (fun p q => v p == v q) l).map v).Nodup
  | [] => List.nodup_nil
  | p :: r => by
    rw [rp, List.map_cons, List.nodup_cons]
    refine ⟨fun m => ?_, (rp_nodup v r).sublist (List.filter_sublist.map v)⟩
    obtain ⟨q, hq, e⟩ := List.mem_map.mp m
    have := (List.mem_filter.mp hq).2
    rw [e] at this
    simp at this
theorem rp_all (v : Nat → Nat) : ∀ (l : List Nat) (x : Nat), x ∈ (rp (fun p q => v p == v q) l).map v ↔ x ∈ l.map v
  | [], x => Iff.rfl
  | p :: r, x => by
    have ih := rp_all v r x
    rw [rp, List.map_cons, List.map_cons, List.mem_cons, List.mem_cons]
    constructor
    · rintro (h | h)
      · exact .inl h
      · obtain ⟨q, hq, e⟩ := List.mem_map.mp h
        exact .inr (ih.mp (List.mem_map.mpr ⟨q, (List.mem_filter.mp hq).1, e⟩))
    · rintro (h | h)
      · exact .inl h
      · obtain ⟨q, hq, e⟩ := List.mem_map.mp (ih.mpr h)
        by_cases c : v p = v q
        · exact .inl (e.symm.trans c.symm)
        · exact .inr (List.mem_map.mpr ⟨q, List.mem_filter.mpr ⟨hq, by simpa using c⟩, e⟩)
theorem kinds_rp (v : Nat → Nat) {l : List Nat} (h : ∀ p ∈ l, v p < 8) : (kindsOf (l.map v)).Perm ((rp (fun p q => v p == v q) l).map v) := by
  rw [List.perm_ext_iff_of_nodup (nodup_kindsOf _) (rp_nodup v l)]
  intro x
  rw [rp_all, mem_kindsOf]
  constructor
  · exact fun h => h.2
  · intro m
    refine ⟨?_, m⟩
    obtain ⟨p, hp, rfl⟩ := List.mem_map.mp m
    exact h p hp
theorem rp_congr {E E' : Nat → Nat → Bool} : ∀ {l : List Nat}, (∀ p ∈ l, ∀ q ∈ l, E p q = E' p q) → rp E l = rp E' l
  | [], _ => rfl
  | p :: r, h => by
    rw [rp, rp, rp_congr fun a ha b hb => h a (.tail _ ha) b (.tail _ hb)]
    congr 1
    exact List.filter_congr fun q hq => by rw [h p (.head _) q (.tail _ (mem_rp hq))]
end Zq
/-! part ZqF -/
namespace Zq
open Zs PySem Zn
noncomputable def EE (lev : Nat → Nat → Nat) (l p q : Nat) : Bool := Nat.ble (l + 1) (lev p q)
theorem EE_eq (lev : Nat → Nat → Nat) (l p q : Nat) : EE lev l p q = decide (lev p q > l) := by
  unfold EE; rw [Bool.eq_iff_iff, Nat.ble_eq, decide_eq_true_iff]; rfl
theorem ble_two (n : Nat) : Nat.ble 2 n = decide (n > 1) := by
  rw [Bool.eq_iff_iff, Nat.ble_eq, decide_eq_true_iff]; rfl
noncomputable def fe (W : Nat → Int) (lev : Nat → Nat → Nat) : List Nat → List Nat → Int
  | [], _ => 0
  | l :: ls, fam => W l ^ (((rp (EE lev l) fam).map fun p => (fam.filter (EE lev l p)).length % 2).sum / 2) * prodI ((rp (EE lev l) fam).map fun p => if decide ((fam.filter (EE lev l p)).length > 1) then fe W lev ls (fam.filter (EE lev l p)) else 1)
theorem sum_perm {a b : List Nat} (h : a.Perm b) : a.sum = b.sum := by
  induction h with
  | nil => rfl
  | cons x _ ih => rw [List.sum_cons, List.sum_cons, ih]
  | swap x y l => rw [List.sum_cons, List.sum_cons, List.sum_cons, List.sum_cons]; lia
  | trans _ _ h1 h2 => rw [h1, h2]
theorem lv_step : ∀ (K : List Key) (l : Nat) {k : Key} {ks : List Key} (x y : List Nat), K.drop l = k :: ks → l ≤ lv K x y → (decide (lv K x y > l) = (x.getD k.1 0 == y.getD k.1 0))
  | [], l, k, ks, x, y, h, _ => by rw [List.drop_nil] at h; cases h
  | k' :: K, 0, k, ks, x, y, h, _ => by
    rw [List.drop_zero] at h
    obtain ⟨rfl, rfl⟩ := List.cons.inj h
    rw [lv]
    by_cases e : x.getD k'.1 0 = y.getD k'.1 0
    · rw [if_pos e, beq_iff_eq.mpr e]; exact decide_eq_true (by lia)
    · rw [if_neg e, beq_eq_false_iff_ne.mpr e]; rfl
  | k' :: K, l + 1, k, ks, x, y, h, hl => by
    rw [List.drop_succ_cons] at h
    rw [lv] at hl ⊢
    by_cases e : x.getD k'.1 0 = y.getD k'.1 0
    · rw [if_pos e] at hl ⊢
      rw [← lv_step K l x y h (by lia), decide_eq_decide]; lia
    · rw [if_neg e] at hl; lia
theorem Wl_at : ∀ (K : List Key) (l : Nat) {k : Key} {ks : List Key}, K.drop l = k :: ks → Wl K l = absI k.2
  | [], l, _, _, h => by rw [List.drop_nil] at h; cases h
  | k' :: K, 0, _, _, h => by
    rw [List.drop_zero] at h
    obtain ⟨rfl, rfl⟩ := List.cons.inj h; rfl
  | k' :: K, l + 1, _, _, h => by rw [List.drop_succ_cons] at h; exact Wl_at K l h
theorem fw_fe (K : List Key) (X : Nat → List Nat) : ∀ (n l : Nat) (fam : List Nat), l + n = K.length → (∀ p ∈ fam, ∀ k ∈ K, (X p).getD k.1 0 < 8) → (∀ p ∈ fam, ∀ q ∈ fam, l ≤ lv K (X p) (X q)) →
    fw (K.drop l) (fam.map X) = fe (Wl K) (fun p q => lv K (X p) (X q)) (List.range' l n) fam
  | 0, l, fam, hn, _, _ => by rw [List.drop_eq_nil_of_le (by lia)]; rfl
  | n + 1, l, fam, hn, hv, hi => by
    have hl : l < K.length := by lia
    obtain ⟨k, ks, hd⟩ : ∃ k ks, K.drop l = k :: ks := ⟨_, _, List.drop_eq_getElem_cons hl⟩
    have hk : k ∈ K := List.mem_of_mem_drop (by rw [hd]; exact .head _)
    have hks : ks = K.drop (l + 1) := by
      rw [← List.drop_drop, hd]; rfl
    rw [List.range'_succ, hd, fw, fe, Wl_at K l hd]
    have hE : ∀ p ∈ fam, ∀ q ∈ fam, EE (fun p q => lv K (X p) (X q)) l p q = ((X p).getD k.1 0 == (X q).getD k.1 0) := fun p hp q hq => (EE_eq _ _ _ _).trans (lv_step K l (X p) (X q) hd (hi p hp q hq))
    have hrp : rp (EE (fun p q => lv K (X p) (X q)) l) fam = rp (fun p q => (X p).getD k.1 0 == (X q).getD k.1 0) fam := rp_congr hE
    have hkind : (kindR k.1 (fam.map X)).Perm ((rp (EE (fun p q => lv K (X p) (X q)) l) fam).map fun p => (X p).getD k.1 0) := by
      rw [hrp]
      have := kinds_rp (fun p => (X p).getD k.1 0) (l := fam) fun p hp => hv p hp k hk
      unfold kindR
      rw [List.map_map]
      exact this
    have hpart : ∀ p ∈ fam, partR k.1 (fam.map X) ((X p).getD k.1 0) = (fam.filter (EE (fun p q => lv K (X p) (X q)) l p)).map X := fun p hp => by
      unfold partR
      rw [List.filter_map]
      congr 1
      refine List.filter_congr fun q hq => ?_
      rw [hE p hp q hq]
      simp only [Function.comp]
      rw [Bool.eq_iff_iff, beq_iff_eq, beq_iff_eq]
      exact eq_comm
    have h1 : ((kindR k.1 (fam.map X)).map fun v => (partR k.1 (fam.map X) v).length % 2).sum = ((rp (EE (fun p q => lv K (X p) (X q)) l) fam).map fun p => (fam.filter (EE (fun p q => lv K (X p) (X q)) l p)).length % 2).sum := by
      rw [sum_perm (hkind.map _), List.map_map]
      congr 1
      refine List.map_congr_left fun p hp => ?_
      simp only [Function.comp]
      rw [hpart p (mem_rp hp), List.length_map]
    have h2 : prodI ((kindR k.1 (fam.map X)).map fun v => if decide ((partR k.1 (fam.map X) v).length > 1) then fw ks (partR k.1 (fam.map X) v) else 1) = prodI ((rp (EE (fun p q => lv K (X p) (X q)) l) fam).map fun p => if decide ((fam.filter (EE (fun p q => lv K (X p) (X q)) l p)).length > 1) then fe (Wl K) (fun p q => lv K (X p) (X q)) (List.range' (l + 1) n) (fam.filter (EE (fun p q => lv K (X p) (X q)) l p)) else 1) := by
      rw [prodI_perm (hkind.map _), List.map_map]
      congr 1
      refine List.map_congr_left fun p hp => ?_
      have hp' := mem_rp hp
      simp only [Function.comp]
      rw [hpart p hp', List.length_map, hks, fw_fe K X n (l + 1) _ (by lia) (fun q hq => hv q (List.mem_filter.mp hq).1) ?_]
      intro q hq q' hq'
      obtain ⟨a1, a2⟩ := List.mem_filter.mp hq
      obtain ⟨b1, b2⟩ := List.mem_filter.mp hq'
      have c1 := hE p hp' q a1
      have c2 := hE p hp' q' b1
      have c3 := hE q a1 q' b1
      rw [a2] at c1
      rw [b2] at c2
      have e1 := eq_of_beq c1.symm
      have e2 := eq_of_beq c2.symm
      rw [beq_iff_eq.mpr (e1.symm.trans e2)] at c3
      have : lv K (X q) (X q') > l := of_decide_eq_true ((EE_eq _ _ _ _).symm.trans c3)
      lia
    rw [h1, h2]
/-! exponents -/
noncomputable abbrev Ex := Nat × Nat × Nat × Nat
noncomputable def exA (a b : Ex) : Ex := (a.1 + b.1, a.2.1 + b.2.1, a.2.2.1 + b.2.2.1, a.2.2.2 + b.2.2.2)
noncomputable def ex1 : Nat → Ex
  | 0 => (1, 0, 0, 0)
  | 1 => (0, 1, 0, 0)
  | 2 => (0, 0, 1, 0)
  | _ => (0, 0, 0, 1)
noncomputable def exN (n : Nat) (a : Ex) : Ex := (n * a.1, n * a.2.1, n * a.2.2.1, n * a.2.2.2)
noncomputable def exS : List Ex → Ex
  | [] => (0, 0, 0, 0)
  | a :: l => exA a (exS l)
noncomputable def mono (W : Nat → Int) (a : Ex) : Int := W 0 ^ a.1 * W 1 ^ a.2.1 * W 2 ^ a.2.2.1 * W 3 ^ a.2.2.2
theorem mono_add (W : Nat → Int) (a b : Ex) : mono W (exA a b) = mono W a * mono W b := by
  unfold mono exA; simp only [Int.pow_add]; grind
theorem mono_N (W : Nat → Int) (a : Ex) : ∀ n, mono W (exN n a) = mono W a ^ n
  | 0 => by unfold mono exN; simp
  | n + 1 => by
    rw [Int.pow_succ, ← mono_N W a n, ← mono_add]
    congr 1
    unfold exN exA
    simp only [Nat.succ_mul]
theorem mono_one (W : Nat → Int) : ∀ l, l ≤ 3 → mono W (ex1 l) = W l
  | 0, _ => by simp [mono, ex1, Int.pow_succ]
  | 1, _ => by simp [mono, ex1, Int.pow_succ]
  | 2, _ => by simp [mono, ex1, Int.pow_succ]
  | 3, _ => by simp [mono, ex1, Int.pow_succ]
theorem mono_S (W : Nat → Int) : ∀ l : List Ex, mono W (exS l) = prodI (l.map (mono W))
  | [] => by simp [mono, exS, prodI]
  | a :: l => by rw [exS, mono_add, List.map_cons, prodI, mono_S W l]
noncomputable def feX (lev : Nat → Nat → Nat) : List Nat → List Nat → Ex
  | [], _ => (0, 0, 0, 1)
  | l :: ls, fam => exA (exN (((rp (EE lev l) fam).map fun p => (fam.filter (EE lev l p)).length % 2).sum / 2) (ex1 l)) (exS ((rp (EE lev l) fam).map fun p => bif Nat.ble 2 (fam.filter (EE lev l p)).length then feX lev ls (fam.filter (EE lev l p)) else (0, 0, 0, 0)))
theorem fe_mono {W : Nat → Int} (h3 : W 3 = 0) (lev : Nat → Nat → Nat) : ∀ (ls fam : List Nat), (∀ l ∈ ls, l ≤ 3) → fe W lev ls fam = mono W (feX lev ls fam)
  | [], fam, _ => by simp [fe, feX, mono, h3]
  | l :: ls, fam, h => by
    rw [fe, feX, mono_add, mono_N, mono_one W l (h l (.head _)), mono_S, List.map_map]
    congr 2
    refine List.map_congr_left fun p _ => ?_
    simp only [Function.comp]
    rw [ble_two]
    cases decide ((fam.filter (EE lev l p)).length > 1) with
    | true => exact fe_mono h3 lev ls _ fun x m => h x (.tail _ m)
    | false => simp [mono]
theorem feX_congr {lev lev' : Nat → Nat → Nat} : ∀ (ls fam : List Nat), (∀ p ∈ fam, ∀ q ∈ fam, lev p q = lev' p q) → feX lev ls fam = feX lev' ls fam
  | [], _, _ => rfl
  | l :: ls, fam, h => by
    have hE : ∀ p ∈ fam, ∀ q ∈ fam, EE lev l p q = EE lev' l p q := fun p hp q hq => by unfold EE; rw [h p hp q hq]
    have hf : ∀ p ∈ fam, fam.filter (EE lev l p) = fam.filter (EE lev' l p) := fun p hp => List.filter_congr fun q hq => hE p hp q hq
    rw [feX, feX, rp_congr hE]
    congr 1
    · congr 3
      exact List.map_congr_left fun p hp => by rw [hf p (mem_rp hp)]
    · congr 1
      refine List.map_congr_left fun p hp => ?_
      rw [hf p (mem_rp hp)]
      cases Nat.ble 2 (fam.filter (EE lev' l p)).length with
      | true => exact feX_congr ls _ fun a ha b hb => h a (List.mem_filter.mp ha).1 b (List.mem_filter.mp hb).1
      | false => rfl
end Zq
/-! part ZqG -/
namespace Zq
open Zs PySem Zn
noncomputable def minB (a b : Nat) : Nat := bif Nat.ble a b then a else b
noncomputable def mn (d : List Nat) (p q : Nat) : Nat := bif Nat.beq p q then 3 else bif Nat.ble p q then ((d.drop p).take (q - p)).foldl minB 3 else ((d.drop q).take (p - q)).foldl minB 3
noncomputable def codeE (e : Ex) : Nat := e.1 + 8 * e.2.1 + 64 * e.2.2.1 + 512 * e.2.2.2
noncomputable def sameE (a b : Ex) : Bool := bif Nat.beq (codeE a) (codeE b) then (Nat.beq a.1 b.1 && Nat.beq a.2.1 b.2.1 && Nat.beq a.2.2.1 b.2.2.1 && Nat.beq a.2.2.2 b.2.2.2) else false
theorem sameE_eq {a b : Ex} (h : sameE a b = true) : a = b := by
  unfold sameE at h
  cases hc : Nat.beq (codeE a) (codeE b) with
  | false => rw [hc] at h; cases h
  | true =>
    rw [hc] at h
    simp only [cond_true, Bool.and_eq_true] at h
    obtain ⟨⟨⟨h1, h2⟩, h3⟩, h4⟩ := h
    exact Prod.ext (Nat.eq_of_beq_eq_true h1) (Prod.ext (Nat.eq_of_beq_eq_true h2) (Prod.ext (Nat.eq_of_beq_eq_true h3) (Nat.eq_of_beq_eq_true h4)))
noncomputable def M15 : List (Int × (Nat × Nat) × (Nat × Nat) × (Nat × Nat)) :=
  [(1, (1, 0), (3, 2), (5, 4)), (-1, (1, 0), (4, 2), (5, 3)), (1, (1, 0), (5, 2), (4, 3)),
   (-1, (2, 0), (3, 1), (5, 4)), (1, (2, 0), (4, 1), (5, 3)), (-1, (2, 0), (5, 1), (4, 3)),
   (1, (3, 0), (2, 1), (5, 4)), (-1, (3, 0), (4, 1), (5, 2)), (1, (3, 0), (5, 1), (4, 2)),
   (-1, (4, 0), (2, 1), (5, 3)), (1, (4, 0), (3, 1), (5, 2)), (-1, (4, 0), (5, 1), (3, 2)),
   (1, (5, 0), (2, 1), (4, 3)), (-1, (5, 0), (3, 1), (4, 2)), (1, (5, 0), (4, 1), (3, 2))]
noncomputable def N15 : List (Int × (Nat × Nat) × (Nat × Nat)) :=
  [(1, (2, 1), (4, 3)), (-1, (3, 1), (4, 2)), (1, (4, 1), (3, 2)),
   (-1, (2, 0), (4, 3)), (1, (3, 0), (4, 2)), (-1, (4, 0), (3, 2)),
   (1, (1, 0), (4, 3)), (-1, (3, 0), (4, 1)), (1, (4, 0), (3, 1)),
   (-1, (1, 0), (4, 2)), (1, (2, 0), (4, 1)), (-1, (4, 0), (2, 1)),
   (1, (1, 0), (3, 2)), (-1, (2, 0), (3, 1)), (1, (3, 0), (2, 1))]
theorem F6_M (e : Nat → Nat → Int) : F6 e 0 1 2 3 4 5 = (M15.map fun t => t.1 * (e t.2.1.1 t.2.1.2 * (e t.2.2.1.1 t.2.2.1.2 * e t.2.2.2.1 t.2.2.2.2))).sum := by
  unfold F6 F4 M15
  simp only [List.map_cons, List.map_nil, List.sum_cons, List.sum_nil]
  grind
theorem F5_N (e : Nat → Nat → Int) : F5 e 0 1 2 3 4 = (N15.map fun t => t.1 * (e t.2.1.1 t.2.1.2 * e t.2.2.1 t.2.2.2)).sum := by
  unfold F5 F4 N15
  simp only [List.map_cons, List.map_nil, List.sum_cons, List.sum_nil]
  grind
noncomputable def terms6 (lev : Nat → Nat → Nat) : List (Int × Ex) := M15.map fun t => (t.1, exA (ex1 (lev t.2.1.1 t.2.1.2)) (exA (ex1 (lev t.2.2.1.1 t.2.2.1.2)) (ex1 (lev t.2.2.2.1 t.2.2.2.2))))
noncomputable def terms5 (lev : Nat → Nat → Nat) : List (Int × Ex) := N15.map fun t => (t.1, exA (ex1 (lev t.2.1.1 t.2.1.2)) (ex1 (lev t.2.2.1 t.2.2.2)))
noncomputable def sumT (W : Nat → Int) (l : List (Int × Ex)) : Int := (l.map fun t => t.1 * mono W t.2).sum
noncomputable def coef (l : List (Int × Ex)) (x : Ex) : Int := ((l.filter fun t => sameE t.2 x).map (·.1)).sum
theorem sumT_split (W : Nat → Int) (x : Ex) : ∀ l : List (Int × Ex), sumT W l = coef l x * mono W x + sumT W (l.filter fun t => !(sameE t.2 x))
  | [] => by simp [sumT, coef]
  | t :: l => by
    have ih := sumT_split W x l
    unfold sumT coef at ih ⊢
    rw [List.map_cons, List.sum_cons, ih, List.filter_cons, List.filter_cons]
    cases h : sameE t.2 x with
    | true =>
      simp only [if_true, Bool.not_true, Bool.false_eq_true, if_false, List.map_cons, List.sum_cons, sameE_eq h]
      grind
    | false =>
      simp only [if_true, Bool.not_false, Bool.false_eq_true, if_false, List.map_cons, List.sum_cons]
      grind
noncomputable def zeroQ : Nat → List (Int × Ex) → Bool
  | _, [] => true
  | 0, _ :: _ => false
  | n + 1, t :: l => (Nat.ble 1 t.2.2.2.2 || coef (t :: l) t.2 == 0) && zeroQ n ((t :: l).filter fun u => !(sameE u.2 t.2))
theorem zeroQ_ok {W : Nat → Int} (h3 : W 3 = 0) : ∀ (n : Nat) (l : List (Int × Ex)), zeroQ n l = true → sumT W l = 0
  | 0, [], _ => rfl
  | _ + 1, [], _ => rfl
  | 0, _ :: _, h => by cases h
  | n + 1, t :: l, h => by
    rw [zeroQ] at h
    obtain ⟨h1, h2⟩ := Bool.and_eq_true_iff.mp h
    rw [sumT_split W t.2, zeroQ_ok h3 n _ h2, Int.add_zero]
    rcases Bool.or_eq_true_iff.mp h1 with h1 | h1
    · have := Nat.le_of_ble_eq_true h1
      have : mono W t.2 = 0 := by
        unfold mono
        rw [h3, Int.zero_pow (by lia), Int.mul_zero]
      rw [this, Int.mul_zero]
    · rw [eq_of_beq h1, Int.zero_mul]
noncomputable def check6 (d : List Nat) : Bool := zeroQ 20 ((-1, feX (mn d) [0, 1, 2] [0, 1, 2, 3, 4, 5]) :: terms6 (mn d))
noncomputable def check5 (d : List Nat) : Bool := zeroQ 20 ((-1, feX (mn d) [0, 1, 2] [0, 1, 2, 3, 4]) :: terms5 (mn d))
end Zq
/-! part ZqH -/
namespace Zq
open Zs PySem Zn
/-! the same, by the recursors alone -/
section
variable {α : Type}
noncomputable def filF (p : α → Bool) (l : List α) : List α := @List.rec α (fun _ => List α) [] (fun a _ ih => @Bool.rec (fun _ => List α) ih (a :: ih) (p a)) l
theorem filF_eq (p : α → Bool) : ∀ l : List α, filF p l = l.filter p
  | [] => rfl
  | a :: l => by
    show @Bool.rec (fun _ => List α) (filF p l) (a :: filF p l) (p a) = _
    rw [filF_eq p l, List.filter_cons]
    cases p a <;> rfl
noncomputable def sumF (f : α → Nat) (l : List α) : Nat := @List.rec α (fun _ => Nat) 0 (fun a _ ih => Nat.add (f a) ih) l
theorem sumF_eq (f : α → Nat) : ∀ l : List α, sumF f l = (l.map f).sum
  | [] => rfl
  | a :: l => by
    show f a + sumF f l = _
    rw [sumF_eq f l, List.map_cons, List.sum_cons]
noncomputable def exF (f : α → Ex) (l : List α) : Ex := @List.rec α (fun _ => Ex) (0, 0, 0, 0) (fun a _ ih => exA (f a) ih) l
theorem exF_eq (f : α → Ex) : ∀ l : List α, exF f l = exS (l.map f)
  | [] => rfl
  | a :: l => by
    show exA (f a) (exF f l) = _
    rw [exF_eq f l, List.map_cons, exS]
noncomputable def lenF (l : List α) : Nat := @List.rec α (fun _ => Nat) 0 (fun _ _ ih => Nat.add ih 1) l
theorem lenF_eq : ∀ l : List α, lenF l = l.length
  | [] => rfl
  | a :: l => by
    show lenF l + 1 = _
    rw [lenF_eq l, List.length_cons]
end
noncomputable def rpF (E : Nat → Nat → Bool) (l : List Nat) : List Nat := @List.rec Nat (fun _ => List Nat) [] (fun p _ ih => p :: filF (fun q => !E p q) ih) l
theorem rpF_eq (E : Nat → Nat → Bool) : ∀ l : List Nat, rpF E l = rp E l
  | [] => rfl
  | p :: l => by
    show p :: filF (fun q => !E p q) (rpF E l) = _
    rw [rpF_eq E l, filF_eq, rp]
noncomputable def feF (lev : Nat → Nat → Nat) (ls : List Nat) : List Nat → Ex := @List.rec Nat (fun _ => List Nat → Ex) (fun _ => (0, 0, 0, 1))
  (fun l _ ih fam => exA (exN (Nat.div (sumF (fun p => Nat.mod (lenF (filF (EE lev l p) fam)) 2) (rpF (EE lev l) fam)) 2) (ex1 l)) (exF (fun p => @Bool.rec (fun _ => Ex) (0, 0, 0, 0) (ih (filF (EE lev l p) fam)) (Nat.ble 2 (lenF (filF (EE lev l p) fam)))) (rpF (EE lev l) fam))) ls
theorem feF_eq (lev : Nat → Nat → Nat) : ∀ ls fam : List Nat, feF lev ls fam = feX lev ls fam
  | [], _ => rfl
  | l :: ls, fam => by
    show exA (exN (Nat.div (sumF (fun p => Nat.mod (lenF (filF (EE lev l p) fam)) 2) (rpF (EE lev l) fam)) 2) (ex1 l)) (exF (fun p => @Bool.rec (fun _ => Ex) (0, 0, 0, 0) (feF lev ls (filF (EE lev l p) fam)) (Nat.ble 2 (lenF (filF (EE lev l p) fam)))) (rpF (EE lev l) fam)) = _
    rw [feX, sumF_eq, exF_eq, rpF_eq]
    simp only [filF_eq, lenF_eq]
    congr 2
    refine List.map_congr_left fun p _ => ?_
    rw [feF_eq lev ls]
    cases Nat.ble 2 (fam.filter (EE lev l p)).length <;> rfl
noncomputable def coefF (l : List (Int × Ex)) (x : Ex) : Int := @List.rec (Int × Ex) (fun _ => Int) 0 (fun t _ ih => @Bool.rec (fun _ => Int) ih (t.1 + ih) (sameE t.2 x)) l
theorem coefF_eq (x : Ex) : ∀ l : List (Int × Ex), coefF l x = coef l x
  | [] => rfl
  | t :: l => by
    show @Bool.rec (fun _ => Int) (coefF l x) (t.1 + coefF l x) (sameE t.2 x) = _
    rw [coefF_eq x l]
    unfold coef
    rw [List.filter_cons]
    cases sameE t.2 x with
    | true => simp only [if_true, List.map_cons, List.sum_cons]
    | false => rfl
noncomputable def zeroF (n : Nat) : List (Int × Ex) → Bool := @Nat.rec (fun _ => List (Int × Ex) → Bool) (fun l => @List.rec (Int × Ex) (fun _ => Bool) true (fun _ _ _ => false) l)
  (fun _ ih l => @List.rec (Int × Ex) (fun _ => Bool) true (fun t r _ => (Nat.ble 1 t.2.2.2.2 || coefF (t :: r) t.2 == 0) && ih (filF (fun u => !(sameE u.2 t.2)) (t :: r))) l) n
theorem zeroF_eq : ∀ (n : Nat) (l : List (Int × Ex)), zeroF n l = zeroQ n l
  | 0, [] => rfl
  | 0, _ :: _ => rfl
  | _ + 1, [] => rfl
  | n + 1, t :: r => by
    show ((Nat.ble 1 t.2.2.2.2 || coefF (t :: r) t.2 == 0) && zeroF n (filF (fun u => !(sameE u.2 t.2)) (t :: r))) = _
    rw [coefF_eq, zeroF_eq n, filF_eq, zeroQ]
noncomputable def fast5 (d : List Nat) : Bool := zeroF 20 ((-1, feF (mn d) [0, 1, 2] [0, 1, 2, 3, 4]) :: terms5 (mn d))
noncomputable def fast6 (d : List Nat) : Bool := zeroF 20 ((-1, feF (mn d) [0, 1, 2] [0, 1, 2, 3, 4, 5]) :: terms6 (mn d))
theorem fast5_eq (d : List Nat) : fast5 d = check5 d := by unfold fast5 check5; rw [zeroF_eq, feF_eq]
theorem fast6_eq (d : List Nat) : fast6 d = check6 d := by unfold fast6 check6; rw [zeroF_eq, feF_eq]
theorem all5 : ∀ a < 4, ∀ b < 4, ∀ c < 4, ∀ d < 4, fast5 [a, b, c, d] = true := by decide +kernel
end Zq
/-! part ZqI -/
namespace Zq
open Zs PySem Zn
theorem all6_0 : ∀ b < 4, ∀ c < 4, ∀ d < 4, ∀ e < 4, fast6 [0, b, c, d, e] = true := by decide +kernel
theorem all6_1 : ∀ b < 4, ∀ c < 4, ∀ d < 4, ∀ e < 4, fast6 [1, b, c, d, e] = true := by decide +kernel
theorem all6_2 : ∀ b < 4, ∀ c < 4, ∀ d < 4, ∀ e < 4, fast6 [2, b, c, d, e] = true := by decide +kernel
theorem all6_3 : ∀ b < 4, ∀ c < 4, ∀ d < 4, ∀ e < 4, fast6 [3, b, c, d, e] = true := by decide +kernel
theorem all6 : ∀ a < 4, ∀ b < 4, ∀ c < 4, ∀ d < 4, ∀ e < 4, fast6 [a, b, c, d, e] = true := fun a ha => by
  match a, ha with
  | 0, _ => exact all6_0
  | 1, _ => exact all6_1
  | 2, _ => exact all6_2
  | 3, _ => exact all6_3
end Zq
/-! part ZqJ -/
namespace Zq
open Zs PySem Zn
theorem mono6 (W : Nat → Int) (lev : Nat → Nat → Nat) (h : ∀ p q, q < p → p < 6 → lev p q ≤ 3) : F6 (fun j i => W (lev j i)) 0 1 2 3 4 5 = sumT W (terms6 lev) := by
  rw [F6_M]
  unfold sumT terms6
  rw [List.map_map]
  congr 1
  refine List.map_congr_left fun t ht => ?_
  simp only [Function.comp]
  have hl : ∀ t ∈ M15, t.2.1.2 < t.2.1.1 ∧ t.2.1.1 < 6 ∧ t.2.2.1.2 < t.2.2.1.1 ∧ t.2.2.1.1 < 6 ∧ t.2.2.2.2 < t.2.2.2.1 ∧ t.2.2.2.1 < 6 := by decide
  obtain ⟨h1, h2, h3, h4, h5, h6⟩ := hl t ht
  rw [mono_add, mono_add, mono_one W _ (h _ _ h1 h2), mono_one W _ (h _ _ h3 h4), mono_one W _ (h _ _ h5 h6)]
theorem mono5 (W : Nat → Int) (lev : Nat → Nat → Nat) (h : ∀ p q, q < p → p < 5 → lev p q ≤ 3) : F5 (fun j i => W (lev j i)) 0 1 2 3 4 = sumT W (terms5 lev) := by
  rw [F5_N]
  unfold sumT terms5
  rw [List.map_map]
  congr 1
  refine List.map_congr_left fun t ht => ?_
  simp only [Function.comp]
  have hl : ∀ t ∈ N15, t.2.1.2 < t.2.1.1 ∧ t.2.1.1 < 5 ∧ t.2.2.2 < t.2.2.1 ∧ t.2.2.1 < 5 := by decide
  obtain ⟨h1, h2, h3, h4⟩ := hl t ht
  rw [mono_add, mono_one W _ (h _ _ h1 h2), mono_one W _ (h _ _ h3 h4)]
theorem check_eq {W : Nat → Int} (h3 : W 3 = 0) {x : Ex} {l : List (Int × Ex)} (h : zeroQ 20 ((-1, x) :: l) = true) : sumT W l = mono W x := by
  have := zeroQ_ok h3 20 _ h
  unfold sumT at this ⊢
  rw [List.map_cons, List.sum_cons] at this
  have : (-1 : Int) * mono W x + (l.map fun t => t.1 * mono W t.2).sum = 0 := this
  lia
theorem minB_eq (a b : Nat) : minB a b = min a b := by
  unfold minB
  cases h : Nat.ble a b with
  | true => have := Nat.le_of_ble_eq_true h; simp; lia
  | false => have : ¬ a ≤ b := fun q => by rw [Nat.ble_eq_true_of_le q] at h; cases h
             simp; lia
theorem feX6 {lev lev' : Nat → Nat → Nat} (h : ∀ p < 6, ∀ q < 6, lev p q = lev' p q) : feX lev [0, 1, 2] [0, 1, 2, 3, 4, 5] = feX lev' [0, 1, 2] [0, 1, 2, 3, 4, 5] :=
  feX_congr _ _ fun p hp q hq => h p ((by decide : ∀ p ∈ [0, 1, 2, 3, 4, 5], p < 6) p hp) q ((by decide : ∀ p ∈ [0, 1, 2, 3, 4, 5], p < 6) q hq)
theorem feX5 {lev lev' : Nat → Nat → Nat} (h : ∀ p < 5, ∀ q < 5, lev p q = lev' p q) : feX lev [0, 1, 2] [0, 1, 2, 3, 4] = feX lev' [0, 1, 2] [0, 1, 2, 3, 4] :=
  feX_congr _ _ fun p hp q hq => h p ((by decide : ∀ p ∈ [0, 1, 2, 3, 4], p < 5) p hp) q ((by decide : ∀ p ∈ [0, 1, 2, 3, 4], p < 5) q hq)
theorem terms6_congr {lev lev' : Nat → Nat → Nat} (h : ∀ p < 6, ∀ q < 6, lev p q = lev' p q) : terms6 lev = terms6 lev' := by
  unfold terms6
  refine List.map_congr_left fun t ht => ?_
  have hl : ∀ t ∈ M15, t.2.1.2 < 6 ∧ t.2.1.1 < 6 ∧ t.2.2.1.2 < 6 ∧ t.2.2.1.1 < 6 ∧ t.2.2.2.2 < 6 ∧ t.2.2.2.1 < 6 := by decide
  obtain ⟨h1, h2, h3, h4, h5, h6⟩ := hl t ht
  rw [h _ h2 _ h1, h _ h4 _ h3, h _ h6 _ h5]
theorem terms5_congr {lev lev' : Nat → Nat → Nat} (h : ∀ p < 5, ∀ q < 5, lev p q = lev' p q) : terms5 lev = terms5 lev' := by
  unfold terms5
  refine List.map_congr_left fun t ht => ?_
  have hl : ∀ t ∈ N15, t.2.1.2 < 5 ∧ t.2.1.1 < 5 ∧ t.2.2.2 < 5 ∧ t.2.2.1 < 5 := by decide
  obtain ⟨h1, h2, h3, h4⟩ := hl t ht
  rw [h _ h2 _ h1, h _ h4 _ h3]
theorem F6_congr {e e' : Nat → Nat → Int} (h : ∀ j i, i < j → j < 6 → e j i = e' j i) : F6 e 0 1 2 3 4 5 = F6 e' 0 1 2 3 4 5 := by
  rw [F6_M, F6_M]
  congr 1
  refine List.map_congr_left fun t ht => ?_
  have hl : ∀ t ∈ M15, t.2.1.2 < t.2.1.1 ∧ t.2.1.1 < 6 ∧ t.2.2.1.2 < t.2.2.1.1 ∧ t.2.2.1.1 < 6 ∧ t.2.2.2.2 < t.2.2.2.1 ∧ t.2.2.2.1 < 6 := by decide
  obtain ⟨h1, h2, h3, h4, h5, h6⟩ := hl t ht
  rw [h _ _ h1 h2, h _ _ h3 h4, h _ _ h5 h6]
theorem F5_congr {e e' : Nat → Nat → Int} (h : ∀ j i, i < j → j < 5 → e j i = e' j i) : F5 e 0 1 2 3 4 = F5 e' 0 1 2 3 4 := by
  rw [F5_N, F5_N]
  congr 1
  refine List.map_congr_left fun t ht => ?_
  have hl : ∀ t ∈ N15, t.2.1.2 < t.2.1.1 ∧ t.2.1.1 < 5 ∧ t.2.2.2 < t.2.2.1 ∧ t.2.2.1 < 5 := by decide
  obtain ⟨h1, h2, h3, h4⟩ := hl t ht
  rw [h _ _ h1 h2, h _ _ h3 h4]
theorem nbeq {p q : Nat} (h : p ≠ q) : Nat.beq p q = false := by
  cases e : Nat.beq p q with
  | false => rfl
  | true => exact absurd (Nat.eq_of_beq_eq_true e) h
/-- a sorted list is told by the levels of its neighbours -/
theorem lev_all {K : List Key} (hK : K.length = 3) {n : Nat} {X : Nat → List Nat} (S : ∀ i j, i < j → j < n → gtL (markOf (X i) K) (markOf (X j) K) = false) : ∀ p q, p < n → q < n → lv K (X p) (X q) = mn ((List.range (n - 1)).map fun i => lv K (X i) (X (i + 1))) p q := by
  have up : ∀ m p, p + m + 1 < n → lv K (X p) (X (p + m + 1)) = ((((List.range (n - 1)).map fun i => lv K (X i) (X (i + 1))).drop p).take (m + 1)).foldl minB 3 := by
    intro m
    induction m with
    | zero =>
      intro p hp
      have : ((((List.range (n - 1)).map fun i => lv K (X i) (X (i + 1))).drop p).take (0 + 1)) = [lv K (X p) (X (p + 1))] := by
        rw [List.drop_eq_getElem_cons (by simp; omega)]
        simp
      rw [this, List.foldl_cons, List.foldl_nil, minB_eq]
      have := lv_le K (X p) (X (p + 1))
      rw [show p + 0 + 1 = p + 1 by lia]; lia
    | succ m ih =>
      intro p hp
      have ih := ih p (by lia)
      have e : ((((List.range (n - 1)).map fun i => lv K (X i) (X (i + 1))).drop p).take (m + 1 + 1)) = ((((List.range (n - 1)).map fun i => lv K (X i) (X (i + 1))).drop p).take (m + 1)) ++ [lv K (X (p + m + 1)) (X (p + m + 1 + 1))] := by
        rw [List.take_add_one, List.getElem?_drop, List.getElem?_map, List.getElem?_range (by lia)]
        simp only [Option.map_some, Option.toList_some]
        rw [show p + (m + 1) = p + m + 1 by lia]
      rw [e, List.foldl_append, ← ih, List.foldl_cons, List.foldl_nil, minB_eq]
      rw [show p + (m + 1) + 1 = p + m + 1 + 1 by lia]
      exact lv_min K _ _ _ (S _ _ (by lia) (by lia)) (S _ _ (by lia) (by omega))
  intro p q hp hq
  unfold mn
  rcases Nat.lt_trichotomy p q with h | h | h
  · rw [show Nat.beq p q = false from nbeq (by lia), show Nat.ble p q = true from Nat.ble_eq_true_of_le (by lia)]
    simp only [cond_false, cond_true]
    have := up (q - p - 1) p (by omega)
    rw [show p + (q - p - 1) + 1 = q by omega, show q - p - 1 + 1 = q - p by lia] at this
    exact this
  · subst h
    rw [show Nat.beq p p = true from Nat.beq_refl p, lv_self, hK]; rfl
  · rw [show Nat.beq p q = false from nbeq (by lia), show Nat.ble p q = false from by
      cases hb : Nat.ble p q with
      | false => rfl
      | true => have := Nat.le_of_ble_eq_true hb; lia]
    simp only [cond_false]
    have := up (p - q - 1) q (by omega)
    rw [show q + (p - q - 1) + 1 = p by omega, show p - q - 1 + 1 = p - q by lia] at this
    rw [lv_comm]
    exact this
theorem pw_at {L : List (List Nat)} {K : List Key} (h : L.Pairwise (fun x y => gtL (markOf x K) (markOf y K) = false)) : ∀ i j, i < j → j < L.length → gtL (markOf (L.getD i []) K) (markOf (L.getD j []) K) = false := fun i j hij hj => by
  have := List.pairwise_iff_getElem.mp h i j (by lia) hj hij
  rw [List.getD, List.getD, List.getElem?_eq_getElem hj, List.getElem?_eq_getElem (by lia)]
  exact this
theorem sorted_ok {K : List Key} (hK : K.length = 3) (A5 : ∀ a < 4, ∀ b < 4, ∀ c < 4, ∀ d < 4, fast5 [a, b, c, d] = true) (A6 : ∀ a < 4, ∀ b < 4, ∀ c < 4, ∀ d < 4, ∀ e < 4, fast6 [a, b, c, d, e] = true)
    {L : List (List Nat)} (hv : ∀ r ∈ L, ∀ k ∈ K, r.getD k.1 0 < 8) (h : L.Pairwise (fun x y => gtL (markOf x K) (markOf y K) = false)) : PL K L := by
  have hW : Wl K 3 = 0 := by
    match K, hK with
    | [_, _, _], _ => rfl
  have hle : ∀ x y, lv K x y < 4 := fun x y => by have := lv_le K x y; lia
  have S := pw_at h
  constructor
  · intro a b c d f g e
    subst e
    have S : ∀ i j, i < j → j < 6 → gtL (markOf ([a, b, c, d, f, g].getD i []) K) (markOf ([a, b, c, d, f, g].getD j []) K) = false := S
    have hI : I6 K a b c d f g = 0 := by
      have g1 : ∀ i j, i < j → j < 6 → gt1 K ([a, b, c, d, f, g].getD i []) ([a, b, c, d, f, g].getD j []) = 0 := fun i j h1 h2 => by unfold gt1; rw [S i j h1 h2]; rfl
      have := g1 0 1 (by decide) (by decide); have := g1 0 2 (by decide) (by decide); have := g1 0 3 (by decide) (by decide); have := g1 0 4 (by decide) (by decide); have := g1 0 5 (by decide) (by decide)
      have := g1 1 2 (by decide) (by decide); have := g1 1 3 (by decide) (by decide); have := g1 1 4 (by decide) (by decide); have := g1 1 5 (by decide) (by decide)
      have := g1 2 3 (by decide) (by decide); have := g1 2 4 (by decide) (by decide); have := g1 2 5 (by decide) (by decide)
      have := g1 3 4 (by decide) (by decide); have := g1 3 5 (by decide) (by decide); have := g1 4 5 (by decide) (by decide)
      unfold I6
      simp only [List.getD_cons_zero, List.getD_cons_succ] at *
      lia
    rw [hI, Int.pow_zero, Int.one_mul]
    have lev := lev_all hK S
    have F := fw_fe K (fun i => [a, b, c, d, f, g].getD i []) 3 0 [0, 1, 2, 3, 4, 5] hK.symm (fun p hp k hk => hv _ (by
      have : p < 6 := (by decide : ∀ p ∈ [0, 1, 2, 3, 4, 5], p < 6) p hp
      show [a, b, c, d, f, g].getD p [] ∈ [a, b, c, d, f, g]
      rw [List.getD, List.getElem?_eq_getElem (by simpa using this)]; exact List.getElem_mem _) k hk) (fun _ _ _ _ => Nat.zero_le _)
    have F' : fw K [a, b, c, d, f, g] = fe (Wl K) (fun p q => lv K ([a, b, c, d, f, g].getD p []) ([a, b, c, d, f, g].getD q [])) [0, 1, 2] [0, 1, 2, 3, 4, 5] := F
    have hlev : ∀ p < 6, ∀ q < 6, (fun p q => lv K ([a, b, c, d, f, g].getD p []) ([a, b, c, d, f, g].getD q [])) p q = mn [lv K a b, lv K b c, lv K c d, lv K d f, lv K f g] p q := fun p hp q hq => lev p q hp hq
    rw [F', fe_mono hW _ _ _ (by decide), feX6 hlev]
    have C := A6 _ (hle a b) _ (hle b c) _ (hle c d) _ (hle d f) _ (hle f g)
    rw [fast6_eq] at C
    rw [← check_eq hW C, ← terms6_congr hlev, ← mono6 _ _ (fun p q _ _ => by have := hle ([a, b, c, d, f, g].getD p []) ([a, b, c, d, f, g].getD q []); show lv K _ _ ≤ 3; lia)]
    have E : F6 (ce K) a b c d f g = F6 (fun j i => ce K ([a, b, c, d, f, g].getD j []) ([a, b, c, d, f, g].getD i [])) 0 1 2 3 4 5 := rfl
    rw [E]
    exact F6_congr fun j i h1 h2 => by rw [ce_lv K _ _ (S i j h1 h2)]
  · intro a b c d f e
    subst e
    have S : ∀ i j, i < j → j < 5 → gtL (markOf ([a, b, c, d, f].getD i []) K) (markOf ([a, b, c, d, f].getD j []) K) = false := S
    have hI : I5 K a b c d f = 0 := by
      have g1 : ∀ i j, i < j → j < 5 → gt1 K ([a, b, c, d, f].getD i []) ([a, b, c, d, f].getD j []) = 0 := fun i j h1 h2 => by unfold gt1; rw [S i j h1 h2]; rfl
      have := g1 0 1 (by decide) (by decide); have := g1 0 2 (by decide) (by decide); have := g1 0 3 (by decide) (by decide); have := g1 0 4 (by decide) (by decide)
      have := g1 1 2 (by decide) (by decide); have := g1 1 3 (by decide) (by decide); have := g1 1 4 (by decide) (by decide)
      have := g1 2 3 (by decide) (by decide); have := g1 2 4 (by decide) (by decide); have := g1 3 4 (by decide) (by decide)
      unfold I5
      simp only [List.getD_cons_zero, List.getD_cons_succ] at *
      lia
    rw [hI, Int.pow_zero, Int.one_mul]
    have lev := lev_all hK S
    have F := fw_fe K (fun i => [a, b, c, d, f].getD i []) 3 0 [0, 1, 2, 3, 4] hK.symm (fun p hp k hk => hv _ (by
      have : p < 5 := (by decide : ∀ p ∈ [0, 1, 2, 3, 4], p < 5) p hp
      show [a, b, c, d, f].getD p [] ∈ [a, b, c, d, f]
      rw [List.getD, List.getElem?_eq_getElem (by simpa using this)]; exact List.getElem_mem _) k hk) (fun _ _ _ _ => Nat.zero_le _)
    have F' : fw K [a, b, c, d, f] = fe (Wl K) (fun p q => lv K ([a, b, c, d, f].getD p []) ([a, b, c, d, f].getD q [])) [0, 1, 2] [0, 1, 2, 3, 4] := F
    have hlev : ∀ p < 5, ∀ q < 5, (fun p q => lv K ([a, b, c, d, f].getD p []) ([a, b, c, d, f].getD q [])) p q = mn [lv K a b, lv K b c, lv K c d, lv K d f] p q := fun p hp q hq => lev p q hp hq
    rw [F', fe_mono hW _ _ _ (by decide), feX5 hlev]
    have C := A5 _ (hle a b) _ (hle b c) _ (hle c d) _ (hle d f)
    rw [fast5_eq] at C
    rw [← check_eq hW C, ← terms5_congr hlev, ← mono5 _ _ (fun p q _ _ => by have := hle ([a, b, c, d, f].getD p []) ([a, b, c, d, f].getD q []); show lv K _ _ ≤ 3; lia)]
    have E : F5 (ce K) a b c d f = F5 (fun j i => ce K ([a, b, c, d, f].getD j []) ([a, b, c, d, f].getD i [])) 0 1 2 3 4 := rfl
    rw [E]
    exact F5_congr fun j i h1 h2 => by rw [ce_lv K _ _ (S i j h1 h2)]
end Zq
/-! part ZqK -/
namespace Zq
open Zs PySem Zn
theorem keys_all (T : Int) : ∀ c < 3, ∃ k ∈ keysL T, k.1 = c := by
  have h0 := fmod_lt T (b := 3) (by decide)
  have h1 := fmod_lt (T.fdiv 3) (b := 2) (by decide)
  have a0 : i0L T < 3 := by unfold i0L; omega
  have a1 : i1L T < 2 := by unfold i1L; omega
  intro c hc
  have key : c = colsL.getD (i0L T) 0 ∨ c = (colsL.eraseIdx (i0L T)).getD (i1L T) 0 ∨ c = ((colsL.eraseIdx (i0L T)).eraseIdx (i1L T)).getD 0 0 := by
    generalize i0L T = i at a0
    generalize i1L T = j at a1
    exact (by decide : ∀ i < 3, ∀ j < 2, ∀ c < 3, c = colsL.getD i 0 ∨ c = (colsL.eraseIdx i).getD j 0 ∨ c = ((colsL.eraseIdx i).eraseIdx j).getD 0 0) i a0 j a1 c hc
  unfold keysL
  rcases key with h | h | h
  · exact ⟨_, .head _, h.symm⟩
  · exact ⟨_, .tail _ (.head _), h.symm⟩
  · exact ⟨_, .tail _ (.tail _ (.head _)), h.symm⟩
theorem told_small (ns : List Int) {ks : List Key} (hk : ∀ k ∈ ks, k.1 < 3) : ∀ r ∈ toldsL ns, ∀ k ∈ ks, r.getD k.1 0 < 8 := fun r hr k m => by
  obtain ⟨e, rfl⟩ := told_mem hr
  exact colK_lt _ _ (told_vals e k.1 (hk k m))
theorem told_PL (ns : List Int) (T : Int) : PL (keysL T) (toldsL ns) :=
  by_sorted (keys_all T) (toldsL ns) (fun L' hp hs => sorted_ok rfl all5 all6 (fun r m => told_small ns (fun k hk => (keys_ok T k hk).1) r (hp.mem_iff.mp m)) hs) (told_ok ns).rows
theorem law_true (ns : List Int) : lawOf ns = true := by
  have P := told_PL ns ns.sum
  have hl := told_len ns
  unfold lawOf
  rw [worth_fw, beq_iff_eq]
  generalize toldsL ns = ts at P hl
  generalize keysL ns.sum = ks at P
  rcases cnt_le ns with h | h
  · rw [h] at hl ⊢
    match ts, hl with
    | [a, b, c, d, f], _ =>
      rw [law5, turns5, Int.toNat_natCast]
      exact P.2 a b c d f rfl
  · rw [h] at hl ⊢
    match ts, hl with
    | [a, b, c, d, f, g], _ =>
      rw [law6, turns6, Int.toNat_natCast]
      exact P.1 a b c d f g rfl
end Zq
/-! part ZhT -/
namespace Zh
theorem plain : Plain := ⟨fun xs => Zq.row_eq _ fun k hk => (Zn.keys_ok _ k hk).1, fun xs => Zq.told_ok _, fun xs => Zq.law_true _⟩
theorem all_holds : PySem.Challenge.rw_zn0031_01.Holds := holds plain
end Zh
theorem PySem.Challenge.cw_zn0031_01_holds : PySem.Challenge.rw_zn0031_01.Holds := by
  exact Zh.all_holds
