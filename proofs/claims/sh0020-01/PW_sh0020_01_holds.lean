import PyProof.Rows.All
import Wide.All
import OpenK.AllK
import Wide.FinOn
import Flt.RightMore
import PySem.Challenge.RW_sh0020_01
open PySem PySem.W PyProof.Rows
set_option Elab.async false
set_option genInjectivity false
set_option genSizeOf false

noncomputable section
open PySem PySem.Calls PyProof.Rows PySem.W
set_option Elab.async false
set_option linter.unusedVariables false
namespace Mine

/-- abstract values -/
inductive AV where
  | none | bool (b : Bool) | int (i : Int) | flt (x : UInt64) | str (s : Str)
  | tup (l : List AV) | lst (l : List AV) | acc (a : Addr)

inductive Rel (h : Heap) : AV → Value → Prop where
  | none : Rel h .none .none
  | bool (b) : Rel h (.bool b) (.bool b)
  | int (i t) : Rel h (.int i) (.int i t)
  | flt (x t) : Rel h (.flt x) (.float x t)
  | str (x t) : Rel h (.str x) (.str x t)
  | acc (a) : Rel h (.acc a) (.ref a)
  | tup {l : List AV} {a : Addr} {vs : List Value} : h.IsTuple a vs.toArray → l.length = vs.length → (∀ (i : Nat) v r, l[i]? = some v → vs[i]? = some r → Rel h v r) → Rel h (.tup l) (.ref a)
  | lst {l : List AV} {a : Addr} {vs : List Value} : h.IsList a vs.toArray → l.length = vs.length → (∀ (i : Nat) v r, l[i]? = some v → vs[i]? = some r → Rel h v r) → Rel h (.lst l) (.ref a)

/-- an object that a Rel may read -/
noncomputable def SeqObj (o : Obj) : Prop := (o.cls = .type "list" ∨ o.cls = .type "tuple") ∧ ∃ xs n, o.data = .seq xs n

theorem Rel.mono {h h' : Heap} (hk : ∀ b o, SeqObj o → h.get? b = some o → h'.get? b = some o) {v : AV} {r : Value} (x : Rel h v r) : Rel h' v r := by
  induction x with
  | none => exact .none
  | bool b => exact .bool b
  | int i t => exact .int i t
  | flt x t => exact .flt x t
  | str x t => exact .str x t
  | acc a => exact .acc a
  | tup hi hl _ ih => exact .tup (let ⟨o, e, c, r⟩ := hi; ⟨o, hk _ o ⟨.inr c, _, r⟩ e, c, r⟩) hl ih
  | lst hi hl _ ih => exact .lst (let ⟨o, e, c, r⟩ := hi; ⟨o, hk _ o ⟨.inl c, _, r⟩ e, c, r⟩) hl ih

theorem Rel.keeps {h h' : Heap} (hk : ∀ b o, h.get? b = some o → h'.get? b = some o) {v : AV} {r : Value} (x : Rel h v r) : Rel h' v r := x.mono fun b o _ e => hk b o e

/-- values read pointwise -/
inductive RelAll (h : Heap) : List AV → List Value → Prop where
  | nil : RelAll h [] []
  | cons {v r vs rs} : Rel h v r → RelAll h vs rs → RelAll h (v :: vs) (r :: rs)
theorem RelAll.mono {h h' : Heap} (hk : ∀ b o, SeqObj o → h.get? b = some o → h'.get? b = some o) {vs : List AV} {rs : List Value} (x : RelAll h vs rs) : RelAll h' vs rs := by
  induction x with
  | nil => exact .nil
  | cons a _ ih => exact .cons (a.mono hk) ih
theorem RelAll.keeps {h h' : Heap} (hk : ∀ b o, h.get? b = some o → h'.get? b = some o) {vs : List AV} {rs : List Value} (x : RelAll h vs rs) : RelAll h' vs rs := x.mono fun b o _ e => hk b o e
theorem RelAll.length {h : Heap} {vs : List AV} {rs : List Value} (x : RelAll h vs rs) : vs.length = rs.length := by
  induction x with
  | nil => rfl
  | cons _ _ ih => simp [ih]
theorem RelAll.get {h : Heap} {vs : List AV} {rs : List Value} (x : RelAll h vs rs) : ∀ (i : Nat) v r, vs[i]? = some v → rs[i]? = some r → Rel h v r := by
  induction x with
  | nil => intro i v r e; simp at e
  | cons a _ ih =>
    intro i v r e1 e2
    cases i with
    | zero => simp at e1 e2; subst e1; subst e2; exact a
    | succ i => exact ih i v r (by simpa using e1) (by simpa using e2)
theorem RelAll.of_get {h : Heap} : ∀ {vs : List AV} {rs : List Value}, vs.length = rs.length → (∀ (i : Nat) v r, vs[i]? = some v → rs[i]? = some r → Rel h v r) → RelAll h vs rs
  | [], [], _, _ => .nil
  | v :: vs, r :: rs, hl, hg => .cons (hg 0 v r rfl rfl) (RelAll.of_get (by simpa using hl) fun i v' r' e1 e2 => hg (i + 1) v' r' (by simpa using e1) (by simpa using e2))
  | [], _ :: _, hl, _ => by simp at hl
  | _ :: _, [], hl, _ => by simp at hl

theorem Rel.tup' {h : Heap} {l : List AV} {a : Addr} {vs : List Value} (hi : h.IsTuple a vs.toArray) (x : RelAll h l vs) : Rel h (.tup l) (.ref a) := .tup hi x.length x.get
theorem Rel.lst' {h : Heap} {l : List AV} {a : Addr} {vs : List Value} (hi : h.IsList a vs.toArray) (x : RelAll h l vs) : Rel h (.lst l) (.ref a) := .lst hi x.length x.get
theorem Rel.tup_inv {h : Heap} {l : List AV} {r : Value} (x : Rel h (.tup l) r) : ∃ a vs, r = .ref a ∧ h.IsTuple a (List.toArray vs) ∧ RelAll h l vs := by
  cases x with
  | tup hi hl hg => exact ⟨_, _, rfl, hi, .of_get hl hg⟩
theorem Rel.lst_inv {h : Heap} {l : List AV} {r : Value} (x : Rel h (.lst l) r) : ∃ a vs, r = .ref a ∧ h.IsList a (List.toArray vs) ∧ RelAll h l vs := by
  cases x with
  | lst hi hl hg => exact ⟨_, _, rfl, hi, .of_get hl hg⟩

/-! what a value is, read off what it stands for -/
section
variable {h : Heap} {P : Value → Prop} {r : Value} {Ps : List Value → Prop} {rs : List Value} {v u t : AV} {vs : List AV}
@[elab_as_elim] theorem Rel.elim_none (x : Rel h .none r) (k : P .none) : P r := by cases x; exact k
@[elab_as_elim] theorem Rel.elim_bool {b : Bool} (x : Rel h (.bool b) r) (k : P (.bool b)) : P r := by cases x; exact k
@[elab_as_elim] theorem Rel.elim_int {i : Int} (x : Rel h (.int i) r) (k : ∀ t, P (.int i t)) : P r := by cases x; exact k _
@[elab_as_elim] theorem Rel.elim_flt {i : UInt64} (x : Rel h (.flt i) r) (k : ∀ t, P (.float i t)) : P r := by cases x; exact k _
@[elab_as_elim] theorem Rel.elim_str {i : Str} (x : Rel h (.str i) r) (k : ∀ t, P (.str i t)) : P r := by cases x; exact k _
@[elab_as_elim] theorem Rel.elim_acc {a : Addr} (x : Rel h (.acc a) r) (k : P (.ref a)) : P r := by cases x; exact k
@[elab_as_elim] theorem RelAll.elim0 (x : RelAll h [] rs) (k : Ps []) : Ps rs := by cases x; exact k
@[elab_as_elim] theorem RelAll.elimc (x : RelAll h (v :: vs) rs) (k : ∀ r rs, Rel h v r → RelAll h vs rs → Ps (r :: rs)) : Ps rs := by cases x with | cons a b => exact k _ _ a b
@[elab_as_elim] theorem RelAll.elim1 (x : RelAll h [v] rs) (k : ∀ r, Rel h v r → Ps [r]) : Ps rs := x.elimc fun r _ a y => y.elim0 (Ps := fun l => Ps (r :: l)) (k r a)
@[elab_as_elim] theorem RelAll.elim2 (x : RelAll h [v, u] rs) (k : ∀ r r', Rel h v r → Rel h u r' → Ps [r, r']) : Ps rs := x.elimc fun r _ a y => y.elim1 (Ps := fun l => Ps (r :: l)) fun r' b => k r r' a b
@[elab_as_elim] theorem RelAll.elim3 (x : RelAll h [v, u, t] rs) (k : ∀ r r' r'', Rel h v r → Rel h u r' → Rel h t r'' → Ps [r, r', r'']) : Ps rs := x.elimc fun r _ a y => y.elim2 (Ps := fun l => Ps (r :: l)) fun r' r'' b c => k r r' r'' a b c
end

/-! the same, as equations -/
section
variable {h : Heap} {r : Value} {rs : List Value} {v u t : AV} {vs : List AV}
theorem Rel.none_eq (x : Rel h .none r) : r = .none := x.elim_none rfl
theorem Rel.bool_eq {b : Bool} (x : Rel h (.bool b) r) : r = .bool b := x.elim_bool rfl
theorem Rel.acc_eq {a : Addr} (x : Rel h (.acc a) r) : r = .ref a := x.elim_acc rfl
theorem Rel.int_ex {i : Int} (x : Rel h (.int i) r) : ∃ t, r = .int i t := x.elim_int fun t => ⟨t, rfl⟩
theorem Rel.str_ex {i : Str} (x : Rel h (.str i) r) : ∃ t, r = .str i t := x.elim_str fun t => ⟨t, rfl⟩
theorem RelAll.nil_eq (x : RelAll h [] rs) : rs = [] := x.elim0 rfl
theorem RelAll.cons_ex (x : RelAll h (v :: vs) rs) : ∃ r rs', rs = r :: rs' ∧ Rel h v r ∧ RelAll h vs rs' := x.elimc fun r rs a b => ⟨r, rs, rfl, a, b⟩
theorem RelAll.one_ex (x : RelAll h [v] rs) : ∃ r, rs = [r] ∧ Rel h v r := x.elim1 fun r a => ⟨r, rfl, a⟩
theorem RelAll.two_ex (x : RelAll h [v, u] rs) : ∃ r r', rs = [r, r'] ∧ Rel h v r ∧ Rel h u r' := x.elim2 fun r r' a b => ⟨r, r', rfl, a, b⟩
end

/-! keeping -/
structure Kp (s s' : Shared) : Prop where
  keeps : Keeps s s'
theorem Kp.rfl' (s : Shared) : Kp s s := ⟨s.heap, s.toks, rfl, fun _ _ e => e⟩
theorem Kp.trans' {s s' s'' : Shared} (a : Kp s s') (b : Kp s' s'') : Kp s s'' := by
  obtain ⟨h, t, rfl, k⟩ := a
  obtain ⟨h', t', rfl, k'⟩ := b
  exact ⟨h', t', rfl, fun b o e => k' b o (k b o e)⟩
theorem Kp.heap {s s' : Shared} (a : Kp s s') : ∀ b o, s.heap.get? b = some o → s'.heap.get? b = some o := by
  obtain ⟨h, t, rfl, k⟩ := a
  exact k
theorem Kp.tok (s : Shared) (t : Nat) : Kp s { s with toks := t } := ⟨s.heap, t, rfl, fun _ _ e => e⟩
theorem Kp.push (s : Shared) (o : Obj) : Kp s { s with heap := s.heap.push o } := ⟨_, s.toks, rfl, fun _ _ e => Heap.get?_push_of_some _ e⟩
theorem Kp.of {s : Shared} {h' : Heap} {t : Nat} (k : ∀ b o, s.heap.get? b = some o → h'.get? b = some o) : Kp s { s with heap := h', toks := t } := ⟨h', t, rfl, k⟩
theorem Kp.of' {s : Shared} {h' : Heap} (k : ∀ b o, s.heap.get? b = some o → h'.get? b = some o) : Kp s { s with heap := h' } := ⟨h', s.toks, rfl, k⟩

/-- room around -/
noncomputable def Lvl (n : Nat) (A : Around) : Prop := A.handled = none ∧ A.depth + 4 * n + 8 < 1000 ∧ A.units + 16 * n + 32 < 9900
theorem Lvl.down {n : Nat} {A : Around} (x : Lvl (n + 1) A) : Lvl n A := ⟨x.1, by have := x.2.1; (first | lia | omega), by have := x.2.2; (first | lia | omega)⟩
theorem Lvl.deeper {n : Nat} {A : Around} {env : Env} (x : Lvl (n + 1) A) : Lvl n (A.deeper env) :=
  ⟨x.1, by have := x.2.1; show (A.depth + 1) + 4 * n + 8 < 1000; (first | lia | omega), by have := x.2.2; show (A.units + 3) + 16 * n + 32 < 9900; (first | lia | omega)⟩
theorem Lvl.hd {n : Nat} {A : Around} (x : Lvl n A) : A.handled = none := x.1
theorem Lvl.room {n : Nat} {A : Around} (x : Lvl n A) : A.depth < recursionLimit := by show A.depth < 1000; have := x.2.1; (first | lia | omega)
theorem Lvl.units {n : Nat} {A : Around} (x : Lvl n A) : A.units < cLine := by show A.units < 9900; have := x.2.2; (first | lia | omega)

/-! static facts -/
inductive GV where
  | none | fn (a : Addr) | av (v : AV)
noncomputable def GV.Is : GV → Option Value → Prop
  | .none, o => o = .none
  | .fn a, o => o = some (.ref a)
  | .av v, o => ∃ r, o = some r ∧ Rel {} v r

structure FnRec where
  params : Arguments
  body : List Stmt
  scope : Scope
  qual : Str
  closure : List (Str × Addr)
  code : Addr
  dflt : Value

/-- a def of the text stands at a -/
noncomputable def FnAt (h : Heap) (a : Addr) (f : FnRec) : Prop :=
  ∃ o fd, h.get? a = some o ∧ o.data = .func fd ∧ fd.params = f.params ∧ fd.body = .stmts f.body ∧ fd.scope = f.scope ∧ fd.qualname = f.qual ∧ fd.closure = f.closure ∧
    fd.globals = mainGlobals ∧ fd.builtins = builtinsNs ∧ fd.code = .ref f.code ∧ fd.defaults = f.dflt ∧ ∃ co vs t, h.get? f.code = some co ∧ co.data = .fields vs ∧ vs[1]? = some (.str f.qual t)
/-- the text's own objects, which stay -/
noncomputable def tabs : List Addr := [63, 70]
noncomputable def Low (b : Addr) : Prop := b < 170 ∧ b ∉ tabs
theorem FnAt.keeps {h h' : Heap} {a : Addr} {f : FnRec} (x : FnAt h a f) (la : Low a) (lc : Low f.code) (hk : ∀ b o, Low b → h.get? b = some o → h'.get? b = some o) : FnAt h' a f := by
  obtain ⟨o, fd, e, d, p1, p2, p3, p4, p5, p6, p7, p8, p9, co, vs, t, c1, c2, c3⟩ := x
  exact ⟨o, fd, hk _ _ la e, d, p1, p2, p3, p4, p5, p6, p7, p8, p9, co, vs, t, hk _ _ lc c1, c2, c3⟩

structure Cx where
  prog : Program
  w : World
  globs : List (Str × GV)
  blts : List (Str × Value)
  fns : List (Addr × FnRec)
  frag : Frag

theorem frag_mem {a : Addr} {o : Obj} : ∀ {l : Frag}, l.lookup a = some o → (a, o) ∈ l
  | (k, v) :: r, h => by
    rw [List.lookup_cons] at h
    cases hb : a == k with
    | true => rw [hb] at h; cases h; rw [beq_iff_eq.mp hb]; exact List.mem_cons_self
    | false => rw [hb] at h; exact List.mem_cons_of_mem _ (frag_mem h)
/-- the tables of codes -/
noncomputable def Tb (h : Heap) (c P : Addr) (ps : Array Value) : Prop := h.IsCode c P ps ∧ h.TableAt c P ps
noncomputable def TabOk (h : Heap) : Prop := (∃ ps, Tb h 67 63 ps) ∧ ∃ ps, Tb h 74 70 ps
theorem tb_step {h h' : Heap} {c P : Addr} {ps : Array Value} (x : Tb h c P ps) (hk : ∀ o, (h.get? c = some o → h'.get? c = some o) ∧ (h.get? P = some o → h'.get? P = some o)) : Tb h' c P ps := by
  obtain ⟨⟨o2, vs2, a2, _⟩, t⟩ := x.2
  have e1 : h'.get? c = h.get? c := ((hk _).1 a2).trans a2.symm
  have e2 : h'.get? P = h.get? P := ((hk _).2 t).trans t.symm
  unfold Tb Heap.IsCode Heap.TableAt at x ⊢
  rw [e1, e2]
  exact x
theorem TabOk.step {h h' : Heap} (x : TabOk h) (hk : ∀ b o, b < 170 → h.get? b = some o → h'.get? b = some o) : TabOk h' :=
  ⟨let ⟨ps, y⟩ := x.1; ⟨ps, tb_step y fun o => ⟨hk _ o (by decide), hk _ o (by decide)⟩⟩, let ⟨ps, y⟩ := x.2; ⟨ps, tb_step y fun o => ⟨hk _ o (by decide), hk _ o (by decide)⟩⟩⟩
structure Pg (C : Cx) (h : Heap) : Prop where
  g : ∃ mg, h.Ns mainGlobals mg ∧ ∀ p ∈ C.globs, p.2.Is (mg p.1)
  b : ∃ mb, h.Ns builtinsNs mb ∧ ∀ p ∈ C.blts, mb p.1 = some p.2
  lim : h.NoLimit
  fn : ∀ p ∈ C.fns, FnAt h p.1 p.2
  low : ∀ p ∈ C.fns, Low p.1 ∧ Low p.2.code
  top : ∃ o, h.get? 169 = some o
  fr : C.frag.In h
  frlow : ∀ p ∈ C.frag, Low p.1
  tab : TabOk h
  bm : ∃ mg bm ob, BMod h mainGlobals mg bm ob ∧ Low bm
theorem Pg.size {C : Cx} {h : Heap} (x : Pg C h) : 170 ≤ h.objs.size := let ⟨o, e⟩ := x.top; Heap.lt_size e
theorem ns_step {h h' : Heap} {a : Addr} {m : Str → Option Value} (n : h.Ns a m) (la : Low a) (hk : ∀ b o, Low b → h.get? b = some o → h'.get? b = some o) : h'.Ns a m :=
  let ⟨o, es, ep, e, r⟩ := n; ⟨o, es, ep, hk _ _ la e, r⟩
theorem Pg.stepT {C : Cx} {h h' : Heap} (x : Pg C h) (hk : ∀ b o, Low b → h.get? b = some o → h'.get? b = some o) (ht : TabOk h') : Pg C h' :=
  ⟨let ⟨m, n, r⟩ := x.g; ⟨m, ns_step n ⟨by decide, by decide⟩ hk, r⟩, let ⟨m, n, r⟩ := x.b; ⟨m, ns_step n ⟨by decide, by decide⟩ hk, r⟩, let ⟨m, n, r⟩ := x.lim; ⟨m, ns_step n ⟨by decide, by decide⟩ hk, r⟩,
    fun p hp => (x.fn p hp).keeps (x.low p hp).1 (x.low p hp).2 hk, x.low, let ⟨o, e⟩ := x.top; ⟨o, hk 169 o ⟨by decide, by decide⟩ e⟩,
    fun a o e => hk a o (x.frlow _ (frag_mem e)) (x.fr a o e), x.frlow, ht,
    let ⟨mg, bm, ob, y, lb⟩ := x.bm; ⟨mg, bm, ob, ⟨ns_step y.ns ⟨by decide, by decide⟩ hk, y.name, y.ne, hk _ _ lb y.obj, y.cls, y.dict, y.data⟩, lb⟩⟩
theorem Pg.step {C : Cx} {h h' : Heap} (x : Pg C h) (hk : ∀ b o, b < 170 → h.get? b = some o → h'.get? b = some o) : Pg C h' := x.stepT (fun b o lb e => hk b o lb.1 e) (x.tab.step hk)
theorem Pg.keeps {C : Cx} {h h' : Heap} (x : Pg C h) (hk : ∀ b o, h.get? b = some o → h'.get? b = some o) : Pg C h' := x.step fun b o _ e => hk b o e

/-! variables -/
noncomputable abbrev Vars := List (Str × Bool)
noncomputable def VarIs (h : Heap) (env : Env) (x : Str) (c : Bool) (r : Value) : Prop :=
  match c with
  | false => env.kindOf x = some .local ∧ ∃ m, h.Ns env.locals m ∧ m x = some r
  | true => (env.kindOf x = some .cell ∨ env.kindOf x = some .free) ∧ ∃ a, env.cells.lookup x = some a ∧ h.IsCell a (some r)
theorem VarIs.keeps {h h' : Heap} {env : Env} {x : Str} {c : Bool} {r : Value} (v : VarIs h env x c r) (hk : ∀ b o, h.get? b = some o → h'.get? b = some o) : VarIs h' env x c r := by
  cases c with
  | false => obtain ⟨k, m, n, e⟩ := v; exact ⟨k, m, n.keeps hk, e⟩
  | true => obtain ⟨k, a, e, n⟩ := v; exact ⟨k, a, e, n.keeps hk⟩
noncomputable def Loc (h : Heap) (env : Env) (vars : Vars) (σ : List (Option AV)) : Prop :=
  ∀ (i : Nat) x c v, vars[i]? = some (x, c) → σ[i]? = some (some v) → ∃ r, VarIs h env x c r ∧ Rel h v r
theorem Loc.keeps {h h' : Heap} {env : Env} {vars : Vars} {σ : List (Option AV)} (x : Loc h env vars σ) (hk : ∀ b o, h.get? b = some o → h'.get? b = some o) : Loc h' env vars σ :=
  fun i y c v e1 e2 => let ⟨r, a, b⟩ := x i y c v e1 e2; ⟨r, a.keeps hk, b.keeps hk⟩

structure EnvOk (names : List (Str × NameKind)) (env : Env) : Prop where
  kind : env.scope.kind = .function
  names : env.scope.names = names
  globals : env.globals = mainGlobals
  builtins : env.builtins = builtinsNs
theorem EnvOk.kindOf {names : List (Str × NameKind)} {env : Env} (x : EnvOk names env) (n : Str) : env.kindOf n = names.lookup n := by
  show env.scope.names.lookup n = _; rw [x.names]

/-- a variable's value, found by place -/
inductive At : Vars → List (Option AV) → Str → Bool → AV → Prop where
  | here {vs σ x c v} : At ((x, c) :: vs) (some v :: σ) x c v
  | there {vs σ x c v p o} : At vs σ x c v → At (p :: vs) (o :: σ) x c v
theorem At.get {vars : Vars} {σ : List (Option AV)} {x : Str} {c : Bool} {v : AV} (a : At vars σ x c v) : ∃ (i : Nat), vars[i]? = some (x, c) ∧ σ[i]? = some (some v) := by
  induction a with
  | @here vs σ x c v => exact ⟨0, rfl, rfl⟩
  | there _ ih => obtain ⟨i, a, b⟩ := ih; exact ⟨i + 1, by simpa using a, by simpa using b⟩
theorem At.nth {vars : Vars} {σ : List (Option AV)} {x : Str} {c : Bool} {v : AV} (i : Nat) (h1 : vars[i]? = some (x, c)) (h2 : σ[i]? = some (some v)) : At vars σ x c v := by
  induction i generalizing vars σ with
  | zero =>
    cases vars with
    | nil => cases h1
    | cons p vs =>
      cases σ with
      | nil => cases h2
      | cons o σ => cases h1; cases h2; exact .here
  | succ i ih =>
    cases vars with
    | nil => cases h1
    | cons p vs =>
      cases σ with
      | nil => cases h2
      | cons o σ => exact .there (ih h1 h2)

noncomputable abbrev bot : Value → Shared → Prop := fun _ _ => False

/-- a quiet expression: its value, and nothing old is touched -/
structure QE (C : Cx) (n : Nat) (names : List (Str × NameKind)) (vars : Vars) (σ : List (Option AV)) (e : Expr) (v : AV) : Prop where
  run : ∀ (env : Env) (A : Around) (s : Shared), EnvOk names env → Lvl n A → Pg C s.heap → Loc s.heap env vars σ →
    wpAny (model C.prog C.w) A (eval e env) (fun r s' => Rel s'.heap v r ∧ Kp s s') bot s
/-- a quiet test -/
structure QB (C : Cx) (n : Nat) (names : List (Str × NameKind)) (vars : Vars) (σ : List (Option AV)) (e : Expr) (b : Bool) : Prop where
  run : ∀ (env : Env) (A : Around) (s : Shared), EnvOk names env → Lvl n A → Pg C s.heap → Loc s.heap env vars σ →
    wpAny (model C.prog C.w) A (isTrue e env (eval e env)) (fun r s' => r = b ∧ Kp s s') bot s
/-- quiet operations upon values -/
noncomputable def OpOk (C : Cx) (n : Nat) (op : Value → Value → Sem Value) (a b v : AV) : Prop :=
  ∀ (A : Around) (s : Shared) (x y : Value), Lvl n A → Pg C s.heap → Rel s.heap a x → Rel s.heap b y → wpAny (model C.prog C.w) A (op x y) (fun r s' => Rel s'.heap v r ∧ Kp s s') bot s
noncomputable def TruthOk (C : Cx) (n : Nat) (a : AV) (b : Bool) : Prop :=
  ∀ (A : Around) (s : Shared) (x : Value), Lvl n A → Rel s.heap a x → wpAny (model C.prog C.w) A (truthy x) (fun r s' => r = b ∧ Kp s s') bot s

section
variable {C : Cx} {n : Nat} {names : List (Str × NameKind)} {vars : Vars} {σ : List (Option AV)}

theorem wp_post {α : Type} {M : Model} {A : Around} {t : Sem α} {s : Shared} {Q Q' : α → Shared → Prop} (h : wpAny M A t Q bot s) (hQ : ∀ a s', Q a s' → Q' a s') : wpAny M A t Q' bot s :=
  wpAny_mono h hQ fun _ _ x => x

theorem QE.eqv {e : Expr} {v v' : AV} (x : QE C n names vars σ e v) (h : v = v') : QE C n names vars σ e v' := h ▸ x
theorem QB.eqv {e : Expr} {v v' : Bool} (x : QB C n names vars σ e v) (h : v = v') : QB C n names vars σ e v' := h ▸ x

theorem QE.int {i : Int} {k : Nat} {pos : Pos} : QE C n names vars σ (.Constant (.int i) k pos) (.int i) := .mk fun _ _ s _ _ _ _ =>
  wpAny_Constant_int ⟨.int _ _, Kp.tok s _⟩
theorem QE.flt {x : UInt64} {k : Nat} {pos : Pos} : QE C n names vars σ (.Constant (.float x) k pos) (.flt x) := .mk fun _ _ s _ _ _ _ =>
  wpAny_Constant_float ⟨.flt _ _, Kp.tok s _⟩
theorem QE.strc {x : Str} {k : Nat} {pos : Pos} : QE C n names vars σ (.Constant (.str x) k pos) (.str x) := .mk fun _ _ s _ _ _ _ =>
  wpAny_Constant_str ⟨.str _ _, Kp.tok s _⟩
theorem QE.nonec {k : Nat} {pos : Pos} : QE C n names vars σ (.Constant .none k pos) .none := .mk fun _ _ s _ _ _ _ =>
  wpAny_Constant_none ⟨.none, Kp.rfl' s⟩
theorem QE.boolc {b : Bool} {k : Nat} {pos : Pos} : QE C n names vars σ (.Constant (.bool b) k pos) (.bool b) := .mk fun _ _ s _ _ _ _ =>
  wpAny_Constant_bool ⟨.bool b, Kp.rfl' s⟩

theorem load_var {env : Env} {A : Around} {s : Shared} {x : Str} {c : Bool} {r : Value} {M : Model} {E : Value → Shared → Prop} {Q : Value → Shared → Prop} (hk : env.scope.kind = .function) (v : VarIs s.heap env x c r) (hc : (x == ("__classdict__" : Str)) = false) (h : Q r s) :
    wpAny M A (loadName env x) Q E s := by
  cases c with
  | false => obtain ⟨k, m, ns, e⟩ := v; exact wpAny_loadName_local hk k ns e h
  | true =>
    obtain ⟨k, a, e, ce⟩ := v
    rcases k with k | k
    · exact wpAny_loadName_cell hk k e ce h
    · exact wpAny_loadName_free hk k e ce h hc

theorem QE.name {x : Str} {pos : Pos} {c : Bool} {v : AV} (a : At vars σ x c v) (hd : ((x == ("__debug__" : Str)) || (x == ("__classdict__" : Str))) = false) : QE C n names vars σ (.Name x pos) v := .mk fun env A s E _ _ L => by
  obtain ⟨i, e1, e2⟩ := a.get
  obtain ⟨r, hv, hr⟩ := L i x c v e1 e2
  obtain ⟨h1, h2⟩ := Bool.or_eq_false_iff.mp hd
  exact wpAny_Name (load_var E.kind hv h2 ⟨hr, Kp.rfl' s⟩) h1

theorem load_global {env : Env} {A : Around} {s : Shared} {x : Str} {v : AV} {M : Model} {E : Value → Shared → Prop} {Q : Value → Shared → Prop} (Eo : EnvOk names env) (P : Pg C s.heap) (hk : names.lookup x = some .globalImplicit) (hg : (x, GV.av v) ∈ C.globs) (h : ∀ r, Rel s.heap v r → Q r s) :
    wpAny M A (loadName env x) Q E s := by
  obtain ⟨mg, ns, r⟩ := P.g
  obtain ⟨y, e, hr⟩ := r _ hg
  refine ks_loadName_global Eo.kind (by rw [Eo.kindOf]; exact hk) (loadGlobal_global (mg := mg) (by rw [Eo.globals]; exact ns) e (h y ?_))
  exact hr.mono fun b o _ e => by simp [Heap.get?] at e
theorem load_gfn {env : Env} {A : Around} {s : Shared} {x : Str} {a : Addr} {M : Model} {E : Value → Shared → Prop} {Q : Value → Shared → Prop} (Eo : EnvOk names env) (P : Pg C s.heap) (hk : names.lookup x = some .globalImplicit) (hg : (x, GV.fn a) ∈ C.globs) (h : Q (.ref a) s) :
    wpAny M A (loadName env x) Q E s := by
  obtain ⟨mg, ns, r⟩ := P.g
  exact ks_loadName_global Eo.kind (by rw [Eo.kindOf]; exact hk) (loadGlobal_global (mg := mg) (by rw [Eo.globals]; exact ns) (r _ hg) h)
theorem load_blt {env : Env} {A : Around} {s : Shared} {x : Str} {v : Value} {M : Model} {E : Value → Shared → Prop} {Q : Value → Shared → Prop} (Eo : EnvOk names env) (P : Pg C s.heap) (hk : names.lookup x = some .globalImplicit) (hg : (x, GV.none) ∈ C.globs) (hb : (x, v) ∈ C.blts) (h : Q v s) :
    wpAny M A (loadName env x) Q E s := by
  obtain ⟨mg, ns, r⟩ := P.g
  obtain ⟨mb, nb, rb⟩ := P.b
  exact ks_loadName_global Eo.kind (by rw [Eo.kindOf]; exact hk) (loadGlobal_builtin (mg := mg) (mb := mb) (by rw [Eo.globals]; exact ns) (r _ hg) (by rw [Eo.builtins]; exact nb) (rb _ hb) h)

theorem QE.glob {x : Str} {pos : Pos} {v : AV} (hk : names.lookup x = some .globalImplicit) (hg : (x, GV.av v) ∈ C.globs) (hd : (x == ("__debug__" : Str)) = false) : QE C n names vars σ (.Name x pos) v := .mk fun env A s E _ P L =>
  wpAny_Name (load_global E P hk hg fun r hr => ⟨hr, Kp.rfl' s⟩) hd

theorem QE.bin {l r : Expr} {op : Operator} {pos : Pos} {a b v : AV} (hl : QE C n names vars σ l a) (hr : QE C n names vars σ r b) (ho : OpOk C n (binaryOp op) a b v) : QE C n names vars σ (.BinOp l op r pos) v := .mk fun env A s E R P L =>
  wpAny_BinOp (wp_post (hl.run env A s E R P L) fun x s₁ ⟨r1, k1⟩ => wp_post (hr.run env A s₁ E R (P.keeps k1.heap) (L.keeps k1.heap)) fun y s₂ ⟨r2, k2⟩ =>
    wp_post (ho A s₂ x y R ((P.keeps k1.heap).keeps k2.heap) (r1.keeps k2.heap) r2) fun z s₃ ⟨r3, k3⟩ => ⟨r3, (k1.trans' k2).trans' k3⟩)
theorem QE.cmp {l r : Expr} {op : CmpOp} {pos : Pos} {a b v : AV} (hl : QE C n names vars σ l a) (hr : QE C n names vars σ r b) (ho : OpOk C n (compareOp op) a b v) (hm : behindInMarks op r = false := by with_unfolding_all rfl) : QE C n names vars σ (.Compare l [op] [r] pos) v := .mk fun env A s E R P L =>
  wpAny_Compare1 (wp_post (hl.run env A s E R P L) fun x s₁ ⟨r1, k1⟩ => wp_post (hr.run env A s₁ E R (P.keeps k1.heap) (L.keeps k1.heap)) fun y s₂ ⟨r2, k2⟩ =>
    wp_post (ho A s₂ x y R ((P.keeps k1.heap).keeps k2.heap) (r1.keeps k2.heap) r2) fun z s₃ ⟨r3, k3⟩ => ⟨r3, (k1.trans' k2).trans' k3⟩) hm
theorem QB.cmp {l r : Expr} {op : CmpOp} {pos : Pos} {a b : AV} {v : Bool} (hl : QE C n names vars σ l a) (hr : QE C n names vars σ r b) (ho : OpOk C n (compareOp op) a b (.bool v)) (hm : behindInMarks op r = false := by with_unfolding_all rfl) : QB C n names vars σ (.Compare l [op] [r] pos) v := .mk fun env A s E R P L =>
  wpAny_isTrue_Compare1 (wp_post (hl.run env A s E R P L) fun x s₁ ⟨r1, k1⟩ => wp_post (hr.run env A s₁ E R (P.keeps k1.heap) (L.keeps k1.heap)) fun y s₂ ⟨r2, k2⟩ =>
    wp_post (ho A s₂ x y R ((P.keeps k1.heap).keeps k2.heap) (r1.keeps k2.heap) r2) fun z s₃ ⟨r3, k3⟩ => by
      obtain rfl := r3.bool_eq
      exact wpAny_truthy_bool ⟨rfl, (k1.trans' k2).trans' k3⟩) hm
theorem QB.not {e : Expr} {pos : Pos} {b : Bool} (h : QB C n names vars σ e b) : QB C n names vars σ (.UnaryOp .Not e pos) (!b) := .mk fun env A s E R P L =>
  wpAny_isTrue_Not (wp_post (h.run env A s E R P L) fun r s' ⟨e, k⟩ => ⟨by rw [e], k⟩)
theorem QB.val {e : Expr} {v : AV} {b : Bool} (h : QE C n names vars σ e v) (t : TruthOk C n v b) (he : ∀ env whole, isTrue e env whole = (do let v ← whole; standAt e.pos; holding [v] (truthy v)) := by intro _ _; rfl) : QB C n names vars σ e b := .mk fun env A s E R P L =>
  wpAny_isTrue_value (wp_post (h.run env A s E R P L) fun x s₁ ⟨r1, k1⟩ => wp_post (t A s₁ x R r1) fun y s₂ ⟨r2, k2⟩ => ⟨r2, k1.trans' k2⟩) (he env _)

/-- a run of tests -/
structure QT (C : Cx) (n : Nat) (names : List (Str × NameKind)) (vars : Vars) (σ : List (Option AV)) (op : BoolOp) (es : List Expr) (b : Bool) : Prop where
  run : ∀ (env : Env) (A : Around) (s : Shared), EnvOk names env → Lvl n A → Pg C s.heap → Loc s.heap env vars σ →
    wpAny (model C.prog C.w) A (allTrue op es env) (fun r s' => r = b ∧ Kp s s') bot s
theorem QT.and_nil : QT C n names vars σ .And [] true := .mk fun _ _ s _ _ _ _ => wpAny_allTrue_And_nil ⟨rfl, Kp.rfl' s⟩
theorem QT.or_nil : QT C n names vars σ .Or [] false := .mk fun _ _ s _ _ _ _ => wpAny_allTrue_Or_nil ⟨rfl, Kp.rfl' s⟩
theorem QT.and_cons {x : Expr} {rest : List Expr} {a b : Bool} (h : QB C n names vars σ x a) (hr : a = true → QT C n names vars σ .And rest b) : QT C n names vars σ .And (x :: rest) (a && b) := .mk fun env A s E R P L =>
  wpAny_allTrue_And_cons (wp_post (h.run env A s E R P L) fun y s₁ ⟨e, k⟩ => by
    subst e
    cases y with
    | true => rw [if_pos rfl]; exact wp_post ((hr rfl).run env A s₁ E R (P.keeps k.heap) (L.keeps k.heap)) fun z s₂ ⟨e2, k2⟩ => ⟨by rw [e2]; rfl, k.trans' k2⟩
    | false => rw [if_neg Bool.false_ne_true]; exact ⟨rfl, k⟩)
theorem QT.or_cons {x : Expr} {rest : List Expr} {a b : Bool} (h : QB C n names vars σ x a) (hr : a = false → QT C n names vars σ .Or rest b) : QT C n names vars σ .Or (x :: rest) (a || b) := .mk fun env A s E R P L =>
  wpAny_allTrue_Or_cons (wp_post (h.run env A s E R P L) fun y s₁ ⟨e, k⟩ => by
    subst e
    cases y with
    | false => rw [if_neg Bool.false_ne_true]; exact wp_post ((hr rfl).run env A s₁ E R (P.keeps k.heap) (L.keeps k.heap)) fun z s₂ ⟨e2, k2⟩ => ⟨by rw [e2]; rfl, k.trans' k2⟩
    | true => rw [if_pos rfl]; exact ⟨rfl, k⟩)
theorem QB.boolop {op : BoolOp} {es : List Expr} {pos : Pos} {b : Bool} (h : QT C n names vars σ op es b) : QB C n names vars σ (.BoolOp op es pos) b := .mk fun env A s E R P L => wpAny_isTrue_BoolOp (h.run env A s E R P L)

theorem QE.ifexp {t x y : Expr} {pos : Pos} {b : Bool} {v : AV} (h : QB C n names vars σ t b) (hx : b = true → QE C n names vars σ x v) (hy : b = false → QE C n names vars σ y v) : QE C n names vars σ (.IfExp t x y pos) v := .mk fun env A s E R P L =>
  wpAny_IfExp (wp_post (h.run env A s E R P L) fun z s₁ ⟨e, k⟩ => by
    subst e
    cases z with
    | true => rw [if_pos rfl]; exact wp_post ((hx rfl).run env A s₁ E R (P.keeps k.heap) (L.keeps k.heap)) fun z s₂ ⟨e2, k2⟩ => ⟨e2, k.trans' k2⟩
    | false => rw [if_neg Bool.false_ne_true]; exact wp_post ((hy rfl).run env A s₁ E R (P.keeps k.heap) (L.keeps k.heap)) fun z s₂ ⟨e2, k2⟩ => ⟨e2, k.trans' k2⟩)
/-- value forms of and, or: «x or y» -/
theorem QE.or2 {x y : Expr} {pos : Pos} {a v : AV} {b : Bool} (h : QE C n names vars σ x a) (t : TruthOk C n a b) (hx : b = true → v = a) (hy : b = false → QE C n names vars σ y v) : QE C n names vars σ (.BoolOp .Or [x, y] pos) v := .mk fun env A s E R P L =>
  wpAny_Or2 (wp_post (h.run env A s E R P L) fun z s₁ ⟨e, k⟩ => wp_post (t A s₁ z R e) fun c s₂ ⟨e2, k2⟩ => by
    subst e2
    cases c with
    | true => rw [if_pos rfl]; exact ⟨hx rfl ▸ e.keeps k2.heap, k.trans' k2⟩
    | false => rw [if_neg Bool.false_ne_true]; exact wp_post ((hy rfl).run env A s₂ E R ((P.keeps k.heap).keeps k2.heap) ((L.keeps k.heap).keeps k2.heap)) fun z s₂ ⟨e3, k3⟩ => ⟨e3, (k.trans' k2).trans' k3⟩)
theorem QE.and2 {x y : Expr} {pos : Pos} {a v : AV} {b : Bool} (h : QE C n names vars σ x a) (t : TruthOk C n a b) (hx : b = false → v = a) (hy : b = true → QE C n names vars σ y v) : QE C n names vars σ (.BoolOp .And [x, y] pos) v := .mk fun env A s E R P L =>
  wpAny_And2 (wp_post (h.run env A s E R P L) fun z s₁ ⟨e, k⟩ => wp_post (t A s₁ z R e) fun c s₂ ⟨e2, k2⟩ => by
    subst e2
    cases c with
    | false => rw [if_neg Bool.false_ne_true]; exact ⟨hx rfl ▸ e.keeps k2.heap, k.trans' k2⟩
    | true => rw [if_pos rfl]; exact wp_post ((hy rfl).run env A s₂ E R ((P.keeps k.heap).keeps k2.heap) ((L.keeps k.heap).keeps k2.heap)) fun z s₂ ⟨e3, k3⟩ => ⟨e3, (k.trans' k2).trans' k3⟩)

/-- several expressions in a row -/
inductive QEs (C : Cx) (n : Nat) (names : List (Str × NameKind)) (vars : Vars) (σ : List (Option AV)) : List Expr → List AV → Prop where
  | nil : QEs C n names vars σ [] []
  | cons {e es v vs} : QE C n names vars σ e v → QEs C n names vars σ es vs → (∀ env, starEach (e :: es) env = (false, eval e env) :: starEach es env) → QEs C n names vars σ (e :: es) (v :: vs)
theorem QEs.spliced {es : List Expr} {vs : List AV} (h : QEs C n names vars σ es vs) : ∀ (pos : Pos) (env : Env) (A : Around) (s : Shared), EnvOk names env → Lvl n A → Pg C s.heap → Loc s.heap env vars σ →
    wpAny (model C.prog C.w) A (spliced (backTo pos (starEach es env))) (fun rs s' => RelAll s'.heap vs rs ∧ Kp s s') bot s := by
  induction h with
  | nil => intro pos env A s _ _ _ _; exact spliced_none ⟨.nil, Kp.rfl' s⟩
  | cons h1 _ h3 ih =>
    intro pos env A s E R P L
    refine spliced_more (wp_post (h1.run env A s E R P L) fun x s₁ ⟨r1, k1⟩ => ?_) (h3 env)
    exact wp_post (ih pos env A s₁ E R (P.keeps k1.heap) (L.keeps k1.heap)) fun xs s₂ ⟨r2, k2⟩ => ⟨.cons (r1.keeps k2.heap) r2, k1.trans' k2⟩
theorem isTuple_push (h : Heap) (vs : List Value) : (h.push { cls := .type "tuple", data := .seq vs.toArray }).IsTuple h.objs.size vs.toArray := ⟨_, Heap.get?_push_size _ rfl, rfl, _, rfl⟩
theorem isList_push (h : Heap) (vs : List Value) : (h.push { cls := .type "list", data := .seq vs.toArray }).IsList h.objs.size vs.toArray := ⟨_, Heap.get?_push_size _ rfl, rfl, _, rfl⟩
theorem QE.tuple {es : List Expr} {vs : List AV} {k : Nat} {pos : Pos} (h : QEs C n names vars σ es vs) (hn : vs.length ≤ 1000 := by decide) : QE C n names vars σ (.Tuple es k pos) (.tup vs) := .mk fun env A s E R P L =>
  wpAny_Tuple (wp_post (h.spliced pos env A s E R P L) fun xs s₁ ⟨r, k⟩ => ⟨by rw [← r.length]; exact Nat.le_trans hn (by decide), .tup' (isTuple_push _ _) (r.keeps (Kp.push s₁ _).heap), k.trans' (Kp.push _ _)⟩)
theorem QE.list {es : List Expr} {vs : List AV} {pos : Pos} (h : QEs C n names vars σ es vs) (hn : vs.length ≤ 1000 := by decide) : QE C n names vars σ (.List es pos) (.lst vs) := .mk fun env A s E R P L =>
  wpAny_List (wp_post (h.spliced pos env A s E R P L) fun xs s₁ ⟨r, k⟩ => ⟨by rw [← r.length]; exact Nat.le_trans hn (by decide), .lst' (isList_push _ _) (r.keeps (Kp.push s₁ _).heap), k.trans' (Kp.push _ _)⟩)
end
end Mine
end

noncomputable section
open PySem PySem.Calls PyProof.Rows PySem.W
set_option Elab.async false
set_option linter.unusedVariables false
namespace Mine
section
variable {C : Cx} {n : Nat}

/-! ints -/
theorem op_int {op : Value → Value → Sem Value} {a b v : Int}
    (h : ∀ (A : Around) (s : Shared) (t u : Tok) (Q : Value → Shared → Prop), Q (.int v s.toks) { s with toks := s.toks + 1 } → wpAny (model C.prog C.w) A (op (.int a t) (.int b u)) Q bot s) : OpOk C n op (.int a) (.int b) (.int v) := fun A s x y _ _ rx ry => by
  refine rx.elim_int fun t => ry.elim_int fun u => ?_
  exact h A s _ _ _ ⟨.int _ _, Kp.tok s _⟩
theorem op_cmp {op : Value → Value → Sem Value} {a b : Int} {v : Bool}
    (h : ∀ (A : Around) (s : Shared) (t u : Tok) (Q : Value → Shared → Prop), Q (.bool v) s → wpAny (model C.prog C.w) A (op (.int a t) (.int b u)) Q bot s) : OpOk C n op (.int a) (.int b) (.bool v) := fun A s x y _ _ rx ry => by
  refine rx.elim_int fun t => ry.elim_int fun u => ?_
  exact h A s _ _ _ ⟨.bool _, Kp.rfl' s⟩
theorem addI {a b : Int} : OpOk C n (binaryOp .Add) (.int a) (.int b) (.int (a + b)) := op_int fun _ _ _ _ _ h => by with_reducible exact PyProof.Rows.add_int h
theorem subI {a b : Int} : OpOk C n (binaryOp .Sub) (.int a) (.int b) (.int (a - b)) := op_int fun _ _ _ _ _ h => by with_reducible exact PyProof.Rows.sub_int h
theorem mulI {a b : Int} (hm : IntMulOk a b) : OpOk C n (binaryOp .Mult) (.int a) (.int b) (.int (a * b)) := op_int fun _ _ _ _ _ h => by with_reducible exact PyProof.Rows.mul_int h hm
theorem modI {a b : Int} (hb : b ≠ 0) : OpOk C n (binaryOp .Mod) (.int a) (.int b) (.int (a.fmod b)) := op_int fun _ _ _ _ _ h => by with_reducible exact mod_int' hb h
theorem fdivI {a b : Int} (hb : b ≠ 0) (hp : Builtin.divisionGoesByPylong a b = false) : OpOk C n (binaryOp .FloorDiv) (.int a) (.int b) (.int (a.fdiv b)) := op_int fun _ _ _ _ _ h => by with_reducible exact floordiv_int hb h (.inl hp)
theorem ltI {a b : Int} : OpOk C n (compareOp .Lt) (.int a) (.int b) (.bool (decide (a < b))) := op_cmp fun _ _ _ _ _ h => by with_reducible exact PyProof.Rows.lt_int h
theorem gtI {a b : Int} : OpOk C n (compareOp .Gt) (.int a) (.int b) (.bool (decide (b < a))) := op_cmp fun _ _ _ _ _ h => by with_reducible exact PyProof.Rows.gt_int h
theorem eqI {a b : Int} : OpOk C n (compareOp .Eq) (.int a) (.int b) (.bool (a == b)) := op_cmp fun _ _ _ _ _ h => by with_reducible exact PyProof.Rows.eq_int h
theorem neI {a b : Int} : OpOk C n (compareOp .NotEq) (.int a) (.int b) (.bool (a != b)) := op_cmp fun _ _ _ _ _ h => by with_reducible exact PyProof.Rows.ne_int h

/-! floats -/
theorem op_flt {op : Value → Value → Sem Value} {a b v : UInt64}
    (h : ∀ (A : Around) (s : Shared) (t u : Tok) (Q : Value → Shared → Prop), Q (.float v s.toks) { s with toks := s.toks + 1 } → wpAny (model C.prog C.w) A (op (.float a t) (.float b u)) Q bot s) : OpOk C n op (.flt a) (.flt b) (.flt v) := fun A s x y _ _ rx ry => by
  refine rx.elim_flt fun t => ry.elim_flt fun u => ?_
  exact h A s _ _ _ ⟨.flt _ _, Kp.tok s _⟩
theorem op_fcmp {op : Value → Value → Sem Value} {a b : UInt64} {v : Bool}
    (h : ∀ (A : Around) (s : Shared) (t u : Tok) (Q : Value → Shared → Prop), Q (.bool v) s → wpAny (model C.prog C.w) A (op (.float a t) (.float b u)) Q bot s) : OpOk C n op (.flt a) (.flt b) (.bool v) := fun A s x y _ _ rx ry => by
  refine rx.elim_flt fun t => ry.elim_flt fun u => ?_
  exact h A s _ _ _ ⟨.bool _, Kp.rfl' s⟩
theorem addF {a b : UInt64} : OpOk C n (binaryOp .Add) (.flt a) (.flt b) (.flt (Float64.add a b)) := op_flt fun _ _ _ _ _ h => by with_reducible exact PyProof.Rows.add_float h
theorem subF {a b : UInt64} : OpOk C n (binaryOp .Sub) (.flt a) (.flt b) (.flt (Float64.sub a b)) := op_flt fun _ _ _ _ _ h => by with_reducible exact PyProof.Rows.sub_float h
theorem mulF {a b : UInt64} : OpOk C n (binaryOp .Mult) (.flt a) (.flt b) (.flt (Float64.mul a b)) := op_flt fun _ _ _ _ _ h => by with_reducible exact PyProof.Rows.mul_float h
theorem divF {a b : UInt64} (hb : ¬ Float64.isZero b = true) : OpOk C n (binaryOp .Div) (.flt a) (.flt b) (.flt (Float64.div a b)) := op_flt fun _ _ _ _ _ h => by (with_reducible refine AutoFloatOps.truediv_1 hb ?_); exact h
theorem modF {a b : UInt64} (hb : ¬ Float64.isZero b = true) : OpOk C n (binaryOp .Mod) (.flt a) (.flt b) (.flt (Float64.divmod a b).2) := op_flt fun _ _ _ _ _ h => by (with_reducible refine AutoFloatOps.mod_1 hb ?_); exact h
theorem ltF {a b : UInt64} : OpOk C n (compareOp .Lt) (.flt a) (.flt b) (.bool (Float64.cmp a b == some Ordering.lt)) := op_fcmp fun _ _ _ _ _ h => by with_reducible exact AutoFloatOps.lt_0 h
theorem leF {a b : UInt64} : OpOk C n (compareOp .LtE) (.flt a) (.flt b) (.bool (Float64.cmp a b == some Ordering.lt || Float64.cmp a b == some Ordering.eq)) := op_fcmp fun _ _ _ _ _ h => by with_reducible exact AutoFloatOps.le_0 h
theorem eqF {a b : UInt64} : OpOk C n (compareOp .Eq) (.flt a) (.flt b) (.bool (Float64.cmp a b == some Ordering.eq)) := op_fcmp fun _ _ _ _ _ h => by with_reducible exact AutoFloatOps.eq_0 h
theorem neF {a b : UInt64} : OpOk C n (compareOp .NotEq) (.flt a) (.flt b) (.bool (Float64.cmp a b != some Ordering.eq)) := op_fcmp fun _ _ _ _ _ h => by with_reducible exact AutoFloatOps.ne_0 h
/-- int / int -/
theorem divI {a b : Int} (hb : b ≠ 0) (hi : ¬ Float64.isInf (Float64.ofFrac (decide (a < 0) != decide (b < 0)) a.natAbs b.natAbs) = true) :
    OpOk C n (binaryOp .Div) (.int a) (.int b) (.flt (Float64.ofFrac (decide (a < 0) != decide (b < 0)) a.natAbs b.natAbs)) := fun A s x y _ _ rx ry => by
  refine rx.elim_int fun t => ry.elim_int fun u => ?_
  with_reducible refine AutoIntOps.truediv_2 (by simpa using hb) hi ?_
  exact ⟨.flt _ _, Kp.tok s _⟩
/-- int * float -/
theorem mulIF {a : Int} {b : UInt64} (hfit : a.natAbs < 2 ^ 1023) : OpOk C n (binaryOp .Mult) (.int a) (.flt b) (.flt (Float64.mul (Float64.ofInt a) b)) := fun A s x y _ _ rx ry => by
  refine rx.elim_int fun t => ry.elim_flt fun u => ?_
  with_reducible refine mul_if_fits hfit ?_
  exact ⟨.flt _ _, Kp.tok s _⟩

/-! strs -/
theorem op_str {op : Value → Value → Sem Value} {a b v : Str}
    (h : ∀ (A : Around) (s : Shared) (t u : Tok) (Q : Value → Shared → Prop), (∀ t' tk, Q (.str v t') { s with toks := tk }) → wpAny (model C.prog C.w) A (op (.str a t) (.str b u)) Q bot s) : OpOk C n op (.str a) (.str b) (.str v) := fun A s x y _ _ rx ry => by
  refine rx.elim_str fun t => ry.elim_str fun u => ?_
  exact h A s _ _ _ fun t' tk => ⟨.str _ _, Kp.tok s _⟩
theorem addS {a b : Str} (hsz : a.length + b.length ≤ sizeLine) : OpOk C n (binaryOp .Add) (.str a) (.str b) (.str (a ++ b)) := op_str fun _ _ _ _ _ h => by with_reducible exact PyProof.Rows.add_str h hsz

theorem truthI {a : Int} : TruthOk C n (.int a) (a != 0) := fun A s x _ rx => by
  refine rx.elim_int fun t => ?_; exact PyProof.Rows.truthy_int ⟨rfl, Kp.rfl' s⟩
theorem truthB {b : Bool} : TruthOk C n (.bool b) b := fun A s x _ rx => by
  refine rx.elim_bool ?_; exact wpAny_truthy_bool ⟨rfl, Kp.rfl' s⟩
theorem truthS {a : Str} (h : a.length ≤ 1000) : TruthOk C n (.str a) (a.length != 0) := fun A s x _ rx => by
  refine rx.elim_str fun t => ?_
  refine PySem.P.truthy_str (by (first | lia | omega)) ⟨?_, Kp.tok s _⟩
  generalize a.length = k
  cases k <;> rfl
end
end Mine
end

noncomputable section
open PySem PySem.Calls PyProof.Rows PySem.W
set_option Elab.async false
set_option linter.unusedVariables false
namespace Mine
section
variable {C : Cx} {n : Nat} {names : List (Str × NameKind)} {vars : Vars} {σ : List (Option AV)}

/-! subscripts -/
theorem subscripted_any {M : Model} {A : Around} {E : Value → Shared → Prop} {s : Shared} {slice : Expr} {o i : Value} {Q : Value → Shared → Prop} (h : wpAny M A (getItem o i) Q E s) : wpAny M A (subscripted slice false o i) Q E s := by
  unfold subscripted
  split <;> first | exact wpAny_operating h | contradiction

/-- of a built-in type whose __getitem__ is the machine's own -/
noncomputable def GetT (o : Value) (s : Shared) : Prop := ∃ T id, typeLookup (.type T) "__getitem__" = pure (some (.builtin id)) ∧ s.TypeIs o T

theorem wp_subscript {prog : Program} {w : World} {A : Around} {E : Value → Shared → Prop} {s : Shared} {env : Env} {value slice : Expr} {pos : Pos} {Q : Value → Shared → Prop}
    (h : wpAny (model prog w) A (eval value env) (fun o s₁ => wpAny (model prog w) A (eval slice env) (fun i s₂ => GetT o s₂ ∧ wpAny (model prog w) A (getItem o i) Q E s₂) E s₁) E s) :
    wpAny (model prog w) A (eval (.Subscript value slice pos) env) Q E s := by
  rw [eval_Subscript]
  refine wpAny_bind (wpAny_mono h (fun o s₁ h₁ => wpAny_bind (wpAny_holding (wpAny_mono h₁ (fun i s₂ h₂ => wpAny_bind (wpAny_standAt ?_)) fun _ _ x => x))) fun _ _ x => x)
  obtain ⟨⟨T, id, hl, hT⟩, hg⟩ := h₂
  refine wpAny_bind ?_
  rw [getitemInPython_of_ne hT.not_modules]
  refine wpAny_bind (wpAny_specialOf hT hl ?_)
  have fin : wpAny (model prog w) A (subscripted slice false o i) (fun r s₃ => wpAny (model prog w) A (letTemporaryGo value o r >>= fun _ => pure r) Q E s₃) E s₂ :=
    subscripted_any (wpAny_mono hg (fun r s₃ h₃ => wpAny_bind (wpAny_letTemporaryGo (wpAny_pure h₃))) fun _ _ x => x)
  first
    | exact wpAny_pure (wpAny_bind fin)
    | exact wpAny_bind (wpAny_pure (wpAny_bind fin))
    | exact wpAny_bind fin

theorem getT_str (x : Str) (t : Tok) (s : Shared) : GetT (.str x t) s := ⟨"str", _, slot_str_getitem.lookup, typeIs_str s x t⟩
theorem getT_list {a : Addr} {items : Array Value} {s : Shared} (h : s.heap.IsList a items) : GetT (.ref a) s := ⟨"list", _, slot_list_getitem.lookup, h.typeIs⟩
theorem getT_tuple {a : Addr} {items : Array Value} {s : Shared} (h : s.heap.IsTuple a items) : GetT (.ref a) s := ⟨"tuple", _, slot_tuple_getitem.lookup, h.typeIs⟩

noncomputable def GetOk (C : Cx) (n : Nat) (a b v : AV) : Prop :=
  ∀ (A : Around) (s : Shared) (x y : Value), Lvl n A → Rel s.heap a x → Rel s.heap b y → GetT x s ∧ wpAny (model C.prog C.w) A (getItem x y) (fun r s' => Rel s'.heap v r ∧ Kp s s') bot s
theorem QE.sub {value idx : Expr} {pos : Pos} {a b v : AV} (hv : QE C n names vars σ value a) (hi : QE C n names vars σ idx b) (hg : GetOk C n a b v) : QE C n names vars σ (.Subscript value idx pos) v := .mk fun env A s E R P L =>
  wp_subscript (wp_post (hv.run env A s E R P L) fun x s₁ ⟨r1, k1⟩ => wp_post (hi.run env A s₁ E R (P.keeps k1.heap) (L.keeps k1.heap)) fun y s₂ ⟨r2, k2⟩ => by
    obtain ⟨g, h⟩ := hg A s₂ x y R (r1.keeps k2.heap) r2
    exact ⟨g, wp_post h fun z s₃ ⟨r3, k3⟩ => ⟨r3, (k1.trans' k2).trans' k3⟩⟩)
theorem getL {l : List AV} {i : Int} {v : AV} (h0 : 0 ≤ i) (h1 : i < 1000000) (hv : l[i.toNat]? = some v) : GetOk C n (.lst l) (.int i) v := fun A s x y _ rx ry => by
  obtain ⟨u, rfl⟩ := ry.int_ex
  obtain ⟨a, vs, rfl, hl, ra⟩ := rx.lst_inv
  refine ⟨getT_list hl, ?_⟩
  have hlt : i.toNat < vs.length := by rw [← ra.length]; exact (List.getElem?_eq_some_iff.mp hv).1
  have e : vs[i.toNat]? = some vs[i.toNat] := List.getElem?_eq_getElem hlt
  with_reducible refine wpAny_getItem_list hl h0 (by (first | lia | omega)) (by rw [List.getElem?_toArray]; exact e) ?_
  exact ⟨ra.get _ _ _ hv e, Kp.rfl' s⟩
theorem getS {x : Str} {i : Int} {c : Nat} (h0 : -(1000000 : Int) ≤ i) (h1 : i < 1000000) (hc : (seqIndex? i x.length).bind (x.cps[·]?) = some c) : GetOk C n (.str x) (.int i) (.str ⟨#[c]⟩) := fun A s a b _ rx ry => by
  obtain ⟨t, rfl⟩ := rx.str_ex
  obtain ⟨u, rfl⟩ := ry.int_ex
  refine ⟨getT_str _ _ _, ?_⟩
  with_reducible refine PySem.P.getItem_str (by simp; (first | lia | omega)) hc ?_
  exact ⟨.str _ _, Kp.tok s _⟩
theorem getTu {l : List AV} {i : Int} {v : AV} (h0 : 0 ≤ i) (h1 : i < 1000000) (hv : l[i.toNat]? = some v) : GetOk C n (.tup l) (.int i) v := fun A s x y _ rx ry => by
  obtain ⟨u, rfl⟩ := ry.int_ex
  obtain ⟨a, vs, rfl, hl, ra⟩ := rx.tup_inv
  refine ⟨getT_tuple hl, ?_⟩
  have hlt : i.toNat < vs.length := by rw [← ra.length]; exact (List.getElem?_eq_some_iff.mp hv).1
  have e : vs[i.toNat]? = some vs[i.toNat] := List.getElem?_eq_getElem hlt
  have hj : seqIndex? i (vs.toArray).size = some i.toNat := by
    unfold seqIndex?
    rw [List.size_toArray]
    simp only [show ¬ i < 0 from by (first | lia | omega), if_false]
    rw [if_pos (by simp; (first | lia | omega))]
  have hT : IsTup s.heap a vs.toArray := hl
  with_reducible refine PyProof.Rows.getItem_tuple hT (by (first | lia | omega)) (by (first | lia | omega)) hj (by rw [List.getElem?_toArray]; exact e) ?_
  exact ⟨ra.get _ _ _ hv e, Kp.rfl' s⟩

/-! slices -/
/-- an optional part of a slice -/
inductive QP (C : Cx) (n : Nat) (names : List (Str × NameKind)) (vars : Vars) (σ : List (Option AV)) : Option Expr → Option Int → Prop where
  | none : QP C n names vars σ none none
  | nonev {e} : QE C n names vars σ e .none → QP C n names vars σ (some e) none
  | some {e i} : QE C n names vars σ e (.int i) → QP C n names vars σ (some e) (some i)
noncomputable def PartIs (p : Option Int) (v : Value) : Prop := ∃ q : Option (Int × Tok), v = partValue q ∧ q.map (·.1) = p
theorem QP.wp {e : Option Expr} {p : Option Int} (h : QP C n names vars σ e p) {env : Env} {A : Around} {s : Shared} (E : EnvOk names env) (R : Lvl n A) (P : Pg C s.heap) (L : Loc s.heap env vars σ) :
    wpAny (model C.prog C.w) A (evalPart e env) (fun v s' => PartIs p v ∧ Kp s s') bot s := by
  cases h with
  | none => exact wpAny_pure ⟨⟨Option.none, rfl, rfl⟩, Kp.rfl' s⟩
  | nonev h => exact wp_post (h.run env A s E R P L) fun v s' ⟨r, k⟩ => ⟨⟨Option.none, r.none_eq, rfl⟩, k⟩
  | some h => exact wp_post (h.run env A s E R P L) fun v s' ⟨r, k⟩ => let ⟨t, e⟩ := r.int_ex; ⟨⟨Option.some (_, t), e, rfl⟩, k⟩

noncomputable def SlOk (C : Cx) (n : Nat) (a : AV) (lo up st : Option Int) (v : AV) : Prop :=
  ∀ (A : Around) (s : Shared) (x : Value) (sl : Addr) (l u t : Option (Int × Tok)), Lvl n A → Rel s.heap a x → l.map (·.1) = lo → u.map (·.1) = up → t.map (·.1) = st → s.heap.IsSlice sl l u t →
    GetT x s ∧ wpAny (model C.prog C.w) A (getItem x (.ref sl)) (fun r s' => Rel s'.heap v r ∧ Kp s s') bot s
theorem QE.slice {value : Expr} {lower upper step : Option Expr} {p pos : Pos} {a v : AV} {lo up st : Option Int} (hv : QE C n names vars σ value a) (hl : QP C n names vars σ lower lo) (hu : QP C n names vars σ upper up) (hs : QP C n names vars σ step st)
    (hg : SlOk C n a lo up st v) : QE C n names vars σ (.Subscript value (.Slice lower upper step p) pos) v := .mk fun env A s E R P L =>
  wp_subscript (wp_post (hv.run env A s E R P L) fun x s₁ ⟨r1, k1⟩ => by
    have P1 := P.keeps k1.heap
    have L1 := L.keeps k1.heap
    refine wpAny_Slice (wp_post (hl.wp E R P1 L1) fun vl s₂ ⟨⟨ql, el, pl⟩, k2⟩ => wp_post (hu.wp E R (P1.keeps k2.heap) (L1.keeps k2.heap)) fun vu s₃ ⟨⟨qu, eu, pu⟩, k3⟩ =>
      wp_post (hs.wp E R ((P1.keeps k2.heap).keeps k3.heap) ((L1.keeps k2.heap).keeps k3.heap)) fun vt s₄ ⟨⟨qt, et, pt⟩, k4⟩ => ?_)
    subst el eu et
    have kk := (((k1.trans' k2).trans' k3).trans' k4).trans' (Kp.push s₄ { cls := .type "slice", data := .fields #[partValue ql, partValue qu, partValue qt] })
    have k' := ((k2.trans' k3).trans' k4).trans' (Kp.push s₄ { cls := .type "slice", data := .fields #[partValue ql, partValue qu, partValue qt] })
    obtain ⟨g, h⟩ := hg A { s₄ with heap := s₄.heap.push { cls := .type "slice", data := .fields #[partValue ql, partValue qu, partValue qt] } } x s₄.heap.objs.size ql qu qt R (r1.keeps k'.heap) pl pu pt
      ⟨_, Heap.get?_push_size _ rfl, rfl, rfl⟩
    exact ⟨g, wp_post h fun z s₅ ⟨r3, k5⟩ => ⟨r3, kk.trans' k5⟩⟩)

noncomputable def sliceS (x : Str) (lo hi st : Option Int) : Str := ⟨((Builtin.Str.strSliceIndices lo hi (st.getD 1) x.length).filterMap (x.cps[·]?)).toArray⟩
theorem filterMap_range (l : List Nat) : (List.range l.length).filterMap (fun i => l.toArray[i]?) = l := by
  apply List.ext_getElem?
  intro i
  have : ∀ (k : Nat) , k ≤ l.length → (List.range k).filterMap (fun i => l.toArray[i]?) = l.take k := by
    intro k
    induction k with
    | zero => intro _; simp
    | succ k ih =>
      intro hk
      rw [List.range_succ, List.filterMap_append, ih (by (first | lia | omega))]
      have hlt : k < l.length := by (first | lia | omega)
      simp only [List.filterMap_cons, List.filterMap_nil, List.getElem?_toArray, List.getElem?_eq_getElem hlt, List.take_add_one, Option.toList]
  rw [this l.length (Nat.le_refl _), List.take_length]
theorem sr_whole {a b : Int} {N : Nat} (ha : 0 ≤ a) (hb : b ≤ N) (h2 : (sliceRange a b 1).length = N) : sliceRange a b 1 = List.range N := by
  unfold sliceRange at h2 ⊢
  simp only [show (1 : Int) > 0 from by decide, if_true, List.length_map, List.length_range] at h2 ⊢
  by_cases hx : N = 0
  · rw [h2, hx]; rfl
  · by_cases hab : a < b
    · rw [if_pos hab] at h2 ⊢
      have ha0 : a = 0 := by (first | lia | omega)
      subst ha0
      rw [h2]
      apply List.ext_getElem
      · simp
      · intro i _ _; simp
    · rw [if_neg hab] at h2
      simp at h2; (first | lia | omega)
theorem sliceS_whole {x : Str} {lo hi st : Option Int} (h1 : st.getD 1 = 1) (h2 : (Builtin.Str.strSliceIndices lo hi 1 x.length).length = x.length) : sliceS x lo hi st = x := by
  unfold sliceS
  rw [h1]
  have key : Builtin.Str.strSliceIndices lo hi 1 x.length = List.range x.length := by
    refine sr_whole ?_ ?_ h2
    · simp only [show (1 : Int) > 0 from by decide, if_true]
      cases lo with
      | none => exact Int.le_refl _
      | some i => dsimp only; omega
    · simp only [show (1 : Int) > 0 from by decide, if_true]
      cases hi with
      | none => exact Int.le_refl _
      | some i => dsimp only; omega
  rw [key]
  obtain ⟨⟨l⟩⟩ := x
  show Str.mk ((List.range l.length).filterMap (fun i => l.toArray[i]?)).toArray = _
  rw [filterMap_range]
theorem slS {x : Str} {lo up st : Option Int} (h0 : st ≠ some 0) (hx : x.length ≤ 100000) : SlOk C n (.str x) lo up st (.str (sliceS x lo up st)) := fun A s y sl l u t _ rx hl hu ht hs => by
  obtain ⟨tk0, rfl⟩ := rx.str_ex
  refine ⟨getT_str _ _ _, ?_⟩
  subst hl hu ht
  with_reducible refine wpAny_getItem_str_slice hs ?_ ?_
  · cases t with
    | none => rfl
    | some q => simp at h0 ⊢; exact h0
  · unfold sliceMade
    split
    · rename_i h
      obtain ⟨a, b⟩ := Bool.and_eq_true_iff.mp h
      have a' := beq_iff_eq.mp a
      have b' := beq_iff_eq.mp b
      unfold slicePicked at b'
      rw [a'] at b'
      rw [sliceS_whole a' b']
      exact ⟨.str _ _, Kp.rfl' s⟩
    · refine ⟨?_, .str _ _, Kp.tok s _⟩
      show ((slicePicked x l u t).filterMap (x.cps[·]?)).toArray.size ≤ sizeLine
      rw [List.size_toArray]
      refine Nat.le_trans (List.length_filterMap_le _ _) ?_
      refine Nat.le_trans (Nat.le_trans ?_ hx) (by decide)
      unfold slicePicked Builtin.Str.strSliceIndices
      refine sliceRange_length_le _ _ _ _ (fun hc => ?_) fun hc => ?_
      · simp only [hc, if_true]
        constructor <;> (split <;> omega)
      · simp only [hc, if_false]
        constructor <;> (split <;> omega)

noncomputable def pickL (l : List AV) (lo hi st : Option Int) : List AV := (sliceRange (sliceBounds lo hi st l.length).1 (sliceBounds lo hi st l.length).2.1 (sliceBounds lo hi st l.length).2.2).filterMap (l[·]?)
theorem RelAll.pick {h : Heap} {l : List AV} {vs : List Value} (r : RelAll h l vs) : ∀ idx : List Nat, RelAll h (idx.filterMap (l[·]?)) (idx.filterMap (vs[·]?))
  | [] => .nil
  | i :: idx => by
    have ih := RelAll.pick r idx
    by_cases hi : i < l.length
    · have hi' : i < vs.length := r.length ▸ hi
      rw [List.filterMap_cons, List.filterMap_cons, List.getElem?_eq_getElem hi, List.getElem?_eq_getElem hi']
      exact .cons (r.get i _ _ (List.getElem?_eq_getElem hi) (List.getElem?_eq_getElem hi')) ih
    · have hi' : ¬ i < vs.length := r.length ▸ hi
      rw [List.filterMap_cons, List.filterMap_cons, List.getElem?_eq_none (by (first | lia | omega)), List.getElem?_eq_none (by (first | lia | omega))]
      exact ih
theorem slL {l : List AV} {lo up st : Option Int} (h0 : st ≠ some 0) (hx : l.length ≤ 100000) : SlOk C n (.lst l) lo up st (.lst (pickL l lo up st)) := fun A s y sl pl pu pt _ rx hl hu ht hs => by
  obtain ⟨a, vs, rfl, hL, ra⟩ := rx.lst_inv
  refine ⟨getT_list hL, ?_⟩
  subst hl hu ht
  obtain ⟨o, e1, e2, e3⟩ := hs
  have part : ∀ q : Option (Int × Tok), IsPart (partValue q) (q.map (·.1)) := fun q => by
    cases q with
    | none => exact .none
    | some q => exact .int _ _
  have hsz : vs.toArray.size ≤ sizeLine := by rw [List.size_toArray, ← ra.length]; exact Nat.le_trans hx (by decide)
  have hsl : s.heap.IsSliceOf sl (partValue pl) (partValue pu) (partValue pt) := ⟨o, e1, e2, e3⟩
  with_reducible refine wpAny_getItem_list_slice hL hsl (part pl) (part pu) (part pt) h0 ?_ hsz
  refine ⟨?_, Kp.push s _⟩
  have e : slicePick vs.toArray (pl.map (·.1)) (pu.map (·.1)) (pt.map (·.1)) = ((sliceRange (sliceBounds (pl.map (·.1)) (pu.map (·.1)) (pt.map (·.1)) l.length).1 (sliceBounds (pl.map (·.1)) (pu.map (·.1)) (pt.map (·.1)) l.length).2.1 (sliceBounds (pl.map (·.1)) (pu.map (·.1)) (pt.map (·.1)) l.length).2.2).filterMap (vs[·]?)).toArray := by
    unfold slicePick
    rw [List.size_toArray, ra.length]
    simp only [List.getElem?_toArray]
  rw [e]
  exact .lst' (isList_push _ _) ((ra.pick _).keeps (Kp.push s _).heap)
end
end Mine
end

noncomputable section
open PySem PySem.Calls PyProof.Rows PySem.W PySem.Flt
set_option Elab.async false
set_option linter.unusedVariables false
namespace Mine
section
variable {C : Cx} {n : Nat} {names : List (Str × NameKind)} {vars : Vars} {σ : List (Option AV)}

theorem len_succ {α : Type} {l : List α} {n : Nat} (h : l.length = n + 1) : ∃ a r, l = a :: r ∧ r.length = n := by
  cases l with
  | nil => cases h
  | cons a r => exact ⟨a, r, rfl, Nat.succ.inj h⟩
theorem len1 {α : Type} {l : List α} (h : l.length = 1) : ∃ a, l = [a] := by
  obtain ⟨a, r, rfl, h2⟩ := len_succ h
  obtain rfl := List.eq_nil_of_length_eq_zero h2
  exact ⟨a, rfl⟩
theorem len2 {α : Type} {l : List α} (h : l.length = 2) : ∃ a b, l = [a, b] := by
  obtain ⟨a, r, rfl, h2⟩ := len_succ h
  obtain ⟨b, rfl⟩ := len1 h2
  exact ⟨a, b, rfl⟩
theorem len3 {α : Type} {l : List α} (h : l.length = 3) : ∃ a b c, l = [a, b, c] := by
  obtain ⟨a, r, rfl, h2⟩ := len_succ h
  obtain ⟨b, c, rfl⟩ := len2 h2
  exact ⟨a, b, c, rfl⟩
noncomputable def CallOk (C : Cx) (n : Nat) (f : Value) (vs : List AV) (v : AV) : Prop :=
  ∀ (A : Around) (s : Shared) (rs : List Value), Lvl n A → Pg C s.heap → RelAll s.heap vs rs → wpAny (model C.prog C.w) A (call f rs) (fun r s' => Rel s'.heap v r ∧ Kp s s') bot s

theorem QEs.plain {es : List Expr} {vs : List AV} (h : QEs C n names vars σ es vs) : ∀ (pos : Pos) (env : Env), (backTo pos (starEach es env)).any (·.1) = false := by
  induction h with
  | nil => intro pos env; rfl
  | cons _ _ h3 ih => intro pos env; rw [h3 env]; exact ih pos env

theorem QE.callB {x : Str} {id : String} {p pos : Pos} {e : Expr} {es : List Expr} {v : AV} {vs : List AV} (hk : names.lookup x = some .globalImplicit) (hg : (x, GV.none) ∈ C.globs) (hb : (x, .builtin id) ∈ C.blts)
    (ha : QEs C n names vars σ (e :: es) vs) (hc : CallOk C n (.builtin id) vs v) (hd : (x == ("__debug__" : Str)) = false := by decide +kernel) : QE C n names vars σ (.Call (.Name x p) (e :: es) [] pos) v := .mk fun env A s E R P L => by
  refine wpAny_Call_NameR (wpAny_Name (load_blt E P hk hg hb ?_) hd)
  obtain ⟨_, h3, pl⟩ : True ∧ starEach (e :: es) env = (false, eval e env) :: starEach es env ∧ (backTo pos (starEach es env)).any (·.1) = false := by
    cases ha with
    | cons _ h2 h3 => exact ⟨trivial, h3 env, h2.plain pos env⟩
  exact PyProof.Rows.callWith_builtin1 (wp_post (ha.spliced pos env A s E R P L) fun rs s₁ ⟨r, k⟩ => wp_post (hc A s₁ rs R (P.keeps k.heap) r) fun y s₂ ⟨r2, k2⟩ => ⟨r2, k.trans' k2⟩) h3 pl
theorem QE.callT {x : Str} {T : String} {p pos : Pos} {e : Expr} {es : List Expr} {v : AV} {vs : List AV} (hk : names.lookup x = some .globalImplicit) (hg : (x, GV.none) ∈ C.globs) (hb : (x, .type T) ∈ C.blts)
    (ha : QEs C n names vars σ (e :: es) vs) (hc : CallOk C n (.type T) vs v) (hd : (x == ("__debug__" : Str)) = false := by decide +kernel) : QE C n names vars σ (.Call (.Name x p) (e :: es) [] pos) v := .mk fun env A s E R P L => by
  refine wpAny_Call_NameR (wpAny_Name (load_blt E P hk hg hb ?_) hd)
  obtain ⟨_, h3, pl⟩ : True ∧ starEach (e :: es) env = (false, eval e env) :: starEach es env ∧ (backTo pos (starEach es env)).any (·.1) = false := by
    cases ha with
    | cons _ h2 h3 => exact ⟨trivial, h3 env, h2.plain pos env⟩
  exact PyProof.Rows.callWith_type1 (wp_post (ha.spliced pos env A s E R P L) fun rs s₁ ⟨r, k⟩ => wp_post (hc A s₁ rs R (P.keeps k.heap) r) fun y s₂ ⟨r2, k2⟩ => ⟨r2, k.trans' k2⟩) h3 pl
theorem QE.callF {x : Str} {a : Addr} {f : FnRec} {p pos : Pos} {e : Expr} {es : List Expr} {v : AV} {vs : List AV} (hk : names.lookup x = some .globalImplicit) (hg : (x, GV.fn a) ∈ C.globs) (hf : (a, f) ∈ C.fns)
    (ha : QEs C n names vars σ (e :: es) vs) (hc : CallOk C n (.ref a) vs v) (hd : (x == ("__debug__" : Str)) = false := by decide +kernel) : QE C n names vars σ (.Call (.Name x p) (e :: es) [] pos) v := .mk fun env A s E R P L => by
  refine wpAny_Call_NameR (wpAny_Name (load_gfn E P hk hg ?_) hd)
  obtain ⟨_, h3, pl⟩ : True ∧ starEach (e :: es) env = (false, eval e env) :: starEach es env ∧ (backTo pos (starEach es env)).any (·.1) = false := by
    cases ha with
    | cons _ h2 h3 => exact ⟨trivial, h3 env, h2.plain pos env⟩
  obtain ⟨o, fd, e1, e2, _⟩ := P.fn _ hf
  exact callWith_def e2 (wp_post (ha.spliced pos env A s E R P L) fun rs s₁ ⟨r, k⟩ => ⟨k.heap _ _ e1, wp_post (hc A s₁ rs R (P.keeps k.heap) r) fun y s₂ ⟨r2, k2⟩ => ⟨r2, k.trans' k2⟩⟩) h3

/-! built-ins -/
theorem fit_len {k : Nat} (h : k ≤ 1000000) : (k : Int) < 2 ^ 63 := by lia
theorem lenS {x : Str} (h : x.length ≤ 1000000) : CallOk C n (.builtin "len") [.str x] (.int x.length) := fun A s rs R P ra => by
  refine ra.elim1 fun r hr => hr.elim_str fun t => ?_
  with_reducible refine PySem.P.len_str (by clear hr ra R P; (first | lia | omega)) ?_
  exact ⟨.int _ _, Kp.tok s _⟩
theorem lenL {l : List AV} (h : l.length ≤ 1000000) : CallOk C n (.builtin "len") [.lst l] (.int l.length) := fun A s rs R P ra => by
  refine ra.elim1 fun r hr => ?_
  obtain ⟨a, vs, rfl, hl, rv⟩ := hr.lst_inv
  with_reducible refine PyProof.Rows.len_list hl (by rw [List.size_toArray, ← rv.length]; exact fit_len h) ?_
  rw [List.size_toArray, ← rv.length]
  exact ⟨.int _ _, Kp.tok s _⟩
noncomputable def iabs (a : Int) : Int := if a < 0 then -a else a
theorem absI {a : Int} : CallOk C n (.builtin "abs") [.int a] (.int (iabs a)) := fun A s rs R P ra => by
  refine ra.elim1 fun r hr => hr.elim_int fun t => ?_
  with_reducible refine call_abs_int ?_
  intro u tk
  exact ⟨.int _ _, Kp.tok s _⟩
theorem intF {x : UInt64} {sg : Bool} {m : Nat} {e : Int} (hd : Float64.decode x = .fin sg m e) : CallOk C n (.type "int") [.flt x] (.int (Float64.truncOf sg m e)) := fun A s rs R P ra => by
  refine ra.elim1 fun r hr => hr.elim_flt fun t => ?_
  with_reducible refine PySem.call_int_float hd ?_
  exact ⟨.int _ _, Kp.tok s _⟩

noncomputable def imin (a b : Int) : Int := if b < a then b else a
noncomputable def imax (a b : Int) : Int := if b > a then b else a
theorem min2I {a b : Int} : CallOk C n (.builtin "min") [.int a, .int b] (.int (imin a b)) := fun A s rs R P ra => by
  refine ra.elim2 fun r r' hr hr' => hr.elim_int fun t => hr'.elim_int fun u => ?_
  with_reducible refine min_two_ints R.hd ?_
  intro h' tk k
  refine ⟨?_, Kp.of k⟩
  unfold imin
  split <;> exact .int _ _

noncomputable def fmax (x y : UInt64) : UInt64 := if (Float64.cmp x y == some .lt) = true then y else x
noncomputable def fmin (x y : UInt64) : UInt64 := if (Float64.cmp y x == some .lt) = true then y else x
theorem three_old {s : Shared} {a b c : Value} {t : Value} {h' : Heap} (hk : ∀ d o, d ∉ [(s.heap.push { cls := .type "tuple", data := .seq #[a, b, c] }).objs.size] → ((s.heap.push { cls := .type "tuple", data := .seq #[a, b, c] }).push { cls := .type "tuple_iterator", data := .fields #[t, rawInt 0] }).get? d = some o → h'.get? d = some o) :
    ∀ d o, s.heap.get? d = some o → h'.get? d = some o := fun d o e => by
  refine hk d o (fun hm => ?_) (Heap.get?_push_of_some _ (Heap.get?_push_of_some _ e))
  rcases List.mem_cons.mp hm with e1 | hm
  · have := Heap.lt_size e
    have h2 := Heap.size_push s.heap { cls := .type "tuple", data := .seq #[a, b, c] }
    rw [e1, h2] at this
    exact Nat.lt_irrefl _ (Nat.lt_of_succ_lt this)
  · cases hm
theorem best3 {bt : Nat → Nat → Bool} {vs : Array Value} {a b c v : Value} (ha : vs[0]? = some a) (hb : vs[1]? = some b) (hc : vs[2]? = some c) (h : vs[argBest bt 2]? = some v) : v = if bt 2 (if bt 1 0 then 1 else 0) then c else if bt 1 0 then b else a := by
  have e : argBest bt 2 = if bt 2 (if bt 1 0 then 1 else 0) then 2 else if bt 1 0 then 1 else 0 := rfl
  rw [e] at h
  clear e
  cases h1 : bt 1 0 <;> rw [h1] at h
  · change vs[if bt 2 0 then 2 else 0]? = some v at h
    show v = if bt 2 0 then c else a
    cases h2 : bt 2 0 <;> rw [h2] at h
    · exact Option.some.inj (h.symm.trans ha)
    · exact Option.some.inj (h.symm.trans hc)
  · change vs[if bt 2 1 then 2 else 1]? = some v at h
    show v = if bt 2 1 then c else b
    cases h2 : bt 2 1 <;> rw [h2] at h
    · exact Option.some.inj (h.symm.trans hb)
    · exact Option.some.inj (h.symm.trans hc)
theorem flt_max {a b : UInt64} {x y : Value} (h1 : ∃ t, x = .float a t) (h2 : ∃ t, y = .float b t) : ∃ t, (if ltV x y then y else x) = .float (fmax a b) t := by
  obtain ⟨t, rfl⟩ := h1
  obtain ⟨u, rfl⟩ := h2
  show ∃ t', (if (Float64.cmp a b == some .lt) = true then Value.float b u else Value.float a t) = .float (fmax a b) t'
  unfold fmax
  split
  · exact ⟨u, rfl⟩
  · exact ⟨t, rfl⟩
theorem flt_min {a b : UInt64} {x y : Value} (h1 : ∃ t, x = .float a t) (h2 : ∃ t, y = .float b t) : ∃ t, (if ltV y x then y else x) = .float (fmin a b) t := by
  obtain ⟨t, rfl⟩ := h1
  obtain ⟨u, rfl⟩ := h2
  show ∃ t', (if (Float64.cmp b a == some .lt) = true then Value.float b u else Value.float a t) = .float (fmin a b) t'
  unfold fmin
  split
  · exact ⟨u, rfl⟩
  · exact ⟨t, rfl⟩
theorem call_max_three_num {prog : Program} {w : World} {A : Around} {E : Value → Shared → Prop} {s : Shared} {Q : Value → Shared → Prop} {a b c : Value} (hh : A.handled = none) (ha : NumV a) (hb : NumV b) (hc : NumV c)
    (h : ∀ h' tk, (∀ d o, s.heap.get? d = some o → h'.get? d = some o) → Q (if ltV (if ltV a b then b else a) c then c else (if ltV a b then b else a)) { s with heap := h', toks := tk }) :
    wpAny (model prog w) A (call (.builtin "max") [a, b, c]) Q E s := by
  have hT : (s.heap.push { cls := .type "tuple", data := .seq #[a, b, c] }).IsTuple s.heap.objs.size #[a, b, c] := ⟨_, Heap.get?_push_size _ rfl, rfl, 0, rfl⟩
  refine call_max_three (wpAny_pyIter_tuple hT ?_)
  have hsz : (s.heap.push { cls := .type "tuple", data := .seq #[a, b, c] }).objs.size = s.heap.objs.size + 1 := Heap.size_push ..
  refine ⟨_, [_, s.heap.objs.size], [_], _, _, _, _, rfl, Walks.tuple (A := A.in1) hh _ s.heap.objs.size (by rw [hsz]; exact Nat.ne_of_lt (Nat.lt_succ_self _)) #[a, b, c],
    ⟨⟨_, Heap.get?_push_size _ rfl, rfl, rfl⟩, hT.push _⟩, fun d hd => ?_, by simp, cmpOf_gt #[a, b, c] (by simp [ha, hb, hc]), fun v h' tk hP hk => ?_⟩
  · show d < ((s.heap.push _).push _).objs.size
    rw [Heap.size_push, hsz]
    rcases List.mem_cons.mp hd with rfl | hd
    · rw [hsz]; exact Nat.lt_succ_self _
    · rcases List.mem_cons.mp hd with rfl | hd
      · exact Nat.lt_succ_of_lt (Nat.lt_succ_self _)
      · cases hd
  · have := h h' tk (three_old hk)
    have hv : v = if ltV (if ltV a b then b else a) c then c else (if ltV a b then b else a) := by
      rw [best3 (a := a) (b := b) (c := c) rfl rfl rfl hP]
      show (if ltV (#[a, b, c].getD (if ltV a b then 1 else 0) .none) c then c else if ltV a b then b else a) = _
      cases ltV a b <;> rfl
    rw [hv]; exact this
theorem call_min_three_num {prog : Program} {w : World} {A : Around} {E : Value → Shared → Prop} {s : Shared} {Q : Value → Shared → Prop} {a b c : Value} (hh : A.handled = none) (ha : NumV a) (hb : NumV b) (hc : NumV c)
    (h : ∀ h' tk, (∀ d o, s.heap.get? d = some o → h'.get? d = some o) → Q (if ltV c (if ltV b a then b else a) then c else (if ltV b a then b else a)) { s with heap := h', toks := tk }) :
    wpAny (model prog w) A (call (.builtin "min") [a, b, c]) Q E s := by
  have hT : (s.heap.push { cls := .type "tuple", data := .seq #[a, b, c] }).IsTuple s.heap.objs.size #[a, b, c] := ⟨_, Heap.get?_push_size _ rfl, rfl, 0, rfl⟩
  refine call_min_three (wpAny_pyIter_tuple hT ?_)
  have hsz : (s.heap.push { cls := .type "tuple", data := .seq #[a, b, c] }).objs.size = s.heap.objs.size + 1 := Heap.size_push ..
  refine ⟨_, [_, s.heap.objs.size], [_], _, _, _, _, rfl, Walks.tuple (A := A.in1) hh _ s.heap.objs.size (by rw [hsz]; exact Nat.ne_of_lt (Nat.lt_succ_self _)) #[a, b, c],
    ⟨⟨_, Heap.get?_push_size _ rfl, rfl, rfl⟩, hT.push _⟩, fun d hd => ?_, by simp, cmpOf_lt #[a, b, c] (by simp [ha, hb, hc]), fun v h' tk hP hk => ?_⟩
  · show d < ((s.heap.push _).push _).objs.size
    rw [Heap.size_push, hsz]
    rcases List.mem_cons.mp hd with rfl | hd
    · rw [hsz]; exact Nat.lt_succ_self _
    · rcases List.mem_cons.mp hd with rfl | hd
      · exact Nat.lt_succ_of_lt (Nat.lt_succ_self _)
      · cases hd
  · have := h h' tk (three_old hk)
    have hv : v = if ltV c (if ltV b a then b else a) then c else (if ltV b a then b else a) := by
      rw [best3 (a := a) (b := b) (c := c) rfl rfl rfl hP]
      show (if ltV c (#[a, b, c].getD (if ltV b a then 1 else 0) .none) then c else if ltV b a then b else a) = _
      cases ltV b a <;> rfl
    rw [hv]; exact this
theorem max3F {a b c : UInt64} : CallOk C n (.builtin "max") [.flt a, .flt b, .flt c] (.flt (fmax (fmax a b) c)) := fun A s rs R P ra => by
  refine ra.elim3 fun x y z hx hy hz => hx.elim_flt fun t => hy.elim_flt fun u => hz.elim_flt fun v => ?_
  with_reducible refine call_max_three_num R.hd (.float _ _) (.float _ _) (.float _ _) ?_
  intro h' tk k
  obtain ⟨t', e⟩ := flt_max (flt_max ⟨t, rfl⟩ ⟨u, rfl⟩) ⟨v, rfl⟩
  rw [e]
  exact ⟨.flt _ _, Kp.of k⟩
theorem min3F {a b c : UInt64} : CallOk C n (.builtin "min") [.flt a, .flt b, .flt c] (.flt (fmin (fmin a b) c)) := fun A s rs R P ra => by
  refine ra.elim3 fun x y z hx hy hz => hx.elim_flt fun t => hy.elim_flt fun u => hz.elim_flt fun v => ?_
  with_reducible refine call_min_three_num R.hd (.float _ _) (.float _ _) (.float _ _) ?_
  intro h' tk k
  obtain ⟨t', e⟩ := flt_min (flt_min ⟨t, rfl⟩ ⟨u, rfl⟩) ⟨v, rfl⟩
  rw [e]
  exact ⟨.flt _ _, Kp.of k⟩

/-- max and min of three ints in a list -/
theorem list3 {h : Heap} {a b c : Int} {r : Value} (x : Rel h (.lst [.int a, .int b, .int c]) r) : ∃ l t1 t2 t3, r = .ref l ∧ h.IsList l (intItems #[(a, t1), (b, t2), (c, t3)]) := by
  obtain ⟨l, vs, rfl, hl, rv⟩ := x.lst_inv
  revert hl
  refine rv.elim3 (Ps := fun vs => h.IsList l (List.toArray vs) → _) fun x y z hx hy hz => ?_
  refine hx.elim_int (P := fun x => h.IsList l (List.toArray [x, y, z]) → _) fun t => hy.elim_int (P := fun y => h.IsList l (List.toArray [_, y, z]) → _) fun u => hz.elim_int (P := fun z => h.IsList l (List.toArray [_, _, z]) → _) fun v hl => ⟨l, t, u, v, rfl, by simpa [intItems] using hl⟩
theorem items3 {a b c : Int} {t u v : Tok} : intItems #[(a, t), (b, u), (c, v)] = #[.int a t, .int b u, .int c v] := by simp [intItems]
theorem int_max {a b c : Int} (t u v : Tok) : ∃ t', (if decide (c > numAt #[(a, t), (b, u), (c, v)] (if decide (b > a) then 1 else 0)) then Value.int c v else if decide (b > a) then .int b u else .int a t) = .int (imax (imax a b) c) t' := by
  unfold imax
  by_cases h : b > a
  · rw [decide_eq_true h, if_pos h]
    by_cases h2 : c > b
    · rw [if_pos h2]; exact ⟨v, if_pos (decide_eq_true h2)⟩
    · rw [if_neg h2]; exact ⟨u, if_neg (fun e => h2 (of_decide_eq_true e))⟩
  · rw [decide_eq_false h, if_neg h]
    by_cases h2 : c > a
    · rw [if_pos h2]; exact ⟨v, if_pos (decide_eq_true h2)⟩
    · rw [if_neg h2]; exact ⟨t, if_neg (fun e => h2 (of_decide_eq_true e))⟩
theorem int_min {a b c : Int} (t u v : Tok) : ∃ t', (if decide (c < numAt #[(a, t), (b, u), (c, v)] (if decide (b < a) then 1 else 0)) then Value.int c v else if decide (b < a) then .int b u else .int a t) = .int (imin (imin a b) c) t' := by
  unfold imin
  by_cases h : b < a
  · rw [decide_eq_true h, if_pos h]
    by_cases h2 : c < b
    · rw [if_pos h2]; exact ⟨v, if_pos (decide_eq_true h2)⟩
    · rw [if_neg h2]; exact ⟨u, if_neg (fun e => h2 (of_decide_eq_true e))⟩
  · rw [decide_eq_false h, if_neg h]
    by_cases h2 : c < a
    · rw [if_pos h2]; exact ⟨v, if_pos (decide_eq_true h2)⟩
    · rw [if_neg h2]; exact ⟨t, if_neg (fun e => h2 (of_decide_eq_true e))⟩
theorem maxL3 {a b c : Int} : CallOk C n (.builtin "max") [.lst [.int a, .int b, .int c]] (.int (imax (imax a b) c)) := fun A s rs R P ra => by
  refine ra.elim1 fun r hr => ?_
  obtain ⟨l, t, u, v, rfl, hl⟩ := list3 hr
  with_reducible refine max_intList R.hd hl (by simp) ?_
  intro x h' tk hv k
  rw [items3] at hv
  obtain ⟨t', e⟩ := int_max (a := a) (b := b) (c := c) t u v
  have := (best3 (bt := fun i j => decide (numAt #[(a, t), (b, u), (c, v)] i > numAt #[(a, t), (b, u), (c, v)] j)) (a := .int a t) (b := .int b u) (c := .int c v) rfl rfl rfl hv).trans e
  rw [this]
  exact ⟨.int _ _, Kp.of k⟩
theorem minL3 {a b c : Int} : CallOk C n (.builtin "min") [.lst [.int a, .int b, .int c]] (.int (imin (imin a b) c)) := fun A s rs R P ra => by
  refine ra.elim1 fun r hr => ?_
  obtain ⟨l, t, u, v, rfl, hl⟩ := list3 hr
  with_reducible refine min_intList R.hd hl (by simp) ?_
  intro x h' tk hv k
  rw [items3] at hv
  obtain ⟨t', e⟩ := int_min (a := a) (b := b) (c := c) t u v
  have := (best3 (bt := fun i j => decide (numAt #[(a, t), (b, u), (c, v)] i < numAt #[(a, t), (b, u), (c, v)] j)) (a := .int a t) (b := .int b u) (c := .int c v) rfl rfl rfl hv).trans e
  rw [this]
  exact ⟨.int _ _, Kp.of k⟩
end
end Mine
end

noncomputable section
open PySem PySem.Calls PyProof.Rows PySem.W PySem.Flt PySem.SeqAt
set_option Elab.async false
set_option linter.unusedVariables false
namespace Mine
section
variable {C : Cx} {n : Nat} {names : List (Str × NameKind)} {vars : Vars} {σ : List (Option AV)}

/-! equality -/
inductive SEqs : List AV → List AV → List Bool → Prop where
  | nil : SEqs [] [] []
  | int {a b : Int} {l l' bs} : SEqs l l' bs → SEqs (.int a :: l) (.int b :: l') ((a == b) :: bs)
  | str {a b : Str} {l l' bs} : SEqs l l' bs → SEqs (.str a :: l) (.str b :: l') ((a == b) :: bs)
theorem SEqs.len {l l' : List AV} {bs : List Bool} (x : SEqs l l' bs) : l.length = l'.length ∧ bs.length = l.length := by
  induction x with
  | nil => exact ⟨rfl, rfl⟩
  | int _ ih => simp [ih]
  | str _ ih => simp [ih]
theorem SEqs.at {h : Heap} {l l' : List AV} {bs : List Bool} (x : SEqs l l' bs) (A : Around) (s : Shared) : ∀ {vs vs' : List Value}, RelAll h l vs → RelAll h l' vs' → ∀ j (h1 : j < vs.length) (h2 : j < vs'.length), EqAt A s vs[j] vs'[j] (bs.getD j false) := by
  induction x with
  | nil => intro vs vs' r r' j h1; exact absurd (r.length ▸ h1) (Nat.not_lt_zero _)
  | int _ ih =>
    intro vs vs' r r'
    refine r.elimc fun x xs r1 r => r'.elimc fun y ys r1' r' => r1.elim_int fun t => r1'.elim_int fun u j h1 h2 => ?_
    cases j with
    | zero => exact (MeetsSeq.EqGives.int _ _ _ _).at A s
    | succ j => exact ih r r' j (Nat.lt_of_succ_lt_succ h1) (Nat.lt_of_succ_lt_succ h2)
  | str _ ih =>
    intro vs vs' r r'
    refine r.elimc fun x xs r1 r => r'.elimc fun y ys r1' r' => r1.elim_str fun t => r1'.elim_str fun u j h1 h2 => ?_
    cases j with
    | zero => exact (eqGives_str _ _ _ _).at A s
    | succ j => exact ih r r' j (Nat.lt_of_succ_lt_succ h1) (Nat.lt_of_succ_lt_succ h2)
theorem all_range : ∀ bs : List Bool, (List.range bs.length).all (fun j => bs.getD j false) = bs.all id
  | [] => rfl
  | b :: bs => by
    rw [List.length_cons, List.range_succ_eq_map, List.all_cons, List.all_map, List.all_cons, ← all_range bs]
    rfl
theorem eqL {l l' : List AV} {bs : List Bool} (x : SEqs l l' bs) : OpOk C n (compareOp .Eq) (.lst l) (.lst l') (.bool (bs.all id)) := fun A s a b R _ ra rb => by
  obtain ⟨p, vs, rfl, hp, rp⟩ := ra.lst_inv
  obtain ⟨q, ws, rfl, hq, rq⟩ := rb.lst_inv
  have e1 : vs.toArray.size = ws.toArray.size := by rw [List.size_toArray, List.size_toArray, ← rp.length, ← rq.length]; exact x.len.1
  refine eq_listAt (e := fun j => bs.getD j false) hp hq e1 R.units (fun j h1 h2 => ?_) ?_
  · have := x.at A.in1 s rp rq j (by simpa using h1) (by simpa using h2)
    simpa using this
  · rw [List.size_toArray, ← rp.length, ← x.len.2, all_range]
    exact ⟨.bool _, Kp.rfl' s⟩
theorem neL {l l' : List AV} {bs : List Bool} (x : SEqs l l' bs) : OpOk C n (compareOp .NotEq) (.lst l) (.lst l') (.bool (!bs.all id)) := fun A s a b R _ ra rb => by
  obtain ⟨p, vs, rfl, hp, rp⟩ := ra.lst_inv
  obtain ⟨q, ws, rfl, hq, rq⟩ := rb.lst_inv
  have e1 : vs.toArray.size = ws.toArray.size := by rw [List.size_toArray, List.size_toArray, ← rp.length, ← rq.length]; exact x.len.1
  refine cmp_ofNotEq (RcNeAt.lists (e := fun j => bs.getD j false) hp hq e1 R.units (fun j h1 h2 => ?_) _ _ _ _ ?_)
  · have := x.at A.in1 s rp rq j (by simpa using h1) (by simpa using h2)
    simpa using this
  · rw [List.size_toArray, ← rp.length, ← x.len.2, all_range]
    exact ⟨.bool _, Kp.rfl' s⟩
theorem eqT {l l' : List AV} {bs : List Bool} (x : SEqs l l' bs) : OpOk C n (compareOp .Eq) (.tup l) (.tup l') (.bool (bs.all id)) := fun A s a b R _ ra rb => by
  obtain ⟨p, vs, rfl, hp, rp⟩ := ra.tup_inv
  obtain ⟨q, ws, rfl, hq, rq⟩ := rb.tup_inv
  have e1 : vs.toArray.size = ws.toArray.size := by rw [List.size_toArray, List.size_toArray, ← rp.length, ← rq.length]; exact x.len.1
  refine eq_tupleAt (e := fun j => bs.getD j false) hp hq R.units (fun j h1 h2 => ?_) ?_
  · have := x.at A.in1 s rp rq j (by simpa using h1) (by simpa using h2)
    simpa using this
  · rw [← e1, Nat.min_self, List.size_toArray, ← rp.length, ← x.len.2, all_range, beq_self_eq_true, Bool.and_true]
    exact ⟨.bool _, Kp.rfl' s⟩
theorem neT {l l' : List AV} {bs : List Bool} (x : SEqs l l' bs) : OpOk C n (compareOp .NotEq) (.tup l) (.tup l') (.bool (!bs.all id)) := fun A s a b R _ ra rb => by
  obtain ⟨p, vs, rfl, hp, rp⟩ := ra.tup_inv
  obtain ⟨q, ws, rfl, hq, rq⟩ := rb.tup_inv
  have e1 : vs.toArray.size = ws.toArray.size := by rw [List.size_toArray, List.size_toArray, ← rp.length, ← rq.length]; exact x.len.1
  refine cmp_ofNotEq (RcNeAt.tuples (e := fun j => bs.getD j false) hp hq R.units (fun j h1 h2 => ?_) _ _ _ _ ?_)
  · have := x.at A.in1 s rp rq j (by simpa using h1) (by simpa using h2)
    simpa using this
  · rw [← e1, Nat.min_self, List.size_toArray, ← rp.length, ← x.len.2, all_range, beq_self_eq_true, Bool.and_true]
    exact ⟨.bool _, Kp.rfl' s⟩
theorem SEqs.ints : ∀ (a b : List Int), a.length = b.length → ∃ bs, SEqs (a.map .int) (b.map .int) bs ∧ bs.all id = (a == b)
  | [], [], _ => ⟨[], .nil, rfl⟩
  | x :: a, y :: b, h => by
    obtain ⟨bs, s, e⟩ := SEqs.ints a b (by simpa using h)
    refine ⟨(x == y) :: bs, .int s, ?_⟩
    rw [List.all_cons, e]; rfl
  | [], _ :: _, h => by simp at h
  | _ :: _, [], h => by simp at h
theorem eqLI {a b : List Int} (h : a.length = b.length) : OpOk C n (compareOp .Eq) (.lst (a.map .int)) (.lst (b.map .int)) (.bool (a == b)) := by
  obtain ⟨bs, x, e⟩ := SEqs.ints a b h
  rw [← e]; exact eqL x
theorem neLI {a b : List Int} (h : a.length = b.length) : OpOk C n (compareOp .NotEq) (.lst (a.map .int)) (.lst (b.map .int)) (.bool (a != b)) := by
  obtain ⟨bs, x, e⟩ := SEqs.ints a b h
  rw [show (a != b) = !(a == b) from rfl, ← e]; exact neL x

theorem eqS {a b : Str} : OpOk C n (compareOp .Eq) (.str a) (.str b) (.bool (a == b)) := fun A s x y _ _ ra rb => by
  refine ra.elim_str fun t => rb.elim_str fun u => ?_
  with_reducible refine PyProof.Rows.eq_str ?_
  exact ⟨.bool _, Kp.rfl' s⟩
theorem neS {a b : Str} : OpOk C n (compareOp .NotEq) (.str a) (.str b) (.bool (a != b)) := fun A s x y _ _ ra rb => by
  refine ra.elim_str fun t => rb.elim_str fun u => ?_
  with_reducible refine PyProof.Rows.ne_str ?_
  exact ⟨.bool _, Kp.rfl' s⟩
noncomputable def AV.isNone : AV → Bool
  | .none => true
  | _ => false
theorem isN {a : AV} : OpOk C n (compareOp .Is) a .none (.bool a.isNone) := fun A s x y _ _ ra rb => by
  refine rb.elim_none ?_
  with_reducible refine is_none ?_
  refine ⟨?_, Kp.rfl' s⟩
  have : (x == Value.none) = a.isNone := by cases ra <;> rfl
  rw [this]; exact .bool _
theorem RelAll.mem_int {h : Heap} {a : List Int} : ∀ {vs : List Value}, RelAll h (a.map .int) vs → IntsAre vs a := by
  induction a with
  | nil => intro vs r; exact r.elim0 .nil
  | cons x a ih => intro vs r; exact r.elimc fun y ys r1 r => r1.elim_int fun t => .cons _ _ (ih r)
theorem notInI {k : Int} {a : List Int} : OpOk C n (compareOp .NotIn) (.int k) (.lst (a.map .int)) (.bool (!a.any (· == k))) := fun A s x y _ _ ra rb => by
  refine ra.elim_int fun t => ?_
  obtain ⟨q, ws, rfl, hq, rq⟩ := rb.lst_inv
  have key : ∀ (a : List Int) (ws : List Value), IntsAre ws a → (ws.toArray.any fun y => match y with | .int i _ => i == k | _ => false) = a.any (· == k) := by
    intro a ws h
    induction h with
    | nil => simp
    | cons i t h ih =>
      simp only [List.any_toArray, List.any_cons] at ih ⊢
      rw [ih]
  refine notIn_listAt (fun y => match y with | .int i _ => i == k | _ => false) hq (fun y hy => ?_) ?_
  · have hm : ∀ (a : List Int) (ws : List Value), IntsAre ws a → ∀ y ∈ ws, ∃ i t, y = .int i t := by
      intro a ws h
      induction h with
      | nil => intro y hy; cases hy
      | cons i t h ih =>
        intro y hy
        rcases List.mem_cons.mp hy with rfl | hy
        · exact ⟨_, _, rfl⟩
        · exact ih y hy
    obtain ⟨i, u, rfl⟩ := hm a ws rq.mem_int y (by simpa using hy)
    exact (MeetsSeq.EqGives.int _ _ _ _).at _ s
  · rw [key a ws rq.mem_int]
    exact ⟨.bool _, Kp.rfl' s⟩

/-! lists added, a str repeated -/
theorem RelAll.append {h : Heap} {a : List AV} {vs : List Value} {b : List AV} {ws : List Value} (r : RelAll h a vs) (r' : RelAll h b ws) : RelAll h (a ++ b) (vs ++ ws) := by
  induction r with
  | nil => exact r'
  | cons r1 _ ih => exact .cons r1 ih

/-! methods of a str -/
noncomputable def Meth0 (C : Cx) (name : Str) (a v : AV) : Prop := ∀ (A : Around) (s : Shared) (x : Value) (pos : Pos), Rel s.heap a x → MethodOnS C.prog C.w A bot name x pos [] (fun r s' => Rel s'.heap v r ∧ Kp s s') s
noncomputable def Meth1 (C : Cx) (name : Str) (a b v : AV) : Prop := ∀ (A : Around) (s : Shared) (x : Value) (pos : Pos) (t : Sem Value), Rel s.heap a x → wpAny (model C.prog C.w) A t (fun r s' => Rel s'.heap b r ∧ Kp s s') bot s →
  MethodOnS C.prog C.w A bot name x pos [(false, t)] (fun r s' => Rel s'.heap v r ∧ Kp s s') s
theorem QE.meth0 {o : Expr} {name : Str} {apos pos : Pos} {a v : AV} (ho : QE C n names vars σ o a) (hm : Meth0 C name a v) (hbase : ∀ env, attributeBase o name env (eval o env) = eval o env := by intro _; rfl) (hline : (apos.endLine == pos.line) = true := by decide) :
    QE C n names vars σ (.Call (.Attribute o name apos) [] [] pos) v := .mk fun env A s E R P L =>
  Call_method0 (hbase env) hline (wp_post (ho.run env A s E R P L) fun x s₁ ⟨r, k⟩ => by
    obtain ⟨T, id, p1, p2, p3, p4, p5, h⟩ := hm A s₁ x pos r
    exact ⟨T, id, p1, p2, p3, p4, p5, wp_post h fun y s₂ ⟨r2, k2⟩ => ⟨r2, k.trans' k2⟩⟩)
theorem QE.meth1 {o e : Expr} {name : Str} {apos pos : Pos} {a b v : AV} (ho : QE C n names vars σ o a) (he : QE C n names vars σ e b) (hm : Meth1 C name a b v) (hbase : ∀ env, attributeBase o name env (eval o env) = eval o env := by intro _; rfl) (hline : (apos.endLine == pos.line) = true := by decide)
    (hs : ∀ env, starEach [e] env = [(false, eval e env)] := by intro _; rfl) :
    QE C n names vars σ (.Call (.Attribute o name apos) [e] [] pos) v := .mk fun env A s E R P L =>
  Call_method1 (hbase env) (hs env) hline (wp_post (ho.run env A s E R P L) fun x s₁ ⟨r, k⟩ => by
    obtain ⟨T, id, p1, p2, p3, p4, p5, h⟩ := hm A s₁ x pos (eval e env) r (he.run env A s₁ E R (P.keeps k.heap) (L.keeps k.heap))
    exact ⟨T, id, p1, p2, p3, p4, p5, wp_post h fun y s₂ ⟨r2, k2⟩ => ⟨r2, k.trans' k2⟩⟩)
theorem mFind {x y : Str} : Meth1 C "find" (.str x) (.str y) (.int (Txt.find x y)) := fun A s v pos t r h => by
  refine r.elim_str fun t => ?_
  exact SB.find (wp_post h fun w s₁ z => by refine z.1.elim_str fun u => ?_; exact ⟨_, _, rfl, .int _ _, z.2.trans' (Kp.tok s₁ _)⟩)
theorem mCount {x y : Str} : Meth1 C "count" (.str x) (.str y) (.int (Txt.count x y)) := fun A s v pos t r h => by
  refine r.elim_str fun t => ?_
  exact SB.count (wp_post h fun w s₁ z => by refine z.1.elim_str fun u => ?_; exact ⟨_, _, rfl, .int _ _, z.2.trans' (Kp.tok s₁ _)⟩)
theorem mLower {x : Str} (hf : (Txt.lower x).length ≤ 1000000) : Meth0 C "lower" (.str x) (.str (Txt.lower x)) := fun A s v pos r => by
  refine r.elim_str fun t => ?_
  exact SB.lower (decide_eq_false (Nat.not_lt.mpr (Nat.le_trans hf (by decide)))) ⟨.str _ _, Kp.tok s _⟩
theorem mUpper {x : Str} (hf : (Txt.upper x).length ≤ 1000000) : Meth0 C "upper" (.str x) (.str (Txt.upper x)) := fun A s v pos r => by
  refine r.elim_str fun t => ?_
  exact SB.upper (decide_eq_false (Nat.not_lt.mpr (Nat.le_trans hf (by decide)))) ⟨.str _ _, Kp.tok s _⟩
theorem RelAll.strs {h : Heap} {a : List Str} : ∀ {vs : List Value}, RelAll h (a.map .str) vs → ∃ l : List (Str × Tok), strValues l = vs ∧ l.map (·.1) = a := by
  induction a with
  | nil => intro vs r; exact r.elim0 ⟨[], rfl, rfl⟩
  | cons x a ih =>
    intro vs r
    refine r.elimc fun y ys r1 r => r1.elim_str fun t => ?_
    obtain ⟨l, e1, e2⟩ := ih r
    exact ⟨(x, t) :: l, congrArg (Value.str x t :: ·) e1, congrArg (x :: ·) e2⟩
theorem mJoin {x : Str} {ys : List Str} (hok : JoinOk x ys = true) : Meth1 C "join" (.str x) (.lst (ys.map .str)) (.str (Txt.join x ys)) := fun A s v pos t r h => by
  refine r.elim_str fun t => ?_
  refine SB.join (wp_post h fun w s₁ ⟨r, k⟩ => ?_)
  obtain ⟨q, ws, rfl, hq, rq⟩ := r.lst_inv
  obtain ⟨l, rfl, e⟩ := rq.strs
  exact ⟨q, l, rfl, hq, ys, e, hok, fun t' tk => ⟨.str _ _, k.trans' (Kp.tok s₁ _)⟩⟩

/-! sum -/
theorem ints_items : ∀ {a : List Int} {vs : List Value}, IntsAre vs a → ∃ xs : List (Int × Tok), vs.toArray = intItems xs.toArray ∧ xs.map (·.1) = a := by
  intro a vs h
  induction h with
  | nil => exact ⟨[], by simp [intItems], rfl⟩
  | cons i t h ih =>
    obtain ⟨xs, e1, e2⟩ := ih
    refine ⟨(i, t) :: xs, ?_, by simp [e2]⟩
    have := congrArg Array.toList e1
    apply Array.ext'
    simp only [intItems, List.map_toArray, List.toList_toArray] at this ⊢
    simpa using this
theorem sumL {a : List Int} : CallOk C n (.builtin "sum") [.lst (a.map .int)] (.int a.sum) := fun A s rs R P ra => by
  refine ra.elim1 fun r hr => ?_
  obtain ⟨q, ws, rfl, hq, rq⟩ := hr.lst_inv
  refine sum_listG' R.hd hq rq.mem_int ?_
  intro h' tk t' k
  exact ⟨.int _ _, Kp.of k⟩
where
  sum_listG' {prog : Program} {w : World} {A : Around} {E : Value → Shared → Prop} {s : Shared} {l : Addr} {vs : List Value} {ns : List Int} {Q : Value → Shared → Prop} (hh : A.handled = none) (hl : s.heap.IsList l vs.toArray) (hi : IntsAre vs ns)
      (h : ∀ h' tk t', (∀ b o, s.heap.get? b = some o → h'.get? b = some o) → Q (.int ns.sum t') { s with heap := h', toks := tk }) : wpAny (model prog w) A (call (.builtin "sum") [.ref l]) Q E s := by
    obtain ⟨xs, e1, e2⟩ := ints_items hi
    rw [e1] at hl
    refine sum_intListG hh hl fun h' tk t' k => ?_
    have := h h' tk t' k
    rw [preSum_eq, List.take_of_length_le (by simp)]
    have e3 : (xs.toArray.toList.map (·.1)).sum = ns.sum := by rw [← e2]
    simpa using e3 ▸ this
end
end Mine
end

noncomputable section
open PySem PySem.Calls PyProof.Rows PySem.W PySem.Flt PySem.SeqAt
set_option Elab.async false
set_option linter.unusedVariables false
namespace Mine
section
variable {C : Cx} {n : Nat} {names : List (Str × NameKind)} {vars : Vars} {σ : List (Option AV)}

/-- an item that no heap is asked for -/
noncomputable def Scal (x : AV) (v : Value) : Prop := ∀ h, Rel h x v

/-- what an iterator gives, in order -/
structure Its (C : Cx) (xs : List AV) (s₁ : Shared) (I : Addr) (fp wr : List Addr) (P : Nat → Value → Prop) (St : Nat → Heap → Prop) (s₂ : Shared) : Prop where
  kp : Kp s₁ s₂
  walks : ∀ A : Around, A.handled = none → Walks C.prog C.w A I fp wr xs.length P St
  st : St 0 s₂.heap
  fp : ∀ b ∈ fp, b < s₂.heap.objs.size
  wr : ∀ b ∈ wr, s₁.heap.get? b = none
  items : ∀ (i : Nat) v, P i v → ∃ x, xs[i]? = some x ∧ Scal x v
noncomputable def IterTo (C : Cx) (xs : List AV) (xv : Value) (s₁ : Shared) : Prop :=
  ∀ (A : Around) (Q : Value → Shared → Prop) (E : Value → Shared → Prop), A.handled = none → (∀ I fp wr P St s₂, Its C xs s₁ I fp wr P St s₂ → Q (.ref I) s₂) → wpAny (model C.prog C.w) A (pyIter xv) Q E s₁
/-- an expression that is gone through -/
structure QI (C : Cx) (n : Nat) (names : List (Str × NameKind)) (vars : Vars) (σ : List (Option AV)) (iter : Expr) (xs : List AV) : Prop where
  run : ∀ (env : Env) (A : Around) (s : Shared), EnvOk names env → Lvl n A → Pg C s.heap → Loc s.heap env vars σ →
    wpAny (model C.prog C.w) A (eval iter env) (fun xv s₁ => Kp s s₁ ∧ IterTo C xs xv s₁) bot s

theorem get_fresh (h : Heap) : h.get? h.objs.size = none := by
  cases e : h.get? h.objs.size with
  | none => rfl
  | some o => exact absurd (Heap.lt_size e) (Nat.lt_irrefl _)

theorem iter_list {a : Addr} {xs : List AV} {s₁ : Shared} (h : Rel s₁.heap (.lst xs) (.ref a)) (hs : ∀ (x : AV) (v : Value), x ∈ xs → Rel s₁.heap x v → Scal x v) : IterTo C xs (.ref a) s₁ := fun A Q E hA hq => by
  obtain ⟨a', vs, e, hl, ra⟩ := h.lst_inv
  cases e
  refine iter_list_ hl fun s₂ e st hfp hne => ?_
  subst e
  refine hq _ _ [s₁.heap.objs.size] (fun i v => vs.toArray[i]? = some v) (fun i h => h.IsListIter s₁.heap.objs.size a i ∧ h.IsList a vs.toArray) _ ⟨Kp.push s₁ _, fun A hA => ?_, st, hfp, fun b hb => ?_, fun i v hv => ?_⟩
  · have := Walks.list (prog := C.prog) (w := C.w) (A := A) hA _ a hne vs.toArray
    have e : vs.toArray.size = xs.length := by rw [List.size_toArray]; exact ra.length.symm
    rw [e] at this
    exact this
  · rcases List.mem_cons.mp hb with rfl | hb
    · exact get_fresh _
    · cases hb
  · have hv' : vs[i]? = some v := by simpa using hv
    have hi : i < xs.length := by rw [ra.length]; exact (List.getElem?_eq_some_iff.mp hv').1
    exact ⟨xs[i], List.getElem?_eq_getElem hi, hs _ _ (List.getElem_mem hi) (ra.get i _ _ (List.getElem?_eq_getElem hi) hv')⟩
theorem QI.list {iter : Expr} {xs : List AV} (h : QE C n names vars σ iter (.lst xs)) (hs : ∀ (x : AV), x ∈ xs → ∀ (h : Heap) (v : Value), Rel h x v → Scal x v) : QI C n names vars σ iter xs := .mk fun env A s E R P L =>
  wp_post (h.run env A s E R P L) fun xv s₁ ⟨r, k⟩ => by
    obtain ⟨a, vs, rfl, _⟩ := r.lst_inv
    exact ⟨k, iter_list r fun x v hx hr => hs x hx _ v hr⟩
theorem scal_int {i : Int} {h : Heap} {v : Value} (r : Rel h (.int i) v) : Scal (.int i) v := fun h' => let ⟨_, e⟩ := r.int_ex; e ▸ .int _ _
theorem scal_str {i : Str} {h : Heap} {v : Value} (r : Rel h (.str i) v) : Scal (.str i) v := fun h' => let ⟨_, e⟩ := r.str_ex; e ▸ .str _ _
theorem QI.ints {iter : Expr} {xs : List Int} (h : QE C n names vars σ iter (.lst (xs.map .int))) : QI C n names vars σ iter (xs.map .int) :=
  .list h fun x hx h v r => by obtain ⟨i, _, rfl⟩ := List.mem_map.mp hx; exact scal_int r

theorem walks_bound {prog : Program} {w : World} {A : Around} {I : Addr} {fp wr : List Addr} {k : Nat} {P : Nat → Value → Prop} {St : Nat → Heap → Prop} (W : Walks prog w A I fp wr k P St) : Walks prog w A I fp wr k (fun i v => i < k ∧ P i v) St where
  sub := W.sub
  frame := W.frame
  item := fun i s Q E hi hst h => W.item i s Q E hi hst fun v h' tk hp hs hk => h v h' tk ⟨hi, hp⟩ hs hk
  done := W.done
  self := W.self
noncomputable def irange (a b : Int) : List AV := (List.range (b - a).toNat).map fun (i : Nat) => AV.int (a + (i : Int))
theorem irange_length (a b : Int) : (irange a b).length = (b - a).toNat := by simp [irange]
theorem iter_range {r : Addr} {a b : Int} {t u v : Tok} {s₁ : Shared} (hr : IsRange s₁.heap r a b 1 t u v) (ha : -1000000 ≤ a) (ha' : a ≤ 1000000) (hb : -1000000 ≤ b) (hb' : b ≤ 1000000) : IterTo C (irange a b) (.ref r) s₁ := fun A Q E hA hq => by
  refine wpAny_pyIter_range hr (small_one (by (first | lia | omega)) (by (first | lia | omega)) (by (first | lia | omega)) (by (first | lia | omega))) ?_
  have hsz : Builtin.Range.rangeSize a b 1 = ((b - a).toNat : Int) := by
    unfold Builtin.Range.rangeSize
    simp only [show (1 : Int) > 0 from by decide, if_true]
    split <;> (first | lia | omega)
  refine hq s₁.heap.objs.size [s₁.heap.objs.size] [s₁.heap.objs.size] (fun i v => i < (irange a b).length ∧ ∃ t, v = .int (a + i * 1) t) (fun i h => IsRangeIter h s₁.heap.objs.size (a + (i : Nat) * 1) (((irange a b).length : Int) - (i : Nat)) 1) _ ⟨Kp.push s₁ _, fun A hA => ?_, ?_, fun b hb => ?_, fun b hb => ?_, fun i w ⟨hi, hw⟩ => ?_⟩
  · exact walks_bound (Walks.range (prog := C.prog) (w := C.w) (A := A) hA s₁.heap.objs.size a 1 (irange a b).length)
  · rw [irange_length]
    rw [hsz, show a + ((0 : Nat) : Int) * 1 = a from by (first | lia | omega), show (((b - a).toNat : Nat) : Int) - ((0 : Nat) : Int) = ((b - a).toNat : Int) from by (first | lia | omega)]
    exact Heap.get?_push_size _ rfl
  · rcases List.mem_cons.mp hb with rfl | hb
    · show _ < (s₁.heap.push _).objs.size
      rw [Heap.size_push]; exact Nat.lt_succ_self _
    · cases hb
  · rcases List.mem_cons.mp hb with rfl | hb
    · exact get_fresh _
    · cases hb
  · obtain ⟨t, rfl⟩ := hw
    refine ⟨.int (a + i), ?_, fun h => by rw [Int.mul_one]; exact .int _ _⟩
    rw [irange_length] at hi
    simp [irange, hi]
theorem QI.range1 {x : Str} {p pos : Pos} {e : Expr} {k : Int} (hk : names.lookup x = some .globalImplicit) (hg : (x, GV.none) ∈ C.globs) (hb : (x, .type "range") ∈ C.blts)
    (he : QE C n names vars σ e (.int k)) (h1 : -1000000 ≤ k) (h2 : k ≤ 1000000) (hd : (x == ("__debug__" : Str)) = false := by decide +kernel) (hs : ∀ env, starEach [e] env = [(false, eval e env)] := by intro _; rfl) :
    QI C n names vars σ (.Call (.Name x p) [e] [] pos) (irange 0 k) := .mk fun env A s E R P L => by
  refine wpAny_Call_NameR (wpAny_Name (load_blt E P hk hg hb ?_) hd)
  refine PyProof.Rows.callWith_type1 (spliced_more (wp_post (he.run env A s E R P L) fun v s₁ ⟨r, k1⟩ => spliced_none ?_) (hs env)) (hs env)
  obtain ⟨t, rfl⟩ := r.int_ex
  with_reducible refine call_range_1 ?_
  exact ⟨(k1.trans' (Kp.push s₁ _)).trans' (Kp.tok _ _), iter_range (IsRange.new _ _ _ _ _ _ _) (by (first | lia | omega)) (by (first | lia | omega)) h1 h2⟩
theorem QI.range2 {x : Str} {p pos : Pos} {e f : Expr} {j k : Int} (hk : names.lookup x = some .globalImplicit) (hg : (x, GV.none) ∈ C.globs) (hb : (x, .type "range") ∈ C.blts)
    (he : QE C n names vars σ e (.int j)) (hf : QE C n names vars σ f (.int k)) (h1 : -1000000 ≤ j) (h2 : j ≤ 1000000) (h3 : -1000000 ≤ k) (h4 : k ≤ 1000000) (hd : (x == ("__debug__" : Str)) = false := by decide +kernel)
    (hs : ∀ env, starEach [e, f] env = (false, eval e env) :: starEach [f] env := by intro _; rfl) (hs' : ∀ env, starEach [f] env = [(false, eval f env)] := by intro _; rfl) :
    QI C n names vars σ (.Call (.Name x p) [e, f] [] pos) (irange j k) := .mk fun env A s E R P L => by
  refine wpAny_Call_NameR (wpAny_Name (load_blt E P hk hg hb ?_) hd)
  refine PyProof.Rows.callWith_type1 (spliced_more (wp_post (he.run env A s E R P L) fun v s₁ ⟨r, k1⟩ => spliced_more (wp_post (hf.run env A s₁ E R (P.keeps k1.heap) (L.keeps k1.heap)) fun v' s₂ ⟨r', k2⟩ => spliced_none ?_) (hs' env)) (hs env)) (hs env) (by rw [hs' env]; rfl)
  obtain ⟨t, rfl⟩ := r.int_ex
  obtain ⟨t', rfl⟩ := r'.int_ex
  with_reducible refine call_range_2 ?_
  exact ⟨((k1.trans' k2).trans' (Kp.push s₂ _)).trans' (Kp.tok _ _), iter_range (IsRange.new _ _ _ _ _ _ _) h1 h2 h3 h4⟩

/-! comprehensions -/
noncomputable def absV : Value → AV
  | .int i _ => .int i
  | .float x _ => .flt x
  | .str x _ => .str x
  | .bool b => .bool b
  | .ref a => .acc a
  | _ => .none
theorem absV_scal {x : AV} {v : Value} (h : Scal x v) : absV v = x := by
  cases h {} with
  | none | bool | int | flt | str | acc => rfl
  | tup hi _ _ => obtain ⟨o, e, _⟩ := hi; simp [Heap.get?] at e
  | lst hi _ _ => obtain ⟨o, e, _⟩ := hi; simp [Heap.get?] at e

/-- the tests of a comprehension -/
structure QTests (C : Cx) (n : Nat) (names : List (Str × NameKind)) (vars : Vars) (σ : List (Option AV)) (ifs : List Expr) (b : Bool) : Prop where
  run : ∀ (env : Env) (A : Around) (s : Shared), EnvOk names env → Lvl n A → Pg C s.heap → Loc s.heap env vars σ →
    wpAny (model C.prog C.w) A (forIn ifs true fun c r => if r = true then do let ok ← isTrue c env (eval c env); pure (ForInStep.yield ok) else pure (ForInStep.yield r)) (fun ok s' => ok = b ∧ Kp s s') bot s
theorem QTests.nil : QTests C n names vars σ [] true := .mk fun env A s E R P L => wpAny_tests_nil ⟨rfl, Kp.rfl' s⟩
theorem QTests.one {c : Expr} {b : Bool} (h : QB C n names vars σ c b) : QTests C n names vars σ [c] b := .mk fun env A s E R P L => wpAny_tests_one (h.run env A s E R P L)

noncomputable def relN (sn on : List (Str × NameKind)) : List (Str × NameKind) := sn.map fun (n, k) => if (k == .free && on.lookup n == some .cell) then (n, .cell) else (n, k)
theorem relabel_names {scope : Scope} {env : Env} (E : EnvOk names env) : (relabel scope env).names = relN scope.names names := by
  unfold relabel relN
  simp only [E.kind, E.kindOf, beq_self_eq_true, Bool.and_true]
theorem relN_free {sn on : List (Str × NameKind)} {y : Str} (h : sn.lookup y = some .free) : (relN sn on).lookup y = some .cell ∨ (relN sn on).lookup y = some .free := by
  induction sn with
  | nil => simp at h
  | cons p sn ih =>
    obtain ⟨m, k⟩ := p
    show List.lookup y ((if (k == NameKind.free && on.lookup m == some .cell) = true then (m, NameKind.cell) else (m, k)) :: relN sn on) = _ ∨ List.lookup y ((if (k == NameKind.free && on.lookup m == some .cell) = true then (m, NameKind.cell) else (m, k)) :: relN sn on) = _
    cases hy : y == m with
    | true =>
      simp only [List.lookup_cons, hy, Option.some.injEq] at h
      subst h
      split <;> simp [List.lookup_cons, hy]
    | false =>
      simp only [List.lookup_cons, hy] at h
      split <;> simp only [List.lookup_cons, hy] <;> exact ih h

/-- what the comprehension's block sees of the outer variables -/
inductive Cap (vars : Vars) (σ : List (Option AV)) (sn : List (Str × NameKind)) : Vars → List (Option AV) → Prop where
  | nil : Cap vars σ sn [] []
  | cons {y v vs σ'} : At vars σ y true v → sn.lookup y = some .free → Cap vars σ sn vs σ' → Cap vars σ sn ((y, true) :: vs) (some v :: σ')
theorem Cap.get {sn : List (Str × NameKind)} {vars2 : Vars} {σ2 : List (Option AV)} (c : Cap vars σ sn vars2 σ2) : ∀ (i : Nat) y b v, vars2[i]? = some (y, b) → σ2[i]? = some (some v) → b = true ∧ At vars σ y true v ∧ sn.lookup y = some .free := by
  induction c with
  | nil => intro i y b v e; simp at e
  | cons a1 a2 _ ih =>
    intro i y b v e1 e2
    cases i with
    | zero => simp at e1 e2; obtain ⟨rfl, rfl⟩ := e1; subst e2; exact ⟨rfl, a1, a2⟩
    | succ i => exact ih i y b v (by simpa using e1) (by simpa using e2)
theorem Cap.mem {sn : List (Str × NameKind)} {vars2 : Vars} {σ2 : List (Option AV)} (c : Cap vars σ sn vars2 σ2) : ∀ y ∈ vars2.map (·.1), ∃ v, At vars σ y true v := by
  induction c with
  | nil => intro y hy; cases hy
  | cons a1 _ _ ih =>
    intro y hy
    rcases List.mem_cons.mp hy with rfl | hy
    · exact ⟨_, a1⟩
    · exact ih y hy

theorem closure_loop {env : Env} (f : Str × NameKind → List (Str × Addr) → Sem (ForInStep (List (Str × Addr))))
    (hf1 : ∀ name cs c, env.cells.lookup name = some c → f (name, .free) cs = pure (.yield ((name, c) :: cs))) (hf2 : ∀ name kind cs, kind ≠ .free → f (name, kind) cs = pure (.yield cs)) :
    ∀ (l : List (Str × NameKind)) (acc : List (Str × Addr)), (∀ p ∈ l, p.2 = .free → ∃ c, env.cells.lookup p.1 = some c) → (∀ y c, acc.lookup y = some c → env.cells.lookup y = some c) →
      ∃ cl, forIn l acc f = pure cl ∧ (∀ y c, ((y, NameKind.free) ∈ l ∨ (acc.lookup y).isSome) → env.cells.lookup y = some c → cl.lookup y = some c) := by
  intro l
  induction l with
  | nil =>
    intro acc _ ha
    refine ⟨acc, rfl, fun y c h1 h2 => ?_⟩
    rcases h1 with h1 | h1
    · cases h1
    · obtain ⟨c', e⟩ := Option.isSome_iff_exists.mp h1
      rw [e]
      exact (ha y c' e).symm.trans h2
  | cons p l ih =>
    intro acc hl ha
    obtain ⟨name, kind⟩ := p
    rw [List.forIn_cons]
    by_cases hk : kind = .free
    · subst hk
      obtain ⟨c, hc⟩ := hl (name, .free) (.head _) rfl
      have ha' : ∀ y c', List.lookup y ((name, c) :: acc) = some c' → env.cells.lookup y = some c' := by
        intro y c' e
        rw [List.lookup_cons] at e
        cases hy : y == name with
        | true => rw [hy] at e; cases e; rw [beq_iff_eq.mp hy]; exact hc
        | false => rw [hy] at e; exact ha y c' e
      obtain ⟨cl, e1, e3⟩ := ih ((name, c) :: acc) (fun q hq => hl q (.tail _ hq)) ha'
      refine ⟨cl, ?_, fun y c' h1 h2 => e3 y c' ?_ h2⟩
      · rw [hf1 name acc c hc]
        exact e1
      · rcases h1 with h1 | h1
        · rcases List.mem_cons.mp h1 with h1 | h1
          · right; cases h1; simp
          · exact .inl h1
        · right
          rw [List.lookup_cons]
          cases hy : y == name <;> simp [h1]
    · obtain ⟨cl, e1, e3⟩ := ih acc (fun q hq => hl q (.tail _ hq)) ha
      refine ⟨cl, ?_, fun y c' h1 h2 => e3 y c' ?_ h2⟩
      · rw [hf2 name kind acc hk]
        exact e1
      · rcases h1 with h1 | h1
        · rcases List.mem_cons.mp h1 with h1 | h1
          · cases h1; exact absurd rfl hk
          · exact .inl h1
        · exact .inr h1
theorem closure_of {env : Env} {scope : Scope} (h : ∀ p ∈ scope.names, p.2 = .free → ∃ c, env.cells.lookup p.1 = some c) : ∃ cl, closureFor scope env = pure cl ∧ ∀ y c, (y, NameKind.free) ∈ scope.names → env.cells.lookup y = some c → cl.lookup y = some c := by
  unfold closureFor
  obtain ⟨cl, e1, e3⟩ := closure_loop (env := env) (fun (x : Str × NameKind) (r : List (Str × Addr)) => match x with
      | (name, kind) => if (kind == NameKind.free) = true then do let a ← cellOf env name; pure (ForInStep.yield ((name, a) :: r)) else pure (ForInStep.yield r))
    (fun name cs c hc => by
      have hco : cellOf env name = pure c := by unfold cellOf; rw [hc]
      simp [hco]) (fun name kind cs hk => by simp [hk]) scope.names [] h (fun y c e => by cases e)
  refine ⟨cl, ?_, fun y c h1 h2 => e3 y c (.inl h1) h2⟩
  have : ∀ (g : Str × NameKind → List (Str × Addr) → Sem (ForInStep (List (Str × Addr)))), (∀ x r, g x r = (match x with
      | (name, kind) => if (kind == NameKind.free) = true then do let a ← cellOf env name; pure (ForInStep.yield ((name, a) :: r)) else pure (ForInStep.yield r))) → (forIn scope.names [] g >>= fun cs => pure cs) = (pure cl : Sem (List (Str × Addr))) := by
    intro g hg
    rw [show g = _ from funext fun x => funext fun r => hg x r, e1]
    rfl
  exact this _ fun x r => by
    obtain ⟨name, kind⟩ := x
    rfl
end
end Mine
end

noncomputable section
open PySem PySem.Calls PyProof.Rows PySem.W PySem.Flt PySem.SeqAt
set_option Elab.async false
set_option linter.unusedVariables false
namespace Mine
section
variable {C : Cx} {n : Nat} {names : List (Str × NameKind)} {vars : Vars} {σ : List (Option AV)}

theorem At.var {h : Heap} {env : Env} {y : Str} {c : Bool} {v : AV} (a : At vars σ y c v) (L : Loc h env vars σ) : ∃ r, VarIs h env y c r ∧ Rel h v r := by
  obtain ⟨i, e1, e2⟩ := a.get
  exact L i y c v e1 e2

/-- the scope of a comprehension, looked at once -/
structure CompScope (scope : Scope) (x : Str) : Prop where
  kind : scope.kind = .function
  cell : ∀ y ∈ scope.names, y.2 ≠ .cell
  names : ∀ y ∈ scope.names, y.2 = .local → scope.names.lookup y.1 = some .local
  x : scope.names.lookup x = some .local
noncomputable def compScopeB (scope : Scope) (x : Str) : Bool := scope.kind == .function && scope.names.all (fun y => y.2 != .cell && (y.2 != .local || scope.names.lookup y.1 == some .local)) && scope.names.lookup x == some .local
theorem compScope {scope : Scope} {x : Str} (h : compScopeB scope x = true) : CompScope scope x := by
  unfold compScopeB at h
  obtain ⟨h, h3⟩ := Bool.and_eq_true_iff.mp h
  obtain ⟨h1, h2⟩ := Bool.and_eq_true_iff.mp h
  refine ⟨beq_iff_eq.mp h1, fun y hy => ?_, fun y hy hl => ?_, beq_iff_eq.mp h3⟩
  · have := List.all_eq_true.mp h2 y hy
    simp only [Bool.and_eq_true, bne_iff_ne] at this
    exact this.1
  · have := List.all_eq_true.mp h2 y hy
    simp only [Bool.and_eq_true, Bool.or_eq_true, bne_iff_ne, beq_iff_eq] at this
    exact this.2.resolve_left (fun h => h hl)
noncomputable def freeIn (scope : Scope) (vs : Vars) : Bool := scope.names.all fun p => p.2 != .free || (vs.map (·.1)).contains p.1
theorem freeIn_mem {scope : Scope} {vs : Vars} (h : freeIn scope vs = true) : ∀ p ∈ scope.names, p.2 = .free → p.1 ∈ vs.map (·.1) := fun p hp hf => by
  have := List.all_eq_true.mp h p hp
  simp only [Bool.or_eq_true, bne_iff_ne, List.contains_iff_mem] at this
  exact this.resolve_left (fun h => h hf)

theorem cap_cells {sn : List (Str × NameKind)} {vars2 : Vars} {σ2 : List (Option AV)} {h : Heap} {env : Env} (cap : Cap vars σ sn vars2 σ2) (L : Loc h env vars σ) : ∀ y ∈ vars2.map (·.1), ∃ c, env.cells.lookup y = some c := fun y hy => by
  obtain ⟨v, a⟩ := cap.mem y hy
  obtain ⟨r, hv, _⟩ := a.var L
  obtain ⟨_, c, e, _⟩ := hv
  exact ⟨c, e⟩

/-- the block's own variables -/
theorem comp_loc {scope : Scope} {x : Str} {vars2 : Vars} {σ2 : List (Option AV)} {env : Env} {cl : List (Str × Addr)} {h h₃ : Heap} {B : Addr} {m₃ : Str → Option Value} {v : Value} {a : AV} (E : EnvOk names env) (S : CompScope scope x) (cap : Cap vars σ scope.names vars2 σ2)
    (hcl : ∀ y c, (y, NameKind.free) ∈ scope.names → env.cells.lookup y = some c → cl.lookup y = some c) (L : Loc h env vars σ) (hk : ∀ b o, h.get? b = some o → h₃.get? b = some o) (hn : h₃.Ns B m₃) (hm : m₃ x = some v) (hv : Rel h₃ a v) :
    EnvOk (relN scope.names names) (compEnvC scope cl B env) ∧ Loc h₃ (compEnvC scope cl B env) ((x, false) :: vars2) (some a :: σ2) := by
  have hnm : (compEnvC scope cl B env).scope.names = relN scope.names names := relabel_names E
  refine ⟨⟨S.kind, hnm, E.globals, E.builtins⟩, fun i y c u e1 e2 => ?_⟩
  cases i with
  | zero =>
    simp at e1 e2
    obtain ⟨rfl, rfl⟩ := e1
    subst e2
    refine ⟨v, ⟨?_, m₃, hn, hm⟩, hv⟩
    exact lookup_relabel_local S.x
  | succ i =>
    obtain ⟨rfl, at', hf⟩ := cap.get i y c u (by simpa using e1) (by simpa using e2)
    obtain ⟨r, ⟨_, ca, ce, cc⟩, hr⟩ := at'.var L
    refine ⟨r, ⟨?_, ca, ?_, cc.keeps hk⟩, hr.keeps hk⟩
    · show (compEnvC scope cl B env).scope.names.lookup y = _ ∨ (compEnvC scope cl B env).scope.names.lookup y = _
      rw [hnm]
      exact relN_free hf
    · exact hcl y ca (mem_of_lookup hf) ce

theorem paired_rel {tv : AV → Bool} {fv : AV → AV} {h : Heap} : ∀ {vs ys : List Value}, Paired (fun v y => Rel h (fv (absV v)) y) vs ys → RelAll h ((vs.map absV).map fv) ys
  | _, _, .nil => .nil
  | _, _, .cons h1 h2 => .cons h1 (paired_rel (tv := tv) h2)

theorem paired_mono {F G : Value → Value → Prop} : ∀ {vs ys : List Value}, Paired F vs ys → (∀ v y, v ∈ vs → F v y → G v y) → Paired G vs ys
  | _, _, .nil, _ => .nil
  | _, _, .cons h1 h2, h => .cons (h _ _ (.head _) h1) (paired_mono h2 fun v y hv => h v y (.tail _ hv))

/-- items read off -/
theorem items_abs {xs : List AV} {P : Nat → Value → Prop} (hi : ∀ (i : Nat) v, P i v → ∃ x, xs[i]? = some x ∧ Scal x v) {vs : List Value} (hl : vs.length = xs.length) (hP : ∀ (j : Nat) v, vs[j]? = some v → P j v) : vs.map absV = xs := by
  apply List.ext_getElem?
  intro i
  rw [List.getElem?_map]
  by_cases h : i < vs.length
  · rw [List.getElem?_eq_getElem h]
    obtain ⟨x, e, sc⟩ := hi i vs[i] (hP i _ (List.getElem?_eq_getElem h))
    rw [e, ← absV_scal sc]; rfl
  · rw [List.getElem?_eq_none (by (first | lia | omega)), List.getElem?_eq_none (by (first | lia | omega))]; rfl

structure CompOk (C : Cx) (n : Nat) (names : List (Str × NameKind)) (vars : Vars) (σ : List (Option AV)) (scope : Scope) (x : Str) (iter : Expr) (ifs : List Expr) (elt : Expr) (xs : List AV) (tv : AV → Bool) (fv : AV → AV) : Prop where
  sc : CompScope scope x
  cap : ∃ vars2 σ2, Cap vars σ scope.names vars2 σ2 ∧ freeIn scope vars2 = true ∧
    (∀ a ∈ xs, QTests C n (relN scope.names names) ((x, false) :: vars2) (some a :: σ2) ifs (tv a)) ∧
    (∀ a ∈ xs, tv a = true → QE C n (relN scope.names names) ((x, false) :: vars2) (some a :: σ2) elt (fv a))
  iter : QI C n names vars σ iter xs
  size : xs.length ≤ 100000
  scal : ∀ a ∈ xs, ∀ (h : Heap) (v : Value), Rel h (fv a) v → Scal (fv a) v

theorem comp_quiet {scope : Scope} {x : Str} {iter elt : Expr} {ifs : List Expr} {xs : List AV} {tv : AV → Bool} {fv : AV → AV} (K : CompOk C n names vars σ scope x iter ifs elt xs tv fv) {env : Env} {A : Around} {s : Shared} (E : EnvOk names env) (R : Lvl n A) (P : Pg C s.heap) (L : Loc s.heap env vars σ) :
    ∃ cl, closureFor scope env = pure cl ∧ ∀ (s₁ s₂ : Shared) (I : Addr) (fp wr : List Addr) (Pi : Nat → Value → Prop) (St : Nat → Heap → Prop), Kp s s₁ → Its C xs s₁ I fp wr Pi St s₂ →
      QuietOnC C.prog C.w A env scope cl x ifs elt wr Pi (fun v => tv (absV v)) (fun v y => Scal (fv (absV v)) y) s₂ := by
  obtain ⟨vars2, σ2, cap, hfree, ht, he⟩ := K.cap
  obtain ⟨cl, hcl, hlk⟩ := closure_of (env := env) (scope := scope) fun p hp hf => cap_cells cap L p.1 (freeIn_mem hfree p hp hf)
  refine ⟨cl, hcl, fun s₁ s₂ I fp wr Pi St k1 its => ⟨?_, ?_⟩⟩
  · intro B i v s₃ m₃ E' hB hPi hns hm hk htk
    obtain ⟨a, ea, sc⟩ := its.items i v hPi
    have hk3 : ∀ b o, s.heap.get? b = some o → s₃.heap.get? b = some o := fun b o e => hk b o (fun hm => by have h1 := k1.heap b o e; rw [its.wr b hm] at h1; cases h1) (its.kp.heap b o (k1.heap b o e))
    obtain ⟨E3, L3⟩ := comp_loc E K.sc cap hlk L hk3 hns hm (sc s₃.heap)
    rw [absV_scal sc]
    exact wpAny_mono ((ht a (List.mem_of_getElem? ea)).run _ A s₃ E3 R (P.keeps hk3) L3) (fun ok s₄ ⟨e, k⟩ => ⟨e, k.keeps⟩) fun _ _ f => f.elim
  · intro B i v s₃ m₃ E' hB hPi hpv hns hm hk htk
    obtain ⟨a, ea, sc⟩ := its.items i v hPi
    have hk3 : ∀ b o, s.heap.get? b = some o → s₃.heap.get? b = some o := fun b o e => hk b o (fun hm => by have h1 := k1.heap b o e; rw [its.wr b hm] at h1; cases h1) (its.kp.heap b o (k1.heap b o e))
    obtain ⟨E3, L3⟩ := comp_loc E K.sc cap hlk L hk3 hns hm (sc s₃.heap)
    rw [absV_scal sc] at hpv ⊢
    exact wpAny_mono ((he a (List.mem_of_getElem? ea) hpv).run _ A s₃ E3 R (P.keeps hk3) L3) (fun ok s₄ ⟨e, k⟩ => ⟨K.scal a (List.mem_of_getElem? ea) _ _ e, k.keeps⟩) fun _ _ f => f.elim
end
end Mine
end

noncomputable section
open PySem PySem.Calls PyProof.Rows PySem.W PySem.Flt PySem.SeqAt
set_option Elab.async false
set_option linter.unusedVariables false
namespace Mine
section
variable {C : Cx} {n : Nat} {names : List (Str × NameKind)} {vars : Vars} {σ : List (Option AV)}

theorem comp_rel {xs : List AV} {tv : AV → Bool} {fv : AV → AV} {P : Nat → Value → Prop} (hi : ∀ (i : Nat) v, P i v → ∃ x, xs[i]? = some x ∧ Scal x v) {vs : List Value} {ys : Array Value} {h : Heap} {D : Addr} (hl : vs.length = xs.length) (hP : ∀ (j : Nat) v, vs[j]? = some v → P j v)
    (hF : Paired (fun v y => Scal (fv (absV v)) y) (vs.filter fun v => tv (absV v)) ys.toList) (hD : h.IsList D ys) : Rel h (.lst ((xs.filter tv).map fv)) (.ref D) := by
  have e := items_abs hi hl hP
  have e2 : xs.filter tv = (vs.filter fun v => tv (absV v)).map absV := by
    rw [← e, List.filter_map]; rfl
  rw [e2]
  refine .lst' (vs := ys.toList) (by simpa using hD) ?_
  exact paired_rel (tv := tv) (paired_mono hF fun v y _ s => s h)

theorem QE.comp {scope : Scope} {x : Str} {px pos : Pos} {iter elt : Expr} {ifs : List Expr} {xs : List AV} {tv : AV → Bool} {fv : AV → AV} (K : CompOk C n names vars σ scope x iter ifs elt xs tv fv) (hs : ∀ env x, foldedSetIterable iter env x = pure x := by intro _ _; rfl) :
    QE C n names vars σ (.ListComp elt [⟨.Name x px, iter, ifs, 0⟩] scope pos) (.lst ((xs.filter tv).map fv)) := .mk fun env A s E R P L => by
  obtain ⟨cl, hcl, hq⟩ := comp_quiet K E R P L
  refine wpAny_ListComp_free (fun v => tv (absV v)) (fun v y => Scal (fv (absV v)) y) hcl K.sc.cell K.sc.kind K.sc.names K.sc.x ?_ (hs env)
  refine wp_post (K.iter.run env A s E R P L) fun xv s₁ ⟨k1, it⟩ => it A _ _ R.hd fun I fp wr Pi St s₂ its => ?_
  refine ⟨I, fp, wr, xs.length, Pi, St, rfl, its.walks A R.hd, Nat.le_trans K.size (by decide), its.st, its.fp, hq s₁ s₂ I fp wr Pi St k1 its, fun D h' tk ys vs hD hl hpl hlen hP hF hk => ?_⟩
  refine ⟨comp_rel its.items hlen hP hF hl, ?_⟩
  obtain ⟨h1, t1, e1, q1⟩ := k1.keeps
  obtain ⟨h2, t2, e2, q2⟩ := its.kp.keeps
  refine ⟨h', tk, by rw [e2, e1], fun b o e => ?_⟩
  have h3 := k1.heap b o e
  exact hk b o (fun hm => by rw [its.wr b hm] at h3; cases h3) (its.kp.heap b o h3)

/-! things that change: an accumulator, a row of ints -/
inductive MO where
  | acc (d : Addr) (k : Int) (l : List (Str × Str))
  | row (l : List Int)
noncomputable def MO.side : MO → List Addr
  | .acc d _ _ => [d]
  | .row _ => []
noncomputable def accCls : Addr := 101
noncomputable def pairV (p : Str × Str) : AV := .tup [.str p.1, .str p.2]
noncomputable def MoAt (h : Heap) (a : Addr) : MO → Prop
  | .acc d k l => (∃ vs ep, h.get? a = some { cls := .ref accCls, dict := some d, data := .seq (List.toArray vs) ep } ∧ RelAll h (l.map pairV) vs) ∧
      ∃ hs kt tk ep', h.get? d = some { cls := .type "dict", data := .dict #[⟨hs, .str "_initial_size" kt, .int k tk⟩] ep' }
  | .row l => ∃ vs, h.IsList a (List.toArray vs) ∧ IntsAre vs l
noncomputable abbrev Mu := List (Addr × MO)
noncomputable def muAll (μ : Mu) : List Addr := μ.flatMap fun p => p.1 :: p.2.side
structure MuOk (h : Heap) (μ : Mu) : Prop where
  at' : ∀ p ∈ μ, MoAt h p.1 p.2
  nd : (muAll μ).Nodup
  low : ∀ b ∈ muAll μ, 170 ≤ b
theorem mem_muAll {μ : Mu} {p : Addr × MO} (h : p ∈ μ) : p.1 ∈ muAll μ := List.mem_flatMap.mpr ⟨p, h, .head _⟩
theorem mem_muSide {μ : Mu} {p : Addr × MO} (h : p ∈ μ) {d : Addr} (hd : d ∈ p.2.side) : d ∈ muAll μ := List.mem_flatMap.mpr ⟨p, h, .tail _ hd⟩
/-- what keeps a changing thing as it is -/
theorem MoAt.mono {h h' : Heap} {a : Addr} {m : MO} (x : MoAt h a m) (hk : ∀ b o, (b = a ∨ b ∈ m.side ∨ SeqObj o) → h.get? b = some o → h'.get? b = some o) : MoAt h' a m := by
  cases m with
  | acc d k l =>
    obtain ⟨⟨vs, ep, e, r⟩, hs, kt, tk, ep', e'⟩ := x
    exact ⟨⟨vs, ep, hk _ _ (.inl rfl) e, r.mono fun b o so e => hk b o (.inr (.inr so)) e⟩, hs, kt, tk, ep', hk _ _ (.inr (.inl (.head _))) e'⟩
  | row l =>
    obtain ⟨vs, ⟨o, e, r⟩, i⟩ := x
    exact ⟨vs, ⟨o, hk _ _ (.inl rfl) e, r⟩, i⟩
theorem MuOk.mono {h h' : Heap} {μ : Mu} (x : MuOk h μ) (hk : ∀ b o, (b ∈ muAll μ ∨ SeqObj o) → h.get? b = some o → h'.get? b = some o) : MuOk h' μ :=
  ⟨fun p hp => (x.at' p hp).mono fun b o hb e => hk b o (by
    rcases hb with rfl | hb | hb
    · exact .inl (mem_muAll hp)
    · exact .inl (mem_muSide hp hb)
    · exact .inr hb) e, x.nd, x.low⟩
theorem MoAt.live {h : Heap} {a : Addr} {m : MO} (x : MoAt h a m) : (∃ o, h.get? a = some o) ∧ ∀ d ∈ m.side, ∃ o, h.get? d = some o := by
  cases m with
  | acc d k l =>
    obtain ⟨⟨vs, ep, e, r⟩, hs, kt, tk, ep', e'⟩ := x
    exact ⟨⟨_, e⟩, fun d' hd => by rcases List.mem_cons.mp hd with rfl | hd; exact ⟨_, e'⟩; cases hd⟩
  | row l =>
    obtain ⟨vs, ⟨o, e, r⟩, i⟩ := x
    exact ⟨⟨_, e⟩, fun d hd => by cases hd⟩
theorem MuOk.live {h : Heap} {μ : Mu} (x : MuOk h μ) : ∀ b ∈ muAll μ, ∃ o, h.get? b = some o := fun b hb => by
  obtain ⟨p, hp, hb⟩ := List.mem_flatMap.mp hb
  rcases List.mem_cons.mp hb with rfl | hb
  · exact (x.at' p hp).live.1
  · exact (x.at' p hp).live.2 b hb

/-- what a step may write, of the old -/
noncomputable def Wr (q : Bool) (env : Env) (μ : Mu) (b : Addr) : Prop := b = env.locals ∨ (∃ x, env.cells.lookup x = some b) ∨ b ∈ μ.map (·.1) ∨ (q = false ∧ b ∈ tabs)
noncomputable def SeqKeep (h h' : Heap) : Prop := ∀ b o, SeqObj o → h.get? b = some o → h'.get? b = some o
/-- a step: the old that it may not write stays -/
structure Stp (q : Bool) (W : Addr → Prop) (s s' : Shared) : Prop where
  keep : ∀ b o, ¬ W b → s.heap.get? b = some o → s'.heap.get? b = some o
  live : ∀ b o, s.heap.get? b = some o → ∃ o', s'.heap.get? b = some o'
  seq : q = false → SeqKeep s.heap s'.heap
  shape : if q = true then ∃ h tk, s' = { s with heap := h, toks := tk } else ∃ h g tk, s' = { s with heap := h, toks := tk, gens := g } ∧ (AllBare s.gens → AllBare g)
theorem Stp.refl (q : Bool) (W : Addr → Prop) (s : Shared) : Stp q W s s := ⟨fun _ _ _ e => e, fun b o e => ⟨o, e⟩, fun _ _ _ _ e => e, by
  split
  · exact ⟨s.heap, s.toks, rfl⟩
  · exact ⟨s.heap, s.gens, s.toks, rfl, id⟩⟩
theorem Stp.trans {q : Bool} {W : Addr → Prop} {s s' s'' : Shared} (a : Stp q W s s') (b : Stp q W s' s'') : Stp q W s s'' := ⟨fun c o hc e => b.keep c o hc (a.keep c o hc e), fun c o e => let ⟨o', e'⟩ := a.live c o e; b.live c o' e', fun hq c o so e => b.seq hq c o so (a.seq hq c o so e), by
  have h1 := a.shape
  have h2 := b.shape
  cases q with
  | true =>
    simp only [if_true] at h1 h2 ⊢
    obtain ⟨h, t, rfl⟩ := h1
    obtain ⟨h', t', rfl⟩ := h2
    exact ⟨h', t', rfl⟩
  | false =>
    simp only [Bool.false_eq_true, if_false] at h1 h2 ⊢
    obtain ⟨h, g, t, rfl, k⟩ := h1
    obtain ⟨h', g', t', rfl, k'⟩ := h2
    exact ⟨h', g', t', rfl, fun x => k' (k x)⟩⟩
theorem Stp.mono {q : Bool} {W W' : Addr → Prop} {s s' : Shared} (a : Stp q W s s') (h : ∀ b, s.heap.get? b ≠ none → W b → W' b) : Stp q W' s s' :=
  ⟨fun b o hb e => a.keep b o (fun w => hb (h b (by rw [e]; simp) w)) e, a.live, a.seq, a.shape⟩
theorem Kp.stp {q : Bool} {W : Addr → Prop} {s s' : Shared} (k : Kp s s') : Stp q W s s' := ⟨fun b o _ e => k.heap b o e, fun b o e => ⟨o, k.heap b o e⟩, fun _ b o _ e => k.heap b o e, by
  obtain ⟨h, t, e, _⟩ := k.keeps
  split
  · exact ⟨h, t, e⟩
  · exact ⟨h, s.gens, t, e, id⟩⟩
theorem Stp.kp {W : Addr → Prop} {s s' : Shared} (a : Stp true W s s') (h : ∀ b, s.heap.get? b ≠ none → ¬ W b) : Kp s s' := by
  have h1 := a.shape
  simp only [if_true] at h1
  obtain ⟨h', t, rfl⟩ := h1
  exact ⟨h', t, rfl, fun b o e => a.keep b o (h b (by rw [e]; simp)) e⟩

/-! the frame of a call -/
noncomputable def Own (env : Env) (b : Addr) : Prop := b = env.locals ∨ ∃ x, env.cells.lookup x = some b
structure Frm (C : Cx) (names : List (Str × NameKind)) (vars : Vars) (σ : List (Option AV)) (μ : Mu) (env : Env) (s : Shared) : Prop where
  ok : EnvOk names env
  pg : Pg C s.heap
  low : ∀ b, Own env b → 170 ≤ b
  sep : ∀ b, Own env b → b ∉ muAll μ
  nodup : (vars.map (·.1)).Nodup
  kinds : ∀ p ∈ vars, (p.2 = false → names.lookup p.1 = some .local) ∧ (p.2 = true → names.lookup p.1 = some .cell ∧ (env.cells.lookup p.1).isSome)
  len : σ.length = vars.length
  apart : env.cells.Pairwise fun x y => x.2 ≠ y.2
  above : ∀ x c, (x, c) ∈ env.cells → env.locals ≠ c
  mu : MuOk s.heap μ
  val : ∃ (m cm : Str → Option Value), s.heap.Ns env.locals m ∧ (∀ x c, env.cells.lookup x = some c → s.heap.IsCell c (cm x)) ∧
    ∀ (i : Nat) x c v, vars[i]? = some (x, c) → σ[i]? = some (some v) → ∃ r, (if c = true then cm x else m x) = some r ∧ Rel s.heap v r

section
variable {μ : Mu} {env : Env} {s s' : Shared}
theorem Frm.loc (F : Frm C names vars σ μ env s) : Loc s.heap env vars σ := fun i x c v e1 e2 => by
  obtain ⟨m, cm, hn, hc, hv⟩ := F.val
  obtain ⟨r, hr, hR⟩ := hv i x c v e1 e2
  refine ⟨r, ?_, hR⟩
  have hk := F.kinds (x, c) (List.mem_of_getElem? e1)
  cases c with
  | false => exact ⟨by rw [F.ok.kindOf]; exact hk.1 rfl, m, hn, hr⟩
  | true =>
    obtain ⟨k1, k2⟩ := hk.2 rfl
    obtain ⟨a, ea⟩ := Option.isSome_iff_exists.mp k2
    refine ⟨.inl (by rw [F.ok.kindOf]; exact k1), a, ea, ?_⟩
    have := hc x a ea
    rw [show cm x = some r from hr] at this
    exact this
theorem ns_notSeq {h : Heap} {L : Addr} {m : Str → Option Value} (hn : h.Ns L m) {o : Obj} (e : h.get? L = some o) : ¬ SeqObj o := fun ⟨_, xs, k, d⟩ => by
  obtain ⟨o', es, ep, e', d', _⟩ := hn
  rw [e] at e'; cases e'
  rw [d] at d'; cases d'
theorem cell_notSeq {h : Heap} {L : Addr} {v : Option Value} (hn : h.IsCell L v) {o : Obj} (e : h.get? L = some o) : ¬ SeqObj o := fun ⟨_, xs, k, d⟩ => by
  obtain ⟨o', e', d'⟩ := hn
  rw [e] at e'; cases e'
  rw [d] at d'; cases d'
theorem sameBut_seq {h h' : Heap} {L : Addr} (hs : Heap.SameBut L h h') (hL : ∀ o, h.get? L = some o → ¬ SeqObj o) : ∀ b o, SeqObj o → h.get? b = some o → h'.get? b = some o := fun b o so e => by
  by_cases hb : b = L
  · subst hb; exact absurd so (hL o e)
  · exact (hs.2 b hb).trans e
theorem IsCell.at'' {h h' : Heap} {c : Addr} {v : Option Value} (x : h.IsCell c v) (hk : ∀ o, h.get? c = some o → h'.get? c = some o) : h'.IsCell c v := let ⟨o, e, d⟩ := x; ⟨o, hk o e, d⟩

/-- a change elsewhere -/
theorem Frm.step (F : Frm C names vars σ μ env s) (hk : ∀ b o, (b < 170 ∨ Own env b ∨ b ∈ muAll μ ∨ SeqObj o) → s.heap.get? b = some o → s'.heap.get? b = some o) : Frm C names vars σ μ env s' := by
  obtain ⟨m, cm, hn, hc, hv⟩ := F.val
  exact ⟨F.ok, F.pg.step fun b o lb e => hk b o (.inl lb) e, F.low, F.sep, F.nodup, F.kinds, F.len, F.apart, F.above, F.mu.mono fun b o hb e => hk b o (by rcases hb with h | h; exact .inr (.inr (.inl h)); exact .inr (.inr (.inr h))) e,
    m, cm, hn.at' fun o e => hk _ o (.inr (.inl (.inl rfl))) e, fun x c e => IsCell.at'' (hc x c e) fun o e' => hk _ o (.inr (.inl (.inr ⟨x, e⟩))) e',
    fun i x c v e1 e2 => let ⟨r, a, b⟩ := hv i x c v e1 e2; ⟨r, a, b.mono fun b o so e => hk b o (.inr (.inr (.inr so))) e⟩⟩
theorem Frm.kp (F : Frm C names vars σ μ env s) (k : Kp s s') : Frm C names vars σ μ env s' := F.step fun b o _ e => k.heap b o e

/-- place of a variable -/
inductive Put : Vars → List (Option AV) → Str → AV → List (Option AV) → Prop where
  | here {vs o σ x c v} : Put ((x, c) :: vs) (o :: σ) x v (some v :: σ)
  | there {vs o σ σ' x v p} : Put vs σ x v σ' → Put (p :: vs) (o :: σ) x v (o :: σ')
theorem Put.get {x : Str} {v : AV} {σ' : List (Option AV)} (p : Put vars σ x v σ') : ∃ (i : Nat) (c : Bool), vars[i]? = some (x, c) ∧ σ' = σ.set i (some v) ∧ i < σ.length := by
  induction p with
  | @here vs o σ x c v => exact ⟨0, c, rfl, rfl, by simp⟩
  | there _ ih =>
    obtain ⟨i, c, a, b, l⟩ := ih
    exact ⟨i + 1, c, by simpa using a, by simp [b], by simpa using l⟩
theorem get_set_cases {l : List (Option AV)} {i j : Nat} {v u : AV} (h : (l.set i (some v))[j]? = some (some u)) : (j = i ∧ u = v) ∨ (j ≠ i ∧ l[j]? = some (some u)) := by
  by_cases e : j = i
  · subst e
    rw [List.getElem?_set] at h
    simp at h
    exact .inl ⟨rfl, h.2.symm⟩
  · rw [List.getElem?_set_ne (Ne.symm e)] at h
    exact .inr ⟨e, h⟩
theorem nodup_names {i j : Nat} {x y : Str} {c d : Bool} (hn : (vars.map (·.1)).Nodup) (h1 : vars[i]? = some (x, c)) (h2 : vars[j]? = some (y, d)) (hij : j ≠ i) : y ≠ x := fun e => by
  subst e
  have a1 : (vars.map (·.1))[i]? = some y := by rw [List.getElem?_map, h1]; rfl
  have a2 : (vars.map (·.1))[j]? = some y := by rw [List.getElem?_map, h2]; rfl
  obtain ⟨l1, b1⟩ := List.getElem?_eq_some_iff.mp a1
  obtain ⟨l2, b2⟩ := List.getElem?_eq_some_iff.mp a2
  have pw := List.pairwise_iff_getElem.mp hn
  rcases Nat.lt_or_gt_of_ne hij with h | h
  · exact pw j i l2 l1 h (b2.trans b1.symm)
  · exact pw i j l1 l2 h (b1.trans b2.symm)

/-- storing a name -/
theorem frm_store {q : Bool} {A : Around} {M : Model} {E : Value → Shared → Prop} {x : Str} {v : AV} {r : Value} {σ' : List (Option AV)} {Q : Unit → Shared → Prop} (F : Frm C names vars σ μ env s) (p : Put vars σ x v σ') (hr : Rel s.heap v r)
    (h : ∀ s', Frm C names vars σ' μ env s' → Stp q (Wr q env μ) s s' → SeqKeep s.heap s'.heap → Q () s') : wpAny M A (storeName env x r) Q E s := by
  obtain ⟨i, c, hi, rfl, hlt⟩ := p.get
  obtain ⟨m, cm, hn, hcs, hv⟩ := F.val
  have hk := F.kinds (x, c) (List.mem_of_getElem? hi)
  have mk : ∀ (Z : Addr) (h' : Heap) (tk : Nat), Own env Z → (∀ o, s.heap.get? Z = some o → ¬ SeqObj o) → Heap.SameBut Z s.heap h' → (∃ o, h'.get? Z = some o) →
      (∃ (m cm : Str → Option Value), h'.Ns env.locals m ∧ (∀ x c, env.cells.lookup x = some c → h'.IsCell c (cm x)) ∧
        ∀ (j : Nat) y d u, vars[j]? = some (y, d) → (σ.set i (some v))[j]? = some (some u) → ∃ r, (if d = true then cm y else m y) = some r ∧ Rel h' u r) → Q () { s with heap := h', toks := tk } := by
    intro Z h' tk hZ hZs hs' hlive hval
    have sq := sameBut_seq hs' hZs
    have ne : ∀ b o, b ≠ Z → s.heap.get? b = some o → h'.get? b = some o := fun b o hb e => (hs'.2 b hb).trans e
    refine h _ ⟨F.ok, F.pg.step fun b o lb e => ne b o (fun hb => ?_) e, F.low, F.sep, F.nodup, F.kinds, by rw [List.length_set]; exact F.len, F.apart, F.above,
      F.mu.mono fun b o hb e => ?_, hval⟩ ⟨fun b o hb e => ne b o (fun e' => hb ?_) e, fun b o e => ?_, fun _ => sq, ?_⟩ sq
    · exact absurd (Nat.lt_of_lt_of_le (hb ▸ lb) (F.low Z hZ)) (Nat.lt_irrefl _)
    · rcases hb with hb | hb
      · exact ne b o (fun e' => F.sep Z hZ (e' ▸ hb)) e
      · exact sq b o hb e
    · subst e'
      rcases hZ with rfl | ⟨y, hy⟩
      · exact .inl rfl
      · exact .inr (.inl ⟨y, hy⟩)
    · by_cases hb : b = Z
      · subst hb; exact hlive
      · exact ⟨o, ne b o hb e⟩
    · split
      · exact ⟨h', tk, rfl⟩
      · exact ⟨h', s.gens, tk, rfl, id⟩
  cases c with
  | false =>
    have hkind : env.kindOf x = some .local := by rw [F.ok.kindOf]; exact hk.1 rfl
    refine wpAny_storeName_local hkind hn (fun h' hn' hs' => mk env.locals h' _ (.inl rfl) (fun o e => ns_notSeq hn e) hs' ?_ ⟨_, cm, hn', fun y c e => ?_, fun j y d u e1 e2 => ?_⟩) (by rw [F.ok.kind]; rfl)
    · obtain ⟨o, _, _, e, _⟩ := hn'; exact ⟨o, e⟩
    · exact (hcs y c e).sameBut hs' (Ne.symm (F.above y c (mem_of_lookup e)))
    · have sq := sameBut_seq hs' fun o e => ns_notSeq hn e
      rcases get_set_cases e2 with ⟨rfl, rfl⟩ | ⟨hj, e2⟩
      · rw [hi] at e1; cases e1
        exact ⟨r, by simp, hr.mono sq⟩
      · obtain ⟨q, a, b⟩ := hv j y d u e1 e2
        refine ⟨q, ?_, b.mono sq⟩
        have hy := nodup_names F.nodup hi e1 hj
        simp only [hy, if_false]
        exact a
  | true =>
    obtain ⟨k1, k2⟩ := hk.2 rfl
    obtain ⟨a, ea⟩ := Option.isSome_iff_exists.mp k2
    have hkind : env.kindOf x = some .cell := by rw [F.ok.kindOf]; exact k1
    refine wpAny_storeName_cell F.ok.kind hkind ea (hcs x a ea) (fun h' hc' hs' => mk a h' _ (.inr ⟨x, ea⟩) (fun o e => cell_notSeq (hcs x a ea) e) hs' ?_ ⟨m, fun y => if y = x then some r else cm y, hn.sameBut hs' (F.above x a (mem_of_lookup ea)), fun y c e => ?_, fun j y d u e1 e2 => ?_⟩)
    · obtain ⟨o, e, _⟩ := hc'; exact ⟨o, e⟩
    · by_cases hy : y = x
      · subst hy
        rw [ea] at e; cases e
        simpa using hc'
      · simp only [hy, if_false]
        exact (hcs y c e).sameBut hs' fun e' => hy (name_of_addr F.apart (mem_of_lookup e) (e' ▸ mem_of_lookup ea))
    · have sq := sameBut_seq hs' fun o e => cell_notSeq (hcs x a ea) e
      rcases get_set_cases e2 with ⟨rfl, rfl⟩ | ⟨hj, e2⟩
      · rw [hi] at e1; cases e1
        exact ⟨r, by simp, hr.mono sq⟩
      · obtain ⟨q, a, b⟩ := hv j y d u e1 e2
        refine ⟨q, ?_, b.mono sq⟩
        have hy := nodup_names F.nodup hi e1 hj
        simp only [hy, if_false]
        exact a
end
end
end Mine
end

noncomputable section
open PySem PySem.Calls PyProof.Rows PySem.W PySem.Flt PySem.SeqAt
set_option Elab.async false
set_option linter.unusedVariables false
namespace Mine

inductive Fl where
  | nx | bk | ct | rt (v : AV)
inductive FlIs (h : Heap) : Fl → Flow → Prop where
  | nx : FlIs h .nx .next
  | bk : FlIs h .bk .brk
  | ct : FlIs h .ct .cont
  | rt {v r} : Rel h v r → FlIs h (.rt v) (.ret r)

structure Nxt (q : Bool) (env : Env) (μ : Mu) (s : Shared) (μ' : Mu) (s' : Shared) : Prop where
  stp : Stp q (Wr q env μ) s s'
  new : ∀ p ∈ μ'.map (·.1), p ∈ μ.map (·.1) ∨ s.heap.get? p = none
  newA : ∀ p ∈ muAll μ', p ∈ muAll μ ∨ s.heap.get? p = none
theorem Nxt.refl (q : Bool) (env : Env) (μ : Mu) (s : Shared) : Nxt q env μ s μ s := ⟨.refl _ _ _, fun p hp => .inl hp, fun p hp => .inl hp⟩
theorem Nxt.of {q : Bool} {env : Env} {μ : Mu} {s s' : Shared} (h : Stp q (Wr q env μ) s s') : Nxt q env μ s μ s' := ⟨h, fun p hp => .inl hp, fun p hp => .inl hp⟩
theorem Nxt.trans {q : Bool} {env : Env} {μ μ₁ μ₂ : Mu} {s s₁ s₂ : Shared} (a : Nxt q env μ s μ₁ s₁) (b : Nxt q env μ₁ s₁ μ₂ s₂) : Nxt q env μ s μ₂ s₂ := by
  have hw : ∀ c, s.heap.get? c ≠ none → Wr q env μ₁ c → Wr q env μ c := fun c hc w => by
    rcases w with w | w | w | w
    · exact .inl w
    · exact .inr (.inl w)
    · rcases a.new c w with w | w
      · exact .inr (.inr (.inl w))
      · exact absurd w hc
    · exact .inr (.inr (.inr w))
  refine ⟨⟨fun c o hc e => b.stp.keep c o (fun w => hc (hw c (by rw [e]; simp) w)) (a.stp.keep c o hc e), fun c o e => let ⟨o', e'⟩ := a.stp.live c o e; b.stp.live c o' e', fun hq c o so e => b.stp.seq hq c o so (a.stp.seq hq c o so e), ?_⟩, fun p hp => ?_, fun p hp => ?_⟩
  · exact (Stp.trans (W := fun _ => True) ⟨fun _ _ h => absurd trivial h, a.stp.live, a.stp.seq, a.stp.shape⟩ ⟨fun _ _ h => absurd trivial h, b.stp.live, b.stp.seq, b.stp.shape⟩).shape
  · rcases b.new p hp with h | h
    · exact a.new p h
    · right
      cases e : s.heap.get? p with
      | none => rfl
      | some o => obtain ⟨o', e'⟩ := a.stp.live p o e; rw [h] at e'; cases e'
  · rcases b.newA p hp with h | h
    · exact a.newA p h
    · right
      cases e : s.heap.get? p with
      | none => rfl
      | some o => obtain ⟨o', e'⟩ := a.stp.live p o e; rw [h] at e'; cases e'

noncomputable abbrev KK := Fl → List (Option AV) → Mu → Prop
/-- an expression that may change what changes -/
structure XE (C : Cx) (n : Nat) (names : List (Str × NameKind)) (vars : Vars) (q : Bool) (σ : List (Option AV)) (μ : Mu) (e : Expr) (v : AV) (μ' : Mu) : Prop where
  run : ∀ (env : Env) (A : Around) (s : Shared), Lvl n A → Frm C names vars σ μ env s →
    wpAny (model C.prog C.w) A (eval e env) (fun r s' => Rel s'.heap v r ∧ Frm C names vars σ μ' env s' ∧ Nxt q env μ s μ' s') bot s
structure XB (C : Cx) (n : Nat) (names : List (Str × NameKind)) (vars : Vars) (q : Bool) (σ : List (Option AV)) (μ : Mu) (e : Expr) (b : Bool) (μ' : Mu) : Prop where
  run : ∀ (env : Env) (A : Around) (s : Shared), Lvl n A → Frm C names vars σ μ env s →
    wpAny (model C.prog C.w) A (isTrue e env (eval e env)) (fun r s' => r = b ∧ Frm C names vars σ μ' env s' ∧ Nxt q env μ s μ' s') bot s
structure X1 (C : Cx) (n : Nat) (names : List (Str × NameKind)) (vars : Vars) (q : Bool) (σ : List (Option AV)) (μ : Mu) (st : Stmt) (K : KK) : Prop where
  run : ∀ (env : Env) (A : Around) (s : Shared), Lvl n A → Frm C names vars σ μ env s →
    wpAny (model C.prog C.w) A (exec st env) (fun f s' => ∃ fl σ' μ', K fl σ' μ' ∧ FlIs s'.heap fl f ∧ Frm C names vars σ' μ' env s' ∧ Nxt q env μ s μ' s') bot s
structure XS (C : Cx) (n : Nat) (names : List (Str × NameKind)) (vars : Vars) (q : Bool) (σ : List (Option AV)) (μ : Mu) (st : List Stmt) (K : KK) : Prop where
  run : ∀ (env : Env) (A : Around) (s : Shared), Lvl n A → Frm C names vars σ μ env s →
    wpAny (model C.prog C.w) A (execs st env) (fun f s' => ∃ fl σ' μ', K fl σ' μ' ∧ FlIs s'.heap fl f ∧ Frm C names vars σ' μ' env s' ∧ Nxt q env μ s μ' s') bot s

/-- names to unpack to -/
inductive Puts (vars : Vars) : List (Option AV) → List Expr → List AV → List (Option AV) → Prop where
  | nil {σ} : Puts vars σ [] [] σ
  | cons {σ σ₁ σ₂ x p v es vs} : Put vars σ x v σ₁ → Puts vars σ₁ es vs σ₂ → Puts vars σ (.Name x p :: es) (v :: vs) σ₂

section
variable {C : Cx} {n : Nat} {names : List (Str × NameKind)} {vars : Vars} {σ σ' : List (Option AV)} {q : Bool} {μ μ' : Mu} {K : KK}

theorem XE.of {e : Expr} {v : AV} (h : QE C n names vars σ e v) : XE C n names vars q σ μ e v μ := .mk fun env A s R F =>
  wp_post (h.run env A s F.ok R F.pg F.loc) fun r s' ⟨r1, k⟩ => ⟨r1, F.kp k, .of k.stp⟩
theorem XB.of {e : Expr} {b : Bool} (h : QB C n names vars σ e b) : XB C n names vars q σ μ e b μ := .mk fun env A s R F =>
  wp_post (h.run env A s F.ok R F.pg F.loc) fun r s' ⟨r1, k⟩ => ⟨r1, F.kp k, .of k.stp⟩

theorem XS.nil (h : K .nx σ μ) : XS C n names vars q σ μ [] K := .mk fun env A s R F => by
  rw [execs_nil]
  exact wpAny_pure ⟨_, _, _, h, .nx, F, .refl _ _ _ _⟩
theorem XS.cons {st : Stmt} {rest : List Stmt} {K1 : KK} (h : X1 C n names vars q σ μ st K1) (h1 : ∀ σ' μ', K1 .nx σ' μ' → XS C n names vars q σ' μ' rest K) (h2 : ∀ fl σ' μ', fl ≠ .nx → K1 fl σ' μ' → K fl σ' μ') : XS C n names vars q σ μ (st :: rest) K := .mk fun env A s R F => by
  rw [execs_cons]
  refine wpAny_bind (wp_post (h.run env A s R F) fun f s' ⟨fl, σ', μ', k, hf, F', N⟩ => ?_)
  cases hf with
  | nx => exact wp_post ((h1 _ _ k).run env A s' R F') fun f s'' ⟨fl, σ'', μ'', k, hf, F', N'⟩ => ⟨fl, σ'', μ'', k, hf, F', N.trans N'⟩
  | bk => exact wpAny_pure ⟨_, _, _, h2 _ _ _ (by simp) k, .bk, F', N⟩
  | ct => exact wpAny_pure ⟨_, _, _, h2 _ _ _ (by simp) k, .ct, F', N⟩
  | rt r => exact wpAny_pure ⟨_, _, _, h2 _ _ _ (by simp) k, .rt r, F', N⟩
/-- to a known end -/
noncomputable def Det (σ' : List (Option AV)) (μ' : Mu) : KK := fun fl σ μ => fl = .nx ∧ σ = σ' ∧ μ = μ'
noncomputable def Ret (v : AV) : KK := fun fl _ _ => fl = .rt v
theorem XS.seq {st : Stmt} {rest : List Stmt} (h : X1 C n names vars q σ μ st (Det σ' μ')) (h1 : XS C n names vars q σ' μ' rest K) : XS C n names vars q σ μ (st :: rest) K :=
  .cons h (fun _ _ ⟨_, e1, e2⟩ => by subst e1; subst e2; exact h1) (fun _ _ _ hn ⟨e, _⟩ => absurd e hn)
theorem XS.last {st : Stmt} (h : X1 C n names vars q σ μ st K) : XS C n names vars q σ μ [st] K :=
  .cons h (fun _ _ k => .nil k) (fun _ _ _ _ k => k)
theorem XS.mono {sts : List Stmt} {K' : KK} (h : XS C n names vars q σ μ sts K) (hk : ∀ fl σ μ, K fl σ μ → K' fl σ μ) : XS C n names vars q σ μ sts K' := .mk fun env A s R F =>
  wp_post (h.run env A s R F) fun f s' ⟨fl, σ', μ', k, r⟩ => ⟨fl, σ', μ', hk _ _ _ k, r⟩
theorem X1.set {x : Str} {p pos : Pos} {e : Expr} {v : AV} (h : XE C n names vars q σ μ e v μ') (hp : Put vars σ x v σ') (hk : K .nx σ' μ') (hs : ∀ env, EnvOk names env → swapsWith e (some (.Name x p)) pos.line env = pure false := by intro _ _; rfl) : X1 C n names vars q σ μ (.Assign [.Name x p] e pos) K := .mk fun env A s R F =>
  wpAny_Assign_Name (wp_post (h.run env A s R F) fun r s₁ ⟨r1, F1, N1⟩ => frm_store F1 hp r1 fun s₂ F2 S2 _ => ⟨_, _, _, hk, .nx, F2, N1.trans (.of S2)⟩) (hs env F.ok)
theorem XS.set {x : Str} {p pos : Pos} {e : Expr} {v : AV} {rest : List Stmt} (h : QE C n names vars σ e v) (hp : Put vars σ x v σ') (hr : XS C n names vars q σ' μ rest K) (hs : ∀ env, EnvOk names env → swapsWith e (some (.Name x p)) pos.line env = pure false := by intro _ _; rfl) : XS C n names vars q σ μ (.Assign [.Name x p] e pos :: rest) K :=
  .seq (.set (.of h) hp ⟨rfl, rfl, rfl⟩ hs) hr
theorem XS.setX {x : Str} {p pos : Pos} {e : Expr} {v : AV} {rest : List Stmt} (h : XE C n names vars q σ μ e v μ') (hp : Put vars σ x v σ') (hr : XS C n names vars q σ' μ' rest K) (hs : ∀ env, EnvOk names env → swapsWith e (some (.Name x p)) pos.line env = pure false := by intro _ _; rfl) : XS C n names vars q σ μ (.Assign [.Name x p] e pos :: rest) K :=
  .seq (.set h hp ⟨rfl, rfl, rfl⟩ hs) hr
theorem X1.ret {e : Expr} {pos : Pos} {v : AV} (h : XE C n names vars q σ μ e v μ') (hk : K (.rt v) σ μ') : X1 C n names vars q σ μ (.Return (some e) pos) K := .mk fun env A s R F =>
  wpAny_Return_some (wp_post (h.run env A s R F) fun r s₁ ⟨r1, F1, N1⟩ => ⟨_, _, _, hk, .rt r1, F1, N1⟩)
theorem XS.ret {e : Expr} {pos : Pos} {v : AV} {rest : List Stmt} (h : QE C n names vars σ e v) (hk : K (.rt v) σ μ) : XS C n names vars q σ μ (.Return (some e) pos :: rest) K :=
  .cons (K1 := fun fl σ' μ' => fl = .rt v ∧ σ' = σ ∧ μ' = μ) (.ret (.of h) ⟨rfl, rfl, rfl⟩) (fun _ _ ⟨e, _⟩ => by cases e) (fun _ _ _ _ ⟨e1, e2, e3⟩ => by subst e1; subst e2; subst e3; exact hk)
theorem X1.ite {t : Expr} {b : Bool} {body orelse : List Stmt} {pos : Pos} (h : XB C n names vars q σ μ t b μ') (h1 : b = true → XS C n names vars q σ μ' body K) (h2 : b = false → XS C n names vars q σ μ' orelse K) : X1 C n names vars q σ μ (.If t body orelse pos) K := .mk fun env A s R F =>
  wpAny_If (wp_post (h.run env A s R F) fun r s₁ ⟨e, F1, N1⟩ => by
    subst e
    cases r with
    | true => rw [if_pos rfl]; exact wp_post ((h1 rfl).run env A s₁ R F1) fun f s'' ⟨fl, σ'', μ'', k, hf, F', N'⟩ => ⟨fl, σ'', μ'', k, hf, F', N1.trans N'⟩
    | false => rw [if_neg Bool.false_ne_true]; exact wp_post ((h2 rfl).run env A s₁ R F1) fun f s'' ⟨fl, σ'', μ'', k, hf, F', N'⟩ => ⟨fl, σ'', μ'', k, hf, F', N1.trans N'⟩)
/-- a test that leaves -/
theorem XS.iteR {t : Expr} {b : Bool} {body rest : List Stmt} {pos : Pos} (h : XB C n names vars q σ μ t b μ') (h1 : b = true → XS C n names vars q σ μ' body (fun fl σ μ => fl ≠ .nx ∧ K fl σ μ)) (h2 : b = false → XS C n names vars q σ μ' rest K) : XS C n names vars q σ μ (.If t body [] pos :: rest) K :=
  .cons (K1 := fun fl σ'' μ'' => (fl ≠ .nx ∧ K fl σ'' μ'') ∨ (b = false ∧ fl = .nx ∧ σ'' = σ ∧ μ'' = μ'))
    (.ite h (fun hb => (h1 hb).mono fun _ _ _ k => .inl k) (fun hb => .nil (.inr ⟨hb, rfl, rfl, rfl⟩)))
    (fun _ _ k => by rcases k with ⟨k, _⟩ | ⟨hb, _, e1, e2⟩; exact absurd rfl k; subst e1; subst e2; exact h2 hb)
    (fun fl _ _ hn k => by rcases k with ⟨_, k⟩ | ⟨hb, e0, _⟩; exact k; exact absurd e0 hn)

/-- x op= e -/
theorem X1.aug {x : Str} {c : Bool} {p pos : Pos} {op : Operator} {e : Expr} {a b v : AV} (ha : At vars σ x c a) (h : QE C n names vars σ e b) (ho : OpOk C n (inplaceOp op) a b v) (hp : Put vars σ x v σ') (hk : K .nx σ' μ) (hd : (x == ("__classdict__" : Str)) = false := by decide +kernel) : X1 C n names vars q σ μ (.AugAssign (.Name x p) op e pos) K := .mk fun env A s R F => by
  obtain ⟨i, e1, e2⟩ := ha.get
  obtain ⟨r, hv, hr⟩ := F.loc i x c a e1 e2
  exact wpAny_AugAssign_Name (load_var F.ok.kind hv hd (wp_post (h.run env A s F.ok R F.pg F.loc) fun y s₁ ⟨r2, k1⟩ =>
    wp_post (ho A s₁ r y R (F.pg.keeps k1.heap) (hr.keeps k1.heap) r2) fun z s₂ ⟨r3, k2⟩ => frm_store ((F.kp k1).kp k2) hp r3 fun s₃ F3 S3 _ =>
      ⟨_, _, _, hk, .nx, F3, (Nxt.of k1.stp).trans ((Nxt.of k2.stp).trans (.of S3))⟩))
theorem XS.aug {x : Str} {c : Bool} {p pos : Pos} {op : Operator} {e : Expr} {a b v : AV} {rest : List Stmt} (ha : At vars σ x c a) (h : QE C n names vars σ e b) (ho : OpOk C n (inplaceOp op) a b v) (hp : Put vars σ x v σ') (hr : XS C n names vars q σ' μ rest K) (hd : (x == ("__classdict__" : Str)) = false := by decide +kernel) : XS C n names vars q σ μ (.AugAssign (.Name x p) op e pos :: rest) K :=
  .seq (.aug ha h ho hp ⟨rfl, rfl, rfl⟩ hd) hr
theorem X1.expr {e : Expr} {pos : Pos} {v : AV} (h : XE C n names vars q σ μ e v μ') (hk : K .nx σ μ') (hs : ∀ env, swapsWith e none pos.line env = pure false := by intro _; rfl) : X1 C n names vars q σ μ (.Expr e pos) K := .mk fun env A s R F => by
  have hi : interactive env = false := by unfold interactive; rw [F.ok.kind]; rfl
  exact wpAny_Expr_any (wp_post (h.run env A s R F) fun r s₁ ⟨r1, F1, N1⟩ => ⟨_, _, _, hk, .nx, F1, N1⟩) hi (hs env)

theorem Puts.len {σ : List (Option AV)} {es : List Expr} {vs : List AV} (h : Puts vars σ es vs σ') (env : Env) : (assignEach es env).length = vs.length := by
  induction h with
  | nil => rfl
  | cons _ _ ih => exact congrArg (· + 1) ih
theorem Puts.star {σ : List (Option AV)} {es : List Expr} {vs : List AV} (h : Puts vars σ es vs σ') (env : Env) : (assignEach es env).findIdx? (·.1) = none := by
  have : ∀ x ∈ assignEach es env, x.1 = false := by
    induction h with
    | nil => intro x hx; cases hx
    | @cons σ σ₁ σ₂ x p v es vs _ _ ih =>
      intro y hy
      have e : assignEach (.Name x p :: es) env = (false, fun w => assign (.Name x p) env w) :: assignEach es env := rfl
      rw [e] at hy
      rcases List.mem_cons.mp hy with rfl | hy
      · rfl
      · exact ih y hy
  exact List.findIdx?_eq_none_iff.mpr this
theorem Puts.go {es : List Expr} {vs : List AV} (h : Puts vars σ es vs σ') : ∀ (env : Env) (A : Around) (s : Shared) (rs : List Value) (Q : Unit → Shared → Prop) (E : Value → Shared → Prop), Lvl n A → Frm C names vars σ μ env s → RelAll s.heap vs rs → (∀ s', Frm C names vars σ' μ env s' → Nxt q env μ s μ s' → Q () s') →
    wpAny (model C.prog C.w) A (assignInOrder ((assignEach es env).map (·.2)) rs) Q E s := by
  induction h with
  | nil =>
    intro env A s rs Q E R F r hQ
    obtain rfl := r.nil_eq
    exact wpAny_assignInOrder_none (hQ s F (.refl _ _ _ _))
  | @cons σ σ₁ σ₂ x p v es vs hp _ ih =>
    intro env A s rs Q E R F r hQ
    obtain ⟨x0, xs, rfl, r, rs⟩ := r.cons_ex
    have e : assignEach (.Name x p :: es) env = (false, fun w => assign (.Name x p) env w) :: assignEach es env := rfl
    rw [e]
    exact wpAny_assignInOrder_more (wpAny_assign_Name (frm_store (q := q) F hp r fun s₁ F1 S1 k1 => ih env A s₁ _ Q E R F1 (rs.mono k1) fun s₂ F2 N2 => hQ s₂ F2 ((Nxt.of S1).trans N2)))

theorem RelAll.arr {h : Heap} {vs : List AV} {rs : List Value} (x : RelAll h vs rs) : RelAll h vs (List.toArray rs).toList := by simpa using x
theorem X1.unpack {es : List Expr} {e : Expr} {k : Nat} {tp pos : Pos} {vs : List AV} (h : XE C n names vars q σ μ e (.tup vs) μ') (hp : Puts vars σ es vs σ') (hk : K .nx σ' μ') (hs : ∀ env, swapsWithSole [.Tuple es k tp] e pos.line env = pure false := by intro _; rfl) (hw : ∀ env, swappedStores [.Tuple es k tp] e env = pure none := by intro _; rfl) : X1 C n names vars q σ μ (.Assign [.Tuple es k tp] e pos) K := .mk fun env A s R F =>
  Assign_Tuple (wp_post (h.run env A s R F) fun r s₁ ⟨r1, F1, N1⟩ => by
    obtain ⟨a, rs, rfl, ht, ra⟩ := r1.tup_inv
    refine wpAny_assign_Tuple R.hd ht (by rw [hp.len env, List.size_toArray]; exact ra.length) (hp.star env) fun h' he => ?_
    have k2 : Kp s₁ { s₁ with heap := h' } := Kp.of' fun b o e => he b o (fun hb => by subst hb; rw [get_fresh] at e; cases e) e
    exact hp.go env A _ _ _ _ R (F1.kp k2) (ra.arr.keeps k2.heap) fun s₃ F3 N3 => ⟨_, _, _, hk, .nx, F3, (N1.trans (.of k2.stp)).trans N3⟩) (hs env) (hw env)
theorem X1.unpackL {es : List Expr} {e : Expr} {k : Nat} {tp pos : Pos} {vs : List AV} (h : XE C n names vars q σ μ e (.lst vs) μ') (hp : Puts vars σ es vs σ') (hk : K .nx σ' μ') (hs : ∀ env, swapsWithSole [.Tuple es k tp] e pos.line env = pure false := by intro _; rfl) (hw : ∀ env, swappedStores [.Tuple es k tp] e env = pure none := by intro _; rfl) : X1 C n names vars q σ μ (.Assign [.Tuple es k tp] e pos) K := .mk fun env A s R F =>
  Assign_Tuple (wp_post (h.run env A s R F) fun r s₁ ⟨r1, F1, N1⟩ => by
    obtain ⟨a, rs, rfl, ht, ra⟩ := r1.lst_inv
    rw [arm_assign_Tuple]
    refine wpAny_bind (wpAny_standAt ?_)
    unfold PySem.unpack
    rw [hp.star env]
    have el : (assignEach es env).length = (List.toArray rs).size := by rw [hp.len env, List.size_toArray]; exact ra.length
    rw [el]
    refine wpAny_bind (wpAny_holding (kun_itemsOf R.hd ht fun h' he => ?_))
    have k2 : Kp s₁ { s₁ with heap := h' } := Kp.of' fun b o e => he b o (fun hb => by subst hb; rw [get_fresh] at e; cases e) e
    exact hp.go env A _ _ _ _ R (F1.kp k2) (ra.arr.keeps k2.heap) fun s₃ F3 N3 => ⟨_, _, _, hk, .nx, F3, (N1.trans (.of k2.stp)).trans N3⟩) (hs env) (hw env)
theorem X1.swap {x y : Str} {es : List Expr} {e : Expr} {k : Nat} {tp pos : Pos} {v u : AV} {σ₁ : List (Option AV)} (h : XE C n names vars q σ μ e (.tup [v, u]) μ') (hp1 : Put vars σ y u σ₁) (hp2 : Put vars σ₁ x v σ') (hk : K .nx σ' μ') (hw : ∀ env, EnvOk names env → swappedStores [.Tuple es k tp] e env = pure (some [x, y])) (hs : ∀ env, swapsWithSole [.Tuple es k tp] e pos.line env = pure false := by intro _; rfl) : X1 C n names vars q σ μ (.Assign [.Tuple es k tp] e pos) K := .mk fun env A s R F =>
  Assign_Tuple_swapped (wp_post (h.run env A s R F) fun r s₁ ⟨r1, F1, N1⟩ => by
    obtain ⟨a, rs, rfl, ht, ra⟩ := r1.tup_inv
    obtain ⟨z₁, z₂, rfl, rv, ru⟩ := ra.two_ex
    have el : ([x, y] : List Str).length = (List.toArray [z₁, z₂]).size := rfl
    rw [el]
    with_reducible refine wpAny_unpackItems_tuple R.hd ht ?_
    intro h' he
    rw [show (List.toArray [z₁, z₂]).toList.reverse = [z₂, z₁] from rfl, show ((([x, y] : List Str).reverse).map fun n => bindName env n) = [bindName env y, bindName env x] from rfl]
    have k2 : Kp s₁ { s₁ with heap := h' } := Kp.of' fun b o e => he b o (fun hb => by subst hb; rw [get_fresh] at e; cases e) e
    with_reducible refine wpAny_assignInOrder_more (bindName_ ?_)
    refine frm_store (q := q) (F1.kp k2) hp1 (ru.keeps k2.heap) fun s₂ F2 S2 q2 => ?_
    with_reducible refine wpAny_assignInOrder_more (bindName_ ?_)
    refine frm_store (q := q) F2 hp2 ((rv.keeps k2.heap).mono q2) fun s₃ F3 S3 q3 => ?_
    exact wpAny_assignInOrder_none ⟨_, _, _, hk, .nx, F3, (N1.trans (.of k2.stp)).trans ((Nxt.of S2).trans (.of S3))⟩) (hs env) (hw env F.ok)
theorem X1.two {x y : Str} {p p' pos : Pos} {e : Expr} {v : AV} {σ₁ : List (Option AV)} (h : QE C n names vars σ e v) (hp1 : Put vars σ x v σ₁) (hp2 : Put vars σ₁ y v σ') (hk : K .nx σ' μ) : X1 C n names vars q σ μ (.Assign [.Name x p, .Name y p'] e pos) K := .mk fun env A s R F =>
  wpAny_Assign_two (wp_post (h.run env A s F.ok R F.pg F.loc) fun r s₁ ⟨r1, k1⟩ =>
    wpAny_assign_Name (frm_store (q := q) (F.kp k1) hp1 r1 fun s₂ F2 S2 q2 => wpAny_assign_Name (frm_store (q := q) F2 hp2 (r1.mono q2) fun s₃ F3 S3 q3 =>
      ⟨_, _, _, hk, .nx, F3, (Nxt.of k1.stp).trans ((Nxt.of S2).trans (.of S3))⟩)))

/-- while -/
theorem X1.while {t : Expr} {body : List Stmt} {pos : Pos} (I : Nat → List (Option AV) → Mu → Prop) (k₀ : Nat) (h0 : I k₀ σ μ)
    (step : ∀ k σ μ, I k σ μ → ∃ b, QB C n names vars σ t b ∧ (b = false → K .nx σ μ) ∧
      (b = true → XS C n names vars q σ μ body fun fl σ' μ' => match fl with | .nx | .ct => ∃ m, m < k ∧ I m σ' μ' | .bk => K .nx σ' μ' | .rt v => K (.rt v) σ' μ')) : X1 C n names vars q σ μ (.While t body [] pos) K := .mk fun env A s R F => by
  refine wpAny_While (codeAny_whileLoop (fun k s' => ∃ σ' μ', I k σ' μ' ∧ Frm C names vars σ' μ' env s' ∧ Nxt q env μ s μ' s') ?_ k₀ ⟨σ, μ, h0, F, .refl _ _ _ _⟩)
  rintro k s' ⟨σ', μ', hI, F', N'⟩
  obtain ⟨b, hb, h1, h2⟩ := step k σ' μ' hI
  refine wpAny_mono (hb.run env A s' F'.ok R F'.pg F'.loc) (fun r s₁ ⟨e, k1⟩ => ?_) fun _ _ x => x.elim
  subst e
  cases r with
  | false =>
    rw [if_neg Bool.false_ne_true, execs_nil]
    exact wpAny_pure ⟨_, _, _, h1 rfl, .nx, F'.kp k1, N'.trans (.of k1.stp)⟩
  | true =>
    rw [if_pos rfl]
    refine wpAny_mono ((h2 rfl).run env A s₁ R (F'.kp k1)) (fun f s₂ ⟨fl, σ₂, μ₂, hk, hf, F2, N2⟩ => ?_) fun _ _ x => x.elim
    have N3 := (N'.trans (.of k1.stp)).trans N2
    cases hf with
    | nx => obtain ⟨m, hm, hI⟩ := hk; exact ⟨m, hm, _, _, hI, F2, N3⟩
    | ct => obtain ⟨m, hm, hI⟩ := hk; exact ⟨m, hm, _, _, hI, F2, N3⟩
    | bk => exact ⟨_, _, _, hk, .nx, F2, N3⟩
    | rt r => exact ⟨_, _, _, hk, .rt r, F2, N3⟩
end
end Mine
end

noncomputable section
open PySem PySem.Calls PyProof.Rows PySem.W PySem.Flt PySem.SeqAt
set_option Elab.async false
set_option linter.unusedVariables false
namespace Mine

/-- what a for goes through -/
structure ItsF (C : Cx) (q : Bool) (xs : List AV) (s₁ : Shared) (I : Addr) (fp wr : List Addr) (P : Nat → Value → Prop) (St : Nat → Heap → Prop) (s₂ : Shared) : Prop where
  kp : Kp s₁ s₂
  walks : ∀ A : Around, A.handled = none → Walks C.prog C.w A I fp wr xs.length P St
  st : St 0 s₂.heap
  fp : ∀ b ∈ fp, (s₁.heap.objs.size ≤ b ∨ (q = false ∧ ∃ o, s₁.heap.get? b = some o ∧ SeqObj o)) ∧ ∃ o, s₂.heap.get? b = some o
  wrf : ∀ b ∈ wr, s₁.heap.objs.size ≤ b
  own : ∀ i h, St i h → ∀ b ∈ wr, ∃ o, h.get? b = some o ∧ ¬ SeqObj o
  items : ∀ (i : Nat) v, P i v → ∃ x, xs[i]? = some x ∧ ∀ h, (q = false → SeqKeep s₁.heap h) → Rel h x v
noncomputable def IterF (C : Cx) (q : Bool) (xs : List AV) (xv : Value) (s₁ : Shared) : Prop :=
  ∀ (A : Around) (Q : Value → Shared → Prop) (E : Value → Shared → Prop), A.handled = none → (∀ I fp wr P St s₂, ItsF C q xs s₁ I fp wr P St s₂ → Q (.ref I) s₂) → wpAny (model C.prog C.w) A (pyIter xv) Q E s₁
structure XF (C : Cx) (n : Nat) (names : List (Str × NameKind)) (vars : Vars) (q : Bool) (σ : List (Option AV)) (μ : Mu) (iter : Expr) (xs : List AV) (μ' : Mu) : Prop where
  run : ∀ (env : Env) (A : Around) (s : Shared), Lvl n A → Frm C names vars σ μ env s →
    wpAny (model C.prog C.w) A (eval iter env) (fun xv s₁ => Frm C names vars σ μ' env s₁ ∧ Nxt q env μ s μ' s₁ ∧ IterF C q xs xv s₁) bot s

section
variable {C : Cx} {n : Nat} {names : List (Str × NameKind)} {vars : Vars} {σ σ' : List (Option AV)} {q : Bool} {μ μ' : Mu} {K : KK}

theorem ge_size_none {h : Heap} {b : Addr} (hb : h.objs.size ≤ b) : h.get? b = none := by
  cases e : h.get? b with
  | none => rfl
  | some o => exact absurd (Heap.lt_size e) (Nat.not_lt.mpr hb)
theorem Frm.ownLive {env : Env} {s : Shared} (F : Frm C names vars σ μ env s) : ∀ b, Own env b → ∃ o, s.heap.get? b = some o := fun b hb => by
  obtain ⟨m, cm, hn, hc, _⟩ := F.val
  rcases hb with rfl | ⟨x, hx⟩
  · obtain ⟨o, _, _, e, _⟩ := hn; exact ⟨o, e⟩
  · obtain ⟨o, e, _⟩ := hc x b hx; exact ⟨o, e⟩
theorem Frm.size {env : Env} {s : Shared} (F : Frm C names vars σ μ env s) : 170 ≤ s.heap.objs.size := by
  obtain ⟨o, e⟩ := F.ownLive env.locals (.inl rfl)
  exact Nat.le_trans (F.low _ (.inl rfl)) (Nat.le_of_lt (Heap.lt_size e))

/-- what holds at each turn -/
structure LInv (C : Cx) (q : Bool) (env : Env) (μ' : Mu) (s₁ s₂ : Shared) (fp wr : List Addr) (St : Nat → Heap → Prop) (i : Nat) (μ'' : Mu) (s' : Shared) : Prop where
  nx : Nxt q env μ' s₁ μ'' s'
  dis : ∀ b ∈ muAll μ'', b ∈ muAll μ' ∨ s₂.heap.get? b = none
  lv : ∀ b o, s₂.heap.get? b = some o → ∃ o', s'.heap.get? b = some o'
  st : St i s'.heap
  sk : q = false → SeqKeep s₁.heap s'.heap
section
variable {env : Env} {xs : List AV} {s₁ s₂ s' s'' : Shared} {I : Addr} {fp wr : List Addr} {P : Nat → Value → Prop} {St : Nat → Heap → Prop} {i : Nat} {μ'' μ₃ : Mu} {σ₁ : List (Option AV)}
theorem LInv.out (F : Frm C names vars σ μ' env s₁) (its : ItsF C q xs s₁ I fp wr P St s₂) (L : LInv C q env μ' s₁ s₂ fp wr St i μ'' s') {b : Addr} (hf : b ∈ fp) (hb : s₁.heap.objs.size ≤ b) : ¬ Wr q env μ'' b ∧ b ∉ muAll μ'' ∧ ¬ Own env b ∧ ¬ b < 170 := by
  have hn := ge_size_none hb
  have hlow : 170 ≤ b := Nat.le_trans F.size hb
  have hown : ¬ Own env b := fun w => by obtain ⟨o, e⟩ := F.ownLive b w; rw [hn] at e; cases e
  have hmu : b ∉ muAll μ'' := fun w => by
    rcases L.dis b w with w | w
    · obtain ⟨o, e⟩ := F.mu.live b w; rw [hn] at e; cases e
    · obtain ⟨_, o, e⟩ := its.fp b hf; rw [w] at e; cases e
  refine ⟨fun w => ?_, hmu, hown, Nat.not_lt.mpr hlow⟩
  rcases w with w | w | w | ⟨_, w⟩
  · exact hown (.inl w)
  · exact hown (.inr w)
  · obtain ⟨p, hp, e⟩ := List.mem_map.mp w
    exact hmu (e ▸ mem_muAll hp)
  · have h2 : ∀ c ∈ tabs, c < 170 := by decide
    exact absurd (h2 b w) (Nat.not_lt.mpr hlow)
theorem LInv.move (F : Frm C names vars σ μ' env s₁) {A : Around} (hA : A.handled = none) (its : ItsF C q xs s₁ I fp wr P St s₂) (L : LInv C q env μ' s₁ s₂ fp wr St i μ'' s') (N : Nxt q env μ'' s' μ₃ s'') : LInv C q env μ' s₁ s₂ fp wr St i μ₃ s'' where
  nx := L.nx.trans N
  dis := fun b hb => by
    rcases N.newA b hb with h | h
    · exact L.dis b h
    · right
      cases e : s₂.heap.get? b with
      | none => rfl
      | some o => obtain ⟨o', e'⟩ := L.lv b o e; rw [h] at e'; cases e'
  lv := fun b o e => let ⟨o', e'⟩ := L.lv b o e; N.stp.live b o' e'
  st := (its.walks A hA).frame i _ _ L.st fun b hb o e => by
    obtain ⟨h | ⟨hq, o', e', so⟩, _⟩ := its.fp b hb
    · exact N.stp.keep b o (L.out F its hb h).1 e
    · have := L.sk hq b o' so e'
      rw [e] at this; cases this
      exact N.stp.seq hq b o so e
  sk := fun hq b o so e => N.stp.seq hq b o so (L.sk hq b o so e)
theorem LInv.turn (F : Frm C names vars σ μ' env s₁) (F' : Frm C names vars σ₁ μ'' env s') {A : Around} (hA : A.handled = none) (its : ItsF C q xs s₁ I fp wr P St s₂) (L : LInv C q env μ' s₁ s₂ fp wr St i μ'' s') {h' : Heap} {tk : Nat} (hk : ∀ b o, b ∉ wr → s'.heap.get? b = some o → h'.get? b = some o) :
    Frm C names vars σ₁ μ'' env { s' with heap := h', toks := tk } ∧ Nxt q env μ' s₁ μ'' { s' with heap := h', toks := tk } ∧ ∀ j, St j h' → LInv C q env μ' s₁ s₂ fp wr St j μ'' { s' with heap := h', toks := tk } := by
  have old : ∀ b, (∃ o, s₁.heap.get? b = some o) → b ∉ wr := fun b ⟨o, e⟩ hb => absurd (Heap.lt_size e) (Nat.not_lt.mpr (its.wrf b hb))
  have W := its.walks A hA
  have N : Nxt q env μ' s₁ μ'' { s' with heap := h', toks := tk } := by
    refine ⟨⟨fun b o hb e => hk b o (old b ⟨o, e⟩) (L.nx.stp.keep b o hb e), fun b o e => ?_, fun hq b o so e => hk b o (old b ⟨o, e⟩) (L.nx.stp.seq hq b o so e), ?_⟩, L.nx.new, L.nx.newA⟩
    · obtain ⟨o', e'⟩ := L.nx.stp.live b o e; exact ⟨o', hk b o' (old b ⟨o, e⟩) e'⟩
    · have h1 := L.nx.stp.shape
      cases q with
      | true =>
        simp only [if_true] at h1 ⊢
        obtain ⟨h, t, rfl⟩ := h1
        exact ⟨h', tk, rfl⟩
      | false =>
        simp only [Bool.false_eq_true, if_false] at h1 ⊢
        obtain ⟨h, g, t, rfl, k⟩ := h1
        exact ⟨h', g, tk, rfl, k⟩
  refine ⟨F'.step fun b o hb e => hk b o (fun hw => ?_) e, N, fun j st => ⟨N, L.dis, fun b o e => ?_, st, fun hq b o so e => hk b o (old b ⟨o, e⟩) (L.sk hq b o so e)⟩⟩
  · obtain ⟨_, h2, h3, h4⟩ := L.out F its (W.sub b hw) (its.wrf b hw)
    rcases hb with h | h | h | h
    · exact h4 h
    · exact h3 h
    · exact h2 h
    · obtain ⟨o', e', ns⟩ := its.own i _ L.st b hw
      rw [e] at e'; cases e'; exact ns h
  · by_cases hw : b ∈ wr
    · obtain ⟨o', e', _⟩ := its.own j _ st b hw; exact ⟨o', e'⟩
    · obtain ⟨o', e'⟩ := L.lv b o e; exact ⟨o', hk b o' hw e'⟩
end

theorem X1.for {x : Str} {p pos : Pos} {iter : Expr} {xs : List AV} {body : List Stmt} (h : XF C n names vars q σ μ iter xs μ') (I : Nat → List (Option AV) → Mu → Prop) (h0 : I 0 σ μ')
    (step : ∀ (i : Nat) (a : AV) σ μ, xs[i]? = some a → I i σ μ → ∃ σ₁, Put vars σ x a σ₁ ∧
      XS C n names vars q σ₁ μ body fun fl σ' μ' => match fl with | .nx | .ct => I (i + 1) σ' μ' | .bk => K .nx σ' μ' | .rt v => K (.rt v) σ' μ')
    (hend : ∀ σ μ, I xs.length σ μ → K .nx σ μ) (hs : ∀ env x, foldedSetIterable iter env x = pure x := by intro _ _; rfl) : X1 C n names vars q σ μ (.For (.Name x p) iter body [] pos) K := .mk fun env A s R F => by
  refine wpAny_For (wp_post (h.run env A s R F) fun xv s₁ ⟨F1, N1, it⟩ => it A _ _ R.hd fun J fp wr P St s₂ its => ?_) (hs env)
  have F2 := F1.kp its.kp
  have W := its.walks A R.hd
  refine codeAny_forLoop (fun k s' => ∃ i σ' μ'', i + k = xs.length ∧ I i σ' μ'' ∧ Frm C names vars σ' μ'' env s' ∧ LInv C q env μ' s₁ s₂ fp wr St i μ'' s') ?_ xs.length
    ⟨0, σ, μ', Nat.zero_add _, h0, F2, .of its.kp.stp, fun b hb => .inl hb, fun b o e => ⟨o, e⟩, its.st, fun _ b o _ e => its.kp.heap b o e⟩
  rintro k s' ⟨i, σ', μ'', hik, hI, F', L⟩
  cases k with
  | zero =>
    have hi : i = xs.length := by (first | lia | omega)
    subst hi
    refine W.done s' _ _ L.st fun h' tk hk => ?_
    obtain ⟨F3, N3, _⟩ := L.turn F1 F' R.hd its hk
    show wpAny _ _ (execs [] env) _ _ _
    rw [execs_nil]
    exact wpAny_pure ⟨_, _, _, hend _ _ hI, .nx, F3, N1.trans N3⟩
  | succ k =>
    refine W.item i s' _ _ (by (first | lia | omega)) L.st fun v h' tk hP hst hk => ?_
    obtain ⟨F3, N3, L3⟩ := L.turn F1 F' R.hd its hk
    have L3 := L3 _ hst
    obtain ⟨a, ea, hr⟩ := its.items i v hP
    obtain ⟨σ₁, hput, hbody⟩ := step i a σ' μ'' ea hI
    refine wpAny_assign_Name (frm_store (q := q) F3 hput (hr _ L3.sk) fun s₃ F4 S4 q4 => ?_)
    have L4 := L3.move F1 R.hd its (.of S4)
    refine wpAny_mono (hbody.run env A s₃ R F4) (fun f s₄ ⟨fl, σ₂, μ₂, hk, hf, F5, N5⟩ => ?_) fun _ _ x => x.elim
    have L5 := L4.move F1 R.hd its N5
    cases hf with
    | nx => exact ⟨k, Nat.lt_succ_self _, i + 1, _, _, by (first | lia | omega), hk, F5, L5⟩
    | ct => exact ⟨k, Nat.lt_succ_self _, i + 1, _, _, by (first | lia | omega), hk, F5, L5⟩
    | bk => exact ⟨_, _, _, hk, .nx, F5, N1.trans L5.nx⟩
    | rt r => exact ⟨_, _, _, hk, .rt r, F5, N1.trans L5.nx⟩
end
end Mine
end

noncomputable section
open PySem PySem.Calls PyProof.Rows PySem.W PySem.Flt PySem.SeqAt
set_option Elab.async false
set_option linter.unusedVariables false
namespace Mine
section
variable {C : Cx} {n : Nat} {names : List (Str × NameKind)} {vars : Vars} {σ σ' : List (Option AV)} {q : Bool} {μ μ' : Mu} {K : KK}

theorem rangeIter_own {h : Heap} {I : Addr} {a b c : Int} (x : IsRangeIter h I a b c) : ∃ o, h.get? I = some o ∧ ¬ SeqObj o :=
  ⟨_, x, fun ⟨_, xs, k, d⟩ => by cases d⟩
theorem listIter_own {h : Heap} {I a : Addr} {i : Nat} (x : h.IsListIter I a i) : ∃ o, h.get? I = some o ∧ ¬ SeqObj o := by
  obtain ⟨o, e, c, d⟩ := x
  exact ⟨o, e, fun ⟨hc, _⟩ => by rw [c] at hc; simp at hc⟩
theorem iterF_range {r : Addr} {a b : Int} {t u v : Tok} {s₁ : Shared} (hr : IsRange s₁.heap r a b 1 t u v) (ha : -1000000 ≤ a) (ha' : a ≤ 1000000) (hb : -1000000 ≤ b) (hb' : b ≤ 1000000) : IterF C q (irange a b) (.ref r) s₁ := fun A Q E hA hq => by
  refine wpAny_pyIter_range hr (small_one (by (first | lia | omega)) (by (first | lia | omega)) (by (first | lia | omega)) (by (first | lia | omega))) ?_
  have hsz : Builtin.Range.rangeSize a b 1 = ((b - a).toNat : Int) := by
    unfold Builtin.Range.rangeSize
    simp only [show (1 : Int) > 0 from by decide, if_true]
    split <;> (first | lia | omega)
  have hI : IsRangeIter (s₁.heap.push { cls := .type "range_iterator", data := .fields #[rawInt a, rawInt (Builtin.Range.rangeSize a b 1), rawInt 1] }) s₁.heap.objs.size a (Builtin.Range.rangeSize a b 1) 1 := Heap.get?_push_size _ rfl
  refine hq s₁.heap.objs.size [s₁.heap.objs.size] [s₁.heap.objs.size] (fun i v => i < (irange a b).length ∧ ∃ t, v = .int (a + i * 1) t) (fun i h => IsRangeIter h s₁.heap.objs.size (a + (i : Nat) * 1) (((irange a b).length : Int) - (i : Nat)) 1) _ ⟨Kp.push s₁ _, fun A hA => ?_, ?_, fun b hb => ?_, fun b hb => ?_, fun i h st b hb => ?_, fun i w ⟨hi, hw⟩ => ?_⟩
  · exact walks_bound (Walks.range (prog := C.prog) (w := C.w) (A := A) hA s₁.heap.objs.size a 1 (irange a b).length)
  · rw [irange_length]
    rw [hsz, show a + ((0 : Nat) : Int) * 1 = a from by (first | lia | omega), show (((b - a).toNat : Nat) : Int) - ((0 : Nat) : Int) = ((b - a).toNat : Int) from by (first | lia | omega)]
    exact Heap.get?_push_size _ rfl
  · rcases List.mem_cons.mp hb with rfl | hb
    · exact ⟨.inl (Nat.le_refl _), _, Heap.get?_push_size _ rfl⟩
    · cases hb
  · rcases List.mem_cons.mp hb with rfl | hb
    · exact Nat.le_refl _
    · cases hb
  · rcases List.mem_cons.mp hb with rfl | hb
    · exact rangeIter_own st
    · cases hb
  · obtain ⟨t, rfl⟩ := hw
    refine ⟨.int (a + i), ?_, fun h _ => by rw [Int.mul_one]; exact .int _ _⟩
    rw [irange_length] at hi
    simp [irange, hi]
theorem iterF_list {a : Addr} {xs : List AV} {s₁ : Shared} (h : Rel s₁.heap (.lst xs) (.ref a)) : IterF C false xs (.ref a) s₁ := fun A Q E hA hq => by
  obtain ⟨a', vs, e, hl, ra⟩ := h.lst_inv
  cases e
  refine iter_list_ hl fun s₂ e st hfp hne => ?_
  subst e
  refine hq _ [s₁.heap.objs.size, a] [s₁.heap.objs.size] (fun i v => vs.toArray[i]? = some v) (fun i h => h.IsListIter s₁.heap.objs.size a i ∧ h.IsList a vs.toArray) _ ⟨Kp.push s₁ _, fun A hA => ?_, st, fun b hb => ?_, fun b hb => ?_, fun i h st b hb => ?_, fun i v hv => ?_⟩
  · have := Walks.list (prog := C.prog) (w := C.w) (A := A) hA _ a hne vs.toArray
    have e : vs.toArray.size = xs.length := by rw [List.size_toArray]; exact ra.length.symm
    rw [e] at this
    exact this
  · rcases List.mem_cons.mp hb with rfl | hb
    · exact ⟨.inl (Nat.le_refl _), let ⟨o, e, _⟩ := st.1; ⟨o, e⟩⟩
    · rcases List.mem_cons.mp hb with rfl | hb
      · obtain ⟨o, e, c, k, d⟩ := hl
        exact ⟨.inr ⟨rfl, o, e, .inl c, _, _, d⟩, o, Heap.get?_push_of_some _ e⟩
      · cases hb
  · rcases List.mem_cons.mp hb with rfl | hb
    · exact Nat.le_refl _
    · cases hb
  · rcases List.mem_cons.mp hb with rfl | hb
    · exact listIter_own st.1
    · cases hb
  · have hv' : vs[i]? = some v := by simpa using hv
    have hi : i < xs.length := by rw [ra.length]; exact (List.getElem?_eq_some_iff.mp hv').1
    exact ⟨xs[i], List.getElem?_eq_getElem hi, fun h hk => (ra.get i _ _ (List.getElem?_eq_getElem hi) hv').mono (hk rfl)⟩
theorem XF.range1 {x : Str} {p pos : Pos} {e : Expr} {k : Int} (hk : names.lookup x = some .globalImplicit) (hg : (x, GV.none) ∈ C.globs) (hb : (x, .type "range") ∈ C.blts)
    (he : QE C n names vars σ e (.int k)) (h1 : -1000000 ≤ k) (h2 : k ≤ 1000000) (hd : (x == ("__debug__" : Str)) = false := by decide +kernel) (hs : ∀ env, starEach [e] env = [(false, eval e env)] := by intro _; rfl) :
    XF C n names vars q σ μ (.Call (.Name x p) [e] [] pos) (irange 0 k) μ := .mk fun env A s R F => by
  refine wpAny_Call_NameR (wpAny_Name (load_blt F.ok F.pg hk hg hb ?_) hd)
  refine PyProof.Rows.callWith_type1 (spliced_more (wp_post (he.run env A s F.ok R F.pg F.loc) fun v s₁ ⟨r, k1⟩ => spliced_none ?_) (hs env)) (hs env)
  obtain ⟨t, rfl⟩ := r.int_ex
  with_reducible refine call_range_1 ?_
  exact ⟨F.kp ((k1.trans' (Kp.push s₁ _)).trans' (Kp.tok _ _)), .of (Kp.stp ((k1.trans' (Kp.push s₁ _)).trans' (Kp.tok _ _))), iterF_range (IsRange.new _ _ _ _ _ _ _) (by (first | lia | omega)) (by (first | lia | omega)) h1 h2⟩
theorem XF.list {iter : Expr} {xs : List AV} (h : XE C n names vars false σ μ iter (.lst xs) μ') : XF C n names vars false σ μ iter xs μ' := .mk fun env A s R F =>
  wp_post (h.run env A s R F) fun xv s₁ ⟨r, F1, N1⟩ => by
    obtain ⟨a, vs, rfl, _⟩ := r.lst_inv
    exact ⟨F1, N1, iterF_list r⟩


theorem frm_put {env : Env} {s : Shared} {x : Str} {v : AV} {r : Value} {m cm : Str → Option Value} {h' : Heap} {tk : Nat} (F : Frm C names vars σ μ env s) (p : Put vars σ x v σ') (hx : names.lookup x = some .local)
    (hn : s.heap.Ns env.locals m) (hc : ∀ x c, env.cells.lookup x = some c → s.heap.IsCell c (cm x))
    (hv : ∀ (i : Nat) x c v, vars[i]? = some (x, c) → σ[i]? = some (some v) → ∃ r, (if c = true then cm x else m x) = some r ∧ Rel s.heap v r)
    (keep : ∀ b o, b ≠ env.locals → s.heap.get? b = some o → h'.get? b = some o) (hn' : h'.Ns env.locals (fun z => if z = x then some r else m z)) (hr : Rel h' v r) :
    Frm C names vars σ' μ env { s with heap := h', toks := tk } ∧ Stp q (Wr q env μ) s { s with heap := h', toks := tk } := by
  obtain ⟨i, c, hi, rfl, hlt⟩ := p.get
  have hk := F.kinds (x, c) (List.mem_of_getElem? hi)
  have hcf : c = false := by
    cases c with
    | false => rfl
    | true => have := (hk.2 rfl).1; rw [hx] at this; cases this
  subst hcf
  have sq : SeqKeep s.heap h' := fun b o so e => keep b o (fun hb => by subst hb; exact ns_notSeq hn e so) e
  refine ⟨⟨F.ok, F.pg.step fun b o lb e => keep b o (fun hb => ?_) e, F.low, F.sep, F.nodup, F.kinds, by rw [List.length_set]; exact F.len, F.apart, F.above,
      F.mu.mono fun b o hb e => ?_, _, cm, hn', fun y c e => IsCell.at'' (hc y c e) fun o e' => keep c o (Ne.symm (F.above y c (mem_of_lookup e))) e', fun j y d u e1 e2 => ?_⟩, ⟨fun b o hb e => keep b o (fun e' => hb (.inl e')) e, fun b o e => ?_, fun _ => sq, ?_⟩⟩
  · exact absurd (Nat.lt_of_lt_of_le (hb ▸ lb) (F.low _ (.inl rfl))) (Nat.lt_irrefl _)
  · rcases hb with hb | hb
    · exact keep b o (fun e' => F.sep _ (.inl rfl) (e' ▸ hb)) e
    · exact sq b o hb e
  · rcases get_set_cases e2 with ⟨rfl, rfl⟩ | ⟨hj, e2⟩
    · rw [hi] at e1; cases e1
      exact ⟨r, by simp, hr⟩
    · obtain ⟨q, a, b⟩ := hv j y d u e1 e2
      refine ⟨q, ?_, b.mono sq⟩
      have hy := nodup_names F.nodup hi e1 hj
      simp only [hy, if_false]
      exact a
  · by_cases hb : b = env.locals
    · subst hb; obtain ⟨o, _, _, e, _⟩ := hn'; exact ⟨o, e⟩
    · exact ⟨o, keep b o hb e⟩
  · split
    · exact ⟨h', tk, rfl⟩
    · exact ⟨h', s.gens, tk, rfl, id⟩
/-- a list built in place, for a local -/
theorem X1.setC {x y : Str} {px p pos spos : Pos} {iter elt : Expr} {ifs : List Expr} {scope : Scope} {xs : List AV} {tv : AV → Bool} {fv : AV → AV} (H : CompOk C n names vars σ scope x iter ifs elt xs tv fv) (hy : names.lookup y = some .local)
    (hp : Put vars σ y (.lst ((xs.filter tv).map fv)) σ') (hk : K .nx σ' μ) (hsw : ∀ env, EnvOk names env → swapsWith (.ListComp elt [⟨.Name x px, iter, ifs, 0⟩] scope pos) (some (.Name y p)) spos.line env = pure true) (hs : ∀ env x, foldedSetIterable iter env x = pure x := by intro _ _; rfl) :
    X1 C n names vars q σ μ (.Assign [.Name y p] (.ListComp elt [⟨.Name x px, iter, ifs, 0⟩] scope pos) spos) K := .mk fun env A s R F => by
  obtain ⟨cl, hcl, hq⟩ := comp_quiet H F.ok R F.pg F.loc
  refine wpAny_Assign_ListComp_free (fun v => tv (absV v)) (fun v y => Scal (fv (absV v)) y) (hsw env F.ok) hcl H.sc.cell H.sc.kind H.sc.names H.sc.x (by rw [F.ok.kindOf]; exact hy) (by rw [F.ok.kind]; rfl) ?_ (hs env)
  refine wp_post (H.iter.run env A s F.ok R F.pg F.loc) fun xv s₁ ⟨k1, it⟩ => it A _ _ R.hd fun I fp wr Pi St s₂ its => ?_
  have k2 := k1.trans' its.kp
  have F2 := F.kp k2
  obtain ⟨m, cm, hn, hc, hv⟩ := F.val
  have live : ∀ b, (∃ o, s.heap.get? b = some o) → b ∉ wr := fun b ⟨o, e⟩ hb => by have := k1.heap b o e; rw [its.wr b hb] at this; cases this
  refine ⟨I, fp, wr, xs.length, Pi, St, m, rfl, its.walks A R.hd, Nat.le_trans H.size (by decide), its.st, its.fp, live _ (F.ownLive _ (.inl rfl)), hn.at' fun o e => k2.heap _ o e, hq s₁ s₂ I fp wr Pi St k1 its, fun D h' tk ys vs hD hl hpl hlen hP hF hns hk2 => ?_⟩
  obtain ⟨h₂, t₂, rfl, kk⟩ := k2.keeps
  obtain ⟨F3, S3⟩ := frm_put (q := q) (tk := tk) F hp hy hn hc hv (fun b o hb e => hk2 b o hb (live b ⟨o, e⟩) (kk b o e)) hns (comp_rel its.items hlen hP hF hl)
  exact ⟨_, _, _, hk, .nx, F3, .of S3⟩
end
end Mine
end

noncomputable section
open PySem PySem.Calls PyProof.Rows PySem.W PySem.Flt PySem.SeqAt
set_option Elab.async false
set_option linter.unusedVariables false
namespace Mine

theorem bindL_skip {kindOf : Str → Option NameKind} {x : Str} : ∀ (bs : List (Str × Value)) (m : Str → Option Value), x ∉ bs.map (·.1) → bindL kindOf bs m x = m x
  | [], m, _ => rfl
  | (y, v) :: bs, m, h => by
    have h1 : x ≠ y := fun e => h (by simp [e])
    have h2 : x ∉ bs.map (·.1) := fun e => h (by simp [e])
    unfold bindL
    rw [bindL_skip bs _ h2]
    split <;> simp [h1]
theorem bindC_skip {kindOf : Str → Option NameKind} {x : Str} : ∀ (bs : List (Str × Value)) (m : Str → Option Value), x ∉ bs.map (·.1) → bindC kindOf bs m x = m x
  | [], m, _ => rfl
  | (y, v) :: bs, m, h => by
    have h1 : x ≠ y := fun e => h (by simp [e])
    have h2 : x ∉ bs.map (·.1) := fun e => h (by simp [e])
    unfold bindC
    rw [bindC_skip bs _ h2]
    split <;> simp [h1]
theorem bindL_get {kindOf : Str → Option NameKind} {x : Str} {r : Value} (hk : kindOf x = some .local) : ∀ (bs : List (Str × Value)) (m : Str → Option Value), (bs.map (·.1)).Nodup → bs.lookup x = some r → bindL kindOf bs m x = some r
  | [], m, _, h => by simp at h
  | (y, v) :: bs, m, hn, h => by
    obtain ⟨h1, h2⟩ := List.nodup_cons.mp hn
    unfold bindL
    rw [List.lookup_cons] at h
    cases hy : x == y with
    | true =>
      rw [hy] at h
      have e := beq_iff_eq.mp hy
      subst e
      rw [bindL_skip bs _ h1, if_pos hk]
      simpa using h
    | false => rw [hy] at h; exact bindL_get hk bs _ h2 h
theorem bindC_get {kindOf : Str → Option NameKind} {x : Str} {r : Value} (hk : kindOf x ≠ some .local) : ∀ (bs : List (Str × Value)) (m : Str → Option Value), (bs.map (·.1)).Nodup → bs.lookup x = some r → bindC kindOf bs m x = some r
  | [], m, _, h => by simp at h
  | (y, v) :: bs, m, hn, h => by
    obtain ⟨h1, h2⟩ := List.nodup_cons.mp hn
    unfold bindC
    rw [List.lookup_cons] at h
    cases hy : x == y with
    | true =>
      rw [hy] at h
      have e := beq_iff_eq.mp hy
      subst e
      rw [bindC_skip bs _ h1, if_neg hk]
      simpa using h
    | false => rw [hy] at h; exact bindC_get hk bs _ h2 h
theorem cellsFrom_acc {x : Str} : ∀ (l : List (Str × NameKind)) (k : Nat) (acc : List (Str × Addr)), (acc.lookup x).isSome = true → ((cellsFrom k l acc).lookup x).isSome = true
  | [], _, _, h => h
  | (y, kd) :: l, k, acc, h => by
    unfold cellsFrom
    split
    · refine cellsFrom_acc l _ _ ?_
      rw [List.lookup_cons]
      split <;> simp [h]
    · exact cellsFrom_acc l _ _ h
theorem cellsFrom_some {x : Str} : ∀ (l : List (Str × NameKind)) (k : Nat) (acc : List (Str × Addr)), l.lookup x = some .cell → ((cellsFrom k l acc).lookup x).isSome = true
  | [], _, _, h => by simp at h
  | (y, kd) :: l, k, acc, h => by
    unfold cellsFrom
    rw [List.lookup_cons] at h
    cases hy : x == y with
    | true =>
      rw [hy] at h
      cases h
      rw [if_pos (by decide)]
      exact cellsFrom_acc l _ _ (by rw [List.lookup_cons, hy]; rfl)
    | false =>
      rw [hy] at h
      split
      · exact cellsFrom_some l _ _ h
      · exact cellsFrom_some l _ _ h
theorem zip_lookup {h : Heap} {x : Str} {v : AV} : ∀ {ps : List Str} {as : List AV} {rs : List Value}, RelAll h as rs → (ps.zip as).lookup x = some v → ∃ r, (ps.zip rs).lookup x = some r ∧ Rel h v r
  | [], _, _, _, e => by simp at e
  | _ :: _, _, _, .nil, e => by simp at e
  | p :: ps, _, _, .cons r ra, e => by
    simp only [List.zip_cons_cons, List.lookup_cons] at e ⊢
    cases hx : x == p with
    | true => rw [hx] at e; cases e; exact ⟨_, rfl, r⟩
    | false => rw [hx] at e; exact zip_lookup ra e
theorem zip_keys {α : Type} : ∀ {ps : List Str} {rs : List α}, ps.length = rs.length → (ps.zip rs).map (·.1) = ps
  | [], [], _ => rfl
  | p :: ps, r :: rs, h => by simp only [List.zip_cons_cons, List.map_cons, zip_keys (by simpa using h)]
  | [], _ :: _, h => by simp at h
  | _ :: _, [], h => by simp at h

/-- how a def is called: looked at once for each def -/
structure Sig (f : FnRec) (ps : List Str) (vars : Vars) : Prop where
  clo : f.closure = []
  co : f.scope.isCoroutine = false
  gen : f.scope.isGenerator = false
  kind : f.scope.kind = .function
  nodup : (vars.map (·.1)).Nodup
  pnodup : ps.Nodup
  kinds : ∀ p ∈ vars, (p.2 = false → f.scope.names.lookup p.1 = some .local) ∧ (p.2 = true → f.scope.names.lookup p.1 = some .cell)
  pkinds : ∀ x ∈ ps, f.scope.names.lookup x = some .local ∨ f.scope.names.lookup x = some .cell
noncomputable def Fl.val : Fl → AV
  | .rt v => v
  | _ => .none
noncomputable def Wq (q : Bool) (μ : Mu) (b : Addr) : Prop := b ∈ μ.map (·.1) ∨ (q = false ∧ b ∈ tabs)
noncomputable def start (ps : List Str) (args : List AV) (vars : Vars) : List (Option AV) := vars.map fun p => (ps.zip args).lookup p.1

section
variable {C : Cx} {n : Nat} {q : Bool} {μ : Mu} {K : KK}
theorem fn_call {f : FnRec} {a : Addr} {ps : List Str} {vars : Vars} (S : Sig f ps vars) (hf : (a, f) ∈ C.fns) {args : List AV} {rs rs' : List Value} {A : Around} {s : Shared} (R : Lvl (n + 1) A) (P : Pg C s.heap)
    (hb : ∀ fd, fd.params = f.params → fd.defaults = f.dflt → BindsTo s fd ⟨rs', []⟩ (ps.zip rs)) (ra : RelAll s.heap args rs) (hl : ps.length = args.length) (M : MuOk s.heap μ)
    (hbody : XS C n f.scope.names vars q (start ps args vars) μ f.body K) :
    wpAny (model C.prog C.w) A (call (.ref a) rs') (fun r s' => ∃ fl σ' μ', K fl σ' μ' ∧ Rel s'.heap fl.val r ∧ MuOk s'.heap μ' ∧ Stp q (Wq q μ) s s' ∧ TabOk s'.heap) bot s := by
  obtain ⟨o, fd, e1, e2, p1, p2, p3, p4, p5, p6, p7, p8, p9, co, vs, t, c1, c2, c3⟩ := P.fn _ hf
  refine wpAny_call (codeAny_call_function R.room e1 e2 (by rw [p3]; exact S.co) (by rw [p3]; exact S.gen) p2 ?_ ?_)
  · exact ⟨_, co, vs, t, p8, c1, c2, by rw [p4]; exact c3⟩
  refine hb fd p1 p9 _ _ _ _ ?_
  rw [p5, S.clo, p3, p6, p8, p7]
  have hkeys : (ps.zip rs).map (·.1) = ps := zip_keys (hl.trans ra.length)
  have hmem : ∀ x ∈ ps.zip rs, x.1 ∈ ps := fun x hx => hkeys ▸ List.mem_map.mpr ⟨x, hx, rfl⟩
  refine wpAny_newFunctionEnv_cells S.kind (fun x hx => ?_) fun env he s₁ ic => ⟨P.lim.keeps ic.toInCall.keep, codeAny_func ?_⟩
  · rcases S.pkinds x.1 (hmem x hx) with h | h
    · exact .inl h
    · exact .inr ⟨h, cellsFrom_some _ _ _ h⟩
  obtain ⟨hh, tk, hs₁⟩ := ic.toInCall.same
  have hloc : env.locals = s.heap.objs.size := by rw [he]; rfl
  have hcells : env.cells = cellsFrom (s.heap.objs.size + 1) f.scope.names [] := by rw [he]; rfl
  have hsc : env.scope = f.scope := by rw [he]; rfl
  have hki : ∀ x, env.kindOf x = f.scope.names.lookup x := fun x => by show env.scope.names.lookup x = _; rw [hsc]
  have hlc : ∀ b, Own env b → s.heap.objs.size ≤ b := fun b hb => by
    rcases hb with rfl | ⟨x, hx⟩
    · rw [hloc]; exact Nat.le_refl _
    · exact Nat.le_of_lt (hloc ▸ ic.above x b (mem_of_lookup hx))
  have F : Frm C f.scope.names vars (start ps args vars) μ env s₁ := by
    refine ⟨⟨by rw [hsc]; exact S.kind, by rw [hsc], by rw [he]; rfl, by rw [he]; rfl⟩, P.keeps ic.toInCall.keep, fun b hb => Nat.le_trans P.size (hlc b hb), fun b hb hm => ?_, S.nodup, fun p hp => ⟨(S.kinds p hp).1, fun h => ⟨(S.kinds p hp).2 h, ?_⟩⟩,
      by unfold start; rw [List.length_map], ic.apart, fun x c hx => Nat.ne_of_lt (ic.above x c hx), M.mono fun b o _ e => ic.toInCall.keep b o e, _, _, ic.toInCall.ns, ic.cell, fun i x c v h1 h2 => ?_⟩
    · obtain ⟨o, e⟩ := M.live b hm
      exact absurd (Heap.lt_size e) (Nat.not_lt.mpr (hlc b hb))
    · rw [hcells]; exact cellsFrom_some _ _ _ ((S.kinds p hp).2 h)
    · unfold start at h2
      rw [List.getElem?_map, h1] at h2
      simp only [Option.map_some, Option.some.injEq] at h2
      obtain ⟨r, hr, rv⟩ := zip_lookup ra h2
      refine ⟨r, ?_, rv.keeps ic.toInCall.keep⟩
      have hk := S.kinds (x, c) (List.mem_of_getElem? h1)
      cases c with
      | false =>
        rw [if_neg Bool.false_ne_true]
        exact bindL_get (by rw [hki]; exact hk.1 rfl) _ _ (by rw [hkeys]; exact S.pnodup) hr
      | true =>
        rw [if_pos rfl]
        exact bindC_get (by rw [hki, hk.2 rfl]; simp) _ _ (by rw [hkeys]; exact S.pnodup) hr
  refine wpAny_mono (hbody.run env _ s₁ R.deeper F) (fun fw s' ⟨fl, σ', μ', hK, hfl, F', N⟩ => ?_) fun _ _ x => x.elim
  have hS : Stp q (Wq q μ) s s' := by
    have k0 : Kp s s₁ := by rw [hs₁]; exact Kp.of fun b o e => by have := ic.toInCall.keep b o e; rw [hs₁] at this; exact this
    have a1 : Stp q (Wr q env μ) s s' := (k0.stp).trans N.stp
    refine a1.mono fun b hb w => ?_
    have hbl : ∃ o, s.heap.get? b = some o := Option.ne_none_iff_exists'.mp hb
    rcases w with w | w | w | w
    · obtain ⟨o, e⟩ := hbl; exact absurd (Heap.lt_size e) (Nat.not_lt.mpr (hlc b (.inl w)))
    · obtain ⟨o, e⟩ := hbl; exact absurd (Heap.lt_size e) (Nat.not_lt.mpr (hlc b (.inr w)))
    · exact .inl w
    · exact .inr w
  cases hfl with
  | nx => exact ⟨_, σ', μ', hK, .none, F'.mu, hS, F'.pg.tab⟩
  | bk => exact ⟨_, σ', μ', hK, .none, F'.mu, hS, F'.pg.tab⟩
  | ct => exact ⟨_, σ', μ', hK, .none, F'.mu, hS, F'.pg.tab⟩
  | rt r => exact ⟨_, σ', μ', hK, r, F'.mu, hS, F'.pg.tab⟩

/-- a quiet def's contract -/
theorem CallOk.def {f : FnRec} {a : Addr} {ps : List Str} {vars : Vars} (S : Sig f ps vars) (hf : (a, f) ∈ C.fns) {args : List AV} {v : AV} (hl : ps.length = args.length)
    (hb : ∀ fd (rs : List Value), fd.params = f.params → fd.defaults = f.dflt → rs.length = ps.length → bindArgs fd ⟨rs, []⟩ = pure (ps.zip rs))
    (hbody : XS C n f.scope.names vars true (start ps args vars) [] f.body (Ret v)) : CallOk C (n + 1) (.ref a) args v := fun A s rs R P ra => by
  have M0 : MuOk s.heap [] := ⟨fun _ h => (nomatch h), List.nodup_nil, fun _ h => (nomatch h)⟩
  refine wp_post (fn_call S hf R P (fun fd h1 h2 => .of_eq (hb fd rs h1 h2 (by rw [hl]; exact ra.length.symm))) ra hl M0 hbody) fun r s' ⟨fl, σ', μ', hK, hr, _, S', _⟩ => ?_
  rw [show fl = .rt v from hK] at hr
  exact ⟨hr, S'.kp fun b _ w => by rcases w with w | ⟨w, _⟩; cases w; cases w⟩
end
end Mine
end

noncomputable section
open PySem PySem.Calls PyProof.Rows PySem.W PySem.Flt PySem.SeqAt
set_option Elab.async false
set_option linter.unusedVariables false
namespace Mine
section
variable {C : Cx} {n : Nat} {names : List (Str × NameKind)} {vars : Vars} {σ σ' : List (Option AV)} {q : Bool} {μ μ' : Mu} {K : KK}

theorem QB.cmp2 {l m r : Expr} {o1 o2 : CmpOp} {pos : Pos} {a b c : AV} {u v : Bool} (hl : QE C n names vars σ l a) (hm : QE C n names vars σ m b) (hr : QE C n names vars σ r c) (h1 : OpOk C n (compareOp o1) a b (.bool u)) (h2 : OpOk C n (compareOp o2) b c (.bool v))
    (hx : lastMarks [o1, o2] [m, r] = false := by with_unfolding_all rfl) : QB C n names vars σ (.Compare l [o1, o2] [m, r] pos) (u && v) := .mk fun env A s E R P L => by
  refine isTrue_chain ?_ hx
  refine wp_post (hl.run env A s E R P L) fun x s₁ ⟨r1, k1⟩ => ?_
  have P1 := P.keeps k1.heap
  have L1 := L.keeps k1.heap
  refine test_link (wp_post (hm.run env A s₁ E R P1 L1) fun y s₂ ⟨r2, k2⟩ => ?_)
  have P2 := P1.keeps k2.heap
  have L2 := L1.keeps k2.heap
  refine wp_post (h1 A s₂ x y R P2 (r1.keeps k2.heap) r2) fun z s₃ ⟨r3, k3⟩ => ?_
  obtain rfl := r3.bool_eq
  refine wpAny_truthy_bool ?_
  cases u with
  | false => rw [if_neg Bool.false_ne_true]; exact ⟨rfl, (k1.trans' k2).trans' k3⟩
  | true =>
    rw [if_pos rfl]
    have P3 := P2.keeps k3.heap
    have L3 := L2.keeps k3.heap
    refine test_last (wp_post (hr.run env A s₃ E R P3 L3) fun y' s₄ ⟨r4, k4⟩ => ?_)
    refine wp_post (h2 A s₄ y y' R (P3.keeps k4.heap) ((r2.keeps k3.heap).keeps k4.heap) r4) fun z' s₅ ⟨r5, k5⟩ => ?_
    obtain rfl := r5.bool_eq
    exact wpAny_truthy_bool ⟨rfl, (((k1.trans' k2).trans' k3).trans' k4).trans' k5⟩

theorem QE.ifI {t x y : Expr} {pos : Pos} {b : Bool} {u v : Int} (h : QB C n names vars σ t b) (hx : b = true → QE C n names vars σ x (.int u)) (hy : b = false → QE C n names vars σ y (.int v)) : QE C n names vars σ (.IfExp t x y pos) (.int (if b = true then u else v)) :=
  .ifexp h (fun e => (hx e).eqv (by rw [if_pos e])) (fun e => (hy e).eqv (by rw [if_neg (by simp [e])]))
noncomputable def toI (x : UInt64) : Int := match Float64.decode x with
  | .fin s m e => Float64.truncOf s m e
  | _ => 0
theorem intF1 {x : UInt64} (h : Float64.isFinite x = true) : CallOk C n (.type "int") [.flt x] (.int (toI x)) := by
  unfold Float64.isFinite at h
  cases hd : Float64.decode x with
  | fin s m e => have := intF (C := C) (n := n) hd; unfold toI; rw [hd]; exact this
  | inf _ => rw [hd] at h; cases h
  | nan => rw [hd] at h; cases h
theorem getLI {l : List Int} {i : Int} (h0 : 0 ≤ i) (h1 : i < l.length) (h2 : l.length ≤ 1000) : GetOk C n (.lst (l.map .int)) (.int i) (.int (l.getD i.toNat 0)) := by
  have h3 : i.toNat < l.length := by (first | lia | omega)
  refine getL h0 (by (first | lia | omega)) ?_
  rw [List.getElem?_map, List.getElem?_eq_getElem h3, List.getD_eq_getElem?_getD, List.getElem?_eq_getElem h3]
  rfl
theorem getTF {l : List UInt64} {i : Int} (h0 : 0 ≤ i) (h1 : i < l.length) (h2 : l.length ≤ 1000) : GetOk C n (.tup (l.map .flt)) (.int i) (.flt (l.getD i.toNat 0)) := by
  have h3 : i.toNat < l.length := by (first | lia | omega)
  refine getTu h0 (by (first | lia | omega)) ?_
  rw [List.getElem?_map, List.getElem?_eq_getElem h3, List.getD_eq_getElem?_getD, List.getElem?_eq_getElem h3]
  rfl
noncomputable def chS (x : Str) (i : Int) : Str := match (seqIndex? i x.length).bind (x.cps[·]?) with
  | some c => ⟨#[c]⟩
  | none => ""
theorem getS1 {x : Str} {i : Int} (h : -(1000 : Int) ≤ i ∧ i < 1000 ∧ ((seqIndex? i x.length).bind (x.cps[·]?)).isSome = true) : GetOk C n (.str x) (.int i) (.str (chS x i)) := by
  obtain ⟨h0, h1, h2⟩ := h
  obtain ⟨c, hc⟩ := Option.isSome_iff_exists.mp h2
  have : chS x i = ⟨#[c]⟩ := by unfold chS; rw [hc]
  rw [this]
  exact getS (by (first | lia | omega)) (by (first | lia | omega)) hc

noncomputable def rangeL (k : Int) : List Int := (List.range k.toNat).map fun (i : Nat) => (0 : Int) + (i : Int)
theorem irange_eq (k : Int) : irange 0 k = (rangeL k).map .int := by
  unfold irange rangeL
  rw [List.map_map, show (k - 0) = k from by (first | lia | omega)]
  rfl
noncomputable def range2L (a b : Int) : List Int := (List.range (b - a).toNat).map fun (i : Nat) => a + (i : Int)
theorem irange_eq2 (a b : Int) : irange a b = (range2L a b).map .int := by
  unfold irange range2L
  rw [List.map_map]
  rfl
theorem mem_rangeL {k j : Int} (h : j ∈ rangeL k) : 0 ≤ j ∧ j < k := by
  unfold rangeL at h
  obtain ⟨i, hi, e⟩ := List.mem_map.mp h
  have := List.mem_range.mp hi
  (first | lia | omega)
theorem mem_range2L {a b j : Int} (h : j ∈ range2L a b) : a ≤ j ∧ j < b := by
  unfold range2L at h
  obtain ⟨i, hi, e⟩ := List.mem_map.mp h
  have := List.mem_range.mp hi
  (first | lia | omega)
theorem QI.range1L {x : Str} {p pos : Pos} {e : Expr} {k : Int} (hk : names.lookup x = some .globalImplicit) (hg : (x, GV.none) ∈ C.globs) (hb : (x, .type "range") ∈ C.blts)
    (he : QE C n names vars σ e (.int k)) (h1 : -1000000 ≤ k ∧ k ≤ 1000000) (hd : (x == ("__debug__" : Str)) = false := by decide +kernel) (hs : ∀ env, starEach [e] env = [(false, eval e env)] := by intro _; rfl) :
    QI C n names vars σ (.Call (.Name x p) [e] [] pos) ((rangeL k).map .int) := by
  rw [← irange_eq]; exact QI.range1 hk hg hb he h1.1 h1.2 hd hs
theorem QI.range2L {x : Str} {p pos : Pos} {e f : Expr} {j k : Int} (hk : names.lookup x = some .globalImplicit) (hg : (x, GV.none) ∈ C.globs) (hb : (x, .type "range") ∈ C.blts)
    (he : QE C n names vars σ e (.int j)) (hf : QE C n names vars σ f (.int k)) (h1 : -1000000 ≤ j ∧ j ≤ 1000000) (h2 : -1000000 ≤ k ∧ k ≤ 1000000) (hd : (x == ("__debug__" : Str)) = false := by decide +kernel)
    (hs : ∀ env, starEach [e, f] env = (false, eval e env) :: starEach [f] env := by intro _; rfl) (hs' : ∀ env, starEach [f] env = [(false, eval f env)] := by intro _; rfl) :
    QI C n names vars σ (.Call (.Name x p) [e, f] [] pos) ((Mine.range2L j k).map .int) := by
  rw [← irange_eq2]; exact QI.range2 hk hg hb he hf h1.1 h1.2 h2.1 h2.2 hd hs hs'

/-- values that no heap is asked for -/
noncomputable def ScalAV : AV → Prop
  | .none | .bool _ | .int _ | .flt _ | .str _ => True
  | _ => False
theorem ScalAV.scal {a : AV} (h : ScalAV a) {hp : Heap} {v : Value} (r : Rel hp a v) : Scal a v := fun h' => by
  cases r with
  | none => exact .none
  | bool b => exact .bool b
  | int i t => exact .int i t
  | flt x t => exact .flt x t
  | str x t => exact .str x t
  | acc a => cases h
  | tup _ _ _ => cases h
  | lst _ _ _ => cases h
noncomputable def onI (f : Int → AV) : AV → AV
  | .int j => f j
  | a => a
noncomputable def onIB (f : Int → Bool) : AV → Bool
  | .int j => f j
  | a => false
theorem CompOk.ints {scope : Scope} {x : Str} {iter elt : Expr} {ifs : List Expr} {xs : List Int} {vars2 : Vars} {σ2 : List (Option AV)} (sc : compScopeB scope x = true) (cap : Cap vars σ scope.names vars2 σ2) (hfree : freeIn scope vars2 = true) (hi : QI C n names vars σ iter (xs.map .int)) (hlen : xs.length ≤ 100000)
    {t : Int → Bool} {f : Int → AV} (hs : ∀ j ∈ xs, ScalAV (f j)) (ht : ∀ j ∈ xs, QTests C n (relN scope.names names) ((x, false) :: vars2) (some (.int j) :: σ2) ifs (t j))
    (he : ∀ j ∈ xs, t j = true → QE C n (relN scope.names names) ((x, false) :: vars2) (some (.int j) :: σ2) elt (f j)) : CompOk C n names vars σ scope x iter ifs elt (xs.map .int) (onIB t) (onI f) where
  sc := compScope sc
  cap := ⟨vars2, σ2, cap, hfree, fun a ha => by obtain ⟨j, hj, rfl⟩ := List.mem_map.mp ha; exact ht j hj, fun a ha h => by obtain ⟨j, hj, rfl⟩ := List.mem_map.mp ha; exact he j hj h⟩
  iter := hi
  size := by rw [List.length_map]; exact hlen
  scal := fun a ha h v r => by obtain ⟨j, hj, rfl⟩ := List.mem_map.mp ha; exact (hs j hj).scal r
theorem comp_ints {xs : List Int} {t : Int → Bool} {f : Int → AV} : ((xs.map AV.int).filter (onIB t)).map (onI f) = (xs.filter t).map f := by
  induction xs with
  | nil => rfl
  | cons a l ih =>
    by_cases h : t a = true
    · have e1 : onIB t (.int a) = true := h
      rw [List.map_cons, List.filter_cons_of_pos e1, List.filter_cons_of_pos h, List.map_cons, List.map_cons, ih]
      rfl
    · have e1 : ¬ onIB t (.int a) = true := h
      rw [List.map_cons, List.filter_cons_of_neg e1, List.filter_cons_of_neg h, ih]
/-- with no test -/
theorem CompOk.ints0 {scope : Scope} {x : Str} {iter elt : Expr} {xs : List Int} {vars2 : Vars} {σ2 : List (Option AV)} (sc : compScopeB scope x = true) (cap : Cap vars σ scope.names vars2 σ2) (hfree : freeIn scope vars2 = true) (hi : QI C n names vars σ iter (xs.map .int)) (hlen : xs.length ≤ 100000)
    {f : Int → AV} (hs : ∀ j ∈ xs, ScalAV (f j)) (he : ∀ j ∈ xs, QE C n (relN scope.names names) ((x, false) :: vars2) (some (.int j) :: σ2) elt (f j)) : CompOk C n names vars σ scope x iter [] elt (xs.map .int) (onIB fun _ => true) (onI f) :=
  .ints sc cap hfree hi hlen hs (fun _ _ => .nil) fun j hj _ => he j hj
theorem comp_ints0 {xs : List Int} {f : Int → AV} : ((xs.map AV.int).filter (onIB fun _ => true)).map (onI f) = xs.map f := by
  rw [comp_ints, List.filter_eq_self.mpr fun _ _ => rfl]
/-- as a value -/
theorem QE.compI {scope : Scope} {x : Str} {px pos : Pos} {iter elt : Expr} {xs : List Int} {f : Int → AV} (K : CompOk C n names vars σ scope x iter [] elt (xs.map .int) (onIB fun _ => true) (onI f)) (hs : ∀ env x, foldedSetIterable iter env x = pure x := by intro _ _; rfl) :
    QE C n names vars σ (.ListComp elt [⟨.Name x px, iter, [], 0⟩] scope pos) (.lst (xs.map f)) := (QE.comp K hs).eqv (by rw [comp_ints0])
/-- for a local -/
theorem XS.setI {x y : Str} {px p pos spos : Pos} {iter elt : Expr} {scope : Scope} {xs : List Int} {f : Int → AV} {rest : List Stmt} (H : CompOk C n names vars σ scope x iter [] elt (xs.map .int) (onIB fun _ => true) (onI f)) (hy : names.lookup y = some .local)
    (hp : Put vars σ y (.lst (xs.map f)) σ') (hr : XS C n names vars q σ' μ rest K) (hsw : ∀ env, EnvOk names env → swapsWith (.ListComp elt [⟨.Name x px, iter, [], 0⟩] scope pos) (some (.Name y p)) spos.line env = pure true) (hs : ∀ env x, foldedSetIterable iter env x = pure x := by intro _ _; rfl) :
    XS C n names vars q σ μ (.Assign [.Name y p] (.ListComp elt [⟨.Name x px, iter, [], 0⟩] scope pos) spos :: rest) K :=
  .seq (.setC H hy (σ' := σ') (by rw [comp_ints0]; exact hp) ⟨rfl, rfl, rfl⟩ hsw hs) hr
theorem XS.setIf {x y : Str} {px p pos spos : Pos} {iter elt : Expr} {ifs : List Expr} {scope : Scope} {xs : List Int} {f : Int → AV} {t : Int → Bool} {rest : List Stmt} (H : CompOk C n names vars σ scope x iter ifs elt (xs.map .int) (onIB t) (onI f)) (hy : names.lookup y = some .local)
    (hp : Put vars σ y (.lst ((xs.filter t).map f)) σ') (hr : XS C n names vars q σ' μ rest K) (hsw : ∀ env, EnvOk names env → swapsWith (.ListComp elt [⟨.Name x px, iter, ifs, 0⟩] scope pos) (some (.Name y p)) spos.line env = pure true) (hs : ∀ env x, foldedSetIterable iter env x = pure x := by intro _ _; rfl) :
    XS C n names vars q σ μ (.Assign [.Name y p] (.ListComp elt [⟨.Name x px, iter, ifs, 0⟩] scope pos) spos :: rest) K :=
  .seq (.setC H hy (σ' := σ') (by rw [comp_ints]; exact hp) ⟨rfl, rfl, rfl⟩ hsw hs) hr
theorem swaps_local {elt : Expr} {gs : List Comprehension} {scope : Scope} {pos p : Pos} {y : Str} {line : Nat} (hy : names.lookup y = some .local) (hl : (p.line == pos.line) = true) (hn : (scope.names.any fun (n, k) => n == y && (k == .local || k == .cell)) = false) : ∀ env, EnvOk names env → swapsWith (.ListComp elt gs scope pos) (some (.Name y p)) line env = pure true := fun env E => by
  unfold swapsWith
  show (pure (env.blockKind == .function && env.kindOf y == some .local && p.line == pos.line && !(scope.names.any fun (n, k) => n == y && (k == .local || k == .cell))) : Sem Bool) = _
  have hb : env.blockKind = .function := by unfold Env.blockKind; rw [E.kind]; rfl
  rw [hb, E.kindOf, hy, hl, hn]
  rfl
theorem swaps_cell {elt : Expr} {gs : List Comprehension} {scope : Scope} {pos p : Pos} {y : Str} {line : Nat} (hy : names.lookup y = some .cell) : ∀ env, EnvOk names env → swapsWith (.ListComp elt gs scope pos) (some (.Name y p)) line env = pure false := fun env E => by
  unfold swapsWith
  show (pure (env.blockKind == .function && env.kindOf y == some .local && p.line == pos.line && !(scope.names.any fun (n, k) => n == y && (k == .local || k == .cell))) : Sem Bool) = _
  rw [E.kindOf, hy, show (some NameKind.cell == some NameKind.local) = false from rfl, Bool.and_false, Bool.false_and, Bool.false_and]
end
end Mine
end

noncomputable section
open PySem PySem.Calls PyProof.Rows PySem.W PySem.Flt PySem.SeqAt
set_option Elab.async false
set_option linter.unusedVariables false
namespace Mine

/-! strings as lists of signs -/
noncomputable def S (l : List Nat) : Str := ⟨l.toArray⟩
theorem S_len (l : List Nat) : (S l).length = l.length := by show l.toArray.size = _; simp
theorem S_inj {l m : List Nat} (h : S l = S m) : l = m := by
  have : (S l).cps.toList = (S m).cps.toList := by rw [h]
  simpa [S] using this
theorem S_beq (l m : List Nat) : (S l == S m) = (l == m) := by
  by_cases h : l = m
  · subst h; simp
  · have : S l ≠ S m := fun e => h (S_inj e)
    rw [beq_eq_false_iff_ne.mpr this, beq_eq_false_iff_ne.mpr h]
theorem S_app (l m : List Nat) : S l ++ S m = S (l ++ m) := by
  show (⟨l.toArray ++ m.toArray⟩ : Str) = _
  unfold S; simp

theorem pick_step1 {α : Type} (l : List α) (a b : Nat) (hb : b ≤ l.length) : (sliceRange a b 1).filterMap (l[·]?) = (l.take b).drop a := by
  have hr : sliceRange a b 1 = (List.range (b - a)).map (fun k => a + k) := by
    unfold sliceRange
    simp only [show (1 : Int) > 0 from by decide, if_true]
    have : (if (a : Int) < (b : Int) then ((b : Int) - a + 1 - 1) / 1 else 0).toNat = b - a := by split <;> (first | lia | omega)
    rw [this]
    apply List.map_congr_left
    intro k _
    (first | lia | omega)
  rw [hr]
  have key : ∀ k, a + k ≤ l.length → ((List.range k).map (fun j => a + j)).filterMap (l[·]?) = (l.drop a).take k := by
    intro k
    induction k with
    | zero => intro _; simp
    | succ k ih =>
      intro hk
      rw [List.range_succ, List.map_append, List.filterMap_append, ih (by (first | lia | omega)), List.take_add_one]
      have hlt : a + k < l.length := by (first | lia | omega)
      simp [List.getElem?_drop, List.getElem?_eq_getElem hlt]
  by_cases h : a ≤ b
  · rw [key (b - a) (by (first | lia | omega)), List.drop_take]
  · have : b - a = 0 := by (first | lia | omega)
    rw [this]
    rw [List.drop_eq_nil_of_le (by rw [List.length_take]; (first | lia | omega))]
    rfl
theorem sliceS_eq (l : List Nat) (lo hi st : Option Int) : sliceS (S l) lo hi st = S ((Builtin.Str.strSliceIndices lo hi (st.getD 1) l.length).filterMap (l[·]?)) := by
  unfold sliceS
  rw [S_len]
  show (⟨_⟩ : Str) = ⟨_⟩
  simp [S]
theorem sl_drop (l : List Nat) (p : Nat) : sliceS (S l) (some p) none none = S (l.drop p) := by
  rw [sliceS_eq]
  congr 1
  have : Builtin.Str.strSliceIndices (some (p : Int)) none ((none : Option Int).getD 1) l.length = sliceRange ((min p l.length : Nat) : Int) (l.length : Nat) 1 := by
    unfold Builtin.Str.strSliceIndices
    simp only [Option.getD_none, show (1 : Int) > 0 from by decide, if_true]
    rw [if_neg (by (first | lia | omega))]
    congr 1
    (first | lia | omega)
  rw [this, pick_step1 l _ _ (Nat.le_refl _), List.take_length]
  by_cases h : p ≤ l.length
  · rw [Nat.min_eq_left h]
  · rw [Nat.min_eq_right (by (first | lia | omega)), List.drop_eq_nil_of_le (Nat.le_refl _), List.drop_eq_nil_of_le (by (first | lia | omega))]
theorem sl_take (l : List Nat) (p : Nat) : sliceS (S l) none (some p) none = S (l.take p) := by
  rw [sliceS_eq]
  congr 1
  have : Builtin.Str.strSliceIndices none (some (p : Int)) ((none : Option Int).getD 1) l.length = sliceRange ((0 : Nat) : Int) ((min p l.length : Nat) : Int) 1 := by
    unfold Builtin.Str.strSliceIndices
    simp only [Option.getD_none, show (1 : Int) > 0 from by decide, if_true]
    rw [if_neg (by (first | lia | omega))]
    congr 1
    (first | lia | omega)
  rw [this, pick_step1 l _ _ (Nat.min_le_right _ _), List.drop_zero]
  by_cases h : p ≤ l.length
  · rw [Nat.min_eq_left h]
  · rw [Nat.min_eq_right (by (first | lia | omega)), List.take_of_length_le (Nat.le_refl _), List.take_of_length_le (by (first | lia | omega))]
theorem sl_neg (l : List Nat) (p : Nat) (hp : 0 < p) : sliceS (S l) none (some (-(p : Int))) none = S (l.take (l.length - p)) := by
  rw [sliceS_eq]
  congr 1
  have : Builtin.Str.strSliceIndices none (some (-(p : Int))) ((none : Option Int).getD 1) l.length = sliceRange ((0 : Nat) : Int) ((l.length - p : Nat) : Int) 1 := by
    unfold Builtin.Str.strSliceIndices
    simp only [Option.getD_none, show (1 : Int) > 0 from by decide, if_true]
    rw [if_pos (by (first | lia | omega))]
    congr 1
    (first | lia | omega)
  rw [this, pick_step1 l _ _ (Nat.sub_le _ _), List.drop_zero]
theorem sl_last (l : List Nat) : sliceS (S l) (some (-1)) none none = S (l.drop (l.length - 1)) := by
  rw [sliceS_eq]
  congr 1
  have : Builtin.Str.strSliceIndices (some (-1)) none ((none : Option Int).getD 1) l.length = sliceRange ((l.length - 1 : Nat) : Int) (l.length : Nat) 1 := by
    unfold Builtin.Str.strSliceIndices
    simp only [Option.getD_none, show (1 : Int) > 0 from by decide, if_true]
    rw [if_pos (by (first | lia | omega))]
    congr 1
    (first | lia | omega)
  rw [this, pick_step1 l _ _ (Nat.le_refl _), List.take_length]
theorem sl_all (l : List Nat) : sliceS (S l) none none none = S l := by
  rw [sliceS_eq]
  congr 1
  have : Builtin.Str.strSliceIndices none none ((none : Option Int).getD 1) l.length = sliceRange ((0 : Nat) : Int) (l.length : Nat) 1 := rfl
  rw [this, pick_step1 l _ _ (Nat.le_refl _), List.take_length, List.drop_zero]
theorem chS_nat (l : List Nat) (i : Nat) (h : i < l.length) : chS (S l) i = S [l[i]] := by
  unfold chS
  have : seqIndex? (i : Int) (S l).length = some i := by
    unfold seqIndex?
    rw [S_len]
    simp only [show ¬ ((i : Int) < 0) from by (first | lia | omega), if_false]
    rw [if_pos (by simp; (first | lia | omega))]
    simp
  rw [this]
  show (match l.toArray[i]? with | some c => (⟨#[c]⟩ : Str) | none => "") = _
  rw [List.getElem?_toArray, List.getElem?_eq_getElem h]
  rfl
theorem chS_neg (l : List Nat) (p : Nat) (hp : 0 < p) (h : p ≤ l.length) : chS (S l) (-(p : Int)) = S [l[l.length - p]] := by
  unfold chS
  have : seqIndex? (-(p : Int)) (S l).length = some (l.length - p) := by
    unfold seqIndex?
    rw [S_len]
    simp only [show (-(p : Int) < 0) from by (first | lia | omega), if_true]
    rw [if_pos (by simp; (first | lia | omega))]
    congr 1
    (first | lia | omega)
  rw [this]
  show (match l.toArray[l.length - p]? with | some c => (⟨#[c]⟩ : Str) | none => "") = _
  rw [List.getElem?_toArray, List.getElem?_eq_getElem (by (first | lia | omega))]
  rfl
theorem chOk_nat (l : List Nat) (i : Nat) (h : i < l.length) : ((seqIndex? (i : Int) (S l).length).bind ((S l).cps[·]?)).isSome = true := by
  have : seqIndex? (i : Int) (S l).length = some i := by
    unfold seqIndex?
    rw [S_len]
    simp only [show ¬ ((i : Int) < 0) from by (first | lia | omega), if_false]
    rw [if_pos (by simp; (first | lia | omega))]
    simp
  rw [this]
  show (l.toArray[i]?).isSome = true
  rw [List.getElem?_toArray, List.getElem?_eq_getElem h]
  rfl
theorem chOk_neg (l : List Nat) (p : Nat) (hp : 0 < p) (h : p ≤ l.length) : ((seqIndex? (-(p : Int)) (S l).length).bind ((S l).cps[·]?)).isSome = true := by
  have : seqIndex? (-(p : Int)) (S l).length = some (l.length - p) := by
    unfold seqIndex?
    rw [S_len]
    simp only [show (-(p : Int) < 0) from by (first | lia | omega), if_true]
    rw [if_pos (by simp; (first | lia | omega))]
    congr 1
    (first | lia | omega)
  rw [this]
  show (l.toArray[l.length - p]?).isSome = true
  rw [List.getElem?_toArray, List.getElem?_eq_getElem (by (first | lia | omega))]
  rfl
end Mine
end

noncomputable section
open PySem PySem.Calls PyProof.Rows PySem.W PySem.Flt PySem.SeqAt
set_option Elab.async false
set_option linter.unusedVariables false
namespace Mine
section
variable {C : Cx} {n : Nat} {names : List (Str × NameKind)} {vars : Vars} {σ σ' : List (Option AV)} {q : Bool} {μ μ' : Mu} {K : KK}

theorem intsAre_len {vs : List Value} {l : List Int} (h : IntsAre vs l) : vs.length = l.length := by
  induction h with
  | nil => rfl
  | cons _ _ _ ih => simp [ih]
theorem intsAre_get {vs : List Value} {l : List Int} (h : IntsAre vs l) : ∀ (i : Nat), i < l.length → ∃ t, vs[i]? = some (.int (l.getD i 0) t) := by
  induction h with
  | nil => intro i hi; simp at hi
  | cons x t _ ih =>
    intro i hi
    cases i with
    | zero => exact ⟨_, rfl⟩
    | succ i => obtain ⟨t, e⟩ := ih i (by simpa using hi); exact ⟨t, by simpa using e⟩
theorem intsAre_set {vs : List Value} {l : List Int} (h : IntsAre vs l) (v : Int) (t : Tok) : ∀ (i : Nat), IntsAre (vs.set i (.int v t)) (l.set i v) := by
  induction h with
  | nil => intro i; exact .nil
  | cons x u h ih =>
    intro i
    cases i with
    | zero => exact .cons _ _ h
    | succ i => exact .cons _ _ (ih i)
theorem rel_int {h : Heap} {i : Int} {r : Value} (x : Rel h (.int i) r) : ∃ t, r = .int i t := x.int_ex
theorem intsAre_of {f : Nat → Int} : ∀ (k : Nat) (vs : List Value), vs.length = k → (∀ (i : Nat) v, vs[i]? = some v → ∃ t, v = .int (f i) t) → IntsAre vs ((List.range k).map f) := by
  intro k
  induction k generalizing f with
  | zero => intro vs h _; rw [List.length_eq_zero_iff.mp h]; exact .nil
  | succ k ih =>
    intro vs h hv
    cases vs with
    | nil => simp at h
    | cons v vs =>
      obtain ⟨t, rfl⟩ := hv 0 v rfl
      rw [List.range_succ_eq_map, List.map_cons, List.map_map]
      exact .cons _ _ (ih vs (by simpa using h) fun i w e => hv (i + 1) w (by simpa using e))

/-- nothing in the variables but plain values and plain references -/
noncomputable def scalS : List (Option AV) → Prop
  | [] => True
  | o :: r => (match o with | some (.tup _) | some (.lst _) => False | _ => True) ∧ scalS r
theorem scalS_rel : ∀ {σ : List (Option AV)}, scalS σ → ∀ (i : Nat) v, σ[i]? = some (some v) → ∀ (h h' : Heap) (r : Value), Rel h v r → Rel h' v r
  | o :: r, ⟨h1, h2⟩, 0, v, e, hp, hp', w, hr => by
    simp at e; subst e
    cases hr with
    | none => exact .none
    | bool b => exact .bool b
    | int i t => exact .int i t
    | flt x t => exact .flt x t
    | str x t => exact .str x t
    | acc a => exact .acc a
    | tup _ _ _ => cases h1
    | lst _ _ _ => cases h1
  | o :: r, ⟨h1, h2⟩, i + 1, v, e, hp, hp', w, hr => scalS_rel h2 i v (by simpa using e) hp hp' w hr
  | [], _, i, v, e, _, _, _, _ => by simp at e

/-- row[index] -/
theorem XE.rowget {x : Str} {c : Bool} {p pos : Pos} {idx : Expr} {a : Addr} {l : List Int} {i : Int} (hr : At vars σ x c (.acc a)) (hm : (a, .row l) ∈ μ) (hi : QE C n names vars σ idx (.int i)) (h0 : 0 ≤ i) (h1 : i < l.length) (h2 : l.length ≤ 1000) (hd : ((x == ("__debug__" : Str)) || (x == ("__classdict__" : Str))) = false := by decide +kernel) :
    XE C n names vars q σ μ (.Subscript (.Name x p) idx pos) (.int (l.getD i.toNat 0)) μ := .mk fun env A s R F => by
  refine wp_subscript (wp_post ((QE.name hr hd : QE C n names vars σ (.Name x p) _).run env A s F.ok R F.pg F.loc) fun o s₁ ⟨r1, k1⟩ => ?_)
  refine wp_post (hi.run env A s₁ F.ok R (F.pg.keeps k1.heap) (F.loc.keeps k1.heap)) fun y s₂ ⟨r2, k2⟩ => ?_
  obtain rfl := r1.acc_eq
  obtain ⟨_, rfl⟩ := r2.int_ex
  have F2 := (F.kp k1).kp k2
  obtain ⟨vs, hl, ia⟩ := F2.mu.at' _ hm
  refine ⟨getT_list hl, ?_⟩
  have hlt : i.toNat < l.length := by (first | lia | omega)
  obtain ⟨t, e⟩ := intsAre_get ia i.toNat hlt
  with_reducible refine wpAny_getItem_list hl h0 (by (first | lia | omega)) (by rw [List.getElem?_toArray]; exact e) ?_
  exact ⟨.int _ _, F2, .of (k1.trans' k2).stp⟩
/-- row[index] = v -/
theorem X1.rowset {x : Str} {c : Bool} {p pos pos' : Pos} {idx e : Expr} {a : Addr} {l : List Int} {i v : Int} (hs : scalS σ) (hr : At vars σ x c (.acc a)) (hi : QE C n names vars σ idx (.int i)) (he : QE C n names vars σ e (.int v)) (h0 : 0 ≤ i) (h1 : i < l.length) (h2 : l.length ≤ 1000) (hk : K .nx σ [(a, .row (l.set i.toNat v))])
    (hw : ∀ env, swapsWith e (some (.Subscript (.Name x p) idx pos')) pos.line env = pure false := by intro _; rfl) (hd : ((x == ("__debug__" : Str)) || (x == ("__classdict__" : Str))) = false := by decide +kernel) :
    X1 C n names vars true σ [(a, .row l)] (.Assign [.Subscript (.Name x p) idx pos'] e pos) K := .mk fun env A s R F => by
  refine wpAny_Assign_Subscript (wp_post (he.run env A s F.ok R F.pg F.loc) fun y s₁ ⟨r1, k1⟩ => ?_) (hw env)
  refine wp_post ((QE.name hr hd : QE C n names vars σ (.Name x p) _).run env A s₁ F.ok R (F.pg.keeps k1.heap) (F.loc.keeps k1.heap)) fun o s₂ ⟨r2, k2⟩ => ?_
  have k12 := k1.trans' k2
  refine wp_post (hi.run env A s₂ F.ok R (F.pg.keeps k12.heap) (F.loc.keeps k12.heap)) fun z s₃ ⟨r3, k3⟩ => ?_
  have k := k12.trans' k3
  obtain ⟨tv, rfl⟩ := rel_int r1
  obtain rfl := r2.acc_eq
  obtain ⟨_, rfl⟩ := r3.int_ex
  have F3 := F.kp k
  obtain ⟨vs, hl, ia⟩ := F3.mu.at' (a, .row l) (.head _)
  have hlen := intsAre_len ia
  refine wpAny_setItem_list hl h0 (by (first | lia | omega)) (by rw [List.size_toArray]; (first | lia | omega)) fun h' hl' hsb => ?_
  have ne : ∀ b o, b ≠ a → s₃.heap.get? b = some o → h'.get? b = some o := fun b o hb e => (hsb.2 b hb).trans e
  have hlow : 170 ≤ a := F3.mu.low a (by simp [muAll])
  have hown : ∀ b, Own env b → b ≠ a := fun b hb e => F3.sep b hb (by subst e; simp [muAll])
  obtain ⟨m, cm, hn, hc, hv⟩ := F3.val
  have live' : ∃ o, h'.get? a = some o := by obtain ⟨o, e, _⟩ := hl'; exact ⟨o, e⟩
  have mu' : muAll [(a, MO.row (l.set i.toNat v))] = muAll [(a, MO.row l)] := rfl
  refine ⟨_, _, _, hk, .nx, ⟨F3.ok, F3.pg.step fun b o lb e => ne b o (fun hb => ?_) e, F3.low, F3.sep, F3.nodup, F3.kinds, F3.len, F3.apart, F3.above, ⟨fun p hp => ?_, F3.mu.nd, F3.mu.low⟩, m, cm,
    hn.at' fun o e => ne _ o (hown _ (.inl rfl)) e, fun y d e => IsCell.at'' (hc y d e) fun o e' => ne _ o (hown _ (.inr ⟨y, e⟩)) e', fun j y d u e1 e2 => ?_⟩, (Nxt.of k.stp).trans ⟨?_, fun p hp => .inl hp, fun p hp => .inl hp⟩⟩
  · exact absurd (Nat.lt_of_lt_of_le (hb ▸ lb) hlow) (Nat.lt_irrefl _)
  · rcases List.mem_cons.mp hp with rfl | hp
    · refine ⟨vs.set i.toNat (.int v tv), ?_, intsAre_set ia v _ _⟩
      rw [show List.toArray (vs.set i.toNat (Value.int v _)) = (List.toArray vs).setIfInBounds i.toNat (.int v tv) from by simp]
      exact hl'
    · cases hp
  · obtain ⟨r, hr', rel⟩ := hv j y d u e1 e2
    exact ⟨r, hr', scalS_rel hs j u e2 _ _ r rel⟩
  · refine ⟨fun b o hb e => ne b o (fun e' => hb (.inr (.inr (.inl (by subst e'; simp))))) e, fun b o e => ?_, fun hq => (by cases hq), ?_⟩
    · by_cases hb : b = a
      · subst hb; exact live'
      · exact ⟨o, ne b o hb e⟩
    · exact ⟨h', s₃.toks, rfl⟩

/-- x = list(range(a, b, 2)) -/
theorem X1.newRow {x l r : Str} {p pl pr pos pc pr2 : Pos} {e1 e2 e3 : Expr} {b : Int} {σ' : Addr → List (Option AV)} (hkl : names.lookup l = some .globalImplicit) (hgl : (l, GV.none) ∈ C.globs) (hbl : (l, .type "list") ∈ C.blts) (hkr : names.lookup r = some .globalImplicit) (hgr : (r, GV.none) ∈ C.globs) (hbr : (r, .type "range") ∈ C.blts)
    (h1 : QE C n names vars σ e1 (.int 2)) (h2 : QE C n names vars σ e2 (.int b)) (h3 : QE C n names vars σ e3 (.int 2)) (hb0 : 2 ≤ b) (hb1 : b ≤ 1000) (hp : ∀ a, Put vars σ x (.acc a) (σ' a))
    (hk : ∀ a, K .nx (σ' a) ((a, .row ((List.range ((b - 1) / 2).toNat).map fun (i : Nat) => 2 + (i : Int) * 2)) :: μ)) (hdl : (l == ("__debug__" : Str)) = false := by decide +kernel) (hdr : (r == ("__debug__" : Str)) = false := by decide +kernel)
    (hs1 : ∀ env, starEach [e1, e2, e3] env = (false, eval e1 env) :: starEach [e2, e3] env := by intro _; rfl) (hs2 : ∀ env, starEach [e2, e3] env = (false, eval e2 env) :: starEach [e3] env := by intro _; rfl) (hs3 : ∀ env, starEach [e3] env = [(false, eval e3 env)] := by intro _; rfl)
    (hs4 : ∀ env, starEach [.Call (.Name r pr) [e1, e2, e3] [] pr2] env = [(false, eval (.Call (.Name r pr) [e1, e2, e3] [] pr2) env)] := by intro _; rfl) :
    X1 C n names vars true σ μ (.Assign [.Name x p] (.Call (.Name l pl) [.Call (.Name r pr) [e1, e2, e3] [] pr2] [] pc) pos) K := .mk fun env A s R F => by
  refine wpAny_Assign_Name ?_ rfl
  refine wpAny_Call_NameR (wpAny_Name (load_blt F.ok F.pg hkl hgl hbl ?_) hdl)
  refine PyProof.Rows.callWith_type1 (spliced_more ?_ (hs4 env)) (hs4 env)
  refine wpAny_Call_NameR (wpAny_Name (load_blt F.ok F.pg hkr hgr hbr ?_) hdr)
  refine PyProof.Rows.callWith_type1 (spliced_more (wp_post (h1.run env A s F.ok R F.pg F.loc) fun v s₁ ⟨r1, k1⟩ => spliced_more (wp_post (h2.run env A s₁ F.ok R (F.pg.keeps k1.heap) (F.loc.keeps k1.heap)) fun v' s₂ ⟨r2, k2⟩ => ?_) (hs2 env)) (hs1 env)) (hs1 env) (by rw [hs2 env, hs3 env]; rfl)
  have k12 := k1.trans' k2
  refine spliced_more (wp_post (h3.run env A s₂ F.ok R (F.pg.keeps k12.heap) (F.loc.keeps k12.heap)) fun v'' s₃ ⟨r3, k3⟩ => spliced_none ?_) (hs3 env)
  have k := k12.trans' k3
  obtain ⟨t1, rfl⟩ := rel_int r1
  obtain ⟨t2, rfl⟩ := rel_int r2
  obtain ⟨t3, rfl⟩ := rel_int r3
  have hdiv : Builtin.divisionGoesByPylong (b - 2) 2 = false := PyProof.noPylong_small (by (first | lia | omega))
  with_reducible refine call_range_3 (by decide) ?_ (.inl hdiv)
  refine spliced_none ?_
  have hsz : Builtin.Range.rangeSize 2 b 2 = (((b - 1) / 2).toNat : Int) := by
    unfold Builtin.Range.rangeSize
    simp only [show (2 : Int) > 0 from by decide, if_true]
    split <;> (first | lia | omega)
  have hr : IsRange (s₃.heap.push { cls := .type "range", data := .fields #[.int 2 t1, .int b t2, .int 2 t3] }) s₃.heap.objs.size 2 b 2 t1 t2 t3 := Heap.get?_push_size _ rfl
  have hsm : Builtin.Range.small 2 b 2 = true := by
    unfold Builtin.Range.small
    rw [hsz]
    simp only [Builtin.Range.rangeFitsLong, Bool.and_eq_true, Bool.or_eq_true, decide_eq_true_eq, beq_iff_eq, show (2 : Int) > 0 by decide, if_true]
    (first | lia | omega)
  have k4 := k.trans' (Kp.push s₃ { cls := .type "range", data := .fields #[.int 2 t1, .int b t2, .int 2 t3] })
  refine call_list_range (s := { s₃ with heap := s₃.heap.push { cls := .type "range", data := .fields #[.int 2 t1, .int b t2, .int 2 t3] } }) R.hd hr hsm hsz (by (first | lia | omega)) fun h' tk acc' c' hk' hL hit => ?_
  have k5 : Kp s { s₃ with heap := h', toks := tk } := k4.trans' (Kp.of (s := { s₃ with heap := s₃.heap.push { cls := .type "range", data := .fields #[.int 2 t1, .int b t2, .int 2 t3] } }) hk')
  have hD : ({ s₃ with heap := s₃.heap.push { cls := .type "range", data := .fields #[.int 2 t1, .int b t2, .int 2 t3] } } : Shared).heap.objs.size = s₃.heap.objs.size + 1 := Heap.size_push ..
  rw [hD] at hL ⊢
  have F5 := F.kp k5
  have hfresh : s.heap.get? (s₃.heap.objs.size + 1) = none := by
    cases e : s.heap.get? (s₃.heap.objs.size + 1) with
    | none => rfl
    | some o => have := Heap.lt_size (k.heap _ o e); exact absurd this (Nat.not_lt.mpr (Nat.le_succ _))
  have h171 : 170 ≤ s₃.heap.objs.size + 1 := Nat.le_succ_of_le (F.kp k).size
  generalize s₃.heap.objs.size + 1 = D at hL hfresh h171 ⊢
  have hrow : MoAt h' D (.row ((List.range ((b - 1) / 2).toNat).map fun (i : Nat) => 2 + (i : Int) * 2)) :=
    ⟨acc'.toList, ⟨_, hL, rfl, c', by simp⟩, intsAre_of _ _ (by simpa using hit.1) fun i v e => hit.2 i v (by simpa using e)⟩
  have hnot : D ∉ muAll μ := fun hm => by obtain ⟨o, e⟩ := F.mu.live D hm; rw [hfresh] at e; cases e
  have F6 : Frm C names vars σ ((D, .row ((List.range ((b - 1) / 2).toNat).map fun (i : Nat) => 2 + (i : Int) * 2)) :: μ) env { s₃ with heap := h', toks := tk } :=
    ⟨F5.ok, F5.pg, F5.low, fun b hb hm => by
      rcases List.mem_cons.mp hm with rfl | hm
      · obtain ⟨o, e⟩ := F.ownLive b hb; rw [hfresh] at e; cases e
      · exact F5.sep b hb hm, F5.nodup, F5.kinds, F5.len, F5.apart, F5.above,
      ⟨fun p hp => by rcases List.mem_cons.mp hp with rfl | hp; exact hrow; exact F5.mu.at' p hp, List.nodup_cons.mpr ⟨hnot, F5.mu.nd⟩, fun b hb => by
        rcases List.mem_cons.mp hb with rfl | hb
        · exact h171
        · exact F5.mu.low b hb⟩, F5.val⟩
  refine frm_store (q := true) F6 (hp D) (.acc D) fun s₆ F7 S7 q7 => ⟨_, _, _, hk D, .nx, F7, Nxt.trans ⟨k5.stp, fun p hp => ?_, fun p hp => ?_⟩ (.of S7)⟩
  · rcases List.mem_cons.mp hp with rfl | hp
    · exact .inr hfresh
    · exact .inl hp
  · rcases List.mem_cons.mp hp with rfl | hp
    · exact .inr hfresh
    · exact .inl hp
theorem iaddI {a b : Int} : OpOk C n (inplaceOp .Add) (.int a) (.int b) (.int (a + b)) := fun A s x y _ _ ra rb => by
  obtain ⟨t, rfl⟩ := rel_int ra
  obtain ⟨u, rfl⟩ := rel_int rb
  exact PyProof.Rows.iadd_int ⟨.int _ _, Kp.tok s _⟩
theorem isubI {a b : Int} : OpOk C n (inplaceOp .Sub) (.int a) (.int b) (.int (a - b)) := fun A s x y _ _ ra rb => by
  obtain ⟨t, rfl⟩ := rel_int ra
  obtain ⟨u, rfl⟩ := rel_int rb
  exact PyProof.Rows.isub_int ⟨.int _ _, Kp.tok s _⟩
theorem QE.andB {x y : Expr} {pos : Pos} {a b : Bool} (hx : QE C n names vars σ x (.bool a)) (hy : a = true → QE C n names vars σ y (.bool b)) : QE C n names vars σ (.BoolOp .And [x, y] pos) (.bool (a && b)) :=
  .and2 hx truthB (fun h => by rw [h]; rfl) fun h => (hy h).eqv (by rw [h]; rfl)
theorem QE.orB {x y : Expr} {pos : Pos} {a b : Bool} (hx : QE C n names vars σ x (.bool a)) (hy : a = false → QE C n names vars σ y (.bool b)) : QE C n names vars σ (.BoolOp .Or [x, y] pos) (.bool (a || b)) :=
  .or2 hx truthB (fun h => by rw [h]; rfl) fun h => (hy h).eqv (by rw [h]; rfl)
theorem QE.find {o e : Expr} {apos pos : Pos} {x y : Str} (ho : QE C n names vars σ o (.str x)) (he : QE C n names vars σ e (.str y)) (hbase : ∀ env, attributeBase o "find" env (eval o env) = eval o env) (hline : (apos.endLine == pos.line) = true)
    (hs : ∀ env, starEach [e] env = [(false, eval e env)]) : QE C n names vars σ (.Call (.Attribute o "find" apos) [e] [] pos) (.int (Txt.find x y)) := by
  have hm : Meth1 C "find" (.str x) (.str y) (.int (Txt.find x y)) := mFind
  exact QE.meth1 ho he hm hbase hline hs
theorem QE.count {o e : Expr} {apos pos : Pos} {x y : Str} (ho : QE C n names vars σ o (.str x)) (he : QE C n names vars σ e (.str y)) (hbase : ∀ env, attributeBase o "count" env (eval o env) = eval o env) (hline : (apos.endLine == pos.line) = true)
    (hs : ∀ env, starEach [e] env = [(false, eval e env)]) : QE C n names vars σ (.Call (.Attribute o "count" apos) [e] [] pos) (.int (Txt.count x y)) := by
  have hm : Meth1 C "count" (.str x) (.str y) (.int (Txt.count x y)) := mCount
  exact QE.meth1 ho he hm hbase hline hs
theorem QE.join {o e : Expr} {apos pos : Pos} {x : Str} {ys : List Str} (hok : JoinOk x ys = true) (ho : QE C n names vars σ o (.str x)) (he : QE C n names vars σ e (.lst (ys.map .str))) (hbase : ∀ env, attributeBase o "join" env (eval o env) = eval o env) (hline : (apos.endLine == pos.line) = true)
    (hs : ∀ env, starEach [e] env = [(false, eval e env)]) : QE C n names vars σ (.Call (.Attribute o "join" apos) [e] [] pos) (.str (Txt.join x ys)) := by
  have hm : Meth1 C "join" (.str x) (.lst (ys.map .str)) (.str (Txt.join x ys)) := mJoin hok
  exact QE.meth1 ho he hm hbase hline hs
theorem QE.lower {o : Expr} {apos pos : Pos} {x : Str} (hf : (Txt.lower x).length ≤ 1000000) (ho : QE C n names vars σ o (.str x)) (hbase : ∀ env, attributeBase o "lower" env (eval o env) = eval o env) (hline : (apos.endLine == pos.line) = true) : QE C n names vars σ (.Call (.Attribute o "lower" apos) [] [] pos) (.str (Txt.lower x)) := by
  have hm : Meth0 C "lower" (.str x) (.str (Txt.lower x)) := mLower hf
  exact QE.meth0 ho hm hbase hline
theorem QE.upper {o : Expr} {apos pos : Pos} {x : Str} (hf : (Txt.upper x).length ≤ 1000000) (ho : QE C n names vars σ o (.str x)) (hbase : ∀ env, attributeBase o "upper" env (eval o env) = eval o env) (hline : (apos.endLine == pos.line) = true) : QE C n names vars σ (.Call (.Attribute o "upper" apos) [] [] pos) (.str (Txt.upper x)) := by
  have hm : Meth0 C "upper" (.str x) (.str (Txt.upper x)) := mUpper hf
  exact QE.meth0 ho hm hbase hline
end
end Mine
end

noncomputable section
open PySem PySem.Calls PyProof.Rows PySem.W PySem.Flt PySem.SeqAt
set_option Elab.async false
set_option linter.unusedVariables false
namespace Mine
section
variable {prog : Program} {w : World} {A : Around} {E : Value → Shared → Prop} {s : Shared} {env : Env}
/-- o.name(args): what is called -/
theorem call_attr {o : Expr} {name : Str} {apos pos : Pos} {args : List Expr} {Q : Value → Shared → Prop}
    (hbase : attributeBase o name env (eval o env) = eval o env)
    (hfew : ((backTo pos (starEach args env)).all (fun x => !x.1) && (backToKw pos (keywordEach [] env)).all (fun x => x.1.isSome)
      && decide (args.length + ([] : List Keyword).length + (if ([] : List Keyword).isEmpty then 0 else 1) < 30)) = true)
    (hline : (apos.endLine == pos.line) = true)
    (h : wpAny (model prog w) A (eval o env) (fun ov s₁ => ∃ fx, (∀ pl, Looks (model prog w) s₁.heap (getMethod ov name pl) fx) ∧ wpAny (model prog w) A (callWith pos fx.1 fx.2 (backTo pos (starEach args env)) []) Q E s₁) E s) :
    wpAny (model prog w) A (eval (.Call (.Attribute o name apos) args [] pos) env) Q E s := by
  rw [arm_eval_Call, hbase]
  refine wpAny_bind (wpAny_mono h (fun ov s₁ h₁ => ?_) fun _ _ e => e)
  obtain ⟨fx, hl, hc⟩ := h₁
  refine wpAny_bind (wpAny_standAt ?_)
  have hform : methodCallForm (args.length + ([] : List Keyword).length) (backTo pos (starEach args env)) (backToKw pos (keywordEach [] env)) = true := hfew
  have hpos : methodCallPos true o env apos pos = pure pos := by unfold methodCallPos; simp [hline]
  unfold methodCall
  rw [hform]
  refine wpAny_bind (wpAny_holding ((hl _).here ?_))
  exact wpAny_bind (wpAny_of_eq hpos hc)
end

/-- the class, as the fragment shows it -/
structure ClsOk (K : Frag) : Prop where
  ga : findIn K (.ref 101) "__getattribute__" = some (some (.builtin "list.__getattribute__"))
  ghook : findIn K (.ref 101) "__getattr__" = some none
  push : findIn K (.ref 101) "push" = some (some (.ref 45))
  pop : findIn K (.ref 101) "pop" = some (some (.ref 61))
  pop_from : findIn K (.ref 101) "pop_from" = some (some (.ref 53))
  part_count : findIn K (.ref 101) "part_count" = some (some (.ref 98))
  append : findIn K (.ref 101) "append" = some (some (.builtin "list.append"))
  sub : mroIn K 101 (.type "list") = some true
  fns : ∀ a ∈ [38, 45, 53, 61, 68, 75, 98], typeIn K (.ref a) = some (.type "function")
  cell : ∃ o, K.lookup 25 = some o ∧ o.data = .cell (some (.ref 101))
  cls : ∃ oc cd, K.lookup 101 = some oc ∧ oc.data = .cls cd ∧ cd.mro = [.ref 101, .type "list", .type "object"]
  qual : (clsIn K 101).map (·.qualname) = some ("_Accumulator" : Str)
  meta' : typeIn K (.ref 101) = some (.type "type")
  mod : mroIn K 101 (.type "module") = some false
  deque : mroIn K 101 (.type "collections.deque") = some false
  d46 : ∃ o t n, K.lookup 46 = some o ∧ o.data = .seq #[.int 0 t] n
  d30 : ∃ o t n, K.lookup 30 = some o ∧ o.data = .seq #[.int 0 t] n
  getitem : findIn K (.ref 101) "__getitem__" = some (some (.builtin "list.__getitem__"))
  setitem : findIn K (.ref 101) "__setitem__" = some (some (.builtin "list.__setitem__"))
  iter : findIn K (.ref 101) "__iter__" = some (some (.builtin "list.__iter__"))
  len : findIn K (.ref 101) "__len__" = some (some (.ref 68))
  str : findIn K (.ref 101) "__str__" = some (some (.ref 75))
  init : findIn K (.ref 101) "__init__" = some (some (.ref 38))
  setattr : findIn K (.ref 101) "__setattr__" = some (some (.builtin "object.__setattr__"))
  obj : mroIn K 101 (.type "object") = some true
  nosize : findIn K (.ref 101) "_initial_size" = some none
  hasDict : (clsIn K 101).map (·.hasDict) = some true
  slots : (match K.lookup 101 with | some ⟨_, _, .cls cd, sl⟩ => !cd.abstract && !cd.hasDel && (sl.toList[4]?).join == some (.builtin "list.__new__") | _ => false) = true
  called : specialIn K (.ref 101) "__call__" = some (some (.builtin "type.__call__"))
  typ : instIn K (.ref 101) (.type "type") = some true
  self : mroIn K 101 (.ref 101) = some true
  plain : nsIn K cStatics "thirdparty.any" = some none
  codes : ∀ c ∈ [37, 60, 97], ∃ o vs t, K.lookup c = some o ∧ o.data = .fields vs ∧ vs[2]? = some (.str "/claim/cut.py" t)

/-- an accumulator stands -/
theorem meth_inst {M : Model} {K : Frag} {h : Heap} {x d : Addr} {ox od : Obj} {name : Str} {f tf : Value} {pl : Sem Bool} (X : K.In h) (Ok : ClsOk K) (hx : h.get? x = some ox) (hc : ox.cls = .ref 101) (hd : ox.dict = some d) (hod : h.get? d = some od) (hn : lookIn name od = some none)
    (hf : findIn K (.ref 101) name = some (some f)) (ht : Looks M h (typeOf f) tf) (htf : tf = .type "function" ∨ tf = .type "method_descriptor") : Looks M h (getMethod (.ref x) name pl) (f, [.ref x]) := by
  have L0 : Looks M h (typeOf (.ref x)) (.ref 101) := hc ▸ (Looks.ld hx).andThen .now
  have L1 : Looks M h (specialOf (.ref x) "__getattribute__") (some (.builtin "list.__getattribute__")) := L0.andThen (looks_findIn X Ok.ga)
  have L2 : Looks M h (specialOf (.ref x) "__getattr__") none := L0.andThen (looks_findIn X Ok.ghook)
  have L3 : Looks M h (specialOf (.ref x) name) (some f) := L0.andThen (looks_findIn X hf)
  intro A Q E s k q
  unfold getMethod
  refine wpAny_bind (L1 A _ E s k ?_)
  have hcan : (Manifest.canonical "list.__getattribute__" != "object.__getattribute__") = false := by decide +kernel
  simp only [hcan, Bool.false_eq_true, if_false]
  refine wpAny_bind (L2 A _ E s k ?_)
  simp only [Option.isSome_none, Bool.false_eq_true, if_false]
  refine wpAny_bind (L3 A _ E s k ?_)
  dsimp only
  refine wpAny_bind (ht A _ E s k ?_)
  have hne : (tf != .type "function" && tf != .type "method_descriptor" && tf != .type "wrapper_descriptor") = false := by
    rcases htf with rfl | rfl <;> decide +kernel
  simp only [hne, Bool.false_eq_true, if_false]
  refine wpAny_bind (wpAny_loadPart (k _ _ hx) ?_)
  rw [hd]
  dsimp only
  have L4 : Looks M h (nsGet d name) none := fun A Q E s k q => wpAny_bind (wpAny_loadPart (k _ _ hod) (by rw [nsLook_of hn]; exact wpAny_pure q))
  refine wpAny_bind (L4 A _ E s k ?_)
  simp only [Option.isSome_none, Bool.false_eq_true, if_false]
  exact wpAny_bind (wpAny_rule (wpAny_pure q))

/-- behind a call that changes one thing -/
structure Aft (a : Addr) (m m' : MO) (s s' : Shared) : Prop where
  mu : MuOk s'.heap [(a, m')]
  stp : Stp false (Wq false [(a, m)]) s s'
  tab : TabOk s'.heap
/-- what a method does to one thing -/
noncomputable def MethC (C : Cx) (n : Nat) (f : Value) (first : List Value) (a : Addr) (m : MO) (args : List AV) (v : AV) (m' : MO) : Prop :=
  ∀ (A : Around) (s : Shared) (rs : List Value), Lvl n A → Pg C s.heap → MuOk s.heap [(a, m)] → RelAll s.heap args rs →
    wpAny (model C.prog C.w) A (call f (first ++ rs)) (fun r s' => Rel s'.heap v r ∧ Aft a m m' s s') bot s

section
variable {C : Cx} {n : Nat} {names : List (Str × NameKind)} {vars : Vars} {σ σ' : List (Option AV)} {q : Bool} {μ μ' : Mu} {K : KK}
theorem muAll_app (l r : Mu) : muAll (l ++ r) = muAll l ++ muAll r := by unfold muAll; rw [List.flatMap_append]
theorem MuOk.focus {h : Heap} {l r : Mu} {a : Addr} {m : MO} (x : MuOk h (l ++ (a, m) :: r)) : MuOk h [(a, m)] := by
  have hsub : ∀ b ∈ muAll [(a, m)], b ∈ muAll (l ++ (a, m) :: r) := fun b hb => by
    rw [muAll_app]
    refine List.mem_append.mpr (.inr ?_)
    have : muAll ((a, m) :: r) = muAll [(a, m)] ++ muAll r := muAll_app [(a, m)] r
    rw [this]
    exact List.mem_append.mpr (.inl hb)
  refine ⟨fun p hp => x.at' p (List.mem_append.mpr (.inr (by rcases List.mem_cons.mp hp with rfl | hp; exact .head _; cases hp))), ?_, fun b hb => x.low b (hsub b hb)⟩
  have h1 := x.nd
  rw [muAll_app] at h1
  have h2 := (List.nodup_append.mp h1).2.1
  have : muAll ((a, m) :: r) = muAll [(a, m)] ++ muAll r := muAll_app [(a, m)] r
  rw [this] at h2
  exact (List.nodup_append.mp h2).1
theorem muAll_cons (x : Addr × MO) (μ : Mu) : muAll (x :: μ) = (x.1 :: x.2.side) ++ muAll μ := rfl
theorem nd_side : ∀ {μ : Mu}, (muAll μ).Nodup → ∀ p ∈ μ, ∀ p' ∈ μ, p'.1 ∈ p.2.side → False
  | x :: μ, nd, p, hp, p', hp', h => by
    rw [muAll_cons] at nd
    obtain ⟨n1, n2, n3⟩ := List.nodup_append.mp nd
    rcases List.mem_cons.mp hp with rfl | hq
    · rcases List.mem_cons.mp hp' with rfl | hq'
      · exact (List.nodup_cons.mp n1).1 h
      · exact n3 _ (.tail _ h) _ (mem_muAll hq') rfl
    · rcases List.mem_cons.mp hp' with rfl | hq'
      · exact n3 _ (.head _) _ (mem_muSide hq h) rfl
      · exact nd_side n2 p hq p' hq' h
theorem nd_key : ∀ {μ : Mu}, (muAll μ).Nodup → ∀ p ∈ μ, ∀ p' ∈ μ, p.1 = p'.1 → p = p'
  | x :: μ, nd, p, hp, p', hp', h => by
    rw [muAll_cons] at nd
    obtain ⟨n1, n2, n3⟩ := List.nodup_append.mp nd
    rcases List.mem_cons.mp hp with rfl | hq
    · rcases List.mem_cons.mp hp' with rfl | hq'
      · rfl
      · exact absurd h (fun e => n3 _ (.head _) _ (mem_muAll hq') e)
    · rcases List.mem_cons.mp hp' with rfl | hq'
      · exact absurd h.symm (fun e => n3 _ (.head _) _ (mem_muAll hq) e)
      · exact nd_key n2 p hq p' hq' h
/-- one thing of several has changed -/
theorem Frm.meth {l r : Mu} {a : Addr} {m m' : MO} {env : Env} {s s' : Shared} (F : Frm C names vars σ (l ++ (a, m) :: r) env s) (hs : m'.side = m.side) (Z : Aft a m m' s s') :
    Frm C names vars σ (l ++ (a, m') :: r) env s' ∧ Nxt false env (l ++ (a, m) :: r) s (l ++ (a, m') :: r) s' := by
  have M := Z.mu
  have S := Z.stp
  have hall : muAll (l ++ (a, m') :: r) = muAll (l ++ (a, m) :: r) := by
    rw [muAll_app, muAll_app]
    show muAll l ++ ((a :: m'.side) ++ muAll r) = muAll l ++ ((a :: m.side) ++ muAll r)
    rw [hs]
  have hmap : (l ++ (a, m') :: r).map (·.1) = (l ++ (a, m) :: r).map (·.1) := by simp
  have ha : a ∈ muAll (l ++ (a, m) :: r) := mem_muAll (p := (a, m)) (by simp)
  have tab : ∀ c ∈ tabs, c < 170 := by decide
  have sq := S.seq rfl
  have keep : ∀ b o, 170 ≤ b → b ≠ a → s.heap.get? b = some o → s'.heap.get? b = some o := fun b o hb hne e => S.keep b o (fun w => by
    rcases w with w | ⟨_, w⟩
    · simp at w; exact hne w
    · exact absurd (tab b w) (Nat.not_lt.mpr hb)) e
  have hown : ∀ b, Own env b → b ≠ a := fun b hb e => F.sep b hb (e ▸ ha)
  have hlow : 170 ≤ a := F.mu.low a ha
  obtain ⟨mm, cm, hn, hc, hv⟩ := F.val
  -- other things
  have hother : ∀ p ∈ l ++ (a, m) :: r, p.1 ≠ a → MoAt s'.heap p.1 p.2 := fun p hp hne => by
    refine (F.mu.at' p hp).mono fun b o hb e => ?_
    rcases hb with rfl | hb | hb
    · exact keep _ o (F.mu.low _ (mem_muAll hp)) hne e
    · have h1 := mem_muSide hp hb
      refine keep b o (F.mu.low b h1) (fun hba => ?_) e
      subst hba
      exact nd_side F.mu.nd p hp (b, m) (by simp) hb
    · exact sq b o hb e
  refine ⟨⟨F.ok, F.pg.stepT (fun b o lb e => S.keep b o (fun w => ?_) e) Z.tab, F.low, fun b hb => hall ▸ F.sep b hb, F.nodup, F.kinds, F.len, F.apart, F.above, ⟨fun p hp => ?_, hall ▸ F.mu.nd, fun b hb => F.mu.low b (hall ▸ hb)⟩, mm, cm,
    hn.at' fun o e => keep _ o (F.low _ (.inl rfl)) (hown _ (.inl rfl)) e, fun y d e => IsCell.at'' (hc y d e) fun o e' => keep _ o (F.low _ (.inr ⟨y, e⟩)) (hown _ (.inr ⟨y, e⟩)) e', fun j y d u e1 e2 => ?_⟩, ⟨S.mono fun b _ w => ?_, fun p hp => .inl (hmap ▸ hp), fun p hp => .inl (hall ▸ hp)⟩⟩
  · rcases w with w | ⟨_, w⟩
    · simp at w; subst w; exact absurd lb.1 (Nat.not_lt.mpr hlow)
    · exact lb.2 w
  · by_cases hpa : p.1 = a
    · have nd' : (muAll (l ++ (a, m') :: r)).Nodup := hall ▸ F.mu.nd
      have := nd_key nd' p hp (a, m') (by simp) hpa
      subst this
      exact M.at' _ (.head _)
    · refine hother p ?_ hpa
      rcases List.mem_append.mp hp with h | h
      · exact List.mem_append.mpr (.inl h)
      · rcases List.mem_cons.mp h with rfl | h
        · exact absurd rfl hpa
        · exact List.mem_append.mpr (.inr (.tail _ h))
  · obtain ⟨r', hr', rel⟩ := hv j y d u e1 e2
    exact ⟨r', hr', rel.mono sq⟩
  · rcases w with w | w
    · simp at w; subst w; exact .inr (.inr (.inl (List.mem_map.mpr ⟨(b, m), by simp, rfl⟩)))
    · exact .inr (.inr (.inr w))

theorem spliced_args {es : List Expr} {vs : List AV} (h : QEs C n names vars σ es vs) {pos : Pos} {env : Env} {A : Around} {s : Shared} (E : EnvOk names env) (R : Lvl n A) (P : Pg C s.heap) (L : Loc s.heap env vars σ) {f : Value} :
    wpAny (model C.prog C.w) A (evalArgs f true (backTo pos (starEach es env)) []) (fun x s' => ∃ rs, x = ⟨rs, []⟩ ∧ RelAll s'.heap vs rs ∧ Kp s s') bot s := by
  have hp := h.spliced pos env A s E R P L
  cases h with
  | nil => exact PySem.evalArgs_none ⟨[], rfl, .nil, Kp.rfl' s⟩
  | @cons e es v vs h1 h2 h3 =>
    rw [h3 env] at hp ⊢
    exact evalArgs_plain (wp_post hp fun rs s' ⟨r, k⟩ => ⟨rs, rfl, r, k⟩)
/-- o.name(args), of an own class -/
theorem XE.meth {o : Expr} {name : Str} {apos pos : Pos} {es : List Expr} {vs : List AV} {l r : Mu} {a : Addr} {k : Int} {d : Addr} {items items' : List (Str × Str)} {f : FnRec} {fa : Addr} {v : AV} {C0 : ClsOk C.frag} (hx : QE C n names vars σ o (.acc a)) (ha : QEs C n names vars σ es vs) (hf : (fa, f) ∈ C.fns) (hfn : fa ∈ [38, 45, 53, 61, 68, 75, 98])
    (hfind : findIn C.frag (.ref 101) name = some (some (.ref fa))) (hname : (("_initial_size" : Str) == name) = false)
    (hc : MethC C n (.ref fa) [.ref a] a (.acc d k items) vs v (.acc d k items')) (hbase : ∀ env, attributeBase o name env (eval o env) = eval o env) (hline : (apos.endLine == pos.line) = true)
    (hfew : ∀ env, ((backTo pos (starEach es env)).all (fun x => !x.1) && (backToKw pos (keywordEach [] env)).all (fun x => x.1.isSome) && decide (es.length + ([] : List Keyword).length + (if ([] : List Keyword).isEmpty then 0 else 1) < 30)) = true) :
    XE C n names vars false σ (l ++ (a, .acc d k items) :: r) (.Call (.Attribute o name apos) es [] pos) v (l ++ (a, .acc d k items') :: r) := .mk fun env A s R F => by
  refine call_attr (hbase env) (hfew env) hline (wp_post (hx.run env A s F.ok R F.pg F.loc) fun ov s₁ ⟨r1, k1⟩ => ?_)
  obtain rfl := r1.acc_eq
  have F1 := F.kp k1
  obtain ⟨⟨vs', ep, e1, _⟩, hs, kt, tk, ep', e2⟩ := F1.mu.at' (a, .acc d k items) (by simp)
  have hlook : lookIn name { cls := .type "dict", data := .dict #[⟨hs, .str "_initial_size" kt, .int k tk⟩] ep' } = some none := by
    unfold lookIn
    simp [Value.isStr, hname]
    rfl
  refine ⟨(.ref fa, [.ref a]), fun pl => meth_inst F1.pg.fr C0 e1 rfl rfl e2 hlook hfind (looks_typeIn F1.pg.fr (C0.fns fa hfn)) (.inl rfl), ?_⟩
  obtain ⟨o', fd, g1, g2, _⟩ := F1.pg.fn _ hf
  refine callWith_function (o := o') (fd := fd) (wp_post (spliced_args ha F1.ok R F1.pg F1.loc) fun x s₂ ⟨rs, e, ra, k2⟩ => ?_)
  subst e
  refine ⟨⟨k2.heap _ _ g1, g2⟩, ?_⟩
  have F2 := F1.kp k2
  refine wp_post (hc A s₂ rs R F2.pg F2.mu.focus ra) fun y s₃ ⟨r3, Z3⟩ => ?_
  obtain ⟨F3, N3⟩ := F2.meth (m' := .acc d k items') rfl Z3
  exact ⟨r3, F3, (Nxt.of (k1.trans' k2).stp).trans N3⟩
end
end Mine
end

noncomputable section
open PySem PySem.Calls PyProof.Rows PySem.W PySem.Flt PySem.SeqAt
set_option Elab.async false
set_option linter.unusedVariables false
namespace Mine
section
variable {prog : Program} {w : World} {A : Around} {E : Value → Shared → Prop} {s : Shared}
/-- a built-in's method, called with what stands for a list -/
theorem call_on {id owner n : String} {kind : _} {B : Builtin} {self : Value} {rest : List Value} {Q : Value → Shared → Prop} (hq : plainId id = true) (hb : entryFor table id = some B) (hk : builtinKind id = some kind) (hkk : kind = .method ∨ kind = .slot) (hs : splitId id = some (owner, n)) (hi : Looks (model prog w) s.heap (isInstance self (.type owner)) true) (ha : argsOk id ⟨self :: rest, []⟩)
    (h : wpAny (model prog w) A.in1 (B ⟨self :: rest, []⟩) (fun fin s' => match fin with | .done (.ret v) => Q v s' | _ => False) E s) : wpAny (model prog w) A (call (.builtin id) (self :: rest)) Q E s := by
  refine wpAny_call (codeAny_call_builtin hq hb ?_)
  have chk : ∀ {Q' : Unit → Shared → Prop} {E' : Value → Shared → Prop}, Q' () s → wpAny (model prog w) A.in1 (checkBuiltinCall id ⟨self :: rest, []⟩) Q' E' s := fun {Q' E'} q => by
    simp only [checkBuiltinCall, hk, hs]
    rcases hkk with rfl | rfl <;>
    · refine wpAny_bind (hi.here ?_)
      simp only [Bool.not_true, Bool.false_eq_true, if_false]
      cases hsig : Manifest.signature? id with
      | none => exact wpAny_pure q
      | some sig =>
        simp only [argsOk, hsig] at ha
        have h2 : Bind.checkArgs id sig ⟨self :: rest, []⟩ = pure () := ha
        show wpAny _ _ (Bind.checkArgs id sig ⟨self :: rest, []⟩) _ _ s
        rw [h2]; exact wpAny_pure q
  refine chk (wpAny_mono h (fun fin s' z => ?_) fun _ _ z => z)
  rcases fin with (_ | _ | _ | _) | _ <;> first | exact z | exact z.elim
end

section
variable {C : Cx} {n : Nat}
theorem inst_list {K : Frag} {M : Model} {h : Heap} {x : Addr} {ox : Obj} (X : K.In h) (Ok : ClsOk K) (hx : h.get? x = some ox) (hc : ox.cls = .ref 101) : Looks M h (isInstance (.ref x) (.type "list")) true :=
  (show Looks M h (typeOf (.ref x)) (.ref 101) from hc ▸ (Looks.ld hx).andThen .now).andThen (looks_mroIn X Ok.sub)
/-- the items of a thing are written anew -/
theorem acc_write {s : Shared} {a d : Addr} {k : Int} {l l' : List (Str × Str)} {f : Array Value → Array Value} (M : MuOk s.heap [(a, .acc d k l)])
    (hf : ∀ vs, RelAll s.heap (l.map pairV) vs → ∃ vs', f (List.toArray vs) = List.toArray vs' ∧ RelAll s.heap (l'.map pairV) vs') :
    MuOk (s.heap.update a (Obj.mapSeq f)) [(a, .acc d k l')] ∧ Stp false (Wq false [(a, .acc d k l)]) s { s with heap := s.heap.update a (Obj.mapSeq f) } := by
  obtain ⟨⟨vs, ep, e, r⟩, hs, kt, tk, ep', e'⟩ := M.at' _ (.head _)
  have hne : d ≠ a := fun h => by
    have := M.nd
    subst h
    simp [muAll, MO.side] at this
  obtain ⟨vs', hv, r'⟩ := hf vs r
  have self := Heap.get?_update_self (Obj.mapSeq f) e rfl
  have oth : ∀ b o, b ≠ a → s.heap.get? b = some o → (s.heap.update a (Obj.mapSeq f)).get? b = some o := fun b o hb e => (Heap.get?_update_other _ _ (Ne.symm hb)).trans e
  have sq : SeqKeep s.heap (s.heap.update a (Obj.mapSeq f)) := fun b o so eb => oth b o (fun hb => by
    subst hb
    rw [e] at eb; cases eb
    obtain ⟨hc, _⟩ := so
    rcases hc with hc | hc <;> cases hc) eb
  refine ⟨⟨fun p hp => ?_, M.nd, M.low⟩, ⟨fun b o hb eb => oth b o (fun h => hb (.inl (by subst h; simp))) eb, fun b o eb => ?_, fun _ => sq, ⟨_, s.gens, s.toks, rfl, id⟩⟩⟩
  · rcases List.mem_cons.mp hp with rfl | hp
    · refine ⟨⟨vs', (if (f (List.toArray vs)).size == (List.toArray vs).size then ep else ep + 1), ?_, r'.mono sq⟩, hs, kt, tk, ep', oth d _ hne e'⟩
      rw [← hv]
      exact self
    · cases hp
  · by_cases hb : b = a
    · subst hb; exact ⟨_, self⟩
    · exact ⟨o, oth b o hb eb⟩
/-- the low are no things -/
theorem acc_wr {a : Addr} {m : MO} {h : Heap} (M : MuOk h [(a, m)]) {b : Addr} (hb : b < 170) : b ≠ a := fun e => by
  subst e; exact absurd (M.low b (mem_muAll (p := (b, m)) (.head _))) (Nat.not_le.mpr hb)
theorem append_on {a d : Addr} {k : Int} {l : List (Str × Str)} {p : Str × Str} (Ok : ClsOk C.frag) (hl : l.length ≤ 500) : MethC C n (.builtin "list.append") [.ref a] a (.acc d k l) [pairV p] .none (.acc d k (l ++ [p])) := fun A s rs R P M ra => by
  obtain ⟨v, rfl, r⟩ := ra.one_ex
  obtain ⟨⟨vs, ep, e, rv⟩, _⟩ := M.at' _ (.head _)
  refine call_on (by decide +kernel) F.entry_list_append (by decide +kernel : builtinKind "list.append" = some .method) (.inl rfl) (by decide +kernel : splitId "list.append" = some ("list", "append")) (inst_list P.fr Ok e rfl) (F.args_list_append_2 _ _) ?_
  show wpAny _ _ (Builtin.«list.append» ⟨[.ref a, v], []⟩) _ _ s
  unfold Builtin.«list.append»
  refine wpAny_bind (wpAny_of_eq (a := (Value.ref a, v)) (by rfl) ?_)
  have hlen : (List.toArray vs).size ≤ 1000 := by rw [List.size_toArray, ← rv.length, List.length_map]; (first | lia | omega)
  refine wpAny_bind (wpAny_updateSeq e rfl ?_ (Nat.le_trans hlen (by decide)) (by rw [Array.size_push]; exact Nat.le_trans (Nat.succ_le_succ hlen) (by decide)))
  obtain ⟨M', S'⟩ := acc_write (f := (·.push v)) (l' := l ++ [p]) M fun vs r' => ⟨vs ++ [v], by simp, by rw [List.map_append]; exact r'.append (.cons r .nil)⟩
  exact wpAny_pure ⟨.none, M', S', P.tab.step fun b o hb e => (Heap.get?_update_other _ _ (Ne.symm (acc_wr M hb))).trans e⟩

variable {names : List (Str × NameKind)} {vars : Vars} {σ σ' : List (Option AV)} {K : KK}
theorem look_other {name : Str} {hs k : Int} {kt tk : Tok} {ep' : Nat} (hname : (("_initial_size" : Str) == name) = false) : lookIn name { cls := .type "dict", data := .dict #[⟨hs, .str "_initial_size" kt, .int k tk⟩] ep' } = some none := by
  unfold lookIn
  simp [Value.isStr, hname]
  rfl
/-- o.name(args), of list -/
theorem XE.methB {o : Expr} {name : Str} {apos pos : Pos} {es : List Expr} {vs : List AV} {l r : Mu} {a : Addr} {k : Int} {d : Addr} {items items' : List (Str × Str)} {id : String} {v : AV} (C0 : ClsOk C.frag) (hx : QE C n names vars σ o (.acc a)) (ha : QEs C n names vars σ es vs) (hty : typeOf (.builtin id) = pure (.type "method_descriptor"))
    (hfind : findIn C.frag (.ref 101) name = some (some (.builtin id))) (hname : (("_initial_size" : Str) == name) = false)
    (hc : MethC C n (.builtin id) [.ref a] a (.acc d k items) vs v (.acc d k items')) (hbase : ∀ env, attributeBase o name env (eval o env) = eval o env) (hline : (apos.endLine == pos.line) = true)
    (hfew : ∀ env, ((backTo pos (starEach es env)).all (fun x => !x.1) && (backToKw pos (keywordEach [] env)).all (fun x => x.1.isSome) && decide (es.length + ([] : List Keyword).length + (if ([] : List Keyword).isEmpty then 0 else 1) < 30)) = true) :
    XE C n names vars false σ (l ++ (a, .acc d k items) :: r) (.Call (.Attribute o name apos) es [] pos) v (l ++ (a, .acc d k items') :: r) := .mk fun env A s R F => by
  refine call_attr (hbase env) (hfew env) hline (wp_post (hx.run env A s F.ok R F.pg F.loc) fun ov s₁ ⟨r1, k1⟩ => ?_)
  obtain rfl := r1.acc_eq
  have F1 := F.kp k1
  obtain ⟨⟨vs', ep, e1, _⟩, hs, kt, tk, ep', e2⟩ := F1.mu.at' (a, .acc d k items) (by simp)
  refine ⟨(.builtin id, [.ref a]), fun pl => meth_inst F1.pg.fr C0 e1 rfl rfl e2 (look_other hname) hfind (Looks.of_pure hty) (.inr rfl), ?_⟩
  refine callWith_builtin (ha.plain pos env) (wp_post (spliced_args ha F1.ok R F1.pg F1.loc) fun x s₂ ⟨rs, e, ra, k2⟩ => ?_)
  subst e
  have F2 := F1.kp k2
  refine wp_post (hc A s₂ rs R F2.pg F2.mu.focus ra) fun y s₃ ⟨r3, Z3⟩ => ?_
  obtain ⟨F3, N3⟩ := F2.meth (m' := .acc d k items') rfl Z3
  exact ⟨r3, F3, (Nxt.of (k1.trans' k2).stp).trans N3⟩
/-- a def that changes one thing -/
theorem MethC.def {f : FnRec} {fa : Addr} {ps : List Str} {vars : Vars} {a d : Addr} {k : Int} {l l' : List (Str × Str)} (S : Sig f ps vars) (hf : (fa, f) ∈ C.fns) {args : List AV} {v : AV} (hl : ps.length = args.length + 1)
    (hb : ∀ fd (rs : List Value), fd.params = f.params → fd.defaults = f.dflt → rs.length = ps.length → bindArgs fd ⟨rs, []⟩ = pure (ps.zip rs))
    (hbody : XS C n f.scope.names vars false (start ps (.acc a :: args) vars) [(a, .acc d k l)] f.body (fun fl σ μ => fl.val = v ∧ ∃ rest, μ = (a, .acc d k l') :: rest)) : MethC C (n + 1) (.ref fa) [.ref a] a (.acc d k l) args v (.acc d k l') := fun A s rs R P M ra => by
  refine wp_post (fn_call S hf (rs := .ref a :: rs) R P (fun fd h1 h2 => .of_eq (hb fd (.ref a :: rs) h1 h2 (by rw [hl, ra.length]; rfl))) (.cons (.acc a) ra) (by rw [hl]; rfl) M hbody) fun r s' ⟨fl, σ', μ', ⟨h1, rest, h2⟩, hr, hM, S', T'⟩ => ?_
  subst h2
  rw [h1] at hr
  exact ⟨hr, MuOk.focus (l := []) hM, S', T'⟩
end
end Mine
end

noncomputable section
open PySem PySem.Calls PyProof.Rows PySem.W PySem.Flt PySem.SeqAt
set_option Elab.async false
set_option linter.unusedVariables false
set_option maxRecDepth 100000
namespace Mine
section
variable {prog : Program} {w : World} {A : Around} {E : Value → Shared → Prop} {s : Shared}
theorem get_len {K : Frag} {x D : Addr} {ox : Obj} {Q : Value → Shared → Prop} (X : K.In s.heap) (Ok : ClsOk K) (hx : s.heap.get? x = some ox) (hc : ox.cls = .ref 101)
    (hq : Q (.ref s.heap.objs.size) { s with heap := s.heap.push { cls := .type "method-wrapper", data := .fields #[.builtin "list.__len__", .ref x] } }) :
    wpAny (model prog w) A (call (.builtin "wrapper_descriptor.__get__") [.builtin "list.__len__", .ref x, .ref D]) Q E s := by
  have L := inst_list (M := model prog w) X Ok hx hc
  refine call_on (by decide +kernel) (entryFor_of_tree (by kernel_rfl) : entryFor table "wrapper_descriptor.__get__" = some Builtin.«wrapper_descriptor.__get__») (by decide +kernel : builtinKind "wrapper_descriptor.__get__" = some .slot) (.inr rfl) (by decide +kernel : splitId "wrapper_descriptor.__get__" = some ("wrapper_descriptor", "__get__"))
    (looks_instIn X (by kernel_rfl)) (by unfold argsOk; kernel_rfl) ?_
  unfold Builtin.«wrapper_descriptor.__get__»
  refine wpAny_bind (wpAny_of_eq (a := (.builtin "list.__len__", some (.ref x), some (.ref D))) (by kernel_rfl) ?_)
  dsimp only
  refine wpAny_bind ?_
  refine wpAny_bind (wpAny_of_eq (a := (("__len__" : Str), Value.type "list")) (by kernel_rfl) ?_)
  dsimp only
  refine wpAny_bind (L.here ?_)
  simp only [Bool.not_true, Bool.false_eq_true, if_false]
  refine wpAny_pure ?_
  refine wpAny_bind (wpAny_newObj_type ?_ (by size_fits))
  exact wpAny_pure hq
theorem get_init {K : Frag} {x D : Addr} {ox : Obj} {Q : Value → Shared → Prop} (X : K.In s.heap) (Ok : ClsOk K) (hx : s.heap.get? x = some ox) (hc : ox.cls = .ref 101)
    (hq : Q (.ref s.heap.objs.size) { s with heap := s.heap.push { cls := .type "method-wrapper", data := .fields #[.builtin "list.__init__", .ref x] } }) :
    wpAny (model prog w) A (call (.builtin "wrapper_descriptor.__get__") [.builtin "list.__init__", .ref x, .ref D]) Q E s := by
  have L := inst_list (M := model prog w) X Ok hx hc
  refine call_on (by decide +kernel) (entryFor_of_tree (by kernel_rfl) : entryFor table "wrapper_descriptor.__get__" = some Builtin.«wrapper_descriptor.__get__») (by decide +kernel : builtinKind "wrapper_descriptor.__get__" = some .slot) (.inr rfl) (by decide +kernel : splitId "wrapper_descriptor.__get__" = some ("wrapper_descriptor", "__get__"))
    (looks_instIn X (by kernel_rfl)) (by unfold argsOk; kernel_rfl) ?_
  unfold Builtin.«wrapper_descriptor.__get__»
  refine wpAny_bind (wpAny_of_eq (a := (.builtin "list.__init__", some (.ref x), some (.ref D))) (by kernel_rfl) ?_)
  dsimp only
  refine wpAny_bind ?_
  refine wpAny_bind (wpAny_of_eq (a := (("__init__" : Str), Value.type "list")) (by kernel_rfl) ?_)
  dsimp only
  refine wpAny_bind (L.here ?_)
  simp only [Bool.not_true, Bool.false_eq_true, if_false]
  refine wpAny_pure ?_
  refine wpAny_bind (wpAny_newObj_type ?_ (by size_fits))
  exact wpAny_pure hq
theorem get_pop {K : Frag} {x D : Addr} {ox : Obj} {Q : Value → Shared → Prop} (X : K.In s.heap) (Ok : ClsOk K) (hx : s.heap.get? x = some ox) (hc : ox.cls = .ref 101)
    (hq : Q (.ref s.heap.objs.size) { s with heap := s.heap.push { cls := .type "builtin_function_or_method", data := .fields #[.builtin "list.pop", .ref x] } }) :
    wpAny (model prog w) A (call (.builtin "method_descriptor.__get__") [.builtin "list.pop", .ref x, .ref D]) Q E s := by
  have L := inst_list (M := model prog w) X Ok hx hc
  refine call_on (by decide +kernel) (entryFor_of_tree (by kernel_rfl) : entryFor table "method_descriptor.__get__" = some Builtin.«method_descriptor.__get__») (by decide +kernel : builtinKind "method_descriptor.__get__" = some .slot) (.inr rfl) (by decide +kernel : splitId "method_descriptor.__get__" = some ("method_descriptor", "__get__"))
    (looks_instIn X (by kernel_rfl)) (by unfold argsOk; kernel_rfl) ?_
  unfold Builtin.«method_descriptor.__get__»
  refine wpAny_bind (wpAny_of_eq (a := (.builtin "list.pop", some (.ref x), some (.ref D))) (by kernel_rfl) ?_)
  dsimp only
  have hto : Manifest.toldItsClass.contains "list.pop" = false := by decide +kernel
  simp only [hto, Bool.false_eq_true, if_false]
  refine wpAny_bind ?_
  refine wpAny_bind (wpAny_of_eq (a := (("pop" : Str), Value.type "list")) (by kernel_rfl) ?_)
  dsimp only
  refine wpAny_bind (L.here ?_)
  simp only [Bool.not_true, Bool.false_eq_true, if_false]
  refine wpAny_pure ?_
  refine wpAny_bind (wpAny_newObj_type ?_ (by size_fits))
  exact wpAny_pure hq
end
section
variable {prog : Program} {w : World} {M : Model} {A : Around} {E : Value → Shared → Prop} {h : Heap} {g : Array GenState} {d : Drawn} {t : Nat} {os : OsState}
theorem super_gaB {so D x C : Addr} {l₀ l : List Value} {K : Frag} {name : Str} {tk : Tok} {id gid T : String} {bo : Obj} {Q : Fin → Shared → Prop}
    (hso : h.get? so = some { cls := .type "super", dict := none, data := .fields #[.ref D, .ref x, .ref C], slots := #[] }) (hno : Looks (model prog w) h (opaqueClassAbove (.ref C)) none)
    (hC : Looks (model prog w) h (mroOf (.ref C)) l₀) (hl : (l₀.dropWhile (· != .ref D)).drop 1 = l) (X : K.In h)
    (hf : alongIn K name l = some (some (.builtin id))) (hty : typeOf (.builtin id) = pure (.type T)) (hlk : typeLookup (.type T) "__get__" = pure (some (.builtin gid))) (hxC : x ≠ C) (hn : (name == ("__class__" : Str)) = false)
    (hget : ∀ (A : Around) (Q' : Value → Shared → Prop) (E' : Value → Shared → Prop), Q' (.ref h.objs.size) ⟨h.push bo, g, d, t, os⟩ → wpAny (model prog w) A (call (.builtin gid) [.builtin id, .ref x, .ref C]) Q' E' ⟨h, g, d, t, os⟩)
    (hq : Q (.done (.ret (.ref h.objs.size))) ⟨h.push bo, g, d, t, os⟩) :
    wpAny (model prog w) A (Builtin.«super.__getattribute__» ⟨[.ref so, .str name tk], []⟩) Q E ⟨h, g, d, t, os⟩ := by
  have hne : (Value.ref x == Value.ref C) = false := by simp [hxC]
  have hdt : ({ cls := .type "super", dict := none, data := .fields #[.ref D, .ref x, .ref C], slots := #[] } : Obj).data = .fields #[.ref D, .ref x, .ref C] := rfl
  have f0 : (#[.ref D, .ref x, .ref C] : Array Value)[0]? = some (.ref D) := rfl
  have f1 : (#[.ref D, .ref x, .ref C] : Array Value)[1]? = some (.ref x) := rfl
  have f2 : (#[.ref D, .ref x, .ref C] : Array Value)[2]? = some (.ref C) := rfl
  unfold Builtin.«super.__getattribute__»
  repeat (first
    | (with_reducible refine wpAny_field hso hdt f0 ?_) | (with_reducible refine wpAny_field hso hdt f1 ?_) | (with_reducible refine wpAny_field hso hdt f2 ?_)
    | (with_reducible refine ks_wpAny_notOpaque hno ?_)
    | (with_reducible refine Looks.at hC ?_; rw [hl])
    | (refine ks_forIn_along X (fun _ _ => rfl) rfl ?_ hf)
    | (with_reducible refine wpAny_of_eq hty ?_)
    | (with_reducible refine wpAny_of_eq hlk ?_)
    | (with_reducible refine hget _ _ _ ?_)
    | (simp only [hn, hne, Bool.or_false, Bool.false_eq_true, if_false])
    | wp_step
    | dsimp only)
  all_goals exact hq
theorem getMethod_superB {so D x C : Addr} {l₀ l : List Value} {K : Frag} {name : Str} {id gid T : String} {bo : Obj} {pl : Sem Bool} {Q : Value × List Value → Shared → Prop}
    (hso : h.get? so = some { cls := .type "super", dict := none, data := .fields #[.ref D, .ref x, .ref C], slots := #[] }) (hno : Looks (model prog w) h (opaqueClassAbove (.ref C)) none)
    (hC : Looks (model prog w) h (mroOf (.ref C)) l₀) (hl : (l₀.dropWhile (· != .ref D)).drop 1 = l) (X : K.In h)
    (hf : alongIn K name l = some (some (.builtin id))) (hty : typeOf (.builtin id) = pure (.type T)) (hlk : typeLookup (.type T) "__get__" = pure (some (.builtin gid))) (hxC : x ≠ C) (hn : (name == ("__class__" : Str)) = false)
    (hget : ∀ (A : Around) (Q' : Value → Shared → Prop) (E' : Value → Shared → Prop), Q' (.ref h.objs.size) ⟨h.push bo, g, d, t + 1, os⟩ → wpAny (model prog w) A (call (.builtin gid) [.builtin id, .ref x, .ref C]) Q' E' ⟨h, g, d, t + 1, os⟩)
    (hq : Q (.ref h.objs.size, []) ⟨h.push bo, g, d, t + 1, os⟩) :
    wpAny (model prog w) A (getMethod (.ref so) name pl) Q E ⟨h, g, d, t, os⟩ := by
  have hlk' := F.ks_slot_super_ga.lookup
  have hcan := F.ks_canon_super_ga
  have hT : ∀ t', (⟨h, g, d, t', os⟩ : Shared).TypeIs (.ref so) "super" := fun _ => ⟨_, hso, rfl⟩
  unfold getMethod
  refine wpAny_bind (wpAny_specialOf (hT _) hlk' ?_)
  show wpAny _ _ (if (Manifest.canonical "super.__getattribute__" != "object.__getattribute__") = true then _ else _) _ _ _
  rw [if_pos hcan]
  unfold getAttr getAttrBy
  refine wpAny_bind (wpAny_bind (wpAny_mkText (wpAny_holding (wpAny_bind (wpAny_typeOf (hT _) (wpAny_bind (wpAny_of_eq hlk' ?_)))))))
  show wpAny _ _ (getAttrByItsOwn (.ref so) (.str name t) (.type "super") (.builtin "super.__getattribute__") true false) _ _ _
  unfold getAttrByItsOwn hookBefore callGetattribute boundAndCalled
  refine wpAny_bind (wpAny_of_eq (show (if onTheHeap (.type "super") then typeLookup (.type "super") "__getattr__" else pure none) = pure none from rfl) ?_)
  refine wpAny_bind (wpAny_attempt (wpAny_holding ?_))
  show wpAny _ _ (bindSpecial (.builtin "super.__getattribute__") (.ref so) >>= _) _ _ _
  refine wpAny_bind (wpAny_of_eq (F.ks_slot_super_ga.bind _) ?_)
  refine wpAny_mono (Q := fun v s' => v = .ref h.objs.size ∧ s' = ⟨h.push bo, g, d, t + 1, os⟩) (E := fun _ _ => False)
    (wpAny_call_entry F.ks_slot_super_ga (hT _) F.ks_entry_super_ga (super_gaB hso hno hC hl X hf hty hlk hxC hn hget ⟨_, rfl, rfl, rfl⟩) (F.ks_gaArgs_super _ _)) (fun v s' hv => ?_) fun _ _ z => z.elim
  obtain ⟨rfl, rfl⟩ := hv
  exact wpAny_pure (wpAny_pure hq)
end
end Mine
end

noncomputable section
open PySem PySem.Calls PyProof.Rows PySem.W PySem.Flt PySem.SeqAt
set_option Elab.async false
set_option linter.unusedVariables false
set_option maxRecDepth 100000
namespace Mine
section
variable {prog : Program} {w : World} {A : Around} {E : Value → Shared → Prop} {s : Shared}
/-- a bound built-in is called with no more -/
theorem callWith_boundB {b : Addr} {T id : String} {B : Builtin} {x : Value} {pos : Pos} {Q : Value → Shared → Prop} (hT : T = "method-wrapper" ∨ T = "builtin_function_or_method") (hb : s.heap.get? b = some { cls := .type T, data := .fields #[.builtin id, x] })
    (hq : plainId id = true) (he : entryFor table id = some B) (hc : ∀ {Q' : Unit → Shared → Prop} {E' : Value → Shared → Prop}, Q' () s → wpAny (model prog w) A.in1 (checkBoundCall id ⟨[x], []⟩) Q' E' s)
    (h : wpAny (model prog w) A.in1 (B ⟨[x], []⟩) (fun fin s' => match fin with | .done (.ret v) => Q v s' | _ => False) E s) : wpAny (model prog w) A (callWith pos (.ref b) [] [] []) Q E s := by
  unfold callWith
  refine wpAny_bind (wpAny_holding (PySem.evalArgs_none (wpAny_bind (wpAny_standAt ?_))))
  refine wpAny_bind (m := keeperOf (.ref b)) ?_
  unfold keeperOf
  refine wpAny_bind (wpAny_load hb ?_)
  have tail : ∀ {t : Sem Value}, wpAny (model prog w) A t Q E s → wpAny (model prog w) A (t >>= fun r => holding [r] point >>= fun _ => pure r) Q E s :=
    fun ht => wpAny_bind (wpAny_mono ht (fun r s₂ hr => wpAny_bind (wpAny_holding (wpAny_point (wpAny_pure hr)))) fun _ _ x => x)
  have hin : codeAny (model prog w) A (.builtin id ⟨[x], []⟩) (fun r s' => match r with | .ok (.ret v) => Q v s' | .ok _ => False | .error e => E e s') s := by
    refine codeAny_builtin he ?_
    rw [Around.under_plainId hq _]
    refine wpAny_mono h (fun fin s' z => ?_) fun _ _ z => z
    rcases fin with (_ | _ | _ | _) | _ <;> first | exact z | exact z.elim
  have hcall : wpAny (model prog w) A (call (.ref b) [] []) Q E s := by
    refine wpAny_call (codeAny_of_tree ?_)
    show wpAny _ A.in1 (callAny (.ref b) ⟨[], []⟩) _ _ _
    unfold callAny
    refine wpAny_bind (wpAny_load hb ?_)
    rcases hT with rfl | rfl <;> exact wpAny_bind (hc (wpAny_pure ⟨plainId_quiet hq _, hin⟩))
  rcases hT with rfl | rfl <;> exact wpAny_of_eq (a := Keeper.machine) (by rfl) (tail hcall)
end
end Mine
end

noncomputable section
open PySem PySem.Calls PyProof.Rows PySem.W PySem.Flt PySem.SeqAt
set_option Elab.async false
set_option linter.unusedVariables false
set_option maxRecDepth 100000
namespace Mine
section
variable {C : Cx} {A : Around} {E : Value → Shared → Prop} {s : Shared} {env : Env}
theorem call_attrAt {prog : Program} {w : World} {c : Code} {o : Expr} {name : Str} {apos pos : Pos} {Q : Value → Shared → Prop} (hline : (apos.endLine == pos.line) = true)
    (h : PySem.wpAt (model prog w) A c (attributeBase o name env (eval o env)) (fun ov s₁ => ∀ pl, wpAny (model prog w) A (getMethod ov name pl) (fun fx s₂ => wpAny (model prog w) A (callWith pos fx.1 fx.2 [] []) Q E s₂) E s₁) E s) :
    PySem.wpAt (model prog w) A c (eval (.Call (.Attribute o name apos) [] [] pos) env) Q E s := by
  rw [arm_eval_Call]
  refine PySem.wpAt_bind (ks_wpAt_mono h (fun ov s₁ h₁ => PySem.wpAt_of_wpAny ?_) fun _ _ e => e)
  refine wpAny_bind (wpAny_standAt ?_)
  have hform : methodCallForm (([] : List Expr).length + ([] : List Keyword).length) (backTo pos (starEach [] env)) (backToKw pos (keywordEach [] env)) = true := rfl
  have hpos : methodCallPos true o env apos pos = pure pos := by unfold methodCallPos; simp [hline]
  unfold methodCall
  rw [hform]
  refine wpAny_bind (wpAny_holding (wpAny_mono (h₁ _) (fun fx s₂ h₂ => ?_) fun _ _ e => e))
  exact wpAny_bind (wpAny_of_eq hpos h₂)
theorem opq_keeps {K : Frag} {M : Model} {h : Heap} (X : K.In h) (Ok : ClsOk K) : Looks M h (opaqueClassAbove (.ref 101)) none := looks_opaque X Ok.plain
theorem mro_101 {K : Frag} {M : Model} {h : Heap} (X : K.In h) (Ok : ClsOk K) : Looks M h (mroOf (.ref 101)) [.ref 101, .type "list", .type "object"] := by
  obtain ⟨oc, cd, h1, h2, h3⟩ := Ok.cls
  have hc : clsIn K 101 = some cd := by
    unfold clsIn; rw [h1]
    obtain ⟨a, b, c, d⟩ := oc
    simp only at h2; subst h2; rfl
  rw [← h3]
  exact (looks_clsIn X hc).andThen .now
/-- super().name() within a method -/
theorem super_call {names : List (Str × NameKind)} {body : List Stmt} {p0 p1 apos pos : Pos} {name : Str} {f : FnRec} {fa x : Addr} {ox : Obj} {ar : Arg} {m : Str → Option Value} {id gid T T' : String} {B : Builtin} {Q : Value → Shared → Prop}
    (Eo : EnvOk names env) (hsup : names.lookup ("super" : Str) = some NameKind.globalImplicit) (hg : (("super" : Str), GV.none) ∈ C.globs) (hb : (("super" : Str), Value.type "super") ∈ C.blts) (hkc : names.lookup ("__class__" : Str) = some .free) (hcl : env.cells.lookup ("__class__" : Str) = some 25)
    (hself : names.lookup ar.arg = some .local) (hns : s.heap.Ns env.locals m) (hm : m ar.arg = some (.ref x)) (hfu : env.func = some fa) (hco : env.code = .ref f.code) (hf : (fa, f) ∈ C.fns) (hp : (f.params.posonlyargs ++ f.params.args).head? = some ar) (hcode : f.code ∈ [37, 60, 97])
    (P : Pg C s.heap) (Ok : ClsOk C.frag) (hx : s.heap.get? x = some ox) (hxc : ox.cls = .ref 101) (hnc : ∀ c, ox.data ≠ .cls c) (hne : x ≠ 101) (hfile : ((C.prog.main.file : Str) == ("/claim/cut.py" : Str)) = true) (htop : (C.prog.main.scope.names.lookup ("super" : Str)).isSome = false)
    (hline : (apos.endLine == pos.line) = true) (hat : (name == ("__class__" : Str)) = false) (hfind : alongIn C.frag name [.type "list", .type "object"] = some (some (.builtin id))) (hty : typeOf (.builtin id) = pure (.type T)) (hlk : typeLookup (.type T) "__get__" = pure (some (.builtin gid)))
    (hget : ∀ (A : Around) (s : Shared) (Q' : Value → Shared → Prop) (E' : Value → Shared → Prop), C.frag.In s.heap → s.heap.get? x = some ox → Q' (.ref s.heap.objs.size) { s with heap := s.heap.push { cls := .type T', data := .fields #[.builtin id, .ref x] } } → wpAny (model C.prog C.w) A (call (.builtin gid) [.builtin id, .ref x, .ref 101]) Q' E' s)
    (hT' : T' = "method-wrapper" ∨ T' = "builtin_function_or_method") (hq : plainId id = true) (he : entryFor table id = some B)
    (hc : ∀ {A : Around} {s : Shared} {Q' : Unit → Shared → Prop} {E' : Value → Shared → Prop}, C.frag.In s.heap → s.heap.get? x = some ox → Q' () s → wpAny (model C.prog C.w) A (checkBoundCall id ⟨[.ref x], []⟩) Q' E' s)
    (h : ∀ s', Kp s s' → wpAny (model C.prog C.w) A.in1 (B ⟨[.ref x], []⟩) (fun fin s' => match fin with | .done (.ret v) => Q v s' | _ => False) E s') :
    PySem.wpAt (model C.prog C.w) A (.func body env) (eval (.Call (.Attribute (.Call (.Name "super" p0) [] [] p1) name apos) [] [] pos) env) Q E s := by
  obtain ⟨o, fd, e1, e2, q1, q2, q3, q4, q5, q6, q7, q8, q9, _⟩ := P.fn _ hf
  obtain ⟨oc, vs, tf, c1, c2, c3⟩ := Ok.codes _ hcode
  obtain ⟨ocell, cl1, cl2⟩ := Ok.cell
  obtain ⟨o101, cd, d1, d2, d3⟩ := Ok.cls
  refine call_attrAt hline ?_
  · refine ks_wpAt_super_base (by rw [Eo.kindOf]; exact hsup) (by rw [Eo.kindOf]; exact hkc) hat hfu e1 e2 (by rw [q1]; exact hp) hco (P.fr _ _ c1) c2 c3 hfile htop ?_
    refine load_blt Eo P hsup hg hb ⟨rfl, ?_⟩
    refine wpAny_loadName_free Eo.kind (by rw [Eo.kindOf]; exact hkc) hcl ⟨ocell, P.fr _ _ cl1, cl2⟩ ?_
    refine wpAny_loadName_local Eo.kind (by rw [Eo.kindOf]; exact hself) hns hm ?_
    obtain ⟨hh, g, d, t, os⟩ := s
    refine ks_wpAny_isType_cls (P.fr _ _ d1) d2 ⟨rfl, ?_⟩
    refine ks_wpAny_call_super (P.fr _ _ d1) d2 hx hxc hnc (looks_mroIn P.fr Ok.self) fun h' hso hk pl => ?_
    have X' : C.frag.In h' := P.fr.keeps hk
    refine getMethod_superB (bo := { cls := .type T', data := .fields #[.builtin id, .ref x] }) hso (opq_keeps X' Ok) (mro_101 X' Ok) (by decide +kernel) X' hfind hty hlk hne hat (fun A Q' E' hq' => hget A _ Q' E' X' (hk _ _ hx) hq') ?_
    have hk2 : ∀ y o, hh.get? y = some o → (h'.push { cls := .type T', data := .fields #[.builtin id, .ref x] }).get? y = some o := fun y o e => Heap.get?_push_of_some _ (hk y o e)
    refine callWith_boundB hT' (Heap.get?_push_size _ rfl) hq he (fun hq' => hc (P.fr.keeps hk2) (hk2 _ _ hx) hq') ?_
    exact h _ ⟨_, _, rfl, hk2⟩
end
end Mine
end

noncomputable section
open PySem PySem.Calls PyProof.Rows PySem.W PySem.Flt PySem.SeqAt
set_option Elab.async false
set_option linter.unusedVariables false
set_option maxRecDepth 100000
namespace Mine
section
variable {C : Cx} {n : Nat} {A : Around} {s : Shared}
/-- a call of a def with a closure and no cells of its own -/
theorem def_at {f : FnRec} {fa : Addr} {rs : List Value} {binds : List (Str × Value)} {Q : Value → Shared → Prop} (R : Lvl (n + 1) A) (P : Pg C s.heap) (hf : (fa, f) ∈ C.fns)
    (co : f.scope.isCoroutine = false) (gen : f.scope.isGenerator = false) (kind : f.scope.kind = .function) (hb : ∀ fd, fd.params = f.params → fd.defaults = f.dflt → BindsTo s fd ⟨rs, []⟩ binds)
    (hcell : ∀ x ∈ f.scope.names, x.2 ≠ .cell) (hloc : ∀ x ∈ binds, f.scope.names.lookup x.1 = some .local)
    (h : ∀ env s₁, EnvOk f.scope.names env → env.func = some fa → env.code = .ref f.code → env.cells = f.closure → env.locals = s.heap.objs.size → s₁.heap.Ns env.locals (fun x => binds.reverse.lookup x) → Kp s s₁ → Lvl n (A.deeper env) →
      PySem.wpAt (model C.prog C.w) (A.deeper env) (.func f.body env) (execs f.body env) (fun fw s' => Q (match fw with | .ret v => v | _ => .none) s') bot s₁) :
    wpAny (model C.prog C.w) A (call (.ref fa) rs) Q bot s := by
  obtain ⟨o, fd, e1, e2, p1, p2, p3, p4, p5, p6, p7, p8, p9, oc, vs, t, c1, c2, c3⟩ := P.fn _ hf
  refine wpAny_call (ks_codeAny_call_defAt R.room e1 e2 P.lim ⟨_, oc, vs, t, p8, c1, c2, by rw [p4]; exact c3⟩ p2 (hb fd p1 p9) (by rw [p3]; exact hcell) (by rw [p3]; exact hloc) (fun h₀ hn hk => ?_) (by rw [p3]; exact co) (by rw [p3]; exact gen) (by rw [p3]; exact kind))
  refine ks_wpAt_mono (h (callEnv fd s.heap.objs.size fa) _ ⟨?_, ?_, p6, p7⟩ rfl p8 p5 rfl hn (Kp.of hk) R.deeper) (fun fw s' hq => ?_) fun _ _ z => z.elim
  · show fd.scope.kind = _; rw [p3]; exact kind
  · show fd.scope.names = _; rw [p3]
  · exact hq
end
end Mine
end

noncomputable section
open PySem PySem.Calls PyProof.Rows PySem.W PySem.Flt PySem.SeqAt
set_option Elab.async false
set_option linter.unusedVariables false
set_option maxRecDepth 100000
namespace Mine
section
variable {M : Model} {K : Frag} {h : Heap} {a : Addr} {o : Obj}
theorem ty_acc (e : h.get? a = some o) (hc : o.cls = .ref 101) : Looks M h (typeOf (.ref a)) (.ref 101) := hc ▸ (Looks.ld e).andThen .now
theorem key_acc (X : K.In h) (Ok : ClsOk K) (e : h.get? a = some o) (hc : o.cls = .ref 101) (k : Value) (name : Str) : Looks M h (sequenceKey (.ref a) k name) k := by
  unfold sequenceKey
  refine (ty_acc e hc).andThen ?_
  show Looks M h ((["collections.deque"].anyM fun n => isSubtype (.ref 101) (.type n)) >>= _) k
  have hm : Looks M h (isSubtype (.ref 101) (.type "collections.deque")) false := looks_mroIn X Ok.deque
  have : Looks M h (["collections.deque"].anyM fun n => isSubtype (.ref 101) (.type n)) false := hm.andThen (b := false) .now
  exact this.andThen .now
end
section
variable {prog : Program} {w : World} {A : Around} {E : Value → Shared → Prop} {s : Shared} {K : Frag} {a : Addr} {o : Obj}
/-- a special method that is a built-in of list -/
theorem special_bi {name : Str} {id n : String} {kind : _} {B : Builtin} {args : List Value} {Q : Option Value → Shared → Prop} (X : K.In s.heap) (Ok : ClsOk K) (e : s.heap.get? a = some o) (hc : o.cls = .ref 101)
    (hf : findIn K (.ref 101) name = some (some (.builtin id))) (hb : bindSpecial (.builtin id) (.ref a) = pure (.builtin id, [.ref a])) (hq : plainId id = true) (he : entryFor table id = some B) (hk : builtinKind id = some kind) (hkk : kind = .method ∨ kind = .slot) (hs : splitId id = some ("list", n)) (ha : argsOk id ⟨.ref a :: args, []⟩)
    (h : wpAny (model prog w) A.in1 (B ⟨.ref a :: args, []⟩) (fun fin s' => match fin with | .done (.ret v) => Q (some v) s' | _ => False) E s) : wpAny (model prog w) A (callSpecial? (.ref a) name args) Q E s := by
  have L : Looks (model prog w) s.heap (specialOf (.ref a) name) (some (.builtin id)) := (ty_acc e hc).andThen (looks_findIn X hf)
  unfold callSpecial?
  refine wpAny_bind (L.here ?_)
  refine wpAny_holding (wpAny_bind (wpAny_of_eq hb (wpAny_bind ?_)))
  exact wpAny_mono (call_on (Q := fun v s' => Q (some v) s') hq he hk hkk hs (inst_list X Ok e hc) ha h) (fun v s' q => wpAny_pure q) fun _ _ x => x
theorem item_acc {i : Value} {Q : Value → Shared → Prop} (X : K.In s.heap) (Ok : ClsOk K) (e : s.heap.get? a = some o) (hc : o.cls = .ref 101)
    (h : wpAny (model prog w) A.in1 (Builtin.«list.__getitem__» ⟨[.ref a, i], []⟩) (fun fin s' => match fin with | .done (.ret v) => Q v s' | _ => False) E s) : wpAny (model prog w) A (getItem (.ref a) i) Q E s := by
  unfold getItem
  try with_reducible refine wpAny_holding ?_
  refine wpAny_bind ((key_acc X Ok e hc i _).here ?_)
  refine wpAny_bind (special_bi X Ok e hc Ok.getitem (slot_list_getitem.bind _) slot_list_getitem.plain entry_list_getitem (by decide +kernel : builtinKind "list.__getitem__" = some .method) (.inl rfl) (by decide +kernel : splitId "list.__getitem__" = some ("list", "__getitem__")) (args_list_getitem _ _) ?_)
  exact wpAny_mono h (fun fin s' q => by rcases fin with (_ | _ | _ | _) | _ <;> first | exact wpAny_pure q | exact q) fun _ _ x => x
theorem setitem_acc {i v : Value} {Q : Unit → Shared → Prop} (X : K.In s.heap) (Ok : ClsOk K) (e : s.heap.get? a = some o) (hc : o.cls = .ref 101)
    (h : wpAny (model prog w) A.in1 (Builtin.«list.__setitem__» ⟨[.ref a, i, v], []⟩) (fun fin s' => match fin with | .done (.ret v) => Q () s' | _ => False) E s) : wpAny (model prog w) A (setItem (.ref a) i v) Q E s := by
  unfold setItem
  try with_reducible refine wpAny_holding ?_
  refine wpAny_bind ((key_acc X Ok e hc i _).here ?_)
  refine wpAny_bind (special_bi X Ok e hc Ok.setitem (slot_list_setitem.bind _) slot_list_setitem.plain entry_list_setitem (by decide +kernel : builtinKind "list.__setitem__" = some .slot) (.inr rfl) (by decide +kernel : splitId "list.__setitem__" = some ("list", "__setitem__")) (args_list_setitem _ _ _) ?_)
  exact wpAny_mono h (fun fin s' q => by rcases fin with (_ | _ | _ | _) | _ <;> first | exact wpAny_pure q | exact q) fun _ _ x => x
/-- the parts of a slice -/
theorem parts_of {sl : Addr} {vl vu vs : Value} {lo hi st : Option Int} {Q : Value × Value × Value → Shared → Prop} {M : Model} (hs : s.heap.IsSliceOf sl vl vu vs) (pl : IsPart vl lo) (pu : IsPart vu hi) (ps : IsPart vs st) (h0 : st ≠ some 0)
    (h : Q (rawPart lo, rawPart hi, rawPart st) s) : wpAny M A (Builtin.List.listSliceParts (.ref sl)) Q E s := by
  obtain ⟨os, hos, hcs, hds⟩ := id hs
  rw [listSliceParts_eq]
  have hstep : ¬ ((rawPart st == rawInt 0) = true) := by
    cases st with
    | none => exact Bool.false_ne_true
    | some c =>
      intro hh
      have : c = 0 := by simpa [rawPart, rawInt] using hh
      exact h0 (by rw [this])
  refine wpAny_bind (wpAny_field hos hds (x := vs) rfl (wpAny_bind (wpAny_listPart ps ?_)))
  rw [if_neg hstep]
  exact wpAny_bind (wpAny_field hos hds (x := vl) rfl (wpAny_bind (wpAny_listPart pl (wpAny_bind (wpAny_field hos hds (x := vu) rfl (wpAny_bind (wpAny_listPart pu (wpAny_pure h))))))))
theorem slice_sub {M : Model} {sl : Addr} {vl vu vs : Value} {Q : Option Int → Shared → Prop} (hs : s.heap.IsSliceOf sl vl vu vs) (h : Q none s) : wpAny M A (Builtin.List.listSubscript? (.ref sl)) Q E s := by
  obtain ⟨os, hos, hcs, hds⟩ := id hs
  have hTs : s.TypeIs (.ref sl) "slice" := ⟨os, hos, hcs⟩
  unfold Builtin.List.listSubscript?
  refine wpAny_bind (wpAny_specialOf hTs slice_no_index ?_)
  simp only [Option.isNone_none, if_true]
  exact wpAny_pure h
/-- items of a thing -/
theorem items_acc {M : Model} {vs : Array Value} {ep : Nat} {Q : Array Value → Shared → Prop} (e : s.heap.get? a = some o) (hd : o.data = .seq vs ep) (h : Q vs s) : wpAny M A (Builtin.List.listItems (.ref a)) Q E s := by
  unfold Builtin.List.listItems
  exact wpAny_bind (wpAny_seqItems e hd (wpAny_pure h))
theorem get_slice_acc {vs : Array Value} {ep : Nat} {sl : Addr} {vl vu vt : Value} {lo hi st : Option Int} {Q : Value → Shared → Prop} (X : K.In s.heap) (Ok : ClsOk K) (e : s.heap.get? a = some o) (hc : o.cls = .ref 101) (hd : o.data = .seq vs ep)
    (hs : s.heap.IsSliceOf sl vl vu vt) (pl : IsPart vl lo) (pu : IsPart vu hi) (ps : IsPart vt st) (h0 : st ≠ some 0) (hsz : vs.size ≤ 1000)
    (h : Q (.ref s.heap.objs.size) { s with heap := s.heap.push { cls := .type "list", data := .seq (slicePick vs lo hi st) } }) : wpAny (model prog w) A (getItem (.ref a) (.ref sl)) Q E s := by
  refine item_acc X Ok e hc ?_
  show wpAny _ _ (Builtin.List.listSubscript? (.ref sl) >>= _) _ _ s
  refine wpAny_bind (slice_sub hs ?_)
  have hTs : s.TypeIs (.ref sl) "slice" := let ⟨os, hos, hcs, _⟩ := hs; ⟨os, hos, hcs⟩
  show wpAny _ _ (typeOf (.ref sl) >>= _) _ _ s
  refine wpAny_bind (wpAny_typeOf hTs ?_)
  rw [if_neg (by decide)]
  refine wpAny_bind (parts_of hs pl pu ps h0 ?_)
  dsimp only
  refine wpAny_bind (items_acc e hd ?_)
  refine wpAny_bind (wpAny_of_eq (sliceIndices_raw lo hi st vs.size h0) ?_)
  exact wpAny_bind (wpAny_newObj_type (wpAny_pure h) (Nat.le_trans (slicePick_size_le vs lo hi st) (Nat.le_trans hsz (by decide))))
/-- a slice is set to nothing -/
theorem set_slice_acc {vs : Array Value} {ep : Nat} {sl l : Addr} {vl vu vt : Value} {lo hi : Option Int} {Q : Unit → Shared → Prop} (X : K.In s.heap) (Ok : ClsOk K) (e : s.heap.get? a = some o) (hc : o.cls = .ref 101) (hd : o.data = .seq vs ep)
    (hs : s.heap.IsSliceOf sl vl vu vt) (pl : IsPart vl lo) (pu : IsPart vu hi) (ps : IsPart vt none) (hsz : vs.size ≤ 1000) (hl : s.heap.IsList l #[]) (hla : a ≠ l)
    (h : Q () { s with heap := s.heap.update a (Obj.mapSeq fun xs => xs.extract 0 (sliceBounds lo hi none vs.size).1.toNat ++ (#[] : Array Value) ++ xs.extract (max (sliceBounds lo hi none vs.size).1 (sliceBounds lo hi none vs.size).2.1).toNat xs.size) }) : wpAny (model prog w) A (setItem (.ref a) (.ref sl) (.ref l)) Q E s := by
  refine setitem_acc X Ok e hc ?_
  unfold Builtin.«list.__setitem__»
  refine wpAny_bind (wpAny_of_eq (a := (Value.ref a, [Value.ref sl, Value.ref l])) (by kernel_rfl) ?_)
  dsimp only
  refine wpAny_bind (slice_sub hs ?_)
  have hTs : s.TypeIs (.ref sl) "slice" := let ⟨os, hos, hcs, _⟩ := hs; ⟨os, hos, hcs⟩
  dsimp only
  refine wpAny_bind (wpAny_typeOf hTs ?_)
  rw [if_neg (by decide)]
  refine wpAny_bind (parts_of hs pl pu ps (by simp) ?_)
  dsimp only
  have hne : Builtin.List.listSameRef (.ref a) (.ref l) = false := by simp [Builtin.List.listSameRef, hla]
  rw [hne, if_neg Bool.false_ne_true]
  obtain ⟨ol, el, cl, nl, dl⟩ := id hl
  refine wpAny_bind ?_
  unfold Builtin.List.listAllItems
  refine wpAny_bind (wpAny_typeOf hl.typeIs ?_)
  rw [if_pos (by decide)]
  refine items_acc el dl ?_
  refine wpAny_bind (items_acc e hd ?_)
  refine wpAny_bind (wpAny_of_eq (sliceIndices_raw lo hi none vs.size (by simp)) ?_)
  dsimp only
  rw [if_pos (by rfl)]
  refine wpAny_bind (wpAny_rule ?_)
  have htl : Builtin.List.listTooLong (vs.size + (#[] : Array Value).size) = false := by
    unfold Builtin.List.listTooLong
    refine decide_eq_false (Nat.not_lt.mpr (Nat.le_trans ?_ (show 1000 ≤ sizeLine by decide)))
    simpa using hsz
  rw [htl, if_neg Bool.false_ne_true]
  refine wpAny_bind ?_
  unfold Builtin.List.listUpdate
  refine wpAny_updateSeq e hd ?_ (Nat.le_trans hsz (by decide)) (Nat.le_trans ?_ (show 2000 ≤ sizeLine + 1 by decide))
  · exact wpAny_bind (wpAny_letGo (wpAny_pure h))
  · simp only [Array.size_append, Array.size_extract]
    simp
    (first | lia | omega)
end
end Mine
end

noncomputable section
open PySem PySem.Calls PyProof.Rows PySem.W PySem.Flt PySem.SeqAt
set_option Elab.async false
set_option linter.unusedVariables false
set_option maxRecDepth 100000
namespace Mine
section
variable {C : Cx} {n : Nat} {names : List (Str × NameKind)} {vars : Vars} {σ σ' : List (Option AV)} {μ μ' : Mu} {K : KK}
/-- a def that changes one thing, arguments bound in any way -/
theorem MethC.defB {f : FnRec} {fa : Addr} {ps : List Str} {vars : Vars} {a : Addr} {m m' : MO} (S : Sig f ps vars) (hf : (fa, f) ∈ C.fns) {first : List Value} {argsIn args : List AV} {v : AV} (hl : ps.length = args.length)
    (hb : ∀ (s : Shared) (rs : List Value), Pg C s.heap → RelAll s.heap argsIn rs → ∃ rs2, RelAll s.heap args rs2 ∧ ∀ fd, fd.params = f.params → fd.defaults = f.dflt → BindsTo s fd ⟨first ++ rs, []⟩ (ps.zip rs2))
    (hbody : XS C n f.scope.names vars false (start ps args vars) [(a, m)] f.body (fun fl σ μ => fl.val = v ∧ ∃ rest, μ = (a, m') :: rest)) : MethC C (n + 1) (.ref fa) first a m argsIn v m' := fun A s rs R P M ra => by
  obtain ⟨rs2, r2, hb⟩ := hb s rs P ra
  refine wp_post (fn_call S hf (rs := rs2) R P hb r2 hl M hbody) fun r s' ⟨fl, σ', μ', ⟨h1, rest, h2⟩, hr, hM, S', T'⟩ => ?_
  subst h2
  rw [h1] at hr
  exact ⟨hr, MuOk.focus (l := []) hM, S', T'⟩

theorem bounds_from {i : Int} {n : Nat} (h0 : 0 ≤ i) : sliceBounds (some i) none none n = (((min i.toNat n : Nat) : Int), ((n : Nat) : Int), 1) := by
  unfold sliceBounds
  simp only [Option.getD_none, show (1 : Int) > 0 from by decide, if_true, if_neg (show ¬ i < 0 from by (first | lia | omega))]
  congr 1
  (first | lia | omega)
theorem pick_from {vs : List Value} {i : Int} (h0 : 0 ≤ i) : slicePick vs.toArray (some i) none none = (vs.drop i.toNat).toArray := by
  unfold slicePick
  rw [List.size_toArray, bounds_from h0]
  simp only [List.getElem?_toArray]
  rw [pick_step1 vs _ _ (Nat.le_refl _), List.take_length]
  congr 1
  by_cases h : i.toNat ≤ vs.length
  · rw [Nat.min_eq_left h]
  · rw [Nat.min_eq_right (by (first | lia | omega)), List.drop_eq_nil_of_le (Nat.le_refl _), List.drop_eq_nil_of_le (by (first | lia | omega))]
theorem RelAll.drop {h : Heap} : ∀ {l : List AV} {vs : List Value}, RelAll h l vs → ∀ i, RelAll h (l.drop i) (vs.drop i)
  | _, _, .nil, i => by simp; exact .nil
  | _, _, .cons a r, 0 => .cons a r
  | _, _, .cons a r, i + 1 => by simpa using RelAll.drop r i
theorem RelAll.take {h : Heap} : ∀ {l : List AV} {vs : List Value}, RelAll h l vs → ∀ i, RelAll h (l.take i) (vs.take i)
  | _, _, .nil, i => by simp; exact .nil
  | _, _, .cons a r, 0 => .nil
  | _, _, .cons a r, i + 1 => .cons a (RelAll.take r i)
theorem part_int {v : Value} {q : Option (Int × Tok)} {p : Option Int} (e : v = partValue q) (h : q.map (·.1) = p) : IsPart v p := by
  subst e; subst h
  cases q with
  | none => exact .none
  | some q => exact .int _ _

/-- o[i:], of a thing -/
theorem XE.sliceAcc {o e : Expr} {p pos : Pos} {l r : Mu} {a d : Addr} {k : Int} {items : List (Str × Str)} {i : Int} (Ok : ClsOk C.frag) (ho : QE C n names vars σ o (.acc a)) (he : QE C n names vars σ e (.int i)) (h0 : 0 ≤ i) (hlen : items.length ≤ 500) :
    XE C n names vars false σ (l ++ (a, .acc d k items) :: r) (.Subscript o (.Slice (some e) none none p) pos) (.lst ((items.drop i.toNat).map pairV)) (l ++ (a, .acc d k items) :: r) := .mk fun env A s R F => by
  rw [eval_Subscript]
  refine wpAny_bind (wp_post (ho.run env A s F.ok R F.pg F.loc) fun ov s₁ ⟨r1, k1⟩ => ?_)
  obtain rfl := r1.acc_eq
  have F1 := F.kp k1
  refine wpAny_bind (wpAny_holding (wpAny_Slice ?_))
  refine wp_post ((QP.some he).wp F1.ok R F1.pg F1.loc) fun vl s₂ ⟨⟨ql, el, pl⟩, k2⟩ => ?_
  have F2 := F1.kp k2
  refine wp_post ((QP.none : QP C n names vars σ none none).wp F2.ok R F2.pg F2.loc) fun vu s₃ ⟨⟨qu, eu, pu⟩, k3⟩ => ?_
  have F3 := F2.kp k3
  refine wp_post ((QP.none : QP C n names vars σ none none).wp F3.ok R F3.pg F3.loc) fun vt s₄ ⟨⟨qt, et, pt⟩, k4⟩ => ?_
  have k5 := Kp.push s₄ { cls := .type "slice", data := .fields #[vl, vu, vt] }
  have F5 := (F3.kp k4).kp k5
  have kk := (((k1.trans' k2).trans' k3).trans' k4).trans' k5
  have hs : (s₄.heap.push { cls := .type "slice", data := .fields #[vl, vu, vt] }).IsSliceOf s₄.heap.objs.size vl vu vt := Heap.IsSliceOf.new ..
  generalize hs5 : ({ s₄ with heap := s₄.heap.push { cls := .type "slice", data := .fields #[vl, vu, vt] } } : Shared) = s₅ at *
  obtain ⟨⟨vs, ep, e1, rv⟩, _⟩ := F5.mu.at' (a, .acc d k items) (by simp)
  have hs' : s₅.heap.IsSliceOf s₄.heap.objs.size vl vu vt := by rw [← hs5]; exact hs
  refine wpAny_bind (wpAny_standAt ?_)
  rw [getitemInPython_of_ne (by simp)]
  have L : Looks (model C.prog C.w) s₅.heap (specialOf (.ref a) "__getitem__") (some (.builtin "list.__getitem__")) := (ty_acc e1 rfl).andThen (looks_findIn F5.pg.fr Ok.getitem)
  refine wpAny_bind ?_
  refine wpAny_bind (L.here (wpAny_pure ?_))
  refine wpAny_bind ?_
  refine subscripted_any ?_
  have hsz : (List.toArray vs).size ≤ 1000 := by rw [List.size_toArray, ← rv.length, List.length_map]; (first | lia | omega)
  refine get_slice_acc F5.pg.fr Ok e1 rfl rfl hs' (part_int el pl) (part_int eu pu) (part_int et pt) (by simp) hsz ?_
  refine wpAny_bind (wpAny_letTemporaryGo (wpAny_pure ?_))
  have k6 := Kp.push s₅ { cls := .type "list", data := .seq (slicePick (List.toArray vs) (some i) none none) }
  refine ⟨?_, F5.kp k6, .of (kk.trans' k6).stp⟩
  rw [pick_from h0]
  refine .lst' (isList_push _ _) ?_
  rw [List.map_drop]
  have := (rv.drop i.toNat).keeps k6.heap
  rw [pick_from h0] at this
  exact this
/-- o[i:] = [], of a thing -/
theorem X1.cutAcc {o e : Expr} {p p2 pos' pos : Pos} {l r : Mu} {a d : Addr} {k : Int} {items : List (Str × Str)} {i : Int} (Ok : ClsOk C.frag) (ho : QE C n names vars σ o (.acc a)) (he : QE C n names vars σ e (.int i)) (h0 : 0 ≤ i) (hlen : items.length ≤ 500)
    (hk : K .nx σ (l ++ (a, .acc d k (items.take i.toNat)) :: r)) (hw : ∀ env, swapsWith (.List [] p2) (some (.Subscript o (.Slice (some e) none none p) pos')) pos.line env = pure false := by intro _; rfl) :
    X1 C n names vars false σ (l ++ (a, .acc d k items) :: r) (.Assign [.Subscript o (.Slice (some e) none none p) pos'] (.List [] p2) pos) K := .mk fun env A s R F => by
  refine wpAny_Assign_Subscript (wp_post ((QE.list .nil : QE C n names vars σ (.List [] p2) (.lst [])).run env A s F.ok R F.pg F.loc) fun y s₀ ⟨r0, k0⟩ => ?_) (hw env)
  have F0 := F.kp k0
  refine wp_post (ho.run env A s₀ F0.ok R F0.pg F0.loc) fun ov s₁ ⟨r1, k1⟩ => ?_
  obtain rfl := r1.acc_eq
  have F1 := F0.kp k1
  refine wpAny_Slice ?_
  refine wp_post ((QP.some he).wp F1.ok R F1.pg F1.loc) fun vl s₂ ⟨⟨ql, el, pl⟩, k2⟩ => ?_
  have F2 := F1.kp k2
  refine wp_post ((QP.none : QP C n names vars σ none none).wp F2.ok R F2.pg F2.loc) fun vu s₃ ⟨⟨qu, eu, pu⟩, k3⟩ => ?_
  have F3 := F2.kp k3
  refine wp_post ((QP.none : QP C n names vars σ none none).wp F3.ok R F3.pg F3.loc) fun vt s₄ ⟨⟨qt, et, pt⟩, k4⟩ => ?_
  have k5 := Kp.push s₄ { cls := .type "slice", data := .fields #[vl, vu, vt] }
  have F5 := (F3.kp k4).kp k5
  have kk := (((k1.trans' k2).trans' k3).trans' k4).trans' k5
  have hs : (s₄.heap.push { cls := .type "slice", data := .fields #[vl, vu, vt] }).IsSliceOf s₄.heap.objs.size vl vu vt := Heap.IsSliceOf.new ..
  generalize hs5 : ({ s₄ with heap := s₄.heap.push { cls := .type "slice", data := .fields #[vl, vu, vt] } } : Shared) = s₅ at *
  have hs' : s₅.heap.IsSliceOf s₄.heap.objs.size vl vu vt := by rw [← hs5]; exact hs
  obtain ⟨b, ws, rfl, hl, rw0⟩ := (r0.keeps kk.heap).lst_inv
  obtain rfl := rw0.nil_eq
  have M1 := F5.mu.focus
  obtain ⟨⟨vs, ep, e1, rv⟩, hacc⟩ := M1.at' (a, .acc d k items) (.head _)
  have hab : a ≠ b := fun e => by
    subst e
    obtain ⟨o, eo, co, _⟩ := hl
    rw [e1] at eo; cases eo; cases co
  have hsz : (List.toArray vs).size ≤ 1000 := by rw [List.size_toArray, ← rv.length, List.length_map]; (first | lia | omega)
  refine set_slice_acc F5.pg.fr Ok e1 rfl rfl hs' (part_int el pl) (part_int eu pu) (part_int et pt) hsz hl hab ?_
  have hcut : ∀ us : List Value, us.length = vs.length → (List.toArray us).extract 0 (sliceBounds (some i) none none (List.toArray vs).size).1.toNat ++ (#[] : Array Value) ++ (List.toArray us).extract (max (sliceBounds (some i) none none (List.toArray vs).size).1 (sliceBounds (some i) none none (List.toArray vs).size).2.1).toNat (List.toArray us).size = (us.take i.toNat).toArray := fun us hu => by
    rw [List.size_toArray, bounds_from h0, List.size_toArray]
    dsimp only
    have e1 : (((min i.toNat vs.length : Nat) : Int)).toNat = min i.toNat vs.length := by (first | lia | omega)
    have e2 : (max ((min i.toNat vs.length : Nat) : Int) (vs.length : Int)).toNat = vs.length := by (first | lia | omega)
    rw [e1, e2]
    apply Array.ext'
    simp only [Array.toList_append, Array.toList_extract, List.toList_toArray, List.extract_eq_take_drop]
    simp only [hu, Nat.sub_self, List.take_zero, List.append_nil, List.drop_zero, Nat.sub_zero]
    by_cases h : i.toNat ≤ vs.length
    · rw [Nat.min_eq_left h]
    · rw [Nat.min_eq_right (by (first | lia | omega)), List.take_of_length_le (by (first | lia | omega)), List.take_of_length_le (by (first | lia | omega))]
  obtain ⟨M', S'⟩ := acc_write (s := s₅) (f := fun xs => xs.extract 0 (sliceBounds (some i) none none (List.toArray vs).size).1.toNat ++ (#[] : Array Value) ++ xs.extract (max (sliceBounds (some i) none none (List.toArray vs).size).1 (sliceBounds (some i) none none (List.toArray vs).size).2.1).toNat xs.size) (l' := items.take i.toNat) M1 fun us r' => ⟨us.take i.toNat, hcut us (by rw [← r'.length, ← rv.length]), by rw [List.map_take]; exact r'.take _⟩
  have Z : Aft a (.acc d k items) (.acc d k (items.take i.toNat)) s₅ { s₅ with heap := s₅.heap.update a (Obj.mapSeq fun xs => xs.extract 0 (sliceBounds (some i) none none (List.toArray vs).size).1.toNat ++ (#[] : Array Value) ++ xs.extract (max (sliceBounds (some i) none none (List.toArray vs).size).1 (sliceBounds (some i) none none (List.toArray vs).size).2.1).toNat xs.size) } :=
    ⟨M', S', F5.pg.tab.step fun b o hb e => (Heap.get?_update_other _ _ (Ne.symm (acc_wr M1 hb))).trans e⟩
  obtain ⟨F6, N6⟩ := F5.meth (m' := .acc d k (items.take i.toNat)) rfl Z
  exact ⟨_, _, _, hk, .nx, F6, (Nxt.of (k0.trans' kk).stp).trans N6⟩
end
end Mine
end

noncomputable section
open PySem PySem.Calls PyProof.Rows PySem.W PySem.Flt PySem.SeqAt
set_option Elab.async false
set_option linter.unusedVariables false
set_option maxRecDepth 100000
namespace Mine
/-- a seq stands there, of whatever class -/
noncomputable def SeqsAt (h : Heap) (a : Addr) (items : Array Value) : Prop := ∃ o n, h.get? a = some o ∧ o.data = .seq items n
theorem SeqsAt.at {h h' : Heap} {a : Addr} {items : Array Value} (x : SeqsAt h a items) (hk : ∀ o, h.get? a = some o → h'.get? a = some o) : SeqsAt h' a items := let ⟨o, n, e, d⟩ := x; ⟨o, n, hk o e, d⟩
section
variable {prog : Program} {w : World} {A : Around} {E : Value → Shared → Prop} {s : Shared}
theorem iter_acc {K : Frag} {a : Addr} {o : Obj} {Q : Value → Shared → Prop} (X : K.In s.heap) (Ok : ClsOk K) (e : s.heap.get? a = some o) (hc : o.cls = .ref 101)
    (h : Q (.ref s.heap.objs.size) { s with heap := s.heap.push { cls := .type "list_iterator", data := .fields #[.ref a, .int 0 0] } }) : wpAny (model prog w) A (pyIter (.ref a)) Q E s := by
  have L : Looks (model prog w) s.heap (specialOf (.ref a) "__iter__") (some (.builtin "list.__iter__")) := (ty_acc e hc).andThen (looks_findIn X Ok.iter)
  have run : wpAny (model prog w) A (call (.builtin "list.__iter__") [.ref a]) (fun it s' => wpAny (model prog w) A (specialOf it "__next__") (fun r s'' => r.isSome = true ∧ Q it s'') E s') E s := by
    refine call_on (rest := []) slot_list_iter.plain entry_list_iter (by decide +kernel : builtinKind "list.__iter__" = some .slot) (.inr rfl) (by decide +kernel : splitId "list.__iter__" = some ("list", "__iter__")) (inst_list X Ok e hc) (args_list_iter _) ?_
    show wpAny _ _ (do ret (← newFields "list_iterator" [.ref a, rawInt 0])) _ _ s
    refine wpAny_bind (wpAny_newObj_type (wpAny_pure ?_))
    exact wpAny_specialOf (T := "list_iterator") ⟨_, Heap.get?_push_size _ rfl, rfl⟩ slot_listiter_next.lookup ⟨rfl, h⟩
  unfold pyIter
  refine wpAny_bind (L.here ?_)
  show wpAny _ A (callSpecialIfBoundUnlessNone? (.ref a) "__iter__" _ >>= _) Q E s
  refine wpAny_bind ?_
  unfold callSpecialIfBoundUnlessNone? bindSpecialIfBound?
  refine wpAny_holding (wpAny_bind (wpAny_bind (L.here ?_)))
  have hb : bindSpecial (.builtin "list.__iter__") (.ref a) = pure (.builtin "list.__iter__", [.ref a]) := slot_list_iter.bind _
  simp only [hb]
  refine wpAny_bind (wpAny_askSetting (wpAny_ite ?_))
  split
  · refine wpAny_bind (wpAny_pure (wpAny_pure ?_))
    dsimp only
    rw [if_neg (by decide)]
    refine wpAny_bind (wpAny_mono run (fun it s' h' => wpAny_pure ?_) fun _ _ x => x)
    dsimp only
    refine wpAny_bind (wpAny_mono h' (fun r s'' ⟨h1, h2⟩ => ?_) fun _ _ x => x)
    cases r with
    | none => cases h1
    | some _ => exact wpAny_pure h2
  · refine wpAny_tryCatch (wpAny_bind (wpAny_pure (wpAny_pure ?_)))
    dsimp only
    rw [if_neg (by decide)]
    refine wpAny_bind (wpAny_mono run (fun it s' h' => wpAny_pure ?_) fun _ _ x => x)
    dsimp only
    refine wpAny_bind (wpAny_mono h' (fun r s'' ⟨h1, h2⟩ => ?_) fun _ _ x => x)
    cases r with
    | none => cases h1
    | some _ => exact wpAny_pure h2
/-- the next of a list iterator, whatever is gone through -/
theorem next_item {it l : Addr} {i : Nat} {items : Array Value} {x : Value} {Q : Option Value → Shared → Prop} (hit : s.heap.IsListIter it l i) (hl : SeqsAt s.heap l items) (hx : items[i]? = some x)
    (hQ : ∀ h', h'.IsListIter it l (i + 1) → Heap.SameBut it s.heap h' → Q (some x) { s with heap := h' }) : wpAny (model prog w) A (pyNext (.ref it)) Q E s := by
  obtain ⟨o, ho, hc, hd⟩ := id hit
  obtain ⟨ol, nl, hol, hdl⟩ := hl
  unfold pyNext
  refine wpAny_bind (wpAny_attempt (wpAny_callSpecial?_slot (name := Str.ofString "__next__") hit.typeIs slot_listiter_next (wpAny_call_entry slot_listiter_next hit.typeIs entry_listiter_next ?_ (args_listiter_next _))))
  show wpAny _ _ (field (.ref it) 0 >>= _) _ _ s
  refine wpAny_bind (wpAny_field ho hd (x := .ref l) rfl ?_)
  show wpAny _ _ (if (Value.ref l == Value.none) = true then _ else _) _ _ s
  rw [if_neg (show ¬ ((Value.ref l == Value.none) = true) from Bool.false_ne_true)]
  show wpAny _ _ (field (.ref it) 1 >>= _) _ _ s
  refine wpAny_bind (wpAny_field ho hd (x := .int i 0) rfl ?_)
  show wpAny _ _ (seqItems? (.ref l) >>= _) _ _ s
  refine wpAny_bind (wpAny_seqItems hol hdl ?_)
  simp only [Int.toNat_natCast, hx]
  refine wpAny_bind (wpAny_setField ho hd (by simp) (wpAny_pure ⟨x, rfl, wpAny_pure (hQ _ ⟨_, Heap.get?_update_self _ ho (Obj.isFreed_of_fields (Obj.data_mapFields hd _)), (Obj.cls_mapFields ..).trans hc, ?_⟩ (Heap.SameBut.update ..))⟩))
  rw [Obj.data_mapFields hd]; simp [rawInt]
theorem next_end {it l : Addr} {i : Nat} {items : Array Value} {Q : Option Value → Shared → Prop} (hh : A.handled = none) (hit : s.heap.IsListIter it l i) (hl : SeqsAt s.heap l items) (hx : items[i]? = none)
    (hQ : ∀ h', Heap.ExtBut it s.heap h' → Q none { s with heap := h' }) : wpAny (model prog w) A (pyNext (.ref it)) Q E s := by
  obtain ⟨o, ho, hc, hd⟩ := id hit
  obtain ⟨ol, nl, hol, hdl⟩ := hl
  unfold pyNext
  refine wpAny_bind (wpAny_attempt (wpAny_callSpecial?_slot (name := Str.ofString "__next__") hit.typeIs slot_listiter_next (wpAny_call_entry slot_listiter_next hit.typeIs entry_listiter_next ?_ (args_listiter_next _))))
  show wpAny _ _ (field (.ref it) 0 >>= _) _ _ s
  refine wpAny_bind (wpAny_field ho hd (x := .ref l) rfl ?_)
  show wpAny _ _ (if (Value.ref l == Value.none) = true then _ else _) _ _ s
  rw [if_neg (show ¬ ((Value.ref l == Value.none) = true) from Bool.false_ne_true)]
  show wpAny _ _ (field (.ref it) 1 >>= _) _ _ s
  refine wpAny_bind (wpAny_field ho hd (x := .int i 0) rfl ?_)
  show wpAny _ _ (seqItems? (.ref l) >>= _) _ _ s
  refine wpAny_bind (wpAny_seqItems hol hdl ?_)
  simp only [Int.toNat_natCast, hx]
  refine wpAny_bind (wpAny_rule (wpAny_bind (wpAny_setField ho hd (by simp) ?_)))
  show wpAny _ _ (newExc (.type "StopIteration") [] >>= _) _ _ _
  refine wpAny_bind ?_
  simp only [newExc, newTuple]
  refine wpAny_bind (wpAny_newObj_type ?_ (by size_fits))
  refine wpAny_bind (m := firstArgMember _ _) (wpAny_of_eq (a := Value.none) (by first | rfl | (simp only [firstArgMember]; rfl)) ?_)
  refine wpAny_newObj_type ?_ (by size_fits)
  simp only [raiseNew]
  refine wpAny_bind (wpAny_handled ?_)
  rw [show A.in1.handled = none from hh]
  refine wpAny_bind (wpAny_pure (wpAny_throw ?_))
  refine wpAny_bind (wpAny_isInstance (T := "StopIteration") (b := true) ⟨_, Heap.get?_push_size _ rfl, rfl⟩ isSubtype_stop ?_)
  exact wpAny_pure (hQ _ (((Heap.SameBut.update ..).extBut.push _).push _))
end
theorem walksU_pairs {prog : Program} {w : World} {A : Around} (hh : A.handled = none) (I ax : Addr) (hne : ax ≠ I) (items : Array Value) (Ts : Nat → Addr) (vals : Nat → Array Value)
    (hit : ∀ j, j < items.size → items[j]? = some (.ref (Ts j))) (hTI : ∀ j, j < items.size → Ts j ≠ I) :
    WalksU prog w A I (I :: ax :: (List.range items.size).map Ts) [I] items.size (fun j v => v = vals j)
      (fun j h => h.IsListIter I ax j ∧ SeqsAt h ax items ∧ ∀ k, k < items.size → h.IsTuple (Ts k) (vals k))
      (fun j T h => (j < items.size ∧ T = Ts j) ∧ h.IsListIter I ax (j + 1) ∧ SeqsAt h ax items ∧ ∀ k, k < items.size → h.IsTuple (Ts k) (vals k)) where
  sub := fun b hb => by simp at hb; simp [hb]
  frame := fun _ _ _ st hk => ⟨st.1.at fun o e => hk I (by simp) o e, st.2.1.at fun o e => hk ax (by simp) o e,
    fun k hk' => (st.2.2 k hk').at fun o e => hk (Ts k) (List.mem_cons_of_mem _ (List.mem_cons_of_mem _ (List.mem_map.mpr ⟨k, List.mem_range.mpr hk', rfl⟩))) o e⟩
  item := fun i s Q E hi st hQ => by
    refine next_item st.1 st.2.1 (x := .ref (Ts i)) (hit i hi) fun h' hit' hs' => ?_
    have tup : ∀ k, k < items.size → h'.IsTuple (Ts k) (vals k) := fun k hk' => (st.2.2 k hk').extBut hs'.extBut (hTI k hk')
    exact hQ (Ts i) (vals i) h' s.toks rfl (tup i hi) ⟨⟨hi, rfl⟩, hit', st.2.1.at fun o e => hs'.extBut _ o hne e, tup⟩ fun b o hb e => hs'.extBut b o (fun h => hb (by simp [h])) e
  go := fun _ _ _ _ _ s Q _ hm hQ => wpAny_letOwnedTupleGo_listiter hm.2.1 (hQ s.heap hm.2 fun _ _ _ e => e)
  apart := fun j T _ hm hmem => by
    rcases List.mem_cons.mp hmem with e | e
    · exact hTI j hm.1.1 (hm.1.2 ▸ e)
    · cases e
  done := fun s Q E st hQ => next_end hh st.1 st.2.1 (by simp) fun h' he' => hQ h' s.toks fun b o hb e => he' b o (fun h => hb (by simp [h])) e
  self := fun _ _ _ _ st hQ => wpAny_pyIter_listiter st.1 hQ

/-- a walk, counted from one -/
theorem WalksS.shift {prog : Program} {w : World} {A : Around} {I : Addr} {fp wr : List Addr} {G : Array GenState → Array GenState → Prop} {n : Nat} {P : Nat → Value → Prop} {St : Nat → Shared → Prop} (W : WalksS prog w A I fp wr G n P St) :
    WalksS prog w A I fp wr G (n + 1) (fun i v => ∃ j, i = j + 1 ∧ P j v) (fun i s => ∃ j, i = j + 1 ∧ St j s) where
  sub := W.sub
  grefl := W.grefl
  gtrans := W.gtrans
  frame := fun i s h' tk ⟨j, e, st⟩ ht hk => ⟨j, e, W.frame j s h' tk st ht hk⟩
  item := fun i s Q E hi ⟨j, e, st⟩ hQ => W.item j s Q E (by (first | lia | omega)) st fun v s' hP hs' hm => hQ v s' ⟨j, e, hP⟩ ⟨j + 1, by (first | lia | omega), hs'⟩ hm
  done := fun s Q E ⟨j, e, st⟩ hQ => by
    have : j = n := by (first | lia | omega)
    subst this
    exact W.done s Q E st hQ
  self := fun i s Q E ⟨j, e, st⟩ hQ => W.self j s Q E st hQ
theorem args_sum2 (a b : Value) : argsOk "sum" ⟨[a, b], []⟩ := by unfold argsOk; kernel_rfl
noncomputable def shiftVal (k : Int) (val : Nat → Int) : Nat → Int
  | 0 => k
  | j + 1 => val j
theorem preSum_shift (k : Int) (val : Nat → Int) : ∀ n, preSum (shiftVal k val) (n + 1) = k + preSum val n
  | 0 => by simp [preSum, shiftVal]
  | n + 1 => by
    have ih := preSum_shift k val n
    show preSum (shiftVal k val) (n + 1) + shiftVal k val (n + 1) = k + (preSum val n + val n)
    rw [ih]
    show k + preSum val n + val n = _
    (first | lia | omega)
theorem call_sum_start {prog : Program} {w : World} {A : Around} {E : Value → Shared → Prop} {s : Shared} {x : Value} {k : Int} {tk : Tok} {Q : Value → Shared → Prop} (hk : k = 0 ∨ k = 2)
    (h : wpAny (model prog w) A.in1 (pyIter x) (fun it s₂ => ∃ I fp wr G n P St val, it = .ref I ∧ WalksS prog w A.in1 I fp wr G n P St ∧ St 0 s₂ ∧ (∀ b ∈ fp, b < s₂.heap.objs.size) ∧
      (∀ i v, P i v → ∃ t, v = .int (val i) t) ∧ (∀ j, j < n + 1 → InLong (shiftVal k val j) ∧ InLong (preSum (shiftVal k val) (j + 1))) ∧
      ∀ s' t', Moved wr G s₂ s' → Q (.int (k + preSum val n) t') s') E s) :
    wpAny (model prog w) A (call (.builtin "sum") [x, .int k tk]) Q E s := by
  refine call_function_tree F.kind_sum F.plain_sum F.entry_sum (args_sum2 _ _) ?_
  unfold Builtin.«sum»
  simp only [List.length_cons, List.length_nil]
  rw [if_neg (by decide)]
  refine wpAny_bind (wpAny_of_eq (show Builtin.Builtins.bindParams "sum" ["start"] 0 ⟨[.int k tk], []⟩ = pure [some (.int k tk)] from by kernel_rfl) ?_)
  refine wpAny_bind (wpAny_mono h (fun it s₂ h₂ => ?_) fun _ _ e => e)
  obtain ⟨I, fp, wr, G, n, P, St, val, rfl, W, hst, hfp, hval, hfit, hQ⟩ := h₂
  dsimp only
  rw [if_pos (by rcases hk with rfl | rfl <;> rfl)]
  with_reducible refine wpAny_bind (wpAny_rule ?_)
  with_reducible refine wpAny_bind (wpAny_mkInt ?_)
  with_reducible refine wpAny_bind (wpAny_pure ?_)
  simp only [List.forIn_cons, List.forIn_nil]
  refine wpAny_bind (wpAny_bind (wpAny_bind (wpAny_isInstance (T := "int") (b := false) (typeIs_int _ _ _) PySem.sub_int_str ?_)))
  simp only [Bool.false_eq_true, if_false]
  refine wpAny_pure (wpAny_bind (wpAny_bind (wpAny_isInstance (T := "int") (b := false) (typeIs_int _ _ _) PySem.sub_int_bytes ?_)))
  simp only [Bool.false_eq_true, if_false]
  refine wpAny_pure (wpAny_bind (wpAny_bind (wpAny_isInstance (T := "int") (b := false) (typeIs_int _ _ _) PySem.sub_int_bytearray ?_)))
  simp only [Bool.false_eq_true, if_false]
  refine wpAny_pure (wpAny_pure ?_)
  refine wpAny_bind (wpAny_newObj_type ?_)
  have hSf : s₂.heap.objs.size ∉ fp := fun hm => Nat.lt_irrefl _ (hfp _ hm)
  have e1 : preSum (shiftVal k val) 1 = k := by simp [preSum, shiftVal]
  refine wpAny_pure ⟨plainId_quiet F.plain_sum_loop _, codeAny_sum_loopS (WalksS.shift W) (shiftVal k val) (fun i v ⟨j, e, hp⟩ => by subst e; exact hval j v hp) hfit s₂.heap.objs.size hSf n 1 _ s₂.toks 0 (by (first | lia | omega)) (by (first | lia | omega))
    ⟨0, rfl, W.frame 0 s₂ _ _ hst (Nat.le_succ _) fun b _ o e => Heap.get?_push_of_some _ e⟩ (by rw [e1]; exact Heap.get?_push_size _ rfl) fun s' t' hm => ?_⟩
  rw [preSum_shift]
  exact hQ s' t' (hm.drop_new (Nat.le_succ _))
end Mine
end

noncomputable section
open PySem PySem.Calls PyProof.Rows PySem.W PySem.Flt PySem.SeqAt
set_option Elab.async false
set_option linter.unusedVariables false
set_option maxRecDepth 100000
namespace Mine
section
variable {C : Cx} {n : Nat} {names : List (Str × NameKind)} {vars : Vars} {σ : List (Option AV)}
/-- the code that a generator's code is made under -/
structure CodeOf (c P : Addr) : Prop where
  tab : P ∈ tabs
  fwd : ∀ h, TabOk h → ∃ ps, Tb h c P ps
  back : ∀ h h' ps, TabOk h → (∀ b o, b ≠ P → h.get? b = some o → h'.get? b = some o) → Tb h' c P ps → TabOk h'
theorem tb_but {h h' : Heap} {c P Z : Addr} {ps : Array Value} (x : Tb h c P ps) (hc : c ≠ Z) (hP : P ≠ Z) (hk : ∀ b o, b ≠ Z → h.get? b = some o → h'.get? b = some o) : Tb h' c P ps := tb_step x fun o => ⟨hk _ o hc, hk _ o hP⟩
theorem code_len : CodeOf 67 63 := ⟨by decide, fun h x => x.1, fun h h' ps x hk y => ⟨⟨ps, y⟩, let ⟨ps2, z⟩ := x.2; ⟨ps2, tb_but z (by decide) (by decide) hk⟩⟩⟩
theorem code_str : CodeOf 74 70 := ⟨by decide, fun h x => x.2, fun h h' ps x hk y => ⟨let ⟨ps2, z⟩ := x.1; ⟨ps2, tb_but z (by decide) (by decide) hk⟩, ⟨ps, y⟩⟩⟩
/-- the code of a generator's expression, with its table -/
theorem genCode {M : Model} {A : Around} {E : Value → Shared → Prop} {s : Shared} {env : Env} {c P : Addr} {ps : Array Value} {pos : Pos} {qualname : Str} {scope : Scope} {Q : Value → Shared → Prop} (hc : env.code = .ref c) (hok : Tb s.heap c P ps)
    (hQ : ∀ code h' tk ps', Heap.ExtBut P s.heap h' → Tb h' c P ps' → Q code { s with heap := h', toks := tk }) : wpAny M A (genexprCode env pos qualname scope) Q E s := by
  cases hnf : codeAmong pos ps.toList with
  | some cv => exact wpAny_genexprCode_hit hc hok.1 hnf (hQ cv s.heap s.toks ps (Heap.ExtBut.refl _ _) hok)
  | none => exact wpAny_genexprCodeX hc hok.1 hok.2 hnf fun c' h' tk he _ _ hi _ ht _ => hQ _ h' tk _ he ⟨hi, ht⟩

/-- what is known of the tuples of a thing -/
theorem pairs_at {h : Heap} {items : List (Str × Str)} {vs : List Value} (rv : RelAll h (items.map pairV) vs) : ∃ (Ts : Nat → Addr) (vals : Nat → Array Value), ∀ j, (hj : j < items.length) → vs[j]? = some (.ref (Ts j)) ∧ h.IsTuple (Ts j) (vals j) ∧ ∃ t u, vals j = #[.str items[j].1 t, .str items[j].2 u] := by
  have key : ∀ j, ∃ T : Addr, ∃ va : Array Value, (hj : j < items.length) → vs[j]? = some (.ref T) ∧ h.IsTuple T va ∧ ∃ t u, va = #[.str items[j].1 t, .str items[j].2 u] := fun j => by
    by_cases hj : j < items.length
    · have hl : j < vs.length := by rw [← rv.length, List.length_map]; exact hj
      have r := rv.get j (pairV items[j]) vs[j] (by rw [List.getElem?_map, List.getElem?_eq_getElem hj]; rfl) (List.getElem?_eq_getElem hl)
      obtain ⟨T, ws, e, ht, rw2⟩ := r.tup_inv
      obtain ⟨x1, x2, rfl, r1, r2⟩ := rw2.two_ex
      obtain ⟨t, rfl⟩ := r1.str_ex
      obtain ⟨u, rfl⟩ := r2.str_ex
      exact ⟨T, _, fun _ => ⟨by rw [List.getElem?_eq_getElem hl, e], ht, _, _, rfl⟩⟩
    · exact ⟨0, #[], fun hj' => absurd hj' hj⟩
  obtain ⟨Ts, h1⟩ := Classical.axiomOfChoice key
  obtain ⟨vals, h2⟩ := Classical.axiomOfChoice h1
  exact ⟨Ts, vals, h2⟩

/-- a generator upon the pairs of a thing: where it stands -/
structure GenStand (C : Cx) (A : Around) (P : Addr) (items : List (Str × Str)) (f : Str × Str → AV) (s s₅ : Shared) (g : Addr) : Prop where
  gen : ∃ fp wr G St, WalksS C.prog C.w A.in4 g fp wr (GenOnlyQ G) items.length (fun j y => ∃ p, items[j]? = some p ∧ Scal (f p) y) St ∧ St 0 s₅ ∧ (∀ i s', St i s' → s'.TypeIs (.ref g) "generator") ∧ g ∈ fp ∧ (∀ b ∈ fp, b ≤ g) ∧ ∀ b ∈ wr, s.heap.objs.size ≤ b
  keep : ∀ b o, b ≠ P → s.heap.get? b = some o → s₅.heap.get? b = some o
  live : ∀ b o, s.heap.get? b = some o → ∃ o', s₅.heap.get? b = some o'
  tab : TabOk s₅.heap
  shape : ∃ h gs t, s₅ = { s with heap := h, gens := gs, toks := t } ∧ (AllBare s.gens → AllBare gs)

theorem seq_not_fields {o : Obj} {vs : Array Value} (hd : o.data = .fields vs) : ¬ SeqObj o := fun ⟨_, xs, k, d⟩ => by rw [hd] at d; cases d

theorem passing_all (n : Nat) : passing (fun _ => true) n 0 = List.range n := by
  unfold passing; simp

theorem gen_acc {c P : Addr} (K : CodeOf c P) {iter elt : Expr} {xa xb : Str} {pa pb pt pos : Pos} {kt : Nat} {scope : Scope} {a d : Addr} {k : Int} {items : List (Str × Str)} {f : Str × Str → AV} (Ok : ClsOk C.frag) {env : Env} {A : Around} {s : Shared} {Q : Value → Shared → Prop}
    (Eo : EnvOk names env) (R : Lvl (n + 1) A) (Pp : Pg C s.heap) (M : MuOk s.heap [(a, .acc d k items)]) (hcode : env.code = .ref c) (hit : wpAny (model C.prog C.w) A (eval iter env) (fun r s' => r = .ref a ∧ s' = s) bot s)
    (hco : scope.isCoroutine = false) (hclos : closureFor scope env = pure []) (hcell : ∀ y ∈ scope.names, y.2 ≠ .cell) (h0 : scope.names.lookup (".0" : Str) = some NameKind.local) (hxa : scope.names.lookup xa = some .local) (hxb : scope.names.lookup xb = some .local) (hab : xa ≠ xb) (hkind : scope.kind = .function)
    (hf : ∀ p, ScalAV (f p)) (helt : ∀ p ∈ items, QE C n scope.names [(xa, false), (xb, false)] [some (.str p.1), some (.str p.2)] elt (f p)) (hs : ∀ x, genFold iter env x = pure x)
    (hQ : ∀ g s₅, GenStand C A P items f s s₅ g → Q (.ref g) s₅) :
    wpAny (model C.prog C.w) A (eval (.GeneratorExp elt [⟨.Tuple [.Name xa pa, .Name xb pb] kt pt, iter, [], 0⟩] scope pos) env) Q bot s := by
  obtain ⟨⟨vs, ep, e1, rv⟩, hdict⟩ := M.at' _ (.head _)
  obtain ⟨Ts, vals, hTs⟩ := pairs_at rv
  have hlen : vs.length = items.length := by rw [← rv.length, List.length_map]
  have hroom : A.depth < recursionLimit := R.room
  refine wpAny_GeneratorExp_walksQTD R.hd hco hclos hcell h0 hxa hxb hab hkind hroom (wp_post hit fun xv s₁ ⟨e, es⟩ => ?_) hs
  subst e; subst es
  refine iter_acc Pp.fr Ok e1 rfl ?_
  have hlt : a < s₁.heap.objs.size := Heap.lt_size e1
  have k2 := Kp.push s₁ { cls := .type "list_iterator", data := .fields #[.ref a, .int 0 0] }
  have P2 := Pp.keeps k2.heap
  have hI : (s₁.heap.push { cls := .type "list_iterator", data := .fields #[.ref a, .int 0 0] }).IsListIter s₁.heap.objs.size a 0 := ⟨_, Heap.get?_push_size _ rfl, rfl, rfl⟩
  refine ⟨P2.lim, ?_⟩
  obtain ⟨ps, hps⟩ := K.fwd _ P2.tab
  refine genCode hcode hps fun code h' tk ps' hext hps' => ?_
  have hP171 : P < 170 := by
    have : ∀ c ∈ tabs, c < 170 := by decide
    exact this _ K.tab
  have tab' : TabOk h' := K.back _ _ _ P2.tab (fun b o hb e => hext b o hb e) hps'
  have P3 : Pg C h' := P2.stepT (fun b o lb e => hext b o (fun h => lb.2 (h ▸ K.tab)) e) tab'
  obtain ⟨mg, bm, ob, bmod, _⟩ := P3.bm
  refine wpAny_builtinsFor (by rw [Eo.globals]; exact bmod.ns) bmod.name bmod.ne bmod.obj bmod.cls bmod.dict bmod.data ?_
  have kk3 : ∀ b o, b ≠ P → s₁.heap.get? b = some o → h'.get? b = some o := fun b o hb e => hext b o hb (k2.heap b o e)
  have hIP : s₁.heap.objs.size ≠ P := Nat.ne_of_gt (Nat.lt_of_lt_of_le hP171 Pp.size)
  have hsz3 : s₁.heap.objs.size < h'.objs.size := by
    obtain ⟨o, eo, _⟩ := hI
    exact Heap.lt_size (hext _ o hIP eo)
  have haP : a ≠ P := fun h => absurd (M.low a (mem_muAll (p := (a, .acc d k items)) (.head _))) (by rw [h]; exact Nat.not_le.mpr hP171)
  have tupP : ∀ j, j < items.length → Ts j ≠ P := fun j hj h => by
    obtain ⟨_, ht, _⟩ := hTs j hj
    obtain ⟨o, eo, co, nn, dd⟩ := ht
    obtain ⟨ps0, hps0⟩ := K.fwd _ Pp.tab
    obtain ⟨⟨_, _, _, _, _, _, _, _, _, op, _, _, _, _, _, _, _, e8, e9, _⟩, _⟩ := hps0
    rw [h, e8] at eo; cases eo
    rw [e9] at dd; cases dd
  have hTlt : ∀ j, j < items.length → Ts j < s₁.heap.objs.size := fun j hj => by
    obtain ⟨_, ⟨o, eo, _⟩, _⟩ := hTs j hj
    exact Heap.lt_size eo
  have vsz : (List.toArray vs).size = items.length := by rw [List.size_toArray, hlen]
  have Wk : ∀ A' : Around, A'.handled = none → WalksU C.prog C.w A' s₁.heap.objs.size (s₁.heap.objs.size :: a :: (List.range (List.toArray vs).size).map Ts) [s₁.heap.objs.size] (List.toArray vs).size (fun i v => i < (List.toArray vs).size ∧ v = vals i) _ _ := fun A' hA =>
    (walksU_pairs hA s₁.heap.objs.size a (Nat.ne_of_lt hlt) (List.toArray vs) Ts vals (fun j hj => by rw [List.getElem?_toArray]; exact (hTs j (vsz ▸ hj)).1) fun j hj => Nat.ne_of_lt (hTlt j (vsz ▸ hj))).bound
  refine ⟨s₁.heap.objs.size, _, _, _, _, _, _, fun _ => true, (fun i y => ∃ p, items[i]? = some p ∧ Scal (f p) y), rfl, Wk, fun i va ⟨hi, e⟩ => ?_, ⟨?_, ?_, fun j hj => ?_⟩, fun b hb => ?_, P3.lim, ?_, fun href hhref => ⟨?_, ?_⟩, fun g h₅ tk5 gs hgb hag hsz₅ hk₅ W hat => ?_⟩
  · obtain ⟨_, _, t, u, e2⟩ := hTs i (vsz ▸ hi)
    exact ⟨_, _, e.trans e2⟩
  · obtain ⟨o, eo, r⟩ := hI
    exact ⟨o, hext _ o hIP eo, r⟩
  · exact ⟨_, _, kk3 _ _ haP e1, rfl⟩
  · obtain ⟨_, ⟨o, eo, r⟩, _⟩ := hTs j (vsz ▸ hj)
    exact ⟨o, kk3 _ o (tupP j (vsz ▸ hj)) eo, r⟩
  · rcases List.mem_cons.mp hb with rfl | hb
    · exact hsz3
    · rcases List.mem_cons.mp hb with rfl | hb
      · exact Nat.lt_trans hlt hsz3
      · obtain ⟨j, hj, rfl⟩ := List.mem_map.mp hb
        exact Nat.lt_trans (hTlt j (vsz ▸ List.mem_range.mp hj)) hsz3
  · intro hm
    rcases List.mem_cons.mp hm with e | hm
    · have hc : cStatics < s₁.heap.objs.size := let ⟨_, hn, _⟩ := Pp.lim; hn.lt
      exact absurd (e ▸ hc) (Nat.lt_irrefl _)
    · cases hm
  · intro A' E' i va vb s₂ m₂ _ _ _ _ _ _ _ _
    exact wpAny_tests_nil ⟨rfl, (Kp.rfl' s₂).keeps⟩
  · intro A' E' i va vb s₂ m₂ hA hD hU hPt _ hn hma hmb hold
    obtain ⟨hi, hv⟩ := hPt
    have hi' : i < items.length := vsz ▸ hi
    obtain ⟨_, _, t, u, e2⟩ := hTs i hi'
    have e3 := hv.trans e2
    have e4 : va = .str items[i].1 t ∧ vb = .str items[i].2 u := by
      have := congrArg Array.toList e3
      simpa using this
    have low : ∀ b o, b < 170 → h'.get? b = some o → s₂.heap.get? b = some o := fun b o hb e =>
      hold b (List.mem_range.mpr (Heap.lt_size e)) (fun hm => by
        rcases List.mem_cons.mp hm with e' | hm
        · exact absurd hb (by rw [e']; exact Nat.not_lt.mpr Pp.size)
        · cases hm) o (hhref b o e)
    have P4 : Pg C s₂.heap := P3.step low
    have E4 : EnvOk scope.names (genEnv scope [] h'.objs.size code builtinsNs env) := ⟨hkind, rfl, Eo.globals, rfl⟩
    have R4 : Lvl n A' := ⟨hA, by have := R.2.1; (first | lia | omega), by have := R.2.2; (first | lia | omega)⟩
    have L4 : Loc s₂.heap (genEnv scope [] h'.objs.size code builtinsNs env) [(xa, false), (xb, false)] [some (.str items[i].1), some (.str items[i].2)] := fun j x cc v h1 h2 => by
      match j, h1, h2 with
      | 0, h1, h2 =>
        simp at h1 h2
        obtain ⟨rfl, rfl⟩ := h1
        subst h2
        exact ⟨va, ⟨hxa, m₂, hn, hma⟩, by rw [e4.1]; exact .str _ _⟩
      | 1, h1, h2 =>
        simp at h1 h2
        obtain ⟨rfl, rfl⟩ := h1
        subst h2
        exact ⟨vb, ⟨hxb, m₂, hn, hmb⟩, by rw [e4.2]; exact .str _ _⟩
      | j + 2, h1, h2 => simp at h1
    exact wpAny_mono ((helt items[i] (List.getElem_mem hi')).run _ A' s₂ E4 R4 P4 L4) (fun y s₃ ⟨r, k3⟩ => ⟨⟨_, List.getElem?_eq_getElem hi', (hf _).scal r⟩, k3.keeps⟩) fun _ _ x => x.elim
  · have hpass : passing (fun _ => true) (List.toArray vs).size 0 = List.range items.length := by rw [passing_all, vsz]
    rw [hpass, List.length_range] at W
    refine hQ g _ ⟨⟨_, _, _, _, WalksS.imp W fun j y hy => ?_, hat, fun i s' st => st.1.typeIs, List.mem_cons_self, fun b hb => ?_, fun b hb => ?_⟩, fun b o hb e => hk₅ b o (kk3 b o hb e), fun b o e => ?_, ?_, ⟨_, _, _, rfl, fun x => x.push hgb⟩⟩
    · obtain ⟨i, hi, h3⟩ := hy
      have hj : j < items.length := by
        have := (List.getElem?_eq_some_iff.mp hi).1
        simpa using this
      have : i = j := by simpa [hj] using hi.symm
      subst this
      exact h3
    · rcases List.mem_cons.mp hb with rfl | hb
      · exact Nat.le_refl _
      · rcases List.mem_cons.mp hb with rfl | hb
        · exact Nat.le_of_lt hag
        · exact Nat.le_of_lt (Nat.lt_trans (List.mem_range.mp hb) hag)
    · rcases List.mem_cons.mp hb with rfl | hb
      · exact Nat.le_of_lt hsz3
      · rcases List.mem_cons.mp hb with rfl | hb
        · exact Nat.le_refl _
        · cases hb
    · by_cases hb : b = P
      · subst hb
        obtain ⟨⟨_, _, _, _, _, _, _, _, _, op, _, _, _, _, _, _, _, e8, _⟩, _⟩ := hps'
        exact ⟨op, hk₅ _ _ e8⟩
      · exact ⟨o, hk₅ b o (kk3 b o hb e)⟩
    · exact tab'.step fun b o _ e => hk₅ b o e
end
end Mine
end

noncomputable section
open PySem PySem.Calls PyProof.Rows PySem.W PySem.Flt PySem.SeqAt
set_option Elab.async false
set_option linter.unusedVariables false
set_option maxRecDepth 100000
namespace Mine
section
variable {C : Cx} {n : Nat} {names : List (Str × NameKind)} {vars : Vars} {σ : List (Option AV)}
theorem rel_str {h : Heap} {x : Str} {r : Value} (y : Rel h (.str x) r) : ∃ t, r = .str x t := y.str_ex
/-- nothing old is touched but the table at P -/
structure Qt (P : Addr) (s s' : Shared) : Prop where
  keep : ∀ b o, b ≠ P → s.heap.get? b = some o → s'.heap.get? b = some o
  live : ∀ b o, s.heap.get? b = some o → ∃ o', s'.heap.get? b = some o'
  tab : TabOk s'.heap
  shape : ∃ h gs t, s' = { s with heap := h, gens := gs, toks := t } ∧ (AllBare s.gens → AllBare gs)
theorem Qt.of_kp {P : Addr} {s s' : Shared} (k : Kp s s') (t : TabOk s'.heap) : Qt P s s' :=
  ⟨fun b o _ e => k.heap b o e, fun b o e => ⟨o, k.heap b o e⟩, t, let ⟨h, tk, e, _⟩ := k.keeps; ⟨h, s.gens, tk, e, id⟩⟩
theorem Qt.trans {P : Addr} {s s' s'' : Shared} (a : Qt P s s') (b : Qt P s' s'') : Qt P s s'' :=
  ⟨fun c o hc e => b.keep c o hc (a.keep c o hc e), fun c o e => let ⟨o', e'⟩ := a.live c o e; b.live c o' e', b.tab, by
    obtain ⟨h, g, t, rfl, x⟩ := a.shape
    obtain ⟨h', g', t', rfl, x'⟩ := b.shape
    exact ⟨h', g', t', rfl, fun y => x' (x y)⟩⟩
theorem GenStand.qt {A : Around} {P : Addr} {items : List (Str × Str)} {f : Str × Str → AV} {s s₅ : Shared} {g : Addr} (x : GenStand C A P items f s s₅ g) : Qt P s s₅ := ⟨x.keep, x.live, x.tab, x.shape⟩
theorem Qt.moved {P : Addr} {s₁ s s' : Shared} {wr : List Addr} {G : Nat} (q : Qt P s₁ s) (hP : P < 170) (hs : 170 ≤ s₁.heap.objs.size) (m : Moved wr (GenOnlyQ G) s s') (hw : ∀ b ∈ wr, s₁.heap.objs.size ≤ b) : Qt P s₁ s' := by
  have old : ∀ b o, s₁.heap.get? b = some o → b ∉ wr := fun b o e hb => absurd (Heap.lt_size e) (Nat.not_lt.mpr (hw b hb))
  refine ⟨fun b o hb e => m.heap b o (old b o e) (q.keep b o hb e), fun b o e => ?_, ?_, ?_⟩
  · obtain ⟨o', e'⟩ := q.live b o e
    exact ⟨o', m.heap b o' (old b o e) e'⟩
  · exact q.tab.step fun b o hb e => m.heap b o (fun hw' => absurd (Nat.lt_of_lt_of_le hb hs) (Nat.not_lt.mpr (hw b hw'))) e
  · obtain ⟨h, g, t, rfl, x⟩ := q.shape
    refine ⟨s'.heap, s'.gens, s'.toks, ?_, fun y => m.gens.bare (x y)⟩
    obtain ⟨h', g', d', t', o'⟩ := s'
    have e1 := m.drawn
    have e2 := m.os
    dsimp only at e1 e2
    subst e1; subst e2; rfl
theorem tab_notSeq {h : Heap} (t : TabOk h) {P : Addr} (hP : P ∈ tabs) : ∀ o, h.get? P = some o → ¬ SeqObj o := fun o e => by
  have key : ∀ c ps, Tb h c P ps → ¬ SeqObj o := fun c ps ⟨x, _⟩ => by
    obtain ⟨_, _, _, _, _, _, _, _, _, op, _, _, _, _, _, _, _, e8, e9, _⟩ := x
    rw [e] at e8; cases e8
    exact seq_not_fields e9
  rcases List.mem_cons.mp hP with rfl | hP
  · obtain ⟨ps, x⟩ := t.1; exact key _ _ x
  · rcases List.mem_cons.mp hP with rfl | hP
    · obtain ⟨ps, x⟩ := t.2; exact key _ _ x
    · cases hP
theorem Qt.seq {P : Addr} {s s' : Shared} (q : Qt P s s') (hP : P ∈ tabs) (t : TabOk s.heap) : SeqKeep s.heap s'.heap := fun b o so e => q.keep b o (fun h => by subst h; exact tab_notSeq t hP o e so) e
theorem tab_lt {P : Addr} (hP : P ∈ tabs) : P < 170 := by
  have : ∀ c ∈ tabs, c < 170 := by decide
  exact this _ hP
theorem MuOk.qt {P : Addr} {s s' : Shared} {μ : Mu} (M : MuOk s.heap μ) (q : Qt P s s') (hP : P ∈ tabs) (t : TabOk s.heap) : MuOk s'.heap μ := M.mono fun b o hb e => by
  rcases hb with hb | hb
  · exact q.keep b o (fun h => absurd (M.low b hb) (by rw [h]; exact Nat.not_le.mpr (tab_lt hP))) e
  · exact q.seq hP t b o hb e
theorem Qt.aft {P : Addr} {s s' : Shared} {a : Addr} {m : MO} (q : Qt P s s') (hP : P ∈ tabs) (t : TabOk s.heap) (M : MuOk s.heap [(a, m)]) : Aft a m m s s' :=
  ⟨M.qt q hP t, ⟨fun b o hb e => q.keep b o (fun h => hb (.inr ⟨rfl, h ▸ hP⟩)) e, q.live, fun _ => q.seq hP t, by simpa using q.shape⟩, q.tab⟩
theorem Pg.qt {P : Addr} {s s' : Shared} (x : Pg C s.heap) (q : Qt P s s') (hP : P ∈ tabs) : Pg C s'.heap := x.stepT (fun b o lb e => q.keep b o (fun h => lb.2 (h ▸ hP)) e) q.tab

/-- what the dict of a thing holds, read off: its class has list's own __getattribute__ -/
theorem acc_value {prog : Program} {w : World} {A : Around} {E : Value → Shared → Prop} {s : Shared} {K : Frag} {x : Addr} {ox : Obj} {od : Option Obj} {name : Str} {expr : Bool} {Q : Value → Shared → Prop} {v : Value} (X : K.In s.heap) (I : InstAt s.heap x ox 101 od) (Ok : ClsOk K)
    (hf : findObj K 101 od name = some (.value v)) (hh : handedIn v = true) (h : Q v { s with toks := s.toks + 1 }) : wpAny (model prog w) A (getAttr (.ref x) name expr) Q E s := by
  obtain ⟨hp, g, d, t, os⟩ := s
  have L0 := I.type (M := model prog w)
  have L1 := looks_findIn (M := model prog w) X Ok.ga
  have L2 := looks_findIn (M := model prog w) X Ok.ghook
  have L3 := looks_find (M := model prog w) X I hf
  unfold getAttr getAttrBy
  refine wpAny_bind (wpAny_mkText (wpAny_holding (wpAny_bind (L0.at (wpAny_bind (L1.at ?_))))))
  have hne : (onTheHeap (Value.ref 101) && (Value.builtin "list.__getattribute__" : Value) == Value.builtin "object.__getattribute__") = false := by decide +kernel
  show wpAny _ _ (if (onTheHeap (Value.ref 101) && (Value.builtin "list.__getattribute__" : Value) == Value.builtin "object.__getattribute__") = true then _ else _) _ _ _
  rw [hne, if_neg (by decide)]
  unfold getAttrByItsOwn hookBefore callGetattribute boundAndCalled
  show wpAny _ _ (typeLookup (.ref 101) "__getattr__" >>= _) _ _ _
  refine wpAny_bind (L2.at ?_)
  have hoff : (expr && onTheHeap (Value.builtin "list.__getattribute__")) = false := by
    have : onTheHeap (Value.builtin "list.__getattribute__") = false := rfl
    rw [this, Bool.and_false]
  rw [hoff, if_neg (by decide)]
  refine wpAny_bind (wpAny_attempt (wpAny_holding ?_))
  refine wpAny_bind (wpAny_of_eq (F.slot_list_getattribute.bind _) ?_)
  refine wpAny_mono (Q := fun r s' => r = v ∧ s' = ⟨hp, g, d, t + 1, os⟩) (E := fun _ _ => False) (call_on (self := .ref x) (rest := [.str name t]) (by decide +kernel) am_entry_list_getattribute (by decide +kernel : builtinKind "list.__getattribute__" = some .slot) (.inr rfl) (by decide +kernel : splitId "list.__getattribute__" = some ("list", "__getattribute__")) (inst_list X Ok I.at_ I.cls) (F.args_list_getattribute_2 _ _) ?_) (fun r s' hr => ?_) fun _ _ z => z.elim
  · unfold Builtin.«object.__getattribute__»
    refine wpAny_bind (wpAny_of_eq (a := (Value.ref x, [Value.str name t])) (by rfl) ?_)
    refine wpAny_bind (wpAny_of_eq (a := name) (by rfl) (wpAny_bind (L0.at (wpAny_bind (L3.at ?_)))))
    exact wpAny_pure ⟨rfl, rfl⟩
  · obtain ⟨rfl, rfl⟩ := hr
    show wpAny _ _ (handedOut r) _ _ _
    rw [handedOut_of hh]; exact wpAny_pure h
/-- self._initial_size -/
theorem size_eval {env : Env} {a d : Addr} {k : Int} {items : List (Str × Str)} {o : Expr} {pos : Pos} (Ok : ClsOk C.frag) {A : Around} {s : Shared} (Eo : EnvOk names env) (R : Lvl n A) (P : Pg C s.heap) (M : MuOk s.heap [(a, .acc d k items)])
    (L : Loc s.heap env vars σ) (ho : QE C n names vars σ o (.acc a)) (hbase : attributeBase o "_initial_size" env (eval o env) = eval o env) (ht : ∀ x r, letTemporaryGo o x r = pure ()) :
    wpAny (model C.prog C.w) A (eval (.Attribute o "_initial_size" pos) env) (fun r s' => (∃ tk, r = .int k tk) ∧ Kp s s') bot s := by
  rw [arm_eval_Attribute, hbase]
  refine wpAny_bind (wp_post (ho.run env A s Eo R P L) fun ov s₁ ⟨r1, k1⟩ => ?_)
  obtain rfl := r1.acc_eq
  have P1 := P.keeps k1.heap
  have M1 : MuOk s₁.heap [(a, .acc d k items)] := M.mono fun b o _ e => k1.heap b o e
  obtain ⟨⟨vs', ep, e1, _⟩, hs, kt, tk, ep', e2⟩ := M1.at' (a, .acc d k items) (.head _)
  have I : InstAt s₁.heap a _ 101 (some { cls := .type "dict", data := .dict #[⟨hs, .str "_initial_size" kt, .int k tk⟩] ep' }) := ⟨e1, rfl, rfl, e2⟩
  obtain ⟨cd, hcd, hdi⟩ := Option.map_eq_some_iff.mp Ok.hasDict
  have hfind : findObj C.frag 101 (some { cls := .type "dict", data := .dict #[⟨hs, .str "_initial_size" kt, .int k tk⟩] ep' }) "_initial_size" = some (.value (.int k tk)) := by
    unfold findObj
    rw [hcd, Ok.nosize]
    unfold PySem.W.ownOf lookIn
    rw [Option.bind_some, Option.bind_some]
    dsimp only
    rw [Option.bind_some, Option.bind_some]
    dsimp only
    rw [hdi]
    simp [Value.isStr]
  refine wpAny_bind (wpAny_standAt ?_)
  refine wpAny_bind (wpAny_holding (acc_value P1.fr I Ok hfind rfl ?_))
  rw [ht]
  exact wpAny_bind (wpAny_pure (wpAny_pure ⟨⟨tk, rfl⟩, k1.trans' (Kp.tok _ _)⟩))
/-- join upon a tuple of two -/
theorem mJoinT {x : Str} {y z : Str} (h : x.length ≤ 1000 ∧ y.length ≤ 1000 ∧ z.length ≤ 1000) : Meth1 C "join" (.str x) (.tup [.str y, .str z]) (.str (Txt.join x [y, z])) := fun A s v pos t r ht => by
  obtain ⟨t0, rfl⟩ := r.str_ex
  refine ⟨"str", _, F.plainAttrs_str, F.slot_str_join, F.type_str_join, typeIs_str _ _ _, (fun _ e => nomatch e), ?_⟩
  refine callWith_builtin rfl (evalArgs_plain (Calls.spliced_cons (wp_post ht fun w s₁ ⟨r, k⟩ => Calls.spliced_nil ?_)))
  obtain ⟨q, ws, rfl, hq, rq⟩ := r.tup_inv
  obtain ⟨x1, x2, rfl, r1, r2⟩ := rq.two_ex
  obtain ⟨t1, rfl⟩ := r1.str_ex
  obtain ⟨t2, rfl⟩ := r2.str_ex
  refine join_tuple (ys := [y, z]) hq (.cons _ _ (.cons _ _ .nil)) (by simp; (first | lia | omega)) fun t' k' => ⟨.str _ _, k.trans' (Kp.tok s₁ _)⟩
theorem QE.joinT {o e : Expr} {apos pos : Pos} {x y z : Str} (h : x.length ≤ 1000 ∧ y.length ≤ 1000 ∧ z.length ≤ 1000) (ho : QE C n names vars σ o (.str x)) (he : QE C n names vars σ e (.tup [.str y, .str z])) (hbase : ∀ env, attributeBase o "join" env (eval o env) = eval o env) (hline : (apos.endLine == pos.line) = true)
    (hs : ∀ env, starEach [e] env = [(false, eval e env)]) : QE C n names vars σ (.Call (.Attribute o "join" apos) [e] [] pos) (.str (Txt.join x [y, z])) := by
  have hm : Meth1 C "join" (.str x) (.tup [.str y, .str z]) (.str (Txt.join x [y, z])) := mJoinT h
  exact QE.meth1 ho he hm hbase hline hs
/-- sum upon a generator of ints, with a start -/
theorem sum_stand {A : Around} {P : Addr} {items : List (Str × Str)} {f : Str × Str → Int} {s s₅ s₆ : Shared} {g : Addr} {k : Int} {tk : Tok} (hk : k = 0 ∨ k = 2) (x : GenStand C A P items (fun p => .int (f p)) s s₅ g) (k6 : Kp s₅ s₆) (ht : s₅.toks ≤ s₆.toks) (hP : P < 170) (hs : 170 ≤ s.heap.objs.size)
    (hfit : ∀ p ∈ items, 0 ≤ f p ∧ f p ≤ 1000) (hlen : items.length ≤ 500) (t6 : TabOk s₆.heap) :
    wpAny (model C.prog C.w) A (call (.builtin "sum") [.ref g, .int k tk]) (fun r s' => (∃ u, r = .int (k + (items.map f).sum) u) ∧ Qt P s s') bot s₆ := by
  obtain ⟨fp, wr, G, St, W, hst, hT, hg, hfp, hwr⟩ := x.gen
  have W1 := W.in4_1
  obtain ⟨h6, tk6, rfl, hk6⟩ := k6.keeps
  have hst6 := W1.frame 0 s₅ h6 tk6 hst ht fun b _ o e => hk6 b o e
  have q6 : Qt P s { s₅ with heap := h6, toks := tk6 } := x.qt.trans (.of_kp k6 t6)
  have hval : ∀ i v, (∃ p, items[i]? = some p ∧ Scal (.int (f p)) v) → ∃ t, v = .int ((items.map f).getD i 0) t := fun i v ⟨p, hp, sc⟩ => by
    obtain ⟨t, e⟩ := rel_int (sc {})
    refine ⟨t, ?_⟩
    rw [e, List.getD_eq_getElem?_getD, List.getElem?_map, hp]; rfl
  have hsumv : ∀ j, j ≤ items.length → preSum (fun i => (items.map f).getD i 0) j = ((items.map f).take j).sum := fun j => by
    induction j with
    | zero => intro _; simp [preSum]
    | succ j ih =>
      intro hj
      have hlt : j < (items.map f).length := by rw [List.length_map]; (first | lia | omega)
      show preSum _ j + (items.map f).getD j 0 = _
      rw [ih (by (first | lia | omega)), List.take_add_one, List.getElem?_eq_getElem hlt, List.sum_append, List.getD_eq_getElem?_getD, List.getElem?_eq_getElem hlt]
      simp
  have bnd : ∀ (l : List Int), (∀ v ∈ l, 0 ≤ v ∧ v ≤ 1000) → 0 ≤ l.sum ∧ l.sum ≤ 1000 * l.length := fun l => by
    induction l with
    | nil => intro _; simp
    | cons v l ih =>
      intro h
      have h1 := h v (.head _)
      have h2 := ih fun u hu => h u (.tail _ hu)
      simp only [List.sum_cons, List.length_cons]
      (first | lia | omega)
  have hmem : ∀ v ∈ items.map f, 0 ≤ v ∧ v ≤ 1000 := fun v hv => by
    obtain ⟨p, hp, rfl⟩ := List.mem_map.mp hv
    exact hfit p hp
  have hin : ∀ i : Int, -1000 ≤ i → i ≤ 1000000 → InLong i := fun i h1 h2 => ⟨by (first | lia | omega), by (first | lia | omega)⟩
  refine call_sum_start hk (W1.self 0 _ _ _ hst6 ⟨g, fp, wr, GenOnlyQ G, items.length, _, St, fun i => (items.map f).getD i 0, rfl, W1, hst6, fun b hb => ?_, hval, fun j hj => ?_, fun s' t' hm => ?_⟩)
  · obtain ⟨o, e, _⟩ := hT 0 _ hst6
    exact Nat.lt_of_le_of_lt (hfp b hb) (Heap.lt_size e)
  · cases j with
    | zero =>
      have e1 : preSum (shiftVal k fun i => (items.map f).getD i 0) (0 + 1) = k := by simp [preSum, shiftVal]
      refine ⟨?_, ?_⟩
      · show InLong k
        exact hin k (by (first | lia | omega)) (by (first | lia | omega))
      · rw [e1]; exact hin k (by (first | lia | omega)) (by (first | lia | omega))
    | succ j =>
      have hj' : j < items.length := by (first | lia | omega)
      have hlt : j < (items.map f).length := by rw [List.length_map]; exact hj'
      refine ⟨?_, ?_⟩
      · show InLong ((items.map f).getD j 0)
        rw [List.getD_eq_getElem?_getD, List.getElem?_eq_getElem hlt]
        have := hmem _ (List.getElem_mem hlt)
        simp only [Option.getD_some]
        exact hin _ (by (first | lia | omega)) (by (first | lia | omega))
      · rw [preSum_shift, hsumv (j + 1) (by (first | lia | omega))]
        have h1 := bnd ((items.map f).take (j + 1)) fun v hv => hmem v (List.mem_of_mem_take hv)
        have h2 : ((items.map f).take (j + 1)).length ≤ 500 := by rw [List.length_take, List.length_map]; (first | lia | omega)
        exact hin _ (by (first | lia | omega)) (by (first | lia | omega))
  · refine ⟨⟨t', ?_⟩, q6.moved hP hs hm hwr⟩
    rw [hsumv _ (Nat.le_refl _), List.take_of_length_le (by simp)]
/-- join upon a generator of strs -/
theorem join_stand {A : Around} {P : Addr} {items : List (Str × Str)} {f : Str × Str → Str} {s s₅ : Shared} {g : Addr} {x : Str} {tk : Tok} (y : GenStand C A P items (fun p => .str (f p)) s s₅ g) (hP : P < 170) (hs : 170 ≤ s.heap.objs.size) (hok : JoinOk x (items.map f) = true) (hlen : items.length ≤ 500) :
    wpAny (model C.prog C.w) A (call (.builtin "str.join") [.str x tk, .ref g]) (fun r s' => (∃ u, r = .str (Txt.join x (items.map f)) u) ∧ Qt P s s') bot s₅ := by
  obtain ⟨fp, wr, G, St, W, hst, hT, hg, hfp, hwr⟩ := y.gen
  have W2 := W.in4_2
  have hlt : ∀ b ∈ fp, b < s₅.heap.objs.size := fun b hb => by
    obtain ⟨o, e, _⟩ := hT 0 _ hst
    exact Nat.lt_of_le_of_lt (hfp b hb) (Heap.lt_size e)
  refine SC.joinGen W2 hT hst hlt hg (fun j v ⟨p, hp, sc⟩ => ?_) (fun s' lt hm hacc => ?_) (Nat.le_trans hlen (by decide))
  · cases sc {} with
    | str z t => exact ⟨_, _, rfl⟩
  have hsz : lt.length = items.length := by simpa [strValues] using hacc.1
  have hl : lt.map (·.1) = items.map f := by
    apply List.ext_getElem?
    intro j
    by_cases hj : j < items.length
    · have hj' : j < lt.length := hsz ▸ hj
      obtain ⟨p, hp, sc⟩ := hacc.2 j (.str lt[j].1 lt[j].2) (by simp [strValues, List.getElem?_eq_getElem hj'])
      have e1 : f p = lt[j].1 := by
        obtain ⟨u, eu⟩ := rel_str (sc {})
        injection eu with e1 _
        exact e1.symm
      rw [List.getElem?_map, List.getElem?_map, List.getElem?_eq_getElem hj', hp]
      simp [e1]
    · rw [List.getElem?_eq_none (by simp; (first | lia | omega)), List.getElem?_eq_none (by simp; (first | lia | omega))]
  rw [hl]
  refine ⟨hok, fun t' k => ⟨⟨t', rfl⟩, ?_⟩⟩
  have q := y.qt.moved hP hs hm hwr
  exact q.trans (.of_kp (Kp.tok s' k) q.tab)
end
end Mine
end

noncomputable section
open PySem PySem.Calls PyProof.Rows PySem.W PySem.Flt PySem.SeqAt
set_option Elab.async false
set_option linter.unusedVariables false
set_option maxRecDepth 100000
namespace Mine
theorem Lvl.in1 {n : Nat} {A : Around} (x : Lvl n A) : A.in1.handled = none ∧ A.in1.depth = A.depth ∧ A.in1.units ≤ A.units + 2 := ⟨x.1, rfl, by
  show _ ≤ _
  first | exact Nat.le_refl _ | exact Nat.le_succ _ | exact Nat.le_add_right _ _ | (first | lia | omega)⟩
theorem Lvl.in1' {n : Nat} {A : Around} (x : Lvl (n + 1) A) : Lvl n A.in1 := by
  obtain ⟨h1, h2, h3⟩ := x.in1
  exact ⟨h1, by have := x.2.1; (first | lia | omega), by have := x.2.2; (first | lia | omega)⟩
theorem Lvl.in2' {n : Nat} {A : Around} (x : Lvl (n + 1) A) : Lvl n A.in1.in1 := by
  obtain ⟨h1, h2, h3⟩ := x.in1
  refine ⟨h1, by have := x.2.1; show A.depth + _ + _ < _; (first | lia | omega), ?_⟩
  have := x.2.2
  have h4 : A.in1.in1.units ≤ A.in1.units + 2 := by
    show _ ≤ _
    first | exact Nat.le_refl _ | exact Nat.le_succ _ | exact Nat.le_add_right _ _ | (first | lia | omega)
  (first | lia | omega)
section
variable {C : Cx} {n : Nat} {names : List (Str × NameKind)} {vars : Vars} {σ : List (Option AV)}
/-- a built-in that asks a thing by one of its methods -/
theorem XE.ask {f : Value} {x : Str} {p pos : Pos} {o : Expr} {l r : Mu} {a d : Addr} {k : Int} {items : List (Str × Str)} {v : AV} (hk : names.lookup x = some .globalImplicit) (hg : (x, GV.none) ∈ C.globs) (hb : (x, f) ∈ C.blts) (ho : QE C n names vars σ o (.acc a))
    (hw : ∀ {env : Env} {A : Around} {s : Shared} {Q : Value → Shared → Prop}, wpAny (model C.prog C.w) A (spliced (backTo pos (starEach [o] env))) (fun vs s₁ => wpAny (model C.prog C.w) A (call f vs) Q bot s₁) bot s → wpAny (model C.prog C.w) A (callWith pos f [] (backTo pos (starEach [o] env)) []) Q bot s)
    (hc : ∀ (A : Around) (s : Shared), Lvl n A → Pg C s.heap → MuOk s.heap [(a, .acc d k items)] → wpAny (model C.prog C.w) A (call f [.ref a]) (fun r s' => Rel s'.heap v r ∧ Aft a (.acc d k items) (.acc d k items) s s') bot s)
    (hd : (x == ("__debug__" : Str)) = false := by decide +kernel) (hs : ∀ env, starEach [o] env = [(false, eval o env)] := by intro _; rfl) :
    XE C n names vars false σ (l ++ (a, .acc d k items) :: r) (.Call (.Name x p) [o] [] pos) v (l ++ (a, .acc d k items) :: r) := .mk fun env A s R F => by
  refine wpAny_Call_NameR (wpAny_Name (load_blt F.ok F.pg hk hg hb ?_) hd)
  refine hw (spliced_more (wp_post (ho.run env A s F.ok R F.pg F.loc) fun ov s₁ ⟨r1, k1⟩ => ?_) (hs env))
  obtain rfl := r1.acc_eq
  have F1 := F.kp k1
  refine spliced_none ?_
  refine wp_post (hc A s₁ R F1.pg F1.mu.focus) fun y s₃ ⟨r3, Z3⟩ => ?_
  obtain ⟨F3, N3⟩ := F1.meth (m' := .acc d k items) rfl Z3
  exact ⟨r3, F3, (Nxt.of k1.stp).trans N3⟩
theorem inst_at {h : Heap} {a d : Addr} {k : Int} {items : List (Str × Str)} (M : MuOk h [(a, .acc d k items)]) : ∃ ox od, InstAt h a ox 101 (some od) := by
  obtain ⟨⟨vs', ep, e1, _⟩, hs, kt, tk, ep', e2⟩ := M.at' (a, .acc d k items) (.head _)
  exact ⟨_, _, e1, rfl, rfl, e2⟩
theorem aft_tok {a : Addr} {m m' : MO} {s s' : Shared} {t : Nat} (x : Aft a m m' s s') : Aft a m m' s { s' with toks := t } :=
  ⟨x.mu, ⟨x.stp.keep, x.stp.live, x.stp.seq, by
    have := x.stp.shape
    simp only [Bool.false_eq_true, if_false] at this ⊢
    obtain ⟨h, g, tk, rfl, k⟩ := this
    exact ⟨h, g, t, rfl, k⟩⟩, x.tab⟩
/-- len(x) -/
theorem XE.lenAcc {x : Str} {p pos : Pos} {o : Expr} {l r : Mu} {a d : Addr} {k v : Int} {items : List (Str × Str)} (Ok : ClsOk C.frag) (hk : names.lookup x = some .globalImplicit) (hg : (x, GV.none) ∈ C.globs) (hb : (x, .builtin "len") ∈ C.blts) (ho : QE C (n + 1) names vars σ o (.acc a)) (h0 : 0 ≤ v ∧ v < 1000000)
    (hc : MethC C n (.ref 68) [.ref a] a (.acc d k items) [] (.int v) (.acc d k items)) (hd : (x == ("__debug__" : Str)) = false := by decide +kernel) (hs : ∀ env, starEach [o] env = [(false, eval o env)] := by intro _; rfl) :
    XE C (n + 1) names vars false σ (l ++ (a, .acc d k items) :: r) (.Call (.Name x p) [o] [] pos) (.int v) (l ++ (a, .acc d k items) :: r) :=
  .ask hk hg hb ho (fun h => PyProof.Rows.callWith_builtin1 h (hs _)) (fun A s R P M => by
    obtain ⟨ox, od, I⟩ := inst_at M
    refine Calls.call_function_entry kind_len plain_len entry_len (args_len1 _) ?_
    unfold Builtin.«len»
    refine wpAny_bind (m := oneArg "len" _) (wpAny_pure ?_)
    refine wpAny_bind (m := callSpecial? (.ref a) (Str.ofString "__len__")) (special_fn P.fr I Ok.len (Ok.fns 68 (by decide)) (wp_post (hc A.in1 s [] R.in1' P M .nil) fun r s' ⟨hr, Z⟩ => ?_))
    obtain ⟨t, rfl⟩ := rel_int hr
    refine wpAny_bind (wpAny_holding (wpAny_pure ?_))
    refine wpAny_bind (wpAny_letGo ?_)
    show wpAny _ _ (if v < 0 then _ else _) _ _ _
    rw [if_neg (by (first | lia | omega))]
    show wpAny _ _ (if v ≥ 2 ^ 63 then _ else _) _ _ _
    rw [if_neg (by (first | lia | omega))]
    exact wpAny_bind (wpAny_mkInt (wpAny_pure ⟨_, rfl, .int _ _, aft_tok Z⟩))) hd hs
/-- str(x) -/
theorem XE.strAcc {x : Str} {p pos : Pos} {o : Expr} {l r : Mu} {a d : Addr} {k : Int} {v : Str} {items : List (Str × Str)} (Ok : ClsOk C.frag) (hk : names.lookup x = some .globalImplicit) (hg : (x, GV.none) ∈ C.globs) (hb : (x, .type "str") ∈ C.blts) (ho : QE C (n + 1) names vars σ o (.acc a))
    (hc : MethC C n (.ref 75) [.ref a] a (.acc d k items) [] (.str v) (.acc d k items)) (hd : (x == ("__debug__" : Str)) = false := by decide +kernel) (hs : ∀ env, starEach [o] env = [(false, eval o env)] := by intro _; rfl) :
    XE C (n + 1) names vars false σ (l ++ (a, .acc d k items) :: r) (.Call (.Name x p) [o] [] pos) (.str v) (l ++ (a, .acc d k items) :: r) :=
  .ask hk hg hb ho (fun h => PyProof.Rows.callWith_type1 h (hs _)) (fun A s R P M => by
    obtain ⟨ox, od, I⟩ := inst_at M
    have R2 : Lvl n A.in1.in1 := R.in2'
    refine kso_call R2.units P.fr I Ok.str (beq_iff_eq.mpr (Ok.fns 75 (by decide))) (wp_post (hc A.in1.in1 s [] R2 P M .nil) fun r s' ⟨hr, Z⟩ => ?_)
    obtain ⟨t, rfl⟩ := rel_str hr
    exact ⟨.str _ _, Z⟩) hd hs
end
end Mine
end

noncomputable section
open PySem PySem.Calls PyProof.Rows PySem.W PySem.Flt PySem.SeqAt
set_option Elab.async false
set_option linter.unusedVariables false
set_option maxRecDepth 100000
set_option maxHeartbeats 4000000
namespace Mine
noncomputable abbrev accObj (d : Addr) : Obj := { cls := .ref 101, dict := some d, data := .seq #[] }
/-- how the class makes -/
structure MakesL (M : Model) (h : Heap) : Prop where
  obj : ∃ oc od cd sl, h.get? 101 = some ⟨oc, od, .cls cd, sl⟩ ∧ cd.abstract = false ∧ cd.hasDel = false ∧ cd.mro.isEmpty = false ∧ cd.mro = [.ref 101, .type "list", .type "object"]
  made : Looks M h (Bind.madeBy (.ref 101)) (some "list.__new__")
  base : Looks M h (Bind.staticBase (.ref 101)) (.ref 101)
  self : Looks M h (isSubtype (.ref 101) (.ref 101)) true
  top : Looks M h (isSubtype (.ref 101) (.type "list")) true
  call : Looks M h (specialOf (.ref 101) "__call__") (some (.builtin "type.__call__"))
  typ : Looks M h (isInstance (.ref 101) (.type "type")) true
theorem makesL {K : Frag} {M : Model} {h : Heap} (X : K.In h) (Ok : ClsOk K) : MakesL M h := by
  have e := Ok.slots
  obtain ⟨oc', cd', c1, c2, c3⟩ := Ok.cls
  split at e
  · rename_i oc od cd sl ho
    simp only [Bool.and_eq_true, Bool.not_eq_true', beq_iff_eq] at e
    obtain ⟨⟨e1, e2⟩, e3⟩ := e
    have hcd : cd = cd' := by
      rw [ho] at c1; cases c1
      simpa using c2
    subst hcd
    have e4 : cd.mro.isEmpty = false := by rw [c3]; rfl
    have hc : clsIn K 101 = some cd := by unfold clsIn; rw [ho]
    have hm : Looks M h (mroOf (.ref 101)) cd.mro := (looks_clsIn X hc).andThen .now
    have made : Looks M h (Bind.madeBy (.ref 101)) (some "list.__new__") := by
      intro A Q E s k q
      unfold Bind.madeBy
      refine wpAny_bind (hm A _ E s k ?_)
      rw [c3, List.forIn_cons]
      refine wpAny_bind (wpAny_bind (wpAny_bind (wpAny_bind (wpAny_loadPart (k _ _ (X _ _ ho)) (wpAny_pure ?_)))))
      dsimp only
      rw [← Array.getElem?_toList, e3]
      exact wpAny_pure (wpAny_pure (wpAny_pure q))
    refine ⟨⟨oc, od, cd, sl, X _ _ ho, e1, e2, e4, c3⟩, made, ?_, looks_mroIn X Ok.self, looks_mroIn X Ok.sub, looks_specialIn X Ok.called, looks_instIn X Ok.typ⟩
    intro A Q E s k q
    unfold Bind.staticBase
    refine wpAny_bind (hm A _ E s k ?_)
    rw [c3, List.forIn_cons]
    exact wpAny_bind (wpAny_bind (wpAny_bind (made A _ E s k (wpAny_pure (wpAny_pure (wpAny_pure q))))))
  · cases e
section
variable {prog : Program} {w : World} {A : Around} {R : Result → Shared → Prop} {h : Heap} {g : Array GenState} {d : Drawn} {t : Nat} {os : OsState}
theorem list_new_args (rest : List Value) (hr : rest = [] ∨ ∃ v, rest = [v]) : argsOk "list.__new__" ⟨.ref 101 :: rest, []⟩ := by
  rcases hr with rfl | ⟨v, rfl⟩ <;> (unfold argsOk; kernel_rfl)
theorem new_L {rest : List Value} (hr : rest = [] ∨ ∃ v, rest = [v]) (Y : MakesL (model prog w) h) (hq : R (.ok (.ret (.ref (h.objs.size + 1)))) ⟨(h.push emptyDict).push (accObj h.objs.size), g, d, t, os⟩) :
    codeAny (model prog w) A (.call (.builtin "list.__new__") ⟨.ref 101 :: rest, []⟩) R ⟨h, g, d, t, os⟩ := by
  obtain ⟨⟨oc, od, cd, sl, hC, e1, e2, e4, e5⟩, made, base, self, top, call, typ⟩ := Y
  have isT : Looks (model prog w) h (isType (.ref 101)) true := (Looks.ld hC).andThen .now
  refine codeAny_of_tree ?_
  show wpAny _ A.in1 (do checkBuiltinCall "list.__new__" ⟨.ref 101 :: rest, []⟩; again (.builtin "list.__new__" ⟨.ref 101 :: rest, []⟩)) _ _ _
  refine wpAny_bind ?_
  have ha := list_new_args rest hr
  unfold checkBuiltinCall
  rw [show builtinKind "list.__new__" = some .builtinFn from by decide +kernel, show splitId "list.__new__" = some ("list", "__new__") from by decide +kernel]
  try dsimp only
  rw [if_pos (by decide)]
  with_reducible refine wpAny_bind ?_
  refine isT.at ?_
  rw [if_neg (by decide)]
  with_reducible refine wpAny_bind ?_
  refine top.at ?_
  rw [if_neg (by decide)]
  try dsimp only
  with_reducible refine wpAny_bind ?_
  refine base.at ?_
  with_reducible refine wpAny_bind ?_
  refine made.at ?_
  try dsimp only
  rw [if_neg (by decide +kernel)]
  have tail : wpAny (model prog w) A.in1 (again (.builtin "list.__new__" ⟨.ref 101 :: rest, []⟩)) (fun fin s' => match fin with | .done f => R (.ok f) s' | .again c' => c'.quiet = true ∧ codeAny (model prog w) A c' R s') (fun e s' => R (.error e) s') ⟨h, g, d, t, os⟩ := by
    refine wpAny_pure ⟨plainId_quiet F.plain_list_new _, codeAny_builtin_stack F.entry_list_new rfl fun p st => ?_⟩
    rw [Around.under_plainId F.plain_list_new _]
    have hown := owner_list_new
    simp only [hown]
    with_reducible refine wpAny_bind ?_
    refine isT.at ?_
    rw [if_neg (by decide)]
    with_reducible refine wpAny_bind ?_
    refine top.at ?_
    rw [if_neg (by decide)]
    with_reducible refine wpAny_bind (wpAny_pure ?_)
    rw [if_neg (by decide)]
    unfold newDict
    with_reducible refine wpAny_bind ?_
    refine wpAny_newObj_type ?_ (by size_fits)
    dsimp only
    refine wpAny_bind ?_
    show wpAny _ _ (newObjAsIs _ _ _) _ _ _
    unfold newObjAsIs classHasDel
    refine wpAny_bind (wpAny_alloc (wpAny_bind (wpAny_bind (wpAny_load (Heap.get?_push_of_some _ (Heap.get?_push_of_some _ hC)) (wpAny_pure ?_)))))
    rw [e2]
    refine wpAny_pure (wpAny_pure ?_)
    show R _ _
    rw [Heap.size_push]
    exact hq
  cases hsig : Manifest.signature? "list.__new__" with
  | none => exact wpAny_pure tail
  | some sig =>
    simp only [argsOk, hsig] at ha
    have h2 : Bind.checkArgs "list.__new__" sig ⟨.ref 101 :: rest, []⟩ = pure () := ha
    show wpAny _ _ (Bind.checkArgs "list.__new__" sig ⟨.ref 101 :: rest, []⟩) _ _ _
    rw [h2]; exact wpAny_pure tail
theorem make_L {K : Frag} {rest : List Value} (hr : rest = [] ∨ ∃ v, rest = [v]) (X : K.In h) (Ok : ClsOk K)
    (hq : codeAny (model prog w) (A.under (.builtin "type.__call__" ⟨.ref 101 :: rest, []⟩)) (.call (.ref 38) ⟨.ref (h.objs.size + 1) :: rest, []⟩) (InitBack (h.objs.size + 1) R) ⟨(h.push emptyDict).push (accObj h.objs.size), g, d, t, os⟩) :
    codeAny (model prog w) A (.call (.ref 101) ⟨rest, []⟩) R ⟨h, g, d, t, os⟩ := by
  have Y' := makesL (M := model prog w) X Ok
  have hi : Looks (model prog w) h (typeLookup (.ref 101) "__init__") (some (.ref 38)) := looks_findIn X Ok.init
  have hb : ∀ self, Looks (model prog w) h (bindSpecial (.ref 38) self) (.ref 38, [self]) := fun self => bind_fn X self (Ok.fns 38 (by decide))
  obtain ⟨⟨oc, od, cd, sl, hC, e1, e2, e4, e5⟩, made, base, self, top, call, typ⟩ := makesL (M := model prog w) X Ok
  refine codeAny_of_tree ?_
  show wpAny _ _ (callAny (.ref 101) _) _ _ _
  refine nd_load hC ?_
  show wpAny _ _ (callAny.viaDunder (.ref 101) _) _ _ _
  unfold callAny.viaDunder
  refine wpAny_bind (call.at ?_)
  dsimp only
  rw [tc_bind]
  refine wpAny_bind (wpAny_pure (wpAny_bind (wpAny_pure ?_)))
  refine wpAny_pure (a := Fin.again (.call (.builtin "type.__call__") ⟨.ref 101 :: rest, []⟩)) (And.intro rfl ?_)
  refine codeAny_call_builtin_at (Code.quiet_builtin _ (by decide +kernel)) entry_typeCall (check_slot tc_kind tc_split typ (tc_args _ _ _) ?_)
  unfold Builtin.«type.__call__»
  have hm : Looks (model prog w) h (mroOf (.ref 101)) cd.mro := ((Looks.ld (part := none) hC).andThen .now).andThen .now
  repeat (first | simp only [e4, Bool.false_eq_true, if_false] | with_reducible refine wpAny_call ?_ | lk)
  refine new_L hr Y' ?_
  have k : ∀ b o, h.get? b = some o → ((h.push emptyDict).push (accObj h.objs.size)).get? b = some o := fun b o e => Heap.get?_push_of_some _ (Heap.get?_push_of_some _ e)
  have hx : ((h.push emptyDict).push (accObj h.objs.size)).get? (h.objs.size + 1) = some (accObj h.objs.size) := by heap_get
  have t1 : Looks (model prog w) ((h.push emptyDict).push (accObj h.objs.size)) (typeOf (.ref (h.objs.size + 1))) (.ref 101) := (Looks.ld hx).andThen .now
  have s1 := self.keeps k
  have i1 := hi.keeps k
  have b1 := (hb (.ref (h.objs.size + 1))).keeps k
  unfold isInstance callSpecial? specialOf
  repeat (first | with_reducible refine wpAny_call ?_ | lk)
  refine codeAny_mono hq fun r s' z => ?_
  rcases r with e | (v | _ | _ | _) <;> first | exact z | exact z.elim | skip
  obtain ⟨rfl, z⟩ := z
  exact wpAny_pure (wpAny_pure z)
end
end Mine
end

noncomputable section
open PySem PySem.Calls PyProof.Rows PySem.W PySem.Flt PySem.SeqAt
set_option Elab.async false
set_option linter.unusedVariables false
set_option maxRecDepth 100000
set_option maxHeartbeats 4000000
namespace Mine
theorem refuse_list (self : Value) : PySem.refuseLoop self "__setattr__" [.type "list", .type "object"] = pure () := by kernel_rfl
section
variable {prog : Program} {w : World} {A : Around} {E : Value → Shared → Prop} {s : Shared} {K : Frag} {x dx : Addr}
noncomputable abbrev sizeDict (p : Params) (tk : Tok) (v : Value) (ep : Nat) : Obj := { cls := .type "dict", data := .dict #[⟨PyData.keyHash p "_initial_size", .str "_initial_size" tk, v⟩] ep }
theorem store_size {v : Value} {Q : Unit → Shared → Prop} (X : K.In s.heap) (Ok : ClsOk K) (hx : s.heap.get? x = some (accObj dx)) (hd : s.heap.get? dx = some emptyDict)
    (h : ∀ h' tk tk' ep, h'.get? dx = some (sizeDict w.params tk' v ep) → (∀ b o, b ≠ dx → s.heap.get? b = some o → h'.get? b = some o) → Q () { s with heap := h', toks := tk }) : wpAny (model prog w) A (setAttr (.ref x) "_initial_size" v) Q E s := by
  have I : InstAt s.heap x (accObj dx) 101 (some emptyDict) := ⟨hx, rfl, rfl, hd⟩
  refine set_plain X I Ok.setattr ?_
  obtain ⟨hh, g, dd, t, os⟩ := s
  have SF := PySem.F.store_object
  obtain ⟨cd, hcd, hdi⟩ := Option.map_eq_some_iff.mp Ok.hasDict
  obtain ⟨oc', cd', c1, c2, c3⟩ := Ok.cls
  have hcd' : cd = cd' := by
    unfold clsIn at hcd
    rw [c1] at hcd
    obtain ⟨a, b, c, d⟩ := oc'
    simp only at c2; subst c2
    simpa using hcd.symm
  subst hcd'
  have T : ∀ {M : Model}, Looks M hh (typeOf (.ref x)) (.ref 101) := I.type
  have sub : Looks (model prog w) hh (isInstance (.ref x) (.type "object")) true := T.andThen (looks_mroIn X Ok.obj)
  refine codeAny_call_builtin SF.slot.plain SF.entry (@check_slot (model prog w) _ _ ⟨hh, g, dd, t + 1, os⟩ "object.__setattr__" "object" "__setattr__" (.ref x) [.str "_initial_size" t, v] [] _ SF.kind SF.split sub (SF.args (.ref x) (.str "_initial_size" t) v) ?_)
  have hm : Looks (model prog w) hh (mroOf (.ref 101)) cd.mro := (looks_clsIn X hcd).andThen .now
  rw [osa_eq, refuse_eq]
  refine wpAny_bind (wpAny_bind (T.at (wpAny_bind (hm.at ?_))))
  rw [c3, refuseLoop_ref, refuse_list]
  refine wpAny_pure (wpAny_bind (T.at (wpAny_bind ((looks_findIn X Ok.nosize).at (wpAny_bind (wpAny_pure ?_))))))
  dsimp only
  refine wpAny_bind (wpAny_pure (wpAny_bind (wpAny_bind (wpAny_loadPart hx (wpAny_bind ((looks_clsIn X hcd).at ?_))))))
  rw [hdi]
  refine wpAny_pure (a := some dx) (wpAny_bind (wpAny_pure (wpAny_bind ?_)))
  unfold nsSet
  refine wpAny_bind (wpAny_bind (wpAny_askSetting (wpAny_pure (wpAny_bind (wpAny_mkText (wpAny_bind (wpAny_loadPart hd ?_)))))))
  refine wpAny_updatePart hd ?_
  have D' := Heap.get?_update_self (Obj.putName "_initial_size" (PyData.keyHash w.params "_initial_size") (.str "_initial_size" (t + 1)) v) hd rfl
  refine wpAny_bind (wpAny_lookBehind D' (by rfl) ?_)
  exact wpAny_pure (h _ _ _ _ D' fun b o hb e => (Heap.get?_update_other _ _ (Ne.symm hb)).trans e)
end
end Mine
end

noncomputable section
open PySem PySem.Calls PyProof.Rows PySem.W PySem.Flt PySem.SeqAt
set_option Elab.async false
set_option linter.unusedVariables false
set_option maxRecDepth 100000
namespace Mine
section
variable {C : Cx} {n : Nat} {A : Around} {s : Shared}
theorem def_code {f : FnRec} {fa : Addr} {rs : List Value} {binds : List (Str × Value)} {Q : Value → Shared → Prop} (R : Lvl (n + 1) A) (P : Pg C s.heap) (hf : (fa, f) ∈ C.fns)
    (co : f.scope.isCoroutine = false) (gen : f.scope.isGenerator = false) (kind : f.scope.kind = .function) (hb : ∀ fd, fd.params = f.params → fd.defaults = f.dflt → BindsTo s fd ⟨rs, []⟩ binds)
    (hcell : ∀ x ∈ f.scope.names, x.2 ≠ .cell) (hloc : ∀ x ∈ binds, f.scope.names.lookup x.1 = some .local)
    (h : ∀ env s₁, EnvOk f.scope.names env → env.func = some fa → env.code = .ref f.code → env.cells = f.closure → env.locals = s.heap.objs.size → s₁.heap.Ns env.locals (fun x => binds.reverse.lookup x) → Kp s s₁ → Lvl n (A.deeper env) →
      PySem.wpAt (model C.prog C.w) (A.deeper env) (.func f.body env) (execs f.body env) (fun fw s' => Q (match fw with | .ret v => v | _ => .none) s') bot s₁) :
    codeAny (model C.prog C.w) A (.call (.ref fa) ⟨rs, []⟩) (fun r s' => match r with | .ok (.ret v) => Q v s' | .ok _ => False | .error e => bot e s') s := by
  obtain ⟨o, fd, e1, e2, p1, p2, p3, p4, p5, p6, p7, p8, p9, oc, vs, t, c1, c2, c3⟩ := P.fn _ hf
  refine ks_codeAny_call_defAt R.room e1 e2 P.lim ⟨_, oc, vs, t, p8, c1, c2, by rw [p4]; exact c3⟩ p2 (hb fd p1 p9) (by rw [p3]; exact hcell) (by rw [p3]; exact hloc) (fun h₀ hn hk => ?_) (by rw [p3]; exact co) (by rw [p3]; exact gen) (by rw [p3]; exact kind)
  refine ks_wpAt_mono (h (callEnv fd s.heap.objs.size fa) _ ⟨?_, ?_, p6, p7⟩ rfl p8 p5 rfl hn (Kp.of hk) R.deeper) (fun fw s' hq => ?_) fun _ _ z => z.elim
  · show fd.scope.kind = _; rw [p3]; exact kind
  · show fd.scope.names = _; rw [p3]
  · exact hq
theorem Lvl.tcall {rest : List Value} (x : Lvl (n + 1) A) : Lvl n (A.under (.builtin "type.__call__" ⟨.ref 101 :: rest, []⟩)) := by
  have h1 : (Code.builtin "type.__call__" ⟨.ref 101 :: rest, []⟩).weight = 1 := by kernel_rfl
  have h2 : (Code.builtin "type.__call__" ⟨.ref 101 :: rest, []⟩).cUnits = 1 := by kernel_rfl
  refine ⟨x.1, ?_, ?_⟩
  · show A.depth + (Code.builtin "type.__call__" ⟨.ref 101 :: rest, []⟩).weight + 4 * n + 8 < 1000
    rw [h1]; have := x.2.1; (first | lia | omega)
  · show A.units + (Code.builtin "type.__call__" ⟨.ref 101 :: rest, []⟩).cUnits + 16 * n + 32 < 9900
    rw [h2]; have := x.2.2; (first | lia | omega)
theorem keep_acc {K : Frag} (Ok : ClsOk K) : keepIn K (.ref 101) = true := by
  obtain ⟨oc, cd, c1, c2, c3⟩ := Ok.cls
  unfold keepIn
  obtain ⟨a, b, c, d⟩ := oc
  simp only at c2; subst c2
  dsimp only
  rw [c1]
  dsimp only
  rw [Ok.called]
  decide
end
end Mine
end

noncomputable section
open PySem PySem.Calls PyProof.Rows PySem.W PySem.Flt PySem.SeqAt
set_option Elab.async false
set_option linter.unusedVariables false
set_option maxRecDepth 100000
namespace Mine
section
variable {C : Cx} {n : Nat} {names : List (Str × NameKind)} {vars : Vars} {σ σ' : List (Option AV)} {q : Bool} {μ μ' μ'' : Mu} {K : KK}

theorem QE.neg {e : Expr} {pos : Pos} {i : Int} (h : QE C n names vars σ e (.int i)) : QE C n names vars σ (.UnaryOp .USub e pos) (.int (-i)) := .mk fun env A s E R P L =>
  wpAny_UnaryOp (wp_post (h.run env A s E R P L) fun v s₁ ⟨r, k⟩ => by
    obtain ⟨t, rfl⟩ := rel_int r
    exact PyProof.Rows.neg_int ⟨.int _ _, k.trans' (Kp.tok s₁ _)⟩)
theorem isNotB {a b : Bool} : OpOk C n (compareOp .IsNot) (.bool a) (.bool b) (.bool (a != b)) := fun A s x y _ _ ra rb => by
  obtain rfl := ra.bool_eq
  obtain rfl := rb.bool_eq
  refine wpAny_isNot_plain rfl ?_
  refine ⟨?_, Kp.rfl' s⟩
  have : (!(Value.bool a == Value.bool b)) = (a != b) := by cases a <;> cases b <;> rfl
  rw [this]; exact .bool _
theorem fold_rep (c : Nat) : ∀ (k : Nat) (l : List Nat), (List.replicate k (#[c] : Array Nat)).foldl (· ++ ·) l.toArray = (l ++ List.replicate k c).toArray
  | 0, l => by simp
  | k + 1, l => by
    rw [List.replicate_succ, List.foldl_cons]
    have : l.toArray ++ #[c] = (l ++ [c]).toArray := by simp
    rw [this, fold_rep c k (l ++ [c]), List.append_assoc]
    rfl
/-- a str repeated -/
theorem mulS {c : Nat} {k : Int} (h0 : 0 ≤ k) (h1 : k ≤ 1000) : OpOk C n (binaryOp .Mult) (.str (S [c])) (.int k) (.str (S (List.replicate k.toNat c))) := fun A s a b _ _ ra rb => by
  obtain ⟨t, rfl⟩ := rel_str ra
  obtain ⟨u, rfl⟩ := rel_int rb
  have hx : (S [c]).length = 1 := rfl
  refine PySem.P.mul_str ?_ (fun h2 _ => ?_) (fun _ _ => ?_) ?_
  · simp only [Bool.or_eq_false_iff, decide_eq_false_iff_not]; (first | lia | omega)
  · rw [hx]
    have : (2 ^ 63 - 1 : Int) / k ≥ 1 := by
      have h3 : (1 : Int) ≤ (2 ^ 63 - 1) / k ↔ 1 * k ≤ 2 ^ 63 - 1 := Int.le_ediv_iff_mul_le (by (first | lia | omega))
      exact h3.mpr (by (first | lia | omega))
    (first | lia | omega)
  · rw [hx, Nat.one_mul]
    exact decide_eq_false (Nat.not_lt.mpr (Nat.le_trans (show k.toNat ≤ 1000 by (first | lia | omega)) (by decide)))
  · by_cases h2 : k < 1
    · rw [if_pos h2]
      have : k = 0 := by (first | lia | omega)
      subst this
      exact ⟨Nat.zero_le _, .str _ _, Kp.tok s _⟩
    · rw [if_neg h2]
      by_cases h3 : (k == 1 || (S [c]).length == 0) = true
      · rw [if_pos h3]
        have : k = 1 := by
          rw [hx] at h3
          simpa using h3
        subst this
        exact ⟨.str _ _, Kp.rfl' s⟩
      · rw [if_neg h3]
        have e : (⟨(List.replicate k.toNat (S [c]).cps).foldl (· ++ ·) #[]⟩ : Str) = S (List.replicate k.toNat c) := by
          unfold S
          congr 1
          exact fold_rep c k.toNat []
        rw [e]
        refine ⟨?_, .str _ _, Kp.tok s _⟩
        rw [S_len, List.length_replicate]
        exact Nat.le_trans (show k.toNat ≤ 1000 by (first | lia | omega)) (by decide)
theorem addL {a b : List AV} (h : a.length + b.length ≤ 1000) : OpOk C n (binaryOp .Add) (.lst a) (.lst b) (.lst (a ++ b)) := fun A s x y _ _ ra rb => by
  obtain ⟨p, vs, rfl, hp, rp⟩ := ra.lst_inv
  obtain ⟨r, ws, rfl, hr, rr⟩ := rb.lst_inv
  obtain ⟨⟨cls, dd, data, sl⟩, ho, hc, n, hd⟩ := id hp
  obtain ⟨⟨cls2, dd2, data2, sl2⟩, ho2, hc2, n2, hd2⟩ := id hr
  simp only at hc hd hc2 hd2
  subst hc hd hc2 hd2
  have hz : vs.length + ws.length ≤ sizeLine := by rw [← rp.length, ← rr.length]; exact Nat.le_trans h (by decide)
  refine concat_meets ⟨_, ho, rfl⟩ ⟨_, ho2, rfl⟩ noFill_list_add seq_list_add PySem.F.slot_list_add PySem.F.entry_list_add (PySem.F.args_list_add_2 _ _) (list_addW p r vs.toArray ws.toArray n n2 dd dd2 sl sl2 (by simpa using hz)) ⟨ho, ho2, ?_⟩
  have e : vs.toArray ++ ws.toArray = (vs ++ ws).toArray := by simp
  rw [e]
  exact ⟨.lst' (isList_push _ _) ((rp.append rr).keeps (Kp.push s _).heap), Kp.push s _⟩

/-! expressions of which a part may change things -/
theorem XE.eqv {e : Expr} {v v' : AV} (x : XE C n names vars q σ μ e v μ') (h : v = v') : XE C n names vars q σ μ e v' μ' := h ▸ x
theorem XB.eqv {e : Expr} {v v' : Bool} (x : XB C n names vars q σ μ e v μ') (h : v = v') : XB C n names vars q σ μ e v' μ' := h ▸ x
theorem XE.slice {value : Expr} {lower upper step : Option Expr} {p pos : Pos} {a v : AV} {lo up st : Option Int} (hv : XE C n names vars q σ μ value a μ') (hl : QP C n names vars σ lower lo) (hu : QP C n names vars σ upper up) (hs : QP C n names vars σ step st)
    (hg : SlOk C n a lo up st v) : XE C n names vars q σ μ (.Subscript value (.Slice lower upper step p) pos) v μ' := .mk fun env A s R F =>
  wp_subscript (wp_post (hv.run env A s R F) fun x s₁ ⟨r1, F1, N1⟩ => by
    refine wpAny_Slice (wp_post (hl.wp F1.ok R F1.pg F1.loc) fun vl s₂ ⟨⟨ql, el, pl⟩, k2⟩ => wp_post (hu.wp F1.ok R (F1.pg.keeps k2.heap) (F1.loc.keeps k2.heap)) fun vu s₃ ⟨⟨qu, eu, pu⟩, k3⟩ =>
      wp_post (hs.wp F1.ok R ((F1.pg.keeps k2.heap).keeps k3.heap) ((F1.loc.keeps k2.heap).keeps k3.heap)) fun vt s₄ ⟨⟨qt, et, pt⟩, k4⟩ => ?_)
    subst el eu et
    have k' := ((k2.trans' k3).trans' k4).trans' (Kp.push s₄ { cls := .type "slice", data := .fields #[partValue ql, partValue qu, partValue qt] })
    obtain ⟨g, h⟩ := hg A { s₄ with heap := s₄.heap.push { cls := .type "slice", data := .fields #[partValue ql, partValue qu, partValue qt] } } x s₄.heap.objs.size ql qu qt R (r1.keeps k'.heap) pl pu pt
      ⟨_, Heap.get?_push_size _ rfl, rfl, rfl⟩
    exact ⟨g, wp_post h fun z s₅ ⟨r3, k5⟩ => ⟨r3, F1.kp (k'.trans' k5), N1.trans (.of (k'.trans' k5).stp)⟩⟩)
theorem XE.binR {l r : Expr} {op : Operator} {pos : Pos} {a b v : AV} (hl : QE C n names vars σ l a) (hr : XE C n names vars false σ μ r b μ') (ho : OpOk C n (binaryOp op) a b v) : XE C n names vars false σ μ (.BinOp l op r pos) v μ' := .mk fun env A s R F =>
  wpAny_BinOp (wp_post (hl.run env A s F.ok R F.pg F.loc) fun x s₁ ⟨r1, k1⟩ => wp_post (hr.run env A s₁ R (F.kp k1)) fun y s₂ ⟨r2, F2, N2⟩ =>
    wp_post (ho A s₂ x y R F2.pg (r1.mono (N2.stp.seq rfl)) r2) fun z s₃ ⟨r3, k3⟩ => ⟨r3, F2.kp k3, (Nxt.of k1.stp).trans (N2.trans (.of k3.stp))⟩)
theorem XB.cmp {l r : Expr} {op : CmpOp} {pos : Pos} {a b : AV} {v : Bool} (hl : XE C n names vars q σ μ l a μ') (hr : QE C n names vars σ r b) (ho : OpOk C n (compareOp op) a b (.bool v)) (hm : behindInMarks op r = false := by with_unfolding_all rfl) : XB C n names vars q σ μ (.Compare l [op] [r] pos) v μ' := .mk fun env A s R F =>
  wpAny_isTrue_Compare1 (wp_post (hl.run env A s R F) fun x s₁ ⟨r1, F1, N1⟩ => wp_post (hr.run env A s₁ F1.ok R F1.pg F1.loc) fun y s₂ ⟨r2, k2⟩ =>
    wp_post (ho A s₂ x y R (F1.pg.keeps k2.heap) (r1.keeps k2.heap) r2) fun z s₃ ⟨r3, k3⟩ => by
      obtain rfl := r3.bool_eq
      exact wpAny_truthy_bool ⟨rfl, F1.kp (k2.trans' k3), N1.trans (.of (k2.trans' k3).stp)⟩) hm
/-- a run of tests, nothing changed -/
structure XT (C : Cx) (n : Nat) (names : List (Str × NameKind)) (vars : Vars) (q : Bool) (σ : List (Option AV)) (μ : Mu) (op : BoolOp) (es : List Expr) (b : Bool) : Prop where
  run : ∀ (env : Env) (A : Around) (s : Shared), Lvl n A → Frm C names vars σ μ env s →
    wpAny (model C.prog C.w) A (allTrue op es env) (fun r s' => r = b ∧ Frm C names vars σ μ env s' ∧ Nxt q env μ s μ s') bot s
theorem XT.and_nil : XT C n names vars q σ μ .And [] true := .mk fun _ _ s _ F => wpAny_allTrue_And_nil ⟨rfl, F, .refl _ _ _ _⟩
theorem XT.or_nil : XT C n names vars q σ μ .Or [] false := .mk fun _ _ s _ F => wpAny_allTrue_Or_nil ⟨rfl, F, .refl _ _ _ _⟩
theorem XT.and_cons {x : Expr} {rest : List Expr} {a b : Bool} (h : XB C n names vars q σ μ x a μ) (hr : a = true → XT C n names vars q σ μ .And rest b) : XT C n names vars q σ μ .And (x :: rest) (a && b) := .mk fun env A s R F =>
  wpAny_allTrue_And_cons (wp_post (h.run env A s R F) fun y s₁ ⟨e, F1, N1⟩ => by
    subst e
    cases y with
    | true => rw [if_pos rfl]; exact wp_post ((hr rfl).run env A s₁ R F1) fun z s₂ ⟨e2, F2, N2⟩ => ⟨by rw [e2]; rfl, F2, N1.trans N2⟩
    | false => rw [if_neg Bool.false_ne_true]; exact ⟨rfl, F1, N1⟩)
theorem XT.or_cons {x : Expr} {rest : List Expr} {a b : Bool} (h : XB C n names vars q σ μ x a μ) (hr : a = false → XT C n names vars q σ μ .Or rest b) : XT C n names vars q σ μ .Or (x :: rest) (a || b) := .mk fun env A s R F =>
  wpAny_allTrue_Or_cons (wp_post (h.run env A s R F) fun y s₁ ⟨e, F1, N1⟩ => by
    subst e
    cases y with
    | false => rw [if_neg Bool.false_ne_true]; exact wp_post ((hr rfl).run env A s₁ R F1) fun z s₂ ⟨e2, F2, N2⟩ => ⟨by rw [e2]; rfl, F2, N1.trans N2⟩
    | true => rw [if_pos rfl]; exact ⟨rfl, F1, N1⟩)
theorem XB.boolop {op : BoolOp} {es : List Expr} {pos : Pos} {b : Bool} (h : XT C n names vars q σ μ op es b) : XB C n names vars q σ μ (.BoolOp op es pos) b μ := .mk fun env A s R F => wpAny_isTrue_BoolOp (h.run env A s R F)
theorem XB.not {e : Expr} {pos : Pos} {b : Bool} (h : XB C n names vars q σ μ e b μ') : XB C n names vars q σ μ (.UnaryOp .Not e pos) (!b) μ' := .mk fun env A s R F =>
  wpAny_isTrue_Not (wp_post (h.run env A s R F) fun r s' ⟨e, F1, N1⟩ => ⟨by rw [e], F1, N1⟩)
theorem XE.ifexp {t x y : Expr} {pos : Pos} {b : Bool} {v : AV} (h : XB C n names vars q σ μ t b μ') (hx : b = true → QE C n names vars σ x v) (hy : b = false → QE C n names vars σ y v) : XE C n names vars q σ μ (.IfExp t x y pos) v μ' := .mk fun env A s R F =>
  wpAny_IfExp (wp_post (h.run env A s R F) fun z s₁ ⟨e, F1, N1⟩ => by
    subst e
    cases z with
    | true => rw [if_pos rfl]; exact wp_post ((hx rfl).run env A s₁ F1.ok R F1.pg F1.loc) fun z s₂ ⟨e2, k2⟩ => ⟨e2, F1.kp k2, N1.trans (.of k2.stp)⟩
    | false => rw [if_neg Bool.false_ne_true]; exact wp_post ((hy rfl).run env A s₁ F1.ok R F1.pg F1.loc) fun z s₂ ⟨e2, k2⟩ => ⟨e2, F1.kp k2, N1.trans (.of k2.stp)⟩)
/-- two in a tuple, the second may change things -/
theorem XE.tuple2 {e1 e2 : Expr} {k : Nat} {pos : Pos} {a b : AV} (h1 : QE C n names vars σ e1 a) (h2 : XE C n names vars false σ μ e2 b μ') (s1 : ∀ env, starEach [e1, e2] env = (false, eval e1 env) :: starEach [e2] env := by intro _; rfl) (s2 : ∀ env, starEach [e2] env = [(false, eval e2 env)] := by intro _; rfl) :
    XE C n names vars false σ μ (.Tuple [e1, e2] k pos) (.tup [a, b]) μ' := .mk fun env A s R F => by
  refine wpAny_Tuple (spliced_more (wp_post (h1.run env A s F.ok R F.pg F.loc) fun x s₁ ⟨r1, k1⟩ => spliced_more (wp_post (h2.run env A s₁ R (F.kp k1)) fun y s₂ ⟨r2, F2, N2⟩ => spliced_none ?_) (s2 env)) (s1 env))
  have kp := Kp.push s₂ { cls := .type "tuple", data := .seq (List.toArray [x, y]) }
  have ra : RelAll s₂.heap [a, b] [x, y] := .cons (r1.mono (N2.stp.seq rfl)) (.cons r2 .nil)
  exact ⟨show 2 ≤ _ from by decide, .tup' (isTuple_push _ _) (ra.keeps kp.heap), F2.kp kp, (Nxt.of k1.stp).trans (N2.trans (.of kp.stp))⟩
end
end Mine
end

noncomputable section
open PySem PySem.Calls PyProof.Rows PySem.W PySem.Flt PySem.SeqAt
set_option Elab.async false
set_option linter.unusedVariables false
set_option maxRecDepth 100000
namespace Mine
theorem join_S : ∀ (ls : List (List Nat)), Txt.join "" (ls.map S) = S ls.flatten := by
  have key : ∀ (ls : List (List Nat)), Str.join "" (ls.map S) = S ls.flatten := by
    intro ls
    induction ls with
    | nil => rfl
    | cons x r ih =>
      cases r with
      | nil => show S x = S ([x].flatten); simp
      | cons y r =>
        show S x ++ "" ++ Str.join "" ((y :: r).map S) = _
        rw [ih, show ("" : Str) = S [] from rfl, S_app, S_app]
        simp
  intro ls
  exact (StrLaws.glued_eq_join _ _).trans (key ls)
noncomputable def blk (c : Nat) : Str × Str := (S [32], S [c])
noncomputable def spread (l : List Nat) : List Nat := l.flatMap fun c => [32, c]
theorem spread_cons (c : Nat) (l : List Nat) : spread (c :: l) = 32 :: c :: spread l := rfl
theorem spread_len : ∀ l, (spread l).length = 2 * l.length
  | [] => rfl
  | c :: l => by rw [spread_cons]; simp [spread_len l]; (first | lia | omega)
theorem filterMap_id (l : List Nat) : (List.range l.length).filterMap (fun i => l[i]?) = l := by
  have := filterMap_range l
  simpa using this
theorem spread_odd : ∀ (l : List Nat) (k : Nat), (spread l)[1 + 2 * k]? = l[k]?
  | [], k => by simp [spread]
  | c :: l, 0 => by rw [spread_cons]; rfl
  | c :: l, k + 1 => by
    rw [spread_cons]
    have := spread_odd l k
    rw [show 1 + 2 * (k + 1) = (1 + 2 * k) + 2 from by (first | lia | omega)]
    simpa using this
theorem spread_even : ∀ (l : List Nat) (k : Nat), (spread l)[2 * k]? = if k < l.length then some 32 else none
  | [], k => by simp [spread]
  | c :: l, 0 => by rw [spread_cons]; simp
  | c :: l, k + 1 => by
    rw [spread_cons]
    have := spread_even l k
    rw [show 2 * (k + 1) = 2 * k + 2 from by (first | lia | omega)]
    simpa using this
theorem sr_step2 (a : Int) (n : Nat) (ha : a = 0 ∨ a = 1) : sliceRange a (2 * n : Nat) 2 = (List.range n).map fun (k : Nat) => (a + (k : Int) * 2).toNat := by
  unfold sliceRange
  simp only [show (2 : Int) > 0 from by decide, if_true]
  have : (if a < ((2 * n : Nat) : Int) then (((2 * n : Nat) : Int) - a + 2 - 1) / 2 else 0).toNat = n := by
    rcases ha with rfl | rfl <;> (split <;> (first | lia | omega))
  rw [this]
  apply List.map_congr_left
  intro k _
  (first | lia | omega)
/-- every second sign -/
theorem sl_odd (l : List Nat) : sliceS (S (spread l)) (some 1) none (some 2) = S l := by
  rw [sliceS_eq, spread_len]
  congr 1
  have : Builtin.Str.strSliceIndices (some 1) none ((some 2 : Option Int).getD 1) (2 * l.length) = sliceRange (if l = [] then 0 else 1) (2 * l.length : Nat) 2 := by
    unfold Builtin.Str.strSliceIndices
    simp only [Option.getD_some, show (2 : Int) > 0 from by decide, if_true]
    rw [if_neg (by decide)]
    cases l with
    | nil => rfl
    | cons c l =>
      rw [if_neg (by simp)]
      congr 1
      simp; (first | lia | omega)
  rw [this]
  cases l with
  | nil => rfl
  | cons c l =>
    rw [if_neg (by simp), sr_step2 1 _ (.inr rfl), List.filterMap_map]
    have : ((fun i => (spread (c :: l))[i]?) ∘ fun k : Nat => ((1 : Int) + (k : Int) * 2).toNat) = fun k => (c :: l)[k]? := by
      funext k
      show (spread (c :: l))[((1 : Int) + (k : Int) * 2).toNat]? = _
      rw [show ((1 : Int) + (k : Int) * 2).toNat = 1 + 2 * k from by (first | lia | omega), spread_odd]
    rw [this, filterMap_id]
theorem sl_even (l : List Nat) : sliceS (S (spread l)) none none (some 2) = S (List.replicate l.length 32) := by
  rw [sliceS_eq, spread_len]
  congr 1
  have : Builtin.Str.strSliceIndices none none ((some 2 : Option Int).getD 1) (2 * l.length) = sliceRange 0 (2 * l.length : Nat) 2 := rfl
  rw [this, sr_step2 0 _ (.inl rfl), List.filterMap_map]
  have : ((fun i => (spread l)[i]?) ∘ fun k : Nat => ((0 : Int) + (k : Int) * 2).toNat) = fun k => if k < l.length then some 32 else none := by
    funext k
    show (spread l)[((0 : Int) + (k : Int) * 2).toNat]? = _
    rw [show ((0 : Int) + (k : Int) * 2).toNat = 2 * k from by (first | lia | omega), spread_even]
  rw [this]
  have key : ∀ m, m ≤ l.length → (List.range m).filterMap (fun k => if k < l.length then some 32 else none) = List.replicate m 32 := by
    intro m
    induction m with
    | zero => intro _; rfl
    | succ m ih =>
      intro h
      rw [List.range_succ, List.filterMap_append, ih (by (first | lia | omega)), List.replicate_succ']
      simp [show m < l.length from by (first | lia | omega)]
  exact key _ (Nat.le_refl _)
theorem sr_back (n : Nat) : sliceRange ((n : Int) - 1) (-1) (-1) = (List.range n).map fun k => n - 1 - k := by
  unfold sliceRange
  simp only [show ¬ ((-1 : Int) > 0) from by decide, if_false]
  have : (if (n : Int) - 1 > -1 then ((n : Int) - 1 - -1 - -1 - 1) / -(-1) else 0).toNat = n := by
    split
    · rw [show (-(-1) : Int) = 1 from by decide, Int.ediv_one]; (first | lia | omega)
    · simp; (first | lia | omega)
  rw [this]
  apply List.map_congr_left
  intro k hk
  have := List.mem_range.mp hk
  (first | lia | omega)
theorem pick_back {α : Type} (l : List α) : ((List.range l.length).map fun k => l.length - 1 - k).filterMap (l[·]?) = l.reverse := by
  rw [List.filterMap_map]
  have e : (List.range l.length).filterMap ((fun x => l[x]?) ∘ fun k => l.length - 1 - k) = (List.range l.length).filterMap fun i => l.reverse[i]? := by
    have gen : ∀ (f g : Nat → Option α) (m : List Nat), (∀ k ∈ m, f k = g k) → m.filterMap f = m.filterMap g := by
      intro f g m h
      induction m with
      | nil => rfl
      | cons k m ih => rw [List.filterMap_cons, List.filterMap_cons, h k (.head _), ih fun q hq => h q (.tail _ hq)]
    refine gen _ _ _ fun k hk => ?_
    have := List.mem_range.mp hk
    show l[l.length - 1 - k]? = _
    rw [List.getElem?_reverse (by (first | lia | omega))]
  rw [e]
  have key : ∀ m, m ≤ l.reverse.length → (List.range m).filterMap (fun i => l.reverse[i]?) = l.reverse.take m := by
    intro m
    induction m with
    | zero => intro _; simp
    | succ m ih =>
      intro h
      rw [List.range_succ, List.filterMap_append, ih (by (first | lia | omega)), List.take_add_one, List.getElem?_eq_getElem (by (first | lia | omega))]
      simp [List.getElem?_eq_getElem (show m < l.reverse.length by (first | lia | omega))]
  have := key l.reverse.length (Nat.le_refl _)
  rw [List.take_length, List.length_reverse] at this
  exact this
theorem sl_back (l : List Nat) : sliceS (S l) none none (some (-1)) = S l.reverse := by
  rw [sliceS_eq]
  congr 1
  have : Builtin.Str.strSliceIndices none none ((some (-1) : Option Int).getD 1) l.length = sliceRange ((l.length : Int) - 1) (-1) (-1) := rfl
  rw [this, sr_back, pick_back]
theorem pickL_back (l : List AV) : pickL l none none (some (-1)) = l.reverse := by
  unfold pickL
  have : sliceBounds none none (some (-1)) l.length = ((l.length : Int) - 1, -1, -1) := rfl
  rw [this, sr_back, pick_back]
end Mine
end

noncomputable section
open PySem PySem.Calls PyProof.Rows PySem.W PySem.Flt PySem.SeqAt
set_option Elab.async false
set_option linter.unusedVariables false
set_option maxRecDepth 100000
namespace Mine
section
variable {C : Cx} {n : Nat} {names : List (Str × NameKind)} {vars : Vars} {σ σ' : List (Option AV)} {q : Bool} {μ μ' : Mu} {K : KK}
theorem MethC.first0 {f : Value} {a : Addr} {m m' : MO} {args : List AV} {v : AV} (h : MethC C n f [.ref a] a m args v m') : MethC C n f [] a m (.acc a :: args) v m' := fun A s rs R P M ra => by
  obtain ⟨x, xs, rfl, r1, rb⟩ := ra.cons_ex
  obtain rfl := r1.acc_eq
  exact h A s _ R P M rb
theorem XE.callM {x : Str} {fa : Addr} {f : FnRec} {p pos : Pos} {e : Expr} {es : List Expr} {v : AV} {vs : List AV} {l r : Mu} {a : Addr} {m m' : MO} (hk : names.lookup x = some .globalImplicit) (hg : (x, GV.fn fa) ∈ C.globs) (hf : (fa, f) ∈ C.fns)
    (ha : QEs C n names vars σ (e :: es) vs) (hs : m'.side = m.side) (hc : MethC C n (.ref fa) [] a m vs v m') (hd : (x == ("__debug__" : Str)) = false := by decide +kernel) :
    XE C n names vars false σ (l ++ (a, m) :: r) (.Call (.Name x p) (e :: es) [] pos) v (l ++ (a, m') :: r) := .mk fun env A s R F => by
  refine wpAny_Call_NameR (wpAny_Name (load_gfn F.ok F.pg hk hg ?_) hd)
  obtain ⟨_, h3, pl⟩ : True ∧ starEach (e :: es) env = (false, eval e env) :: starEach es env ∧ (backTo pos (starEach es env)).any (·.1) = false := by
    cases ha with
    | cons _ h2 h3 => exact ⟨trivial, h3 env, h2.plain pos env⟩
  obtain ⟨o, fd, e1, e2, _⟩ := F.pg.fn _ hf
  refine callWith_def e2 (wp_post (ha.spliced pos env A s F.ok R F.pg F.loc) fun rs s₁ ⟨ra, k⟩ => ⟨k.heap _ _ e1, ?_⟩) h3
  have F1 := F.kp k
  refine wp_post (hc A s₁ rs R F1.pg F1.mu.focus ra) fun y s₂ ⟨r2, Z⟩ => ?_
  obtain ⟨F2, N2⟩ := F1.meth hs Z
  exact ⟨r2, F2, (Nxt.of k.stp).trans N2⟩
theorem XB.val {e : Expr} {v : AV} {b : Bool} (h : XE C n names vars q σ μ e v μ') (t : TruthOk C n v b) (he : ∀ env whole, isTrue e env whole = (do let v ← whole; standAt e.pos; holding [v] (truthy v)) := by intro _ _; rfl) : XB C n names vars q σ μ e b μ' := .mk fun env A s R F =>
  wpAny_isTrue_value (wp_post (h.run env A s R F) fun x s₁ ⟨r1, F1, N1⟩ => wp_post (t A s₁ x R r1) fun y s₂ ⟨r2, k2⟩ => ⟨r2, F1.kp k2, N1.trans (.of k2.stp)⟩) (he env _)
end
end Mine
end

noncomputable section
open PySem PySem.Calls PyProof.Rows PySem.W PySem.Flt PySem.SeqAt
set_option Elab.async false
set_option linter.unusedVariables false
namespace Mine
section
variable {C : Cx} {n : Nat} {names : List (Str × NameKind)} {vars : Vars} {σ : List (Option AV)}
theorem pair_loc {scope : Scope} {xa xb : Str} {env : Env} {cl : List (Str × Addr)} {h₃ : Heap} {B : Addr} {m₃ : Str → Option Value} {va vb : Value} {a b : AV} (E : EnvOk names env) (S : CompScope scope xa) (Sb : scope.names.lookup xb = some .local)
    (hn : h₃.Ns B m₃) (hma : m₃ xa = some va) (hmb : m₃ xb = some vb) (ha : Rel h₃ a va) (hb : Rel h₃ b vb) :
    EnvOk (relN scope.names names) (compEnvC scope cl B env) ∧ Loc h₃ (compEnvC scope cl B env) [(xa, false), (xb, false)] [some a, some b] := by
  have hnm : (compEnvC scope cl B env).scope.names = relN scope.names names := relabel_names E
  refine ⟨⟨S.kind, hnm, E.globals, E.builtins⟩, fun i y c u e1 e2 => ?_⟩
  match i with
  | 0 =>
    simp at e1 e2
    obtain ⟨rfl, rfl⟩ := e1
    subst e2
    exact ⟨va, ⟨lookup_relabel_local S.x, m₃, hn, hma⟩, ha⟩
  | 1 =>
    simp at e1 e2
    obtain ⟨rfl, rfl⟩ := e1
    subst e2
    exact ⟨vb, ⟨lookup_relabel_local Sb, m₃, hn, hmb⟩, hb⟩
  | i + 2 => simp at e1

theorem comp_pair_loop {A : Around} {scope : Scope} {xa xb : Str} {pa pb pt pos : Pos} {kt : Nat} {elt iter : Expr} {cl : List (Str × Addr)} {env : Env} {s s₂ : Shared} {I D B : Addr} {fp wr : List Addr} {Pt : Nat → Array Value → Prop} {St : Nat → Heap → Prop} {Mid : Nat → Addr → Heap → Prop} {zs : List (AV × AV)} {fv : AV × AV → AV} {m : Str → Option Value} {R : Result → Shared → Prop}
    (E : EnvOk names env) (Rm : Lvl n A) (P : Pg C s.heap) (S : CompScope scope xa) (Sb : scope.names.lookup xb = some .local) (hab : xa ≠ xb)
    (W : WalksU C.prog C.w A I fp wr zs.length Pt St Mid) (hP : ∀ i vals, Pt i vals → ∃ x y va vb, zs[i]? = some (x, y) ∧ vals = #[va, vb] ∧ Scal x va ∧ Scal y vb) (hsz : zs.length ≤ 100000)
    (he : ∀ z ∈ zs, QE C n (relN scope.names names) [(xa, false), (xb, false)] [some z.1, some z.2] elt (fv z)) (hsc : ∀ z ∈ zs, ∀ (h : Heap) (v : Value), Rel h (fv z) v → Scal (fv z) v)
    (hDB : D ≠ B) (hDf : D ∉ fp) (hBf : B ∉ fp) (hst : St 0 s₂.heap) (hacc : s₂.heap.PlainList D #[]) (hn : s₂.heap.Ns B m)
    (hkp : ∀ b o, s.heap.get? b = some o → b ≠ B ∧ b ∉ wr ∧ b ≠ D ∧ s₂.heap.get? b = some o)
    (hR : ∀ h' tk m' ys, h'.Ns B m' → h'.IsList D ys → (∀ h, RelAll h (zs.map fv) ys.toList) → (∀ b o, b ≠ B → b ∉ wr → b ≠ D → s₂.heap.get? b = some o → h'.get? b = some o) → R (.ok .next) { s₂ with heap := h', toks := tk }) :
    codeAny (model C.prog C.w) A (.compLoop (.ListComp elt [⟨.Tuple [.Name xa pa, .Name xb pb] kt pt, iter, [], 0⟩] scope pos) 0 (.ref I) (.ref D) (compEnvC scope cl B env)) R s₂ := by
  have hBw : B ∉ wr := fun h => hBf (W.sub _ h)
  have hDw : D ∉ wr := fun h => hDf (W.sub _ h)
  refine LCp.codeAny_compLoop_pair
    (fun k s' => ∃ h' tk m' ys i, s' = { s₂ with heap := h', toks := tk } ∧ St i h' ∧ h'.PlainList D ys ∧ h'.Ns B m' ∧ i ≤ zs.length ∧ ys.size = i ∧ (∀ h, RelAll h ((zs.take i).map fv) ys.toList) ∧ k = zs.length + 1 - i ∧
      ∀ b o, b ≠ B → b ∉ wr → b ≠ D → s₂.heap.get? b = some o → h'.get? b = some o) ?_ (zs.length + 1)
    ⟨s₂.heap, s₂.toks, m, #[], 0, rfl, hst, hacc, hn, Nat.zero_le _, rfl, fun h => .nil, rfl, fun _ _ _ _ _ e => e⟩
  rintro k s' ⟨H, tk, m', ys, i, rfl, hst', hacc', hn', hi, hys, hF, rfl, hk⟩
  by_cases hlt : i < zs.length
  · refine W.item i _ _ _ hlt hst' fun T vals h₁ tk₁ hPv hT hM hk₁ => ?_
    obtain ⟨x, y, va, vb, hz, rfl, sx, sy⟩ := hP i vals hPv
    refine W.go _ _ _ _ _ _ _ _ hM fun h₂ hst₂ hk₂ => ?_
    have hT₂ : h₂.IsTuple T #[va, vb] := by
      obtain ⟨o, ho, r⟩ := hT
      exact ⟨o, hk₂ T o (W.apart _ _ _ hM) ho, r⟩
    refine wpAny_assign_Tuple Rm.hd hT₂ rfl rfl fun h₃ he₃ => ?_
    have e3 : ∀ b o, h₂.get? b = some o → h₃.get? b = some o := fun b o e => he₃ b o (Nat.ne_of_lt (Heap.lt_size e)) e
    have hcl : ((compEnvC scope cl B env).scope.kind == .class || ((compEnvC scope cl B env).scope.kind == .module && (compEnvC scope cl B env).locals != (compEnvC scope cl B env).globals)) = false := by simp [compEnvC, relabel, S.kind]
    have hn₃ := ((hn'.at' fun o e => hk₁ _ o hBw e).at' fun o e => hk₂ _ o hBw e).at' fun o e => e3 _ o e
    refine assignInOrder_cons (wpAny_assign_Name (wpAny_storeName_local (lookup_relabel_local S.x) hn₃ (fun h₄ hn₄ hs₄ => ?_) hcl))
    refine assignInOrder_cons (wpAny_assign_Name (wpAny_storeName_local (lookup_relabel_local Sb) hn₄ (fun h₅ hn₅ hs₅ => ?_) hcl))
    refine assignInOrder_nil ?_
    have up : ∀ b o, b ≠ B → b ∉ wr → H.get? b = some o → h₅.get? b = some o := fun b o hb hw e => hs₅.extBut b o hb (hs₄.extBut b o hb (e3 b o (hk₂ b o hw (hk₁ b o hw e))))
    have hst₅ : St (i + 1) h₅ := W.frame _ _ _ hst₂ fun b hb o e => hs₅.extBut b o (fun q => hBf (by rw [show B = b from q.symm]; exact hb)) (hs₄.extBut b o (fun q => hBf (by rw [show B = b from q.symm]; exact hb)) (e3 b o e))
    have hk5 : ∀ b o, s.heap.get? b = some o → h₅.get? b = some o := fun b o e => by
      obtain ⟨h1, h2, h3, h4⟩ := hkp b o e
      exact up b o h1 h2 (hk b o h1 h2 h3 h4)
    obtain ⟨E5, L5⟩ := pair_loc (cl := cl) E S Sb hn₅ (by simp [hab]) (by simp) (sx h₅) (sy h₅)
    have hzm : (x, y) ∈ zs := List.mem_of_getElem? hz
    refine wpAny_mono ((he _ hzm).run _ A { s₂ with heap := h₅, toks := _ } E5 Rm (P.keeps hk5) L5) (fun yv s₄ h₄ => ?_) fun _ _ f => f.elim
    obtain ⟨r4, k4⟩ := h₄
    obtain ⟨h₆, tk₆, e6, hk₆⟩ := k4.keeps
    subst e6
    have hacc₆ : h₆.PlainList D ys := hacc'.at fun o e => hk₆ _ o (up D o hDB hDw e)
    refine wpAny_list_append_plain (hsz := by rw [hys]; exact Nat.le_trans hi (Nat.le_trans hsz (by decide))) hacc₆ fun h₇ hl₇ hs₇ => ?_
    refine ⟨zs.length + 1 - (i + 1), by (first | lia | omega), h₇, tk₆, _, ys.push yv, i + 1, rfl, W.frame _ _ _ hst₅ fun b hb o e => hs₇.extBut b o (fun q => hDf (q ▸ hb)) (hk₆ b o e), hl₇, (hn₅.keeps hk₆).sameBut hs₇ (Ne.symm hDB), hlt, by simp [hys], fun h => ?_, rfl, fun b o hbB hbw hbD e => hs₇.extBut b o hbD (hk₆ b o (up b o hbB hbw (hk b o hbB hbw hbD e)))⟩
    rw [List.take_add_one, hz, List.map_append, Array.toList_push]
    exact (hF h).append (.cons (hsc _ hzm _ _ r4 h) .nil)
  · obtain rfl : i = zs.length := Nat.le_antisymm hi (Nat.not_lt.mp hlt)
    refine W.done _ _ _ hst' fun h₁ tk₁ hk₁ => ?_
    rw [List.take_length] at hF
    exact hR h₁ tk₁ m' ys (hn'.at' fun o e => hk₁ _ o hBw e) (hacc'.at fun o e => hk₁ _ o hDw e).isList hF fun b o hbB hbw hbD e => hk₁ b o hbw (hk b o hbB hbw hbD e)

theorem QE.compZip {scope : Scope} {xa xb zn : Str} {pa pb pt p p' pos : Pos} {kt : Nat} {elt e1 e2 : Expr} {as bs : List Int} {fv : AV × AV → AV} (hS : compScopeB scope xa = true) (Sb : scope.names.lookup xb = some .local) (hab : xa ≠ xb) (hfree : freeIn scope [] = true)
    (hk : names.lookup zn = some .globalImplicit) (hg : (zn, GV.none) ∈ C.globs) (hb : (zn, .type "zip") ∈ C.blts)
    (h1 : QE C n names vars σ e1 (.lst (as.map .int))) (h2 : QE C n names vars σ e2 (.lst (bs.map .int))) (hsz : as.length ≤ 100000)
    (he : ∀ a ∈ as, ∀ b ∈ bs, QE C n (relN scope.names names) [(xa, false), (xb, false)] [some (.int a), some (.int b)] elt (fv (.int a, .int b))) (hsc : ∀ z (h : Heap) (v : Value), Rel h (fv z) v → Scal (fv z) v)
    (hd : (zn == ("__debug__" : Str)) = false := by decide +kernel)
    (hs : ∀ env, starEach [e1, e2] env = (false, eval e1 env) :: starEach [e2] env := by intro _; rfl) (hs' : ∀ env, starEach [e2] env = [(false, eval e2 env)] := by intro _; rfl)
    (hfold : ∀ env x, foldedSetIterable (.Call (.Name zn p) [e1, e2] [] p') env x = pure x := by intro _ _; rfl) :
    QE C n names vars σ (.ListComp elt [⟨.Tuple [.Name xa pa, .Name xb pb] kt pt, .Call (.Name zn p) [e1, e2] [] p', [], 0⟩] scope pos) (.lst (((as.map AV.int).zip (bs.map AV.int)).map fv)) := .mk fun env A s E R P L => by
  have S := compScope hS
  obtain ⟨cl, hcl, -⟩ := closure_of (env := env) (scope := scope) fun p hp hf => by cases freeIn_mem hfree p hp hf
  rw [eval_ListComp]
  refine wpAny_comprehension_free (use := none) rfl (hfold env) hcl S.kind S.names ?_
  refine wpAny_Call_NameR (wpAny_Name (load_blt E P hk hg hb ?_) hd)
  refine PyProof.Rows.callWith_type1 (spliced_more (wp_post (h1.run env A s E R P L) fun v s₁ ⟨r1, k1⟩ => spliced_more (wp_post (h2.run env A s₁ E R (P.keeps k1.heap) (L.keeps k1.heap)) fun v' s₂ ⟨r2, k2⟩ => spliced_none ?_) (hs' env)) (hs env)) (hs env) (by rw [hs' env]; rfl)
  obtain ⟨l1, vs1, rfl, hl1, ra1⟩ := (r1.keeps k2.heap).lst_inv
  obtain ⟨l2, vs2, rfl, hl2, ra2⟩ := r2.lst_inv
  have a1 : l1 < s₂.heap.objs.size := by obtain ⟨_, e, _⟩ := hl1; exact Heap.lt_size e
  have a2 : l2 < s₂.heap.objs.size := by obtain ⟨_, e, _⟩ := hl2; exact Heap.lt_size e
  refine call_zip_2 hl1 hl2 fun h₃ hz hTI hTO hi1 hi2 hsz₃ hk₃ => ?_
  have D := zipApart_new a1 a2
  have W := (WalksT.zip2 (prog := C.prog) (w := C.w) R.hd _ _ _ _ _ l1 l2 D vs1.toArray vs2.toArray).toU
  refine wpAny_pyIter_zip hz ?_
  have len1 : vs1.length = as.length := by have := ra1.length; simpa using this.symm
  have len2 : vs2.length = bs.length := by have := ra2.length; simpa using this.symm
  have hlen : min vs1.toArray.size vs2.toArray.size = ((as.map AV.int).zip (bs.map AV.int)).length := by simp [len1, len2]
  rw [hlen] at W
  have hst₃ := And.intro hz (And.intro hTI (And.intro (show ∃ a b, IsPair h₃ (s₂.heap.objs.size + 3) a b from ⟨_, _, hTO⟩) (And.intro hi1 (And.intro hi2 (And.intro (Heap.IsList.at hl1 fun o e => hk₃ _ o e) (Heap.IsList.at hl2 fun o e => hk₃ _ o e))))))
  have kk : ∀ b o, s.heap.get? b = some o → s₂.heap.get? b = some o := fun b o e => k2.heap b o (k1.heap b o e)
  refine wpAny_newObj_type (wpAny_newFunctionEnv S.cell (by intro y hy; simp at hy) (fun h₁ hns₁ hsb₁ => ?_) S.kind)
  dsimp only at hns₁ hsb₁ ⊢
  generalize hH2 : h₃.push { cls := .type "list", dict := none, data := .seq ([] : List Value).toArray } = H2 at hns₁ hsb₁ ⊢
  have hC : H2.objs.size = h₃.objs.size + 1 := by rw [← hH2, Heap.size_push]
  have hDC : h₃.objs.size ≠ H2.objs.size := by rw [hC]; exact Nat.ne_of_lt (Nat.lt_succ_self _)
  have below : ∀ b, b < h₃.objs.size → b ≠ H2.objs.size ∧ b ≠ h₃.objs.size := fun b hb => ⟨by rw [hC]; exact Nat.ne_of_lt (Nat.lt_succ_of_lt hb), Nat.ne_of_lt hb⟩
  have fplt : ∀ b ∈ [s₂.heap.objs.size + 4, s₂.heap.objs.size + 2, s₂.heap.objs.size + 3, s₂.heap.objs.size, s₂.heap.objs.size + 1, l1, l2], b < h₃.objs.size := fun b hb => by
    simp only [List.mem_cons, List.not_mem_nil, or_false] at hb
    rw [hsz₃]
    rcases hb with rfl | rfl | rfl | rfl | rfl | rfl | rfl
    · (first | lia | omega)
    · (first | lia | omega)
    · (first | lia | omega)
    · (first | lia | omega)
    · (first | lia | omega)
    · exact Nat.lt_of_lt_of_le a1 (Nat.le_add_right _ _)
    · exact Nat.lt_of_lt_of_le a2 (Nat.le_add_right _ _)
  have old : ∀ b o, h₃.get? b = some o → h₁.get? b = some o := fun b o e => hsb₁.extBut b o (below b (Heap.lt_size e)).1 (Heap.get?_push_of_some _ (hH2 ▸ Heap.get?_push_of_some _ e))
  have hacc : h₁.PlainList h₃.objs.size #[] := ⟨_, hsb₁.extBut _ _ hDC (Heap.get?_push_of_some _ (hH2 ▸ Heap.get?_push_size _ rfl))⟩
  have hst₁ := W.frame _ _ _ hst₃ fun b _ o e => old b o e
  have wrge : ∀ b ∈ [s₂.heap.objs.size + 4, s₂.heap.objs.size + 3, s₂.heap.objs.size, s₂.heap.objs.size + 1], s₂.heap.objs.size ≤ b := fun b hb => by
    simp only [List.mem_cons, List.not_mem_nil, or_false] at hb
    rcases hb with rfl | rfl | rfl | rfl <;> (first | lia | omega)
  have loop : ∀ s₃ : Shared, s₃ = { s₂ with heap := h₁, toks := s₂.toks + ([] : List (Str × Value)).length } →
      codeAny (model C.prog C.w) A (.compLoop (.ListComp elt [⟨.Tuple [.Name xa pa, .Name xb pb] kt pt, .Call (.Name zn p) [e1, e2] [] p', [], 0⟩] scope pos) 0 (.ref (s₂.heap.objs.size + 4)) (.ref h₃.objs.size) (compEnvC scope cl H2.objs.size env))
        (compPost (model C.prog C.w) A bot none (fun v s' => Rel s'.heap (.lst (((as.map AV.int).zip (bs.map AV.int)).map fv)) v ∧ Kp s s') (.ref h₃.objs.size) H2.objs.size) s₃ := by
    rintro s₃ rfl
    refine comp_pair_loop (s := s) E R P S Sb hab W ?_ ?_ ?_ (fun z _ => hsc z) hDC (fun hm => Nat.lt_irrefl _ (fplt _ hm)) (fun hm => by have := fplt _ hm; rw [hC] at this; exact Nat.lt_irrefl _ (Nat.lt_of_succ_lt this)) hst₁ hacc hns₁ ?_ ?_
    · rintro i vals ⟨x, y, hx, hy, rfl⟩
      have hx' : vs1[i]? = some x := by simpa using hx
      have hy' : vs2[i]? = some y := by simpa using hy
      have hi1 : i < as.length := by rw [← len1]; exact (List.getElem?_eq_some_iff.mp hx').1
      have hi2 : i < bs.length := by rw [← len2]; exact (List.getElem?_eq_some_iff.mp hy').1
      refine ⟨.int as[i], .int bs[i], x, y, ?_, rfl, scal_int (ra1.get i _ _ ?_ hx'), scal_int (ra2.get i _ _ ?_ hy')⟩
      · simp [List.getElem?_zip_eq_some, hi1, hi2]
      · simp [hi1]
      · simp [hi2]
    · simp; (first | lia | omega)
    · rintro ⟨a, b⟩ hz
      obtain ⟨ha, hb⟩ := List.of_mem_zip hz
      obtain ⟨a, ha', rfl⟩ := List.mem_map.mp ha
      obtain ⟨b, hb', rfl⟩ := List.mem_map.mp hb
      exact he a ha' b hb'
    · intro b o e
      have e2 := kk b o e
      have e3 := hk₃ b o e2
      exact ⟨(below b (Heap.lt_size e3)).1, fun hm => Nat.lt_irrefl _ (Nat.lt_of_lt_of_le (Heap.lt_size e2) (wrge b hm)), (below b (Heap.lt_size e3)).2, old b o e3⟩
    · intro h' tk m' ys hn hl hF hk
      refine ⟨m', hn, fun h'' hs'' => ?_⟩
      refine ⟨.lst' (vs := ys.toList) (by simpa using hl.extBut hs''.extBut hDC) (hF _), ?_⟩
      obtain ⟨h1, t1, ek1, q1⟩ := k1.keeps
      obtain ⟨h2, t2, ek2, q2⟩ := k2.keeps
      refine ⟨h'', tk, by rw [ek2, ek1], fun b o e => ?_⟩
      have e2 := kk b o e
      have e3 := hk₃ b o e2
      have hb := below b (Heap.lt_size e3)
      exact hs''.extBut b o hb.1 (hk b o hb.1 (fun hm => Nat.lt_irrefl _ (Nat.lt_of_lt_of_le (Heap.lt_size e2) (wrge b hm))) hb.2 (old b o e3))
  exact codeAny_compStart_list (loop _ rfl) (W.self 0 _ _ _ hst₁ (loop _ rfl))
end
end Mine
end

noncomputable section
open PySem PySem.Calls PyProof.Rows PySem.W PySem.Flt PySem.SeqAt
set_option Elab.async false
set_option linter.unusedVariables false
namespace Mine
noncomputable def recOf (s : Option Stmt) (qual : Str) (clo : List (Str × Addr)) (code : Addr) (dflt : Value) : FnRec :=
  match s with
  | some (.FunctionDef _ args body _ _ _ scope _ _ _) => ⟨args, body, scope, qual, clo, code, dflt⟩
  | _ => ⟨⟨[], [], none, [], [], none, []⟩, [], { kind := .function, names := [], isGenerator := false, isCoroutine := false }, qual, clo, code, dflt⟩
noncomputable def topAt (i : Nat) : Option Stmt := PySem.Challenge.pw_sh0020_01.main.body[i]?
noncomputable def methAt (i : Nat) : Option Stmt := match topAt 3 with
  | some (.ClassDef _ _ _ body _ _ _ _ _ _ _) => body[i]?
  | _ => none
noncomputable def clsCell : List (Str × Addr) := [("__class__", 25)]
noncomputable def f_init : FnRec := recOf (methAt 0) "_Accumulator.__init__" clsCell 37 (.ref 30)
noncomputable def f_push : FnRec := recOf (methAt 1) "_Accumulator.push" [] 44 .none
noncomputable def f_pop_from : FnRec := recOf (methAt 2) "_Accumulator.pop_from" [] 52 (.ref 46)
noncomputable def f_pop : FnRec := recOf (methAt 3) "_Accumulator.pop" clsCell 60 .none
noncomputable def f_len : FnRec := recOf (methAt 4) "_Accumulator.__len__" [] 67 .none
noncomputable def f_str : FnRec := recOf (methAt 5) "_Accumulator.__str__" [] 74 .none
noncomputable def f_part_count : FnRec := recOf (methAt 8) "_Accumulator.part_count" clsCell 97 .none
noncomputable def f_rgb : FnRec := recOf (topAt 8) "rgb_to_hls" [] 111 .none
noncomputable def f_hls : FnRec := recOf (topAt 9) "hls_to_rgb" [] 118 .none
noncomputable def f_v : FnRec := recOf (topAt 10) "_v" [] 125 .none
noncomputable def f_sub : FnRec := recOf (topAt 15) "_substitution_cost" [] 132 .none
noncomputable def f_lev : FnRec := recOf (topAt 16) "_levenshtein_distance" [] 139 .none
noncomputable def f_turn : FnRec := recOf (topAt 18) "_law_turn" [] 144 .none
noncomputable def f_short : FnRec := recOf (topAt 19) "_law_short" [] 149 .none
noncomputable def f_struck : FnRec := recOf (topAt 20) "_law_struck" [] 156 .none
noncomputable def f_told : FnRec := recOf (topAt 21) "_law_told" [] 163 .none
noncomputable def f_law : FnRec := recOf (topAt 22) "law" [] 168 .none
noncomputable abbrev WK := World × Frag
noncomputable def globsL : List (Str × GV) := [("_v", .fn 126), ("rgb_to_hls", .fn 112), ("hls_to_rgb", .fn 119), ("_substitution_cost", .fn 133), ("_levenshtein_distance", .fn 140), ("_law_turn", .fn 145), ("_law_short", .fn 150), ("_law_struck", .fn 157), ("_law_told", .fn 164), ("_Accumulator", .fn 101),
    ("ONE_THIRD", .av (.flt 4599676419421066581)), ("ONE_SIXTH", .av (.flt 4595172819793696085)), ("TWO_THIRD", .av (.flt 4604180019048437077)),
    ("EMPTYSTRING", .av (.str "")), ("_MAX_STRING_SIZE", .av (.int 40)), ("_MOVE_COST", .av (.int 2)), ("_CASE_COST", .av (.int 1)),
    ("max", .none), ("min", .none), ("abs", .none), ("int", .none), ("len", .none), ("range", .none), ("sum", .none), ("list", .none), ("str", .none), ("zip", .none), ("super", .none)]
noncomputable def fnsL : List (Addr × FnRec) := [(126, f_v), (112, f_rgb), (119, f_hls), (133, f_sub), (140, f_lev), (145, f_turn), (150, f_short), (157, f_struck), (164, f_told), (169, f_law), (38, f_init), (45, f_push), (53, f_pop_from), (61, f_pop), (68, f_len), (75, f_str), (98, f_part_count)]
noncomputable def CC (w : WK) : Cx where
  prog := PySem.Challenge.pw_sh0020_01
  w := w.1
  frag := w.2
  globs := globsL
  blts := [("max", .builtin "max"), ("min", .builtin "min"), ("abs", .builtin "abs"), ("int", .type "int"), ("len", .builtin "len"), ("range", .type "range"), ("sum", .builtin "sum"), ("list", .type "list"), ("str", .type "str"), ("zip", .type "zip"), ("super", .type "super")]
  fns := fnsL
variable {w : WK}
theorem g_v : (("_v" : Str), GV.fn 126) ∈ (CC w).globs := .head _
theorem g_rgb_to_hls : (("rgb_to_hls" : Str), GV.fn 112) ∈ (CC w).globs := .tail _ (.head _)
theorem g_hls_to_rgb : (("hls_to_rgb" : Str), GV.fn 119) ∈ (CC w).globs := .tail _ (.tail _ (.head _))
theorem g_substitution_cost : (("_substitution_cost" : Str), GV.fn 133) ∈ (CC w).globs := .tail _ (.tail _ (.tail _ (.head _)))
theorem g_levenshtein_distance : (("_levenshtein_distance" : Str), GV.fn 140) ∈ (CC w).globs := .tail _ (.tail _ (.tail _ (.tail _ (.head _))))
theorem g_law_turn : (("_law_turn" : Str), GV.fn 145) ∈ (CC w).globs := .tail _ (.tail _ (.tail _ (.tail _ (.tail _ (.head _)))))
theorem g_law_short : (("_law_short" : Str), GV.fn 150) ∈ (CC w).globs := .tail _ (.tail _ (.tail _ (.tail _ (.tail _ (.tail _ (.head _))))))
theorem g_law_struck : (("_law_struck" : Str), GV.fn 157) ∈ (CC w).globs := .tail _ (.tail _ (.tail _ (.tail _ (.tail _ (.tail _ (.tail _ (.head _)))))))
theorem g_law_told : (("_law_told" : Str), GV.fn 164) ∈ (CC w).globs := .tail _ (.tail _ (.tail _ (.tail _ (.tail _ (.tail _ (.tail _ (.tail _ (.head _))))))))
theorem g_Accumulator : (("_Accumulator" : Str), GV.fn 101) ∈ (CC w).globs := .tail _ (.tail _ (.tail _ (.tail _ (.tail _ (.tail _ (.tail _ (.tail _ (.tail _ (.head _)))))))))
theorem g_ONE_THIRD : (("ONE_THIRD" : Str), GV.av (.flt 4599676419421066581)) ∈ (CC w).globs := .tail _ (.tail _ (.tail _ (.tail _ (.tail _ (.tail _ (.tail _ (.tail _ (.tail _ (.tail _ (.head _))))))))))
theorem g_ONE_SIXTH : (("ONE_SIXTH" : Str), GV.av (.flt 4595172819793696085)) ∈ (CC w).globs := .tail _ (.tail _ (.tail _ (.tail _ (.tail _ (.tail _ (.tail _ (.tail _ (.tail _ (.tail _ (.tail _ (.head _)))))))))))
theorem g_TWO_THIRD : (("TWO_THIRD" : Str), GV.av (.flt 4604180019048437077)) ∈ (CC w).globs := .tail _ (.tail _ (.tail _ (.tail _ (.tail _ (.tail _ (.tail _ (.tail _ (.tail _ (.tail _ (.tail _ (.tail _ (.head _))))))))))))
theorem g_EMPTYSTRING : (("EMPTYSTRING" : Str), GV.av (.str "")) ∈ (CC w).globs := .tail _ (.tail _ (.tail _ (.tail _ (.tail _ (.tail _ (.tail _ (.tail _ (.tail _ (.tail _ (.tail _ (.tail _ (.tail _ (.head _)))))))))))))
theorem g_MAX_STRING_SIZE : (("_MAX_STRING_SIZE" : Str), GV.av (.int 40)) ∈ (CC w).globs := .tail _ (.tail _ (.tail _ (.tail _ (.tail _ (.tail _ (.tail _ (.tail _ (.tail _ (.tail _ (.tail _ (.tail _ (.tail _ (.tail _ (.head _))))))))))))))
theorem g_MOVE_COST : (("_MOVE_COST" : Str), GV.av (.int 2)) ∈ (CC w).globs := .tail _ (.tail _ (.tail _ (.tail _ (.tail _ (.tail _ (.tail _ (.tail _ (.tail _ (.tail _ (.tail _ (.tail _ (.tail _ (.tail _ (.tail _ (.head _)))))))))))))))
theorem g_CASE_COST : (("_CASE_COST" : Str), GV.av (.int 1)) ∈ (CC w).globs := .tail _ (.tail _ (.tail _ (.tail _ (.tail _ (.tail _ (.tail _ (.tail _ (.tail _ (.tail _ (.tail _ (.tail _ (.tail _ (.tail _ (.tail _ (.tail _ (.head _))))))))))))))))
theorem g_max : (("max" : Str), GV.none) ∈ (CC w).globs := .tail _ (.tail _ (.tail _ (.tail _ (.tail _ (.tail _ (.tail _ (.tail _ (.tail _ (.tail _ (.tail _ (.tail _ (.tail _ (.tail _ (.tail _ (.tail _ (.tail _ (.head _)))))))))))))))))
theorem b_max : (("max" : Str), ((.builtin "max") : Value)) ∈ (CC w).blts := .head _
theorem g_min : (("min" : Str), GV.none) ∈ (CC w).globs := .tail _ (.tail _ (.tail _ (.tail _ (.tail _ (.tail _ (.tail _ (.tail _ (.tail _ (.tail _ (.tail _ (.tail _ (.tail _ (.tail _ (.tail _ (.tail _ (.tail _ (.tail _ (.head _))))))))))))))))))
theorem b_min : (("min" : Str), ((.builtin "min") : Value)) ∈ (CC w).blts := .tail _ (.head _)
theorem g_abs : (("abs" : Str), GV.none) ∈ (CC w).globs := .tail _ (.tail _ (.tail _ (.tail _ (.tail _ (.tail _ (.tail _ (.tail _ (.tail _ (.tail _ (.tail _ (.tail _ (.tail _ (.tail _ (.tail _ (.tail _ (.tail _ (.tail _ (.tail _ (.head _)))))))))))))))))))
theorem b_abs : (("abs" : Str), ((.builtin "abs") : Value)) ∈ (CC w).blts := .tail _ (.tail _ (.head _))
theorem g_int : (("int" : Str), GV.none) ∈ (CC w).globs := .tail _ (.tail _ (.tail _ (.tail _ (.tail _ (.tail _ (.tail _ (.tail _ (.tail _ (.tail _ (.tail _ (.tail _ (.tail _ (.tail _ (.tail _ (.tail _ (.tail _ (.tail _ (.tail _ (.tail _ (.head _))))))))))))))))))))
theorem b_int : (("int" : Str), ((.type "int") : Value)) ∈ (CC w).blts := .tail _ (.tail _ (.tail _ (.head _)))
theorem g_len : (("len" : Str), GV.none) ∈ (CC w).globs := .tail _ (.tail _ (.tail _ (.tail _ (.tail _ (.tail _ (.tail _ (.tail _ (.tail _ (.tail _ (.tail _ (.tail _ (.tail _ (.tail _ (.tail _ (.tail _ (.tail _ (.tail _ (.tail _ (.tail _ (.tail _ (.head _)))))))))))))))))))))
theorem b_len : (("len" : Str), ((.builtin "len") : Value)) ∈ (CC w).blts := .tail _ (.tail _ (.tail _ (.tail _ (.head _))))
theorem g_range : (("range" : Str), GV.none) ∈ (CC w).globs := .tail _ (.tail _ (.tail _ (.tail _ (.tail _ (.tail _ (.tail _ (.tail _ (.tail _ (.tail _ (.tail _ (.tail _ (.tail _ (.tail _ (.tail _ (.tail _ (.tail _ (.tail _ (.tail _ (.tail _ (.tail _ (.tail _ (.head _))))))))))))))))))))))
theorem b_range : (("range" : Str), ((.type "range") : Value)) ∈ (CC w).blts := .tail _ (.tail _ (.tail _ (.tail _ (.tail _ (.head _)))))
theorem g_sum : (("sum" : Str), GV.none) ∈ (CC w).globs := .tail _ (.tail _ (.tail _ (.tail _ (.tail _ (.tail _ (.tail _ (.tail _ (.tail _ (.tail _ (.tail _ (.tail _ (.tail _ (.tail _ (.tail _ (.tail _ (.tail _ (.tail _ (.tail _ (.tail _ (.tail _ (.tail _ (.tail _ (.head _)))))))))))))))))))))))
theorem b_sum : (("sum" : Str), ((.builtin "sum") : Value)) ∈ (CC w).blts := .tail _ (.tail _ (.tail _ (.tail _ (.tail _ (.tail _ (.head _))))))
theorem g_list : (("list" : Str), GV.none) ∈ (CC w).globs := .tail _ (.tail _ (.tail _ (.tail _ (.tail _ (.tail _ (.tail _ (.tail _ (.tail _ (.tail _ (.tail _ (.tail _ (.tail _ (.tail _ (.tail _ (.tail _ (.tail _ (.tail _ (.tail _ (.tail _ (.tail _ (.tail _ (.tail _ (.tail _ (.head _))))))))))))))))))))))))
theorem b_list : (("list" : Str), ((.type "list") : Value)) ∈ (CC w).blts := .tail _ (.tail _ (.tail _ (.tail _ (.tail _ (.tail _ (.tail _ (.head _)))))))
theorem g_str : (("str" : Str), GV.none) ∈ (CC w).globs := .tail _ (.tail _ (.tail _ (.tail _ (.tail _ (.tail _ (.tail _ (.tail _ (.tail _ (.tail _ (.tail _ (.tail _ (.tail _ (.tail _ (.tail _ (.tail _ (.tail _ (.tail _ (.tail _ (.tail _ (.tail _ (.tail _ (.tail _ (.tail _ (.tail _ (.head _)))))))))))))))))))))))))
theorem b_str : (("str" : Str), ((.type "str") : Value)) ∈ (CC w).blts := .tail _ (.tail _ (.tail _ (.tail _ (.tail _ (.tail _ (.tail _ (.tail _ (.head _))))))))
theorem g_zip : (("zip" : Str), GV.none) ∈ (CC w).globs := .tail _ (.tail _ (.tail _ (.tail _ (.tail _ (.tail _ (.tail _ (.tail _ (.tail _ (.tail _ (.tail _ (.tail _ (.tail _ (.tail _ (.tail _ (.tail _ (.tail _ (.tail _ (.tail _ (.tail _ (.tail _ (.tail _ (.tail _ (.tail _ (.tail _ (.tail _ (.head _))))))))))))))))))))))))))
theorem b_zip : (("zip" : Str), ((.type "zip") : Value)) ∈ (CC w).blts := .tail _ (.tail _ (.tail _ (.tail _ (.tail _ (.tail _ (.tail _ (.tail _ (.tail _ (.head _)))))))))
theorem g_super : (("super" : Str), GV.none) ∈ (CC w).globs := .tail _ (.tail _ (.tail _ (.tail _ (.tail _ (.tail _ (.tail _ (.tail _ (.tail _ (.tail _ (.tail _ (.tail _ (.tail _ (.tail _ (.tail _ (.tail _ (.tail _ (.tail _ (.tail _ (.tail _ (.tail _ (.tail _ (.tail _ (.tail _ (.tail _ (.tail _ (.tail _ (.head _)))))))))))))))))))))))))))
theorem b_super : (("super" : Str), ((.type "super") : Value)) ∈ (CC w).blts := .tail _ (.tail _ (.tail _ (.tail _ (.tail _ (.tail _ (.tail _ (.tail _ (.tail _ (.tail _ (.head _))))))))))
theorem i_v : (126, f_v) ∈ (CC w).fns := .head _
theorem i_rgb : (112, f_rgb) ∈ (CC w).fns := .tail _ (.head _)
theorem i_hls : (119, f_hls) ∈ (CC w).fns := .tail _ (.tail _ (.head _))
theorem i_sub : (133, f_sub) ∈ (CC w).fns := .tail _ (.tail _ (.tail _ (.head _)))
theorem i_lev : (140, f_lev) ∈ (CC w).fns := .tail _ (.tail _ (.tail _ (.tail _ (.head _))))
theorem i_turn : (145, f_turn) ∈ (CC w).fns := .tail _ (.tail _ (.tail _ (.tail _ (.tail _ (.head _)))))
theorem i_short : (150, f_short) ∈ (CC w).fns := .tail _ (.tail _ (.tail _ (.tail _ (.tail _ (.tail _ (.head _))))))
theorem i_struck : (157, f_struck) ∈ (CC w).fns := .tail _ (.tail _ (.tail _ (.tail _ (.tail _ (.tail _ (.tail _ (.head _)))))))
theorem i_told : (164, f_told) ∈ (CC w).fns := .tail _ (.tail _ (.tail _ (.tail _ (.tail _ (.tail _ (.tail _ (.tail _ (.head _))))))))
theorem i_law : (169, f_law) ∈ (CC w).fns := .tail _ (.tail _ (.tail _ (.tail _ (.tail _ (.tail _ (.tail _ (.tail _ (.tail _ (.head _)))))))))
theorem i_init : (38, f_init) ∈ (CC w).fns := .tail _ (.tail _ (.tail _ (.tail _ (.tail _ (.tail _ (.tail _ (.tail _ (.tail _ (.tail _ (.head _))))))))))
theorem i_push : (45, f_push) ∈ (CC w).fns := .tail _ (.tail _ (.tail _ (.tail _ (.tail _ (.tail _ (.tail _ (.tail _ (.tail _ (.tail _ (.tail _ (.head _)))))))))))
theorem i_pop_from : (53, f_pop_from) ∈ (CC w).fns := .tail _ (.tail _ (.tail _ (.tail _ (.tail _ (.tail _ (.tail _ (.tail _ (.tail _ (.tail _ (.tail _ (.tail _ (.head _))))))))))))
theorem i_pop : (61, f_pop) ∈ (CC w).fns := .tail _ (.tail _ (.tail _ (.tail _ (.tail _ (.tail _ (.tail _ (.tail _ (.tail _ (.tail _ (.tail _ (.tail _ (.tail _ (.head _)))))))))))))
theorem i_len : (68, f_len) ∈ (CC w).fns := .tail _ (.tail _ (.tail _ (.tail _ (.tail _ (.tail _ (.tail _ (.tail _ (.tail _ (.tail _ (.tail _ (.tail _ (.tail _ (.tail _ (.head _))))))))))))))
theorem i_str : (75, f_str) ∈ (CC w).fns := .tail _ (.tail _ (.tail _ (.tail _ (.tail _ (.tail _ (.tail _ (.tail _ (.tail _ (.tail _ (.tail _ (.tail _ (.tail _ (.tail _ (.tail _ (.head _)))))))))))))))
theorem i_part_count : (98, f_part_count) ∈ (CC w).fns := .tail _ (.tail _ (.tail _ (.tail _ (.tail _ (.tail _ (.tail _ (.tail _ (.tail _ (.tail _ (.tail _ (.tail _ (.tail _ (.tail _ (.tail _ (.tail _ (.head _))))))))))))))))
end Mine
end

noncomputable section
open PySem PySem.Calls PyProof.Rows PySem.W PySem.Flt PySem.SeqAt
set_option Elab.async false
set_option linter.unusedVariables false
namespace Mine
variable {w : WK} {n : Nat}
noncomputable def ltB (a b : UInt64) : Bool := Float64.cmp a b == some Ordering.lt
noncomputable def leB (a b : UInt64) : Bool := Float64.cmp a b == some Ordering.lt || Float64.cmp a b == some Ordering.eq
noncomputable def eqB (a b : UInt64) : Bool := Float64.cmp a b == some Ordering.eq
noncomputable def one64 : UInt64 := 4607182418800017408
noncomputable def mod1 (x : UInt64) : UInt64 := (Float64.divmod x 4607182418800017408).2
noncomputable def two64 : UInt64 := 4611686018427387904
noncomputable def half64 : UInt64 := 4602678819172646912
noncomputable def six64 : UInt64 := 4618441417868443648
noncomputable def four64 : UInt64 := 4616189618054758400
noncomputable def third64 : UInt64 := 4599676419421066581
noncomputable def sixth64 : UInt64 := 4595172819793696085
noncomputable def twothird64 : UInt64 := 4604180019048437077
theorem ret_eq {v v' : AV} {σ : List (Option AV)} {μ : Mu} (h : v = v') : Ret v' (.rt v) σ μ := congrArg Fl.rt h
theorem isZero_c {x : UInt64} (h : Float64.isZero x = false) : ¬ Float64.isZero x = true := by simp [h]

noncomputable def py_v (m1 m2 hue : UInt64) : UInt64 :=
  if ltB (mod1 hue) sixth64 = true then Float64.add m1 (Float64.mul (Float64.mul (Float64.sub m2 m1) (mod1 hue)) six64)
  else if ltB (mod1 hue) half64 = true then m2
  else if ltB (mod1 hue) twothird64 = true then Float64.add m1 (Float64.mul (Float64.mul (Float64.sub m2 m1) (Float64.sub twothird64 (mod1 hue))) six64)
  else m1
noncomputable def vars_v : Vars := [("m1", false), ("m2", false), ("hue", false)]
theorem sig_v : Sig f_v ["m1", "m2", "hue"] vars_v := ⟨rfl, rfl, rfl, rfl, by decide +kernel, by decide +kernel, by decide +kernel, by decide +kernel⟩
theorem bind_v : ∀ fd (rs : List Value), fd.params = f_v.params → fd.defaults = f_v.dflt → rs.length = 3 → bindArgs fd ⟨rs, []⟩ = pure ((["m1", "m2", "hue"] : List Str).zip rs) := by
  intro fd rs hp hd hl
  obtain ⟨a, b, c, rfl⟩ := len3 hl
  unfold bindArgs
  rw [hp, hd]
  rfl
theorem call_v {m1 m2 hue : UInt64} : CallOk (CC w) (n + 1) (.ref 126) [.flt m1, .flt m2, .flt hue] (.flt (py_v m1 m2 hue)) := by
  refine CallOk.def sig_v i_v rfl bind_v ?_
  refine XS.set (x := "hue") (QE.bin (QE.name (.nth 2 rfl rfl) rfl) QE.flt (modF ?_)) (.there (.there .here)) ?_
  · decide +kernel
  refine XS.iteR (.of (QB.cmp (QE.name (.nth 2 rfl rfl) rfl) (QE.glob (by decide +kernel) g_ONE_SIXTH (by decide +kernel)) ltF (by with_unfolding_all rfl))) (fun h => ?_) fun h1 => ?_
  · exact XS.ret (QE.bin (QE.name .here rfl) (QE.bin (QE.bin (QE.bin (QE.name (.there .here) rfl) (QE.name .here rfl) subF) (QE.name (.nth 2 rfl rfl) rfl) mulF) QE.flt mulF) addF) ⟨by simp, congrArg (fun x => Fl.rt (.flt x)) (if_pos (show ltB (mod1 hue) sixth64 = true from h)).symm⟩
  refine XS.iteR (.of (QB.cmp (QE.name (.nth 2 rfl rfl) rfl) QE.flt ltF (by with_unfolding_all rfl))) (fun h => ?_) fun h2 => ?_
  · refine XS.ret (QE.name (.there .here) rfl) ⟨by simp, congrArg (fun x => Fl.rt (.flt x)) ?_⟩
    unfold py_v
    rw [if_neg (show ¬ ltB (mod1 hue) sixth64 = true from ne_true_of_eq_false h1), if_pos (show ltB (mod1 hue) half64 = true from h)]
  refine XS.iteR (.of (QB.cmp (QE.name (.nth 2 rfl rfl) rfl) (QE.glob (by decide +kernel) g_TWO_THIRD (by decide +kernel)) ltF (by with_unfolding_all rfl))) (fun h => ?_) fun h3 => ?_
  · refine XS.ret (QE.bin (QE.name .here rfl) (QE.bin (QE.bin (QE.bin (QE.name (.there .here) rfl) (QE.name .here rfl) subF) (QE.bin (QE.glob (by decide +kernel) g_TWO_THIRD (by decide +kernel)) (QE.name (.nth 2 rfl rfl) rfl) subF) mulF) QE.flt mulF) addF) ⟨by simp, congrArg (fun x => Fl.rt (.flt x)) ?_⟩
    unfold py_v
    rw [if_neg (show ¬ ltB (mod1 hue) sixth64 = true from ne_true_of_eq_false h1), if_neg (show ¬ ltB (mod1 hue) half64 = true from ne_true_of_eq_false h2), if_pos (show ltB (mod1 hue) twothird64 = true from h)]
    rfl
  refine XS.ret (QE.name .here rfl) (congrArg (fun x => Fl.rt (.flt x)) ?_)
  unfold py_v
  rw [if_neg (show ¬ ltB (mod1 hue) sixth64 = true from ne_true_of_eq_false h1), if_neg (show ¬ ltB (mod1 hue) half64 = true from ne_true_of_eq_false h2), if_neg (show ¬ ltB (mod1 hue) twothird64 = true from ne_true_of_eq_false h3)]

noncomputable def hls_m2 (l s : UInt64) : UInt64 := if leB l half64 = true then Float64.mul l (Float64.add one64 s) else Float64.sub (Float64.add l s) (Float64.mul l s)
noncomputable def py_hls (h l s : UInt64) : List UInt64 :=
  if eqB s 0 = true then [l, l, l] else
    let m2 := hls_m2 l s
    let m1 := Float64.sub (Float64.mul two64 l) m2
    [py_v m1 m2 (Float64.add h third64), py_v m1 m2 h, py_v m1 m2 (Float64.sub h third64)]
noncomputable def vars_hls : Vars := [("h", false), ("l", false), ("s", false), ("m2", false), ("m1", false)]
theorem sig_hls : Sig f_hls ["h", "l", "s"] vars_hls := ⟨rfl, rfl, rfl, rfl, by decide +kernel, by decide +kernel, by decide +kernel, by decide +kernel⟩
theorem bind_hls : ∀ fd (rs : List Value), fd.params = f_hls.params → fd.defaults = f_hls.dflt → rs.length = 3 → bindArgs fd ⟨rs, []⟩ = pure ((["h", "l", "s"] : List Str).zip rs) := by
  intro fd rs hp hd hl
  obtain ⟨a, b, c, rfl⟩ := len3 hl
  unfold bindArgs
  rw [hp, hd]
  rfl
theorem call_hls {h l s : UInt64} : CallOk (CC w) (n + 2) (.ref 119) [.flt h, .flt l, .flt s] (.tup ((py_hls h l s).map .flt)) := by
  refine CallOk.def sig_hls i_hls rfl bind_hls ?_
  refine XS.iteR (.of (QB.cmp (QE.name (.nth 2 rfl rfl) rfl) QE.flt eqF (by with_unfolding_all rfl))) (fun h1 => ?_) fun h1 => ?_
  · refine XS.ret (QE.tuple (.cons (QE.name (.there .here) rfl) (.cons (QE.name (.there .here) rfl) (.cons (QE.name (.there .here) rfl) .nil (fun _ => rfl)) (fun _ => rfl)) (fun _ => rfl)) (Nat.le_of_ble_eq_true rfl)) ⟨by simp, ret_eq ?_⟩
    unfold py_hls
    rw [if_pos (show eqB s 0 = true from h1)]
    rfl
  have fin : ∀ m2 : UInt64, m2 = hls_m2 l s → XS (CC w) (n + 1) f_hls.scope.names vars_hls true [some (.flt h), some (.flt l), some (.flt s), some (.flt m2), none] [] (f_hls.body.drop 2) (Ret (.tup ((py_hls h l s).map .flt))) := fun m2 e => by
    refine XS.set (x := "m1") (QE.bin (QE.bin QE.flt (QE.name (.there .here) rfl) mulF) (QE.name (.nth 3 rfl rfl) rfl) subF) (.there (.there (.there (.there .here)))) ?_
    refine XS.ret (QE.tuple (.cons (QE.callF (by decide +kernel) g_v i_v (.cons (QE.name (.nth 4 rfl rfl) rfl) (.cons (QE.name (.nth 3 rfl rfl) rfl) (.cons (QE.bin (QE.name .here rfl) (QE.glob (by decide +kernel) g_ONE_THIRD (by decide +kernel)) addF) .nil (fun _ => rfl)) (fun _ => rfl)) (fun _ => rfl)) call_v (by decide +kernel)) (.cons (QE.callF (by decide +kernel) g_v i_v (.cons (QE.name (.nth 4 rfl rfl) rfl) (.cons (QE.name (.nth 3 rfl rfl) rfl) (.cons (QE.name .here rfl) .nil (fun _ => rfl)) (fun _ => rfl)) (fun _ => rfl)) call_v (by decide +kernel)) (.cons (QE.callF (by decide +kernel) g_v i_v (.cons (QE.name (.nth 4 rfl rfl) rfl) (.cons (QE.name (.nth 3 rfl rfl) rfl) (.cons (QE.bin (QE.name .here rfl) (QE.glob (by decide +kernel) g_ONE_THIRD (by decide +kernel)) subF) .nil (fun _ => rfl)) (fun _ => rfl)) (fun _ => rfl)) call_v (by decide +kernel)) .nil (fun _ => rfl)) (fun _ => rfl)) (fun _ => rfl)) (Nat.le_of_ble_eq_true rfl)) (ret_eq ?_)
    unfold py_hls
    rw [if_neg (show ¬ eqB s 0 = true from ne_true_of_eq_false h1), ← e]
    rfl
  refine XS.seq (σ' := [some (.flt h), some (.flt l), some (.flt s), some (.flt (hls_m2 l s)), none]) (μ' := []) (.ite (.of (QB.cmp (QE.name (.there .here) rfl) QE.flt leF (by with_unfolding_all rfl))) (fun h2 => ?_) fun h2 => ?_) (fin _ rfl)
  · refine XS.set (x := "m2") (QE.bin (QE.name (.there .here) rfl) (QE.bin QE.flt (QE.name (.nth 2 rfl rfl) rfl) addF) mulF) (.there (.there (.there .here))) (.nil ⟨rfl, ?_, rfl⟩)
    unfold hls_m2; rw [if_pos (show leB l half64 = true from h2)]; rfl
  · refine XS.set (x := "m2") (QE.bin (QE.bin (QE.name (.there .here) rfl) (QE.name (.nth 2 rfl rfl) rfl) addF) (QE.bin (QE.name (.there .here) rfl) (QE.name (.nth 2 rfl rfl) rfl) mulF) subF) (.there (.there (.there .here))) (.nil ⟨rfl, ?_, rfl⟩)
    unfold hls_m2; rw [if_neg (show ¬ leB l half64 = true from ne_true_of_eq_false h2)]; rfl
end Mine
end

noncomputable section
open PySem PySem.Calls PyProof.Rows PySem.W PySem.Flt PySem.SeqAt
set_option Elab.async false
set_option linter.unusedVariables false
namespace Mine
variable {w : WK} {n : Nat}
noncomputable def mx (r g b : UInt64) : UInt64 := fmax (fmax r g) b
noncomputable def mn (r g b : UInt64) : UInt64 := fmin (fmin r g) b
noncomputable def rgb_l (r g b : UInt64) : UInt64 := Float64.div (Float64.add (mx r g b) (mn r g b)) two64
noncomputable def rgb_s (r g b : UInt64) : UInt64 := if leB (rgb_l r g b) half64 = true then Float64.div (Float64.sub (mx r g b) (mn r g b)) (Float64.add (mx r g b) (mn r g b))
  else Float64.div (Float64.sub (mx r g b) (mn r g b)) (Float64.sub (Float64.sub two64 (mx r g b)) (mn r g b))
noncomputable def rgb_c (r g b c : UInt64) : UInt64 := Float64.div (Float64.sub (mx r g b) c) (Float64.sub (mx r g b) (mn r g b))
noncomputable def rgb_h (r g b : UInt64) : UInt64 := if eqB r (mx r g b) = true then Float64.sub (rgb_c r g b b) (rgb_c r g b g)
  else if eqB g (mx r g b) = true then Float64.sub (Float64.add two64 (rgb_c r g b r)) (rgb_c r g b b)
  else Float64.sub (Float64.add four64 (rgb_c r g b g)) (rgb_c r g b r)
noncomputable def py_rgb (r g b : UInt64) : List UInt64 :=
  if eqB (mn r g b) (mx r g b) = true then [0, rgb_l r g b, 0]
  else [mod1 (Float64.div (rgb_h r g b) six64), rgb_l r g b, rgb_s r g b]
structure RgbOk (r g b : UInt64) : Prop where
  range : eqB (mn r g b) (mx r g b) = false → Float64.isZero (Float64.sub (mx r g b) (mn r g b)) = false
  sum : eqB (mn r g b) (mx r g b) = false → leB (rgb_l r g b) half64 = true → Float64.isZero (Float64.add (mx r g b) (mn r g b)) = false
  rest : eqB (mn r g b) (mx r g b) = false → leB (rgb_l r g b) half64 = false → Float64.isZero (Float64.sub (Float64.sub two64 (mx r g b)) (mn r g b)) = false
noncomputable def vars_rgb : Vars := [("r", false), ("g", false), ("b", false), ("maxc", false), ("minc", false), ("sumc", false), ("rangec", false), ("l", false), ("s", false), ("rc", false), ("gc", false), ("bc", false), ("h", false)]
theorem sig_rgb : Sig f_rgb ["r", "g", "b"] vars_rgb := ⟨rfl, rfl, rfl, rfl, by decide +kernel, by decide +kernel, by decide +kernel, by decide +kernel⟩
theorem bind_rgb : ∀ fd (rs : List Value), fd.params = f_rgb.params → fd.defaults = f_rgb.dflt → rs.length = 3 → bindArgs fd ⟨rs, []⟩ = pure ((["r", "g", "b"] : List Str).zip rs) := by
  intro fd rs hp hd hl
  obtain ⟨a, b, c, rfl⟩ := len3 hl
  unfold bindArgs
  rw [hp, hd]
  rfl
noncomputable def rgb_st (r g b : UInt64) (rest : List (Option AV)) : List (Option AV) := [some (.flt r), some (.flt g), some (.flt b), some (.flt (mx r g b)), some (.flt (mn r g b)), some (.flt (Float64.add (mx r g b) (mn r g b))), some (.flt (Float64.sub (mx r g b) (mn r g b))), some (.flt (rgb_l r g b))] ++ rest
theorem call_rgb {r g b : UInt64} (ok : RgbOk r g b) : CallOk (CC w) (n + 1) (.ref 112) [.flt r, .flt g, .flt b] (.tup ((py_rgb r g b).map .flt)) := by
  refine CallOk.def sig_rgb i_rgb rfl bind_rgb ?_
  refine XS.set (x := "maxc") (QE.callB (by decide +kernel) g_max b_max (.cons (QE.name .here rfl) (.cons (QE.name (.there .here) rfl) (.cons (QE.name (.nth 2 rfl rfl) rfl) .nil (fun _ => rfl)) (fun _ => rfl)) (fun _ => rfl)) max3F (by decide +kernel)) (.there (.there (.there .here))) ?_
  refine XS.set (x := "minc") (QE.callB (by decide +kernel) g_min b_min (.cons (QE.name .here rfl) (.cons (QE.name (.there .here) rfl) (.cons (QE.name (.nth 2 rfl rfl) rfl) .nil (fun _ => rfl)) (fun _ => rfl)) (fun _ => rfl)) min3F (by decide +kernel)) (.there (.there (.there (.there .here)))) ?_
  refine XS.set (x := "sumc") (QE.bin (QE.name (.nth 3 rfl rfl) rfl) (QE.name (.nth 4 rfl rfl) rfl) addF) (.there (.there (.there (.there (.there .here))))) ?_
  refine XS.set (x := "rangec") (QE.bin (QE.name (.nth 3 rfl rfl) rfl) (QE.name (.nth 4 rfl rfl) rfl) subF) (.there (.there (.there (.there (.there (.there .here)))))) ?_
  refine XS.set (x := "l") (QE.bin (QE.name (.nth 5 rfl rfl) rfl) QE.flt (divF ?_)) (.there (.there (.there (.there (.there (.there (.there .here))))))) ?_
  · decide +kernel
  refine XS.iteR (.of (QB.cmp (QE.name (.nth 4 rfl rfl) rfl) (QE.name (.nth 3 rfl rfl) rfl) eqF (by with_unfolding_all rfl))) (fun h1 => ?_) fun h1 => ?_
  · refine XS.ret (QE.tuple (.cons QE.flt (.cons (QE.name (.nth 7 rfl rfl) rfl) (.cons QE.flt .nil (fun _ => rfl)) (fun _ => rfl)) (fun _ => rfl)) (Nat.le_of_ble_eq_true rfl)) ⟨by simp, ret_eq ?_⟩
    unfold py_rgb
    rw [if_pos (show eqB (mn r g b) (mx r g b) = true from h1)]
    rfl
  refine XS.seq (σ' := rgb_st r g b [some (.flt (rgb_s r g b)), none, none, none, none]) (μ' := []) (.ite (.of (QB.cmp (QE.name (.nth 7 rfl rfl) rfl) QE.flt leF (by with_unfolding_all rfl))) (fun h2 => ?_) fun h2 => ?_) ?_
  · refine XS.set (x := "s") (QE.bin (QE.name (.nth 6 rfl rfl) rfl) (QE.name (.nth 5 rfl rfl) rfl) (divF ?_)) (.there (.there (.there (.there (.there (.there (.there (.there .here)))))))) (.nil ⟨rfl, ?_, rfl⟩)
    · exact isZero_c (ok.sum h1 h2)
    unfold rgb_s; rw [if_pos (show leB (rgb_l r g b) half64 = true from h2)]; rfl
  · refine XS.set (x := "s") (QE.bin (QE.name (.nth 6 rfl rfl) rfl) (QE.bin (QE.bin QE.flt (QE.name (.nth 3 rfl rfl) rfl) subF) (QE.name (.nth 4 rfl rfl) rfl) subF) (divF ?_)) (.there (.there (.there (.there (.there (.there (.there (.there .here)))))))) (.nil ⟨rfl, ?_, rfl⟩)
    · exact isZero_c (ok.rest h1 h2)
    unfold rgb_s; rw [if_neg (show ¬ leB (rgb_l r g b) half64 = true from ne_true_of_eq_false h2)]; rfl
  refine XS.set (x := "rc") (QE.bin (QE.bin (QE.name (.nth 3 rfl rfl) rfl) (QE.name .here rfl) subF) (QE.name (.nth 6 rfl rfl) rfl) (divF ?_)) (.there (.there (.there (.there (.there (.there (.there (.there (.there .here))))))))) ?_
  · exact isZero_c (ok.range h1)
  refine XS.set (x := "gc") (QE.bin (QE.bin (QE.name (.nth 3 rfl rfl) rfl) (QE.name (.there .here) rfl) subF) (QE.name (.nth 6 rfl rfl) rfl) (divF ?_)) (.there (.there (.there (.there (.there (.there (.there (.there (.there (.there .here)))))))))) ?_
  · exact isZero_c (ok.range h1)
  refine XS.set (x := "bc") (QE.bin (QE.bin (QE.name (.nth 3 rfl rfl) rfl) (QE.name (.nth 2 rfl rfl) rfl) subF) (QE.name (.nth 6 rfl rfl) rfl) (divF ?_)) (.there (.there (.there (.there (.there (.there (.there (.there (.there (.there (.there .here))))))))))) ?_
  · exact isZero_c (ok.range h1)
  refine XS.seq (σ' := rgb_st r g b [some (.flt (rgb_s r g b)), some (.flt (rgb_c r g b r)), some (.flt (rgb_c r g b g)), some (.flt (rgb_c r g b b)), some (.flt (rgb_h r g b))]) (μ' := []) (.ite (.of (QB.cmp (QE.name .here rfl) (QE.name (.nth 3 rfl rfl) rfl) eqF (by with_unfolding_all rfl))) (fun h2 => ?_) fun h2 => ?_) ?_
  · refine XS.set (x := "h") (QE.bin (QE.name (.nth 11 rfl rfl) rfl) (QE.name (.nth 10 rfl rfl) rfl) subF) (.there (.there (.there (.there (.there (.there (.there (.there (.there (.there (.there (.there .here)))))))))))) (.nil ⟨rfl, ?_, rfl⟩)
    unfold rgb_h; rw [if_pos (show eqB r (mx r g b) = true from h2)]; rfl
  · refine XS.last (.ite (.of (QB.cmp (QE.name (.there .here) rfl) (QE.name (.nth 3 rfl rfl) rfl) eqF (by with_unfolding_all rfl))) (fun h3 => ?_) fun h3 => ?_)
    · refine XS.set (x := "h") (QE.bin (QE.bin QE.flt (QE.name (.nth 9 rfl rfl) rfl) addF) (QE.name (.nth 11 rfl rfl) rfl) subF) (.there (.there (.there (.there (.there (.there (.there (.there (.there (.there (.there (.there .here)))))))))))) (.nil ⟨rfl, ?_, rfl⟩)
      unfold rgb_h; rw [if_neg (show ¬ eqB r (mx r g b) = true from ne_true_of_eq_false h2), if_pos (show eqB g (mx r g b) = true from h3)]; rfl
    · refine XS.set (x := "h") (QE.bin (QE.bin QE.flt (QE.name (.nth 10 rfl rfl) rfl) addF) (QE.name (.nth 9 rfl rfl) rfl) subF) (.there (.there (.there (.there (.there (.there (.there (.there (.there (.there (.there (.there .here)))))))))))) (.nil ⟨rfl, ?_, rfl⟩)
      unfold rgb_h; rw [if_neg (show ¬ eqB r (mx r g b) = true from ne_true_of_eq_false h2), if_neg (show ¬ eqB g (mx r g b) = true from ne_true_of_eq_false h3)]; rfl
  refine XS.set (x := "h") (QE.bin (QE.bin (QE.name (.nth 12 rfl rfl) rfl) QE.flt (divF ?_)) QE.flt (modF ?_)) (.there (.there (.there (.there (.there (.there (.there (.there (.there (.there (.there (.there .here)))))))))))) ?_
  · decide +kernel
  · decide +kernel
  refine XS.ret (QE.tuple (.cons (QE.name (.nth 12 rfl rfl) rfl) (.cons (QE.name (.nth 7 rfl rfl) rfl) (.cons (QE.name (.nth 8 rfl rfl) rfl) .nil (fun _ => rfl)) (fun _ => rfl)) (fun _ => rfl)) (Nat.le_of_ble_eq_true rfl)) (ret_eq ?_)
  unfold py_rgb
  rw [if_neg (show ¬ eqB (mn r g b) (mx r g b) = true from ne_true_of_eq_false h1)]
  rfl
end Mine
end

noncomputable section
open PySem PySem.Calls PyProof.Rows PySem.W PySem.Flt PySem.SeqAt
set_option Elab.async false
set_option linter.unusedVariables false
namespace Mine
variable {w : WK} {n : Nat}
noncomputable def fdivII (a b : Int) : UInt64 := Float64.ofFrac (decide (a < 0) != decide (b < 0)) a.natAbs b.natAbs
/-- the turn of the law, as the text computes it -/
noncomputable def sn (k W j p : Int) : Int := p - (if (j == (k + 1).fmod 3) = true then W else 0)
noncomputable def colr (p : Int) : UInt64 := Float64.add half64 (fdivII p 16384)
noncomputable def max3 (a b c : Int) : Int := imax (imax a b) c
noncomputable def min3 (a b c : Int) : Int := imin (imin a b) c
structure TurnIn where
  (a b c k W : Int)
namespace TurnIn
variable (t : TurnIn)
noncomputable def x : Int := sn t.k t.W 0 t.a
noncomputable def y : Int := sn t.k t.W 1 t.b
noncomputable def z : Int := sn t.k t.W 2 t.c
noncomputable def rgb : List UInt64 := py_rgb (colr t.x) (colr t.y) (colr t.z)
noncomputable def hue : UInt64 := t.rgb.getD 0 0
noncomputable def light : UInt64 := t.rgb.getD 1 0
noncomputable def share : UInt64 := t.rgb.getD 2 0
noncomputable def both : Int := max3 t.x t.y t.z + min3 t.x t.y t.z
noncomputable def spin : UInt64 := mod1 (Float64.sub (Float64.add half64 (fdivII (2 * t.k) 3)) t.hue)
noncomputable def lamps : List UInt64 := py_hls t.spin (Float64.sub one64 t.light) t.share
noncomputable def pt (j : Int) : Int := [t.a, t.b, t.c].getD j.toNat 0
noncomputable def st (j : Int) : Int := [t.x, t.y, t.z].getD j.toNat 0
noncomputable def lamp (j : Int) : UInt64 := Float64.add (Float64.mul (Float64.ofInt 16384) (t.lamps.getD j.toNat 0)) half64
noncomputable def told (j : Int) : Int := toI (t.lamp j) - 8192 + t.pt j - t.st j
noncomputable def due (j : Int) : Int := if (j == t.k) = true then 0 - t.pt j else t.pt j + t.pt t.k
noncomputable def out : List Int := [t.due 0, t.due 1, t.due 2]
end TurnIn
structure TurnOk (t : TurnIn) : Prop where
  k0 : 0 ≤ t.k
  k3 : t.k < 3
  small : ∀ p ∈ [t.x, t.y, t.z], p.natAbs < 16000
  both : t.both.natAbs < 16000
  rgbOk : RgbOk (colr t.x) (colr t.y) (colr t.z)
  light : eqB t.light (Float64.add half64 (fdivII t.both 32768)) = true
  share : eqB t.share (fdivII (max3 t.x t.y t.z - min3 t.x t.y t.z) (16384 - iabs t.both)) = true
  wide : (max3 t.x t.y t.z - min3 t.x t.y t.z).natAbs < 100000
  fin : ∀ j, 0 ≤ j → j < 3 → Float64.isFinite (t.lamp j) = true
  told : ∀ j, 0 ≤ j → j < 3 → t.told j = t.due j
  hue0 : leB 0 t.hue = true
  hue1 : ltB t.hue one64 = true
theorem notInf_small {sg : Bool} {a : Nat} {d : Nat} (hd : 0 < d) (h : a < 2 ^ 60) : ¬ Float64.isInf (Float64.ofFrac sg a d) = true := by
  have := notInf_ofFrac (sg := sg) (n := a) (d := d) hd (by
    have h1 : a * 2 ^ 1074 ≤ 2 ^ 60 * 2 ^ 1074 := Nat.mul_le_mul_right _ (Nat.le_of_lt h)
    have h2 : 2 * (2 ^ 60 * 2 ^ 1074) < 1 * ((2 ^ 54 - 1) * 2 ^ 2045) := by decide +kernel
    have h3 : 1 * ((2 ^ 54 - 1) * 2 ^ 2045) ≤ d * ((2 ^ 54 - 1) * 2 ^ 2045) := Nat.mul_le_mul_right _ hd
    exact Nat.lt_of_le_of_lt (Nat.mul_le_mul_left 2 h1) (Nat.lt_of_lt_of_le h2 h3))
  simp [this]
noncomputable def vars_turn : Vars := [("parts", true), ("k", true), ("whole", true), ("seen", true), ("red", false), ("green", false), ("blue", false), ("hue", false), ("light", false), ("share", false), ("both", false), ("lamps", true), ("told", false), ("due", false)]
theorem sig_turn : Sig f_turn ["parts", "k", "whole"] vars_turn := ⟨rfl, rfl, rfl, rfl, by decide +kernel, by decide +kernel, by decide +kernel, by decide +kernel⟩
theorem bind_turn : ∀ fd (rs : List Value), fd.params = f_turn.params → fd.defaults = f_turn.dflt → rs.length = 3 → bindArgs fd ⟨rs, []⟩ = pure ((["parts", "k", "whole"] : List Str).zip rs) := by
  intro fd rs hp hd hl
  obtain ⟨a, b, c, rfl⟩ := len3 hl
  unfold bindArgs
  rw [hp, hd]
  rfl
theorem call_turn {t : TurnIn} (ok : TurnOk t) : CallOk (CC w) (n + 3) (.ref 145) [.lst ([t.a, t.b, t.c].map .int), .int t.k, .int t.W] (.lst (t.out.map .int)) := by
  have hk0 := ok.k0
  have hk3 := ok.k3
  refine CallOk.def sig_turn i_turn rfl bind_turn ?_
  -- seen
  refine XS.set (v := .lst ([t.x, t.y, t.z].map .int)) (x := "seen") ((QE.compI (f := fun j => .int (sn t.k t.W j (t.pt j))) (CompOk.ints0 (by decide +kernel) (.cons .here (by decide +kernel) (.cons (.there .here) (by decide +kernel) (.cons (.there (.there .here)) (by decide +kernel) .nil))) (by decide +kernel)
    (QI.range1L (by decide +kernel) g_range b_range QE.int (by decide)) (by decide) (fun _ _ => trivial) fun j hj => ?_)).eqv rfl) (.there (.there (.there .here))) ?_ (swaps_cell (by decide +kernel))
  · obtain ⟨h0, h1⟩ := mem_rangeL hj
    refine (QE.bin (QE.sub (QE.name (.there .here) rfl) (QE.name .here rfl) (getLI ?_ ?_ ?_)) (QE.ifI (QB.cmp (QE.name .here rfl) (QE.bin (QE.bin (QE.name (.nth 2 rfl rfl) rfl) QE.int addI) QE.int (modI ?_)) eqI (by with_unfolding_all rfl)) (fun _ => (QE.name (.nth 3 rfl rfl) rfl)) (fun _ => QE.int)) subI)
    · exact h0
    · exact h1
    · exact Nat.le_of_ble_eq_true rfl
    · decide
  -- red, green, blue
  refine XS.seq (.unpackL (vs := [.flt (colr t.x), .flt (colr t.y), .flt (colr t.z)]) (.of ((QE.compI (f := fun j => .flt (colr j)) (CompOk.ints0 (by decide +kernel) .nil (by decide +kernel) (.ints (QE.name (.nth 3 rfl rfl) rfl)) (by simp) (fun _ _ => trivial) fun j hj => ?_)).eqv rfl)) (.cons (.there (.there (.there (.there .here)))) (.cons (.there (.there (.there (.there (.there .here))))) (.cons (.there (.there (.there (.there (.there (.there .here)))))) .nil))) ⟨rfl, rfl, rfl⟩) ?_
  · have := ok.small j hj
    refine (QE.bin QE.flt (QE.bin (QE.name .here rfl) QE.int (divI ?_ ?_)) addF)
    · decide
    · exact notInf_small (by decide) (by (first | lia | omega))
  -- hue, light, share
  have hrgb : t.rgb = [t.hue, t.light, t.share] := by
    unfold TurnIn.hue TurnIn.light TurnIn.share TurnIn.rgb py_rgb
    split <;> rfl
  refine XS.seq (.unpack (vs := [.flt t.hue, .flt t.light, .flt t.share]) (.of ((QE.callF (by decide +kernel) g_rgb_to_hls i_rgb (.cons (QE.name (.nth 4 rfl rfl) rfl) (.cons (QE.name (.nth 5 rfl rfl) rfl) (.cons (QE.name (.nth 6 rfl rfl) rfl) .nil (fun _ => rfl)) (fun _ => rfl)) (fun _ => rfl)) (call_rgb ?_) (by decide +kernel)).eqv (congrArg (fun l => AV.tup (l.map .flt)) hrgb))) (.cons (.there (.there (.there (.there (.there (.there (.there .here))))))) (.cons (.there (.there (.there (.there (.there (.there (.there (.there .here)))))))) (.cons (.there (.there (.there (.there (.there (.there (.there (.there (.there .here))))))))) .nil))) ⟨rfl, rfl, rfl⟩) ?_
  · exact ok.rgbOk
  refine XS.set (x := "both") (v := .int t.both) (QE.bin (QE.callB (by decide +kernel) g_max b_max (.cons (QE.name (.nth 3 rfl rfl) rfl) .nil (fun _ => rfl)) maxL3 (by decide +kernel)) (QE.callB (by decide +kernel) g_min b_min (.cons (QE.name (.nth 3 rfl rfl) rfl) .nil (fun _ => rfl)) minL3 (by decide +kernel)) addI) (.there (.there (.there (.there (.there (.there (.there (.there (.there (.there .here)))))))))) ?_
  have hw := ok.wide
  have hboth := ok.both
  refine XS.iteR (b := false) (.of (QB.eqv (QB.boolop (QT.or_cons (QB.cmp (QE.name (.nth 8 rfl rfl) rfl) (QE.bin QE.flt (QE.bin (QE.name (.nth 10 rfl rfl) rfl) QE.int (divI ?_ ?_)) addF) neF (by with_unfolding_all rfl)) fun hh0 => (QT.or_cons (QB.cmp (QE.name (.nth 9 rfl rfl) rfl) (QE.bin (QE.bin (QE.callB (by decide +kernel) g_max b_max (.cons (QE.name (.nth 3 rfl rfl) rfl) .nil (fun _ => rfl)) maxL3 (by decide +kernel)) (QE.callB (by decide +kernel) g_min b_min (.cons (QE.name (.nth 3 rfl rfl) rfl) .nil (fun _ => rfl)) minL3 (by decide +kernel)) subI) (QE.bin QE.int (QE.callB (by decide +kernel) g_abs b_abs (.cons (QE.name (.nth 10 rfl rfl) rfl) .nil (fun _ => rfl)) absI (by decide +kernel)) subI) (divI ?_ ?_)) neF (by with_unfolding_all rfl)) fun hh1 => QT.or_nil))) ?_)) (fun h => by cases h) fun _ => ?_
  · decide
  · exact notInf_small (by decide) (by (first | lia | omega))
  · show 16384 - iabs t.both ≠ 0
    unfold iabs; split <;> (first | lia | omega)
  · refine notInf_small ?_ ?_
    · show 0 < (16384 - iabs t.both).natAbs
      unfold iabs; split <;> (first | lia | omega)
    · show (max3 t.x t.y t.z - min3 t.x t.y t.z).natAbs < _
      (first | lia | omega)
  · have h1 := ok.light
    have h2 := ok.share
    show (!eqB t.light (Float64.add half64 (fdivII t.both 32768)) || (!eqB t.share (fdivII (max3 t.x t.y t.z - min3 t.x t.y t.z) (16384 - iabs t.both)) || false)) = false
    rw [h1, h2]; rfl
  -- lamps
  refine XS.set (x := "lamps") (v := .tup (t.lamps.map .flt)) (QE.callF (by decide +kernel) g_hls_to_rgb i_hls (.cons (QE.bin (QE.bin (QE.bin QE.flt (QE.bin (QE.bin QE.int (QE.name (.there .here) rfl) (mulI ?_)) QE.int (divI ?_ ?_)) addF) (QE.name (.nth 7 rfl rfl) rfl) subF) QE.flt (modF ?_)) (.cons (QE.bin QE.flt (QE.name (.nth 8 rfl rfl) rfl) subF) (.cons (QE.name (.nth 9 rfl rfl) rfl) .nil (fun _ => rfl)) (fun _ => rfl)) (fun _ => rfl)) call_hls (by decide +kernel)) (.there (.there (.there (.there (.there (.there (.there (.there (.there (.there (.there .here))))))))))) ?_
  · exact IntMulOk.of_left (by decide)
  · decide
  · exact notInf_small (by decide) (by (first | lia | omega))
  · decide +kernel
  have hlen : t.lamps.length = 3 := by unfold TurnIn.lamps py_hls; split <;> rfl
  refine XS.setI (f := fun j => .int (t.told j)) (CompOk.ints0 (by decide +kernel) (.cons .here (by decide +kernel) (.cons (.there (.there (.there .here))) (by decide +kernel) (.cons (.there (.there (.there (.there (.there (.there (.there (.there (.there (.there (.there .here))))))))))) (by decide +kernel) .nil))) (by decide +kernel)
    (QI.range1L (by decide +kernel) g_range b_range QE.int (by decide)) (by decide) (fun _ _ => trivial) fun j hj => ?_) (by decide +kernel) (.there (.there (.there (.there (.there (.there (.there (.there (.there (.there (.there (.there .here)))))))))))) ?_ (swaps_local (by decide +kernel) (by decide +kernel) (by decide +kernel))
  · obtain ⟨h0, h1⟩ := mem_rangeL hj
    refine (QE.bin (QE.bin (QE.bin (QE.callT (by decide +kernel) g_int b_int (.cons (QE.bin (QE.bin QE.int (QE.sub (QE.name (.nth 3 rfl rfl) rfl) (QE.name .here rfl) (getTF ?_ ?_ ?_)) (mulIF ?_)) QE.flt addF) .nil (fun _ => rfl)) (intF1 ?_) (by decide +kernel)) QE.int subI) (QE.sub (QE.name (.there .here) rfl) (QE.name .here rfl) (getLI ?_ ?_ ?_)) addI) (QE.sub (QE.name (.nth 2 rfl rfl) rfl) (QE.name .here rfl) (getLI ?_ ?_ ?_)) subI)
    · exact h0
    · rw [hlen]; exact h1
    · rw [hlen]; decide
    · decide +kernel
    · exact ok.fin j h0 h1
    · exact h0
    · exact h1
    · exact Nat.le_of_ble_eq_true rfl
    · exact h0
    · exact h1
    · exact Nat.le_of_ble_eq_true rfl
  refine XS.setI (f := fun j => .int (t.due j)) (CompOk.ints0 (by decide +kernel) (.cons .here (by decide +kernel) (.cons (.there .here) (by decide +kernel) .nil)) (by decide +kernel)
    (QI.range1L (by decide +kernel) g_range b_range QE.int (by decide)) (by decide) (fun _ _ => trivial) fun j hj => ?_) (by decide +kernel) (.there (.there (.there (.there (.there (.there (.there (.there (.there (.there (.there (.there (.there .here))))))))))))) ?_ (swaps_local (by decide +kernel) (by decide +kernel) (by decide +kernel))
  · obtain ⟨h0, h1⟩ := mem_rangeL hj
    refine (QE.ifI (QB.cmp (QE.name .here rfl) (QE.name (.nth 2 rfl rfl) rfl) eqI (by with_unfolding_all rfl)) (fun _ => (QE.bin QE.int (QE.sub (QE.name (.there .here) rfl) (QE.name .here rfl) (getLI ?_ ?_ ?_)) subI)) (fun _ => (QE.bin (QE.sub (QE.name (.there .here) rfl) (QE.name .here rfl) (getLI ?_ ?_ ?_)) (QE.sub (QE.name (.there .here) rfl) (QE.name (.nth 2 rfl rfl) rfl) (getLI ?_ ?_ ?_)) addI)))
    · exact h0
    · exact h1
    · exact Nat.le_of_ble_eq_true rfl
    · exact h0
    · exact h1
    · exact Nat.le_of_ble_eq_true rfl
    · exact hk0
    · exact hk3
    · exact Nat.le_of_ble_eq_true rfl
  have e1 : (rangeL 3).map (fun j => AV.int (t.told j)) = (t.out.map .int) := by
    show [AV.int (t.told 0), AV.int (t.told 1), AV.int (t.told 2)] = [AV.int (t.due 0), AV.int (t.due 1), AV.int (t.due 2)]
    rw [ok.told 0 (by decide) (by decide), ok.told 1 (by decide) (by decide), ok.told 2 (by decide) (by decide)]
  have e2 : (rangeL 3).map (fun j => AV.int (t.due j)) = (t.out.map .int) := rfl
  rw [e1, e2]
  refine XS.ret (QE.ifexp (b := true) (QB.eqv (QB.boolop (QT.and_cons (QB.cmp (QE.name (.nth 12 rfl rfl) rfl) (QE.name (.nth 13 rfl rfl) rfl) (eqLI ?_) (by with_unfolding_all rfl)) fun hh0 => (QT.and_cons (QB.cmp2 QE.flt (QE.name (.nth 7 rfl rfl) rfl) QE.flt leF ltF (by with_unfolding_all rfl)) fun hh1 => QT.and_nil))) ?_) (fun _ => (QE.name (.nth 12 rfl rfl) rfl)) (fun h => by cases h)) (ret_eq rfl)
  · rfl
  · have h1 := ok.hue0
    have h2 := ok.hue1
    show ((t.out == t.out) && ((leB 0 t.hue && ltB t.hue one64) && true)) = true
    rw [h1, h2]; simp
end Mine
end

noncomputable section
open PySem PySem.Calls PyProof.Rows PySem.W PySem.Flt PySem.SeqAt
set_option Elab.async false
set_option linter.unusedVariables false
namespace Mine
variable {w : WK} {n : Nat}
theorem qp_orNone {C : Cx} {n : Nat} {names : List (Str × NameKind)} {vars : Vars} {σ : List (Option AV)} {e : Expr} {i : Int} {k : Nat} {p p2 : Pos} (h : QE C n names vars σ e (.int i)) : QP C n names vars σ (some (.BoolOp .Or [e, .Constant .none k p] p2)) (if i = 0 then none else some i) := by
  by_cases hi : i = 0
  · rw [if_pos hi]
    subst hi
    exact .nonev (QE.or2 h truthI (fun h => by cases h) fun _ => QE.nonec)
  · rw [if_neg hi]
    refine .some (QE.or2 h truthI (fun _ => rfl) fun h => ?_)
    simp at h; exact absurd h hi

/-! one sign for another -/
noncomputable def pySub (x y : Str) : Int := if (x == y) = true then 0 else if (Txt.lower x == Txt.lower y) = true then 1 else 2
noncomputable def vars_sub : Vars := [("ch_a", false), ("ch_b", false)]
theorem sig_sub : Sig f_sub ["ch_a", "ch_b"] vars_sub := ⟨rfl, rfl, rfl, rfl, by decide +kernel, by decide +kernel, by decide +kernel, by decide +kernel⟩
theorem bind_sub : ∀ fd (rs : List Value), fd.params = f_sub.params → fd.defaults = f_sub.dflt → rs.length = 2 → bindArgs fd ⟨rs, []⟩ = pure ((["ch_a", "ch_b"] : List Str).zip rs) := by
  intro fd rs hp hd hl
  obtain ⟨a, b, rfl⟩ := len2 hl
  unfold bindArgs
  rw [hp, hd]
  rfl
theorem call_sub' {x y : Str} (hx : (Txt.lower x).length ≤ 1000000) (hy : (Txt.lower y).length ≤ 1000000) : CallOk (CC w) (n + 1) (.ref 133) [.str x, .str y] (.int (pySub x y)) := by
  refine CallOk.def sig_sub i_sub rfl bind_sub ?_
  refine XS.iteR (.of (QB.cmp (QE.name .here rfl) (QE.name (.there .here) rfl) eqS (by with_unfolding_all rfl))) (fun h => ?_) fun h1 => ?_
  · refine XS.ret QE.int ⟨by simp, ret_eq ?_⟩
    unfold pySub; rw [if_pos h]
  refine XS.iteR (.of (QB.cmp (QE.lower ?_ (QE.name .here rfl) (fun _ => rfl) (by decide)) (QE.lower ?_ (QE.name (.there .here) rfl) (fun _ => rfl) (by decide)) eqS (by with_unfolding_all rfl))) (fun h => ?_) fun h2 => ?_
  · exact hx
  · exact hy
  · refine XS.ret (QE.glob (by decide +kernel) g_CASE_COST (by decide +kernel)) ⟨by simp, ret_eq ?_⟩
    unfold pySub; rw [if_neg (by simp [h1]), if_pos h]
  refine XS.ret (QE.glob (by decide +kernel) g_MOVE_COST (by decide +kernel)) (ret_eq ?_)
  unfold pySub; rw [if_neg (by simp [h1]), if_neg (by simp [h2])]

/-- the signs of the law's words -/
noncomputable def signs : List Nat := [32, 98, 103, 114, 66, 71, 82]
noncomputable def cf (x y : Nat) : Int := if x = y then 0 else if x = y + 32 ∨ y = x + 32 then 1 else 2
theorem cf_ok : ∀ x ∈ signs, ∀ y ∈ signs, pySub (S [x]) (S [y]) = cf x y ∧ (Txt.lower (S [x])).length ≤ 1000000 := by decide +kernel
theorem call_sub {x y : Nat} (hx : x ∈ signs) (hy : y ∈ signs) : CallOk (CC w) (n + 1) (.ref 133) [.str (S [x]), .str (S [y])] (.int (cf x y)) := by
  rw [← (cf_ok x hx y hy).1]
  exact call_sub' (cf_ok x hx y hy).2 (cf_ok y hy y hy).2

/-! the distance, in plain lists -/
noncomputable def spre : List Nat → List Nat → List Nat × List Nat
  | x :: a, y :: b => if x == y then spre a b else (x :: a, y :: b)
  | a, b => (a, b)
noncomputable def ssuf (a b : List Nat) : List Nat × List Nat := ((spre a.reverse b.reverse).1.reverse, (spre a.reverse b.reverse).2.reverse)
noncomputable def scan (bc : Nat) : List Nat → List Int → Int → Int → Int → List Int × Int × Int
  | c :: cs, r :: rs, dist, res, mn =>
    let res' := imin (imin res r + 2) (dist + cf bc c)
    let t := scan bc cs rs r res' (if res' < mn then res' else mn)
    (res' :: t.1, t.2.1, t.2.2)
  | _, _, _, res, mn => ([], res, mn)
noncomputable def big : Int := 9223372036854775807
noncomputable def dp (x : List Nat) (mc : Int) : List Nat → Int → List Int → Int → Int
  | [], _, _, res => res
  | bc :: ys, bi, row, _ =>
    let t := scan bc x row (2 * bi) (2 * bi) big
    if t.2.2 > mc then mc + 1 else dp x mc ys (bi + 1) t.1 t.2.1
noncomputable def levP (a b : List Nat) (mc : Int) : Int :=
  if a == b then 0 else
    let q := ssuf (spre a b).1 (spre a b).2
    if q.1.isEmpty || q.2.isEmpty then 2 * (q.1.length + q.2.length)
    else
      let u := if q.2.length < q.1.length then (q.2, q.1) else q
      if ((u.2.length : Int) - u.1.length) * 2 > mc then mc + 1
      else dp u.1 mc u.2 0 ((List.range u.1.length).map fun (i : Nat) => 2 + (i : Int) * 2) 0
end Mine
end

noncomputable section
open PySem PySem.Calls PyProof.Rows PySem.W PySem.Flt PySem.SeqAt
set_option Elab.async false
set_option linter.unusedVariables false
namespace Mine
variable {w : WK} {n : Nat}
noncomputable def hdEq : List Nat → List Nat → Bool
  | x :: _, y :: _ => x == y
  | _, _ => false
theorem hdEq_false {a b : List Nat} (h : hdEq a b = false) : spre a b = (a, b) := by
  match a, b with
  | x :: a, y :: b =>
    have : (x == y) = false := h
    unfold spre
    rw [if_neg (by simp [this])]
  | [], _ => unfold spre; rfl
  | x :: a, [] => unfold spre; rfl
theorem hdEq_true {a b : List Nat} (h : hdEq a b = true) : a ≠ [] ∧ b ≠ [] ∧ spre a b = spre a.tail b.tail := by
  match a, b with
  | x :: a, y :: b =>
    refine ⟨by simp, by simp, ?_⟩
    have h' : (x == y) = true := h
    conv => lhs; unfold spre
    rw [if_pos h']
    rfl
  | [], _ => cases h
  | x :: a, [] => cases h
theorem pre_val {a b : List Nat} {p : Nat} (ha : p ≤ a.length) (hb : p ≤ b.length) :
    ((sliceS (S a) (some ↑p) none none).length != 0 && ((sliceS (S b) (some ↑p) none none).length != 0 && ((chS (S a) ↑p == chS (S b) ↑p) && true))) = hdEq (a.drop p) (b.drop p) := by
  rw [sl_drop, sl_drop, S_len, S_len, List.length_drop, List.length_drop]
  by_cases h1 : p < a.length
  · by_cases h2 : p < b.length
    · rw [chS_nat a p h1, chS_nat b p h2, S_beq, List.drop_eq_getElem_cons h1, List.drop_eq_getElem_cons h2]
      have e1 : (a.length - p != 0) = true := by simp; (first | lia | omega)
      have e2 : (b.length - p != 0) = true := by simp; (first | lia | omega)
      rw [e1, e2]
      show (true && (true && (([a[p]] == [b[p]]) && true))) = (a[p] == b[p])
      simp
    · have e2 : b.drop p = [] := List.drop_eq_nil_of_le (by (first | lia | omega))
      rw [e2, show b.length - p = 0 from by (first | lia | omega)]
      cases a.drop p <;> simp [hdEq]
  · have e2 : a.drop p = [] := List.drop_eq_nil_of_le (by (first | lia | omega))
    rw [e2, show a.length - p = 0 from by (first | lia | omega)]
    simp [hdEq]
theorem sl_post (l : List Nat) (r : Nat) : sliceS (S l) none (if (-(r : Int)) = 0 then none else some (-(r : Int))) none = S (l.take (l.length - r)) := by
  by_cases h : r = 0
  · subst h
    rw [if_pos (by (first | lia | omega)), sl_all]
    simp
  · rw [if_neg (by (first | lia | omega)), sl_neg _ _ (by (first | lia | omega))]
theorem take_rev (l : List Nat) (r : Nat) : l.take (l.length - r) = (l.reverse.drop r).reverse := by
  rw [List.drop_reverse, List.reverse_reverse]
theorem post_val {a b : List Nat} {r : Nat} (ha : r ≤ a.length) (hb : r ≤ b.length) :
    ((sliceS (S a) none (if (-(r : Int)) = 0 then none else some (-(r : Int))) none).length != 0 && ((sliceS (S b) none (if (-(r : Int)) = 0 then none else some (-(r : Int))) none).length != 0 && ((chS (S a) (-(r : Int) - 1) == chS (S b) (-(r : Int) - 1)) && true))) = hdEq (a.reverse.drop r) (b.reverse.drop r) := by
  rw [sl_post, sl_post, S_len, S_len, List.length_take, List.length_take]
  have e0 : (-(r : Int) - 1) = -((r + 1 : Nat) : Int) := by (first | lia | omega)
  rw [e0]
  by_cases h1 : r < a.length
  · by_cases h2 : r < b.length
    · have l1 : r < a.reverse.length := by simpa using h1
      have l2 : r < b.reverse.length := by simpa using h2
      have d1 : a.reverse.drop r = a.reverse[r] :: a.reverse.drop (r + 1) := List.drop_eq_getElem_cons l1
      have d2 : b.reverse.drop r = b.reverse[r] :: b.reverse.drop (r + 1) := List.drop_eq_getElem_cons l2
      rw [chS_neg a (r + 1) (by (first | lia | omega)) (by (first | lia | omega)), chS_neg b (r + 1) (by (first | lia | omega)) (by (first | lia | omega)), S_beq, d1, d2]
      have e1 : (min (a.length - r) a.length != 0) = true := by simp; (first | lia | omega)
      have e2 : (min (b.length - r) b.length != 0) = true := by simp; (first | lia | omega)
      rw [e1, e2]
      show (true && (true && (([_] == [_]) && true))) = (a.reverse[r] == b.reverse[r])
      rw [List.getElem_reverse, List.getElem_reverse]
      have e3 : a.length - 1 - r = a.length - (r + 1) := by (first | lia | omega)
      have e4 : b.length - 1 - r = b.length - (r + 1) := by (first | lia | omega)
      simp [e3, e4]
    · have e2 : b.reverse.drop r = [] := List.drop_eq_nil_of_le (by simp; (first | lia | omega))
      rw [e2, show min (b.length - r) b.length = 0 from by (first | lia | omega)]
      cases a.reverse.drop r <;> simp [hdEq]
  · have e2 : a.reverse.drop r = [] := List.drop_eq_nil_of_le (by simp; (first | lia | omega))
    rw [e2, show min (a.length - r) a.length = 0 from by (first | lia | omega)]
    simp [hdEq]

noncomputable def vars_lev : Vars := [("a", false), ("b", false), ("max_cost", false), ("pre", false), ("post", false), ("row", false), ("result", false), ("bindex", false), ("bchar", false), ("distance", false), ("minimum", false), ("index", false), ("substitute", false), ("insert_delete", false)]
theorem sig_lev : Sig f_lev ["a", "b", "max_cost"] vars_lev := ⟨rfl, rfl, rfl, rfl, by decide +kernel, by decide +kernel, by decide +kernel, by decide +kernel⟩
theorem bind_lev : ∀ fd (rs : List Value), fd.params = f_lev.params → fd.defaults = f_lev.dflt → rs.length = 3 → bindArgs fd ⟨rs, []⟩ = pure ((["a", "b", "max_cost"] : List Str).zip rs) := by
  intro fd rs hp hd hl
  obtain ⟨a, b, c, rfl⟩ := len3 hl
  unfold bindArgs
  rw [hp, hd]
  rfl
noncomputable def lv (a b : List Nat) (mc : Int) (r : List (Option AV)) : List (Option AV) := some (.str (S a)) :: some (.str (S b)) :: some (.int mc) :: r
noncomputable abbrev nones (k : Nat) : List (Option AV) := List.replicate k none
/-- the first loop -/
theorem lev_pre {a b : List Nat} {mc : Int} (ha : a.length ≤ 40) (hb : b.length ≤ 40) : X1 (CC w) (n + 1) f_lev.scope.names vars_lev true (lv a b mc (some (.int 0) :: nones 10)) [] (f_lev.body.getD 2 (.Pass ⟨0, 0, 0, 0⟩))
    (fun fl σ μ => fl = .nx ∧ μ = [] ∧ ∃ p : Nat, p ≤ a.length ∧ p ≤ b.length ∧ spre a b = (a.drop p, b.drop p) ∧ σ = lv a b mc (some (.int p) :: nones 10)) := by
  refine X1.while (fun k σ μ => μ = [] ∧ ∃ p : Nat, p ≤ a.length ∧ p ≤ b.length ∧ k = a.length - p ∧ spre (a.drop p) (b.drop p) = spre a b ∧ σ = lv a b mc (some (.int p) :: nones 10)) a.length ⟨rfl, 0, by (first | lia | omega), by (first | lia | omega), by (first | lia | omega), rfl, rfl⟩ ?_
  rintro k σ μ ⟨rfl, p, hpa, hpb, rfl, hsp, rfl⟩
  refine ⟨_, QB.eqv (QB.boolop (QT.and_cons (QB.val (QE.slice (QE.name .here rfl) (.some (QE.name (.nth 3 rfl rfl) rfl)) .none .none (slS ?_ ?_)) (truthS ?_) (fun _ _ => rfl)) fun hh0 => (QT.and_cons (QB.val (QE.slice (QE.name (.there .here) rfl) (.some (QE.name (.nth 3 rfl rfl) rfl)) .none .none (slS ?_ ?_)) (truthS ?_) (fun _ _ => rfl)) fun hh1 => (QT.and_cons (QB.cmp (QE.sub (QE.name .here rfl) (QE.name (.nth 3 rfl rfl) rfl) (getS1 ?_)) (QE.sub (QE.name (.there .here) rfl) (QE.name (.nth 3 rfl rfl) rfl) (getS1 ?_)) eqS (by with_unfolding_all rfl)) fun hh2 => QT.and_nil)))) (pre_val hpa hpb), ?_, ?_⟩
  · simp
  · rw [S_len]; (first | lia | omega)
  · rw [sl_drop, S_len, List.length_drop]; (first | lia | omega)
  · simp
  · rw [S_len]; (first | lia | omega)
  · rw [sl_drop, S_len, List.length_drop]; (first | lia | omega)
  · rw [sl_drop, S_len, List.length_drop] at hh0 hh1
    have e1 : p < a.length := by simp at hh0; (first | lia | omega)
    exact ⟨by (first | lia | omega), by (first | lia | omega), chOk_nat a p e1⟩
  · rw [sl_drop, S_len, List.length_drop] at hh0 hh1
    have e1 : p < b.length := by simp at hh1; (first | lia | omega)
    exact ⟨by (first | lia | omega), by (first | lia | omega), chOk_nat b p e1⟩
  · intro h
    rw [hdEq_false h] at hsp
    exact ⟨rfl, rfl, p, hpa, hpb, hsp.symm, rfl⟩
  · intro h
    obtain ⟨h1, h2, h3⟩ := hdEq_true h
    have e1 : p < a.length := Nat.lt_of_not_le fun hh => h1 (List.drop_eq_nil_of_le hh)
    have e2 : p < b.length := Nat.lt_of_not_le fun hh => h2 (List.drop_eq_nil_of_le hh)
    refine XS.aug (x := "pre") (.there (.there (.there .here))) QE.int iaddI (.there (.there (.there .here))) (.nil ⟨a.length - (p + 1), by (first | lia | omega), rfl, p + 1, by (first | lia | omega), by (first | lia | omega), rfl, ?_, rfl⟩)
    rw [← hsp, h3, List.tail_drop, List.tail_drop]

/-- the second loop -/
theorem lev_post {a b : List Nat} {mc : Int} {p : Int} (ha : a.length ≤ 40) (hb : b.length ≤ 40) : X1 (CC w) (n + 1) f_lev.scope.names vars_lev true (lv a b mc (some (.int p) :: some (.int 0) :: nones 9)) [] (f_lev.body.getD 6 (.Pass ⟨0, 0, 0, 0⟩))
    (fun fl σ μ => fl = .nx ∧ μ = [] ∧ ∃ r : Nat, r ≤ a.length ∧ r ≤ b.length ∧ ssuf a b = (a.take (a.length - r), b.take (b.length - r)) ∧ σ = lv a b mc (some (.int p) :: some (.int (-(r : Int))) :: nones 9)) := by
  refine X1.while (fun k σ μ => μ = [] ∧ ∃ r : Nat, r ≤ a.length ∧ r ≤ b.length ∧ k = a.length - r ∧ spre (a.reverse.drop r) (b.reverse.drop r) = spre a.reverse b.reverse ∧ σ = lv a b mc (some (.int p) :: some (.int (-(r : Int))) :: nones 9)) a.length ⟨rfl, 0, by (first | lia | omega), by (first | lia | omega), by (first | lia | omega), rfl, rfl⟩ ?_
  rintro k σ μ ⟨rfl, r, hra, hrb, rfl, hsp, rfl⟩
  refine ⟨_, QB.eqv (QB.boolop (QT.and_cons (QB.val (QE.slice (QE.name .here rfl) .none (qp_orNone (QE.name (.nth 4 rfl rfl) rfl)) .none (slS ?_ ?_)) (truthS ?_) (fun _ _ => rfl)) fun hh0 => (QT.and_cons (QB.val (QE.slice (QE.name (.there .here) rfl) .none (qp_orNone (QE.name (.nth 4 rfl rfl) rfl)) .none (slS ?_ ?_)) (truthS ?_) (fun _ _ => rfl)) fun hh1 => (QT.and_cons (QB.cmp (QE.sub (QE.name .here rfl) (QE.bin (QE.name (.nth 4 rfl rfl) rfl) QE.int subI) (getS1 ?_)) (QE.sub (QE.name (.there .here) rfl) (QE.bin (QE.name (.nth 4 rfl rfl) rfl) QE.int subI) (getS1 ?_)) eqS (by with_unfolding_all rfl)) fun hh2 => QT.and_nil)))) (post_val hra hrb), ?_, ?_⟩
  · simp
  · rw [S_len]; (first | lia | omega)
  · rw [sl_post, S_len, List.length_take]; (first | lia | omega)
  · simp
  · rw [S_len]; (first | lia | omega)
  · rw [sl_post, S_len, List.length_take]; (first | lia | omega)
  · rw [sl_post, S_len, List.length_take] at hh0 hh1
    have e1 : r < a.length := by simp at hh0; (first | lia | omega)
    rw [show (-(r : Int) - 1) = -((r + 1 : Nat) : Int) from by (first | lia | omega)]
    exact ⟨by (first | lia | omega), by (first | lia | omega), chOk_neg a (r + 1) (by (first | lia | omega)) (by (first | lia | omega))⟩
  · rw [sl_post, S_len, List.length_take] at hh0 hh1
    have e1 : r < b.length := by simp at hh1; (first | lia | omega)
    rw [show (-(r : Int) - 1) = -((r + 1 : Nat) : Int) from by (first | lia | omega)]
    exact ⟨by (first | lia | omega), by (first | lia | omega), chOk_neg b (r + 1) (by (first | lia | omega)) (by (first | lia | omega))⟩
  · intro h
    rw [hdEq_false h] at hsp
    refine ⟨rfl, rfl, r, hra, hrb, ?_, rfl⟩
    unfold ssuf
    rw [← hsp, take_rev, take_rev]
  · intro h
    obtain ⟨h1, h2, h3⟩ := hdEq_true h
    have e1 : r < a.length := Nat.lt_of_not_le fun hh => h1 (List.drop_eq_nil_of_le (by simpa using hh))
    have e2 : r < b.length := Nat.lt_of_not_le fun hh => h2 (List.drop_eq_nil_of_le (by simpa using hh))
    refine XS.aug (x := "post") (.there (.there (.there (.there .here)))) QE.int isubI (.there (.there (.there (.there .here)))) (.nil ⟨a.length - (r + 1), by (first | lia | omega), rfl, r + 1, by (first | lia | omega), by (first | lia | omega), rfl, ?_, ?_⟩)
    · rw [← hsp, h3, List.tail_drop, List.tail_drop]
    · rw [show (-(r : Int) - 1) = -((r + 1 : Nat) : Int) from by (first | lia | omega)]
      rfl

/-! the table -/
theorem scan_len {bc : Nat} : ∀ {cs : List Nat} {rs : List Int} {d r m : Int}, cs.length = rs.length → (scan bc cs rs d r m).1.length = rs.length
  | [], [], _, _, _, _ => rfl
  | c :: cs, r :: rs, _, _, _, h => by
    unfold scan
    simp only [List.length_cons]
    rw [scan_len (by simpa using h)]
  | [], _ :: _, _, _, _, h => by simp at h
  | _ :: _, [], _, _, _, h => by simp at h
noncomputable def oi : Option Int → Option AV := Option.map AV.int
/-- what stands in the variables within the inner loop -/
noncomputable def li (a b : List Nat) (mc p r : Int) (ra : Addr) (res bi : Int) (bc : Nat) (dist mn : Int) (o1 o2 o3 : Option Int) : List (Option AV) :=
  lv a b mc [some (.int p), some (.int r), some (.acc ra), some (.int res), some (.int bi), some (.str (S [bc])), some (.int dist), some (.int mn), oi o1, oi o2, oi o3]
theorem scal_oi (o : Option Int) : (match oi o with | some (.tup _) | some (.lst _) => False | _ => True) := by cases o <;> trivial
theorem li_scal (a b : List Nat) (mc p r : Int) (ra : Addr) (res bi : Int) (bc : Nat) (dist mn : Int) (o1 o2 o3 : Option Int) : scalS (li a b mc p r ra res bi bc dist mn o1 o2 o3) :=
  ⟨trivial, trivial, trivial, trivial, trivial, trivial, trivial, trivial, trivial, trivial, trivial, scal_oi o1, scal_oi o2, scal_oi o3, trivial⟩
noncomputable def outerFor : Stmt := f_lev.body.getD 15 (.Pass ⟨0, 0, 0, 0⟩)
noncomputable def outerBody : List Stmt := match outerFor with
  | .For _ _ b _ _ => b
  | _ => []
theorem irange_get {k : Nat} {i : Nat} {x : AV} (h : (irange 0 k)[i]? = some x) : x = .int i ∧ i < k := by
  unfold irange at h
  rw [List.getElem?_map] at h
  obtain ⟨j, hj, e⟩ := Option.map_eq_some_iff.mp h
  obtain ⟨hlt, e2⟩ := List.getElem?_eq_some_iff.mp hj
  rw [List.length_range] at hlt
  rw [List.getElem_range] at e2
  subst e2
  exact ⟨by rw [← e]; congr 1; (first | lia | omega), by (first | lia | omega)⟩
theorem call_subAt {x : Nat} {a : List Nat} {i : Nat} (hx : x ∈ signs) (h : i < a.length) (ha : ∀ x ∈ a, x ∈ signs) : CallOk (CC w) (n + 1) (.ref 133) [.str (S [x]), .str (chS (S a) (i : Int))] (.int (cf x (a.getD i 0))) := by
  rw [chS_nat a i h, List.getD_eq_getElem?_getD, List.getElem?_eq_getElem h]
  exact call_sub hx (ha _ (List.getElem_mem h))
theorem inner {a b : List Nat} {mc p r : Int} {ra : Addr} {bi : Int} {bc : Nat} {res0 : Int} {row : List Int} {o1 o2 o3 : Option Int} (ha : a.length ≤ 40) (hrow : row.length = a.length) (hsa : ∀ x ∈ a, x ∈ signs) (hbc : bc ∈ signs) :
    X1 (CC w) (n + 1) f_lev.scope.names vars_lev true (li a b mc p r ra res0 bi bc res0 big o1 o2 o3) [(ra, .row row)] (outerBody.getD 3 (.Pass ⟨0, 0, 0, 0⟩))
    (fun fl σ μ => fl = .nx ∧ μ = [(ra, .row (scan bc a row res0 res0 big).1)] ∧ ∃ dist o1 o2 o3, σ = li a b mc p r ra (scan bc a row res0 res0 big).2.1 bi bc dist (scan bc a row res0 res0 big).2.2 o1 o2 o3) := by
  refine X1.for (xs := irange 0 a.length) (XF.range1 (by decide +kernel) g_range b_range (QE.callB (by decide +kernel) g_len b_len (.cons (QE.name .here rfl) .nil (fun _ => rfl)) (lenS ?_) (by decide +kernel)) ?_ ?_) (fun i σ μ => ∃ (np : List Int) (dist res mn : Int) (o1 o2 o3 : Option Int), np.length = i ∧ μ = [(ra, .row (np ++ row.drop i))] ∧ σ = li a b mc p r ra res bi bc dist mn o1 o2 o3 ∧
      scan bc a row res0 res0 big = (np ++ (scan bc (a.drop i) (row.drop i) dist res mn).1, (scan bc (a.drop i) (row.drop i) dist res mn).2)) ⟨[], res0, res0, big, o1, o2, o3, rfl, rfl, rfl, rfl⟩ ?_ ?_
  · rw [S_len]; (first | lia | omega)
  · (first | lia | omega)
  · (first | lia | omega)
  · rintro i x σ μ hx ⟨np, dist, res, mn, o1, o2, o3, hnp, rfl, rfl, hsc⟩
    obtain ⟨rfl, hi⟩ := irange_get hx
    have da : a.drop i = a[i] :: a.drop (i + 1) := List.drop_eq_getElem_cons hi
    have hir : i < row.length := by (first | lia | omega)
    have dr : row.drop i = row[i] :: row.drop (i + 1) := List.drop_eq_getElem_cons hir
    have ga : a.getD i 0 = a[i] := by rw [List.getD_eq_getElem?_getD, List.getElem?_eq_getElem hi]; rfl
    have hlen : (np ++ row.drop i).length = a.length := by rw [List.length_append, List.length_drop]; (first | lia | omega)
    have gr : (np ++ row.drop i).getD (i : Int).toNat 0 = row[i] := by
      rw [List.getD_eq_getElem?_getD, Int.toNat_natCast, List.getElem?_append_right (by (first | lia | omega)), hnp, Nat.sub_self, dr]
      rfl
    refine ⟨li a b mc p r ra res bi bc dist mn (some i) o2 o3, (.there (.there (.there (.there (.there (.there (.there (.there (.there (.there (.there .here))))))))))), ?_⟩
    refine XS.set (x := "substitute") (σ' := li a b mc p r ra res bi bc dist mn (some i) (some (dist + cf bc a[i])) o3) ((QE.bin (QE.name (.nth 9 rfl rfl) rfl) (QE.callF (by decide +kernel) g_substitution_cost i_sub (.cons (QE.name (.nth 8 rfl rfl) rfl) (.cons (QE.sub (QE.name .here rfl) (QE.name (.nth 11 rfl rfl) rfl) (getS1 ?_)) .nil (fun _ => rfl)) (fun _ => rfl)) (call_subAt hbc ?_ hsa) (by decide +kernel)) addI).eqv (by rw [ga])) (.there (.there (.there (.there (.there (.there (.there (.there (.there (.there (.there (.there .here)))))))))))) ?_
    · exact ⟨by (first | lia | omega), by (first | lia | omega), chOk_nat a i hi⟩
    · exact hi
    refine XS.setX (x := "distance") (σ' := li a b mc p r ra res bi bc row[i] mn (some i) (some (dist + cf bc a[i])) o3) (v := .int row[i]) (gr ▸ XE.rowget (.there (.there (.there (.there (.there .here))))) (.head _) (QE.name (.nth 11 rfl rfl) rfl) (by (first | lia | omega)) (by rw [hlen]; (first | lia | omega)) (by rw [hlen]; (first | lia | omega))) (.there (.there (.there (.there (.there (.there (.there (.there (.there .here))))))))) ?_
    refine XS.set (x := "insert_delete") (σ' := li a b mc p r ra res bi bc row[i] mn (some i) (some (dist + cf bc a[i])) (some (imin res row[i] + 2))) (QE.bin (QE.callB (by decide +kernel) g_min b_min (.cons (QE.name (.nth 6 rfl rfl) rfl) (.cons (QE.name (.nth 9 rfl rfl) rfl) .nil (fun _ => rfl)) (fun _ => rfl)) min2I (by decide +kernel)) (QE.glob (by decide +kernel) g_MOVE_COST (by decide +kernel)) addI) (.there (.there (.there (.there (.there (.there (.there (.there (.there (.there (.there (.there (.there .here))))))))))))) ?_
    refine XS.set (x := "result") (σ' := li a b mc p r ra (imin (imin res row[i] + 2) (dist + cf bc a[i])) bi bc row[i] mn (some i) (some (dist + cf bc a[i])) (some (imin res row[i] + 2))) (QE.callB (by decide +kernel) g_min b_min (.cons (QE.name (.nth 13 rfl rfl) rfl) (.cons (QE.name (.nth 12 rfl rfl) rfl) .nil (fun _ => rfl)) (fun _ => rfl)) min2I (by decide +kernel)) (.there (.there (.there (.there (.there (.there .here)))))) ?_
    have hset : (np ++ row.drop i).set (i : Int).toNat (imin (imin res row[i] + 2) (dist + cf bc a[i])) = (np ++ [imin (imin res row[i] + 2) (dist + cf bc a[i])]) ++ row.drop (i + 1) := by
      rw [Int.toNat_natCast, List.set_append_right _ _ (by (first | lia | omega)), hnp, Nat.sub_self, dr, List.set_cons_zero, List.append_assoc]
      rfl
    refine XS.seq (.rowset (li_scal ..) (.there (.there (.there (.there (.there .here))))) (QE.name (.nth 11 rfl rfl) rfl) (QE.name (.nth 6 rfl rfl) rfl) (by (first | lia | omega)) (by rw [hlen]; (first | lia | omega)) (by rw [hlen]; (first | lia | omega)) ⟨rfl, rfl, rfl⟩) ?_
    rw [hset]
    have key : ∀ mn', mn' = (if imin (imin res row[i] + 2) (dist + cf bc a[i]) < mn then imin (imin res row[i] + 2) (dist + cf bc a[i]) else mn) →
        scan bc a row res0 res0 big = ((np ++ [imin (imin res row[i] + 2) (dist + cf bc a[i])]) ++ (scan bc (a.drop (i + 1)) (row.drop (i + 1)) row[i] (imin (imin res row[i] + 2) (dist + cf bc a[i])) mn').1, (scan bc (a.drop (i + 1)) (row.drop (i + 1)) row[i] (imin (imin res row[i] + 2) (dist + cf bc a[i])) mn').2) := fun mn' e => by
      rw [hsc, da, dr, e]
      conv => lhs; unfold scan
      simp only [List.append_assoc, List.singleton_append]
    refine XS.last (.ite (.of (QB.cmp (QE.name (.nth 6 rfl rfl) rfl) (QE.name (.nth 10 rfl rfl) rfl) ltI (by with_unfolding_all rfl))) (fun h => ?_) fun h => ?_)
    · refine XS.set (x := "minimum") (QE.name (.nth 6 rfl rfl) rfl) (.there (.there (.there (.there (.there (.there (.there (.there (.there (.there .here)))))))))) (.nil ⟨np ++ [imin (imin res row[i] + 2) (dist + cf bc a[i])], row[i], _, _, some i, _, _, by simp [hnp], rfl, rfl, key _ (by rw [if_pos (by simpa using h)])⟩)
    · exact .nil ⟨np ++ [imin (imin res row[i] + 2) (dist + cf bc a[i])], row[i], _, _, some i, _, _, by simp [hnp], rfl, rfl, key _ (by rw [if_neg (by simpa using h)])⟩
  · rintro σ μ ⟨np, dist, res, mn, o1, o2, o3, hnp, rfl, rfl, hsc⟩
    have hl : (irange 0 (a.length : Int)).length = a.length := by rw [irange_length]; (first | lia | omega)
    rw [hl] at hnp hsc ⊢
    have e1 : a.drop a.length = [] := List.drop_eq_nil_of_le (Nat.le_refl _)
    have e2 : row.drop a.length = [] := List.drop_eq_nil_of_le (by (first | lia | omega))
    rw [e1, e2] at hsc
    have e3 : scan bc [] [] dist res mn = ([], res, mn) := rfl
    rw [e3, List.append_nil] at hsc
    refine ⟨rfl, ?_, dist, o1, o2, o3, ?_⟩
    · rw [hsc, e2, List.append_nil]
    · rw [hsc]
end Mine
end

noncomputable section
open PySem PySem.Calls PyProof.Rows PySem.W PySem.Flt PySem.SeqAt
set_option Elab.async false
set_option linter.unusedVariables false
namespace Mine
variable {w : WK} {n : Nat}
noncomputable def os1 : Option Nat → Option AV := Option.map fun c => AV.str (S [c])
noncomputable def lo (a b : List Nat) (mc p r : Int) (ra : Addr) (res : Int) (o4 : Option Int) (o5 : Option Nat) (o6 o7 o1 o2 o3 : Option Int) : List (Option AV) :=
  lv a b mc [some (.int p), some (.int r), some (.acc ra), some (.int res), oi o4, os1 o5, oi o6, oi o7, oi o1, oi o2, oi o3]
theorem getLast_int (x : Int) : x * 2 = 2 * x := Int.mul_comm _ _
theorem outer {a b : List Nat} {mc p r : Int} {ra : Addr} {row0 : List Int} (ha : a.length ≤ 40) (hb : b.length ≤ 40) (hsa : ∀ x ∈ a, x ∈ signs) (hsb : ∀ x ∈ b, x ∈ signs) (h0 : row0.length = a.length) :
    X1 (CC w) (n + 1) f_lev.scope.names vars_lev true (lo a b mc p r ra 0 none none none none none none none) [(ra, .row row0)] outerFor
    (fun fl σ μ => (fl = .nx ∧ ∃ o4 o5 o6 o7 o1 o2 o3, σ = lo a b mc p r ra (dp a mc b 0 row0 0) o4 o5 o6 o7 o1 o2 o3) ∨ fl = .rt (.int (dp a mc b 0 row0 0))) := by
  refine X1.for (xs := irange 0 b.length) (XF.range1 (by decide +kernel) g_range b_range (QE.callB (by decide +kernel) g_len b_len (.cons (QE.name (.there .here) rfl) .nil (fun _ => rfl)) (lenS ?_) (by decide +kernel)) ?_ ?_) (fun i σ μ => ∃ (row : List Int) (res : Int) (o4 : Option Int) (o5 : Option Nat) (o6 o7 o1 o2 o3 : Option Int), row.length = a.length ∧ μ = [(ra, .row row)] ∧ σ = lo a b mc p r ra res o4 o5 o6 o7 o1 o2 o3 ∧
      dp a mc b 0 row0 0 = dp a mc (b.drop i) i row res) ⟨row0, 0, none, none, none, none, none, none, none, h0, rfl, rfl, rfl⟩ ?_ ?_
  · rw [S_len]; (first | lia | omega)
  · (first | lia | omega)
  · (first | lia | omega)
  · rintro i x σ μ hx ⟨row, res, o4, o5, o6, o7, o1, o2, o3, hrow, rfl, rfl, hdp⟩
    obtain ⟨rfl, hi⟩ := irange_get hx
    have db : b.drop i = b[i] :: b.drop (i + 1) := List.drop_eq_getElem_cons hi
    refine ⟨lo a b mc p r ra res (some i) o5 o6 o7 o1 o2 o3, (.there (.there (.there (.there (.there (.there (.there .here))))))), ?_⟩
    refine XS.set (x := "bchar") (σ' := lo a b mc p r ra res (some i) (some b[i]) o6 o7 o1 o2 o3) ((QE.sub (QE.name (.there .here) rfl) (QE.name (.nth 7 rfl rfl) rfl) (getS1 ?_)).eqv (by rw [chS_nat b i hi])) (.there (.there (.there (.there (.there (.there (.there (.there .here)))))))) ?_
    · exact ⟨by (first | lia | omega), by (first | lia | omega), chOk_nat b i hi⟩
    refine XS.seq (.two (v := .int (2 * i)) (σ₁ := lo a b mc p r ra res (some i) (some b[i]) (some (2 * i)) o7 o1 o2 o3) (σ' := lo a b mc p r ra (2 * i) (some i) (some b[i]) (some (2 * i)) o7 o1 o2 o3) ((QE.bin (QE.name (.nth 7 rfl rfl) rfl) (QE.glob (by decide +kernel) g_MOVE_COST (by decide +kernel)) (mulI ?_)).eqv (by rw [getLast_int])) (.there (.there (.there (.there (.there (.there (.there (.there (.there .here))))))))) (.there (.there (.there (.there (.there (.there .here)))))) ⟨rfl, rfl, rfl⟩) ?_
    · exact IntMulOk.of_right (by decide)
    refine XS.set (x := "minimum") (σ' := li a b mc p r ra (2 * i) i b[i] (2 * i) big o1 o2 o3) QE.int (.there (.there (.there (.there (.there (.there (.there (.there (.there (.there .here)))))))))) ?_
    refine XS.cons (inner ha hrow hsa (hsb _ (List.getElem_mem hi))) ?_ (fun fl σ μ hn h => absurd h.1 hn)
    rintro σ μ ⟨_, rfl, dist, o1', o2', o3', rfl⟩
    have hstep : dp a mc (b.drop i) i row res = if (scan b[i] a row (2 * i) (2 * i) big).2.2 > mc then mc + 1 else dp a mc (b.drop (i + 1)) (i + 1) (scan b[i] a row (2 * i) (2 * i) big).1 (scan b[i] a row (2 * i) (2 * i) big).2.1 := by
      rw [db]; rfl
    refine XS.last (.ite (.of (QB.cmp (QE.name (.nth 10 rfl rfl) rfl) (QE.name (.nth 2 rfl rfl) rfl) gtI (by with_unfolding_all rfl))) (fun h => ?_) fun h => ?_)
    · refine XS.ret (QE.bin (QE.name (.nth 2 rfl rfl) rfl) QE.int addI) (.inr ?_)
      rw [hdp, hstep, if_pos (by simpa using h)]
    · refine .nil ⟨_, _, some i, some b[i], some dist, some _, o1', o2', o3', (scan_len hrow.symm).trans hrow, rfl, rfl, ?_⟩
      rw [hdp, hstep, if_neg (by simpa using h)]
      rfl
  · rintro σ μ ⟨row, res, o4, o5, o6, o7, o1, o2, o3, hrow, rfl, rfl, hdp⟩
    have hl : (irange 0 (b.length : Int)).length = b.length := by rw [irange_length]; (first | lia | omega)
    rw [hl, List.drop_eq_nil_of_le (Nat.le_refl _)] at hdp
    refine .inl ⟨rfl, o4, o5, o6, o7, o1, o2, o3, ?_⟩
    rw [hdp]; rfl
/-- from the table on -/
theorem lev_tail {a b : List Nat} {mc p r : Int} (ha : a.length ≤ 40) (ha1 : 1 ≤ a.length) (hb : b.length ≤ 40) (hsa : ∀ x ∈ a, x ∈ signs) (hsb : ∀ x ∈ b, x ∈ signs) :
    XS (CC w) (n + 1) f_lev.scope.names vars_lev true (lv a b mc (some (.int p) :: some (.int r) :: nones 9)) [] (f_lev.body.drop 13) (Ret (.int (dp a mc b 0 ((List.range a.length).map fun (i : Nat) => 2 + (i : Int) * 2) 0))) := by
  refine XS.cons (K1 := fun fl σ μ => fl = .nx ∧ ∃ ra, σ = lv a b mc (some (.int p) :: some (.int r) :: some (.acc ra) :: nones 8) ∧ μ = [(ra, .row ((List.range a.length).map fun (i : Nat) => 2 + (i : Int) * 2))])
    (.newRow (b := 2 * (a.length + 1)) (σ' := fun ra => lv a b mc (some (.int p) :: some (.int r) :: some (.acc ra) :: nones 8)) (by decide +kernel) g_list b_list (by decide +kernel) g_range b_range (QE.glob (by decide +kernel) g_MOVE_COST (by decide +kernel)) (QE.bin (QE.glob (by decide +kernel) g_MOVE_COST (by decide +kernel)) (QE.bin (QE.callB (by decide +kernel) g_len b_len (.cons (QE.name .here rfl) .nil (fun _ => rfl)) (lenS ?_) (by decide +kernel)) QE.int addI) (mulI ?_)) (QE.glob (by decide +kernel) g_MOVE_COST (by decide +kernel)) (by (first | lia | omega)) (by (first | lia | omega)) (fun ra => (.there (.there (.there (.there (.there .here)))))) fun ra => ⟨rfl, ra, rfl, ?_⟩) ?_ (fun fl σ μ hn h => absurd h.1 hn)
  · rw [S_len]; (first | lia | omega)
  · exact IntMulOk.of_left (by decide)
  · rw [show ((2 * ((a.length : Int) + 1) - 1) / 2).toNat = a.length from by (first | lia | omega)]
  rintro σ μ ⟨_, ra, rfl, rfl⟩
  refine XS.set (x := "result") (σ' := lo a b mc p r ra 0 none none none none none none none) QE.int (.there (.there (.there (.there (.there (.there .here)))))) ?_
  refine XS.cons (outer ha hb hsa hsb (by simp)) ?_ ?_
  · rintro σ μ (⟨_, o4, o5, o6, o7, o1, o2, o3, rfl⟩ | h)
    · exact XS.ret (QE.name (.nth 6 rfl rfl) rfl) (ret_eq rfl)
    · cases h
  · rintro fl σ μ hn (⟨h, _⟩ | h)
    · exact absurd h hn
    · exact h

theorem call_lev {a b : List Nat} {mc : Int} (ha : a.length ≤ 40) (hb : b.length ≤ 40) (hsa : ∀ x ∈ a, x ∈ signs) (hsb : ∀ x ∈ b, x ∈ signs) : CallOk (CC w) (n + 2) (.ref 140) [.str (S a), .str (S b), .int mc] (.int (levP a b mc)) := by
  refine CallOk.def sig_lev i_lev rfl bind_lev ?_
  refine XS.iteR (.of (QB.cmp (QE.name .here rfl) (QE.name (.there .here) rfl) eqS (by with_unfolding_all rfl))) (fun h => ?_) fun h0 => ?_
  · rw [S_beq] at h
    refine XS.ret QE.int ⟨by simp, ret_eq ?_⟩
    unfold levP; rw [if_pos h]
  rw [S_beq] at h0
  refine XS.set (x := "pre") (σ' := lv a b mc (some (.int 0) :: nones 10)) QE.int (.there (.there (.there .here))) ?_
  refine XS.cons (lev_pre ha hb) ?_ (fun fl σ μ hn h => absurd h.1 hn)
  rintro σ μ ⟨_, rfl, p, hpa, hpb, hsp, rfl⟩
  refine XS.set (x := "a") (σ' := lv (a.drop p) b mc (some (.int p) :: nones 10)) ((QE.slice (QE.name .here rfl) (.some (QE.name (.nth 3 rfl rfl) rfl)) .none .none (slS ?_ ?_)).eqv (by rw [sl_drop])) .here ?_
  · simp
  · rw [S_len]; (first | lia | omega)
  refine XS.set (x := "b") (σ' := lv (a.drop p) (b.drop p) mc (some (.int p) :: nones 10)) ((QE.slice (QE.name (.there .here) rfl) (.some (QE.name (.nth 3 rfl rfl) rfl)) .none .none (slS ?_ ?_)).eqv (by rw [sl_drop])) (.there .here) ?_
  · simp
  · rw [S_len]; (first | lia | omega)
  refine XS.set (x := "post") (σ' := lv (a.drop p) (b.drop p) mc (some (.int p) :: some (.int 0) :: nones 9)) QE.int (.there (.there (.there (.there .here)))) ?_
  have ha1 : (a.drop p).length ≤ 40 := by rw [List.length_drop]; (first | lia | omega)
  have hb1 : (b.drop p).length ≤ 40 := by rw [List.length_drop]; (first | lia | omega)
  have hsa1 : ∀ x ∈ a.drop p, x ∈ signs := fun x hx => hsa x (List.mem_of_mem_drop hx)
  have hsb1 : ∀ x ∈ b.drop p, x ∈ signs := fun x hx => hsb x (List.mem_of_mem_drop hx)
  refine XS.cons (lev_post ha1 hb1) ?_ (fun fl σ μ hn h => absurd h.1 hn)
  have hv : levP a b mc = (let q := ssuf (a.drop p) (b.drop p)
    if q.1.isEmpty || q.2.isEmpty then 2 * ((q.1.length : Int) + q.2.length)
    else
      let u := if q.2.length < q.1.length then (q.2, q.1) else q
      if ((u.2.length : Int) - u.1.length) * 2 > mc then mc + 1
      else dp u.1 mc u.2 0 ((List.range u.1.length).map fun (i : Nat) => 2 + (i : Int) * 2) 0) := by
    unfold levP; rw [if_neg (by simpa using h0), hsp]
  rw [hv]
  clear hv hsp h0 hsa hsb ha hb
  generalize a.drop p = a1 at *
  generalize b.drop p = b1 at *
  rintro σ μ ⟨_, rfl, r, hra, hrb, hss, rfl⟩
  refine XS.set (x := "a") (σ' := lv (a1.take (a1.length - r)) b1 mc (some (.int p) :: some (.int (-(r : Int))) :: nones 9)) ((QE.slice (QE.name .here rfl) .none (qp_orNone (QE.name (.nth 4 rfl rfl) rfl)) .none (slS ?_ ?_)).eqv (by rw [sl_post])) .here ?_
  · simp
  · rw [S_len]; (first | lia | omega)
  refine XS.set (x := "b") (σ' := lv (a1.take (a1.length - r)) (b1.take (b1.length - r)) mc (some (.int p) :: some (.int (-(r : Int))) :: nones 9)) ((QE.slice (QE.name (.there .here) rfl) .none (qp_orNone (QE.name (.nth 4 rfl rfl) rfl)) .none (slS ?_ ?_)).eqv (by rw [sl_post])) (.there .here) ?_
  · simp
  · rw [S_len]; (first | lia | omega)
  rw [hss]
  have ha2 : (a1.take (a1.length - r)).length ≤ 40 := by rw [List.length_take]; (first | lia | omega)
  have hb2 : (b1.take (b1.length - r)).length ≤ 40 := by rw [List.length_take]; (first | lia | omega)
  have hsa2 : ∀ x ∈ a1.take (a1.length - r), x ∈ signs := fun x hx => hsa1 x (List.mem_of_mem_take hx)
  have hsb2 : ∀ x ∈ b1.take (b1.length - r), x ∈ signs := fun x hx => hsb1 x (List.mem_of_mem_take hx)
  clear hss hsa1 hsb1 ha1 hb1 hra hrb
  generalize a1.take (a1.length - r) = a at *
  generalize b1.take (b1.length - r) = b at *
  dsimp only
  have ht : ∀ l : List Nat, (!((S l).length != 0)) = l.isEmpty := fun l => by rw [S_len]; cases l <;> simp
  refine XS.iteR (.of (QB.eqv (QB.boolop (QT.or_cons (QB.not (QB.val (QE.name .here rfl) (truthS ?_) (fun _ _ => rfl))) fun hh0 => (QT.or_cons (QB.not (QB.val (QE.name (.there .here) rfl) (truthS ?_) (fun _ _ => rfl))) fun hh1 => QT.or_nil))) (show _ = (a.isEmpty || b.isEmpty) by rw [ht, ht]; simp))) (fun h => ?_) fun h1 => ?_
  · rw [S_len]; (first | lia | omega)
  · rw [S_len]; (first | lia | omega)
  · refine XS.ret (QE.bin (QE.glob (by decide +kernel) g_MOVE_COST (by decide +kernel)) (QE.bin (QE.callB (by decide +kernel) g_len b_len (.cons (QE.name .here rfl) .nil (fun _ => rfl)) (lenS ?_) (by decide +kernel)) (QE.callB (by decide +kernel) g_len b_len (.cons (QE.name (.there .here) rfl) .nil (fun _ => rfl)) (lenS ?_) (by decide +kernel)) addI) (mulI ?_)) ⟨by simp, ret_eq ?_⟩
    · rw [S_len]; (first | lia | omega)
    · rw [S_len]; (first | lia | omega)
    · exact IntMulOk.of_left (by decide)
    · rw [if_pos h, S_len, S_len]
  rw [if_neg (by simp [h1])]
  refine XS.iteR (b := false) (.of (QB.eqv (QB.boolop (QT.or_cons (QB.cmp (QE.callB (by decide +kernel) g_len b_len (.cons (QE.name .here rfl) .nil (fun _ => rfl)) (lenS ?_) (by decide +kernel)) (QE.glob (by decide +kernel) g_MAX_STRING_SIZE (by decide +kernel)) gtI (by with_unfolding_all rfl)) fun hh0 => (QT.or_cons (QB.cmp (QE.callB (by decide +kernel) g_len b_len (.cons (QE.name (.there .here) rfl) .nil (fun _ => rfl)) (lenS ?_) (by decide +kernel)) (QE.glob (by decide +kernel) g_MAX_STRING_SIZE (by decide +kernel)) gtI (by with_unfolding_all rfl)) fun hh1 => QT.or_nil))) ?_)) (fun h => by cases h) fun _ => ?_
  · rw [S_len]; (first | lia | omega)
  · rw [S_len]; (first | lia | omega)
  · rw [S_len, S_len]
    have e1 : ¬ (40 : Int) < a.length := by (first | lia | omega)
    have e2 : ¬ (40 : Int) < b.length := by (first | lia | omega)
    simp [e1, e2]
  have tail : ∀ x y : List Nat, x.length ≤ 40 → y.length ≤ 40 → 1 ≤ x.length → (∀ c ∈ x, c ∈ signs) → (∀ c ∈ y, c ∈ signs) → XS (CC w) (n + 1) f_lev.scope.names vars_lev true (lv x y mc (some (.int p) :: some (.int (-(r : Int))) :: nones 9)) [] (f_lev.body.drop 12)
      (Ret (.int (if ((y.length : Int) - x.length) * 2 > mc then mc + 1 else dp x mc y 0 ((List.range x.length).map fun (i : Nat) => 2 + (i : Int) * 2) 0))) := fun x y hx hy hx1 hxs hys => by
    refine XS.iteR (.of (QB.cmp (QE.bin (QE.bin (QE.callB (by decide +kernel) g_len b_len (.cons (QE.name (.there .here) rfl) .nil (fun _ => rfl)) (lenS ?_) (by decide +kernel)) (QE.callB (by decide +kernel) g_len b_len (.cons (QE.name .here rfl) .nil (fun _ => rfl)) (lenS ?_) (by decide +kernel)) subI) (QE.glob (by decide +kernel) g_MOVE_COST (by decide +kernel)) (mulI ?_)) (QE.name (.nth 2 rfl rfl) rfl) gtI (by with_unfolding_all rfl))) (fun h => ?_) fun h => ?_
    · rw [S_len]; (first | lia | omega)
    · rw [S_len]; (first | lia | omega)
    · exact IntMulOk.of_right (by decide)
    · refine XS.ret (QE.bin (QE.name (.nth 2 rfl rfl) rfl) QE.int addI) ⟨by simp, ret_eq ?_⟩
      rw [S_len, S_len] at h
      rw [if_pos (by simpa using h)]
    · rw [S_len, S_len] at h
      rw [if_neg (by simpa using h)]
      exact lev_tail hx hx1 hy hxs hys
  have hne : a ≠ [] ∧ b ≠ [] := by
    constructor <;> (intro e; subst e; simp at h1)
  have hla : 1 ≤ a.length := by cases a with
    | nil => exact absurd rfl hne.1
    | cons _ _ => simp
  have hlb : 1 ≤ b.length := by cases b with
    | nil => exact absurd rfl hne.2
    | cons _ _ => simp
  by_cases hsw : b.length < a.length
  · rw [if_pos hsw]
    refine XS.seq (σ' := lv b a mc (some (.int p) :: some (.int (-(r : Int))) :: nones 9)) (μ' := []) (.ite (b := true) (.of (QB.eqv (QB.cmp (QE.callB (by decide +kernel) g_len b_len (.cons (QE.name (.there .here) rfl) .nil (fun _ => rfl)) (lenS ?_) (by decide +kernel)) (QE.callB (by decide +kernel) g_len b_len (.cons (QE.name .here rfl) .nil (fun _ => rfl)) (lenS ?_) (by decide +kernel)) ltI (by with_unfolding_all rfl)) ?_)) (fun _ => ?_) (fun h => by cases h)) (tail b a hb2 ha2 hlb hsb2 hsa2)
    · rw [S_len]; (first | lia | omega)
    · rw [S_len]; (first | lia | omega)
    · rw [S_len, S_len]; simp; (first | lia | omega)
    refine XS.last (.swap (x := "a") (y := "b") (σ₁ := lv a a mc (some (.int p) :: some (.int (-(r : Int))) :: nones 9)) (.of (QE.tuple (.cons (QE.name (.there .here) rfl) (.cons (QE.name .here rfl) .nil (fun _ => rfl)) (fun _ => rfl)) (Nat.le_of_ble_eq_true rfl))) (.there .here) .here ⟨rfl, rfl, rfl⟩ ?_)
    intro env E
    have hb : env.blockKind = .function := by unfold Env.blockKind; rw [E.kind]; rfl
    unfold swappedStores
    simp only [E.kindOf, hb]
    rfl
  · rw [if_neg hsw]
    refine XS.seq (σ' := lv a b mc (some (.int p) :: some (.int (-(r : Int))) :: nones 9)) (μ' := []) (.ite (b := false) (.of (QB.eqv (QB.cmp (QE.callB (by decide +kernel) g_len b_len (.cons (QE.name (.there .here) rfl) .nil (fun _ => rfl)) (lenS ?_) (by decide +kernel)) (QE.callB (by decide +kernel) g_len b_len (.cons (QE.name .here rfl) .nil (fun _ => rfl)) (lenS ?_) (by decide +kernel)) ltI (by with_unfolding_all rfl)) ?_)) (fun h => by cases h) (fun _ => .nil ⟨rfl, rfl, rfl⟩)) (tail a b ha2 hb2 hla hsa2 hsb2)
    · rw [S_len]; (first | lia | omega)
    · rw [S_len]; (first | lia | omega)
    · rw [S_len, S_len]; simp; (first | lia | omega)
end Mine
end

noncomputable section
open PySem PySem.Calls PyProof.Rows PySem.W PySem.Flt PySem.SeqAt
set_option Elab.async false
set_option linter.unusedVariables false
namespace Mine
variable {w : WK} {n : Nat}
noncomputable def rgbL : List Nat := [114, 103, 98]
noncomputable def col (c : Nat) : Int := if c = 114 then 0 else if c = 103 then 1 else 2
theorem find_col : ∀ c ∈ rgbL, Txt.find "rgb" (S [c]) = col c := by decide +kernel
noncomputable def stepsP (l : List Nat) : List Int := (range2L 1 l.length).map fun i => (col (l.getD i.toNat 0) - col (l.getD (i - 1).toNat 0)).fmod 3
noncomputable def bendT (st : List Int) (i : Int) : Bool := st.getD i.toNat 0 != st.getD (i - 1).toNat 0
noncomputable def bendsP (st : List Int) : List Int := ((range2L 1 st.length).filter (bendT st)).map fun i => i.fmod 2
noncomputable def shortP (l : List Nat) : Bool := !(stepsP l).any (· == 0) && (!(bendsP (stepsP l)).any (· == 0) || !(bendsP (stepsP l)).any (· == 1))
theorem chS_at {l : List Nat} {i : Int} (h0 : 0 ≤ i) (h1 : i < l.length) : chS (S l) i = S [l.getD i.toNat 0] := by
  have h : i.toNat < l.length := by (first | lia | omega)
  have := chS_nat l i.toNat h
  rw [Int.toNat_of_nonneg h0] at this
  rw [this, List.getD_eq_getElem?_getD, List.getElem?_eq_getElem h]
  rfl
theorem chOk_at {l : List Nat} {i : Int} (h0 : 0 ≤ i) (h1 : i < l.length) : ((seqIndex? i (S l).length).bind ((S l).cps[·]?)).isSome = true := by
  have h : i.toNat < l.length := by (first | lia | omega)
  have := chOk_nat l i.toNat h
  rw [Int.toNat_of_nonneg h0] at this
  exact this
theorem getD_mem {l : List Nat} {i : Int} (h0 : 0 ≤ i) (h1 : i < l.length) : l.getD i.toNat 0 ∈ l := by
  have h : i.toNat < l.length := by (first | lia | omega)
  rw [List.getD_eq_getElem?_getD, List.getElem?_eq_getElem h]
  exact List.getElem_mem h
theorem find_at {l : List Nat} {i : Int} (hl : ∀ c ∈ l, c ∈ rgbL) (h0 : 0 ≤ i) (h1 : i < l.length) : Txt.find "rgb" (chS (S l) i) = col (l.getD i.toNat 0) := by
  rw [chS_at h0 h1]
  exact find_col _ (hl _ (getD_mem h0 h1))
noncomputable def vars_short : Vars := [("text", true), ("steps", true), ("bends", false)]
theorem sig_short : Sig f_short ["text"] vars_short := ⟨rfl, rfl, rfl, rfl, by decide +kernel, by decide +kernel, by decide +kernel, by decide +kernel⟩
theorem bind_short : ∀ fd (rs : List Value), fd.params = f_short.params → fd.defaults = f_short.dflt → rs.length = 1 → bindArgs fd ⟨rs, []⟩ = pure ((["text"] : List Str).zip rs) := by
  intro fd rs hp hd hl
  obtain ⟨a, rfl⟩ := len1 hl
  unfold bindArgs
  rw [hp, hd]
  rfl
theorem call_short {l : List Nat} (hl : l.length ≤ 40) (hr : ∀ c ∈ l, c ∈ rgbL) : CallOk (CC w) (n + 1) (.ref 150) [.str (S l)] (.bool (shortP l)) := by
  refine CallOk.def sig_short i_short rfl bind_short ?_
  have hsl : (stepsP l).length = l.length - 1 := by unfold stepsP range2L; simp
  refine XS.set (v := .lst ((stepsP l).map .int)) (x := "steps") ((QE.compI (f := fun i => .int ((col (l.getD i.toNat 0) - col (l.getD (i - 1).toNat 0)).fmod 3)) (CompOk.ints0 (by decide +kernel) (.cons .here (by decide +kernel) .nil) (by decide +kernel)
    (QI.range2L (k := l.length) (by decide +kernel) g_range b_range QE.int (QE.callB (by decide +kernel) g_len b_len (.cons (QE.name .here rfl) .nil (fun _ => rfl)) (lenS ?_) (by decide +kernel)) (by decide) (by (first | lia | omega))) (by unfold range2L; simp; (first | lia | omega)) (fun _ _ => trivial) fun j hj => ?_)).eqv (by unfold stepsP; rw [List.map_map]; rfl)) (.there .here) ?_ (swaps_cell (by decide +kernel))
  · rw [S_len]; (first | lia | omega)
  · obtain ⟨h0, h1⟩ := mem_range2L hj
    refine QE.eqv (QE.bin (QE.bin (QE.find QE.strc (QE.sub (QE.name (.there .here) rfl) (QE.name .here rfl) (getS1 ?_)) (fun _ => rfl) (by decide) (fun _ => rfl)) (QE.find QE.strc (QE.sub (QE.name (.there .here) rfl) (QE.bin (QE.name .here rfl) QE.int subI) (getS1 ?_)) (fun _ => rfl) (by decide) (fun _ => rfl)) subI) QE.int (modI ?_)) (by rw [find_at hr (by (first | lia | omega)) h1, find_at hr (by (first | lia | omega)) (by (first | lia | omega))])
    · exact ⟨by (first | lia | omega), by (first | lia | omega), chOk_at (by (first | lia | omega)) h1⟩
    · exact ⟨by (first | lia | omega), by (first | lia | omega), chOk_at (by (first | lia | omega)) (by (first | lia | omega))⟩
    · decide
  have hst : (stepsP l).length ≤ 40 := by (first | lia | omega)
  unfold shortP
  generalize stepsP l = st at *
  refine XS.setIf (t := bendT st) (f := fun i => .int (i.fmod 2)) (CompOk.ints (by decide +kernel) (.cons (.there .here) (by decide +kernel) .nil) (by decide +kernel)
    (QI.range2L (k := st.length) (by decide +kernel) g_range b_range QE.int ((QE.callB (by decide +kernel) g_len b_len (.cons (QE.name (.there .here) rfl) .nil (fun _ => rfl)) (lenL ?_) (by decide +kernel)).eqv (by rw [List.length_map])) (by decide) (by (first | lia | omega))) (by unfold range2L; simp; (first | lia | omega)) (fun _ _ => trivial) (fun j hj => .one ?_) fun j hj _ => ?_) (by decide +kernel) (.there (.there .here)) ?_ (swaps_local (by decide +kernel) (by decide +kernel) (by decide +kernel))
  · rw [List.length_map]; (first | lia | omega)
  · obtain ⟨h0, h1⟩ := mem_range2L hj
    refine (QB.cmp (QE.sub (QE.name (.there .here) rfl) (QE.name .here rfl) (getLI ?_ ?_ ?_)) (QE.sub (QE.name (.there .here) rfl) (QE.bin (QE.name .here rfl) QE.int subI) (getLI ?_ ?_ ?_)) neI (by with_unfolding_all rfl))
    · (first | lia | omega)
    · exact h1
    · (first | lia | omega)
    · (first | lia | omega)
    · (first | lia | omega)
    · (first | lia | omega)
  · refine (QE.bin (QE.name .here rfl) QE.int (modI ?_))
    decide
  have e1 : ((range2L 1 st.length).filter (bendT st)).map (fun i => AV.int (i.fmod 2)) = (bendsP st).map .int := by unfold bendsP; rw [List.map_map]; rfl
  rw [e1]
  exact XS.ret (QE.andB (QE.cmp QE.int (QE.name (.there .here) rfl) notInI (by with_unfolding_all rfl)) fun hh0 => (QE.orB (QE.cmp QE.int (QE.name (.nth 2 rfl rfl) rfl) notInI (by with_unfolding_all rfl)) fun hh0 => (QE.cmp QE.int (QE.name (.nth 2 rfl rfl) rfl) notInI (by with_unfolding_all rfl)))) (ret_eq rfl)
end Mine
end

noncomputable section
open PySem PySem.Calls PyProof.Rows PySem.W PySem.Flt PySem.SeqAt
set_option Elab.async false
set_option linter.unusedVariables false
namespace Mine
variable {w : WK} {n : Nat}
theorem type_append : typeOf (.builtin "list.append") = pure (.type "method_descriptor") := PySem.F.type_list_append
noncomputable def vars_push : Vars := [("self", false), ("fws", false), ("string", false)]
theorem sig_push : Sig f_push ["self", "fws", "string"] vars_push := ⟨rfl, rfl, rfl, rfl, by decide +kernel, by decide +kernel, by decide +kernel, by decide +kernel⟩
theorem bind_push : ∀ fd (rs : List Value), fd.params = f_push.params → fd.defaults = f_push.dflt → rs.length = 3 → bindArgs fd ⟨rs, []⟩ = pure ((["self", "fws", "string"] : List Str).zip rs) := by
  intro fd rs hp hd hl
  obtain ⟨a, b, c, rfl⟩ := len3 hl
  unfold bindArgs
  rw [hp, hd]
  rfl
theorem m_push {a d : Addr} {k : Int} {l : List (Str × Str)} {x y : Str} (Ok : ClsOk w.2) (hl : l.length ≤ 500) : MethC (CC w) (n + 1) (.ref 45) [.ref a] a (.acc d k l) [.str x, .str y] .none (.acc d k (l ++ [(x, y)])) := by
  refine MethC.def sig_push i_push rfl bind_push ?_
  refine XS.last (.expr (XE.methB (l := []) (r := []) Ok (QE.name .here rfl) (.cons (QE.tuple (.cons (QE.name (.there .here) rfl) (.cons (QE.name (.nth 2 rfl rfl) rfl) .nil (fun _ => rfl)) (fun _ => rfl)) (Nat.le_of_ble_eq_true rfl)) .nil (fun _ => rfl)) type_append Ok.append (by decide +kernel) (append_on (p := (x, y)) Ok hl) (fun _ => rfl) (by decide) (fun _ => rfl)) ⟨rfl, [], rfl⟩)
end Mine
end

noncomputable section
open PySem PySem.Calls PyProof.Rows PySem.W PySem.Flt PySem.SeqAt
set_option Elab.async false
set_option linter.unusedVariables false
set_option maxRecDepth 100000
namespace Mine
variable {w : WK} {n : Nat}
theorem MuOk.kp {s s' : Shared} {μ : Mu} (M : MuOk s.heap μ) (k : Kp s s') : MuOk s'.heap μ := M.mono fun b o _ e => k.heap b o e
theorem acc_ne {h : Heap} {a d : Addr} {k : Int} {l : List (Str × Str)} (M : MuOk h [(a, .acc d k l)]) : a ≠ 101 := fun e => by
  have := M.low a (by simp [muAll])
  subst e
  exact absurd this (by decide)
theorem file_ok : ((PySem.Challenge.pw_sh0020_01.main.file : Str) == ("/claim/cut.py" : Str)) = true := by decide +kernel
theorem top_ok : (PySem.Challenge.pw_sh0020_01.main.scope.names.lookup ("super" : Str)).isSome = false := by decide +kernel
theorem find_len {K : Frag} : alongIn K "__len__" [.type "list", .type "object"] = some (some (.builtin "list.__len__")) := by kernel_rfl
theorem type_len : typeOf (.builtin "list.__len__") = pure (.type "wrapper_descriptor") := by show builtinType _ = _; rw [builtinType_eq_fast]; kernel_rfl
theorem look_wd : typeLookup (.type "wrapper_descriptor") "__get__" = pure (some (.builtin "wrapper_descriptor.__get__")) := by rw [typeLookup_type, builtinLookup_eq_fast]; kernel_rfl
theorem bound_len {M : Model} {A : Around} {s : Shared} {x : Value} {Q : Unit → Shared → Prop} {E : Value → Shared → Prop} (q : Q () s) : wpAny M A (checkBoundCall "list.__len__" ⟨[x], []⟩) Q E s := by
  refine wpAny_of_eq (a := ()) ?_ q
  kernel_rfl
/-- list.__len__ upon a thing -/
theorem len_on {a d : Addr} {k : Int} {l : List (Str × Str)} {A : Around} {s : Shared} {Q : Value → Shared → Prop} {E : Value → Shared → Prop} (M : MuOk s.heap [(a, .acc d k l)]) (h : ∀ tk, Q (.int l.length tk) { s with toks := s.toks + 1 }) :
    wpAny (model (CC w).prog (CC w).w) A (Builtin.«list.__len__» ⟨[.ref a], []⟩) (fun fin s' => match fin with | .done (.ret v) => Q v s' | _ => False) E s := by
  obtain ⟨⟨vs, ep, e, rv⟩, _⟩ := M.at' _ (.head _)
  have hl : (List.toArray vs).size = l.length := by rw [List.size_toArray, ← rv.length, List.length_map]
  unfold Builtin.«list.__len__»
  refine wpAny_bind (wpAny_of_eq (a := (Value.ref a, [])) (by kernel_rfl) ?_)
  dsimp only
  refine wpAny_bind ?_
  unfold seqSize
  refine wpAny_bind (wpAny_loadPart e ?_)
  refine wpAny_pure ?_
  rw [hl]
  exact wpAny_bind (wpAny_mkInt (wpAny_pure (h _)))
theorem q_part_count {a d : Addr} {k : Int} {l : List (Str × Str)} (Ok : ClsOk w.2) {A : Around} {s : Shared} (R : Lvl (n + 1) A) (P : Pg (CC w) s.heap) (M : MuOk s.heap [(a, .acc d k l)]) :
    wpAny (model (CC w).prog (CC w).w) A (call (.ref 98) [.ref a]) (fun r s' => Rel s'.heap (.int l.length) r ∧ Kp s s') bot s := by
  obtain ⟨⟨vs, ep, e, rv⟩, _⟩ := M.at' _ (.head _)
  refine def_at (binds := [("self", .ref a)]) R P i_part_count rfl rfl rfl (fun fd h1 h2 => .of_eq (by unfold bindArgs; rw [h1, h2]; rfl)) (by decide +kernel) (by intro x hx; rcases List.mem_cons.mp hx with rfl | hx; exact (by decide +kernel : f_part_count.scope.names.lookup ("self" : Str) = some NameKind.local); cases hx) fun env s₁ Eo hfu hco hcl hL hn k1 R' => ?_
  have P1 := P.keeps k1.heap
  have M1 := M.kp k1
  have e1 := k1.heap _ _ e
  refine ks_wpAt_execs_cons (ks_wpAt_Return_some ?_)
  refine super_call (C := CC w) (ar := { arg := "self", annotation := none, pos := _ }) Eo (by decide +kernel) g_super b_super (by decide +kernel) (by rw [hcl]; rfl) (by decide +kernel) hn rfl hfu hco i_part_count rfl (by decide) P1 Ok e1 rfl (by simp) (acc_ne M) file_ok top_ok (by decide) (by decide +kernel) find_len type_len look_wd
    (fun A s Q' E' X hx hq => get_len X Ok hx rfl hq) (.inl rfl) (by decide +kernel) PySem.F.entry_list_len (fun _ _ q => bound_len q) fun s₂ k2 => ?_
  have k12 := k1.trans' k2
  refine len_on (M.kp k12) fun tk => ?_
  have k3 := k12.trans' (Kp.tok s₂ (s₂.toks + 1))
  exact ⟨.int _ _, k3⟩
theorem find_pop {K : Frag} : alongIn K "pop" [.type "list", .type "object"] = some (some (.builtin "list.pop")) := by kernel_rfl
theorem type_pop : typeOf (.builtin "list.pop") = pure (.type "method_descriptor") := by show builtinType _ = _; rw [builtinType_eq_fast]; kernel_rfl
theorem look_md : typeLookup (.type "method_descriptor") "__get__" = pure (some (.builtin "method_descriptor.__get__")) := by rw [typeLookup_type, builtinLookup_eq_fast]; kernel_rfl
/-- list.pop upon a thing that has something -/
theorem pop_on {a d : Addr} {k : Int} {l : List (Str × Str)} {p : Str × Str} {A : Around} {s : Shared} {Q : Value → Shared → Prop} {E : Value → Shared → Prop} (hl : l.length ≤ 500) (M : MuOk s.heap [(a, .acc d k (l ++ [p]))])
    (h : ∀ v s', Rel s'.heap (pairV p) v → MuOk s'.heap [(a, .acc d k l)] → Stp false (Wq false [(a, .acc d k (l ++ [p]))]) s s' → (∀ b o, b < 170 → s.heap.get? b = some o → s'.heap.get? b = some o) → Q v s') :
    wpAny (model (CC w).prog (CC w).w) A (Builtin.«list.pop» ⟨[.ref a], []⟩) (fun fin s' => match fin with | .done (.ret v) => Q v s' | _ => False) E s := by
  obtain ⟨⟨vs, ep, e, rv⟩, _⟩ := M.at' _ (.head _)
  have hsz : vs.length = l.length + 1 := by rw [← rv.length]; simp
  unfold Builtin.«list.pop»
  refine wpAny_bind (wpAny_of_eq (a := (Value.ref a, [])) (by kernel_rfl) ?_)
  dsimp only
  refine wpAny_bind (wpAny_pure ?_)
  have hfit : Builtin.List.listFitsIndex (-1) = true := by decide +kernel
  simp only [hfit, Bool.not_true, Bool.false_eq_true, if_false]
  unfold Builtin.List.listItems
  refine wpAny_bind (wpAny_bind (wpAny_seqItems e rfl (wpAny_pure ?_)))
  have hemp : (List.toArray vs).isEmpty = false := by
    rw [List.isEmpty_toArray]
    cases vs with
    | nil => simp at hsz
    | cons _ _ => rfl
  simp only [hemp, Bool.false_eq_true, if_false]
  have hlt : l.length < vs.length := by (first | lia | omega)
  have hidx : ((seqIndex? (-1) (List.toArray vs).size).bind fun k => (List.toArray vs)[k]?.map (k, ·)) = some (l.length, vs[l.length]) := by
    have h1 : seqIndex? (-1) (List.toArray vs).size = some l.length := by
      unfold seqIndex?
      rw [List.size_toArray, hsz]
      simp only [show ((-1 : Int) < 0) from by decide, if_true]
      rw [if_pos (by simp; (first | lia | omega))]
      congr 1
      (first | lia | omega)
    rw [h1, Option.bind_some, List.getElem?_toArray, List.getElem?_eq_getElem hlt]
    rfl
  rw [hidx]
  dsimp only
  have hz : (List.toArray vs).size ≤ 1000 := by rw [List.size_toArray]; (first | lia | omega)
  refine wpAny_bind (wpAny_updateSeq e rfl ?_ (Nat.le_trans hz (by decide)) (Nat.le_trans (Nat.le_trans (by simp; rw [List.length_eraseIdx]; split <;> (first | lia | omega)) hz) (by decide)))
  have hlast : Rel s.heap (pairV p) vs[l.length] := rv.get l.length _ _ (by rw [List.map_append, List.getElem?_append_right (by simp)]; simp) (List.getElem?_eq_getElem hlt)
  have htake : vs.eraseIdx l.length = vs.take l.length := by
    rw [List.eraseIdx_eq_take_drop_succ, List.drop_eq_nil_of_le (by (first | lia | omega)), List.append_nil]
  obtain ⟨M', S'⟩ := acc_write (f := (·.eraseIdxIfInBounds l.length)) (l' := l) M fun us r' => ⟨us.take l.length, by
      have hu : us.length = l.length + 1 := by rw [← r'.length]; simp
      apply Array.ext'
      rw [Array.toList_eraseIdxIfInBounds]
      simp only []
      rw [List.eraseIdx_eq_take_drop_succ, List.drop_eq_nil_of_le (by (first | lia | omega)), List.append_nil], by
      have := r'.length
      refine .of_get (by simp at this ⊢; (first | lia | omega)) fun i x y h1 h2 => ?_
      have hi : i < l.length := by
        have := (List.getElem?_eq_some_iff.mp h1).1
        simpa using this
      refine r'.get i x y ?_ ?_
      · rw [List.map_append, List.getElem?_append_left (by simpa using hi)]; exact h1
      · rw [List.getElem?_take_of_lt hi] at h2; exact h2⟩
  exact wpAny_pure (h _ _ (hlast.mono (S'.seq rfl)) M' S' fun b o hb e => (Heap.get?_update_other _ _ (Ne.symm (acc_wr M hb))).trans e)
end Mine
end

noncomputable section
open PySem PySem.Calls PyProof.Rows PySem.W PySem.Flt PySem.SeqAt
set_option Elab.async false
set_option linter.unusedVariables false
set_option maxRecDepth 100000
namespace Mine
variable {w : WK} {n : Nat}
noncomputable def sigPop : Manifest.Signature := (Manifest.signature? "list.pop").getD ⟨.hand, "", "", .none, []⟩
theorem sig_pop' : Manifest.signature? "list.pop" = some sigPop := by kernel_rfl
theorem isType_ref {M : Model} {h : Heap} {a : Addr} {o : Obj} (e : h.get? a = some o) (hn : ∀ c, o.data ≠ .cls c) : Looks M h (isType (.ref a)) false := by
  refine (Looks.ld e).andThen ?_
  refine Looks.of_pure ?_
  obtain ⟨c, d, dt, sl⟩ := o
  cases dt <;> first | rfl | exact absurd rfl (hn _)
theorem bound_pop {M : Model} {A : Around} {K : Frag} {s : Shared} {a : Addr} {ox : Obj} {Q : Unit → Shared → Prop} {E : Value → Shared → Prop} (X : K.In s.heap) (Ok : ClsOk K) (hx : s.heap.get? a = some ox) (hc : ox.cls = .ref 101) (hn : ∀ c, ox.data ≠ .cls c) (q : Q () s) :
    wpAny M A (checkBoundCall "list.pop" ⟨[.ref a], []⟩) Q E s := by
  have T : Looks M s.heap (typeOf (.ref a)) (.ref 101) := hc ▸ (Looks.ld hx).andThen .now
  have hm : Looks M s.heap (isInstance (.ref a) (.type "module")) false := T.andThen (looks_mroIn X Ok.mod)
  obtain ⟨cd, hcd, hq⟩ := Option.map_eq_some_iff.mp Ok.qual
  unfold checkBoundCall
  rw [sig_pop', show builtinKind "list.pop" = some .method from by decide +kernel]
  dsimp only
  rw [if_neg (by decide)]
  refine wpAny_bind (hm.here ?_)
  rw [if_neg (by decide +kernel)]
  with_reducible refine wpAny_bind ?_
  with_reducible refine (isType_ref hx hn).here ?_
  rw [if_neg Bool.false_ne_true]
  with_reducible refine wpAny_bind ?_
  refine T.here ?_
  dsimp only
  refine wpAny_bind ((looks_clsIn X hcd).here ?_)
  rw [hq]
  refine wpAny_bind ((looks_typeIn X Ok.meta').here ?_)
  rw [if_pos (by decide +kernel)]
  exact wpAny_of_eq (a := ()) (by kernel_rfl) q
/-- self.part_count() -/
theorem pc_eval {env : Env} {a d : Addr} {k : Int} {l : List (Str × Str)} {names : List (Str × NameKind)} {vars : Vars} {σ : List (Option AV)} {o : Expr} {apos pos : Pos} (Ok : ClsOk w.2) {A : Around} {s : Shared} (Eo : EnvOk names env) (R : Lvl (n + 1) A) (P : Pg (CC w) s.heap) (M : MuOk s.heap [(a, .acc d k l)])
    (L : Loc s.heap env vars σ) (ho : QE (CC w) (n + 1) names vars σ o (.acc a)) (hbase : attributeBase o "part_count" env (eval o env) = eval o env) (hline : (apos.endLine == pos.line) = true) :
    wpAny (model (CC w).prog (CC w).w) A (eval (.Call (.Attribute o "part_count" apos) [] [] pos) env) (fun r s' => Rel s'.heap (.int l.length) r ∧ Kp s s') bot s := by
  refine call_attr hbase rfl hline (wp_post (ho.run env A s Eo R P L) fun ov s₁ ⟨r1, k1⟩ => ?_)
  obtain rfl := r1.acc_eq
  have P1 := P.keeps k1.heap
  have M1 := M.kp k1
  obtain ⟨⟨vs', ep, e1, _⟩, hs, kt, tk, ep', e2⟩ := M1.at' (a, .acc d k l) (.head _)
  refine ⟨(.ref 98, [.ref a]), fun pl => meth_inst P1.fr Ok e1 rfl rfl e2 (look_other (by decide +kernel)) Ok.part_count (looks_typeIn P1.fr (Ok.fns 98 (by decide))) (.inl rfl), ?_⟩
  obtain ⟨o', fd, g1, g2, _⟩ := P1.fn _ i_part_count
  refine callWith_function (o := o') (fd := fd) (PySem.evalArgs_none ⟨⟨g1, g2⟩, ?_⟩)
  exact wp_post (q_part_count Ok R P1 M1) fun r s' ⟨h, k2⟩ => ⟨h, k1.trans' k2⟩

theorem pop_head {a d : Addr} {k : Int} {l : List (Str × Str)} (Ok : ClsOk w.2) {A : Around} {s : Shared} (R : Lvl (n + 2) A) (P : Pg (CC w) s.heap) (M : MuOk s.heap [(a, .acc d k l)]) {Q : Value → Shared → Prop}
    (h0 : l = [] → ∀ v s', Kp s s' → Rel s'.heap (pairV ("", "")) v → Q v s')
    (h1 : l ≠ [] → ∀ (A' : Around) s', Kp s s' → wpAny (model (CC w).prog (CC w).w) A' (Builtin.«list.pop» ⟨[.ref a], []⟩) (fun fin s' => match fin with | .done (.ret v) => Q v s' | _ => False) bot s') :
    wpAny (model (CC w).prog (CC w).w) A (call (.ref 61) [.ref a]) Q bot s := by
  obtain ⟨⟨vs, ep, e, rv⟩, _⟩ := M.at' _ (.head _)
  refine def_at (binds := [("self", .ref a)]) R P i_pop rfl rfl rfl (fun fd h1 h2 => .of_eq (by unfold bindArgs; rw [h1, h2]; rfl)) (by decide +kernel) (by intro x hx; rcases List.mem_cons.mp hx with rfl | hx; exact (by decide +kernel : f_pop.scope.names.lookup ("self" : Str) = some NameKind.local); cases hx) fun env s₁ Eo hfu hco hcl hlo hn k1 R' => ?_
  have P1 := P.keeps k1.heap
  have M1 := M.kp k1
  have e1 := k1.heap _ _ e
  have L1 : Loc s₁.heap env [("self", false)] [some (.acc a)] := fun i x c v h1 h2 => by
    match i, h1, h2 with
    | 0, h1, h2 =>
      simp at h1 h2
      obtain ⟨rfl, rfl⟩ := h1
      subst h2
      exact ⟨.ref a, ⟨by rw [Eo.kindOf]; decide +kernel, _, hn, rfl⟩, .acc a⟩
    | i + 1, h1, h2 => simp at h1
  refine ks_wpAt_execs_cons (ks_wpAt_If (PySem.wpAt_of_wpAny (wp_post (Q := fun b s' => b = ((l.length : Int) == 0) ∧ Kp s₁ s') (wpAny_isTrue_Compare1 ?_ (by with_unfolding_all rfl)) ?_)))
  · refine wp_post (pc_eval Ok Eo R' P1 M1 L1 (QE.name .here rfl) rfl (by decide)) fun x s₂ ⟨r2, k2⟩ => ?_
    refine wp_post ((QE.int : QE (CC w) (n + 1) f_pop.scope.names [("self", false)] [some (.acc a)] _ (.int 0)).run env _ s₂ Eo R' (P1.keeps k2.heap) (L1.keeps k2.heap)) fun y s₃ ⟨r3, k3⟩ => ?_
    refine wp_post (eqI (C := CC w) (n := n) _ s₃ x y R'.down ((P1.keeps k2.heap).keeps k3.heap) (r2.keeps k3.heap) r3) fun z s₄ ⟨r4, k4⟩ => ?_
    obtain rfl := r4.bool_eq
    exact wpAny_truthy_bool ⟨rfl, (k2.trans' k3).trans' k4⟩
  rintro b s₂ ⟨rfl, k2⟩
  have P2 := P1.keeps k2.heap
  have k12 := k1.trans' k2
  cases hl : l with
  | nil =>
    show PySem.wpAt _ _ _ (execs _ env) _ _ _
    refine ks_wpAt_execs_cons (ks_wpAt_Return_some (PySem.wpAt_of_wpAny ?_))
    refine wp_post ((QE.tuple (vs := [.str "", .str ""]) (.cons QE.strc (.cons QE.strc .nil (fun _ => rfl)) (fun _ => rfl)) (by decide) : QE (CC w) (n + 1) f_pop.scope.names [("self", false)] [some (.acc a)] _ _).run env _ s₂ Eo R' P2 (L1.keeps k2.heap)) fun v s₃ ⟨r3, k3⟩ => ?_
    exact h0 hl v s₃ (k12.trans' k3) r3
  | cons q qs =>
    show PySem.wpAt _ _ _ (execs [] env) _ _ _
    refine PySem.wpAt_of_wpAny ?_
    rw [execs_nil]
    refine wpAny_pure ?_
    show PySem.wpAt _ _ _ (execs _ env) _ _ _
    refine ks_wpAt_execs_cons (ks_wpAt_Return_some ?_)
    refine super_call (C := CC w) (ar := { arg := "self", annotation := none, pos := _ }) Eo (by decide +kernel) g_super b_super (by decide +kernel) (by rw [hcl]; rfl) (by decide +kernel) (hn.keeps k2.heap) rfl hfu hco i_pop rfl (by decide) P2 Ok (k2.heap _ _ e1) rfl (by simp) (acc_ne M) file_ok top_ok (by decide) (by decide +kernel) find_pop type_pop look_md
      (fun A s Q' E' X hx hq => get_pop X Ok hx rfl hq) (.inr rfl) (by decide +kernel) PySem.F.entry_list_pop (fun X hx q => ?_) fun s₃ k3 => ?_
    · exact bound_pop X Ok hx rfl (by simp) q
    · exact h1 (by rw [hl]; simp) _ s₃ (k12.trans' k3)
theorem m_pop {a d : Addr} {k : Int} {l : List (Str × Str)} {p : Str × Str} (Ok : ClsOk w.2) (hl : l.length ≤ 500) : MethC (CC w) (n + 2) (.ref 61) [.ref a] a (.acc d k (l ++ [p])) [] (pairV p) (.acc d k l) := fun A s rs R P M ra => by
  obtain rfl := ra.nil_eq
  refine pop_head Ok R P M (fun h => by simp at h) fun _ A' s₁ k1 => ?_
  refine pop_on hl (M.kp k1) fun v s' hv M' S' low => ⟨hv, M', k1.stp.trans S', (P.tab.step fun b o hb e => low b o hb (k1.heap b o e))⟩
theorem m_pop0 {a d : Addr} {k : Int} (Ok : ClsOk w.2) : MethC (CC w) (n + 2) (.ref 61) [.ref a] a (.acc d k []) [] (pairV ("", "")) (.acc d k []) := fun A s rs R P M ra => by
  obtain rfl := ra.nil_eq
  exact pop_head Ok R P M (fun _ v s' k1 hv => ⟨hv, M.kp k1, k1.stp, (P.keeps k1.heap).tab⟩) fun h => absurd rfl h
end Mine
end

noncomputable section
open PySem PySem.Calls PyProof.Rows PySem.W PySem.Flt PySem.SeqAt
set_option Elab.async false
set_option linter.unusedVariables false
set_option maxRecDepth 100000
namespace Mine
variable {w : WK} {n : Nat}
noncomputable def vars_pop_from : Vars := [("self", false), ("i", false), ("popped", false)]
theorem sig_pop_from : Sig f_pop_from ["self", "i"] vars_pop_from := ⟨rfl, rfl, rfl, rfl, by decide +kernel, by decide +kernel, by decide +kernel, by decide +kernel⟩
theorem pop_from_body {a d : Addr} {k : Int} {l : List (Str × Str)} {i : Int} (Ok : ClsOk w.2) (h0 : 0 ≤ i) (hl : l.length ≤ 500) :
    XS (CC w) n f_pop_from.scope.names vars_pop_from false (start ["self", "i"] [.acc a, .int i] vars_pop_from) [(a, .acc d k l)] f_pop_from.body
      (fun fl σ μ => fl.val = .lst ((l.drop i.toNat).map pairV) ∧ ∃ rest, μ = (a, .acc d k (l.take i.toNat)) :: rest) := by
  refine XS.setX (x := "popped") (XE.sliceAcc (l := []) (r := []) Ok (QE.name .here rfl) (QE.name (.there .here) rfl) h0 hl) (.there (.there .here)) ?_
  refine XS.seq (X1.cutAcc (l := []) (r := []) Ok (QE.name .here rfl) (QE.name (.there .here) rfl) h0 hl ⟨rfl, rfl, rfl⟩) ?_
  exact XS.ret (QE.name (.nth 2 rfl rfl) rfl) ⟨rfl, [], rfl⟩
theorem m_pop_from {a d : Addr} {k : Int} {l : List (Str × Str)} {i : Int} (Ok : ClsOk w.2) (h0 : 0 ≤ i) (hl : l.length ≤ 500) :
    MethC (CC w) (n + 1) (.ref 53) [.ref a] a (.acc d k l) [.int i] (.lst ((l.drop i.toNat).map pairV)) (.acc d k (l.take i.toNat)) := by
  obtain ⟨o, t, m, e, hd⟩ := Ok.d46
  refine MethC.defB sig_pop_from i_pop_from (args := [.acc a, .int i]) rfl (fun s rs P ra => ⟨.ref a :: rs, .cons (.acc a) ra, fun fd h1 h2 => ?_⟩) (pop_from_body Ok h0 hl)
  obtain ⟨r, rfl, _⟩ := ra.one_ex
  cases fd
  cases h1
  cases h2
  exact BindsTo.of_defaults rfl (P.fr _ _ e) hd rfl rfl
theorem m_pop_from0 {a d : Addr} {k : Int} {l : List (Str × Str)} (Ok : ClsOk w.2) (hl : l.length ≤ 500) :
    MethC (CC w) (n + 1) (.ref 53) [.ref a] a (.acc d k l) [] (.lst (l.map pairV)) (.acc d k []) := by
  obtain ⟨o, t, m, e, hd⟩ := Ok.d46
  refine MethC.defB sig_pop_from i_pop_from (args := [.acc a, .int 0]) rfl (fun s rs P ra => ⟨[.ref a, .int 0 t], .cons (.acc a) (.cons (.int 0 t) .nil), fun fd h1 h2 => ?_⟩) (pop_from_body Ok (Int.le_refl 0) hl)
  obtain rfl := ra.nil_eq
  cases fd
  cases h1
  cases h2
  exact BindsTo.of_defaults rfl (P.fr _ _ e) hd rfl rfl
end Mine
end

noncomputable section
open PySem PySem.Calls PyProof.Rows PySem.W PySem.Flt PySem.SeqAt
set_option Elab.async false
set_option linter.unusedVariables false
set_option maxRecDepth 100000
namespace Mine
variable {w : WK} {n : Nat}
noncomputable def pairLen (p : Str × Str) : Int := (p.1.length : Int) + p.2.length
noncomputable def lenP (k : Int) (items : List (Str × Str)) : Int := k + (items.map pairLen).sum
noncomputable def pairStr (p : Str × Str) : Str := Txt.join "" [p.1, p.2]
noncomputable def strP (items : List (Str × Str)) : Str := Txt.join "" (items.map pairStr)
theorem self_loc {names : List (Str × NameKind)} {env : Env} {h : Heap} {a : Addr} {m : Str → Option Value} (Eo : EnvOk names env) (hk : names.lookup ("self" : Str) = some NameKind.local) (hn : h.Ns env.locals m) (hm : m ("self" : Str) = some (.ref a)) : Loc h env [("self", false)] [some (.acc a)] := fun i x c v h1 h2 => by
  match i, h1, h2 with
  | 0, h1, h2 =>
    simp at h1 h2
    obtain ⟨rfl, rfl⟩ := h1
    subst h2
    exact ⟨.ref a, ⟨by rw [Eo.kindOf]; exact hk, m, hn, hm⟩, .acc a⟩
  | i + 1, h1, h2 => simp at h1
theorem m_len {a d : Addr} {k : Int} {items : List (Str × Str)} (Ok : ClsOk w.2) (hk : k = 0 ∨ k = 2) (hlen : items.length ≤ 500) (hb : ∀ p ∈ items, p.1.length ≤ 100 ∧ p.2.length ≤ 100) :
    MethC (CC w) (n + 3) (.ref 68) [.ref a] a (.acc d k items) [] (.int (lenP k items)) (.acc d k items) := fun A s rs R P M ra => by
  obtain rfl := ra.nil_eq
  refine def_at (binds := [("self", .ref a)]) R P i_len rfl rfl rfl (fun fd h1 h2 => .of_eq (by unfold bindArgs; rw [h1, h2]; rfl)) (by decide +kernel) (by intro x hx; rcases List.mem_cons.mp hx with rfl | hx; exact (by decide +kernel : f_len.scope.names.lookup ("self" : Str) = some NameKind.local); cases hx) fun env s₁ Eo hfu hco hcl hlo hn k1 R' => ?_
  have P1 := P.keeps k1.heap
  have M1 := M.kp k1
  have hself : VarIs s₁.heap env "self" false (.ref a) := ⟨by rw [Eo.kindOf]; exact (by decide +kernel : f_len.scope.names.lookup ("self" : Str) = some NameKind.local), _, hn, rfl⟩
  refine ks_wpAt_execs_cons (ks_wpAt_Return_some (PySem.wpAt_of_wpAny ?_))
  refine wpAny_Call_NameR (wpAny_Name (load_blt Eo P1 (by decide +kernel) g_sum b_sum ?_) (by decide +kernel))
  refine PyProof.Rows.callWith_builtin1 (spliced_more ?_)
  refine gen_acc (C := CC w) code_len (f := fun p => .int (pairLen p)) Ok Eo R' P1 M1 hco (wpAny_Name (load_var Eo.kind hself rfl ⟨rfl, rfl⟩) rfl) rfl rfl (by decide +kernel) (by decide +kernel) (by decide +kernel) (by decide +kernel) (by decide) rfl (fun p => trivial) (fun p hp => ?_) (fun _ => rfl) fun g s₅ G5 => ?_
  · have := hb p hp
    refine (QE.bin (QE.callB (by decide +kernel) g_len b_len (.cons (QE.name .here rfl) .nil (fun _ => rfl)) (lenS ?_) (by decide +kernel)) (QE.callB (by decide +kernel) g_len b_len (.cons (QE.name (.there .here) rfl) .nil (fun _ => rfl)) (lenS ?_) (by decide +kernel)) addI)
    · exact Nat.le_trans this.1 (by decide)
    · exact Nat.le_trans this.2 (by decide)
  have q5 := G5.qt
  have hP : (63 : Addr) ∈ tabs := by decide
  have hne : env.locals ≠ 63 := by
    have : s.heap.objs.size ≠ 63 := Nat.ne_of_gt (Nat.lt_of_lt_of_le (by decide : 63 < 170) P.size)
    rw [hlo]; exact this
  have hn5 : s₅.heap.Ns env.locals _ := hn.at' fun o e => q5.keep _ o hne e
  have P5 := P1.qt q5 hP
  have M5 := M1.qt q5 hP P1.tab
  have L5 := self_loc Eo (by decide +kernel) hn5 rfl
  refine spliced_more (wpAny_mono (wpAny_toks (size_eval (C := CC w) (names := f_len.scope.names) Ok Eo R' P5 M5 L5 (QE.name .here rfl) rfl fun _ _ => rfl)) (fun v s₆ ⟨ht, ⟨tk, ev⟩, k6⟩ => ?_) fun _ _ x => x.2)
  subst ev
  refine spliced_none ?_
  refine wp_post (sum_stand (f := pairLen) hk G5 k6 ht (by decide) P1.size (fun p hp => ?_) hlen (P5.keeps k6.heap).tab) fun r s' ⟨⟨u, er⟩, q⟩ => ?_
  · have := hb p hp
    unfold pairLen
    (first | lia | omega)
  subst er
  have qq : Qt 63 s s' := (Qt.of_kp k1 P1.tab).trans q
  exact ⟨.int _ _, qq.aft hP P.tab M⟩
theorem m_str {a d : Addr} {k : Int} {items : List (Str × Str)} (Ok : ClsOk w.2) (hlen : items.length ≤ 500) (hb : ∀ p ∈ items, p.1.length ≤ 100 ∧ p.2.length ≤ 100) (hok : JoinOk "" (items.map pairStr) = true) :
    MethC (CC w) (n + 3) (.ref 75) [.ref a] a (.acc d k items) [] (.str (strP items)) (.acc d k items) := fun A s rs R P M ra => by
  obtain rfl := ra.nil_eq
  refine def_at (binds := [("self", .ref a)]) R P i_str rfl rfl rfl (fun fd h1 h2 => .of_eq (by unfold bindArgs; rw [h1, h2]; rfl)) (by decide +kernel) (by intro x hx; rcases List.mem_cons.mp hx with rfl | hx; exact (by decide +kernel : f_str.scope.names.lookup ("self" : Str) = some NameKind.local); cases hx) fun env s₁ Eo hfu hco hcl hlo hn k1 R' => ?_
  have P1 := P.keeps k1.heap
  have M1 := M.kp k1
  have hself : VarIs s₁.heap env "self" false (.ref a) := ⟨by rw [Eo.kindOf]; exact (by decide +kernel : f_str.scope.names.lookup ("self" : Str) = some NameKind.local), _, hn, rfl⟩
  have hP : (70 : Addr) ∈ tabs := by decide
  refine ks_wpAt_execs_cons (ks_wpAt_Return_some (PySem.wpAt_of_wpAny ?_))
  refine Call_method1 rfl rfl (by decide) (wp_post ((QE.glob (by decide +kernel) g_EMPTYSTRING (by decide +kernel) : QE (CC w) (n + 1) f_str.scope.names [] [] _ (.str "")).run env _ s₁ Eo R'.down P1 (fun i x c v h1 _ => by simp at h1)) fun ov s₂ ⟨r2, k2⟩ => ?_)
  obtain ⟨t2, rfl⟩ := rel_str r2
  have P2 := P1.keeps k2.heap
  have M2 := M1.kp k2
  refine ⟨"str", _, F.plainAttrs_str, F.slot_str_join, F.type_str_join, typeIs_str _ _ _, (fun _ e => nomatch e), ?_⟩
  refine callWith_builtin rfl (evalArgs_plain (Calls.spliced_cons ?_))
  have hself2 : VarIs s₂.heap env "self" false (.ref a) := hself.keeps k2.heap
  refine gen_acc (C := CC w) code_str (f := fun p => .str (pairStr p)) Ok Eo R' P2 M2 hco (wpAny_Name (load_var Eo.kind hself2 rfl ⟨rfl, rfl⟩) rfl) rfl rfl (by decide +kernel) (by decide +kernel) (by decide +kernel) (by decide +kernel) (by decide) rfl (fun p => trivial) (fun p hp => ?_) (fun _ => rfl) fun g s₅ G5 => ?_
  · have := hb p hp
    exact QE.joinT ⟨by decide, Nat.le_trans this.1 (by decide), Nat.le_trans this.2 (by decide)⟩ (QE.glob (by decide +kernel) g_EMPTYSTRING (by decide +kernel)) (QE.tuple (.cons (QE.name .here rfl) (.cons (QE.name (.there .here) rfl) .nil (fun _ => rfl)) (fun _ => rfl)) (Nat.le_of_ble_eq_true rfl)) (fun _ => rfl) (by decide) (fun _ => rfl)
  refine Calls.spliced_nil ?_
  refine wp_post (join_stand (f := pairStr) G5 (by decide) P2.size hok hlen) fun r s' ⟨⟨u, er⟩, q⟩ => ?_
  subst er
  have qq : Qt 70 s s' := (Qt.of_kp (k1.trans' k2) P2.tab).trans q
  exact ⟨.str _ _, qq.aft hP P.tab M⟩
end Mine
end

noncomputable section
open PySem PySem.Calls PyProof.Rows PySem.W PySem.Flt PySem.SeqAt
set_option Elab.async false
set_option linter.unusedVariables false
set_option maxRecDepth 100000
namespace Mine
variable {w : WK} {n : Nat}
theorem find_init {K : Frag} : alongIn K "__init__" [.type "list", .type "object"] = some (some (.builtin "list.__init__")) := by kernel_rfl
theorem type_init : typeOf (.builtin "list.__init__") = pure (.type "wrapper_descriptor") := by show builtinType _ = _; rw [builtinType_eq_fast]; kernel_rfl
theorem bound_init {M : Model} {A : Around} {s : Shared} {x : Value} {Q : Unit → Shared → Prop} {E : Value → Shared → Prop} (q : Q () s) : wpAny M A (checkBoundCall "list.__init__" ⟨[x], []⟩) Q E s := by
  refine wpAny_of_eq (a := ()) ?_ q
  kernel_rfl
/-- a thing before it is made -/
structure Raw (h : Heap) (x d : Addr) : Prop where
  hx : h.get? x = some (accObj d)
  hd : h.get? d = some emptyDict
  ne : x ≠ d
  lx : 170 ≤ x
  ld : 170 ≤ d
/-- behind __init__ -/
structure Inited (x d : Addr) (k : Int) (s s' : Shared) : Prop where
  mu : MuOk s'.heap [(x, .acc d k [])]
  keep : ∀ b o, b ≠ x → b ≠ d → s.heap.get? b = some o → s'.heap.get? b = some o
  shape : ∃ h tk, s' = { s with heap := h, toks := tk }
theorem entry_list_init : entryFor table "list.__init__" = some Builtin.«list.__init__» := entryFor_of_tree (by kernel_rfl)
theorem init_loc {names : List (Str × NameKind)} {env : Env} {h : Heap} {m : Str → Option Value} {y : Str} {v : Value} (Eo : EnvOk names env) (hk : names.lookup y = some NameKind.local) (hn : h.Ns env.locals m) (hm : m y = some v) : VarIs h env y false v := ⟨by rw [Eo.kindOf]; exact hk, m, hn, hm⟩
theorem init_code {x d : Addr} {k : Int} {t : Tok} {rs : List Value} (Ok : ClsOk w.2) {A : Around} {s : Shared} (R : Lvl (n + 1) A) (P : Pg (CC w) s.heap) (X : Raw s.heap x d)
    (hb : ∀ fd, fd.params = f_init.params → fd.defaults = f_init.dflt → BindsTo s fd ⟨.ref x :: rs, []⟩ [("self", .ref x), ("initial_size", .int k t)]) :
    codeAny (model (CC w).prog (CC w).w) A (.call (.ref 38) ⟨.ref x :: rs, []⟩) (fun r s' => match r with | .ok (.ret v) => v = .none ∧ Inited x d k s s' | .ok _ => False | .error e => bot e s') s := by
  refine def_code (Q := fun v s' => v = .none ∧ Inited x d k s s') (binds := [("self", .ref x), ("initial_size", .int k t)]) R P i_init rfl rfl rfl hb (by decide +kernel) (by
    intro y hy
    rcases List.mem_cons.mp hy with rfl | hy
    · exact (by decide +kernel : f_init.scope.names.lookup ("self" : Str) = some NameKind.local)
    · rcases List.mem_cons.mp hy with rfl | hy
      · exact (by decide +kernel : f_init.scope.names.lookup ("initial_size" : Str) = some NameKind.local)
      · cases hy) fun env s₁ Eo hfu hco hcl hlo hn k1 R' => ?_
  have P1 := P.keeps k1.heap
  have x1 := k1.heap _ _ X.hx
  have d1 := k1.heap _ _ X.hd
  have v1 := init_loc (y := "initial_size") Eo (by decide +kernel : f_init.scope.names.lookup ("initial_size" : Str) = some NameKind.local) hn rfl
  have v2 := init_loc (y := "self") Eo (by decide +kernel : f_init.scope.names.lookup ("self" : Str) = some NameKind.local) hn rfl
  have hld : env.locals ≠ d := by rw [hlo]; exact Nat.ne_of_gt (Heap.lt_size X.hd)
  have hlx : env.locals ≠ x := by rw [hlo]; exact Nat.ne_of_gt (Heap.lt_size X.hx)
  refine ks_wpAt_execs_cons (ks_wpAt_Assign_Attr (PySem.wpAt_of_wpAny (wpAny_Name (load_var Eo.kind v1 (by decide +kernel) ?_) (by decide +kernel))))
  refine wpAny_Name (load_var Eo.kind v2 (by decide +kernel) ?_) (by decide +kernel)
  refine store_size P1.fr Ok x1 d1 fun h2 tk2 tk3 ep2 hd2 hk2 => ?_
  have P2 : Pg (CC w) h2 := P1.step fun b o hb e => hk2 b o (fun hbd => absurd hb (by rw [hbd]; exact Nat.not_lt.mpr X.ld)) e
  have x2 := hk2 _ _ X.ne x1
  have hn2 : h2.Ns env.locals _ := hn.at' fun o e => hk2 _ o hld e
  refine ks_wpAt_execs_cons (ks_wpAt_Expr_any ?_ (by unfold interactive; rw [Eo.kind]; rfl) rfl)
  refine super_call (C := CC w) (ar := { arg := "self", annotation := none, pos := _ }) (s := { s₁ with heap := h2, toks := tk2 }) Eo (by decide +kernel) g_super b_super (by decide +kernel) (by rw [hcl]; rfl) (by decide +kernel) hn2 rfl hfu hco i_init rfl (by decide) P2 Ok x2 rfl (by simp) (fun h => absurd X.lx (by rw [h]; decide)) file_ok top_ok (by decide) (by decide +kernel) find_init type_init look_wd
    (fun A s Q' E' X hx hq => get_init X Ok hx rfl hq) (.inl rfl) (by decide +kernel) entry_list_init (fun _ _ q => bound_init q) fun s₃ k3 => ?_
  have x3 := k3.heap _ _ x2
  show wpAny _ _ (Builtin.List.listItems (.ref x) >>= fun old => Builtin.List.listUpdate (.ref x) (fun _ => #[]) >>= fun _ => letGo old.toList.reverse >>= fun _ => ret .none) _ _ s₃
  refine wpAny_bind (items_acc x3 rfl ?_)
  refine wpAny_bind ?_
  unfold Builtin.List.listUpdate
  refine wpAny_updateSeq x3 rfl ?_ (by decide) (by decide)
  refine wpAny_bind (wpAny_letGo (wpAny_pure ?_))
  refine PySem.wpAt_of_wpAny ?_
  rw [execs_nil]
  refine wpAny_pure ⟨rfl, ?_⟩
  have d3 := k3.heap _ _ hd2
  have self := Heap.get?_update_self (Obj.mapSeq fun _ => (#[] : Array Value)) x3 rfl
  have oth : ∀ b o, b ≠ x → s₃.heap.get? b = some o → (s₃.heap.update x (Obj.mapSeq fun _ => (#[] : Array Value))).get? b = some o := fun b o hb e => (Heap.get?_update_other _ _ (Ne.symm hb)).trans e
  refine ⟨⟨fun p hp => ?_, ?_, fun b hb => ?_⟩, fun b o hbx hbd e => oth b o hbx (k3.heap b o (hk2 b o hbd (k1.heap b o e))), ?_⟩
  · rcases List.mem_cons.mp hp with rfl | hp
    · exact ⟨⟨[], _, self, .nil⟩, _, _, _, _, oth _ _ (Ne.symm X.ne) d3⟩
    · cases hp
  · have := X.ne
    simp [muAll, MO.side, this]
  · simp [muAll, MO.side] at hb
    rcases hb with rfl | rfl
    · exact X.lx
    · exact X.ld
  · obtain ⟨ha, ta, e1, _⟩ := k1.keeps
    obtain ⟨hb', tb, e3, _⟩ := k3.keeps
    subst e1
    subst e3
    exact ⟨_, _, rfl⟩
end Mine
end

noncomputable section
open PySem PySem.Calls PyProof.Rows PySem.W PySem.Flt PySem.SeqAt
set_option Elab.async false
set_option linter.unusedVariables false
set_option maxRecDepth 100000
namespace Mine
variable {w : WK} {n : Nat}
/-- a new thing -/
structure Made (a d : Addr) (k : Int) (s s' : Shared) : Prop where
  mu : MuOk s'.heap [(a, .acc d k [])]
  fa : s.heap.get? a = none
  fd : s.heap.get? d = none
  kp : Kp s s'
theorem new_run {rest : List Value} {k : Int} {t : Tok} (hr : rest = [] ∨ ∃ v, rest = [v]) (Ok : ClsOk w.2) {A : Around} {s : Shared} (R : Lvl (n + 2) A) (P : Pg (CC w) s.heap)
    (hb : ∀ (h' : Heap) (x : Addr) (fd : FuncData), (CC w).frag.In h' → fd.params = f_init.params → fd.defaults = f_init.dflt → BindsTo { s with heap := h' } fd ⟨.ref x :: rest, []⟩ [("self", .ref x), ("initial_size", .int k t)]) :
    wpAny (model (CC w).prog (CC w).w) A (call (.ref 101) rest) (fun r s' => ∃ a d, r = .ref a ∧ Made a d k s s') bot s := by
  obtain ⟨h, g, dd, tk, os⟩ := s
  refine wpAny_call (make_L hr P.fr Ok ?_)
  have k1 : ∀ b o, h.get? b = some o → ((h.push emptyDict).push (accObj h.objs.size)).get? b = some o := fun b o e => Heap.get?_push_of_some _ (Heap.get?_push_of_some _ e)
  have P1 : Pg (CC w) ((h.push emptyDict).push (accObj h.objs.size)) := P.keeps k1
  have X : Raw ((h.push emptyDict).push (accObj h.objs.size)) (h.objs.size + 1) h.objs.size := by
    refine ⟨?_, Heap.get?_push_of_some _ (Heap.get?_push_size _ rfl), Nat.succ_ne_self _, Nat.le_succ_of_le P.size, P.size⟩
    have := Heap.get?_push_size (h.push emptyDict) (show (accObj h.objs.size).isFreed = false from rfl)
    rw [Heap.size_push] at this
    exact this
  refine codeAny_mono (init_code (n := n) (s := ⟨(h.push emptyDict).push (accObj h.objs.size), g, dd, tk, os⟩) Ok R.tcall P1 X fun fd h1 h2 => hb _ _ fd P1.fr h1 h2) fun r s' z => ?_
  have fa : h.get? (h.objs.size + 1) = none := ge_size_none (Nat.le_succ _)
  have fd' : h.get? h.objs.size = none := get_fresh h
  rcases r with e | (v | _ | _ | _) <;> first | exact z.elim | skip
  obtain ⟨rfl, I⟩ := z
  refine ⟨rfl, _, _, rfl, I.mu, fa, fd', ?_⟩
  obtain ⟨h', tk', e⟩ := I.shape
  subst e
  refine ⟨h', tk', rfl, fun b o e => I.keep b o (fun hb => ?_) (fun hb => ?_) (k1 b o e)⟩
  · subst hb; rw [show h.get? (h.objs.size + 1) = some o from e] at fa; cases fa
  · subst hb; rw [show h.get? h.objs.size = some o from e] at fd'; cases fd'
theorem new_mu {C : Cx} {names : List (Str × NameKind)} {vars : Vars} {σ : List (Option AV)} {q : Bool} {μ : Mu} {env : Env} {s s' : Shared} {a d : Addr} {k : Int} (F : Frm C names vars σ μ env s) (X : Made a d k s s') :
    Frm C names vars σ (μ ++ [(a, .acc d k [])]) env s' ∧ Nxt q env μ s (μ ++ [(a, .acc d k [])]) s' := by
  have F' := F.kp X.kp
  have hall : muAll (μ ++ [(a, MO.acc d k [])]) = muAll μ ++ [a, d] := by rw [muAll_app]; rfl
  have na : ∀ b, (∃ o, s.heap.get? b = some o) → b ≠ a ∧ b ≠ d := fun b ⟨o, e⟩ => ⟨fun h => (by subst h; rw [X.fa] at e; cases e), fun h => (by subst h; rw [X.fd] at e; cases e)⟩
  have ndn := X.mu.nd
  have had : a ≠ d := by
    simp [muAll, MO.side] at ndn
    exact ndn
  refine ⟨⟨F'.ok, F'.pg, F'.low, fun b hb hm => ?_, F'.nodup, F'.kinds, F'.len, F'.apart, F'.above, ⟨fun p hp => ?_, ?_, fun b hb => ?_⟩, F'.val⟩, ⟨X.kp.stp, fun p hp => ?_, fun p hp => ?_⟩⟩
  · rw [hall] at hm
    rcases List.mem_append.mp hm with hm | hm
    · exact F'.sep b hb hm
    · have := na b (F.ownLive b hb)
      rcases List.mem_cons.mp hm with h | hm
      · exact this.1 h
      · rcases List.mem_cons.mp hm with h | hm
        · exact this.2 h
        · cases hm
  · rcases List.mem_append.mp hp with hp | hp
    · exact F'.mu.at' p hp
    · exact X.mu.at' p hp
  · rw [hall]
    refine List.nodup_append.mpr ⟨F'.mu.nd, by simp [had], fun b hb c hc => ?_⟩
    have := na b (F.mu.live b hb)
    rcases List.mem_cons.mp hc with rfl | hc
    · exact this.1
    · rcases List.mem_cons.mp hc with rfl | hc
      · exact this.2
      · cases hc
  · rw [hall] at hb
    rcases List.mem_append.mp hb with hb | hb
    · exact F'.mu.low b hb
    · exact X.mu.low b hb
  · rw [List.map_append] at hp
    rcases List.mem_append.mp hp with hp | hp
    · exact .inl hp
    · right
      rcases List.mem_cons.mp hp with rfl | hp
      · exact X.fa
      · cases hp
  · rw [hall] at hp
    rcases List.mem_append.mp hp with hp | hp
    · exact .inl hp
    · right
      rcases List.mem_cons.mp hp with rfl | hp
      · exact X.fa
      · rcases List.mem_cons.mp hp with rfl | hp
        · exact X.fd
        · cases hp
section
variable {names : List (Str × NameKind)} {vars : Vars} {σ : List (Option AV)} {q : Bool} {μ : Mu} {K : KK}
theorem X1.new0 {x : Str} {p pc pos p2 : Pos} {σ' : Addr → List (Option AV)} (Ok : ClsOk w.2) (hk : names.lookup ("_Accumulator" : Str) = some .globalImplicit) (hp : ∀ a, Put vars σ x (.acc a) (σ' a)) (hK : ∀ a d, K .nx (σ' a) (μ ++ [(a, .acc d 0 [])])) :
    X1 (CC w) (n + 2) names vars q σ μ (.Assign [.Name x p] (.Call (.Name "_Accumulator" p2) [] [] pc) pos) K := .mk fun env A s R F => by
  refine wpAny_Assign_Name ?_ rfl
  refine wpAny_Call_NameR (wpAny_Name (load_gfn F.ok F.pg hk g_Accumulator ?_) (by decide +kernel))
  obtain ⟨o, t, m, e, hd⟩ := Ok.d30
  refine callWith_K0 F.pg.fr (keep_acc Ok) (wp_post (new_run (rest := []) (k := 0) (t := t) (.inl rfl) Ok R F.pg fun h' y fd X h1 h2 => ?_) fun r s' ⟨a, d, er, X⟩ => ?_)
  · cases fd
    cases h1
    cases h2
    exact BindsTo.of_defaults rfl (X _ _ e) hd rfl rfl
  · subst er
    obtain ⟨F1, N1⟩ := new_mu (q := q) F X
    exact frm_store (q := q) F1 (hp a) (.acc a) fun s₂ F2 S2 _ => ⟨_, _, _, hK a d, .nx, F2, N1.trans (.of S2)⟩
theorem X1.new1 {x : Str} {p pc pos p2 p3 : Pos} {k : Int} {kc : Nat} {σ' : Addr → List (Option AV)} (Ok : ClsOk w.2) (hk : names.lookup ("_Accumulator" : Str) = some .globalImplicit) (hp : ∀ a, Put vars σ x (.acc a) (σ' a)) (hK : ∀ a d, K .nx (σ' a) (μ ++ [(a, .acc d k [])])) :
    X1 (CC w) (n + 2) names vars q σ μ (.Assign [.Name x p] (.Call (.Name "_Accumulator" p2) [.Constant (.int k) kc p3] [] pc) pos) K := .mk fun env A s R F => by
  refine wpAny_Assign_Name ?_ rfl
  refine wpAny_Call_NameR (wpAny_Name (load_gfn F.ok F.pg hk g_Accumulator ?_) (by decide +kernel))
  obtain ⟨o, t, m, e, hd⟩ := Ok.d30
  refine callWith_K F.pg.fr (keep_acc Ok) (spliced_more (wp_post ((QE.int : QE (CC w) (n + 2) names vars σ (.Constant (.int k) kc p3) (.int k)).run env A s F.ok R F.pg F.loc) fun v s₁ ⟨r1, k1⟩ => ?_))
  obtain ⟨t1, rfl⟩ := rel_int r1
  have F0 := F.kp k1
  refine spliced_none ⟨F0.pg.fr, wp_post (new_run (rest := [.int k t1]) (k := k) (t := t1) (.inr ⟨_, rfl⟩) Ok R F0.pg fun h' y fd X h1 h2 => ?_) fun r s' ⟨a, d, er, X⟩ => ?_⟩
  · cases fd
    cases h1
    cases h2
    exact BindsTo.of_defaults rfl (X _ _ e) hd rfl rfl
  · subst er
    obtain ⟨F1, N1⟩ := new_mu (q := q) F0 X
    exact frm_store (q := q) F1 (hp a) (.acc a) fun s₂ F2 S2 _ => ⟨_, _, _, hK a d, .nx, F2, (Nxt.of k1.stp).trans (N1.trans (.of S2))⟩
end
end Mine
end

noncomputable section
open PySem PySem.Calls PyProof.Rows PySem.W PySem.Flt PySem.SeqAt
set_option Elab.async false
set_option linter.unusedVariables false
set_option maxRecDepth 100000
namespace Mine
variable {w : WK} {n : Nat}
/-- three parts -/
structure P3 where
  (a b c : Int)
noncomputable def P3.l (p : P3) : List Int := [p.a, p.b, p.c]
noncomputable def P3.at (p : P3) (j : Int) : Int := p.l.getD j.toNat 0
noncomputable def ti (p : P3) (k W : Int) : TurnIn := ⟨p.a, p.b, p.c, k, W⟩
noncomputable def tn (p : P3) (k W : Int) : P3 := ⟨(ti p k W).due 0, (ti p k W).due 1, (ti p k W).due 2⟩
theorem call_turn' {p : P3} {k W : Int} (ok : TurnOk (ti p k W)) : CallOk (CC w) (n + 3) (.ref 145) [.lst (p.l.map .int), .int k, .int W] (.lst ((tn p k W).l.map .int)) := call_turn ok
/-- the way of the struck -/
inductive Struck (W : Int) : List Nat → P3 → List Nat → P3 → Prop where
  | nil {p} : Struck W [] p [] p
  | turn {c r p l p'} : c ∈ rgbL → p.at (col c) < 0 → TurnOk (ti p (col c) W) → Struck W r (tn p (col c) W) l p' → Struck W (c :: r) p (c :: l) p'
  | blank {c r p l p'} : c ∈ rgbL → ¬ p.at (col c) < 0 → Struck W r p l p' → Struck W (c :: r) p (32 :: l) p'
theorem Struck.len {W : Int} {r : List Nat} {p : P3} {l : List Nat} {p' : P3} (h : Struck W r p l p') : l.length = r.length := by
  induction h with
  | nil => rfl
  | turn _ _ _ _ ih => simp [ih]
  | blank _ _ _ ih => simp [ih]
theorem col_range {c : Nat} (h : c ∈ rgbL) : 0 ≤ col c ∧ col c < 3 := by
  have : ∀ c ∈ rgbL, 0 ≤ col c ∧ col c < 3 := by decide
  exact this c h
noncomputable def vars_struck : Vars := [("kept", false), ("parts", false), ("whole", false), ("left", false), ("piece", false), ("k", false), ("record", false), ("back", false), ("gone", false)]
theorem sig_struck : Sig f_struck ["kept", "parts", "whole"] vars_struck := ⟨rfl, rfl, rfl, rfl, by decide +kernel, by decide +kernel, by decide +kernel, by decide +kernel⟩
noncomputable def pieceV : List Nat → AV
  | [] => pairV ("", "")
  | c :: _ => pairV (blk c)
noncomputable def sst (a : Addr) (p : P3) (W : Int) (b : Addr) (piece : AV) (k : Option Int) : List (Option AV) := [some (.acc a), some (.lst (p.l.map .int)), some (.int W), some (.acc b), some piece, oi k, none, none, none]
noncomputable abbrev its (l : List Nat) : List (Str × Str) := l.map blk
theorem its_snoc (r : List Nat) (c : Nat) : its (c :: r).reverse = its r.reverse ++ [blk c] := by simp [its]
theorem pop_next (Ok : ClsOk w.2) {a b d d2 : Addr} {k k2 : Int} {r : List Nat} {L : List (Str × Str)} {σ : List (Option AV)} {names : List (Str × NameKind)} {vars : Vars} {o : Expr} {apos pos : Pos} (hr : r.length ≤ 400) (ho : QE (CC w) (n + 2) names vars σ o (.acc a)) (hbase : ∀ env, attributeBase o "pop" env (eval o env) = eval o env) (hline : (apos.endLine == pos.line) = true) :
    XE (CC w) (n + 2) names vars false σ [(a, .acc d k (its r.reverse)), (b, .acc d2 k2 L)] (.Call (.Attribute o "pop" apos) [] [] pos) (pieceV r) [(a, .acc d k (its r.tail.reverse)), (b, .acc d2 k2 L)] := by
  cases r with
  | nil => exact XE.meth (l := []) (r := [_]) (C0 := Ok) ho .nil i_pop (by decide) Ok.pop (by decide +kernel) (m_pop0 Ok) hbase hline (fun _ => rfl)
  | cons c r =>
    rw [its_snoc]
    exact XE.meth (l := []) (r := [_]) (C0 := Ok) ho .nil i_pop (by decide) Ok.pop (by decide +kernel) (m_pop Ok (by simp at hr ⊢; (first | lia | omega))) hbase hline (fun _ => rfl)
noncomputable def struckWhile : Stmt := f_struck.body.getD 2 (.Pass ⟨0, 0, 0, 0⟩)
noncomputable def forStruck : Stmt := f_struck.body.getD 6 (.Pass ⟨0, 0, 0, 0⟩)
theorem struck_while (Ok : ClsOk w.2) {a b d d2 : Addr} {kz kz2 W : Int} {r : List Nat} {p p' : P3} {Lt : List Nat} (hr : r.length ≤ 100) (hs : Struck W r p Lt p') :
    X1 (CC w) (n + 4) f_struck.scope.names vars_struck false (sst a p W b (pieceV r) none) [(a, .acc d kz (its r.tail.reverse)), (b, .acc d2 kz2 [])] struckWhile
      (fun fl σ μ => fl = .nx ∧ ∃ k, σ = sst a p' W b (pieceV []) k ∧ μ = [(a, .acc d kz []), (b, .acc d2 kz2 (its Lt))]) := by
  refine X1.while (fun m σ μ => ∃ (r : List Nat) (p : P3) (k : Option Int) (L L2 : List Nat), m = r.length ∧ L.length + r.length ≤ 100 ∧ Struck W r p L2 p' ∧ Lt = L ++ L2 ∧ σ = sst a p W b (pieceV r) k ∧ μ = [(a, .acc d kz (its r.tail.reverse)), (b, .acc d2 kz2 (its L))])
    r.length ⟨r, p, none, [], Lt, rfl, by simpa using hr, hs, rfl, rfl, rfl⟩ ?_
  rintro m σ μ ⟨r, p, k, L, L2, rfl, hL, hs, rfl, rfl, rfl⟩
  cases r with
  | nil =>
    cases hs
    refine ⟨_, QB.cmp (QE.name (.nth 4 rfl rfl) rfl) (QE.tuple (.cons QE.strc (.cons QE.strc .nil (fun _ => rfl)) (fun _ => rfl)) (Nat.le_of_ble_eq_true rfl)) (neT (.str (.str .nil))) (by with_unfolding_all rfl), fun _ => ⟨rfl, k, rfl, by simp⟩, fun h => ?_⟩
    simp at h
  | cons c r =>
    refine ⟨_, QB.cmp (QE.name (.nth 4 rfl rfl) rfl) (QE.tuple (.cons QE.strc (.cons QE.strc .nil (fun _ => rfl)) (fun _ => rfl)) (Nat.le_of_ble_eq_true rfl)) (neT (.str (.str .nil))) (by with_unfolding_all rfl), fun h => ?_, fun _ => ?_⟩
    · have hx : (blk c).1 = ("" : Str) ∧ (blk c).2 = ("" : Str) := by simpa using h
      exact absurd hx.1 (by show S [32] ≠ S []; intro h; cases S_inj h)
    have hc : c ∈ rgbL := by cases hs <;> assumption
    have hcol := col_range hc
    have h1 : (L.length + (r.length + 1)) ≤ 100 := by simpa using hL
    refine XS.set (x := "k") (v := .int (col c)) (σ' := sst a p W b (pieceV (c :: r)) (some (col c))) ((QE.find QE.strc (QE.sub (QE.name (.nth 4 rfl rfl) rfl) QE.int (getTu ?_ ?_ ?_)) (fun _ => rfl) (by decide) (fun _ => rfl)).eqv (congrArg AV.int (find_col c hc))) (.there (.there (.there (.there (.there .here))))) ?_
    · decide
    · decide
    · rfl
    refine XS.cons (K1 := fun fl σ μ => fl = .nx ∧ ∃ (y : Nat) (q : P3) (L3 : List Nat), Struck W r q L3 p' ∧ L ++ L2 = (L ++ [y]) ++ L3 ∧ σ = sst a q W b (pieceV (c :: r)) (some (col c)) ∧ μ = [(a, .acc d kz (its r.reverse)), (b, .acc d2 kz2 (its (L ++ [y])))]) ?_ ?_ (fun fl σ μ hn h => absurd h.1 hn)
    · refine X1.ite (b := decide (p.at (col c) < 0)) (.of (QB.eqv (QB.cmp (QE.sub (QE.name (.there .here) rfl) (QE.name (.nth 5 rfl rfl) rfl) (getLI ?_ ?_ ?_)) QE.int ltI (by with_unfolding_all rfl)) rfl)) (fun h => ?_) fun h => ?_
      · exact hcol.1
      · show col c < ((p.l).length : Int); exact hcol.2
      · exact Nat.le_of_ble_eq_true rfl
      · have hneg : p.at (col c) < 0 := by simpa using h
        cases hs with
        | blank _ hb _ => exact absurd hneg hb
        | @turn _ _ _ l _ _ _ hok hrest =>
          have step : its (L ++ [c]) = its L ++ [blk c] := by simp [its]
          refine XS.cons (X1.expr (v := .none) (μ' := [(a, .acc d kz (its r.reverse)), (b, .acc d2 kz2 (its (L ++ [c])))]) (K := Det (sst a p W b (pieceV (c :: r)) (some (col c))) [(a, .acc d kz (its r.reverse)), (b, .acc d2 kz2 (its (L ++ [c])))]) ?_ ⟨rfl, rfl, rfl⟩) ?_ (fun _ _ _ hn h => absurd h.1 hn)
          · rw [step]
            exact XE.meth (l := [_]) (r := []) (C0 := Ok) (QE.name (.nth 3 rfl rfl) rfl) (.cons (QE.sub (QE.name (.nth 4 rfl rfl) rfl) QE.int (getTu (by decide) (by decide) rfl)) (.cons (QE.sub (QE.name (.nth 4 rfl rfl) rfl) QE.int (getTu (by decide) (by decide) rfl)) .nil (fun _ => rfl)) (fun _ => rfl)) i_push (by decide) Ok.push (by decide +kernel) (m_push Ok (by rw [List.length_map]; (first | lia | omega))) (fun _ => rfl) (by decide) (fun _ => rfl)
          rintro σ μ ⟨_, rfl, rfl⟩
          refine XS.set (x := "parts") (v := .lst ((tn p (col c) W).l.map .int)) (σ' := sst a (tn p (col c) W) W b (pieceV (c :: r)) (some (col c))) (QE.callF (by decide +kernel) g_law_turn i_turn (.cons (QE.name (.there .here) rfl) (.cons (QE.name (.nth 5 rfl rfl) rfl) (.cons (QE.name (.nth 2 rfl rfl) rfl) .nil (fun _ => rfl)) (fun _ => rfl)) (fun _ => rfl)) (call_turn' hok) (by decide +kernel)) (.there .here) ?_
          refine XS.iteR (b := false) (.of (QB.eqv (QB.cmp (QE.name (.there .here) rfl) QE.nonec isN (by with_unfolding_all rfl)) rfl)) (fun h => by cases h) fun _ => ?_
          exact .nil ⟨rfl, c, tn p (col c) W, l, hrest, by simp, rfl, rfl⟩
      · have hneg : ¬ p.at (col c) < 0 := by simpa using h
        cases hs with
        | turn _ hb _ _ => exact absurd hb hneg
        | @blank _ _ _ l _ _ _ hrest =>
          have step : its (L ++ [32]) = its L ++ [blk 32] := by simp [its]
          refine XS.last (X1.expr (v := .none) (μ' := [(a, .acc d kz (its r.reverse)), (b, .acc d2 kz2 (its (L ++ [32])))]) ?_ ⟨rfl, 32, p, l, hrest, by simp, rfl, rfl⟩)
          rw [step]
          exact XE.meth (l := [_]) (r := []) (C0 := Ok) (QE.name (.nth 3 rfl rfl) rfl) (.cons (QE.sub (QE.name (.nth 4 rfl rfl) rfl) QE.int (getTu (by decide) (by decide) rfl)) (.cons QE.strc .nil (fun _ => rfl)) (fun _ => rfl)) i_push (by decide) Ok.push (by decide +kernel) (m_push (x := S [32]) (y := S [32]) Ok (by rw [List.length_map]; (first | lia | omega))) (fun _ => rfl) (by decide) (fun _ => rfl)
    · rintro σ μ ⟨_, y, q, L3, hrest, hLL, rfl, rfl⟩
      refine XS.setX (x := "piece") (σ' := sst a q W b (pieceV r) (some (col c))) (pop_next Ok (by (first | lia | omega)) (QE.name .here rfl) (fun _ => rfl) (by decide)) (.there (.there (.there (.there .here)))) (.nil ⟨r.length, by simp, r, q, some (col c), L ++ [y], L3, rfl, by simp; (first | lia | omega), hrest, hLL, rfl, rfl⟩)
end Mine
end

noncomputable section
open PySem PySem.Calls PyProof.Rows PySem.W PySem.Flt PySem.SeqAt
set_option Elab.async false
set_option linter.unusedVariables false
set_option maxRecDepth 100000
namespace Mine
variable {w : WK} {n : Nat}
theorem pairStr_blk (c : Nat) : pairStr (blk c) = S [32, c] := join_S [[32], [c]]
theorem strP_its (l : List Nat) : strP (its l) = S (spread l) := by
  unfold strP its
  rw [List.map_map]
  have e : l.map (pairStr ∘ blk) = (l.map fun c => [32, c]).map S := by
    rw [List.map_map]
    exact List.map_congr_left fun c _ => pairStr_blk c
  rw [e, join_S]
  rfl
theorem its_ok {l : List Nat} (h : l.length ≤ 400) : JoinOk "" ((its l).map pairStr) = true := by
  refine joinOk_of ?_
  have e : ((its l).map pairStr).map (·.length) = l.map fun _ => 2 := by
    unfold its
    rw [List.map_map, List.map_map]
    exact List.map_congr_left fun c _ => by show (pairStr (blk c)).length = 2; rw [pairStr_blk]; rfl
  rw [e]
  have key : ∀ l : List Nat, (l.map fun _ => 2).sum = 2 * l.length := fun l => by
    induction l with
    | nil => rfl
    | cons c l ih => rw [List.map_cons, List.sum_cons, ih, List.length_cons]; (first | lia | omega)
  rw [key, show ("" : Str).length = 0 from rfl, Nat.mul_zero]
  (first | lia | omega)
theorem its_short (l : List Nat) : ∀ p ∈ its l, p.1.length ≤ 100 ∧ p.2.length ≤ 100 := fun p hp => by
  obtain ⟨c, _, rfl⟩ := List.mem_map.mp hp
  exact ⟨Nat.le_of_ble_eq_true rfl, Nat.le_of_ble_eq_true rfl⟩
theorem lenP_its (k : Int) (l : List Nat) : lenP k (its l) = k + 2 * l.length := by
  unfold lenP its
  rw [List.map_map]
  have : (l.map (pairLen ∘ blk)).sum = 2 * (l.length : Int) := by
    induction l with
    | nil => rfl
    | cons c l ih =>
      rw [List.map_cons, List.sum_cons, ih]
      have : (pairLen ∘ blk) c = 2 := rfl
      rw [this]; simp; (first | lia | omega)
  rw [this]
noncomputable def sst2 (a : Addr) (p : P3) (W : Int) (b : Addr) (piece : AV) (k : Option Int) (record back gone : Option AV) : List (Option AV) := [some (.acc a), some (.lst (p.l.map .int)), some (.int W), some (.acc b), some piece, oi k, record, back, gone]
theorem struck_for (Ok : ClsOk w.2) {a b d d2 : Addr} {kz kz2 W : Int} {p : P3} {A B : List Nat} {k : Option Int} {rec gone : Option AV} (hl : A.length + B.length ≤ 300) :
    X1 (CC w) (n + 4) f_struck.scope.names vars_struck false (sst2 a p W b (pieceV []) k rec (some (.lst ((its B).map pairV))) gone) [(a, .acc d kz []), (b, .acc d2 kz2 (its A))] forStruck
      (fun fl σ μ => fl = .nx ∧ ∃ pv, σ = sst2 a p W b pv k rec (some (.lst ((its B).map pairV))) gone ∧ μ = [(a, .acc d kz (its (A ++ B).reverse)), (b, .acc d2 kz2 [])]) := by
  have hxs : pickL ((its B).map pairV) none none (some (-1)) ++ pickL ((its A).map pairV) none none (some (-1)) = (its (A ++ B).reverse).map pairV := by
    rw [pickL_back, pickL_back]
    simp [its]
  have hY : ((A ++ B).reverse).length = A.length + B.length := by simp [Nat.add_comm]
  refine X1.for (xs := (its (A ++ B).reverse).map pairV) (μ' := [(a, .acc d kz []), (b, .acc d2 kz2 [])]) (XF.list (XE.eqv (XE.binR (QE.slice (QE.name (.nth 7 rfl rfl) rfl) .none .none (.some (QE.neg QE.int)) (slL ?_ ?_)) (XE.slice (XE.meth (l := [_]) (r := []) (C0 := Ok) (QE.name (.nth 3 rfl rfl) rfl) .nil i_pop_from (by decide) Ok.pop_from (by decide +kernel) (m_pop_from0 Ok (by rw [List.length_map]; (first | lia | omega))) (fun _ => rfl) (by decide) (fun _ => rfl)) .none .none (.some (QE.neg QE.int)) (slL (by decide) (by rw [List.length_map, List.length_map]; (first | lia | omega)))) (addL ?_)) (congrArg AV.lst hxs)))
    (fun i σ μ => ∃ pv, σ = sst2 a p W b pv k rec (some (.lst ((its B).map pairV))) gone ∧ μ = [(a, .acc d kz (its ((A ++ B).reverse.take i))), (b, .acc d2 kz2 [])]) ⟨_, rfl, by simp [its]⟩ ?_ ?_
  · decide
  · rw [List.length_map, List.length_map]; (first | lia | omega)
  · rw [← List.length_append, hxs, List.length_map, List.length_map, hY]; (first | lia | omega)
  · rintro i x σ μ hx ⟨pv, rfl, rfl⟩
    rw [List.getElem?_map, List.getElem?_map] at hx
    obtain ⟨q, hq, rfl⟩ := Option.map_eq_some_iff.mp hx
    obtain ⟨c, hc, rfl⟩ := Option.map_eq_some_iff.mp hq
    have hi : i < (A ++ B).reverse.length := (List.getElem?_eq_some_iff.mp hc).1
    have step : its ((A ++ B).reverse.take (i + 1)) = its ((A ++ B).reverse.take i) ++ [blk c] := by
      rw [List.take_add_one, hc]; simp [its]
    refine ⟨_, (.there (.there (.there (.there .here)))), XS.last (X1.expr (v := .none) (μ' := [(a, .acc d kz (its ((A ++ B).reverse.take (i + 1)))), (b, .acc d2 kz2 [])]) ?_ ⟨_, rfl, rfl⟩)⟩
    rw [step]
    exact XE.meth (l := []) (r := [_]) (C0 := Ok) (QE.name .here rfl) (.cons (QE.sub (QE.name (.nth 4 rfl rfl) rfl) QE.int (getTu (by decide) (by decide) rfl)) (.cons (QE.sub (QE.name (.nth 4 rfl rfl) rfl) QE.int (getTu (by decide) (by decide) rfl)) .nil (fun _ => rfl)) (fun _ => rfl)) i_push (by decide) Ok.push (by decide +kernel) (m_push Ok (by rw [List.length_map, List.length_take]; (first | lia | omega))) (fun _ => rfl) (by decide) (fun _ => rfl)
  · rintro σ μ ⟨pv, rfl, rfl⟩
    refine ⟨rfl, pv, rfl, ?_⟩
    have : (A ++ B).reverse.take ((its (A ++ B).reverse).map pairV).length = (A ++ B).reverse := List.take_of_length_le (by simp [its])
    rw [this]
theorem call_struck (Ok : ClsOk w.2) {a d : Addr} {kz W : Int} {p p' : P3} {v A B : List Nat} (hv : v.length ≤ 100) (hs : Struck W v.reverse p (A ++ 32 :: B) p') (hfind : Txt.find (S (A ++ 32 :: B).reverse) (S [32]) = B.length) :
    MethC (CC w) (n + 5) (.ref 157) [.ref a] a (.acc d kz (its v)) [.lst (p.l.map .int), .int W] (.tup [.str (S (A ++ 32 :: B).reverse), .lst (p'.l.map .int)]) (.acc d kz (its (A ++ B).reverse)) := by
  have hlen : A.length + B.length + 1 ≤ 100 := by
    have := hs.len
    simp at this
    (first | lia | omega)
  refine MethC.defB sig_struck i_struck (args := [.acc a, .lst (p.l.map .int), .int W]) rfl (fun s rs P ra => ⟨.ref a :: rs, .cons (.acc a) ra, fun fd h1 h2 => .of_eq ?_⟩) ?_
  · cases ra with
    | cons _ ra => cases ra with
      | cons _ ra =>
        cases ra
        unfold bindArgs
        rw [h1, h2]
        rfl
  refine XS.cons (X1.new0 (x := "left") (σ' := fun b => [some (.acc a), some (.lst (p.l.map .int)), some (.int W), some (.acc b), none, none, none, none, none]) (K := fun fl σ μ => fl = .nx ∧ ∃ b d2, σ = [some (.acc a), some (.lst (p.l.map .int)), some (.int W), some (.acc b), none, none, none, none, none] ∧ μ = [(a, .acc d kz (its v)), (b, .acc d2 0 [])]) Ok (by decide +kernel) (fun b => (.there (.there (.there .here)))) fun b d2 => ⟨rfl, b, d2, rfl, rfl⟩) ?_ (fun _ _ _ hn h => absurd h.1 hn)
  rintro σ μ ⟨_, b, d2, rfl, rfl⟩
  have hvv : its v = its v.reverse.reverse := by rw [List.reverse_reverse]
  rw [hvv]
  refine XS.setX (x := "piece") (σ' := sst a p W b (pieceV v.reverse) none) (pop_next Ok (by simp; (first | lia | omega)) (QE.name .here rfl) (fun _ => rfl) (by decide)) (.there (.there (.there (.there .here)))) ?_
  refine XS.cons (struck_while Ok (by simpa using hv) hs) ?_ (fun _ _ _ hn h => absurd h.1 hn)
  rintro σ μ ⟨_, k, rfl, rfl⟩
  have hlt : (A ++ 32 :: B).length = A.length + B.length + 1 := by simp; (first | lia | omega)
  refine XS.setX (x := "record") (v := .str (S (A ++ 32 :: B).reverse)) (σ' := sst2 a p' W b (pieceV []) k (some (.str (S (A ++ 32 :: B).reverse))) none none) (XE.eqv (XE.slice (XE.slice (XE.strAcc (l := [_]) (r := []) Ok (by decide +kernel) g_str b_str (QE.name (.nth 3 rfl rfl) rfl) (m_str Ok (by rw [List.length_map]; (first | lia | omega)) (its_short _) (its_ok (by (first | lia | omega))))) (.some QE.int) .none (.some QE.int) (slS (by decide) ?_)) .none .none (.some (QE.neg QE.int)) (slS (by decide) ?_)) ?_) (.there (.there (.there (.there (.there (.there .here)))))) ?_
  · rw [strP_its, S_len, spread_len]; (first | lia | omega)
  · rw [strP_its, sl_odd, S_len]; (first | lia | omega)
  · rw [strP_its, sl_odd, sl_back]
  have hi : ((S (A ++ 32 :: B).reverse).length : Int) - Txt.find (S (A ++ 32 :: B).reverse) (S [32]) = ((A.length + 1 : Nat) : Int) := by
    rw [hfind, S_len, List.length_reverse, hlt]; (first | lia | omega)
  have hdrop : ((its (A ++ 32 :: B)).drop (A.length + 1)) = its B := by
    unfold its; rw [← List.map_drop]; congr 1; simp
  have htake : ((its (A ++ 32 :: B)).take (A.length + 1)) = its A ++ [blk 32] := by
    unfold its; rw [← List.map_take, List.take_append]; simp [List.take_of_length_le]
  refine XS.setX (x := "back") (v := .lst ((its B).map pairV)) (μ' := [(a, .acc d kz []), (b, .acc d2 0 (its A ++ [blk 32]))]) (σ' := sst2 a p' W b (pieceV []) k (some (.str (S (A ++ 32 :: B).reverse))) (some (.lst ((its B).map pairV))) none) ?_ (.there (.there (.there (.there (.there (.there (.there .here))))))) ?_
  · have hm := m_pop_from (w := w) (n := n + 3) (a := a) (d := d) (k := 0) (l := its (A ++ 32 :: B)) (i := ((A.length + 1 : Nat) : Int)) Ok (by (first | lia | omega)) (by rw [List.length_map]; (first | lia | omega))
    have hm := m_pop_from (w := w) (n := n + 3) (a := b) (d := d2) (k := 0) (l := its (A ++ 32 :: B)) (i := ((A.length + 1 : Nat) : Int)) Ok (by (first | lia | omega)) (by rw [List.length_map]; (first | lia | omega))
    rw [Int.toNat_natCast, hdrop, htake] at hm
    refine XE.meth (l := [_]) (r := []) (C0 := Ok) (QE.name (.nth 3 rfl rfl) rfl) (.cons ((QE.bin (QE.callB (by decide +kernel) g_len b_len (.cons (QE.name (.nth 6 rfl rfl) rfl) .nil (fun _ => rfl)) (lenS ?_) (by decide +kernel)) (QE.find (QE.name (.nth 6 rfl rfl) rfl) QE.strc (fun _ => rfl) (by decide) (fun _ => rfl)) subI).eqv (congrArg AV.int hi)) .nil (fun _ => rfl)) i_pop_from (by decide) Ok.pop_from (by decide +kernel) hm (fun _ => rfl) (by decide) (fun _ => rfl)
    rw [S_len, List.length_reverse]; (first | lia | omega)
  refine XS.setX (x := "gone") (v := pairV (blk 32)) (μ' := [(a, .acc d kz []), (b, .acc d2 0 (its A))]) (σ' := sst2 a p' W b (pieceV []) k (some (.str (S (A ++ 32 :: B).reverse))) (some (.lst ((its B).map pairV))) (some (pairV (blk 32)))) (XE.meth (l := [_]) (r := []) (C0 := Ok) (QE.name (.nth 3 rfl rfl) rfl) .nil i_pop (by decide) Ok.pop (by decide +kernel) (m_pop Ok (by rw [List.length_map]; (first | lia | omega))) (fun _ => rfl) (by decide) (fun _ => rfl)) (.there (.there (.there (.there (.there (.there (.there (.there .here)))))))) ?_
  refine XS.cons (struck_for Ok (by (first | lia | omega))) ?_ (fun _ _ _ hn h => absurd h.1 hn)
  rintro σ μ ⟨_, pv, rfl, rfl⟩
  refine XS.last (.ret (XE.tuple2 (QE.name (.nth 6 rfl rfl) rfl) (XE.ifexp (b := true) (XB.eqv (XB.boolop (XT.and_cons (.of (QB.cmp (QE.name (.nth 8 rfl rfl) rfl) (QE.tuple (.cons QE.strc (.cons QE.strc .nil (fun _ => rfl)) (fun _ => rfl)) (Nat.le_of_ble_eq_true rfl)) (eqT (.str (.str .nil))) (by with_unfolding_all rfl))) fun _ => XT.and_cons (XB.cmp (XE.lenAcc (l := [_]) (r := []) (v := 0) Ok (by decide +kernel) g_len b_len (QE.name (.nth 3 rfl rfl) rfl) ⟨by decide, by decide⟩ (m_len (items := []) Ok (.inl rfl) (by decide) (fun _ h => (nomatch h)))) QE.int eqI (by with_unfolding_all rfl)) fun _ => XT.and_nil)) ?_) (fun _ => (QE.name (.there .here) rfl)) (fun h => by cases h))) ⟨rfl, _, rfl⟩)
  decide +kernel
end Mine
end

noncomputable section
open PySem PySem.Calls PyProof.Rows PySem.W PySem.Flt PySem.SeqAt
set_option Elab.async false
set_option linter.unusedVariables false
set_option maxRecDepth 100000
namespace Mine
variable {w : WK} {n : Nat}
noncomputable def upc (c : Nat) : Nat := c - 32
theorem upper_col : ∀ c ∈ rgbL, Txt.upper (S [c]) = S [upc c] ∧ (Txt.upper (S [c])).length ≤ 1000000 := by decide +kernel
theorem chS_last (l : List Nat) (c : Nat) : chS (S (l ++ [c])) (-1) = S [c] := by
  have := chS_neg (l ++ [c]) 1 (by decide) (by simp)
  simpa using this
theorem chOk_last (l : List Nat) (c : Nat) : ((seqIndex? (-1) (S (l ++ [c])).length).bind ((S (l ++ [c])).cps[·]?)).isSome = true := by
  have := chOk_neg (l ++ [c]) 1 (by decide) (by simp)
  simpa using this
/-- what is told of the new name -/
noncomputable def newOk (v0 R v : List Nat) (c : Nat) : Prop :=
  (levP (R ++ [upc c]) v0 2, levP v0 (R ++ [upc c]) 4, levP v0 (v ++ [c]) 9) = if ([c] == v0.drop (v0.length - 1)) = true then (3, 3, 0) else (3, 4, 4)
structure ToldOk (u : List Nat) (c : Nat) (v0 R v : List Nat) (count : Int) : Prop where
  count : count = v.length
  lu : u.length ≤ 20
  lv : v.length ≤ 20
  lv0 : v0.length ≤ 20
  lR : R.length ≤ 20
  su : ∀ x ∈ u ++ [c], x ∈ rgbL
  sv : ∀ x ∈ v, x ∈ rgbL
  sv0 : ∀ x ∈ v0, x ∈ rgbL
  sR : ∀ x ∈ R, x ∈ signs
  lev1 : levP (u ++ [c]) v (2 * ((u ++ [c]).length - v.length)) = 2 * ((u ++ [c]).length - v.length)
  lev2 : levP [] v 40 = 2 * v.length
  short : shortP v = true
  iff : ((v == u ++ [c]) != shortP (u ++ [c])) = false
  new : R = [] ∨ newOk v0 R v c
theorem rgb_signs : ∀ x ∈ rgbL, x ∈ signs ∧ upc x ∈ signs := by decide
noncomputable def vars_told : Vars := [("names", false), ("ahead", false), ("record", false), ("kept", false), ("count", false), ("text", false), ("left", false), ("gap", false), ("new", false), ("near", false), ("far", false), ("moved", false)]
theorem sig_told : Sig f_told ["names", "ahead", "record", "kept", "count"] vars_told := ⟨rfl, rfl, rfl, rfl, by decide +kernel, by decide +kernel, by decide +kernel, by decide +kernel⟩
noncomputable def tst (u v0 R : List Nat) (a : Addr) (count : Int) (r : List (Option AV)) : List (Option AV) := some (.str (S u)) :: some (.str (S v0)) :: some (.str (S R)) :: some (.acc a) :: some (.int count) :: r
theorem call_told (Ok : ClsOk w.2) {a d : Addr} {u : List Nat} {c : Nat} {v0 R v : List Nat} {count : Int} (T : ToldOk u c v0 R v count) :
    MethC (CC w) (n + 5) (.ref 164) [] a (.acc d 2 (its v)) [.str (S (u ++ [c])), .str (S v0), .str (S R), .acc a, .int count] (.bool true) (.acc d 2 (its v)) := by
  have hlv := T.lv
  have hlv0 := T.lv0
  have hlR := T.lR
  have hlu : (u ++ [c]).length ≤ 21 := by have := T.lu; simp; (first | lia | omega)
  have hc : c ∈ rgbL := T.su c (by simp)
  have hcount := T.count
  subst hcount
  have hsu : ∀ x ∈ u ++ [c], x ∈ signs := fun x hx => (rgb_signs x (T.su x hx)).1
  have hsv : ∀ x ∈ v, x ∈ signs := fun x hx => (rgb_signs x (T.sv x hx)).1
  have hsv0 : ∀ x ∈ v0, x ∈ signs := fun x hx => (rgb_signs x (T.sv0 x hx)).1
  refine MethC.defB sig_told i_told (args := [.str (S (u ++ [c])), .str (S v0), .str (S R), .acc a, .int v.length]) rfl (fun s rs P ra => ⟨rs, ra, fun fd h1 h2 => .of_eq ?_⟩) ?_
  · cases ra with
    | cons _ ra => cases ra with
      | cons _ ra => cases ra with
        | cons _ ra => cases ra with
          | cons _ ra => cases ra with
            | cons _ ra =>
              cases ra
              unfold bindArgs
              rw [h1, h2]
              rfl
  refine XS.setX (x := "text") (v := .str (S (spread v))) (σ' := tst (u ++ [c]) v0 R a v.length [some (.str (S (spread v))), none, none, none, none, none, none]) (XE.eqv (XE.strAcc (l := []) (r := []) Ok (by decide +kernel) g_str b_str (QE.name (.nth 3 rfl rfl) rfl) (m_str Ok (by rw [List.length_map]; (first | lia | omega)) (its_short _) (its_ok (by (first | lia | omega))))) (by rw [strP_its])) (.there (.there (.there (.there (.there .here))))) ?_
  have hsp : (spread v).length ≤ 40 := by rw [spread_len]; (first | lia | omega)
  refine XS.set (x := "left") (v := .str (S v)) (σ' := tst (u ++ [c]) v0 R a v.length [some (.str (S (spread v))), some (.str (S v)), none, none, none, none, none]) ((QE.slice (QE.name (.nth 5 rfl rfl) rfl) (.some QE.int) .none (.some QE.int) (slS ?_ ?_)).eqv (by rw [sl_odd])) (.there (.there (.there (.there (.there (.there .here)))))) ?_
  · decide
  · rw [S_len]; (first | lia | omega)
  refine XS.set (x := "gap") (v := .int (2 * (((u ++ [c]).length : Int) - v.length))) (σ' := tst (u ++ [c]) v0 R a v.length [some (.str (S (spread v))), some (.str (S v)), some (.int (2 * (((u ++ [c]).length : Int) - v.length))), none, none, none, none]) ((QE.bin QE.int (QE.bin (QE.callB (by decide +kernel) g_len b_len (.cons (QE.name .here rfl) .nil (fun _ => rfl)) (lenS ?_) (by decide +kernel)) (QE.name (.nth 4 rfl rfl) rfl) subI) (mulI ?_)).eqv (by rw [S_len])) (.there (.there (.there (.there (.there (.there (.there .here))))))) ?_
  · rw [S_len]; (first | lia | omega)
  · exact IntMulOk.of_left (by decide)
  refine XS.iteR (b := false) (XB.eqv (XB.boolop (XT.or_cons (.of (QB.cmp (QE.callB (by decide +kernel) g_len b_len (.cons (QE.name (.nth 5 rfl rfl) rfl) .nil (fun _ => rfl)) (lenS ?_) (by decide +kernel)) (QE.bin QE.int (QE.name (.nth 4 rfl rfl) rfl) (mulI ?_)) neI (by with_unfolding_all rfl))) fun _ => XT.or_cons (.of (QB.cmp (QE.slice (QE.name (.nth 5 rfl rfl) rfl) .none .none (.some QE.int) (slS ?_ ?_)) (QE.bin (QE.eqv QE.strc (show AV.str " " = .str (S [32]) from rfl)) (QE.name (.nth 4 rfl rfl) rfl) (mulS ?_ ?_)) neS (by with_unfolding_all rfl))) fun _ => XT.or_cons (XB.cmp (XE.lenAcc (l := []) (r := []) (v := 2 + 2 * (v.length : Int)) Ok (by decide +kernel) g_len b_len (QE.name (.nth 3 rfl rfl) rfl) ?_ ?_) (QE.bin QE.int (QE.callB (by decide +kernel) g_len b_len (.cons (QE.name (.nth 5 rfl rfl) rfl) .nil (fun _ => rfl)) (lenS ?_) (by decide +kernel)) addI) neI (by with_unfolding_all rfl)) fun _ => XT.or_nil)) ?_) (fun h => by cases h) fun _ => ?_
  · rw [S_len]; (first | lia | omega)
  · exact IntMulOk.of_left (by decide)
  · decide
  · rw [S_len]; (first | lia | omega)
  · (first | lia | omega)
  · (first | lia | omega)
  · constructor <;> (first | lia | omega)
  · have := m_len (w := w) (n := n) (a := a) (d := d) (k := 2) (items := its v) Ok (.inr rfl) (by rw [List.length_map]; (first | lia | omega)) (its_short _)
    rw [lenP_its] at this
    exact this
  · rw [S_len]; (first | lia | omega)
  · rw [S_len, spread_len, sl_even]
    have e1 : ((2 * v.length : Nat) : Int) = 2 * (v.length : Int) := by (first | lia | omega)
    rw [e1, Int.toNat_natCast]
    simp
  refine XS.iteR (b := false) (.of (QB.eqv (QB.boolop (QT.or_cons (QB.cmp (QE.callF (by decide +kernel) g_levenshtein_distance i_lev (.cons (QE.name .here rfl) (.cons (QE.name (.nth 6 rfl rfl) rfl) (.cons (QE.name (.nth 7 rfl rfl) rfl) .nil (fun _ => rfl)) (fun _ => rfl)) (fun _ => rfl)) (call_lev ?_ ?_ ?_ ?_) (by decide +kernel)) (QE.name (.nth 7 rfl rfl) rfl) neI (by with_unfolding_all rfl)) fun hh0 => (QT.or_cons (QB.cmp (QE.callF (by decide +kernel) g_levenshtein_distance i_lev (.cons QE.strc (.cons (QE.name (.nth 6 rfl rfl) rfl) (.cons QE.int .nil (fun _ => rfl)) (fun _ => rfl)) (fun _ => rfl)) (call_lev ?_ ?_ ?_ ?_) (by decide +kernel)) (QE.bin QE.int (QE.name (.nth 4 rfl rfl) rfl) (mulI ?_)) neI (by with_unfolding_all rfl)) fun hh1 => QT.or_nil))) ?_)) (fun h => by cases h) fun _ => ?_
  · (first | lia | omega)
  · (first | lia | omega)
  · exact hsu
  · exact hsv
  · exact (show ([] : List Nat).length ≤ 40 by decide)
  · (first | lia | omega)
  · exact fun x hx => nomatch hx
  · exact hsv
  · exact IntMulOk.of_left (by decide)
  · show ((levP (u ++ [c]) v (2 * (((u ++ [c]).length : Int) - v.length)) != 2 * (((u ++ [c]).length : Int) - v.length)) || ((levP [] v 40 != 2 * (v.length : Int)) || false)) = false
    rw [T.lev1, T.lev2]; simp
  refine XS.iteR (b := false) (.of (QB.eqv (QB.boolop (QT.or_cons (QB.not (QB.val (QE.callF (by decide +kernel) g_law_short i_short (.cons (QE.name (.nth 6 rfl rfl) rfl) .nil (fun _ => rfl)) (call_short ?_ ?_) (by decide +kernel)) truthB (fun _ _ => rfl))) fun hh0 => (QT.or_cons (QB.cmp (QE.cmp (QE.name (.nth 6 rfl rfl) rfl) (QE.name .here rfl) eqS (by with_unfolding_all rfl)) (QE.callF (by decide +kernel) g_law_short i_short (.cons (QE.name .here rfl) .nil (fun _ => rfl)) (call_short ?_ ?_) (by decide +kernel)) isNotB (by with_unfolding_all rfl)) fun hh1 => QT.or_nil))) ?_)) (fun h => by cases h) fun _ => ?_
  · (first | lia | omega)
  · exact T.sv
  · (first | lia | omega)
  · exact T.su
  · show (!(shortP v) || (((S v == S (u ++ [c])) != shortP (u ++ [c])) || false)) = false
    rw [S_beq, T.iff, T.short]; rfl
  refine XS.iteR (b := (S R == S [])) (.of (QB.eqv (QB.cmp (QE.name (.nth 2 rfl rfl) rfl) QE.strc eqS (by with_unfolding_all rfl)) rfl)) (fun h => ?_) fun hR => ?_
  · exact XS.ret QE.boolc ⟨by simp, rfl, [], rfl⟩
  have hR' : R ≠ [] := fun h => by subst h; simp at hR
  have hnew := T.new.resolve_left hR'
  refine XS.set (x := "new") (v := .str (S (R ++ [upc c]))) (σ' := tst (u ++ [c]) v0 R a v.length [some (.str (S (spread v))), some (.str (S v)), some (.int (2 * (((u ++ [c]).length : Int) - v.length))), some (.str (S (R ++ [upc c]))), none, none, none]) ((QE.bin (QE.name (.nth 2 rfl rfl) rfl) (QE.upper ?_ (QE.sub (QE.name .here rfl) (QE.neg QE.int) (getS1 ?_)) (fun _ => rfl) (by decide)) (addS ?_)).eqv (by rw [chS_last, (upper_col c hc).1, S_app])) (.there (.there (.there (.there (.there (.there (.there (.there .here)))))))) ?_
  · rw [chS_last]; exact (upper_col c hc).2
  · exact ⟨by decide, by decide, chOk_last u c⟩
  · rw [chS_last, (upper_col c hc).1, S_len, S_len]; exact Nat.le_trans (show R.length + [upc c].length ≤ 100 by simp; (first | lia | omega)) (by decide)
  have hnl : (R ++ [upc c]).length ≤ 40 := by simp; (first | lia | omega)
  have hns : ∀ x ∈ R ++ [upc c], x ∈ signs := fun x hx => by
    rcases List.mem_append.mp hx with hx | hx
    · exact T.sR x hx
    · rcases List.mem_cons.mp hx with rfl | hx
      · exact (rgb_signs c hc).2
      · cases hx
  refine XS.set (x := "near") (v := .int (levP (R ++ [upc c]) v0 2)) (σ' := tst (u ++ [c]) v0 R a v.length [some (.str (S (spread v))), some (.str (S v)), some (.int (2 * (((u ++ [c]).length : Int) - v.length))), some (.str (S (R ++ [upc c]))), some (.int (levP (R ++ [upc c]) v0 2)), none, none]) (QE.callF (by decide +kernel) g_levenshtein_distance i_lev (.cons (QE.name (.nth 8 rfl rfl) rfl) (.cons (QE.name (.there .here) rfl) (.cons QE.int .nil (fun _ => rfl)) (fun _ => rfl)) (fun _ => rfl)) (call_lev ?_ ?_ ?_ ?_) (by decide +kernel)) (.there (.there (.there (.there (.there (.there (.there (.there (.there .here))))))))) ?_
  · exact hnl
  · (first | lia | omega)
  · exact hns
  · exact hsv0
  refine XS.set (x := "far") (v := .int (levP v0 (R ++ [upc c]) 4)) (σ' := tst (u ++ [c]) v0 R a v.length [some (.str (S (spread v))), some (.str (S v)), some (.int (2 * (((u ++ [c]).length : Int) - v.length))), some (.str (S (R ++ [upc c]))), some (.int (levP (R ++ [upc c]) v0 2)), some (.int (levP v0 (R ++ [upc c]) 4)), none]) (QE.callF (by decide +kernel) g_levenshtein_distance i_lev (.cons (QE.name (.there .here) rfl) (.cons (QE.name (.nth 8 rfl rfl) rfl) (.cons QE.int .nil (fun _ => rfl)) (fun _ => rfl)) (fun _ => rfl)) (call_lev ?_ ?_ ?_ ?_) (by decide +kernel)) (.there (.there (.there (.there (.there (.there (.there (.there (.there (.there .here)))))))))) ?_
  · (first | lia | omega)
  · exact hnl
  · exact hsv0
  · exact hns
  have hvl : (v ++ [c]).length ≤ 40 := by simp; (first | lia | omega)
  have hvs : ∀ x ∈ v ++ [c], x ∈ signs := fun x hx => by
    rcases List.mem_append.mp hx with hx | hx
    · exact hsv x hx
    · rcases List.mem_cons.mp hx with rfl | hx
      · exact (rgb_signs x hc).1
      · cases hx
  refine XS.set (x := "moved") (v := .int (levP v0 (v ++ [c]) 9)) (σ' := tst (u ++ [c]) v0 R a v.length [some (.str (S (spread v))), some (.str (S v)), some (.int (2 * (((u ++ [c]).length : Int) - v.length))), some (.str (S (R ++ [upc c]))), some (.int (levP (R ++ [upc c]) v0 2)), some (.int (levP v0 (R ++ [upc c]) 4)), some (.int (levP v0 (v ++ [c]) 9))])
    (QE.callF (by decide +kernel) g_levenshtein_distance i_lev (.cons (QE.name (.there .here) rfl) (.cons ((QE.bin (QE.name (.nth 6 rfl rfl) rfl) (QE.sub (QE.name .here rfl) (QE.neg QE.int) (getS1 ?_)) (addS ?_)).eqv (by rw [chS_last, S_app])) (.cons QE.int .nil (fun _ => rfl)) (fun _ => rfl)) (fun _ => rfl)) (call_lev (by (first | lia | omega)) hvl hsv0 hvs) (by decide +kernel)) (.there (.there (.there (.there (.there (.there (.there (.there (.there (.there (.there .here))))))))))) ?_
  · exact ⟨by decide, by decide, chOk_last u c⟩
  · rw [chS_last, S_len, S_len]; exact Nat.le_trans (show v.length + [c].length ≤ 100 by simp; (first | lia | omega)) (by decide)
  unfold newOk at hnew
  by_cases hl : ([c] == v0.drop (v0.length - 1)) = true
  · rw [if_pos hl] at hnew
    injection hnew with e1 hnew
    injection hnew with e2 e3
    rw [e1, e2, e3]
    refine XS.ret (QE.eqv (QE.cmp (QE.tuple (.cons (QE.name (.nth 9 rfl rfl) rfl) (.cons (QE.name (.nth 10 rfl rfl) rfl) (.cons (QE.name (.nth 11 rfl rfl) rfl) .nil (fun _ => rfl)) (fun _ => rfl)) (fun _ => rfl)) (Nat.le_of_ble_eq_true rfl)) (QE.ifexp (b := true) (QB.eqv (QB.cmp (QE.sub (QE.name .here rfl) (QE.neg QE.int) (getS1 ?_)) (QE.slice (QE.name (.there .here) rfl) (.some (QE.neg QE.int)) .none .none (slS ?_ ?_)) eqS (by with_unfolding_all rfl)) ?_) (fun _ => (QE.tuple (.cons QE.int (.cons QE.int (.cons QE.int .nil (fun _ => rfl)) (fun _ => rfl)) (fun _ => rfl)) (Nat.le_of_ble_eq_true rfl))) (fun h => by cases h)) (eqT (.int (.int (.int .nil)))) (by with_unfolding_all rfl)) rfl) ⟨rfl, [], rfl⟩
    · exact ⟨by decide, by decide, chOk_last u c⟩
    · decide
    · rw [S_len]; (first | lia | omega)
    · rw [chS_last, sl_last, S_beq]; exact hl
  · rw [if_neg hl] at hnew
    injection hnew with e1 hnew
    injection hnew with e2 e3
    rw [e1, e2, e3]
    refine XS.ret (QE.eqv (QE.cmp (QE.tuple (.cons (QE.name (.nth 9 rfl rfl) rfl) (.cons (QE.name (.nth 10 rfl rfl) rfl) (.cons (QE.name (.nth 11 rfl rfl) rfl) .nil (fun _ => rfl)) (fun _ => rfl)) (fun _ => rfl)) (Nat.le_of_ble_eq_true rfl)) (QE.ifexp (b := false) (QB.eqv (QB.cmp (QE.sub (QE.name .here rfl) (QE.neg QE.int) (getS1 ?_)) (QE.slice (QE.name (.there .here) rfl) (.some (QE.neg QE.int)) .none .none (slS ?_ ?_)) eqS (by with_unfolding_all rfl)) ?_) (fun h => by cases h) (fun _ => (QE.tuple (.cons QE.int (.cons QE.int (.cons QE.int .nil (fun _ => rfl)) (fun _ => rfl)) (fun _ => rfl)) (Nat.le_of_ble_eq_true rfl)))) (eqT (.int (.int (.int .nil)))) (by with_unfolding_all rfl)) rfl) ⟨rfl, [], rfl⟩
    · exact ⟨by decide, by decide, chOk_last u c⟩
    · decide
    · rw [S_len]; (first | lia | omega)
    · rw [chS_last, sl_last, S_beq]; simpa using hl
end Mine
end

noncomputable section
open PySem PySem.Calls PyProof.Rows PySem.W PySem.Flt PySem.SeqAt
set_option Elab.async false
set_option linter.unusedVariables false
set_option maxRecDepth 100000
namespace Mine
variable {w : WK} {n : Nat}
theorem pylong_no {a W : Int} (h : W.natAbs ≤ 1000) : Builtin.divisionGoesByPylong a W = false := by
  unfold Builtin.divisionGoesByPylong
  have h1 : W.natAbs.log2 ≤ 1000 := Nat.le_trans (Nat.log2_le_self _) h
  simp only [Bool.and_eq_false_iff, decide_eq_false_iff_not]
  left
  split
  · decide
  · (first | lia | omega)
/-- what is counted in the parts -/
noncomputable def cnt (W : Int) (p : P3) : Int := (p.l.map fun x => iabs (x.fdiv W)).sum
inductive LStep (W : Int) (first : P3) (u : List Nat) (c : Nat) : P3 → List Nat → P3 → List Nat → Prop where
  | out {p v} : 0 < p.at (col c) → TurnOk (ti p (col c) W) → ToldOk u c v [] (v ++ [c]) (cnt W (tn p (col c) W)) → LStep W first u c p v (tn p (col c) W) (v ++ [c])
  | back {p v A B} : ¬ 0 < p.at (col c) → TurnOk (ti p (col c) W) → Struck W v.reverse (tn p (col c) W) (A ++ 32 :: B) first → Txt.find (S (A ++ 32 :: B).reverse) (S [32]) = B.length → Txt.count (S (A ++ 32 :: B).reverse) (S [32]) = 1 →
      ToldOk u c v (A ++ 32 :: B).reverse (A ++ B).reverse (cnt W (tn p (col c) W)) → LStep W first u c p v (tn p (col c) W) (A ++ B).reverse
structure LawRun (W : Int) (first : P3) (N : List Nat) (f : Nat → P3 × List Nat) : Prop where
  W0 : 60 ≤ W
  W1 : W ≤ 1000
  len : N.length = 8
  f0 : f 0 = (first, [])
  c1 : TurnOk (ti ⟨W, 0, 0⟩ 1 W)
  c2 : TurnOk (ti ⟨W, 0, 0⟩ 2 W)
  step : ∀ i (hi : i < N.length), LStep W first (N.take i) N[i] (f i).1 (f i).2 (f (i + 1)).1 (f (i + 1)).2
noncomputable def vars_law : Vars := [("script", true), ("k", false), ("drawn", false), ("whole", true), ("red", false), ("green", false), ("first", false), ("added", false), ("names", false), ("corner", false), ("kept", false), ("parts", false), ("i", false), ("ahead", false), ("record", false), ("outward", false), ("home", false), ("count", false)]
theorem sig_law : Sig f_law ["script"] vars_law := ⟨rfl, rfl, rfl, rfl, by decide +kernel, by decide +kernel, by decide +kernel, by decide +kernel⟩
noncomputable def lst4 (xs : List Int) (k : Option Int) (drawn : AV) (W r g : Int) (first : P3) (added : AV) (N : List Nat) (corner : AV) (a : Addr) (p : P3) (i : Option Int) (e : List (Option AV)) : List (Option AV) :=
  some (.lst (xs.map .int)) :: oi k :: some drawn :: some (.int W) :: some (.int r) :: some (.int g) :: some (.lst (first.l.map .int)) :: some added :: some (.str (S N)) :: some corner :: some (.acc a) :: some (.lst (p.l.map .int)) :: oi i :: e
noncomputable def forLaw : Stmt := f_law.body.getD 11 (.Pass ⟨0, 0, 0, 0⟩)
theorem rangeL_get {i : Nat} {x : Int} {k : Int} (h : (rangeL k)[i]? = some x) : x = i ∧ (i : Int) < k := by
  unfold rangeL at h
  rw [List.getElem?_map] at h
  obtain ⟨j, hj, rfl⟩ := Option.map_eq_some_iff.mp h
  obtain ⟨h1, h2⟩ := List.getElem?_eq_some_iff.mp hj
  rw [List.length_range] at h1
  rw [List.getElem_range] at h2
  subst h2
  exact ⟨by (first | lia | omega), by (first | lia | omega)⟩
theorem law_for (Ok : ClsOk w.2) {xs : List Int} {k : Option Int} {drawn added corner : AV} {W r g : Int} {first : P3} {N : List Nat} {a d : Addr} {i0 : Option Int} {f : Nat → P3 × List Nat} {o1 o2 o3 o4 o5 : Option AV} (R : LawRun W first N f) :
    X1 (CC w) (n + 5) f_law.scope.names vars_law false (lst4 xs k drawn W r g first added N corner a first i0 [o1, o2, o3, o4, o5]) [(a, .acc d 2 [])] forLaw (fun fl σ μ => fl = .nx) := by
  have hW0 := R.W0
  have hW1 := R.W1
  have hlen8 := R.len
  refine X1.for (xs := (rangeL 8).map .int) (μ' := [(a, .acc d 2 [])]) (by rw [← irange_eq]; exact XF.range1 (by decide +kernel) g_range b_range QE.int (by decide) (by decide)) (fun i σ μ => ∃ k i0 o1 o2 o3 o4 o5, σ = lst4 xs k drawn W r g first added N corner a (f i).1 i0 [o1, o2, o3, o4, o5] ∧ μ = [(a, .acc d 2 (its (f i).2))])
    ⟨k, i0, o1, o2, o3, o4, o5, by rw [R.f0], by rw [R.f0]; rfl⟩ ?_ (fun _ _ _ => rfl)
  rintro i x σ μ hx ⟨k, i0, o1, o2, o3, o4, o5, rfl, rfl⟩
  rw [List.getElem?_map] at hx
  obtain ⟨z, hz, rfl⟩ := Option.map_eq_some_iff.mp hx
  obtain ⟨rfl, hi8⟩ := rangeL_get hz
  have hi : i < N.length := by rw [R.len]; (first | lia | omega)
  have hstep := R.step i hi
  generalize f (i + 1) = fn at hstep ⊢
  obtain ⟨p', v'⟩ := fn
  generalize f i = fi at hstep ⊢
  obtain ⟨p, v⟩ := fi
  dsimp only at hstep ⊢
  generalize hc : N[i] = c at hstep
  have hu : N.take (i + 1) = N.take i ++ [c] := by rw [List.take_add_one, List.getElem?_eq_getElem hi, hc]; rfl
  have hN : (N.take i).length = i := by rw [List.length_take]; (first | lia | omega)
  have hv : v.length ≤ 20 := by cases hstep with | out _ _ T => exact T.lv0 | back _ _ _ _ _ T => exact T.lv0
  have hcr : c ∈ rgbL := by cases hstep with | out _ _ T => exact T.su c (by simp) | back _ _ _ _ _ T => exact T.su c (by simp)
  have hcol := col_range hcr
  have htok : TurnOk (ti p (col c) W) := by cases hstep with | out _ h _ => exact h | back _ h _ _ _ _ => exact h
  have hp' : p' = tn p (col c) W := by cases hstep <;> rfl
  have nm : ∀ {σ : List (Option AV)} {pos : Pos} {e1 e2 : Expr}, QE (CC w) (n + 5) f_law.scope.names vars_law σ e1 (.str (S N)) → QE (CC w) (n + 5) f_law.scope.names vars_law σ e2 (.int (i : Int)) → QE (CC w) (n + 5) f_law.scope.names vars_law σ (.Subscript e1 e2 pos) (.str (S [c])) := fun h1 h2 =>
    (QE.sub h1 h2 (getS1 ⟨by (first | lia | omega), by (first | lia | omega), chOk_nat N i hi⟩)).eqv (by rw [chS_nat N i hi, hc])
  refine ⟨_, (.there (.there (.there (.there (.there (.there (.there (.there (.there (.there (.there (.there .here)))))))))))), ?_⟩
  refine XS.setX (x := "ahead") (v := .str (S v)) (σ' := lst4 xs k drawn W r g first added N corner a p (some i) [some (.str (S v)), o2, o3, o4, o5]) (XE.eqv (XE.slice (XE.strAcc (l := []) (r := []) Ok (by decide +kernel) g_str b_str (QE.name (.nth 10 rfl rfl) rfl) (m_str Ok (by rw [List.length_map]; (first | lia | omega)) (its_short _) (its_ok (by (first | lia | omega))))) (.some QE.int) .none (.some QE.int) (slS (by decide) ?_)) ?_) (.there (.there (.there (.there (.there (.there (.there (.there (.there (.there (.there (.there (.there .here))))))))))))) ?_
  · rw [strP_its, S_len, spread_len]; (first | lia | omega)
  · rw [strP_its, sl_odd]
  refine XS.set (x := "record") (v := .str (S [])) (σ' := lst4 xs k drawn W r g first added N corner a p (some i) [some (.str (S v)), some (.str (S [])), o3, o4, o5]) (QE.eqv QE.strc rfl) (.there (.there (.there (.there (.there (.there (.there (.there (.there (.there (.there (.there (.there (.there .here)))))))))))))) ?_
  refine XS.set (x := "k") (v := .int (col c)) (σ' := lst4 xs (some (col c)) drawn W r g first added N corner a p (some i) [some (.str (S v)), some (.str (S [])), o3, o4, o5]) ((QE.find QE.strc (nm (QE.name (.nth 8 rfl rfl) rfl) (QE.name (.nth 12 rfl rfl) rfl)) (fun _ => rfl) (by decide) (fun _ => rfl)).eqv (congrArg AV.int (find_col c hcr))) (.there .here) ?_
  refine XS.set (x := "outward") (v := .bool (decide (0 < p.at (col c)))) (σ' := lst4 xs (some (col c)) drawn W r g first added N corner a p (some i) [some (.str (S v)), some (.str (S [])), some (.bool (decide (0 < p.at (col c)))), o4, o5]) ((QE.cmp (QE.sub (QE.name (.nth 11 rfl rfl) rfl) (QE.name (.there .here) rfl) (getLI ?_ ?_ ?_)) QE.int gtI (by with_unfolding_all rfl)).eqv rfl) (.there (.there (.there (.there (.there (.there (.there (.there (.there (.there (.there (.there (.there (.there (.there .here))))))))))))))) ?_
  · exact hcol.1
  · show col c < ((p.l).length : Int); exact hcol.2
  · exact Nat.le_of_ble_eq_true rfl
  refine XS.set (x := "parts") (v := .lst (p'.l.map .int)) (σ' := lst4 xs (some (col c)) drawn W r g first added N corner a p' (some i) [some (.str (S v)), some (.str (S [])), some (.bool (decide (0 < p.at (col c)))), o4, o5]) (QE.callF (by decide +kernel) g_law_turn i_turn (.cons (QE.name (.nth 11 rfl rfl) rfl) (.cons (QE.name (.there .here) rfl) (.cons (QE.name (.nth 3 rfl rfl) rfl) .nil (fun _ => rfl)) (fun _ => rfl)) (fun _ => rfl)) (hp' ▸ call_turn' htok) (by decide +kernel)) (.there (.there (.there (.there (.there (.there (.there (.there (.there (.there (.there .here))))))))))) ?_
  refine XS.iteR (b := false) (.of (QB.eqv (QB.cmp (QE.name (.nth 11 rfl rfl) rfl) QE.nonec isN (by with_unfolding_all rfl)) rfl)) (fun h => by cases h) fun _ => ?_
  refine XS.cons (K1 := fun fl σ μ => fl = .nx ∧ ∃ Rc o4, ToldOk (N.take i) c v Rc v' (cnt W p') ∧ σ = lst4 xs (some (col c)) drawn W r g first added N corner a p' (some i) [some (.str (S v)), some (.str (S Rc)), some (.bool (decide (0 < p.at (col c)))), o4, o5] ∧ μ = [(a, .acc d 2 (its v'))]) ?_ ?_ (fun fl σ μ hn h => absurd h.1 hn)
  · refine X1.ite (b := decide (0 < p.at (col c))) (.of (QB.val (QE.name (.nth 15 rfl rfl) rfl) truthB (fun _ _ => rfl))) (fun h => ?_) fun h => ?_
    · have hpos : 0 < p.at (col c) := by simpa using h
      cases hstep with
      | back hn _ _ _ _ _ => exact absurd hpos hn
      | out _ _ T =>
        have step : its (v ++ [c]) = its v ++ [blk c] := by simp [its]
        refine XS.last (X1.expr (v := .none) (μ' := [(a, .acc d 2 (its (v ++ [c])))]) ?_ ⟨rfl, [], o4, T, rfl, rfl⟩)
        rw [step]
        exact XE.meth (l := []) (r := []) (C0 := Ok) (QE.name (.nth 10 rfl rfl) rfl) (.cons QE.strc (.cons (nm (QE.name (.nth 8 rfl rfl) rfl) (QE.name (.nth 12 rfl rfl) rfl)) .nil (fun _ => rfl)) (fun _ => rfl)) i_push (by decide) Ok.push (by decide +kernel) (m_push (x := S [32]) (y := S [c]) Ok (by rw [List.length_map]; (first | lia | omega))) (fun _ => rfl) (by decide) (fun _ => rfl)
    · have hpos : ¬ 0 < p.at (col c) := by simpa using h
      cases hstep with
      | out hn _ _ => exact absurd hn hpos
      | @back A B _ _ hs hf hcount T =>
        refine XS.seq (X1.unpack (σ' := lst4 xs (some (col c)) drawn W r g first added N corner a (tn p (col c) W) (some i) [some (.str (S v)), some (.str (S (A ++ 32 :: B).reverse)), some (.bool (decide (0 < p.at (col c)))), some (.lst (first.l.map .int)), o5]) (XE.callM (l := []) (r := []) (m' := .acc d 2 (its (A ++ B).reverse)) (by decide +kernel) g_law_struck i_struck (.cons (QE.name (.nth 10 rfl rfl) rfl) (.cons (QE.name (.nth 11 rfl rfl) rfl) (.cons (QE.name (.nth 3 rfl rfl) rfl) .nil (fun _ => rfl)) (fun _ => rfl)) (fun _ => rfl)) rfl (call_struck Ok (by (first | lia | omega)) hs hf).first0) (.cons (.there (.there (.there (.there (.there (.there (.there (.there (.there (.there (.there (.there (.there (.there .here)))))))))))))) (.cons (.there (.there (.there (.there (.there (.there (.there (.there (.there (.there (.there (.there (.there (.there (.there (.there .here)))))))))))))))) .nil)) ⟨rfl, rfl, rfl⟩) ?_
        have hlR := T.lR
        refine XS.iteR (b := false) (.of (QB.eqv (QB.boolop (QT.or_cons (QB.cmp (QE.name (.nth 16 rfl rfl) rfl) (QE.name (.nth 6 rfl rfl) rfl) (neLI ?_) (by with_unfolding_all rfl)) fun hh0 => (QT.or_cons (QB.cmp (QE.count (QE.name (.nth 14 rfl rfl) rfl) QE.strc (fun _ => rfl) (by decide) (fun _ => rfl)) QE.int neI (by with_unfolding_all rfl)) fun hh1 => QT.or_nil))) ?_)) (fun h => by cases h) fun _ => .nil ⟨rfl, _, _, T, rfl, rfl⟩
        · rfl
        · show (first.l != first.l || ((Txt.count (S (A ++ 32 :: B).reverse) (S [32]) != 1) || false)) = false
          rw [hcount]; simp
  rintro σ μ ⟨_, Rc, o4, T, rfl, rfl⟩
  refine XS.set (x := "count") (v := .int (cnt W p')) (σ' := lst4 xs (some (col c)) drawn W r g first added N corner a p' (some i) [some (.str (S v)), some (.str (S Rc)), some (.bool (decide (0 < p.at (col c)))), o4, some (.int (cnt W p'))]) (QE.callB (by decide +kernel) g_sum b_sum (.cons ((QE.compI (f := fun j => .int (iabs (j.fdiv W))) (CompOk.ints0 (by decide +kernel) (.cons (.there (.there (.there .here))) (by decide +kernel) .nil) (by decide +kernel) (.ints (QE.name (.nth 11 rfl rfl) rfl)) (by show 3 ≤ _; decide) (fun _ _ => trivial) fun j hj => (QE.callB (by decide +kernel) g_abs b_abs (.cons (QE.bin (QE.name .here rfl) (QE.name (.there .here) rfl) (fdivI ?_ ?_)) .nil (fun _ => rfl)) absI (by decide +kernel)))).eqv (show AV.lst (p'.l.map fun j => AV.int (iabs (j.fdiv W))) = AV.lst ((p'.l.map fun x => iabs (x.fdiv W)).map .int) from by rw [List.map_map]; rfl)) .nil (fun _ => rfl)) sumL (by decide +kernel)) (.there (.there (.there (.there (.there (.there (.there (.there (.there (.there (.there (.there (.there (.there (.there (.there (.there .here))))))))))))))))) ?_
  · (first | lia | omega)
  · exact pylong_no (by (first | lia | omega))
  refine XS.iteR (b := false) (XB.eqv (XB.not (XB.val (XE.callM (l := []) (r := []) (by decide +kernel) g_law_told i_told (.cons ((QE.slice (QE.name (.nth 8 rfl rfl) rfl) .none (.some (QE.bin (QE.name (.nth 12 rfl rfl) rfl) QE.int addI)) .none (slS ?_ ?_)).eqv ?_) (.cons (QE.name (.nth 13 rfl rfl) rfl) (.cons (QE.name (.nth 14 rfl rfl) rfl) (.cons (QE.name (.nth 10 rfl rfl) rfl) (.cons (QE.name (.nth 17 rfl rfl) rfl) .nil (fun _ => rfl)) (fun _ => rfl)) (fun _ => rfl)) (fun _ => rfl)) (fun _ => rfl)) rfl (call_told Ok T)) truthB (fun _ _ => rfl))) rfl) (fun h => by cases h) fun _ => ?_
  · decide
  · rw [S_len]; (first | lia | omega)
  · rw [show (i : Int) + 1 = ((i + 1 : Nat) : Int) from by (first | lia | omega), sl_take, hu]
  exact .nil ⟨_, _, _, _, _, _, _, rfl, rfl⟩
end Mine
end

noncomputable section
open PySem PySem.Calls PyProof.Rows PySem.W PySem.Flt PySem.SeqAt
set_option Elab.async false
set_option linter.unusedVariables false
set_option maxRecDepth 100000
namespace Mine
variable {w : WK} {n : Nat}
noncomputable def pickI (l : List Int) (lo hi st : Option Int) : List Int := (sliceRange (sliceBounds lo hi st l.length).1 (sliceBounds lo hi st l.length).2.1 (sliceBounds lo hi st l.length).2.2).filterMap (l[·]?)
theorem pickI_map (l : List Int) (lo hi st : Option Int) : pickL (l.map .int) lo hi st = (pickI l lo hi st).map .int := by
  unfold pickL pickI
  rw [List.length_map, List.map_filterMap]
  congr 1
  funext i
  exact List.getElem?_map
noncomputable def draw (xs : List Int) (j : Int) : Int := (pickI xs (some j) none (some 3)).sum + [40, 19, 29].getD j.toNat 0
noncomputable def nmc (i : Int) : Nat := rgbL.getD i.toNat 0
noncomputable def fvN : AV × AV → AV
  | (.int a, .int b) => .str (S [nmc ((a + b).fmod 3)])
  | _ => .none
theorem fvN_scal : ∀ z (h : Heap) (v : Value), Rel h (fvN z) v → Scal (fvN z) v := fun z h v r => by
  unfold fvN at r ⊢
  split at r
  · exact scal_str r
  · cases r; exact fun _ => .none
theorem fmod3 (a : Int) : 0 ≤ a.fmod 3 ∧ a.fmod 3 < 3 := ⟨Int.fmod_nonneg_of_pos a (by decide), Int.fmod_lt_of_pos a (by decide)⟩
theorem ch_rgb {i : Int} (h0 : 0 ≤ i) (h3 : i < 3) : chS "rgb" i = S [nmc i] ∧ ((seqIndex? i ("rgb" : Str).length).bind (("rgb" : Str).cps[·]?)).isSome = true ∧ nmc i ∈ rgbL := by
  have : ∀ j : Fin 3, chS "rgb" (j.val : Int) = S [nmc j.val] ∧ ((seqIndex? (j.val : Int) ("rgb" : Str).length).bind (("rgb" : Str).cps[·]?)).isSome = true ∧ nmc (j.val : Int) ∈ rgbL := by decide +kernel
  have := this ⟨i.toNat, by (first | lia | omega)⟩
  simpa [Int.toNat_of_nonneg h0] using this
noncomputable def kst : List Int := [0, 1, 0, 1, 2, 1, 2, 2]
noncomputable def addedL (xs : List Int) : List Int := xs.take 8 ++ [0, 0, 0, 0, 0, 0, 0, 0].drop xs.length
noncomputable def namesL (xs : List Int) : List Nat := ((addedL xs).zip kst).map fun p => nmc ((p.1 + p.2).fmod 3)
theorem addedL_len (xs : List Int) : (addedL xs).length = 8 := by
  unfold addedL
  rw [List.length_append, List.length_take, List.length_drop]
  show min 8 xs.length + (8 - xs.length) = 8
  omega
theorem namesL_len (xs : List Int) : (namesL xs).length = 8 := by
  unfold namesL
  rw [List.length_map, List.length_zip, addedL_len]; rfl
theorem namesL_mem (xs : List Int) : ∀ x ∈ namesL xs, x ∈ rgbL := fun x hx => by
  obtain ⟨p, _, rfl⟩ := List.mem_map.mp hx
  exact (ch_rgb (fmod3 _).1 (fmod3 _).2).2.2
theorem zip_names (as bs : List Int) : ((as.map AV.int).zip (bs.map AV.int)).map fvN = (((as.zip bs).map fun p => nmc ((p.1 + p.2).fmod 3)).map fun c => S [c]).map AV.str := by
  induction as generalizing bs with
  | nil => rfl
  | cons a as ih =>
    cases bs with
    | nil => rfl
    | cons b bs => simp only [List.map_cons, List.zip_cons_cons, ih]; rfl
theorem pick_take8 {α : Type} (l : List α) : (sliceRange (sliceBounds none (some 8) none l.length).1 (sliceBounds none (some 8) none l.length).2.1 (sliceBounds none (some 8) none l.length).2.2).filterMap (l[·]?) = l.take 8 := by
  have : sliceBounds none (some 8) none l.length = (((0 : Nat) : Int), ((min 8 l.length : Nat) : Int), 1) := by
    unfold sliceBounds
    simp only [Option.getD_none, show (1 : Int) > 0 from by decide, if_true, if_neg (show ¬ (8 : Int) < 0 from by decide)]
    congr 2
    (first | lia | omega)
  rw [this, pick_step1 l _ _ (by (first | lia | omega)), List.drop_zero]
  by_cases h : l.length ≤ 8
  · rw [Nat.min_eq_right h, List.take_length, List.take_of_length_le h]
  · rw [Nat.min_eq_left (by (first | lia | omega))]
theorem pick_from' {α : Type} (l : List α) (k : Nat) : (sliceRange (sliceBounds (some k) none none l.length).1 (sliceBounds (some (k : Int)) none none l.length).2.1 (sliceBounds (some (k : Int)) none none l.length).2.2).filterMap (l[·]?) = l.drop k := by
  rw [bounds_from (by (first | lia | omega)), pick_step1 l _ _ (Nat.le_refl _), List.take_length]
  by_cases h : k ≤ l.length
  · rw [Int.toNat_natCast, Nat.min_eq_left h]
  · rw [Int.toNat_natCast, Nat.min_eq_right (by (first | lia | omega)), List.drop_eq_nil_of_le (Nat.le_refl _), List.drop_eq_nil_of_le (by (first | lia | omega))]
theorem flatten_sing (l : List Nat) : (l.map fun c => [c]).flatten = l := by
  induction l with
  | nil => rfl
  | cons c l ih => simp [ih]
theorem join_names (l : List Nat) : Txt.join "" (l.map fun c => S [c]) = S l := by
  have := join_S (l.map fun c => [c])
  rwa [List.map_map, flatten_sing] at this
theorem tn_corner (W k : Int) (hk : k = 1 ∨ k = 2) : tn ⟨W, 0, 0⟩ k W = ⟨W, 0, 0⟩ := by
  rcases hk with rfl | rfl <;> simp [tn, ti, TurnIn.due, TurnIn.pt]
noncomputable def wholeOf (xs : List Int) : Int := 60 + (draw xs 0).fmod 941
noncomputable def redOf (xs : List Int) : Int := 1 + (draw xs 1).fmod (wholeOf xs - 2)
noncomputable def greenOf (xs : List Int) : Int := 1 + (draw xs 2).fmod (wholeOf xs - redOf xs - 1)
noncomputable def firstOf (xs : List Int) : P3 := ⟨redOf xs, greenOf xs, wholeOf xs - redOf xs - greenOf xs⟩
theorem whole_range (xs : List Int) : 60 ≤ wholeOf xs ∧ wholeOf xs ≤ 1000 := by
  have h0 := Int.fmod_nonneg_of_pos (draw xs 0) (b := 941) (by decide)
  have h1 := Int.fmod_lt_of_pos (draw xs 0) (b := 941) (by decide)
  unfold wholeOf; (first | lia | omega)
theorem red_range (xs : List Int) : 1 ≤ redOf xs ∧ redOf xs ≤ wholeOf xs - 2 := by
  have hW := whole_range xs
  have h0 := Int.fmod_nonneg_of_pos (draw xs 1) (b := wholeOf xs - 2) (by omega)
  have h1 := Int.fmod_lt_of_pos (draw xs 1) (b := wholeOf xs - 2) (by omega)
  unfold redOf; omega
theorem green_range (xs : List Int) : 1 ≤ greenOf xs ∧ greenOf xs ≤ wholeOf xs - redOf xs - 1 := by
  have hW := whole_range xs
  have hr := red_range xs
  have h0 := Int.fmod_nonneg_of_pos (draw xs 2) (b := wholeOf xs - redOf xs - 1) (by omega)
  have h1 := Int.fmod_lt_of_pos (draw xs 2) (b := wholeOf xs - redOf xs - 1) (by omega)
  unfold greenOf; omega
theorem run_law (Ok : ClsOk w.2) {xs : List Int} (hx : xs.length ≤ 63) {f : Nat → P3 × List Nat} (Rn : LawRun (wholeOf xs) (firstOf xs) (namesL xs) f) {A : Around} {s : Shared} {rs : List Value} (R : Lvl (n + 6) A) (P : Pg (CC w) s.heap) (ra : RelAll s.heap [.lst (xs.map .int)] rs) :
    wpAny (model (CC w).prog (CC w).w) A (call (.ref 169) rs) (fun r s' => r = .bool true ∧ Stp false (Wq false []) s s' ∧ TabOk s'.heap) bot s := by
  have hW := whole_range xs
  have hr := red_range xs
  have hg := green_range xs
  have hN8 := namesL_len xs
  refine wp_post (fn_call (q := false) (μ := []) (K := fun fl σ μ => fl.val = .bool true) sig_law i_law (args := [.lst (xs.map .int)]) (rs := rs) (rs' := rs) R P ?_ ra rfl ⟨fun p hp => (nomatch hp), .nil, fun b hb => (nomatch hb)⟩ ?_) fun r s' ⟨fl, σ', μ', h1, hr, _, hS, hT⟩ => by rw [h1] at hr; cases hr; exact ⟨rfl, hS, hT⟩
  · intro fd h1 h2
    cases ra with
    | cons _ ra =>
      cases ra
      refine .of_eq ?_
      unfold bindArgs
      rw [h1, h2]
      rfl
  -- drawn
  refine XS.setI (x := "k") (f := fun j => .int (draw xs j)) (CompOk.ints0 (by decide +kernel) (.cons .here (by decide +kernel) .nil) (by decide +kernel)
    (QI.range1L (by decide +kernel) g_range b_range QE.int (by decide)) (by decide) (fun _ _ => trivial) fun j hj => ?_) (by decide +kernel) (.there (.there .here)) ?_ (swaps_local (by decide +kernel) (by decide +kernel) (by decide +kernel))
  · obtain ⟨h0, h3⟩ := mem_rangeL hj
    refine QE.bin (QE.callB (by decide +kernel) g_sum b_sum (.cons ((QE.slice (QE.name (.there .here) rfl) (.some (QE.name .here rfl)) .none (.some QE.int) (slL (by decide) (by rw [List.length_map]; (first | lia | omega)))).eqv (congrArg AV.lst (pickI_map xs (some j) none (some 3)))) .nil (fun _ => rfl)) sumL (by decide +kernel)) (QE.sub ((QE.list (.cons QE.int (.cons QE.int (.cons QE.int .nil (fun _ => rfl)) (fun _ => rfl)) (fun _ => rfl)) (Nat.le_of_ble_eq_true rfl)).eqv (show AV.lst [.int 40, .int 19, .int 29] = .lst (([40, 19, 29] : List Int).map .int) from rfl)) (QE.name .here rfl) (getLI h0 h3 (Nat.le_of_ble_eq_true rfl))) addI
  have hdr : (rangeL 3).map (fun j => AV.int (draw xs j)) = ([draw xs 0, draw xs 1, draw xs 2].map .int) := rfl
  rw [hdr]
  refine XS.set (x := "whole") (v := .int (wholeOf xs)) (QE.bin QE.int (QE.bin (QE.sub (QE.name (.nth 2 rfl rfl) rfl) QE.int (getLI ?_ ?_ ?_)) QE.int (modI ?_)) addI) (.there (.there (.there .here))) ?_
  · decide
  · exact (show (0 : Int) < 3 by decide)
  · exact (show (3 : Nat) ≤ 1000 by decide)
  · decide
  refine XS.set (x := "red") (v := .int (redOf xs)) (QE.bin QE.int (QE.bin (QE.sub (QE.name (.nth 2 rfl rfl) rfl) QE.int (getLI ?_ ?_ ?_)) (QE.bin (QE.name (.nth 3 rfl rfl) rfl) QE.int subI) (modI ?_)) addI) (.there (.there (.there (.there .here)))) ?_
  · decide
  · exact (show (1 : Int) < 3 by decide)
  · exact (show (3 : Nat) ≤ 1000 by decide)
  · show wholeOf xs - 2 ≠ 0; (first | lia | omega)
  refine XS.set (x := "green") (v := .int (greenOf xs)) (QE.bin QE.int (QE.bin (QE.sub (QE.name (.nth 2 rfl rfl) rfl) QE.int (getLI ?_ ?_ ?_)) (QE.bin (QE.bin (QE.name (.nth 3 rfl rfl) rfl) (QE.name (.nth 4 rfl rfl) rfl) subI) QE.int subI) (modI ?_)) addI) (.there (.there (.there (.there (.there .here))))) ?_
  · decide
  · exact (show (2 : Int) < 3 by decide)
  · exact (show (3 : Nat) ≤ 1000 by decide)
  · show wholeOf xs - redOf xs - 1 ≠ 0; (first | lia | omega)
  refine XS.set (x := "first") (v := .lst ((firstOf xs).l.map .int)) (QE.list (.cons (QE.name (.nth 4 rfl rfl) rfl) (.cons (QE.name (.nth 5 rfl rfl) rfl) (.cons (QE.bin (QE.bin (QE.name (.nth 3 rfl rfl) rfl) (QE.name (.nth 4 rfl rfl) rfl) subI) (QE.name (.nth 5 rfl rfl) rfl) subI) .nil (fun _ => rfl)) (fun _ => rfl)) (fun _ => rfl)) (Nat.le_of_ble_eq_true rfl)) (.there (.there (.there (.there (.there (.there .here)))))) ?_
  refine XS.set (x := "added") (v := .lst ((addedL xs).map .int)) (QE.eqv (QE.bin (QE.slice (QE.name .here rfl) .none (.some QE.int) .none (slL ?_ ?_)) (QE.slice (QE.list (.cons QE.int (.cons QE.int (.cons QE.int (.cons QE.int (.cons QE.int (.cons QE.int (.cons QE.int (.cons QE.int .nil (fun _ => rfl)) (fun _ => rfl)) (fun _ => rfl)) (fun _ => rfl)) (fun _ => rfl)) (fun _ => rfl)) (fun _ => rfl)) (fun _ => rfl)) (Nat.le_of_ble_eq_true rfl)) (.some (QE.callB (by decide +kernel) g_len b_len (.cons (QE.name .here rfl) .nil (fun _ => rfl)) (lenL ?_) (by decide +kernel))) .none .none (slL ?_ ?_)) (addL ?_)) ?_) (.there (.there (.there (.there (.there (.there (.there .here))))))) ?_
  · decide
  · rw [List.length_map]; (first | lia | omega)
  · rw [List.length_map]; (first | lia | omega)
  · decide
  · exact (show (8 : Nat) ≤ 100000 by decide)
  · have e1 := pick_take8 (xs.map AV.int)
    have e2 := pick_from' [AV.int 0, AV.int 0, AV.int 0, AV.int 0, AV.int 0, AV.int 0, AV.int 0, AV.int 0] (xs.map AV.int).length
    have e1 : pickL (xs.map AV.int) none (some 8) none = (xs.map AV.int).take 8 := e1
    have e2 : pickL [AV.int 0, AV.int 0, AV.int 0, AV.int 0, AV.int 0, AV.int 0, AV.int 0, AV.int 0] (some ((xs.map AV.int).length : Int)) none none = [AV.int 0, AV.int 0, AV.int 0, AV.int 0, AV.int 0, AV.int 0, AV.int 0, AV.int 0].drop (xs.map AV.int).length := e2
    rw [e1, e2, List.length_take, List.length_drop]
    show min 8 _ + (8 - _) ≤ 1000
    (first | lia | omega)
  · have e1 : pickL (xs.map AV.int) none (some 8) none = (xs.map AV.int).take 8 := pick_take8 (xs.map AV.int)
    have e2 : pickL [AV.int 0, AV.int 0, AV.int 0, AV.int 0, AV.int 0, AV.int 0, AV.int 0, AV.int 0] (some ((xs.map AV.int).length : Int)) none none = [AV.int 0, AV.int 0, AV.int 0, AV.int 0, AV.int 0, AV.int 0, AV.int 0, AV.int 0].drop (xs.map AV.int).length := pick_from' _ _
    rw [e1, e2]
    unfold addedL
    rw [List.map_append, List.map_take, List.map_drop, List.length_map]
    rfl
  refine XS.set (x := "names") (v := .str (S (namesL xs))) ((QE.join (x := "") (ys := (namesL xs).map fun c => S [c]) ?_ QE.strc ((QE.compZip (fv := fvN) (by decide +kernel) (by decide +kernel) (by decide) (by decide +kernel) (by decide +kernel) g_zip b_zip (QE.name (.nth 7 rfl rfl) rfl) ((QE.list (.cons QE.int (.cons QE.int (.cons QE.int (.cons QE.int (.cons QE.int (.cons QE.int (.cons QE.int (.cons QE.int .nil (fun _ => rfl)) (fun _ => rfl)) (fun _ => rfl)) (fun _ => rfl)) (fun _ => rfl)) (fun _ => rfl)) (fun _ => rfl)) (fun _ => rfl)) (Nat.le_of_ble_eq_true rfl)).eqv (show AV.lst [.int 0, .int 1, .int 0, .int 1, .int 2, .int 1, .int 2, .int 2] = .lst (kst.map .int) from rfl)) ?_ (fun a _ b _ => ?_) fvN_scal).eqv (congrArg AV.lst (zip_names _ _))) (fun _ => rfl) (by decide) (fun _ => rfl)).eqv (congrArg AV.str (join_names _))) (.there (.there (.there (.there (.there (.there (.there (.there .here)))))))) ?_
  · refine joinOk_of ?_
    have : (((namesL xs).map fun c => S [c]).map (·.length)) = (namesL xs).map fun _ => 1 := by rw [List.map_map]; rfl
    rw [this]
    have key : ∀ l : List Nat, (l.map fun _ => 1).sum = l.length := fun l => by induction l with | nil => rfl | cons c l ih => rw [List.map_cons, List.sum_cons, ih, List.length_cons]; (first | lia | omega)
    rw [key, hN8, show ("" : Str).length = 0 from rfl, Nat.mul_zero]
    decide
  · rw [addedL_len]; decide
  · have h := ch_rgb (fmod3 (a + b)).1 (fmod3 (a + b)).2
    have h3 := fmod3 (a + b)
    refine (QE.sub QE.strc (QE.bin (QE.bin (QE.name .here rfl) (QE.name (.there .here) rfl) addI) QE.int (modI ?_)) (getS1 ⟨by (first | lia | omega), by (first | lia | omega), h.2.1⟩)).eqv (by rw [h.1]; rfl)
    decide
  refine XS.set (x := "corner") (v := .lst ((P3.mk (wholeOf xs) 0 0).l.map .int)) (QE.list (.cons (QE.name (.nth 3 rfl rfl) rfl) (.cons QE.int (.cons QE.int .nil (fun _ => rfl)) (fun _ => rfl)) (fun _ => rfl)) (Nat.le_of_ble_eq_true rfl)) (.there (.there (.there (.there (.there (.there (.there (.there (.there .here))))))))) ?_
  refine XS.iteR (b := false) (.of (QB.eqv (QB.boolop (QT.or_cons (QB.cmp (QE.callF (by decide +kernel) g_law_turn i_turn (.cons (QE.name (.nth 9 rfl rfl) rfl) (.cons QE.int (.cons (QE.name (.nth 3 rfl rfl) rfl) .nil (fun _ => rfl)) (fun _ => rfl)) (fun _ => rfl)) (call_turn' Rn.c1) (by decide +kernel)) (QE.name (.nth 9 rfl rfl) rfl) (neLI rfl) (by with_unfolding_all rfl)) fun _ => QT.or_cons (QB.cmp (QE.callF (by decide +kernel) g_law_turn i_turn (.cons (QE.name (.nth 9 rfl rfl) rfl) (.cons QE.int (.cons (QE.name (.nth 3 rfl rfl) rfl) .nil (fun _ => rfl)) (fun _ => rfl)) (fun _ => rfl)) (call_turn' Rn.c2) (by decide +kernel)) (QE.name (.nth 9 rfl rfl) rfl) (neLI rfl) (by with_unfolding_all rfl)) fun _ => QT.or_nil)) ?_)) (fun h => by cases h) fun _ => ?_
  · rw [tn_corner _ 1 (.inl rfl), tn_corner _ 2 (.inr rfl)]
    simp
  have hzero : ∀ v : AV, v = v := fun _ => rfl
  refine XS.cons (X1.new1 (x := "kept") (k := 2) (σ' := fun a => [some (.lst (xs.map .int)), none, some (.lst ([draw xs 0, draw xs 1, draw xs 2].map .int)), some (.int (wholeOf xs)), some (.int (redOf xs)), some (.int (greenOf xs)), some (.lst ((firstOf xs).l.map .int)), some (.lst ((addedL xs).map .int)), some (.str (S (namesL xs))), some (.lst ((P3.mk (wholeOf xs) 0 0).l.map .int)), some (.acc a), none, none, none, none, none, none, none])
    (K := fun fl σ μ => fl = .nx ∧ ∃ a d, σ = [some (.lst (xs.map .int)), none, some (.lst ([draw xs 0, draw xs 1, draw xs 2].map .int)), some (.int (wholeOf xs)), some (.int (redOf xs)), some (.int (greenOf xs)), some (.lst ((firstOf xs).l.map .int)), some (.lst ((addedL xs).map .int)), some (.str (S (namesL xs))), some (.lst ((P3.mk (wholeOf xs) 0 0).l.map .int)), some (.acc a), none, none, none, none, none, none, none] ∧ μ = [(a, .acc d 2 [])]) Ok (by decide +kernel) (fun a => (.there (.there (.there (.there (.there (.there (.there (.there (.there (.there .here))))))))))) fun a d => ⟨rfl, a, d, rfl, rfl⟩) ?_ (fun _ _ _ hn h => absurd h.1 hn)
  rintro σ μ ⟨_, a, d, rfl, rfl⟩
  refine XS.set (x := "parts") (v := .lst ((firstOf xs).l.map .int)) (σ' := lst4 xs none (.lst ([draw xs 0, draw xs 1, draw xs 2].map .int)) (wholeOf xs) (redOf xs) (greenOf xs) (firstOf xs) (.lst ((addedL xs).map .int)) (namesL xs) (.lst ((P3.mk (wholeOf xs) 0 0).l.map .int)) a (firstOf xs) none [none, none, none, none, none]) (QE.name (.nth 6 rfl rfl) rfl) (.there (.there (.there (.there (.there (.there (.there (.there (.there (.there (.there .here))))))))))) ?_
  refine XS.cons (law_for Ok Rn) ?_ (fun _ _ _ hn h => absurd h hn)
  intro σ μ _
  exact XS.ret QE.boolc rfl
end Mine
end

noncomputable section
open PySem PySem.Calls PyProof.Rows PySem.W PySem.Flt PySem.SeqAt
set_option Elab.async false
set_option linter.unusedVariables false
namespace Mine
/-! the distance to a word with some struck out -/
theorem imin_le (a b : Int) : imin a b ≤ a ∧ imin a b ≤ b := by unfold imin; split <;> (first | lia | omega)
theorem le_imin {a b c : Int} (h1 : c ≤ a) (h2 : c ≤ b) : c ≤ imin a b := by unfold imin; split <;> omega
theorem cf_range (x y : Nat) : 0 ≤ cf x y ∧ cf x y ≤ 2 := by unfold cf; split; decide; split <;> decide
theorem cf_self (x : Nat) : cf x x = 0 := by unfold cf; rw [if_pos rfl]
theorem scan_cons (bc c : Nat) (cs : List Nat) (r0 : Int) (rs : List Int) (d r m : Int) : scan bc (c :: cs) (r0 :: rs) d r m =
    ((imin (imin r r0 + 2) (d + cf bc c)) :: (scan bc cs rs r0 (imin (imin r r0 + 2) (d + cf bc c)) (if (imin (imin r r0 + 2) (d + cf bc c)) < m then (imin (imin r r0 + 2) (d + cf bc c)) else m)).1,
      (scan bc cs rs r0 (imin (imin r r0 + 2) (d + cf bc c)) (if (imin (imin r r0 + 2) (d + cf bc c)) < m then (imin (imin r r0 + 2) (d + cf bc c)) else m)).2) := by
  conv => lhs; unfold scan
theorem scan_nil (bc : Nat) (d r m : Int) : scan bc [] [] d r m = ([], r, m) := by unfold scan; rfl
@[elab_as_elim] theorem two_ind {α β : Type} {P : List α → List β → Prop} (h0 : P [] []) (h1 : ∀ a as b bs, bs.length = as.length → P as bs → P (a :: as) (b :: bs)) : ∀ (as : List α) (bs : List β), bs.length = as.length → P as bs := by
  intro as
  induction as with
  | nil => intro bs h; rw [List.eq_nil_of_length_eq_zero h]; exact h0
  | cons a as ih =>
    intro bs h
    cases bs with
    | nil => cases h
    | cons b bs => exact h1 a as b bs (Nat.succ.inj h) (ih bs (Nat.succ.inj h))
theorem scan_last (bc : Nat) : ∀ (cs : List Nat) (rs : List Int) (d r m : Int), rs.length = cs.length → (scan bc cs rs d r m).2.1 = ((scan bc cs rs d r m).1.getLast?).getD r := by
  intro cs rs d r m h
  revert d r m
  refine two_ind ?_ ?_ cs rs h
  · intro d r m; rw [scan_nil]; rfl
  · intro c cs r0 rs h ih d r m
    rw [scan_cons]; dsimp only
    rw [ih, List.getLast?_cons]
    rfl
theorem scan_min (bc : Nat) : ∀ (cs : List Nat) (rs : List Int) (d r m : Int), rs.length = cs.length → (scan bc cs rs d r m).2.2 ≤ m ∧ ∀ z ∈ (scan bc cs rs d r m).1, (scan bc cs rs d r m).2.2 ≤ z := by
  intro cs rs d r m h
  revert d r m
  refine two_ind ?_ ?_ cs rs h
  · intro d r m; rw [scan_nil]; exact ⟨Int.le_refl _, fun z hz => nomatch hz⟩
  · intro c cs r0 rs h ih d r m
    rw [scan_cons]; dsimp only
    generalize imin (imin r r0 + 2) (d + cf bc c) = v
    obtain ⟨h1, h2⟩ := ih r0 v (if v < m then v else m)
    have key : ∀ a : Int, (if a < m then a else m) ≤ m ∧ (if a < m then a else m) ≤ a := fun a => by split <;> (first | lia | omega)
    refine ⟨Int.le_trans h1 (key _).1, fun z hz => ?_⟩
    rcases List.mem_cons.mp hz with rfl | hz
    · exact Int.le_trans h1 (key _).2
    · exact h2 z hz
noncomputable def Lo (j i z : Int) : Prop := 2 * (j - i) ≤ z ∧ 2 * (i - j) ≤ z
theorem scan_low (bc : Nat) (j : Int) : ∀ (cs : List Nat) (rs : List Int) (d r m i : Int), rs.length = cs.length → (∀ (k : Nat) z, rs[k]? = some z → Lo j (i + k + 1) z) → Lo j i d → Lo j i (r + 2) →
    ∀ (k : Nat) z, (scan bc cs rs d r m).1[k]? = some z → Lo j (i + k) z := by
  intro cs rs d r m i h
  revert d r m i
  refine two_ind ?_ ?_ cs rs h
  · intro d r m i _ _ _ k z hz; rw [scan_nil] at hz; cases hz
  · intro c cs r0 rs h ih d r m i hr hd hres k z hz
    rw [scan_cons] at hz; dsimp only at hz
    have h0 := hr 0 r0 rfl
    have hc := (cf_range bc c).1
    have hv : Lo j i (imin (imin r r0 + 2) (d + cf bc c)) := by
      have h1 : 2 * (j - i) ≤ imin r r0 + 2 := by
        have := le_imin (a := r) (b := r0) (c := 2 * (j - i) - 2) (by have := hres.1; (first | lia | omega)) (by have := h0.1; (first | lia | omega))
        (first | lia | omega)
      have h2 : 2 * (i - j) ≤ imin r r0 + 2 := by
        have := le_imin (a := r) (b := r0) (c := 2 * (i - j) - 2) (by have := hres.2; (first | lia | omega)) (by have := h0.2; (first | lia | omega))
        (first | lia | omega)
      exact ⟨le_imin h1 (by have := hd.1; (first | lia | omega)), le_imin h2 (by have := hd.2; (first | lia | omega))⟩
    generalize imin (imin r r0 + 2) (d + cf bc c) = v at hz hv
    cases k with
    | zero => simp at hz; subst hz; simpa using hv
    | succ k =>
      have := ih r0 v (if v < m then v else m) (i + 1) (fun k z hk => by have := hr (k + 1) z (by simpa using hk); rwa [show i + ((k + 1 : Nat) : Int) + 1 = i + 1 + (k : Int) + 1 from by (first | lia | omega)] at this) (by simpa using h0) ⟨by have := hv.1; (first | lia | omega), by have := hv.2; (first | lia | omega)⟩ k z (by simpa using hz)
      rwa [show i + 1 + (k : Int) = i + ((k + 1 : Nat) : Int) from by (first | lia | omega)] at this
theorem snoc_sub {a P : List Nat} {c b : Nat} (h : (a ++ [c]).Sublist (P ++ [b])) : (a ++ [c]).Sublist P ∨ (c = b ∧ a.Sublist P) := by
  have h1 := h.reverse
  rw [List.reverse_append, List.reverse_append] at h1
  have h1 : (c :: a.reverse).Sublist (b :: P.reverse) := h1
  rcases List.sublist_cons_iff.mp h1 with h2 | ⟨r, e, h2⟩
  · left
    have := h2.reverse
    simpa using this
  · right
    cases e
    refine ⟨rfl, ?_⟩
    have := h2.reverse
    simpa using this
theorem scan_up (bc : Nat) (P : List Nat) : ∀ (cs : List Nat) (rs : List Int) (d r m : Int) (done : List Nat), rs.length = cs.length → (∀ (k : Nat) z, rs[k]? = some z → (done ++ cs.take (k + 1)).Sublist P → z ≤ 2 * (P.length - (done.length + k + 1))) → (done.Sublist P → d ≤ 2 * (P.length - done.length)) →
    ∀ (k : Nat) z, (scan bc cs rs d r m).1[k]? = some z → (done ++ cs.take (k + 1)).Sublist (P ++ [bc]) → z ≤ 2 * (P.length - (done.length + k)) := by
  intro cs rs d r m done h
  revert d r m done
  refine two_ind ?_ ?_ cs rs h
  · intro d r m done _ _ k z hz _; rw [scan_nil] at hz; cases hz
  · intro c cs r0 rs h ih d r m done hr hd k z hz hs
    rw [scan_cons] at hz; dsimp only at hz
    have h0 := hr 0 r0 rfl
    cases k with
    | zero =>
      simp at hz
      subst hz
      rcases snoc_sub (by simpa using hs) with h1 | ⟨rfl, h1⟩
      · have h2 := h0 (by simpa using h1)
        have h3 := (imin_le (imin r r0 + 2) (d + cf bc c)).1
        have h4 := (imin_le r r0).2
        simp at h2 ⊢
        (first | lia | omega)
      · have h2 := hd h1
        have h3 := (imin_le (imin r r0 + 2) (d + cf c c)).2
        rw [cf_self, Int.add_zero] at h3
        rw [cf_self, Int.add_zero]
        simp at h2 ⊢
        (first | lia | omega)
    | succ k =>
      have := ih r0 (imin (imin r r0 + 2) (d + cf bc c)) (if (imin (imin r r0 + 2) (d + cf bc c)) < m then (imin (imin r r0 + 2) (d + cf bc c)) else m) (done ++ [c]) (fun k z hk hs => by
          have := hr (k + 1) z (by simpa using hk) (by simpa using hs)
          simp at this ⊢; (first | lia | omega)) (fun hs => by have := h0 (by simpa using hs); simp at this ⊢; (first | lia | omega)) k z (by simpa using hz) (by simpa using hs)
      simp at this ⊢; (first | lia | omega)
theorem scan_first (bc : Nat) : ∀ (cs : List Nat) (rs : List Int) (d r m : Int), rs.length = cs.length → ∀ z : Int, (scan bc cs rs d r m).1[0]? = some z → z ≤ d + 2 := by
  intro cs rs d r m h
  revert d r m
  refine two_ind ?_ ?_ cs rs h
  · intro d r m z hz; rw [scan_nil] at hz; cases hz
  · intro c cs r0 rs h ih d r m z hz
    rw [scan_cons] at hz
    simp at hz
    subst hz
    have h3 := (imin_le (imin r r0 + 2) (d + cf bc c)).2
    have := (cf_range bc c).2
    (first | lia | omega)
theorem dp_sub (x : List Nat) (hx : x ≠ []) (mc : Int) : ∀ (ys P : List Nat) (row : List Int) (res : Int), row.length = x.length → x.Sublist (P ++ ys) → mc = 2 * ((P.length + ys.length : Nat) - (x.length : Int)) →
    (∀ (k : Nat) z, row[k]? = some z → Lo P.length (k + 1) z) → (∀ (k : Nat) z, row[k]? = some z → (x.take (k + 1)).Sublist P → z ≤ 2 * (P.length - (k + 1))) → (ys = [] → res = mc) → dp x mc ys P.length row res = mc := by
  intro ys
  induction ys with
  | nil => intro P row res _ _ _ _ _ hres; unfold dp; exact hres rfl
  | cons bc ys ih =>
    intro P row res hl hs hmc hlow hup hres
    unfold dp
    have hxl : 0 < x.length := List.length_pos_iff.mpr hx
    have lo := scan_low bc P.length x row (2 * P.length) (2 * P.length) big 0 hl (fun k z hk => by have := hlow k z hk; simpa using this) ⟨by (first | lia | omega), by (first | lia | omega)⟩ ⟨by (first | lia | omega), by (first | lia | omega)⟩
    have up := scan_up bc P x row (2 * P.length) (2 * P.length) big [] hl (fun k z hk hs => by have := hup k z hk (by simpa using hs); simpa using this) (fun _ => by simp)
    have len : (scan bc x row (2 * P.length) (2 * P.length) big).1.length = x.length := by rw [scan_len hl.symm, hl]
    have last := scan_last bc x row (2 * P.length) (2 * P.length) big hl
    have mn := (scan_min bc x row (2 * P.length) (2 * P.length) big hl).2
    have first := scan_first bc x row (2 * P.length) (2 * P.length) big hl
    generalize scan bc x row (2 * P.length) (2 * P.length) big = t at lo up len last mn first
    dsimp only
    have hlen : (P ++ [bc]).length = P.length + 1 := by simp
    have hs' : x.Sublist ((P ++ [bc]) ++ ys) := by simpa using hs
    have hok : ¬ t.2.2 > mc := by
      obtain ⟨x1, x2, e, s1, s2⟩ := List.sublist_append_iff.mp hs'
      have l1 := s1.length_le
      have l2 := s2.length_le
      have l3 : x.length = x1.length + x2.length := by rw [e]; simp
      simp at l1 hmc
      cases x1 with
      | nil =>
        have h0 : 0 < t.1.length := by (first | lia | omega)
        have := mn _ (List.getElem_mem h0)
        have := first _ (List.getElem?_eq_getElem h0)
        simp at l3
        (first | lia | omega)
      | cons c x1 =>
        simp at l1 l3
        have h0 : x1.length < t.1.length := by (first | lia | omega)
        have h1 := mn _ (List.getElem_mem h0)
        have h2 := up x1.length _ (List.getElem?_eq_getElem h0) (by
          have : x.take (x1.length + 1) = c :: x1 := by rw [e]; simp
          rw [List.nil_append, this]; exact s1)
        simp at h2
        (first | lia | omega)
    rw [if_neg hok]
    have := ih (P ++ [bc]) t.1 t.2.1 (by rw [len]) hs' (by rw [hmc, hlen]; simp; (first | lia | omega)) (fun k z hk => by
        have := lo k z hk
        rw [hlen]
        exact ⟨by have := this.1; (first | lia | omega), by have := this.2; (first | lia | omega)⟩) (fun k z hk hs => by
        have := up k z hk (by simpa using hs)
        rw [hlen]; simp at this; (first | lia | omega)) (fun hy => by
        subst hy
        have h0 : x.length - 1 < t.1.length := by (first | lia | omega)
        have hlast : t.1.getLast? = some t.1[x.length - 1] := by
          rw [List.getLast?_eq_getElem?, len, List.getElem?_eq_getElem h0]
        rw [last, hlast]
        have h1 := lo _ _ (List.getElem?_eq_getElem h0)
        have h2 := up _ _ (List.getElem?_eq_getElem h0) (by
          have : x.take (x.length - 1 + 1) = x := by rw [Nat.sub_add_cancel hxl]; exact List.take_length
          rw [List.nil_append, this]; simpa using hs')
        simp at h1 h2 hmc ⊢
        have := h1.1
        have := hs'.length_le
        simp at this
        (first | lia | omega))
    rw [hlen] at this
    exact_mod_cast this
theorem spre_sub : ∀ (u v : List Nat), v.Sublist u → (spre u v).2.Sublist (spre u v).1 ∧ u.length + (spre u v).2.length = v.length + (spre u v).1.length := by
  intro u
  induction u with
  | nil => intro v h; unfold spre; exact ⟨h, Nat.add_comm _ _⟩
  | cons x u ih =>
    intro v h
    cases v with
    | nil => unfold spre; exact ⟨h, Nat.add_comm _ _⟩
    | cons y v =>
      unfold spre
      by_cases hxy : (x == y) = true
      · rw [if_pos hxy]
        have e := beq_iff_eq.mp hxy
        subst e
        obtain ⟨h1, h2⟩ := ih v (List.cons_sublist_cons.mp h)
        refine ⟨h1, ?_⟩
        rw [List.length_cons, List.length_cons, Nat.add_right_comm, h2, Nat.add_right_comm]
      · rw [if_neg hxy]
        exact ⟨h, Nat.add_comm _ _⟩
theorem ssuf_sub (u v : List Nat) (h : v.Sublist u) : (ssuf u v).2.Sublist (ssuf u v).1 ∧ u.length + (ssuf u v).2.length = v.length + (ssuf u v).1.length := by
  obtain ⟨h1, h2⟩ := spre_sub u.reverse v.reverse h.reverse
  unfold ssuf
  refine ⟨h1.reverse, ?_⟩
  simp at h2 ⊢
  exact h2
theorem row0_get (n : Nat) (k : Nat) (z : Int) (h : ((List.range n).map fun (i : Nat) => 2 + (i : Int) * 2)[k]? = some z) : z = 2 + (k : Int) * 2 := by
  rw [List.getElem?_map] at h
  obtain ⟨j, hj, rfl⟩ := Option.map_eq_some_iff.mp h
  obtain ⟨_, h2⟩ := List.getElem?_eq_some_iff.mp hj
  rw [List.getElem_range] at h2
  subst h2; rfl
theorem lev_sub (u v : List Nat) (h : v.Sublist u) : levP u v (2 * ((u.length : Int) - v.length)) = 2 * ((u.length : Int) - v.length) := by
  unfold levP
  by_cases he : (u == v) = true
  · rw [if_pos he]
    have := beq_iff_eq.mp he
    subst this
    (first | lia | omega)
  · rw [if_neg he]
    obtain ⟨h1, h2⟩ := spre_sub u v h
    obtain ⟨h3, h4⟩ := ssuf_sub _ _ h1
    dsimp only
    generalize ssuf (spre u v).1 (spre u v).2 = q at h3 h4
    have hlen := h3.length_le
    by_cases hz : (q.1.isEmpty || q.2.isEmpty) = true
    · rw [if_pos hz]
      have : q.2.length = 0 := by
        rcases Bool.or_eq_true_iff.mp hz with hz | hz
        · have : q.1.length = 0 := by rw [List.isEmpty_iff.mp hz]; rfl
          (first | lia | omega)
        · rw [List.isEmpty_iff.mp hz]; rfl
      (first | lia | omega)
    · rw [if_neg hz]
      have hne : q.2 ≠ [] := fun e => hz (by rw [e]; simp)
      have hlt : q.2.length < q.1.length := by
        rcases Nat.lt_or_ge q.2.length q.1.length with hl | hl
        · exact hl
        · have : v.length = u.length := by (first | lia | omega)
          exact absurd (beq_iff_eq.mpr (h.eq_of_length this).symm) he
      rw [if_pos hlt]
      dsimp only
      have hmc : 2 * ((u.length : Int) - v.length) = 2 * ((([] : List Nat).length + q.1.length : Nat) - (q.2.length : Int)) := by simp; (first | lia | omega)
      rw [if_neg (by rw [hmc]; simp; (first | lia | omega))]
      exact dp_sub q.2 hne _ q.1 [] _ 0 (by simp) (by simpa using h3) hmc (fun k z hk => by
          have := row0_get _ _ _ hk
          subst this
          simp only [List.length_nil]
          exact ⟨by (first | lia | omega), by (first | lia | omega)⟩) (fun k z hk hs => by
          have h5 := hs.length_le
          have : q.2.take (k + 1) = [] := List.eq_nil_of_length_eq_zero (by simpa using h5)
          rw [List.take_eq_nil_iff] at this
          rcases this with h | h
          · (first | lia | omega)
          · exact absurd h hne) (fun hy => by rw [hy] at hlt; simp at hlt)
theorem lev_nil (v : List Nat) (mc : Int) : levP [] v mc = 2 * v.length := by
  unfold levP
  cases v with
  | nil => rfl
  | cons c v =>
    rw [if_neg (by simp)]
    have e1 : spre [] (c :: v) = ([], c :: v) := by unfold spre; rfl
    have e2 : ssuf [] (c :: v) = ([], c :: v) := by
      unfold ssuf
      have : spre ([] : List Nat).reverse (c :: v).reverse = ([], (c :: v).reverse) := by rw [List.reverse_nil]; unfold spre; rfl
      rw [this]; simp
    rw [e1]
    dsimp only
    rw [e2]
    simp
end Mine
end

noncomputable section
open PySem PySem.Calls PyProof.Rows PySem.W PySem.Flt PySem.SeqAt
set_option Elab.async false
set_option linter.unusedVariables false
namespace Mine
/-! a begun short word is short -/
theorem range2_snoc (m : Nat) : range2L 1 ((m + 1 + 1 : Nat) : Int) = range2L 1 ((m + 1 : Nat) : Int) ++ [((m + 1 : Nat) : Int)] := by
  unfold range2L
  have e1 : (((m + 1 + 1 : Nat) : Int) - 1).toNat = m + 1 := by (first | lia | omega)
  have e2 : (((m + 1 : Nat) : Int) - 1).toNat = m := by (first | lia | omega)
  rw [e1, e2, List.range_succ, List.map_append]
  simp
  (first | lia | omega)
theorem mem_range2 {m : Nat} {i : Int} (h : i ∈ range2L 1 ((m + 1 : Nat) : Int)) : 1 ≤ i ∧ i ≤ m := by
  unfold range2L at h
  obtain ⟨j, hj, e⟩ := List.mem_map.mp h
  have := List.mem_range.mp hj
  (first | lia | omega)
theorem getD_snoc {α : Type} (l t : List α) (d : α) (i : Nat) (h : i < l.length) : (l ++ t).getD i d = l.getD i d := by
  rw [List.getD_eq_getElem?_getD, List.getD_eq_getElem?_getD, List.getElem?_append_left h]
theorem steps_snoc (u : List Nat) (c : Nat) : ∃ t, stepsP (u ++ [c]) = stepsP u ++ t ∧ t.length ≤ 1 := by
  cases hu : u.length with
  | zero =>
    have : u = [] := List.eq_nil_of_length_eq_zero hu
    subst this
    exact ⟨[], rfl, by simp⟩
  | succ m =>
    refine ⟨[(col ((u ++ [c]).getD (m + 1) 0) - col ((u ++ [c]).getD m 0)).fmod 3], ?_, by simp⟩
    unfold stepsP
    have e1 : (u ++ [c]).length = m + 1 + 1 := by simp [hu]
    rw [e1, hu, range2_snoc, List.map_append]
    congr 1
    · refine List.map_congr_left fun i hi => ?_
      have := mem_range2 hi
      rw [getD_snoc u [c] 0 i.toNat (by (first | lia | omega)), getD_snoc u [c] 0 (i - 1).toNat (by (first | lia | omega))]
    · simp
theorem bends_snoc (st : List Int) (s : Int) : ∃ t, bendsP (st ++ [s]) = bendsP st ++ t := by
  cases hu : st.length with
  | zero =>
    have : st = [] := List.eq_nil_of_length_eq_zero hu
    subst this
    exact ⟨[], rfl⟩
  | succ m =>
    unfold bendsP
    have e1 : (st ++ [s]).length = m + 1 + 1 := by simp [hu]
    rw [e1, hu, range2_snoc, List.filter_append, List.map_append]
    have e3 : (range2L 1 ((m + 1 : Nat) : Int)).filter (bendT (st ++ [s])) = (range2L 1 ((m + 1 : Nat) : Int)).filter (bendT st) := List.filter_congr fun i hi => by
      have := mem_range2 hi
      unfold bendT
      rw [getD_snoc st [s] 0 i.toNat (by (first | lia | omega)), getD_snoc st [s] 0 (i - 1).toNat (by (first | lia | omega))]
    rw [e3]
    exact ⟨_, rfl⟩
theorem short_prefix (u : List Nat) (c : Nat) (h : shortP u = false) : shortP (u ++ [c]) = false := by
  obtain ⟨t, e, hl⟩ := steps_snoc u c
  have key : ∃ t2, bendsP (stepsP (u ++ [c])) = bendsP (stepsP u) ++ t2 := by
    rw [e]
    match t, hl with
    | [], _ => exact ⟨[], by simp⟩
    | [s], _ => exact bends_snoc _ s
  obtain ⟨t2, e2⟩ := key
  unfold shortP at h ⊢
  rw [e2, e, List.any_append, List.any_append, List.any_append]
  generalize (stepsP u).any (· == 0) = a at *
  generalize (bendsP (stepsP u)).any (· == 0) = b at *
  generalize (bendsP (stepsP u)).any (· == 1) = d at *
  generalize t.any (· == 0) = a2
  generalize t2.any (· == 0) = b2
  generalize t2.any (· == 1) = d2
  revert h
  cases a <;> cases b <;> cases d <;> cases a2 <;> cases b2 <;> cases d2 <;> decide
end Mine
end

noncomputable section
open PySem PySem.Calls PyProof.Rows PySem.W PySem.Flt PySem.SeqAt
set_option Elab.async false
set_option linter.unusedVariables false
set_option maxRecDepth 100000
namespace Mine
/-! the parts as forms upon the first three numbers -/
noncomputable abbrev L3 := Int × Int × Int
noncomputable abbrev F3 := L3 × L3 × L3
noncomputable def ngL (f : L3) : L3 := (-f.1, -f.2.1, -f.2.2)
noncomputable def adL (f g : L3) : L3 := (f.1 + g.1, f.2.1 + g.2.1, f.2.2 + g.2.2)
noncomputable def mnL (f : L3) : Int := imin (imin f.1 f.2.1) f.2.2
noncomputable def formOk (f : L3) : Bool := (-5 ≤ mnL f && mnL f ≤ 4) && [(1, 0, 0), (0, 1, 0), (0, 0, 1), (1, 1, 0), (1, 0, 1), (0, 1, 1)].contains (f.1 - mnL f, f.2.1 - mnL f, f.2.2 - mnL f)
noncomputable def formsOk (F : F3) : Bool := formOk F.1 && formOk F.2.1 && formOk F.2.2 && adL (adL F.1 F.2.1) F.2.2 == (1, 1, 1)
noncomputable def atF (F : F3) (c : Nat) : L3 := if c = 114 then F.1 else if c = 103 then F.2.1 else F.2.2
noncomputable def tnF (F : F3) (c : Nat) : F3 := if c = 114 then (ngL F.1, adL F.2.1 F.1, adL F.2.2 F.1) else if c = 103 then (adL F.1 F.2.1, ngL F.2.1, adL F.2.2 F.2.1) else (adL F.1 F.2.2, adL F.2.1 F.2.2, ngL F.2.2)
noncomputable def idF : F3 := ((1, 0, 0), (0, 1, 0), (0, 0, 1))
noncomputable def wF (v : List Nat) : F3 := v.foldl tnF idF
noncomputable def cnF (F : F3) : Int := iabs (mnL F.1) + iabs (mnL F.2.1) + iabs (mnL F.2.2)
noncomputable def strike : List Nat → F3 → List Nat × F3 × Bool
  | [], p => ([], p, true)
  | c :: r, p => if mnL (atF p c) < 0 then (c :: (strike r (tnF p c)).1, (strike r (tnF p c)).2.1, formsOk p && (strike r (tnF p c)).2.2)
    else (32 :: (strike r p).1, (strike r p).2.1, formsOk p && (strike r p).2.2)
noncomputable def hdA (L : List Nat) : List Nat := L.takeWhile (· != 32)
noncomputable def tlB (L : List Nat) : List Nat := (L.dropWhile (· != 32)).drop 1
noncomputable def nextW (v : List Nat) (c : Nat) : List Nat := if 0 ≤ mnL (atF (wF v) c) then v ++ [c] else (hdA (strike v.reverse (tnF (wF v) c)).1 ++ tlB (strike v.reverse (tnF (wF v) c)).1).reverse
noncomputable def newOkB (v0 R v : List Nat) (c : Nat) : Bool := (levP (R ++ [upc c]) v0 2, levP v0 (R ++ [upc c]) 4, levP v0 (v ++ [c]) 9) == if ([c] == v0.drop (v0.length - 1)) = true then (3, 3, 0) else (3, 4, 4)
noncomputable def chkBack (v : List Nat) (c : Nat) (t : List Nat × F3 × Bool) (A B : List Nat) : Bool :=
  t.1 == A ++ 32 :: B && t.2.1 == idF && t.2.2 && ((A ++ B).reverse).isSublist v && ((A ++ 32 :: B).reverse).all signs.contains &&
  Txt.find (S (A ++ 32 :: B).reverse) (S [32]) == B.length && Txt.count (S (A ++ 32 :: B).reverse) (S [32]) == 1 && !shortP (v ++ [c]) && newOkB v (A ++ 32 :: B).reverse (A ++ B).reverse c
noncomputable def chk (v : List Nat) (c : Nat) : Bool :=
  formsOk (wF v) && formsOk (tnF (wF v) c) && wF (nextW v c) == tnF (wF v) c && cnF (tnF (wF v) c) == (nextW v c).length && shortP (nextW v c) &&
  if 0 ≤ mnL (atF (wF v) c) then true else chkBack v c (strike v.reverse (tnF (wF v) c)) (hdA (strike v.reverse (tnF (wF v) c)).1) (tlB (strike v.reverse (tnF (wF v) c)).1)
noncomputable def reach : Nat → List (List Nat)
  | 0 => [[]]
  | i + 1 => (reach i ++ (reach i).flatMap fun v => rgbL.map (nextW v)).eraseDups
/-! the kept words of at most seven turns, as a table -/
noncomputable def kept1 : List (List Nat) := [[],[114],[103],[98],[114,103],[114,98],[103,114],[103,98],[98,114],[98,103],[114,103,114],[114,103,98],[114,98,114],[114,98,103],[103,114,103],[103,114,98],[103,98,114],[103,98,103],[98,114,103],[98,114,98],[98,103,114],[98,103,98],[114,103,114,98],[114,103,98,114],[114,103,98,103],[114,98,114,103]]
noncomputable def kept2 : List (List Nat) := [[114,98,103,114],[114,98,103,98],[103,114,103,98],[103,114,98,114],[103,114,98,103],[103,98,114,103],[103,98,114,98],[103,98,103,114],[98,114,103,114],[98,114,103,98],[98,114,98,103],[98,103,114,103],[98,103,114,98],[98,103,98,114],[114,103,114,98,114],[114,103,114,98,103],[114,103,98,114,103],[114,103,98,114,98],[114,103,98,103,114],[114,98,114,103,114],[114,98,114,103,98],[114,98,103,114,103],[114,98,103,114,98],[114,98,103,98,114],[103,114,103,98,114],[103,114,103,98,103]]
noncomputable def kept3 : List (List Nat) := [[103,114,98,114,103],[103,114,98,103,114],[103,114,98,103,98],[103,98,114,103,114],[103,98,114,103,98],[103,98,114,98,103],[103,98,103,114,103],[103,98,103,114,98],[98,114,103,114,98],[98,114,103,98,114],[98,114,103,98,103],[98,114,98,103,114],[98,114,98,103,98],[98,103,114,103,98],[98,103,114,98,114],[98,103,114,98,103],[98,103,98,114,103],[98,103,98,114,98],[114,103,114,98,114,103],[114,103,114,98,103,114],[114,103,98,114,103,114],[114,103,98,114,103,98],[114,103,98,114,98,103],[114,103,98,103,114,103],[114,103,98,103,114,98],[114,98,114,103,114,98]]
noncomputable def kept4 : List (List Nat) := [[114,98,114,103,98,114],[114,98,103,114,103,98],[114,98,103,114,98,114],[114,98,103,114,98,103],[114,98,103,98,114,103],[114,98,103,98,114,98],[103,114,103,98,114,103],[103,114,103,98,103,114],[103,114,98,114,103,114],[103,114,98,114,103,98],[103,114,98,103,114,103],[103,114,98,103,114,98],[103,114,98,103,98,114],[103,98,114,103,114,98],[103,98,114,103,98,114],[103,98,114,103,98,103],[103,98,114,98,103,114],[103,98,114,98,103,98],[103,98,103,114,103,98],[103,98,103,114,98,103],[98,114,103,114,98,114],[98,114,103,114,98,103],[98,114,103,98,114,103],[98,114,103,98,114,98],[98,114,103,98,103,114],[98,114,98,103,114,98]]
noncomputable def kept5 : List (List Nat) := [[98,114,98,103,98,114],[98,103,114,103,98,114],[98,103,114,103,98,103],[98,103,114,98,114,103],[98,103,114,98,103,114],[98,103,114,98,103,98],[98,103,98,114,103,98],[98,103,98,114,98,103],[114,103,114,98,114,103,114],[114,103,114,98,114,103,98],[114,103,114,98,103,114,103],[114,103,114,98,103,114,98],[114,103,98,114,103,114,98],[114,103,98,114,103,98,114],[114,103,98,114,103,98,103],[114,103,98,114,98,103,114],[114,103,98,114,98,103,98],[114,103,98,103,114,103,98],[114,103,98,103,114,98,103],[114,98,114,103,114,98,114],[114,98,114,103,114,98,103],[114,98,114,103,98,114,103],[114,98,114,103,98,114,98],[114,98,103,114,103,98,114],[114,98,103,114,103,98,103],[114,98,103,114,98,114,103]]
noncomputable def kept6 : List (List Nat) := [[114,98,103,114,98,103,114],[114,98,103,114,98,103,98],[114,98,103,98,114,103,98],[114,98,103,98,114,98,103],[103,114,103,98,114,103,114],[103,114,103,98,114,103,98],[103,114,103,98,103,114,103],[103,114,103,98,103,114,98],[103,114,98,114,103,114,98],[103,114,98,114,103,98,114],[103,114,98,103,114,103,98],[103,114,98,103,114,98,114],[103,114,98,103,114,98,103],[103,114,98,103,98,114,103],[103,114,98,103,98,114,98],[103,98,114,103,114,98,114],[103,98,114,103,114,98,103],[103,98,114,103,98,114,103],[103,98,114,103,98,114,98],[103,98,114,103,98,103,114],[103,98,114,98,103,114,98],[103,98,114,98,103,98,114],[103,98,103,114,103,98,114],[103,98,103,114,103,98,103],[103,98,103,114,98,103,114],[103,98,103,114,98,103,98]]
noncomputable def kept7 : List (List Nat) := [[98,114,103,114,98,114,103],[98,114,103,114,98,103,114],[98,114,103,98,114,103,114],[98,114,103,98,114,103,98],[98,114,103,98,114,98,103],[98,114,103,98,103,114,103],[98,114,103,98,103,114,98],[98,114,98,103,114,98,114],[98,114,98,103,114,98,103],[98,114,98,103,98,114,103],[98,114,98,103,98,114,98],[98,103,114,103,98,114,103],[98,103,114,103,98,103,114],[98,103,114,98,114,103,114],[98,103,114,98,114,103,98],[98,103,114,98,103,114,103],[98,103,114,98,103,114,98],[98,103,114,98,103,98,114],[98,103,98,114,103,98,114],[98,103,98,114,103,98,103],[98,103,98,114,98,103,114],[98,103,98,114,98,103,98]]
theorem reach_7 : reach 7 = kept1 ++ (kept2 ++ (kept3 ++ (kept4 ++ (kept5 ++ (kept6 ++ (kept7)))))) := by kernel_rfl
theorem chk_1 : (kept1.all fun v => rgbL.all (chk v)) = true := by decide +kernel
theorem chk_2 : (kept2.all fun v => rgbL.all (chk v)) = true := by decide +kernel
theorem chk_3 : (kept3.all fun v => rgbL.all (chk v)) = true := by decide +kernel
theorem chk_4 : (kept4.all fun v => rgbL.all (chk v)) = true := by decide +kernel
theorem chk_5 : (kept5.all fun v => rgbL.all (chk v)) = true := by decide +kernel
theorem chk_6 : (kept6.all fun v => rgbL.all (chk v)) = true := by decide +kernel
theorem chk_7 : (kept7.all fun v => rgbL.all (chk v)) = true := by decide +kernel
theorem chk_all : ((reach 7).all fun v => rgbL.all (chk v)) = true := by
  rw [reach_7, List.all_append, List.all_append, List.all_append, List.all_append, List.all_append, List.all_append, chk_1, chk_2, chk_3, chk_4, chk_5, chk_6, chk_7]
  rfl
end Mine
end

noncomputable section
open PySem PySem.Calls PyProof.Rows PySem.W PySem.Flt PySem.SeqAt
set_option Elab.async false
set_option linter.unusedVariables false
set_option maxRecDepth 100000
namespace Mine
/-- what is asked of the colours -/
noncomputable def TurnLaw : Prop := ∀ (p : P3) (k W : Int), 60 ≤ W → W ≤ 1000 → p.a + p.b + p.c = W → p.a.natAbs ≤ 6000 → p.b.natAbs ≤ 6000 → p.c.natAbs ≤ 6000 → 0 ≤ k → k < 3 → TurnOk (ti p k W)
noncomputable def evL (f : L3) (r g b : Int) : Int := f.1 * r + f.2.1 * g + f.2.2 * b
noncomputable def evF (F : F3) (r g b : Int) : P3 := ⟨evL F.1 r g b, evL F.2.1 r g b, evL F.2.2 r g b⟩
theorem ev_ng (f : L3) (r g b : Int) : evL (ngL f) r g b = - evL f r g b := by
  unfold evL ngL; simp only [Int.neg_mul]; (first | lia | omega)
theorem ev_ad (f h : L3) (r g b : Int) : evL (adL f h) r g b = evL f r g b + evL h r g b := by
  unfold evL adL; simp only [Int.add_mul]; (first | lia | omega)
theorem rgb_cases {c : Nat} (hc : c ∈ rgbL) : c = 114 ∨ c = 103 ∨ c = 98 := by simpa [rgbL] using hc
theorem ev_turn (F : F3) {c : Nat} (hc : c ∈ rgbL) (r g b W : Int) : tn (evF F r g b) (col c) W = evF (tnF F c) r g b := by
  rcases rgb_cases hc with rfl | rfl | rfl
  · show P3.mk _ _ _ = P3.mk _ _ _
    congr 1
    · show 0 - evL F.1 r g b = evL (ngL F.1) r g b; rw [ev_ng]; (first | lia | omega)
    · exact (ev_ad _ _ _ _ _).symm
    · exact (ev_ad _ _ _ _ _).symm
  · show P3.mk _ _ _ = P3.mk _ _ _
    congr 1
    · exact (ev_ad _ _ _ _ _).symm
    · show 0 - evL F.2.1 r g b = evL (ngL F.2.1) r g b; rw [ev_ng]; (first | lia | omega)
    · exact (ev_ad _ _ _ _ _).symm
  · show P3.mk _ _ _ = P3.mk _ _ _
    congr 1
    · exact (ev_ad _ _ _ _ _).symm
    · exact (ev_ad _ _ _ _ _).symm
    · show 0 - evL F.2.2 r g b = evL (ngL F.2.2) r g b; rw [ev_ng]; (first | lia | omega)
theorem ev_at (F : F3) {c : Nat} (hc : c ∈ rgbL) (r g b : Int) : (evF F r g b).at (col c) = evL (atF F c) r g b := by
  rcases rgb_cases hc with rfl | rfl | rfl <;> rfl
theorem form_val {f : L3} (h : formOk f = true) {r g b : Int} (hr : 1 ≤ r) (hg : 1 ≤ g) (hb : 1 ≤ b) : ∃ s, evL f r g b = mnL f * (r + g + b) + s ∧ 0 < s ∧ s < r + g + b ∧ -5 ≤ mnL f ∧ mnL f ≤ 4 := by
  unfold formOk at h
  obtain ⟨h1, h2⟩ := Bool.and_eq_true_iff.mp h
  obtain ⟨h3, h4⟩ := Bool.and_eq_true_iff.mp h1
  generalize mnL f = m at *
  obtain ⟨x, y, z⟩ := f
  have h3 : -5 ≤ m := by simpa using h3
  have h4 : m ≤ 4 := by simpa using h4
  simp only [List.contains_iff_mem, List.mem_cons, Prod.mk.injEq, List.not_mem_nil, or_false] at h2
  have key : ∀ p q t : Int, x - m = p → y - m = q → z - m = t → evL (x, y, z) r g b = m * (r + g + b) + (p * r + q * g + t * b) := fun p q t e1 e2 e3 => by
    unfold evL
    have e1 : x = m + p := by (first | lia | omega)
    have e2 : y = m + q := by (first | lia | omega)
    have e3 : z = m + t := by (first | lia | omega)
    subst e1; subst e2; subst e3
    simp only [Int.add_mul, Int.mul_add]
    (first | lia | omega)
  rcases h2 with ⟨e1, e2, e3⟩ | ⟨e1, e2, e3⟩ | ⟨e1, e2, e3⟩ | ⟨e1, e2, e3⟩ | ⟨e1, e2, e3⟩ | ⟨e1, e2, e3⟩ <;> exact ⟨_, key _ _ _ e1 e2 e3, by (first | lia | omega), by (first | lia | omega), h3, h4⟩
theorem fdiv_val {m W s : Int} (h0 : 0 < s) (h1 : s < W) : (m * W + s).fdiv W = m := by
  rw [Int.fdiv_eq_ediv_of_nonneg _ (by (first | lia | omega)), Int.add_comm, Int.add_mul_ediv_right _ _ (by (first | lia | omega)), Int.ediv_eq_zero_of_lt (by (first | lia | omega)) h1, Int.zero_add]
theorem mul_bound {m W : Int} (h0 : 60 ≤ W) (h1 : W ≤ 1000) (h2 : -5 ≤ m) (h3 : m ≤ 4) : -5000 ≤ m * W ∧ m * W ≤ 4000 := by
  have : m = -5 ∨ m = -4 ∨ m = -3 ∨ m = -2 ∨ m = -1 ∨ m = 0 ∨ m = 1 ∨ m = 2 ∨ m = 3 ∨ m = 4 := by (first | lia | omega)
  rcases this with rfl | rfl | rfl | rfl | rfl | rfl | rfl | rfl | rfl | rfl <;> (first | lia | omega)
theorem neg_mul_W {m W : Int} (h0 : 60 ≤ W) (h2 : -5 ≤ m) (h3 : m < 0) : m * W ≤ -W := by
  have : m = -5 ∨ m = -4 ∨ m = -3 ∨ m = -2 ∨ m = -1 := by (first | lia | omega)
  rcases this with rfl | rfl | rfl | rfl | rfl <;> (first | lia | omega)
theorem form_at {F : F3} (h : formsOk F = true) (c : Nat) : formOk (atF F c) = true := by
  unfold formsOk at h
  simp only [Bool.and_eq_true, beq_iff_eq] at h
  unfold atF
  split
  · exact h.1.1.1
  · split
    · exact h.1.1.2
    · exact h.1.2
section
variable {r g b W : Int} (hr : 1 ≤ r) (hg : 1 ≤ g) (hb : 1 ≤ b) (hW : r + g + b = W) (W0 : 60 ≤ W) (W1 : W ≤ 1000)
include hr hg hb hW W0 W1
theorem form_sign {f : L3} (h : formOk f = true) : (0 ≤ mnL f → 0 < evL f r g b) ∧ (mnL f < 0 → evL f r g b < 0) ∧ (evL f r g b).natAbs ≤ 6000 ∧ (evL f r g b).fdiv W = mnL f := by
  obtain ⟨s, e, s0, s1, m0, m1⟩ := form_val h hr hg hb
  rw [e, hW] at *
  have := mul_bound W0 W1 m0 m1
  refine ⟨fun h => ?_, fun h => ?_, by (first | lia | omega), fdiv_val s0 s1⟩
  · have := Int.mul_nonneg h (show 0 ≤ W by (first | lia | omega)); (first | lia | omega)
  · have := neg_mul_W W0 m0 h; (first | lia | omega)
theorem forms_turn (TL : TurnLaw) {F : F3} (h : formsOk F = true) {c : Nat} (hc : c ∈ rgbL) : TurnOk (ti (evF F r g b) (col c) W) := by
  unfold formsOk at h
  simp only [Bool.and_eq_true, beq_iff_eq] at h
  obtain ⟨⟨⟨h1, h2⟩, h3⟩, h4⟩ := h
  have hcol := col_range hc
  refine TL _ _ _ W0 W1 ?_ (form_sign hr hg hb hW W0 W1 h1).2.2.1 (form_sign hr hg hb hW W0 W1 h2).2.2.1 (form_sign hr hg hb hW W0 W1 h3).2.2.1 hcol.1 hcol.2
  show evL F.1 r g b + evL F.2.1 r g b + evL F.2.2 r g b = W
  rw [← ev_ad, ← ev_ad, h4]
  show (1 : Int) * r + 1 * g + 1 * b = W
  (first | lia | omega)
theorem strike_ok (TL : TurnLaw) : ∀ (l : List Nat) (p : F3), (∀ c ∈ l, c ∈ rgbL) → (strike l p).2.2 = true → Struck W l (evF p r g b) (strike l p).1 (evF (strike l p).2.1 r g b)
  | [], p, _, _ => .nil
  | c :: l, p, hl, hok => by
    have hc := hl c (.head _)
    unfold strike at hok ⊢
    by_cases hm : mnL (atF p c) < 0
    · rw [if_pos hm] at hok ⊢
      obtain ⟨h1, h2⟩ := Bool.and_eq_true_iff.mp hok
      have hneg := (form_sign hr hg hb hW W0 W1 (form_at h1 c)).2.1 hm
      have := strike_ok TL l (tnF p c) (fun x hx => hl x (.tail _ hx)) h2
      rw [← ev_turn p hc r g b W] at this
      exact .turn hc (by rw [ev_at p hc]; exact hneg) (forms_turn hr hg hb hW W0 W1 TL h1 hc) this
    · rw [if_neg hm] at hok ⊢
      obtain ⟨h1, h2⟩ := Bool.and_eq_true_iff.mp hok
      have hpos := (form_sign hr hg hb hW W0 W1 (form_at h1 c)).1 (by (first | lia | omega))
      exact .blank hc (by rw [ev_at p hc]; (first | lia | omega)) (strike_ok TL l p (fun x hx => hl x (.tail _ hx)) h2)
theorem cnt_val {F : F3} (h : formsOk F = true) : cnt W (evF F r g b) = cnF F := by
  unfold formsOk at h
  simp only [Bool.and_eq_true, beq_iff_eq] at h
  obtain ⟨⟨⟨h1, h2⟩, h3⟩, _⟩ := h
  show iabs ((evL F.1 r g b).fdiv W) + (iabs ((evL F.2.1 r g b).fdiv W) + (iabs ((evL F.2.2 r g b).fdiv W) + 0)) = _
  rw [(form_sign hr hg hb hW W0 W1 h1).2.2.2, (form_sign hr hg hb hW W0 W1 h2).2.2.2, (form_sign hr hg hb hW W0 W1 h3).2.2.2]
  unfold cnF; (first | lia | omega)
theorem step_ok (TL : TurnLaw) {u v : List Nat} {c : Nat} (hc : c ∈ rgbL) (hchk : chk v c = true) (hsub : v.Sublist u) (hu : ∀ x ∈ u, x ∈ rgbL) (hul : u.length ≤ 7) (hiff : (v == u) = shortP u) :
    LStep W (evF idF r g b) u c (evF (wF v) r g b) v (evF (wF (nextW v c)) r g b) (nextW v c) ∧ (nextW v c).Sublist (u ++ [c]) ∧ ((nextW v c) == u ++ [c]) = shortP (u ++ [c]) := by
  unfold chk at hchk
  obtain ⟨hchk, hback⟩ := Bool.and_eq_true_iff.mp hchk
  obtain ⟨hchk, hshort⟩ := Bool.and_eq_true_iff.mp hchk
  obtain ⟨hchk, hcnt⟩ := Bool.and_eq_true_iff.mp hchk
  obtain ⟨hchk, hnext⟩ := Bool.and_eq_true_iff.mp hchk
  obtain ⟨hf, hq⟩ := Bool.and_eq_true_iff.mp hchk
  have hnext := beq_iff_eq.mp hnext
  have hcnt := beq_iff_eq.mp hcnt
  have hvl := hsub.length_le
  have hv : ∀ x ∈ v, x ∈ rgbL := fun x hx => hu x (hsub.subset hx)
  have huc : ∀ x ∈ u ++ [c], x ∈ rgbL := fun x hx => by
    rcases List.mem_append.mp hx with hx | hx
    · exact hu x hx
    · rcases List.mem_cons.mp hx with rfl | hx
      · exact hc
      · cases hx
  have hturn := ev_turn (wF v) hc r g b W
  have hsign := form_sign hr hg hb hW W0 W1 (form_at hf c)
  have hat := ev_at (wF v) hc r g b
  have hTok := forms_turn hr hg hb hW W0 W1 TL hf hc
  have hcw := cnt_val hr hg hb hW W0 W1 hq
  rw [hnext, ← hturn]
  rw [← hturn] at hcw
  have told : ∀ R : List Nat, (nextW v c).Sublist (u ++ [c]) → ((nextW v c) == u ++ [c]) = shortP (u ++ [c]) → R.length ≤ 20 → (∀ x ∈ R, x ∈ signs) → (R = [] ∨ newOk v R (nextW v c) c) → ToldOk u c v R (nextW v c) (cnt W (tn (evF (wF v) r g b) (col c) W)) := fun R hs hi hRl hRs hnew => by
    have := hs.length_le
    simp at this
    exact ⟨hcw.trans hcnt, by (first | lia | omega), by (first | lia | omega), by (first | lia | omega), hRl, huc, fun x hx => huc x (hs.subset hx), hv, hRs, lev_sub _ _ hs, lev_nil _ _, hshort, by rw [hi]; simp, hnew⟩
  by_cases hm : 0 ≤ mnL (atF (wF v) c)
  · have hn : nextW v c = v ++ [c] := by unfold nextW; rw [if_pos hm]
    have hs : (nextW v c).Sublist (u ++ [c]) := by rw [hn]; exact hsub.append (List.Sublist.refl _)
    have hi : ((nextW v c) == u ++ [c]) = shortP (u ++ [c]) := by
      have e1 : ((nextW v c) == u ++ [c]) = (v == u) := by
        rw [hn]
        by_cases h : v = u
        · subst h; simp
        · rw [beq_eq_false_iff_ne.mpr h, beq_eq_false_iff_ne.mpr (fun e => h (List.append_cancel_right e))]
      rw [e1, hiff]
      cases hsu : shortP u with
      | false => exact (short_prefix u c hsu).symm
      | true =>
        rw [hsu] at hiff
        have := beq_iff_eq.mp hiff
        subst this
        rw [← hn]; exact hshort.symm
    refine ⟨?_, hs, hi⟩
    have T := told [] hs hi (by decide) (fun x hx => nomatch hx) (.inl rfl)
    rw [hn] at T ⊢
    exact .out (by rw [hat]; exact hsign.1 hm) hTok T
  · rw [if_neg hm] at hback
    have hn : nextW v c = (hdA (strike v.reverse (tnF (wF v) c)).1 ++ tlB (strike v.reverse (tnF (wF v) c)).1).reverse := by unfold nextW; rw [if_neg hm]
    have hst := strike_ok hr hg hb hW W0 W1 TL v.reverse (tnF (wF v) c) (fun x hx => hv x (List.mem_reverse.mp hx))
    generalize hA : hdA (strike v.reverse (tnF (wF v) c)).1 = A at hback hn
    generalize hB : tlB (strike v.reverse (tnF (wF v) c)).1 = B at hback hn
    unfold chkBack at hback
    simp only [Bool.and_eq_true, beq_iff_eq, Bool.not_eq_true'] at hback
    obtain ⟨⟨⟨⟨⟨⟨⟨⟨b1, b2⟩, b3⟩, b4⟩, b5⟩, b6⟩, b7⟩, b8⟩, b9⟩ := hback
    have hst := hst b3
    rw [b1, b2, ← hturn] at hst
    have hs0 : ((A ++ B).reverse).Sublist v := List.isSublist_iff_sublist.mp b4
    have hs : (nextW v c).Sublist (u ++ [c]) := by rw [hn]; exact hs0.trans (hsub.trans (List.sublist_append_left _ _))
    have hi : ((nextW v c) == u ++ [c]) = shortP (u ++ [c]) := by
      have hlt : (nextW v c).length < (u ++ [c]).length := by
        rw [hn]; have := hs0.length_le; simp at this ⊢; (first | lia | omega)
      have hne : nextW v c ≠ u ++ [c] := fun e => by rw [e] at hlt; (first | lia | omega)
      rw [beq_eq_false_iff_ne.mpr hne]
      cases hsu : shortP u with
      | false => exact (short_prefix u c hsu).symm
      | true =>
        rw [hsu] at hiff
        have := beq_iff_eq.mp hiff
        subst this
        exact b8.symm
    refine ⟨?_, hs, hi⟩
    have hlen : (A ++ 32 :: B).reverse.length ≤ 20 := by
      have := hst.len
      simp at this ⊢; (first | lia | omega)
    have T := told (A ++ 32 :: B).reverse hs hi hlen (fun x hx => by
      have := List.all_eq_true.mp b5 x hx
      simpa using this) (.inr (by
      rw [hn]
      unfold newOk
      unfold newOkB at b9
      exact beq_iff_eq.mp b9))
    rw [hn] at T ⊢
    have hneg := hsign.2.1 (by (first | lia | omega))
    exact .back (by rw [hat]; (first | lia | omega)) hTok hst b6 b7 T
end
/-- the kept words, and what they lead to -/
noncomputable def keptW (N : List Nat) (i : Nat) : List Nat := (N.take i).foldl nextW []
theorem keptW_succ {N : List Nat} {i : Nat} (hi : i < N.length) : keptW N (i + 1) = nextW (keptW N i) N[i] := by
  unfold keptW
  rw [List.take_add_one, List.getElem?_eq_getElem hi, List.foldl_append]
  rfl
theorem reach_mono {i j : Nat} (h : i ≤ j) {v : List Nat} (hv : v ∈ reach i) : v ∈ reach j := by
  induction h with
  | refl => exact hv
  | step _ ih => unfold reach; exact List.mem_eraseDups.mpr (List.mem_append_left _ ih)
theorem keptW_reach {N : List Nat} (hN : ∀ x ∈ N, x ∈ rgbL) : ∀ i, i ≤ N.length → keptW N i ∈ reach i
  | 0, _ => by unfold keptW reach; simp
  | i + 1, h => by
    rw [keptW_succ (by (first | lia | omega))]
    unfold reach
    exact List.mem_eraseDups.mpr (List.mem_append_right _ (List.mem_flatMap.mpr ⟨_, keptW_reach hN i (by (first | lia | omega)), List.mem_map.mpr ⟨_, hN _ (List.getElem_mem _), rfl⟩⟩))
theorem law_run (TL : TurnLaw) {r g b W : Int} (hr : 1 ≤ r) (hg : 1 ≤ g) (hb : 1 ≤ b) (hW : r + g + b = W) (W0 : 60 ≤ W) (W1 : W ≤ 1000) {N : List Nat} (h8 : N.length = 8) (hN : ∀ x ∈ N, x ∈ rgbL) :
    LawRun W ⟨r, g, b⟩ N (fun i => (evF (wF (keptW N i)) r g b, keptW N i)) := by
  have hid : evF idF r g b = ⟨r, g, b⟩ := by simp [evF, evL, idF]
  have main : ∀ i, i ≤ 8 → (keptW N i).Sublist (N.take i) ∧ ((keptW N i) == N.take i) = shortP (N.take i) := fun i => by
    induction i with
    | zero => intro _; refine ⟨by unfold keptW; simp, ?_⟩; unfold keptW; simp; decide +kernel
    | succ i ih =>
      intro hi
      obtain ⟨s1, s2⟩ := ih (by omega)
      have hlt : i < N.length := by omega
      have hchk := List.all_eq_true.mp (List.all_eq_true.mp chk_all _ (reach_mono (show i ≤ 7 by omega) (keptW_reach hN i (by omega)))) N[i] (hN _ (List.getElem_mem _))
      have := step_ok hr hg hb hW W0 W1 TL (hN _ (List.getElem_mem hlt)) hchk s1 (fun x hx => hN x (List.mem_of_mem_take hx)) (by rw [List.length_take]; omega) s2
      rw [keptW_succ hlt, List.take_add_one, List.getElem?_eq_getElem hlt]
      exact this.2
  refine ⟨W0, W1, h8, ?_, TL _ _ _ W0 W1 (by simp) (by simp; omega) (by simp) (by simp) (by decide) (by decide), TL _ _ _ W0 W1 (by simp) (by simp; omega) (by simp) (by simp) (by decide) (by decide), fun i hi => ?_⟩
  · show (evF idF r g b, keptW N 0) = _
    rw [hid]; rfl
  · obtain ⟨s1, s2⟩ := main i (by omega)
    have hchk := List.all_eq_true.mp (List.all_eq_true.mp chk_all _ (reach_mono (show i ≤ 7 by omega) (keptW_reach hN i (by omega)))) N[i] (hN _ (List.getElem_mem _))
    have := step_ok hr hg hb hW W0 W1 TL (hN _ (List.getElem_mem hi)) hchk s1 (fun x hx => hN x (List.mem_of_mem_take hx)) (by rw [List.length_take]; omega) s2
    rw [hid] at this
    dsimp only
    rw [keptW_succ hi]
    exact this.1
end Mine
end

noncomputable section
open PySem PySem.Calls PyProof.Rows PySem.W PySem.Flt PySem.SeqAt
open PySem.Float64 (val Right V dist decode decode_ge pack infMag)
set_option Elab.async false
set_option linter.unusedVariables false
namespace Mine
/-! floats as rationals -/
theorem ac1 (a b c : Nat) : a * b * c = a * (c * b) := by ac_rfl
theorem ac2 (d q p : Nat) : d * (q * p) = (d * p) * q := by ac_rfl
theorem ac3 (d' d z : Nat) : d' * (d * z) = d * (d' * z) := by ac_rfl
theorem ac4 (d w : Nat) : d * (2 * w) = 2 * (w * d) := by ac_rfl
theorem ac5 (d w : Nat) : 2 * (w * d) = d * (2 * w) := by ac_rfl
noncomputable def KN : Nat := 2 ^ 1074
theorem KN_pos : 0 < KN := Nat.two_pow_pos _
theorem KQ_pos : (0 : Rat) < (KN : Rat) := Rat.natCast_pos.mpr KN_pos
theorem KQ_ne : (KN : Rat) ≠ 0 := fun h => by have := KQ_pos; rw [h] at this; exact absurd this (by decide)
noncomputable def Fi (x : UInt64) : Prop := ∃ a m e, decode x = .fin a m e
noncomputable def Fv (x : UInt64) : Rat := (val x : Rat) / (KN : Rat)
theorem Fv_mul (x : UInt64) : Fv x * (KN : Rat) = (val x : Rat) := by
  unfold Fv
  rw [Rat.div_def, Rat.mul_assoc, Rat.inv_mul_cancel _ KQ_ne, Rat.mul_one]
theorem Fi.fin {x : UInt64} (h : Fi x) : Float64.isFinite x = true := by
  obtain ⟨a, m, e, hd⟩ := h
  unfold Float64.isFinite; rw [hd]
theorem rep (m : Nat) : ∀ n : Nat, n ≤ 2 ^ 53 → ∃ t, V t = n * 2 ^ m := by
  induction m with
  | zero => intro n hn; exact ⟨0 * 2 ^ 52 + n, Float64.V_at hn (.inr rfl)⟩
  | succ m ih =>
    intro n hn
    by_cases h : 2 ^ 52 ≤ n
    · exact ⟨(m + 1) * 2 ^ 52 + n, Float64.V_at hn (.inl h)⟩
    · obtain ⟨t, ht⟩ := ih (2 * n) (by (first | lia | omega))
      exact ⟨t, by rw [ht, Nat.pow_succ]; ac_rfl⟩
theorem fi_pack (neg : Bool) {t : Nat} (h : t < infMag) : Fi (pack neg t) := by
  obtain ⟨m, e, hd, _⟩ := Float64.decode_pack neg h
  exact ⟨_, _, _, hd⟩
noncomputable def sgQ (neg : Bool) (q : Nat) : Int := if neg then -(q : Int) else q
/-- the nearest one: exact -/
theorem right_exact {r : UInt64} {neg : Bool} {W D : Nat} (h : Right r neg W D) (hD : 0 < D) {n m : Nat} (hn : n ≤ 2 ^ 53) (hm : m ≤ 1500) (hW : W = D * (n * 2 ^ m)) : Fi r ∧ val r = sgQ neg (n * 2 ^ m) := by
  obtain ⟨t, rfl, ht, hinf, hnear⟩ := h
  have hlt : t < infMag := by
    rcases Nat.lt_or_ge t infMag with h | h
    · exact h
    · have := hinf.mp (Nat.le_antisymm ht h)
      rw [hW] at this
      have h1 : 2 * (n * 2 ^ m) < (2 ^ 54 - 1) * 2 ^ 2045 := by
        have h2 : n * 2 ^ m ≤ 2 ^ 53 * 2 ^ 1500 := Nat.mul_le_mul hn (Nat.pow_le_pow_right (by decide) hm)
        have h3 : 2 * (2 ^ 53 * 2 ^ 1500) < (2 ^ 54 - 1) * 2 ^ 2045 := by decide +kernel
        (first | lia | omega)
      have := Nat.mul_lt_mul_of_pos_left h1 hD
      rw [ac3 2 D] at *
      (first | lia | omega)
  refine ⟨fi_pack neg hlt, ?_⟩
  obtain ⟨t', ht'⟩ := rep m n hn
  have := (hnear hlt t').1
  rw [ht', hW] at this
  have h0 : dist (D * (n * 2 ^ m)) (D * (n * 2 ^ m)) = 0 := by unfold Float64.dist; (first | lia | omega)
  rw [h0] at this
  have h1 : D * (n * 2 ^ m) = D * V t := by unfold Float64.dist at this; (first | lia | omega)
  have h2 := Nat.eq_of_mul_eq_mul_left hD h1
  rw [Float64.val_pack neg hlt, ← h2]
  rfl
/-- the nearest one: near -/
theorem right_near {r : UInt64} {neg : Bool} {W D : Nat} (h : Right r neg W D) (hD : 0 < D) {j : Nat} (hj : j ≤ 400) (hW : W ≤ D * (2 ^ 53 * 2 ^ (1021 + j))) : Fi r ∧ ∃ v : Nat, val r = sgQ neg v ∧ W ≤ D * v + D * 2 ^ (1021 + j) ∧ D * v ≤ W + D * 2 ^ (1021 + j) := by
  obtain ⟨t, rfl, ht, hinf, hnear⟩ := h
  have hlt : t < infMag := by
    rcases Nat.lt_or_ge t infMag with h | h
    · exact h
    · have := hinf.mp (Nat.le_antisymm ht h)
      have h1 : 2 * (2 ^ 53 * 2 ^ (1021 + j)) < (2 ^ 54 - 1) * 2 ^ 2045 := by
        have h2 : 2 ^ 53 * 2 ^ (1021 + j) ≤ 2 ^ 53 * 2 ^ 1500 := Nat.mul_le_mul_left _ (Nat.pow_le_pow_right (by decide) (by (first | lia | omega)))
        have h3 : 2 * (2 ^ 53 * 2 ^ 1500) < (2 ^ 54 - 1) * 2 ^ 2045 := by decide +kernel
        (first | lia | omega)
      have h4 := Nat.mul_lt_mul_of_pos_left h1 hD
      rw [ac3 D 2] at h4
      (first | lia | omega)
  refine ⟨fi_pack neg hlt, V t, by rw [Float64.val_pack neg hlt]; rfl, ?_⟩
  have hP : 0 < D * 2 ^ (1021 + j) := Nat.mul_pos hD (Nat.two_pow_pos _)
  obtain ⟨t', ht'⟩ := rep (1021 + j) (W / (D * 2 ^ (1021 + j))) (by
    refine Nat.div_le_of_le_mul ?_
    rw [ac1]
    exact hW)
  have := (hnear hlt t').1
  rw [ht'] at this
  have e1 : D * (W / (D * 2 ^ (1021 + j)) * 2 ^ (1021 + j)) = (D * 2 ^ (1021 + j)) * (W / (D * 2 ^ (1021 + j))) := ac2 _ _ _
  rw [e1] at this
  have e2 := Nat.div_add_mod W (D * 2 ^ (1021 + j))
  have e3 := Nat.mod_lt W hP
  clear e1 ht' hnear
  generalize (D * 2 ^ (1021 + j)) * (W / (D * 2 ^ (1021 + j))) = a at *
  generalize D * V t = z at *
  generalize D * 2 ^ (1021 + j) = y at *
  unfold Float64.dist at this
  have ha : a ≤ W := Nat.le.intro e2
  rw [Nat.sub_eq_zero_of_le ha, Nat.add_zero] at this
  have h5 : W - a < y := by rw [← e2, Nat.add_sub_cancel_left]; exact e3
  have h6 : W - z < y := Nat.lt_of_le_of_lt (Nat.le_trans (Nat.le_add_right _ _) this) h5
  have h7 : z - W < y := Nat.lt_of_le_of_lt (Nat.le_trans (Nat.le_add_left _ _) this) h5
  refine ⟨?_, ?_⟩
  · exact Nat.le_trans (Nat.sub_le_iff_le_add'.mp (Nat.le_refl _)) (Nat.add_le_add_left (Nat.le_of_lt h6) _)
  · exact Nat.le_trans (Nat.sub_le_iff_le_add'.mp (Nat.le_refl _)) (Nat.add_le_add_left (Nat.le_of_lt h7) _)
/-- the same one -/
theorem dist_conv {W a b c : Nat} (h1 : a < c) (h2 : c < b) (e : dist W a = dist W b) (m : dist W a ≤ dist W c) : False := by
  unfold Float64.dist at e m
  rcases Nat.le_total W c with h | h
  · rw [Nat.sub_eq_zero_of_le (Nat.le_trans h (Nat.le_of_lt h2)), Nat.zero_add] at e
    rw [Nat.sub_eq_zero_of_le h, Nat.zero_add, e] at m
    exact absurd m (Nat.not_le.mpr (Nat.sub_lt_sub_right h h2))
  · have ha := Nat.lt_of_lt_of_le h1 h
    rw [Nat.sub_eq_zero_of_le h, Nat.add_zero, Nat.sub_eq_zero_of_le (Nat.le_of_lt ha), Nat.add_zero] at m
    exact absurd m (Nat.not_le.mpr (Nat.sub_lt_sub_left ha h1))
theorem right_unique {r r' : UInt64} {neg neg' : Bool} {W D W' D' : Nat} (h : Right r neg W D) (h' : Right r' neg' W' D') (hD : 0 < D) (hD' : 0 < D') (he : W * D' = W' * D) (hf : r ≠ pack neg infMag) : ∃ t, t < infMag ∧ r = pack neg t ∧ r' = pack neg' t := by
  obtain ⟨t, rfl, ht, hinf, hnear⟩ := h
  obtain ⟨t', rfl, ht', hinf', hnear'⟩ := h'
  have hlt : t < infMag := by
    rcases Nat.lt_or_ge t infMag with h | h
    · exact h
    · exact absurd (by rw [Nat.le_antisymm ht h]) hf
  have scale : ∀ z, D' * dist W (D * z) = D * dist W' (D' * z) := fun z => by
    rw [← Float64.dist_mul, ← Float64.dist_mul]
    have e1 : D' * W = D * W' := by rw [Nat.mul_comm, he, Nat.mul_comm]
    rw [e1, ac3 D' D]
  have hlt' : t' < infMag := by
    rcases Nat.lt_or_ge t' infMag with h | h
    · exact h
    · have h1 := hinf'.mp (Nat.le_antisymm ht' h)
      have h2 : D * ((2 ^ 54 - 1) * 2 ^ 2045) ≤ 2 * W := by
        have := Nat.mul_le_mul_left D h1
        rw [ac4, ← he, ac5, ac3 D D'] at this
        exact Nat.le_of_mul_le_mul_left this hD'
      have := hinf.mpr h2
      omega
  refine ⟨t, hlt, rfl, ?_⟩
  have hn' : ∀ z, dist W (D * V t') ≤ dist W (D * V z) := fun z => by
    have := (hnear' hlt' z).1
    have := Nat.mul_le_mul_left D this
    rw [← scale, ← scale] at this
    exact Nat.le_of_mul_le_mul_left this hD'
  have hn := fun z => (hnear hlt z).1
  have eqd := Nat.le_antisymm (hn t') (hn' t)
  rcases Nat.lt_trichotomy t t' with h | h | h
  · exfalso
    have v1 := Nat.mul_lt_mul_of_pos_left (Float64.V_lt h) hD
    by_cases hs : t' = t + 1
    · have p1 := (hnear hlt t').2 (Nat.ne_of_gt (Float64.V_lt h)) eqd
      have p2 := (hnear' hlt' t).2 (Nat.ne_of_lt (Float64.V_lt h)) (by
        have : D' * dist W (D * V t') = D' * dist W (D * V t) := by rw [eqd]
        rw [scale, scale] at this
        exact Nat.eq_of_mul_eq_mul_left hD this)
      omega
    · have v2 := Nat.mul_lt_mul_of_pos_left (Float64.V_lt (show t < t + 1 by omega)) hD
      have v3 := Nat.mul_lt_mul_of_pos_left (Float64.V_lt (show t + 1 < t' by omega)) hD
      exact dist_conv v2 v3 eqd (hn (t + 1))
  · rw [h]
  · exfalso
    have v1 := Nat.mul_lt_mul_of_pos_left (Float64.V_lt h) hD
    by_cases hs : t = t' + 1
    · have p1 := (hnear hlt t').2 (Nat.ne_of_lt (Float64.V_lt h)) eqd
      have p2 := (hnear' hlt' t).2 (Nat.ne_of_gt (Float64.V_lt h)) (by
        have : D' * dist W (D * V t') = D' * dist W (D * V t) := by rw [eqd]
        rw [scale, scale] at this
        exact Nat.eq_of_mul_eq_mul_left hD this)
      omega
    · have v2 := Nat.mul_lt_mul_of_pos_left (Float64.V_lt (show t' < t' + 1 by omega)) hD
      have v3 := Nat.mul_lt_mul_of_pos_left (Float64.V_lt (show t' + 1 < t by omega)) hD
      exact dist_conv v2 v3 eqd.symm (eqd ▸ hn (t' + 1))
end Mine
end

noncomputable section
open PySem PySem.Calls PyProof.Rows PySem.W PySem.Flt PySem.SeqAt
open PySem.Float64 (val Right V dist decode decode_ge pack infMag sgn)
set_option Elab.async false
set_option linter.unusedVariables false
namespace Mine
noncomputable def Nr (x : UInt64) (R e : Rat) : Prop := Fi x ∧ R - e ≤ Fv x ∧ Fv x ≤ R + e
noncomputable abbrev ep : Rat := 1 / 1125899906842624
theorem near1 {R F D K e : Rat} (hD : 0 < D) (hK : 0 < K) (h : R * (D * K) ≤ D * (F * K) + D * (e * K)) : R ≤ F + e := by
  have h1 : R * (D * K) ≤ (F + e) * (D * K) := by grind
  exact Rat.le_of_mul_le_mul_right h1 (Rat.mul_pos hD hK)
theorem near2 {R F D K e : Rat} (hD : 0 < D) (hK : 0 < K) (h : D * (F * K) ≤ R * (D * K) + D * (e * K)) : F ≤ R + e := by
  have h1 : F * (D * K) ≤ (R + e) * (D * K) := by grind
  exact Rat.le_of_mul_le_mul_right h1 (Rat.mul_pos hD hK)
theorem pow_split (a b c d : Nat) (h : a + b = c + d) : 2 ^ a * 2 ^ b = 2 ^ c * 2 ^ d := by rw [← Nat.pow_add, ← Nat.pow_add, h]
theorem pow_one' (a b c : Nat) (h : a + b = c) : 2 ^ a * 2 ^ b = 2 ^ c := by rw [← Nat.pow_add, h]
theorem nr_of_right {r : UInt64} {neg : Bool} {W D : Nat} (h : Right r neg W D) (hD : 0 < D) (j : Nat) (hj : j ≤ 53) {R : Rat} (hR : R * ((D : Rat) * (KN : Rat)) = ((sgQ neg W : Int) : Rat)) (hb1 : -((2 ^ j : Nat) : Rat) ≤ R) (hb2 : R ≤ ((2 ^ j : Nat) : Rat)) :
    Nr r R (1 / ((2 ^ (53 - j) : Nat) : Rat)) := by
  have hDq : (0 : Rat) < (D : Rat) := Rat.natCast_pos.mpr hD
  have hK := KQ_pos
  have hDK := Rat.mul_pos hDq hK
  have hWq : (W : Rat) ≤ ((2 ^ j * (D * KN) : Nat) : Rat) := by
    rw [Rat.natCast_mul, Rat.natCast_mul]
    have i1 : R * ((D : Rat) * (KN : Rat)) ≤ ((2 ^ j : Nat) : Rat) * ((D : Rat) * (KN : Rat)) := Rat.mul_le_mul_of_nonneg_right hb2 (Rat.le_of_lt hDK)
    have i2 : -((2 ^ j : Nat) : Rat) * ((D : Rat) * (KN : Rat)) ≤ R * ((D : Rat) * (KN : Rat)) := Rat.mul_le_mul_of_nonneg_right hb1 (Rat.le_of_lt hDK)
    rw [hR] at i1 i2
    cases neg with
    | false =>
      have e : ((sgQ false W : Int) : Rat) = (W : Rat) := by show (((W : Nat) : Int) : Rat) = _; exact Rat.intCast_natCast W
      rw [e] at i1; exact i1
    | true =>
      have e : ((sgQ true W : Int) : Rat) = -(W : Rat) := by show ((-((W : Nat) : Int) : Int) : Rat) = _; rw [Rat.intCast_neg, Rat.intCast_natCast]
      rw [e] at i2
      grind
  have hW : W ≤ D * (2 ^ 53 * 2 ^ (1021 + j)) := by
    have := Rat.natCast_le_natCast.mp hWq
    have e : 2 ^ 53 * 2 ^ (1021 + j) = 2 ^ j * KN := pow_split 53 (1021 + j) j 1074 (by (first | lia | omega))
    rw [e, ac3 D]
    exact this
  obtain ⟨hF, v, hv, i1, i2⟩ := right_near h hD (by (first | lia | omega)) hW
  have hE : 2 ^ (1021 + j) * 2 ^ (53 - j) = KN := pow_one' _ _ 1074 (by (first | lia | omega))
  generalize 2 ^ (1021 + j) = E at *
  have hP : 0 < 2 ^ (53 - j) := Nat.two_pow_pos _
  generalize 2 ^ (53 - j) = P at *
  have hPq : (0 : Rat) < (P : Rat) := Rat.natCast_pos.mpr hP
  have hEq : (E : Rat) * (P : Rat) = (KN : Rat) := by rw [← hE, Rat.natCast_mul]
  have heq : (1 / (P : Rat)) * (KN : Rat) = (E : Rat) := by
    rw [← hEq]
    have : (P : Rat) ≠ 0 := fun h => by rw [h] at hPq; exact absurd hPq (by decide)
    grind
  have i1q : (W : Rat) ≤ (D : Rat) * (v : Rat) + (D : Rat) * (E : Rat) := by
    have := Rat.natCast_le_natCast.mpr i1
    rwa [Rat.natCast_add, Rat.natCast_mul, Rat.natCast_mul] at this
  have i2q : (D : Rat) * (v : Rat) ≤ (W : Rat) + (D : Rat) * (E : Rat) := by
    have := Rat.natCast_le_natCast.mpr i2
    rwa [Rat.natCast_add, Rat.natCast_mul, Rat.natCast_mul] at this
  have hFv := Fv_mul r
  rw [hv] at hFv
  refine ⟨hF, ?_, ?_⟩
  · have : R ≤ Fv r + 1 / (P : Rat) := near1 hDq hK (by
      rw [hFv, hR, heq]
      cases neg with
      | false =>
        have e : ((sgQ false W : Int) : Rat) = (W : Rat) := by show (((W : Nat) : Int) : Rat) = _; exact Rat.intCast_natCast W
        have e' : ((sgQ false v : Int) : Rat) = (v : Rat) := by show (((v : Nat) : Int) : Rat) = _; exact Rat.intCast_natCast v
        rw [e, e']; exact i1q
      | true =>
        have e : ((sgQ true W : Int) : Rat) = -(W : Rat) := by show ((-((W : Nat) : Int) : Int) : Rat) = _; rw [Rat.intCast_neg, Rat.intCast_natCast]
        have e' : ((sgQ true v : Int) : Rat) = -(v : Rat) := by show ((-((v : Nat) : Int) : Int) : Rat) = _; rw [Rat.intCast_neg, Rat.intCast_natCast]
        rw [e, e']; grind)
    grind
  · exact near2 hDq hK (by
      rw [hFv, hR, heq]
      cases neg with
      | false =>
        have e : ((sgQ false W : Int) : Rat) = (W : Rat) := by show (((W : Nat) : Int) : Rat) = _; exact Rat.intCast_natCast W
        have e' : ((sgQ false v : Int) : Rat) = (v : Rat) := by show (((v : Nat) : Int) : Rat) = _; exact Rat.intCast_natCast v
        rw [e, e']; exact i2q
      | true =>
        have e : ((sgQ true W : Int) : Rat) = -(W : Rat) := by show ((-((W : Nat) : Int) : Int) : Rat) = _; rw [Rat.intCast_neg, Rat.intCast_natCast]
        have e' : ((sgQ true v : Int) : Rat) = -(v : Rat) := by show ((-((v : Nat) : Int) : Int) : Rat) = _; rw [Rat.intCast_neg, Rat.intCast_natCast]
        rw [e, e']; grind)
theorem p3 : ((2 ^ 3 : Nat) : Rat) = 8 := by decide +kernel
theorem p50 : (1 / ((2 ^ (53 - 3) : Nat) : Rat)) = ep := by decide +kernel
theorem p23 : ((2 ^ 23 : Nat) : Rat) = 8388608 := by decide +kernel
theorem p30 : (1 / ((2 ^ (53 - 23) : Nat) : Rat)) = 1 / 1073741824 := by decide +kernel
theorem val_sgQ {x : UInt64} {a : Bool} {m : Nat} {e : Int} (h : decode x = .fin a m e) : val x = sgQ a (val x).natAbs := by
  rw [Float64.val_natAbs h]; exact Float64.val_eq h
theorem sgQ_abs (s : Int) : sgQ (decide (s < 0)) s.natAbs = s := by
  unfold sgQ
  by_cases h : s < 0
  · simp [h]; (first | lia | omega)
  · simp [h]; (first | lia | omega)
theorem fi_zero (b : Bool) : Fi (Float64.zero b) ∧ val (Float64.zero b) = 0 := by
  refine ⟨fi_pack b (by decide), ?_⟩
  have := Float64.val_pack b (t := 0) (by decide)
  rw [Float64.V_zero] at this
  unfold Float64.zero
  rw [this]
  cases b <;> rfl
theorem Fv_zero {x : UInt64} (h : val x = 0) : Fv x = 0 := by
  unfold Fv; rw [h]; decide +kernel
theorem nr_sum {r : UInt64} {S : Int} (h0 : S = 0 → ∃ b, r = Float64.zero b) (h1 : S ≠ 0 → Right r (decide (S < 0)) S.natAbs 1) {R : Rat} (hR : R * (KN : Rat) = (S : Rat)) (j : Nat) (hj : j ≤ 53) (hb1 : -((2 ^ j : Nat) : Rat) ≤ R) (hb2 : R ≤ ((2 ^ j : Nat) : Rat)) :
    Nr r R (1 / ((2 ^ (53 - j) : Nat) : Rat)) := by
  by_cases hS : S = 0
  · obtain ⟨b, rfl⟩ := h0 hS
    obtain ⟨z1, z2⟩ := fi_zero b
    have hR0 : R = 0 := by
      rw [hS] at hR
      have hK := KQ_ne
      have : R * (KN : Rat) = 0 * (KN : Rat) := by rw [hR]; grind
      grind
    have hpos : (0 : Rat) < 1 / ((2 ^ (53 - j) : Nat) : Rat) := by
      have : (0 : Rat) < ((2 ^ (53 - j) : Nat) : Rat) := Rat.natCast_pos.mpr (Nat.two_pow_pos _)
      generalize ((2 ^ (53 - j) : Nat) : Rat) = P at *
      have := Rat.inv_pos.mpr this
      rw [Rat.div_def, Rat.one_mul]; exact this
    refine ⟨z1, ?_, ?_⟩ <;> rw [Fv_zero z2, hR0] <;> grind
  · refine nr_of_right (h1 hS) (by decide) j hj ?_ hb1 hb2
    rw [sgQ_abs, ← hR]
    have : ((1 : Nat) : Rat) = 1 := by decide +kernel
    rw [this, Rat.one_mul]
theorem add_nrj {x y : UInt64} (hx : Fi x) (hy : Fi y) (j : Nat) (hj : j ≤ 53) (hb1 : -((2 ^ j : Nat) : Rat) ≤ Fv x + Fv y) (hb2 : Fv x + Fv y ≤ ((2 ^ j : Nat) : Rat)) : Nr (Float64.add x y) (Fv x + Fv y) (1 / ((2 ^ (53 - j) : Nat) : Rat)) := by
  obtain ⟨a, m, e, dx⟩ := hx
  obtain ⟨b, k, f, dy⟩ := hy
  have h := Float64.add_right dx dy
  refine nr_sum (S := val x + val y) (fun h0 => ⟨_, h.1 h0⟩) h.2 ?_ j hj hb1 hb2
  rw [Rat.intCast_add, ← Fv_mul, ← Fv_mul]; grind
theorem sub_nrj {x y : UInt64} (hx : Fi x) (hy : Fi y) (j : Nat) (hj : j ≤ 53) (hb1 : -((2 ^ j : Nat) : Rat) ≤ Fv x - Fv y) (hb2 : Fv x - Fv y ≤ ((2 ^ j : Nat) : Rat)) : Nr (Float64.sub x y) (Fv x - Fv y) (1 / ((2 ^ (53 - j) : Nat) : Rat)) := by
  obtain ⟨a, m, e, dx⟩ := hx
  obtain ⟨b, k, f, dy⟩ := hy
  have h := Float64.sub_right dx dy
  refine nr_sum (S := val x - val y) (fun h0 => ⟨_, h.1 h0⟩) h.2 ?_ j hj hb1 hb2
  rw [Rat.intCast_sub, ← Fv_mul, ← Fv_mul]; grind
theorem mul_nrj {x y : UInt64} (hx : Fi x) (hy : Fi y) (j : Nat) (hj : j ≤ 53) (hb1 : -((2 ^ j : Nat) : Rat) ≤ Fv x * Fv y) (hb2 : Fv x * Fv y ≤ ((2 ^ j : Nat) : Rat)) : Nr (Float64.mul x y) (Fv x * Fv y) (1 / ((2 ^ (53 - j) : Nat) : Rat)) := by
  obtain ⟨a, m, e, dx⟩ := hx
  obtain ⟨b, k, f, dy⟩ := hy
  have h := Float64.mul_right dx dy
  refine nr_of_right h (Nat.two_pow_pos _) j hj ?_ hb1 hb2
  have hs : sgQ (a != b) ((val x).natAbs * (val y).natAbs) = val x * val y := by
    conv => rhs; rw [val_sgQ dx, val_sgQ dy]
    unfold sgQ
    cases a <;> cases b <;> simp [Int.neg_mul, Int.mul_neg]
  rw [hs, Rat.intCast_mul, ← Fv_mul, ← Fv_mul]
  show Fv x * Fv y * ((KN : Rat) * (KN : Rat)) = _
  grind
theorem div_nrj {x y : UInt64} (hx : Fi x) (hy : Fi y) (hne : val y ≠ 0) {R : Rat} (hR : R * Fv y = Fv x) (j : Nat) (hj : j ≤ 53) (hb1 : -((2 ^ j : Nat) : Rat) ≤ R) (hb2 : R ≤ ((2 ^ j : Nat) : Rat)) : Nr (Float64.div x y) R (1 / ((2 ^ (53 - j) : Nat) : Rat)) := by
  obtain ⟨a, m, e, dx⟩ := hx
  obtain ⟨b, k, f, dy⟩ := hy
  have hk : k ≠ 0 := fun h => by
    subst h
    apply hne
    rw [Float64.val_eq dy, Nat.zero_mul]
    unfold Float64.sgn; cases b <;> rfl
  have h := Float64.div_right dx dy hk
  refine nr_of_right h (by (first | lia | omega)) j hj ?_ hb1 hb2
  have hRv : R * ((val y : Int) : Rat) = ((val x : Int) : Rat) := by
    rw [← Fv_mul, ← Fv_mul, ← hR]; grind
  have hx' := val_sgQ dx
  have hy' := val_sgQ dy
  have hs : R * (((val y).natAbs : Nat) : Rat) = ((sgQ (a != b) (val x).natAbs : Int) : Rat) := by
    generalize (val x).natAbs = X at *
    generalize (val y).natAbs = Y at *
    rw [hx', hy'] at hRv
    have eY : ∀ b, ((sgQ b Y : Int) : Rat) = if b then -(Y : Rat) else (Y : Rat) := fun b => by
      cases b
      · exact Rat.intCast_natCast Y
      · show ((-((Y : Nat) : Int) : Int) : Rat) = _; rw [Rat.intCast_neg, Rat.intCast_natCast]; rfl
    have eX : ∀ b, ((sgQ b X : Int) : Rat) = if b then -(X : Rat) else (X : Rat) := fun b => by
      cases b
      · exact Rat.intCast_natCast X
      · show ((-((X : Nat) : Int) : Int) : Rat) = _; rw [Rat.intCast_neg, Rat.intCast_natCast]; rfl
    rw [eX, eY] at hRv
    rw [eX]
    cases a <;> cases b <;> simp at hRv ⊢ <;> grind
  have e2 : sgQ (a != b) ((val x).natAbs * 2 ^ 1074) = sgQ (a != b) (val x).natAbs * ((KN : Nat) : Int) := Float64.sgn_mul _ _ _
  rw [e2, Rat.intCast_mul, ← hs, Rat.intCast_natCast]
  grind
end Mine
end

noncomputable section
open PySem PySem.Calls PyProof.Rows PySem.W PySem.Flt PySem.SeqAt
open PySem.Float64 (val Right V dist decode decode_ge pack infMag sgn)
set_option Elab.async false
set_option linter.unusedVariables false
namespace Mine
/-! comparisons -/
theorem cmp_val {x y : UInt64} (hx : Fi x) (hy : Fi y) : Float64.cmp x y = some (compare (val x) (val y)) := by
  obtain ⟨a, m, e, dx⟩ := hx
  obtain ⟨b, k, f, dy⟩ := hy
  exact Float64.cmp_right dx dy
theorem ltB_val {x y : UInt64} (hx : Fi x) (hy : Fi y) : ltB x y = decide (val x < val y) := by
  unfold ltB
  rw [cmp_val hx hy]
  rcases Int.lt_trichotomy (val x) (val y) with h | h | h
  · rw [Int.compare_eq_lt.mpr h]; simp [h]
  · rw [h]; simp
  · rw [Int.compare_eq_gt.mpr h]; simp; (first | lia | omega)
theorem eqB_val {x y : UInt64} (hx : Fi x) (hy : Fi y) : eqB x y = decide (val x = val y) := by
  unfold eqB
  rw [cmp_val hx hy]
  rcases Int.lt_trichotomy (val x) (val y) with h | h | h
  · rw [Int.compare_eq_lt.mpr h]; simp; (first | lia | omega)
  · rw [h]; simp
  · rw [Int.compare_eq_gt.mpr h]; simp; (first | lia | omega)
theorem leB_val {x y : UInt64} (hx : Fi x) (hy : Fi y) : leB x y = decide (val x ≤ val y) := by
  unfold leB
  rw [cmp_val hx hy]
  rcases Int.lt_trichotomy (val x) (val y) with h | h | h
  · rw [Int.compare_eq_lt.mpr h]; simp; (first | lia | omega)
  · rw [h]; simp
  · rw [Int.compare_eq_gt.mpr h]; simp; (first | lia | omega)
theorem val_lt_iff {x y : UInt64} : val x < val y ↔ Fv x < Fv y := by
  have hK := KQ_pos
  rw [← Rat.intCast_lt_intCast, ← Fv_mul, ← Fv_mul]
  constructor
  · intro h
    refine Rat.not_le.mp fun h2 => ?_
    exact absurd (Rat.mul_le_mul_of_nonneg_right h2 (Rat.le_of_lt hK)) (Rat.not_le.mpr h)
  · intro h
    exact Rat.mul_lt_mul_of_pos_right h hK
theorem val_le_iff {x y : UInt64} : val x ≤ val y ↔ Fv x ≤ Fv y := by
  rw [← Int.not_lt, val_lt_iff, Rat.not_lt]
theorem ltB_Fv {x y : UInt64} (hx : Fi x) (hy : Fi y) : ltB x y = true ↔ Fv x < Fv y := by rw [ltB_val hx hy, decide_eq_true_iff, val_lt_iff]
theorem leB_Fv {x y : UInt64} (hx : Fi x) (hy : Fi y) : leB x y = true ↔ Fv x ≤ Fv y := by rw [leB_val hx hy, decide_eq_true_iff, val_le_iff]
theorem isZero_val {x : UInt64} (hx : Fi x) : Float64.isZero x = decide (val x = 0) := by
  obtain ⟨a, m, e, dx⟩ := hx
  unfold Float64.isZero
  rw [dx, Float64.val_eq dx]
  cases m with
  | zero => rw [Nat.zero_mul]; cases a <;> simp [Float64.sgn]
  | succ m =>
    have : sgn a ((m + 1) * 2 ^ (e + 1074).toNat) ≠ 0 := fun h => by
      have hp : 0 < (m + 1) * 2 ^ (e + 1074).toNat := Nat.mul_pos (by (first | lia | omega)) (Nat.two_pow_pos _)
      have h1 := congrArg Int.natAbs h
      rw [Float64.sgn_natAbs] at h1
      exact absurd h1 (Nat.ne_of_gt hp)
    simp [this]
/-! exact ones: in units of 1 / 2^20 -/
noncomputable def UN : Nat := 2 ^ 1054
theorem UN_pos : 0 < UN := Nat.two_pow_pos _
theorem UN_K : 1048576 * UN = KN := by decide +kernel
noncomputable def Ex (x : UInt64) (i : Int) : Prop := Fi x ∧ val x = i * (UN : Int)
theorem Ex.Fv {x : UInt64} {i : Int} (h : Ex x i) : Fv x = (i : Rat) / 1048576 := by
  have hK := KQ_pos
  have h1 := Fv_mul x
  rw [h.2, Rat.intCast_mul, Rat.intCast_natCast] at h1
  have h2 : (1048576 : Rat) * (UN : Rat) = (KN : Rat) := by
    have := congrArg (Nat.cast : Nat → Rat) UN_K
    rw [Rat.natCast_mul] at this
    exact this
  have hU : (0 : Rat) < (UN : Rat) := Rat.natCast_pos.mpr UN_pos
  rw [← h2] at h1
  have h3 : Mine.Fv x * 1048576 * (UN : Rat) = (i : Rat) * (UN : Rat) := by grind
  have h4 : Mine.Fv x * 1048576 = (i : Rat) := by
    have hne : (UN : Rat) ≠ 0 := fun h => by rw [h] at hU; exact absurd hU (by decide)
    grind
  grind
theorem ex_sum {r : UInt64} {S i : Int} (h0 : S = 0 → ∃ b, r = Float64.zero b) (h1 : S ≠ 0 → Right r (decide (S < 0)) S.natAbs 1) (hS : S = i * (UN : Int)) (hi : i.natAbs ≤ 2 ^ 53) : Ex r i := by
  by_cases hz : S = 0
  · obtain ⟨b, rfl⟩ := h0 hz
    obtain ⟨z1, z2⟩ := fi_zero b
    exact ⟨z1, by rw [z2, ← hS, hz]⟩
  · have hW : S.natAbs = 1 * (i.natAbs * 2 ^ 1054) := by
      rw [hS, Int.natAbs_mul, Int.natAbs_natCast, Nat.one_mul]; rfl
    obtain ⟨f1, f2⟩ := right_exact (h1 hz) (by decide) hi (by decide) hW
    refine ⟨f1, f2.trans ?_⟩
    rw [Nat.one_mul] at hW
    rw [← hW, sgQ_abs, hS]
theorem Ex.add {x y : UInt64} {i j : Int} (hx : Ex x i) (hy : Ex y j) (h : (i + j).natAbs ≤ 2 ^ 53) : Ex (Float64.add x y) (i + j) := by
  obtain ⟨⟨a, m, e, dx⟩, vx⟩ := hx
  obtain ⟨⟨b, k, f, dy⟩, vy⟩ := hy
  have h2 := Float64.add_right dx dy
  exact ex_sum (S := val x + val y) (fun h0 => ⟨_, h2.1 h0⟩) h2.2 (by rw [vx, vy, Int.add_mul]) h
theorem Ex.sub {x y : UInt64} {i j : Int} (hx : Ex x i) (hy : Ex y j) (h : (i - j).natAbs ≤ 2 ^ 53) : Ex (Float64.sub x y) (i - j) := by
  obtain ⟨⟨a, m, e, dx⟩, vx⟩ := hx
  obtain ⟨⟨b, k, f, dy⟩, vy⟩ := hy
  have h2 := Float64.sub_right dx dy
  exact ex_sum (S := val x - val y) (fun h0 => ⟨_, h2.1 h0⟩) h2.2 (by rw [vx, vy, Int.sub_mul]) h
theorem ex_frac {p : Int} {d c : Nat} (hd : 0 < d) (hc : d * c = 1048576) (h : (c * p : Int).natAbs ≤ 2 ^ 53) : Ex (fdivII p d) (c * p) := by
  have hr : Right (fdivII p d) (decide (p < 0)) (p.natAbs * c * UN) 1 := by
    have hneg : (decide (p < 0) != decide ((d : Int) < 0)) = decide (p < 0) := by
      have : decide ((d : Int) < 0) = false := by simp
      rw [this]; simp
    unfold fdivII
    rw [hneg, Int.natAbs_natCast]
    refine Float64.ofFrac_right hd ?_ (by decide)
    show p.natAbs * KN * 1 = p.natAbs * c * UN * d
    rw [← UN_K, ← hc]
    generalize UN = u
    ac_rfl
  have hn : (c * p : Int).natAbs = p.natAbs * c := by rw [Int.natAbs_mul, Int.natAbs_natCast]; ac_rfl
  obtain ⟨f1, f2⟩ := right_exact (n := p.natAbs * c) (m := 1054) hr (by decide) (by rw [← hn]; exact h) (by decide) (by rw [Nat.one_mul]; rfl)
  refine ⟨f1, f2.trans ?_⟩
  have e2 : sgQ (decide (p < 0)) (p.natAbs * c * 2 ^ 1054) = sgQ (decide (p < 0)) p.natAbs * ((c * UN : Nat) : Int) := by
    rw [Nat.mul_assoc]; exact Float64.sgn_mul _ _ _
  rw [e2, sgQ_abs, Int.natCast_mul, ← Int.mul_assoc, Int.mul_comm p]
theorem ex_half : Ex half64 524288 := ⟨⟨false, 4503599627370496, -53, by kernel_rfl⟩, (Float64.val_eq (x := half64) (a := false) (m := 4503599627370496) (e := -53) (by kernel_rfl)).trans (by decide +kernel)⟩
theorem ex_two : Ex two64 2097152 := ⟨⟨false, 4503599627370496, -51, by kernel_rfl⟩, (Float64.val_eq (x := two64) (a := false) (m := 4503599627370496) (e := -51) (by kernel_rfl)).trans (by decide +kernel)⟩
theorem ex_four : Ex four64 4194304 := ⟨⟨false, 4503599627370496, -50, by kernel_rfl⟩, (Float64.val_eq (x := four64) (a := false) (m := 4503599627370496) (e := -50) (by kernel_rfl)).trans (by decide +kernel)⟩
theorem ex_six : Ex six64 6291456 := ⟨⟨false, 6755399441055744, -50, by kernel_rfl⟩, (Float64.val_eq (x := six64) (a := false) (m := 6755399441055744) (e := -50) (by kernel_rfl)).trans (by decide +kernel)⟩
theorem dec_one : decode one64 = .fin false 4503599627370496 (-52) := by kernel_rfl
theorem ex_one : Ex one64 1048576 := ⟨⟨_, _, _, dec_one⟩, (Float64.val_eq dec_one).trans (by decide +kernel)⟩
theorem Ex.div2 {x : UInt64} {i : Int} (hx : Ex x (2 * i)) (h : i.natAbs ≤ 2 ^ 53) : Ex (Float64.div x two64) i := by
  obtain ⟨⟨a, m, e, dx⟩, vx⟩ := hx
  have d2 : decode two64 = .fin false 4503599627370496 (-51) := by kernel_rfl
  have hr := Float64.div_right dx d2 (by decide)
  have v2 : (val two64).natAbs = 2 * KN := by rw [ex_two.2]; decide +kernel
  have hW : (val x).natAbs * 2 ^ 1074 = (val two64).natAbs * (i.natAbs * 2 ^ 1054) := by
    rw [vx, v2, Int.natAbs_mul, Int.natAbs_mul, Int.natAbs_natCast]
    show 2 * i.natAbs * UN * KN = 2 * KN * (i.natAbs * UN)
    generalize UN = u
    generalize KN = k
    ac_rfl
  obtain ⟨f1, f2⟩ := right_exact hr (by rw [v2]; exact Nat.mul_pos (by decide) KN_pos) h (by decide) hW
  refine ⟨f1, f2.trans ?_⟩
  have hv := val_sgQ dx
  rw [vx] at hv
  have hn : (2 * i * (UN : Int)).natAbs = 2 * (i.natAbs * 2 ^ 1054) := by
    rw [Int.natAbs_mul, Int.natAbs_mul, Int.natAbs_natCast]; exact Nat.mul_assoc _ _ _
  rw [hn] at hv
  rw [show 2 * i * (UN : Int) = 2 * (i * (UN : Int)) from Int.mul_assoc _ _ _] at hv
  generalize i * (UN : Int) = z at *
  generalize i.natAbs * 2 ^ 1054 = q at *
  unfold sgQ at hv ⊢
  cases a <;> simp at hv ⊢ <;> (first | lia | omega)
theorem ex_cmp {x y : UInt64} {i j : Int} (hx : Ex x i) (hy : Ex y j) : (val x < val y ↔ i < j) ∧ (val x ≤ val y ↔ i ≤ j) ∧ (val x = val y ↔ i = j) := by
  have hU : (0 : Int) < (UN : Int) := Int.ofNat_lt.mpr UN_pos
  rw [hx.2, hy.2]
  exact ⟨Int.mul_lt_mul_right hU, Int.mul_le_mul_right hU, ⟨fun h => Int.eq_of_mul_eq_mul_right (Int.ne_of_gt hU) h, fun h => by rw [h]⟩⟩
theorem Ex.fmax {x y : UInt64} {i j : Int} (hx : Ex x i) (hy : Ex y j) : Ex (fmax x y) (imax i j) := by
  have h1 : (Float64.cmp x y == some .lt) = decide (i < j) := by
    have := ltB_val hx.1 hy.1
    unfold ltB at this
    rw [this]; exact decide_eq_decide.mpr (ex_cmp hx hy).1
  unfold Mine.fmax imax
  rw [h1]
  by_cases h : i < j
  · simp [h, hy]
  · simp [h, hx]
theorem Ex.fmin {x y : UInt64} {i j : Int} (hx : Ex x i) (hy : Ex y j) : Ex (fmin x y) (imin i j) := by
  have h1 : (Float64.cmp y x == some .lt) = decide (j < i) := by
    have := ltB_val hy.1 hx.1
    unfold ltB at this
    rw [this]; exact decide_eq_decide.mpr (ex_cmp hy hx).1
  unfold Mine.fmin imin
  rw [h1]
  by_cases h : j < i
  · simp [h, hy]
  · simp [h, hx]
end Mine
end

noncomputable section
open PySem PySem.Calls PyProof.Rows PySem.W PySem.Flt PySem.SeqAt
open PySem.Float64 (val Right V dist decode decode_ge pack infMag sgn)
set_option Elab.async false
set_option linter.unusedVariables false
namespace Mine
theorem decode_lt {x : UInt64} {a : Bool} {m : Nat} {e : Int} (h : decode x = .fin a m e) : m < 2 ^ 53 := by
  unfold Float64.decode at h
  simp only at h
  split at h
  · split at h <;> cases h
  · split at h
    · cases h; have := Nat.mod_lt x.toNat (show 0 < 2 ^ 52 by decide); omega
    · cases h; have := Nat.mod_lt x.toNat (show 0 < 2 ^ 52 by decide); omega
theorem fmod_one {x : UInt64} {a : Bool} {m : Nat} {e : Int} (hx : decode x = .fin a m e) : Fi (Float64.fmod x one64) ∧ val (Float64.fmod x one64) = sgQ a ((val x).natAbs % KN) := by
  have hlt := decode_lt hx
  have hge := decode_ge hx
  have hf : Float64.fmod x one64 = Float64.ofBin a ((m * 2 ^ (e - min e (-52)).toNat) % (4503599627370496 * 2 ^ ((-52) - min e (-52)).toNat)) (min e (-52)) := by
    unfold Float64.fmod
    rw [hx, dec_one]
    show (if ((4503599627370496 : Nat) == 0) = true then Float64.nan else Float64.ofBin a ((sgn false (m * 2 ^ (e - min e (-52)).toNat)).toNat % (sgn false (4503599627370496 * 2 ^ ((-52) - min e (-52)).toNat)).toNat) (min e (-52))) = _
    rw [if_neg (by decide)]
    rfl
  rw [hf]
  obtain ⟨g, hg, g1, g2, g0, g3⟩ : ∃ g, min e (-52) = g ∧ g ≤ e ∧ g ≤ -52 ∧ 0 ≤ g + 1074 ∧ (g = e ∨ g = -52) := ⟨_, rfl, Int.min_le_left _ _, Int.min_le_right _ _, by
    rcases Int.le_total e (-52) with h | h
    · rw [Int.min_eq_left h]; lia
    · rw [Int.min_eq_right h]; decide, by
    rcases Int.le_total e (-52) with h | h
    · exact .inl (Int.min_eq_left h)
    · exact .inr (Int.min_eq_right h)⟩
  rw [hg]
  clear hf hg
  have hV : (val x).natAbs = (m * 2 ^ (e - g).toNat) * 2 ^ (g + 1074).toNat := by
    rw [Float64.val_natAbs hx, Nat.mul_assoc, ← Nat.pow_add]
    congr 2
    (first | lia | omega)
  have hK : KN = (4503599627370496 * 2 ^ ((-52) - g).toNat) * 2 ^ (g + 1074).toNat := by
    rw [show (4503599627370496 : Nat) = 2 ^ 52 from rfl, ← Nat.pow_add, ← Nat.pow_add]
    have : 52 + ((-52) - g).toNat + (g + 1074).toNat = 1074 := by (first | lia | omega)
    rw [this]; rfl
  have hn : (m * 2 ^ (e - g).toNat) % (4503599627370496 * 2 ^ ((-52) - g).toNat) ≤ 2 ^ 53 := by
    rcases g3 with rfl | rfl
    · have e1 : ∀ i : Int, (i - i).toNat = 0 := fun i => by rw [Int.sub_self]; rfl
      rw [e1]
      exact Nat.le_trans (Nat.mod_le _ _) (by rw [Nat.pow_zero, Nat.mul_one]; exact Nat.le_of_lt hlt)
    · have e1 : ((-52 : Int) - -52).toNat = 0 := rfl
      rw [e1]
      exact Nat.le_of_lt (Nat.lt_of_lt_of_le (Nat.mod_lt _ (by decide)) (by decide))
  have hG : (g + 1074).toNat ≤ 1500 := by (first | lia | omega)
  have hmul : (val x).natAbs % KN = ((m * 2 ^ (e - g).toNat) % (4503599627370496 * 2 ^ ((-52) - g).toNat)) * 2 ^ (g + 1074).toNat := by
    rw [hV, hK, Nat.mul_mod_mul_right]
  generalize (m * 2 ^ (e - g).toNat) % (4503599627370496 * 2 ^ ((-52) - g).toNat) = n at *
  have hr : Right (Float64.ofBin a n (g)) a (n * 2 ^ (g + 1074).toNat) 1 := by
    unfold Float64.ofBin
    refine Float64.ofFrac_right (Float64.shift_pos _ _ _ (by decide)) ?_ (by decide)
    have := Float64.shift_one n (g) 1074 (by (first | lia | omega))
    rw [Nat.mul_one]
    exact this
  obtain ⟨f1, f2⟩ := right_exact hr (by decide) hn hG (by rw [Nat.one_mul])
  exact ⟨f1, by rw [f2, hmul]⟩
theorem mod1_eq (x : UInt64) : mod1 x = if Float64.isZero (Float64.fmod x one64) = true then Float64.copysign (Float64.zero false) one64
    else if (Float64.lt one64 (Float64.zero false) != Float64.lt (Float64.fmod x one64) (Float64.zero false)) = true then Float64.add (Float64.fmod x one64) one64 else Float64.fmod x one64 := by
  unfold mod1
  show (Float64.divmod x one64).2 = _
  unfold Float64.divmod
  dsimp only
  split
  · rfl
  · split <;> rfl
theorem cop_zero : Fi (Float64.copysign (Float64.zero false) one64) ∧ val (Float64.copysign (Float64.zero false) one64) = 0 := by
  have : Float64.copysign (Float64.zero false) one64 = Float64.zero false := by decide +kernel
  rw [this]; exact fi_zero false
/-- what mod1 tells, in units of 2^-1074 -/
theorem mod1_val {x : UInt64} (hx : Fi x) : Fi (mod1 x) ∧ ((0 ≤ val x → val (mod1 x) = val x % (KN : Int)) ∧ (val x < 0 → (val x % (KN : Int) = 0 → val (mod1 x) = 0) ∧ (val x % (KN : Int) ≠ 0 → Right (mod1 x) false (val x % (KN : Int)).toNat 1))) := by
  obtain ⟨a, m, e, hd⟩ := hx
  obtain ⟨f1, f2⟩ := fmod_one hd
  have hv := val_sgQ hd
  have hK : (0 : Int) < (KN : Int) := Int.ofNat_lt.mpr KN_pos
  rw [mod1_eq]
  have hz := isZero_val f1
  have hl1 : Float64.lt one64 (Float64.zero false) = false := by decide +kernel
  have hl2 : Float64.lt (Float64.fmod x one64) (Float64.zero false) = decide (val (Float64.fmod x one64) < 0) := by
    have := ltB_val f1 (fi_zero false).1
    rw [(fi_zero false).2] at this
    exact this
  rw [hz, hl1, hl2, f2]
  generalize hM : (val x).natAbs % KN = M at *
  have hMlt : M < KN := hM ▸ Nat.mod_lt _ KN_pos
  have hdm := Nat.div_add_mod (val x).natAbs KN
  rw [hM] at hdm
  generalize (val x).natAbs / KN = Q at hdm
  have hmodp : 0 ≤ val x → val x % (KN : Int) = M := fun h => by
    have : val x = (((val x).natAbs : Nat) : Int) := by (first | lia | omega)
    rw [this, ← Int.natCast_emod, hM]
  have hmodn : val x < 0 → (M = 0 → val x % (KN : Int) = 0) ∧ (M ≠ 0 → val x % (KN : Int) = KN - M) := fun h => by
    have e1 : val x = -((((val x).natAbs : Nat)) : Int) := by (first | lia | omega)
    rw [← hdm] at e1
    have e2 : (((KN * Q + M : Nat)) : Int) = (KN : Int) * (Q : Int) + (M : Int) := by rw [Int.natCast_add, Int.natCast_mul]
    rw [e2] at e1
    refine ⟨fun h0 => ?_, fun h0 => ?_⟩
    · rw [e1, h0]
      have : -((KN : Int) * (Q : Int) + ((0 : Nat) : Int)) = (KN : Int) * (-(Q : Int)) := by rw [Int.mul_neg]; (first | lia | omega)
      rw [this, Int.mul_emod_right]
    · have : val x = ((KN : Int) - M) + (KN : Int) * (-(Q : Int) - 1) := by
        rw [e1, Int.mul_sub, Int.mul_neg, Int.mul_one]; (first | lia | omega)
      rw [this, Int.add_mul_emod_self_left]
      exact Int.emod_eq_of_lt (by (first | lia | omega)) (by (first | lia | omega))
  by_cases h0 : M = 0
  · have hs : sgQ a M = 0 := by rw [h0]; cases a <;> rfl
    rw [hs]
    simp only [decide_true, if_true]
    refine ⟨cop_zero.1, fun h => ?_, fun h => ⟨fun _ => cop_zero.2, fun hne => absurd ((hmodn h).1 h0) hne⟩⟩
    rw [cop_zero.2, hmodp h, h0]; rfl
  · have hs : sgQ a M ≠ 0 := by unfold sgQ; cases a <;> simp <;> (first | lia | omega)
    rw [if_neg (by simpa using hs)]
    cases a with
    | false =>
      have hpos : 0 ≤ val x := by rw [hv]; unfold sgQ; simp
      have : decide (sgQ false M < 0) = false := by unfold sgQ; simp
      rw [this]
      rw [if_neg (by decide)]
      exact ⟨f1, fun h => by rw [f2, hmodp h]; rfl, fun h => absurd h (by (first | lia | omega))⟩
    | true =>
      have hneg : val x < 0 := by
        have hne : (val x).natAbs ≠ 0 := fun h => by rw [h] at hM; simp at hM; (first | lia | omega)
        rw [hv]; unfold sgQ; simp; (first | lia | omega)
      have hd1 : decide (sgQ true M < 0) = true := by unfold sgQ; simp; (first | lia | omega)
      rw [hd1]
      rw [if_pos (by decide)]
      obtain ⟨b1, m1, e1, d1⟩ := f1
      have hadd := (Float64.add_right d1 dec_one).2
      have hv1 : val one64 = (KN : Int) := ex_one.2.trans (by decide +kernel)
      have hsum : val (Float64.fmod x one64) + val one64 = (KN : Int) - M := by rw [f2, hv1]; unfold sgQ; simp; (first | lia | omega)
      rw [hsum] at hadd
      have hr := hadd (by (first | lia | omega))
      have hdn : decide ((KN : Int) - M < 0) = false := by simp; (first | lia | omega)
      rw [hdn] at hr
      have hmod := (hmodn hneg).2 h0
      refine ⟨?_, fun h => absurd h (by (first | lia | omega)), fun _ => ⟨fun h => absurd h (by (first | lia | omega)), fun _ => ?_⟩⟩
      · obtain ⟨F, _⟩ := right_near (j := 3) hr (by decide) (by decide) (by
          have e2 : 2 ^ 53 * 2 ^ (1021 + 3) = 8 * KN := by decide +kernel
          rw [e2]; (first | lia | omega))
        exact F
      · rw [hmod]
        have : ((KN : Int) - M).natAbs = ((KN : Int) - M).toNat := by (first | lia | omega)
        rw [← this]; exact hr
theorem right_cap {r : UInt64} {W : Nat} (h : Right r false W 1) (hW : W ≤ KN) : 0 ≤ val r ∧ val r ≤ (KN : Int) := by
  obtain ⟨F, v, hv, i1, i2⟩ := right_near (j := 3) h (by decide) (by decide) (by
    have e2 : 2 ^ 53 * 2 ^ (1021 + 3) = 8 * KN := by decide +kernel
    rw [e2]; (first | lia | omega))
  obtain ⟨t, rfl, ht, hinf, hnear⟩ := h
  have hlt : t < infMag := by
    rcases Nat.lt_or_ge t infMag with h | h
    · exact h
    · obtain ⟨a, m, e, hd⟩ := F
      have : t = infMag := Nat.le_antisymm ht h
      subst this
      have : decode (pack false infMag) = .inf false := by kernel_rfl
      rw [this] at hd; cases hd
  have hval := Float64.val_pack false hlt
  obtain ⟨t', ht'⟩ := rep 1074 1 (by decide)
  have h1 := (hnear hlt t').1
  have e1 : V t' = KN := by rw [ht', Nat.one_mul]; rfl
  rw [e1, Nat.one_mul, Nat.one_mul] at h1
  rw [hval]
  unfold Float64.dist at h1
  rw [Nat.sub_eq_zero_of_le hW, Nat.zero_add] at h1
  have h2 : V t ≤ KN := by
    have := Nat.sub_le_iff_le_add.mp (Nat.le_trans (Nat.le_add_left _ _) h1)
    rwa [Nat.sub_add_cancel hW] at this
  exact ⟨Int.natCast_nonneg _, Int.ofNat_le.mpr h2⟩
end Mine
end

noncomputable section
open PySem PySem.Calls PyProof.Rows PySem.W PySem.Flt PySem.SeqAt
open PySem.Float64 (val Right V dist decode decode_ge pack infMag sgn)
set_option Elab.async false
set_option linter.unusedVariables false
namespace Mine
theorem Fv_le_int {x : UInt64} {n : Int} : Fv x ≤ (n : Rat) ↔ val x ≤ n * (KN : Int) := by
  have hK := KQ_pos
  rw [← Rat.intCast_le_intCast, ← Fv_mul, Rat.intCast_mul, Rat.intCast_natCast]
  exact ⟨fun h => Rat.mul_le_mul_of_nonneg_right h (Rat.le_of_lt hK), fun h => Rat.le_of_mul_le_mul_right h hK⟩
theorem Fv_ge_int {x : UInt64} {n : Int} : (n : Rat) ≤ Fv x ↔ n * (KN : Int) ≤ val x := by
  have hK := KQ_pos
  rw [← Rat.intCast_le_intCast, ← Fv_mul, Rat.intCast_mul, Rat.intCast_natCast]
  exact ⟨fun h => Rat.mul_le_mul_of_nonneg_right h (Rat.le_of_lt hK), fun h => Rat.le_of_mul_le_mul_right h hK⟩
theorem Fv_of_val {x : UInt64} {v : Int} (h : val x = v) : Fv x = (v : Rat) / (KN : Rat) := by unfold Fv; rw [h]
theorem Fv_split {x : UInt64} {q m : Int} (h : val x = (KN : Int) * q + m) : Fv x = (q : Rat) + (m : Rat) / (KN : Rat) := by
  have hK := KQ_ne
  unfold Fv
  rw [h, Rat.intCast_add, Rat.intCast_mul, Rat.intCast_natCast]
  grind
theorem mod1_near {x : UInt64} (hx : Fi x) : Fi (mod1 x) ∧ 0 ≤ Fv (mod1 x) ∧ Fv (mod1 x) ≤ 1 ∧ ∃ n : Int, Fv x - n - ep ≤ Fv (mod1 x) ∧ Fv (mod1 x) ≤ Fv x - n + ep := by
  obtain ⟨f, h1, h2⟩ := mod1_val hx
  have hK : (0 : Int) < (KN : Int) := Int.ofNat_lt.mpr KN_pos
  have hm0 := Int.emod_nonneg (val x) (Int.ne_of_gt hK)
  have hm1 := Int.emod_lt_of_pos (val x) hK
  have hs := Fv_split (Int.mul_ediv_add_emod (val x) (KN : Int)).symm
  generalize hm : val x % (KN : Int) = m at *
  generalize val x / (KN : Int) = q at *
  have exact1 : val (mod1 x) = m → Fi (mod1 x) ∧ 0 ≤ Fv (mod1 x) ∧ Fv (mod1 x) ≤ 1 ∧ ∃ n : Int, Fv x - n - ep ≤ Fv (mod1 x) ∧ Fv (mod1 x) ≤ Fv x - n + ep := fun hv => by
    have e1 := Fv_of_val hv
    refine ⟨f, ?_, ?_, q, ?_, ?_⟩
    · exact (Fv_ge_int (n := 0)).mpr (by (first | lia | omega))
    · exact (Fv_le_int (n := 1)).mpr (by (first | lia | omega))
    · rw [hs, e1]; grind
    · rw [hs, e1]; grind
  by_cases hp : 0 ≤ val x
  · exact exact1 (h1 hp)
  · obtain ⟨h3, h4⟩ := h2 (by (first | lia | omega))
    by_cases hz : m = 0
    · exact exact1 (by rw [h3 hz, hz])
    · have hr := h4 hz
      obtain ⟨c1, c2⟩ := right_cap hr (by (first | lia | omega))
      have hN : Nr (mod1 x) ((m : Rat) / (KN : Rat)) ep := by
        have hmq : (0 : Rat) ≤ (m : Rat) := Rat.intCast_nonneg.mpr hm0
        have hmq2 : (m : Rat) ≤ (KN : Rat) := by
          have := Rat.intCast_le_intCast.mpr (Int.le_of_lt hm1)
          rwa [Rat.intCast_natCast] at this
        have hKq := KQ_pos
        have hKne := KQ_ne
        have hle : (m : Rat) / (KN : Rat) ≤ 1 := Rat.le_of_mul_le_mul_right (c := (KN : Rat)) (by
          have : (m : Rat) / (KN : Rat) * (KN : Rat) = m := by grind
          rw [this]; grind) hKq
        have hge : 0 ≤ (m : Rat) / (KN : Rat) := Rat.le_of_mul_le_mul_right (c := (KN : Rat)) (by
          have : (m : Rat) / (KN : Rat) * (KN : Rat) = m := by grind
          rw [this]; grind) hKq
        rw [← p50]
        refine nr_of_right hr (by decide) 3 (by decide) ?_ (by rw [p3]; grind) (by rw [p3]; grind)
        have e1 : ((1 : Nat) : Rat) = 1 := by decide +kernel
        have e2 : sgQ false m.toNat = m := by unfold sgQ; simp; (first | lia | omega)
        rw [e1, e2]; grind
      refine ⟨f, ?_, ?_, q, ?_, ?_⟩
      · exact (Fv_ge_int (n := 0)).mpr (by (first | lia | omega))
      · exact (Fv_le_int (n := 1)).mpr (by (first | lia | omega))
      · rw [hs]; have := hN.2.1; grind
      · rw [hs]; have := hN.2.2; grind
theorem mod1_same {x : UInt64} (hx : Fi x) (h0 : 0 ≤ Fv x) (h1 : Fv x < 1) : Fi (mod1 x) ∧ Fv (mod1 x) = Fv x := by
  obtain ⟨f, h, _⟩ := mod1_val hx
  have hK : (0 : Int) < (KN : Int) := Int.ofNat_lt.mpr KN_pos
  have v0 : 0 ≤ val x := by have := (Fv_ge_int (x := x) (n := 0)).mp h0; (first | lia | omega)
  have v1 : val x < (KN : Int) := by
    refine Int.not_le.mp fun h2 => ?_
    exact absurd ((Fv_ge_int (x := x) (n := 1)).mpr (by (first | lia | omega))) (Rat.not_le.mpr h1)
  refine ⟨f, ?_⟩
  unfold Fv
  rw [h v0, Int.emod_eq_of_lt v0 v1]
theorem mod1_neg {x : UInt64} (hx : Fi x) (h0 : -1 ≤ Fv x) (h1 : Fv x < 0) : Nr (mod1 x) (Fv x + 1) ep := by
  obtain ⟨f, c0, c1, n, h2, h3⟩ := mod1_near hx
  obtain ⟨_, _, h4⟩ := mod1_val hx
  have hK : (0 : Int) < (KN : Int) := Int.ofNat_lt.mpr KN_pos
  have v0 : -(KN : Int) ≤ val x := by have := (Fv_ge_int (x := x) (n := -1)).mp h0; (first | lia | omega)
  have v1 : val x < 0 := by
    refine Int.not_le.mp fun h2 => ?_
    exact absurd ((Fv_ge_int (x := x) (n := 0)).mpr (by (first | lia | omega))) (Rat.not_le.mpr h1)
  obtain ⟨h5, h6⟩ := h4 v1
  by_cases hz : val x = -(KN : Int)
  · have hm : val x % (KN : Int) = 0 := by
      rw [hz, show -(KN : Int) = (KN : Int) * (-1) by (first | lia | omega)]; exact Int.mul_emod_right _ _
    have e1 : Fv x = -1 := by
      have := Fv_split (x := x) (q := -1) (m := 0) (by rw [hz]; (first | lia | omega))
      rw [this]; grind
    have e2 : Fv (mod1 x) = 0 := Fv_zero (h5 hm)
    refine ⟨f, ?_, ?_⟩ <;> rw [e1, e2] <;> grind
  · have hm : val x % (KN : Int) = val x + (KN : Int) := by
      rw [← Int.add_emod_right]; exact Int.emod_eq_of_lt (by (first | lia | omega)) (by (first | lia | omega))
    rw [← p50]
    refine nr_of_right (h6 (by (first | lia | omega))) (by decide) 3 (by decide) ?_ (by rw [p3]; grind) (by rw [p3]; grind)
    have e1 : ((1 : Nat) : Rat) = 1 := by decide +kernel
    have e2 : sgQ false (val x % (KN : Int)).toNat = val x + (KN : Int) := by rw [hm]; unfold sgQ; simp; (first | lia | omega)
    rw [e1, e2, Rat.intCast_add, Rat.intCast_natCast, ← Fv_mul]; grind
/-! near values, put together -/
theorem Nr.add {x y : UInt64} {R S e f : Rat} (hx : Nr x R e) (hy : Nr y S f) (h1 : -8 ≤ R + S - e - f) (h2 : R + S + e + f ≤ 8) : Nr (Float64.add x y) (R + S) (e + f + ep) := by
  obtain ⟨a1, a2, a3⟩ := hx
  obtain ⟨b1, b2, b3⟩ := hy
  have := add_nrj a1 b1 3 (by decide) (by rw [p3]; grind) (by rw [p3]; grind)
  rw [p50] at this
  obtain ⟨c1, c2, c3⟩ := this
  exact ⟨c1, by grind, by grind⟩
theorem Nr.sub {x y : UInt64} {R S e f : Rat} (hx : Nr x R e) (hy : Nr y S f) (h1 : -8 ≤ R - S - e - f) (h2 : R - S + e + f ≤ 8) : Nr (Float64.sub x y) (R - S) (e + f + ep) := by
  obtain ⟨a1, a2, a3⟩ := hx
  obtain ⟨b1, b2, b3⟩ := hy
  have := sub_nrj a1 b1 3 (by decide) (by rw [p3]; grind) (by rw [p3]; grind)
  rw [p50] at this
  obtain ⟨c1, c2, c3⟩ := this
  exact ⟨c1, by grind, by grind⟩
theorem mul_small {d t e : Rat} (h1 : -e ≤ d) (h2 : d ≤ e) (t0 : 0 ≤ t) (t1 : t ≤ 1) : -e ≤ d * t ∧ d * t ≤ e := by
  have he : 0 ≤ e := by grind
  have a1 := Rat.mul_le_mul_of_nonneg_right h2 t0
  have a2 := Rat.mul_le_mul_of_nonneg_right h1 t0
  have a3 := Rat.mul_le_mul_of_nonneg_left t1 he
  constructor <;> grind
theorem prod01 {s t : Rat} (h1 : 0 ≤ s) (h2 : s ≤ 1) (t0 : 0 ≤ t) (t1 : t ≤ 1) : 0 ≤ s * t ∧ s * t ≤ 1 := by
  have a1 := Rat.mul_nonneg h1 t0
  have a2 := Rat.mul_le_mul_of_nonneg_right h2 t0
  constructor <;> grind
theorem Nr.mul6 {x : UInt64} {R e : Rat} (hx : Nr x R e) (r0 : -8 ≤ 6 * R - 6 * e) (r1 : 6 * R + 6 * e ≤ 8) : Nr (Float64.mul x six64) (6 * R) (6 * e + ep) := by
  obtain ⟨a1, a2, a3⟩ := hx
  have h6 : Fv six64 = 6 := by rw [ex_six.Fv]; decide +kernel
  have := mul_nrj a1 ex_six.1 3 (by decide) (by rw [p3, h6]; grind) (by rw [p3, h6]; grind)
  rw [p50, h6] at this
  obtain ⟨c1, c2, c3⟩ := this
  exact ⟨c1, by grind, by grind⟩
theorem Nr.le {x : UInt64} {R e f : Rat} (hx : Nr x R e) (h : e ≤ f) : Nr x R f := ⟨hx.1, by have := hx.2.1; grind, by have := hx.2.2; grind⟩
theorem Nr.eq {x : UInt64} {R S e : Rat} (hx : Nr x R e) (h : R = S) : Nr x S e := h ▸ hx
theorem Ex.nr {x : UInt64} {i : Int} (h : Ex x i) : Nr x ((i : Rat) / 1048576) 0 := ⟨h.1, by rw [h.Fv]; grind, by rw [h.Fv]; grind⟩
theorem third_nr : Nr third64 (1 / 3) ep := by
  have hd : decode third64 = .fin false 6004799503160661 (-54) := by kernel_rfl
  have hv : val third64 = (6004799503160661 * 2 ^ 1020 : Nat) := (Float64.val_eq hd).trans (by decide +kernel)
  have e : Fv third64 = 6004799503160661 / 18014398509481984 := by unfold Fv; rw [hv]; decide +kernel
  exact ⟨⟨_, _, _, hd⟩, by rw [e]; grind, by rw [e]; grind⟩
theorem sixth_nr : Nr sixth64 (1 / 6) ep := by
  have hd : decode sixth64 = .fin false 6004799503160661 (-55) := by kernel_rfl
  have hv : val sixth64 = (6004799503160661 * 2 ^ 1019 : Nat) := (Float64.val_eq hd).trans (by decide +kernel)
  have e : Fv sixth64 = 6004799503160661 / 36028797018963968 := by unfold Fv; rw [hv]; decide +kernel
  exact ⟨⟨_, _, _, hd⟩, by rw [e]; grind, by rw [e]; grind⟩
theorem twothird_nr : Nr twothird64 (2 / 3) ep := by
  have hd : decode twothird64 = .fin false 6004799503160661 (-53) := by kernel_rfl
  have hv : val twothird64 = (6004799503160661 * 2 ^ 1021 : Nat) := (Float64.val_eq hd).trans (by decide +kernel)
  have e : Fv twothird64 = 6004799503160661 / 9007199254740992 := by unfold Fv; rw [hv]; decide +kernel
  exact ⟨⟨_, _, _, hd⟩, by rw [e]; grind, by rw [e]; grind⟩
theorem half_Fv : Fv half64 = 1 / 2 := by rw [ex_half.Fv]; decide +kernel
end Mine
end

noncomputable section
open PySem PySem.Calls PyProof.Rows PySem.W PySem.Flt PySem.SeqAt
open PySem.Float64 (val Right V dist decode decode_ge pack infMag sgn)
set_option Elab.async false
set_option linter.unusedVariables false
namespace Mine
theorem mul_small' {d t e : Rat} (h1 : -e ≤ d) (h2 : d ≤ e) (t0 : -1 ≤ t) (t1 : t ≤ 1) : -e ≤ d * t ∧ d * t ≤ e := by
  rcases Rat.le_total (a := 0) (b := t) with h | h
  · exact mul_small h1 h2 h t1
  · have := mul_small (t := -t) h1 h2 (by grind) (by grind)
    have e1 : d * -t = -(d * t) := by grind
    rw [e1] at this
    constructor <;> grind
theorem Nr.mulg {x y : UInt64} {R S e f : Rat} (hx : Nr x R e) (hy : Nr y S f) (r0 : -1 ≤ R) (r1 : R ≤ 1) (s0 : -1 ≤ S - f) (s1 : S + f ≤ 1) (e1 : e ≤ 1) (f1 : f ≤ 1) : Nr (Float64.mul x y) (R * S) (e + f + ep) := by
  obtain ⟨a1, a2, a3⟩ := hx
  obtain ⟨b1, b2, b3⟩ := hy
  have m1 := mul_small' (d := Fv x - R) (e := e) (t := Fv y) (by grind) (by grind) (by grind) (by grind)
  have m2 := mul_small' (d := Fv y - S) (e := f) (t := R) (by grind) (by grind) r0 r1
  have m3 := mul_small' (d := R) (e := 1) (t := Fv y) r0 r1 (by grind) (by grind)
  have e2 : (Fv x - R) * Fv y = Fv x * Fv y - R * Fv y := by grind
  have e3 : (Fv y - S) * R = R * Fv y - R * S := by grind
  rw [e2] at m1
  rw [e3] at m2
  have := mul_nrj a1 b1 3 (by decide) (by rw [p3]; grind) (by rw [p3]; grind)
  rw [p50] at this
  obtain ⟨c1, c2, c3⟩ := this
  exact ⟨c1, by grind, by grind⟩
theorem v_near {m1 m2 hue : UInt64} {A d : Rat} (h1 : Nr m1 A (16 * ep)) (h2 : Nr m2 (A + d) (16 * ep)) (A0 : 0 ≤ A) (d0 : 0 ≤ d) (Ad : A + d ≤ 1) (hh : Fi hue) :
    (Fv (mod1 hue) ≤ 1 / 6 + ep ∧ Nr (py_v m1 m2 hue) (A + 6 * (d * Fv (mod1 hue))) (256 * ep)) ∨ (1 / 6 - ep ≤ Fv (mod1 hue) ∧ Fv (mod1 hue) ≤ 1 / 2 ∧ Nr (py_v m1 m2 hue) (A + d) (256 * ep)) ∨
    (1 / 2 ≤ Fv (mod1 hue) ∧ Fv (mod1 hue) ≤ 2 / 3 + ep ∧ Nr (py_v m1 m2 hue) (A + 6 * (d * (2 / 3 - Fv (mod1 hue)))) (256 * ep)) ∨ (2 / 3 - ep ≤ Fv (mod1 hue) ∧ Nr (py_v m1 m2 hue) A (256 * ep)) := by
  obtain ⟨f, c0, c1, _⟩ := mod1_near hh
  have s6 := sixth_nr
  have s23 := twothird_nr
  have hx : Nr (mod1 hue) (Fv (mod1 hue)) 0 := ⟨f, by grind, by grind⟩
  have hd : Nr (Float64.sub m2 m1) d (33 * ep) := ((h2.sub h1 (by grind) (by grind)).le (by grind)).eq (by grind)
  unfold py_v
  by_cases b1 : ltB (mod1 hue) sixth64 = true
  · have l1 := (ltB_Fv f s6.1).mp b1
    have := s6.2.2
    rw [if_pos b1]
    refine .inl ⟨by grind, ?_⟩
    have p := prod01 d0 (by grind) c0 c1
    have g1 := (hd.mulg hx (by grind) (by grind) (by grind) (by grind) (by grind) (by grind)).mul6 (by grind) (by grind)
    exact (h1.add g1 (by grind) (by grind)).le (by grind)
  · rw [if_neg b1]
    have l1 : Fv sixth64 ≤ Fv (mod1 hue) := Rat.not_lt.mp fun h => b1 ((ltB_Fv f s6.1).mpr h)
    have := s6.2.1
    by_cases b2 : ltB (mod1 hue) half64 = true
    · have l2 := (ltB_Fv f ex_half.1).mp b2
      rw [half_Fv] at l2
      rw [if_pos b2]
      exact .inr (.inl ⟨by grind, by grind, h2.le (by grind)⟩)
    · rw [if_neg b2]
      have l2 : Fv half64 ≤ Fv (mod1 hue) := Rat.not_lt.mp fun h => b2 ((ltB_Fv f ex_half.1).mpr h)
      rw [half_Fv] at l2
      by_cases b3 : ltB (mod1 hue) twothird64 = true
      · have l3 := (ltB_Fv f s23.1).mp b3
        have := s23.2.2
        rw [if_pos b3]
        refine .inr (.inr (.inl ⟨by grind, by grind, ?_⟩))
        have g0 : Nr (Float64.sub twothird64 (mod1 hue)) (2 / 3 - Fv (mod1 hue)) (2 * ep) := (s23.sub hx (by grind) (by grind)).le (by grind)
        have p := mul_small' (d := d) (e := 1) (t := 2 / 3 - Fv (mod1 hue)) (by grind) (by grind) (by grind) (by grind)
        have g1 := (hd.mulg g0 (by grind) (by grind) (by grind) (by grind) (by grind) (by grind)).mul6 (by grind) (by grind)
        exact (h1.add g1 (by grind) (by grind)).le (by grind)
      · rw [if_neg b3]
        have l3 : Fv twothird64 ≤ Fv (mod1 hue) := Rat.not_lt.mp fun h => b3 ((ltB_Fv f s23.1).mpr h)
        have := s23.2.1
        exact .inr (.inr (.inr ⟨by grind, h1.le (by grind)⟩))
end Mine
end

noncomputable section
open PySem PySem.Calls PyProof.Rows PySem.W PySem.Flt PySem.SeqAt
open PySem.Float64 (val Right V dist decode decode_ge pack infMag sgn)
set_option Elab.async false
set_option linter.unusedVariables false
namespace Mine
theorem int_le_of {a b : Int} (h : (a : Rat) ≤ (b : Rat) + 1 / 2) : a ≤ b := by
  have h1 : (a : Rat) < ((b + 1 : Int) : Rat) := by
    rw [Rat.intCast_add]
    have : ((1 : Int) : Rat) = 1 := by decide +kernel
    rw [this]; grind
  have := Rat.intCast_lt_intCast.mp h1
  (first | lia | omega)
theorem scale_small {D t e : Rat} (h0 : 0 ≤ D) (h1 : D ≤ 16000) (e0 : 0 ≤ e) (t0 : -e ≤ t) (t1 : t ≤ e) : -(16000 * e) ≤ D * t ∧ D * t ≤ 16000 * e := by
  have a1 := Rat.mul_le_mul_of_nonneg_left t1 h0
  have a2 := Rat.mul_le_mul_of_nonneg_left t0 h0
  have a3 := Rat.mul_le_mul_of_nonneg_right h1 e0
  constructor <;> grind
/-- what a lamp tells -/
theorem lamp_tau {m1 m2 hue : UInt64} {mx D Th : Int} (D1 : 1 ≤ D) (D2 : D ≤ 16000) (hm : -8000 ≤ mx ∧ mx - D ≤ 8000 ∧ mx ≤ 8000 ∧ -8000 ≤ mx - D) (h1 : Nr m1 (1 / 2 - (mx : Rat) / 16384) (16 * ep)) (h2 : Nr m2 (1 / 2 - (mx : Rat) / 16384 + (D : Rat) / 16384) (16 * ep)) (hh : Fi hue)
    (t1 : (Th : Rat) - 1 / 4096 ≤ 6 * ((D : Rat) * Fv hue)) (t2 : 6 * ((D : Rat) * Fv hue) ≤ (Th : Rat) + 1 / 4096) :
    ∃ Y tau n : Int, Y = Th - 6 * (D * n) ∧ 0 ≤ Y ∧ Y ≤ 6 * D ∧ ((Y ≤ D ∧ tau = Y) ∨ (D ≤ Y ∧ Y ≤ 3 * D ∧ tau = D) ∨ (3 * D ≤ Y ∧ Y ≤ 4 * D ∧ tau = 4 * D - Y) ∨ (4 * D ≤ Y ∧ tau = 0)) ∧
      Fi (py_v m1 m2 hue) ∧ ((8192 - mx + tau : Int) : Rat) - 1 / 512 ≤ 16384 * Fv (py_v m1 m2 hue) ∧ 16384 * Fv (py_v m1 m2 hue) ≤ ((8192 - mx + tau : Int) : Rat) + 1 / 512 := by
  have q1 : (1 : Rat) ≤ (D : Rat) := by have := Rat.intCast_le_intCast.mpr D1; simpa using this
  have q2 : (D : Rat) ≤ 16000 := by have := Rat.intCast_le_intCast.mpr D2; simpa using this
  have q3 : (mx : Rat) ≤ 8000 := by have := Rat.intCast_le_intCast.mpr hm.2.2.1; simpa using this
  have q4 : (mx : Rat) - (D : Rat) ≥ -8000 := by
    have := Rat.intCast_le_intCast.mpr hm.2.2.2
    rw [Rat.intCast_sub] at this
    simpa using this
  obtain ⟨f, c0, c1, n, e1, e2⟩ := mod1_near hh
  have hv := v_near h1 h2 (by grind) (by grind) (by grind) hh
  generalize Fv (mod1 hue) = xi at *
  have hs := scale_small (D := (D : Rat)) (t := xi - (Fv hue - (n : Rat))) (e := ep) (by grind) q2 (by grind) (by grind) (by grind)
  have hp0 := Rat.mul_nonneg (show (0 : Rat) ≤ (D : Rat) by grind) c0
  have hp1 := Rat.mul_le_mul_of_nonneg_left c1 (show (0 : Rat) ≤ (D : Rat) by grind)
  have hY : ((Th - 6 * (D * n) : Int) : Rat) = (Th : Rat) - 6 * ((D : Rat) * (n : Rat)) := by
    rw [Rat.intCast_sub, Rat.intCast_mul, Rat.intCast_mul]; rfl
  have ey : (D : Rat) * (xi - (Fv hue - (n : Rat))) = (D : Rat) * xi - (D : Rat) * Fv hue + (D : Rat) * (n : Rat) := by grind
  rw [ey] at hs
  have k1 : ((Th - 6 * (D * n) : Int) : Rat) - 1 / 2048 ≤ 6 * ((D : Rat) * xi) := by rw [hY]; grind
  have k2 : 6 * ((D : Rat) * xi) ≤ ((Th - 6 * (D * n) : Int) : Rat) + 1 / 2048 := by rw [hY]; grind
  generalize hYe : Th - 6 * (D * n) = Y at *
  have y0 : 0 ≤ Y := int_le_of (by
    have : ((0 : Int) : Rat) = 0 := by decide +kernel
    rw [this]; grind)
  have six : ∀ z : Int, ((z * D : Int) : Rat) = (z : Rat) * (D : Rat) := fun z => Rat.intCast_mul z D
  have y6 : Y ≤ 6 * D := int_le_of (by
    rw [six]
    have : ((6 : Int) : Rat) = 6 := by decide +kernel
    rw [this]; grind)
  have num : ∀ tau : Int, ((8192 - mx + tau : Int) : Rat) = 8192 - (mx : Rat) + (tau : Rat) := fun tau => by
    rw [Rat.intCast_add, Rat.intCast_sub]; rfl
  have ed : ∀ z : Rat, 16384 * (6 * ((D : Rat) / 16384 * z)) = 6 * ((D : Rat) * z) := fun z => by grind
  rcases hv with ⟨r1, N⟩ | ⟨r1, r2, N⟩ | ⟨r1, r2, N⟩ | ⟨r1, N⟩
  · have := Rat.mul_le_mul_of_nonneg_left r1 (show (0 : Rat) ≤ (D : Rat) by grind)
    refine ⟨Y, Y, n, hYe.symm, y0, y6, .inl ⟨int_le_of (by grind), rfl⟩, N.1, ?_, ?_⟩
    · rw [num]; have := N.2.1; have := ed xi; grind
    · rw [num]; have := N.2.2; have := ed xi; grind
  · have a1 := Rat.mul_le_mul_of_nonneg_left r1 (show (0 : Rat) ≤ (D : Rat) by grind)
    have a2 := Rat.mul_le_mul_of_nonneg_left r2 (show (0 : Rat) ≤ (D : Rat) by grind)
    refine ⟨Y, D, n, hYe.symm, y0, y6, .inr (.inl ⟨int_le_of (by grind), int_le_of (by
      rw [six]
      have : ((3 : Int) : Rat) = 3 := by decide +kernel
      rw [this]; grind), rfl⟩), N.1, ?_, ?_⟩
    · rw [num]; have := N.2.1; grind
    · rw [num]; have := N.2.2; grind
  · have a1 := Rat.mul_le_mul_of_nonneg_left r1 (show (0 : Rat) ≤ (D : Rat) by grind)
    have a2 := Rat.mul_le_mul_of_nonneg_left r2 (show (0 : Rat) ≤ (D : Rat) by grind)
    refine ⟨Y, 4 * D - Y, n, hYe.symm, y0, y6, .inr (.inr (.inl ⟨int_le_of (by
      rw [six]
      have : ((3 : Int) : Rat) = 3 := by decide +kernel
      rw [this]; grind), int_le_of (by
      rw [six]
      have : ((4 : Int) : Rat) = 4 := by decide +kernel
      rw [this]; grind), rfl⟩)), N.1, ?_, ?_⟩
    · rw [num, Rat.intCast_sub, six]
      have h4 : ((4 : Int) : Rat) = 4 := by decide +kernel
      rw [h4]; have := N.2.1; have := ed (2 / 3 - xi); grind
    · rw [num, Rat.intCast_sub, six]
      have h4 : ((4 : Int) : Rat) = 4 := by decide +kernel
      rw [h4]; have := N.2.2; have := ed (2 / 3 - xi); grind
  · have a1 := Rat.mul_le_mul_of_nonneg_left r1 (show (0 : Rat) ≤ (D : Rat) by grind)
    have h0 : ((0 : Int) : Rat) = 0 := by decide +kernel
    refine ⟨Y, 0, n, hYe.symm, y0, y6, .inr (.inr (.inr ⟨int_le_of (by
      rw [six]
      have : ((4 : Int) : Rat) = 4 := by decide +kernel
      rw [this]; grind), rfl⟩)), N.1, ?_, ?_⟩
    · rw [num, h0]; have := N.2.1; grind
    · rw [num, h0]; have := N.2.2; grind
/-- the whole part of one above nought -/
theorem toI_pos {x : UInt64} {N : Int} (hx : Fi x) (hN : 0 ≤ N) (h1 : (N : Rat) + 1 / 4 ≤ Fv x) (h2 : Fv x ≤ (N : Rat) + 3 / 4) : toI x = N := by
  have hK : (0 : Int) < (KN : Int) := Int.ofNat_lt.mpr KN_pos
  have v1 : N * (KN : Int) ≤ val x := Fv_ge_int.mp (by grind)
  have v2 : val x < (N + 1) * (KN : Int) := by
    refine Int.not_le.mp fun h => ?_
    have := Fv_ge_int.mpr h
    rw [Rat.intCast_add] at this
    have e : ((1 : Int) : Rat) = 1 := by decide +kernel
    rw [e] at this; grind
  have hpos : 0 < val x := by
    have : Fv x > 0 := by
      have := Rat.intCast_le_intCast.mpr hN
      have e : ((0 : Int) : Rat) = 0 := by decide +kernel
      rw [e] at this; grind
    refine Int.not_le.mp fun h => ?_
    have := (Fv_le_int (x := x) (n := 0)).mpr (by (first | lia | omega))
    have e : ((0 : Int) : Rat) = 0 := by decide +kernel
    rw [e] at this
    grind
  obtain ⟨a, m, e, hd⟩ := hx
  have hv := Float64.val_eq hd
  have hge := decode_ge hd
  cases a with
  | true =>
    exfalso
    rw [hv] at hpos
    generalize m * 2 ^ (e + 1074).toNat = q at hpos
    have : Float64.sgn true q = -(q : Int) := rfl
    (first | lia | omega)
  | false =>
    have hv : val x = ((m * 2 ^ (e + 1074).toNat : Nat) : Int) := hv
    have key : toI x = val x / (KN : Int) := by
      unfold toI
      rw [hd]
      show Float64.truncOf false m e = _
      unfold Float64.truncOf Float64.floorOf
      rw [if_neg (by decide)]
      rw [hv, ← Int.natCast_ediv]
      by_cases he : e ≥ 0
      · rw [if_pos he]
        have : m * 2 ^ (e + 1074).toNat = m * 2 ^ e.toNat * KN := by
          have e1 : (e + 1074).toNat = e.toNat + 1074 := by (first | lia | omega)
          rw [e1, Nat.pow_add, Nat.mul_assoc]; rfl
        rw [this, Nat.mul_div_cancel _ KN_pos]
        show (m : Int) * 2 ^ e.toNat = _
        rw [Int.natCast_mul]
        simp
      · rw [if_neg he]
        have hk : KN = 2 ^ (-e).toNat * 2 ^ (e + 1074).toNat := by
          rw [← Nat.pow_add]
          have : (-e).toNat + (e + 1074).toNat = 1074 := by (first | lia | omega)
          rw [this]; rfl
        rw [hk, Nat.mul_div_mul_right _ _ (Nat.two_pow_pos _)]
        show (m : Int).fdiv (2 ^ (-e).toNat) = _
        have e2 : ((2 : Int) ^ (-e).toNat) = ((2 ^ (-e).toNat : Nat) : Int) := by simp
        rw [e2, Int.fdiv_eq_ediv_of_nonneg _ (Int.natCast_nonneg _), Int.natCast_ediv]
    rw [key]
    refine Int.le_antisymm ?_ ?_
    · have := Int.ediv_lt_of_lt_mul hK v2
      (first | lia | omega)
    · exact Int.le_ediv_of_mul_le hK v1
theorem int16384_nr : Fi (Float64.ofInt 16384) ∧ Fv (Float64.ofInt 16384) = 16384 := by
  have hd : decode (Float64.ofInt 16384) = .fin false 4503599627370496 (-38) := by kernel_rfl
  have hx : Ex (Float64.ofInt 16384) 17179869184 := ⟨⟨_, _, _, hd⟩, (Float64.val_eq hd).trans (by decide +kernel)⟩
  exact ⟨hx.1, by rw [hx.Fv]; decide +kernel⟩
/-- the lamp's number -/
theorem lamp_toI {L : UInt64} {N : Int} (hL : Fi L) (hN : 0 ≤ N) (hN2 : N ≤ 100000) (h1 : (N : Rat) - 1 / 512 ≤ 16384 * Fv L) (h2 : 16384 * Fv L ≤ (N : Rat) + 1 / 512) :
    Float64.isFinite (Float64.add (Float64.mul (Float64.ofInt 16384) L) half64) = true ∧ toI (Float64.add (Float64.mul (Float64.ofInt 16384) L) half64) = N := by
  obtain ⟨i1, i2⟩ := int16384_nr
  have n0 : (0 : Rat) ≤ (N : Rat) := by have := Rat.intCast_le_intCast.mpr hN; simpa using this
  have n1 : (N : Rat) ≤ 100000 := by have := Rat.intCast_le_intCast.mpr hN2; simpa using this
  have m := mul_nrj i1 hL 23 (by decide) (by rw [p23, i2]; grind) (by rw [p23, i2]; grind)
  rw [p30, i2] at m
  obtain ⟨m1, m2, m3⟩ := m
  have a := add_nrj m1 ex_half.1 23 (by decide) (by rw [p23, half_Fv]; grind) (by rw [p23, half_Fv]; grind)
  rw [p30, half_Fv] at a
  obtain ⟨a1, a2, a3⟩ := a
  exact ⟨a1.fin, toI_pos a1 hN (by grind) (by grind)⟩
end Mine
end

noncomputable section
open PySem PySem.Calls PyProof.Rows PySem.W PySem.Flt PySem.SeqAt
open PySem.Float64 (val Right V dist decode decode_ge pack infMag sgn)
set_option Elab.async false
set_option linter.unusedVariables false
namespace Mine
theorem lin_r {a b : Int} : 524288 + 64 * a - (524288 + 64 * b) = 64 * (a - b) := by lia
theorem lin_s {a b : Int} : 524288 + 64 * a + (524288 + 64 * b) = 64 * (16384 + (a + b)) := by lia
theorem lin_t {a b : Int} : 2097152 - (524288 + 64 * a) - (524288 + 64 * b) = 64 * (16384 - (a + b)) := by lia
theorem lin_l {a : Int} : 64 * (16384 + a) = 2 * (524288 + 32 * a) := by lia
theorem ab_lo {a : Int} {n : Nat} (h : a.natAbs ≤ n) : -(n : Int) ≤ a := by omega
theorem ab_hi {a : Int} {n : Nat} (h : a.natAbs ≤ n) : a ≤ n := by omega
theorem ab_of {a : Int} {n : Nat} (h1 : -(n : Int) ≤ a) (h2 : a ≤ n) : a.natAbs ≤ n := by omega
theorem fit53 {i : Int} (h1 : -9007199254740992 ≤ i) (h2 : i ≤ 9007199254740992) : i.natAbs ≤ 2 ^ 53 := ab_of h1 h2
theorem colr_ex {p : Int} (h : p.natAbs ≤ 20000) : Ex (colr p) (524288 + 64 * p) := by
  have h1 : Ex (fdivII p 16384) ((64 : Nat) * p) := ex_frac (p := p) (d := 16384) (c := 64) (by decide) (by decide) (by rw [Int.natAbs_mul]; exact Nat.le_trans (Nat.mul_le_mul_left 64 h) (by decide))
  exact ex_half.add h1 (by have a := ab_lo h; have b := ab_hi h; clear h h1; show (524288 + 64 * p).natAbs ≤ _; exact fit53 (by lia) (by lia))
theorem imax_ex (a b : Int) : imax (524288 + 64 * a) (524288 + 64 * b) = 524288 + 64 * imax a b := by unfold imax; split <;> split <;> (first | lia | omega)
theorem imin_ex (a b : Int) : imin (524288 + 64 * a) (524288 + 64 * b) = 524288 + 64 * imin a b := by unfold imin; split <;> split <;> (first | lia | omega)
/-- greatest and least -/
structure MM (x y z A B : Int) : Prop where
  a1 : x ≤ A
  a2 : y ≤ A
  a3 : z ≤ A
  a4 : A = x ∨ A = y ∨ A = z
  b1 : B ≤ x
  b2 : B ≤ y
  b3 : B ≤ z
  b4 : B = x ∨ B = y ∨ B = z
theorem mm (x y z : Int) : MM x y z (max3 x y z) (min3 x y z) := by
  have h1 : ∀ a b : Int, a ≤ imax a b ∧ b ≤ imax a b ∧ (imax a b = a ∨ imax a b = b) := fun a b => by unfold imax; split <;> lia
  have h2 : ∀ a b : Int, imin a b ≤ a ∧ imin a b ≤ b ∧ (imin a b = a ∨ imin a b = b) := fun a b => by unfold imin; split <;> lia
  have p := h1 (imax x y) z
  have q := h1 x y
  have r := h2 (imin x y) z
  have s := h2 x y
  refine ⟨Int.le_trans q.1 p.1, Int.le_trans q.2.1 p.1, p.2.1, ?_, Int.le_trans r.1 s.1, Int.le_trans r.1 s.2.1, r.2.1, ?_⟩
  · exact p.2.2.elim (fun e => q.2.2.elim (fun e' => .inl (e.trans e')) fun e' => .inr (.inl (e.trans e'))) fun e => .inr (.inr e)
  · exact r.2.2.elim (fun e => s.2.2.elim (fun e' => .inl (e.trans e')) fun e' => .inr (.inl (e.trans e'))) fun e => .inr (.inr e)
theorem imax_abs {a b : Int} {n : Nat} (ha : a.natAbs ≤ n) (hb : b.natAbs ≤ n) : (imax a b).natAbs ≤ n := by unfold imax; split <;> assumption
theorem imin_abs {a b : Int} {n : Nat} (ha : a.natAbs ≤ n) (hb : b.natAbs ≤ n) : (imin a b).natAbs ≤ n := by unfold imin; split <;> assumption
theorem max3_abs {x y z : Int} {n : Nat} (hx : x.natAbs ≤ n) (hy : y.natAbs ≤ n) (hz : z.natAbs ≤ n) : (max3 x y z).natAbs ≤ n := imax_abs (imax_abs hx hy) hz
theorem min3_abs {x y z : Int} {n : Nat} (hx : x.natAbs ≤ n) (hy : y.natAbs ≤ n) (hz : z.natAbs ≤ n) : (min3 x y z).natAbs ≤ n := imin_abs (imin_abs hx hy) hz
theorem up20 {x : Int} (h : x.natAbs ≤ 8000) : x.natAbs ≤ 20000 := Nat.le_trans h (by decide)
section
variable {x y z : Int} (hx : x.natAbs ≤ 8000) (hy : y.natAbs ≤ 8000) (hz : z.natAbs ≤ 8000)
include hx hy hz
theorem mx_ex : Ex (mx (colr x) (colr y) (colr z)) (524288 + 64 * max3 x y z) := by
  have := ((colr_ex (up20 hx)).fmax (colr_ex (up20 hy))).fmax (colr_ex (up20 hz))
  rw [imax_ex, imax_ex] at this
  exact this
theorem mn_ex : Ex (mn (colr x) (colr y) (colr z)) (524288 + 64 * min3 x y z) := by
  have := ((colr_ex (up20 hx)).fmin (colr_ex (up20 hy))).fmin (colr_ex (up20 hz))
  rw [imin_ex, imin_ex] at this
  exact this
theorem mm_bound : (max3 x y z).natAbs ≤ 8000 ∧ (min3 x y z).natAbs ≤ 8000 ∧ min3 x y z ≤ max3 x y z := by
  have M := mm x y z
  exact ⟨max3_abs hx hy hz, min3_abs hx hy hz, Int.le_trans M.b1 M.a1⟩
theorem mm_lin : -8000 ≤ max3 x y z ∧ max3 x y z ≤ 8000 ∧ -8000 ≤ min3 x y z ∧ min3 x y z ≤ 8000 :=
  ⟨ab_lo (max3_abs hx hy hz), ab_hi (max3_abs hx hy hz), ab_lo (min3_abs hx hy hz), ab_hi (min3_abs hx hy hz)⟩
theorem range_ex : Ex (Float64.sub (mx (colr x) (colr y) (colr z)) (mn (colr x) (colr y) (colr z))) (64 * (max3 x y z - min3 x y z)) := by
  obtain ⟨a1, a2, b1, b2⟩ := mm_lin hx hy hz
  have h := (mx_ex hx hy hz).sub (mn_ex hx hy hz) (by clear hx hy hz; exact fit53 (by lia) (by lia))
  rwa [lin_r] at h
theorem sum_ex : Ex (Float64.add (mx (colr x) (colr y) (colr z)) (mn (colr x) (colr y) (colr z))) (64 * (16384 + (max3 x y z + min3 x y z))) := by
  obtain ⟨a1, a2, b1, b2⟩ := mm_lin hx hy hz
  have h := (mx_ex hx hy hz).add (mn_ex hx hy hz) (by clear hx hy hz; exact fit53 (by lia) (by lia))
  rwa [lin_s] at h
theorem rest_ex : Ex (Float64.sub (Float64.sub two64 (mx (colr x) (colr y) (colr z))) (mn (colr x) (colr y) (colr z))) (64 * (16384 - (max3 x y z + min3 x y z))) := by
  obtain ⟨a1, a2, b1, b2⟩ := mm_lin hx hy hz
  have h := (ex_two.sub (mx_ex hx hy hz) (by clear hx hy hz; exact fit53 (by lia) (by lia))).sub (mn_ex hx hy hz) (by clear hx hy hz; exact fit53 (by lia) (by lia))
  rwa [lin_t] at h
theorem light_ex : Ex (rgb_l (colr x) (colr y) (colr z)) (524288 + 32 * (max3 x y z + min3 x y z)) := by
  obtain ⟨a1, a2, b1, b2⟩ := mm_lin hx hy hz
  have h := sum_ex hx hy hz
  rw [lin_l] at h
  exact h.div2 (by clear h hx hy hz; exact fit53 (by lia) (by lia))
theorem light_ok : eqB (rgb_l (colr x) (colr y) (colr z)) (Float64.add half64 (fdivII (max3 x y z + min3 x y z) 32768)) = true := by
  obtain ⟨a1, a2, b1, b2⟩ := mm_lin hx hy hz
  have h1 : Ex (fdivII (max3 x y z + min3 x y z) 32768) ((32 : Nat) * (max3 x y z + min3 x y z)) := ex_frac (d := 32768) (c := 32) (by decide) (by decide) (by clear hx hy hz; exact fit53 (by lia) (by lia))
  have h2 : Ex (Float64.add half64 (fdivII (max3 x y z + min3 x y z) 32768)) (524288 + 32 * (max3 x y z + min3 x y z)) := ex_half.add h1 (by clear h1 hx hy hz; show (524288 + 32 * (max3 x y z + min3 x y z)).natAbs ≤ _; exact fit53 (by lia) (by lia))
  have h3 := light_ex hx hy hz
  rw [eqB_val h3.1 h2.1, h3.2, h2.2]
  simp
theorem same_mm : eqB (mn (colr x) (colr y) (colr z)) (mx (colr x) (colr y) (colr z)) = decide (max3 x y z - min3 x y z = 0) := by
  rw [eqB_val (mn_ex hx hy hz).1 (mx_ex hx hy hz).1]
  refine decide_eq_decide.mpr ((ex_cmp (mn_ex hx hy hz) (mx_ex hx hy hz)).2.2.trans ?_)
  (first | lia | omega)
theorem low_half : leB (rgb_l (colr x) (colr y) (colr z)) half64 = decide (max3 x y z + min3 x y z ≤ 0) := by
  rw [leB_val (light_ex hx hy hz).1 ex_half.1]
  refine decide_eq_decide.mpr ((ex_cmp (light_ex hx hy hz) ex_half).2.1.trans ?_)
  (first | lia | omega)
theorem Ex.ne {w : UInt64} {i : Int} (h : Ex w i) (hi : i ≠ 0) : val w ≠ 0 := by
  rw [h.2]
  exact Int.mul_ne_zero hi (Int.ne_of_gt (Int.ofNat_lt.mpr UN_pos))
theorem rgbOk : RgbOk (colr x) (colr y) (colr z) := by
  have hb := mm_bound hx hy hz
  have hs := same_mm hx hy hz
  refine ⟨fun h => ?_, fun _ _ => ?_, fun _ _ => ?_⟩
  · rw [hs] at h
    rw [isZero_val (range_ex hx hy hz).1]
    have hne : max3 x y z - min3 x y z ≠ 0 := by simpa using h
    exact decide_eq_false (Ex.ne hx hy hz (range_ex hx hy hz) (by clear hs hb h hx hy hz; lia))
  · rw [isZero_val (sum_ex hx hy hz).1]
    exact decide_eq_false (Ex.ne hx hy hz (sum_ex hx hy hz) (by have := mm_lin hx hy hz; clear hs hb hx hy hz; lia))
  · rw [isZero_val (rest_ex hx hy hz).1]
    exact decide_eq_false (Ex.ne hx hy hz (rest_ex hx hy hz) (by have := mm_lin hx hy hz; clear hs hb hx hy hz; lia))
end
theorem sign_pos {w : UInt64} {a : Bool} {m : Nat} {e : Int} (h : decode w = .fin a m e) (hp : 0 < val w) : a = false := by
  cases a with
  | false => rfl
  | true =>
    exfalso
    rw [Float64.val_eq h] at hp
    generalize m * 2 ^ (e + 1074).toNat = q at hp
    have : Float64.sgn true q = -(q : Int) := rfl
    (first | lia | omega)
/-- shares are told the same -/
theorem div_same {u w : UInt64} {n d : Int} (hu : Ex u (64 * n)) (hw : Ex w (64 * d)) (hn : 0 < n) (hd : 0 < d) (hnd : n ≤ 8 * d) : eqB (Float64.div u w) (fdivII n d) = true ∧ Nr (Float64.div u w) ((n : Rat) / (d : Rat)) ep := by
  have hdq : (0 : Rat) < (d : Rat) := by have := Rat.intCast_lt_intCast.mpr hd; simpa using this
  have hdne : (d : Rat) ≠ 0 := fun h => by rw [h] at hdq; exact absurd hdq (by decide)
  have hnq : (0 : Rat) < (n : Rat) := by have := Rat.intCast_lt_intCast.mpr hn; simpa using this
  have hq : (n : Rat) ≤ 8 * (d : Rat) := by
    have := Rat.intCast_le_intCast.mpr hnd
    rw [Rat.intCast_mul] at this
    have e : ((8 : Int) : Rat) = 8 := by decide +kernel
    rw [e] at this; exact this
  have hU : (0 : Int) < (UN : Int) := Int.ofNat_lt.mpr UN_pos
  have pu : 0 < val u := by rw [hu.2]; exact Int.mul_pos (by (first | lia | omega)) hU
  have pw : 0 < val w := by rw [hw.2]; exact Int.mul_pos (by (first | lia | omega)) hU
  have hN : Nr (Float64.div u w) ((n : Rat) / (d : Rat)) ep := by
    have e64 : ((64 : Int) : Rat) = 64 := by decide +kernel
    have hle : (n : Rat) / (d : Rat) ≤ 8 := Rat.le_of_mul_le_mul_right (c := (d : Rat)) (by
      have : (n : Rat) / (d : Rat) * (d : Rat) = n := by grind
      rw [this]; exact hq) hdq
    have hge : 0 ≤ (n : Rat) / (d : Rat) := Rat.le_of_mul_le_mul_right (c := (d : Rat)) (by
      have : (n : Rat) / (d : Rat) * (d : Rat) = n := by grind
      rw [this]; grind) hdq
    rw [← p50]
    refine div_nrj hu.1 hw.1 (Int.ne_of_gt pw) ?_ 3 (by decide) (by rw [p3]; grind) (by rw [p3]; grind)
    rw [hu.Fv, hw.Fv, Rat.intCast_mul, Rat.intCast_mul, e64]
    grind
  refine ⟨?_, hN⟩
  obtain ⟨a, m, e, du⟩ := id hu.1
  obtain ⟨b, k, f, dw⟩ := id hw.1
  have sa := sign_pos du pu
  have sb := sign_pos dw pw
  subst sa; subst sb
  have hk : k ≠ 0 := fun h => by
    subst h
    rw [Float64.val_eq dw, Nat.zero_mul] at pw
    exact absurd pw (by decide)
  have r1 := Float64.div_right du dw hk
  have nu : (val u).natAbs = 64 * n.toNat * UN := by
    rw [hu.2, Int.natAbs_mul, Int.natAbs_natCast, Int.natAbs_mul]
    have : n.natAbs = n.toNat := by (first | lia | omega)
    rw [this]; rfl
  have nw : (val w).natAbs = 64 * d.toNat * UN := by
    rw [hw.2, Int.natAbs_mul, Int.natAbs_natCast, Int.natAbs_mul]
    have : d.natAbs = d.toNat := by (first | lia | omega)
    rw [this]; rfl
  have r2 : Right (fdivII n d) false (n.toNat * KN) d.toNat := by
    unfold fdivII
    have s1 : (decide (n < 0) != decide (d < 0)) = false := by
      have : decide (n < 0) = false := by simp; (first | lia | omega)
      rw [this]
      have : decide (d < 0) = false := by simp; (first | lia | omega)
      rw [this]; rfl
    rw [s1, show n.natAbs = n.toNat by (first | lia | omega), show d.natAbs = d.toNat by (first | lia | omega)]
    exact Float64.ofFrac_right (by (first | lia | omega)) rfl (by (first | lia | omega))
  have hnotinf : Float64.div u w ≠ pack (false != false) infMag := fun h => by
    obtain ⟨a, m, e, hd'⟩ := hN.1
    rw [h] at hd'
    have : decode (pack (false != false) infMag) = .inf false := by kernel_rfl
    rw [this] at hd'; cases hd'
  obtain ⟨t, ht, e1, e2⟩ := right_unique r1 r2 (by rw [nw]; exact Nat.mul_pos (by (first | lia | omega)) UN_pos) (by (first | lia | omega)) (by
    rw [nu, nw]
    show 64 * n.toNat * UN * KN * d.toNat = n.toNat * KN * (64 * d.toNat * UN)
    generalize UN = p
    generalize KN = q
    ac_rfl) hnotinf
  have : fdivII n d = Float64.div u w := by rw [e1, e2]; rfl
  rw [this, eqB_val hN.1 hN.1]
  simp
end Mine
end

noncomputable section
open PySem PySem.Calls PyProof.Rows PySem.W PySem.Flt PySem.SeqAt
open PySem.Float64 (val Right V dist decode decode_ge pack infMag sgn)
set_option Elab.async false
set_option linter.unusedVariables false
namespace Mine
theorem q1 {D : Int} (h : 1 ≤ D) : (1 : Rat) ≤ (D : Rat) := by have := Rat.intCast_le_intCast.mpr h; simpa using this
theorem q16 {D : Int} (h : D ≤ 16000) : (D : Rat) ≤ 16000 := by have := Rat.intCast_le_intCast.mpr h; simpa using this
theorem low_q {D R N : Rat} (d1 : 1 ≤ D) (d2 : D ≤ 16000) (h : 6 * (D * R) = N) (hN : 1 ≤ N) : 1 / 96000 ≤ R := by
  refine Rat.not_lt.mp fun hlt => ?_
  have := Rat.mul_lt_mul_of_pos_left hlt (show 0 < D by grind)
  grind
theorem div6 {hh : UInt64} {R e : Rat} (h : Nr hh R e) (e0 : 0 ≤ e) (h1 : -8 ≤ R - e) (h2 : R + e ≤ 8) : Nr (Float64.div hh six64) (R / 6) (e + ep) := by
  obtain ⟨a1, a2, a3⟩ := h
  have h6 : Fv six64 = 6 := by rw [ex_six.Fv]; decide +kernel
  have hne : val six64 ≠ 0 := by rw [ex_six.2]; decide +kernel
  have := div_nrj (R := Fv hh / 6) a1 ex_six.1 hne (by rw [h6]; grind) 3 (by decide) (by rw [p3]; grind) (by rw [p3]; grind)
  rw [p50] at this
  obtain ⟨c1, c2, c3⟩ := this
  exact ⟨c1, by grind, by grind⟩
theorem frac_bounds {n d : Int} (hd : 1 ≤ d) {a b : Int} (h1 : a * d ≤ n) (h2 : n ≤ b * d) : (a : Rat) ≤ (n : Rat) / (d : Rat) ∧ (n : Rat) / (d : Rat) ≤ (b : Rat) := by
  have hq := q1 hd
  have hdq : (0 : Rat) < (d : Rat) := by grind
  have e : (n : Rat) / (d : Rat) * (d : Rat) = n := by grind
  have i1 := Rat.intCast_le_intCast.mpr h1
  have i2 := Rat.intCast_le_intCast.mpr h2
  rw [Rat.intCast_mul] at i1 i2
  exact ⟨Rat.le_of_mul_le_mul_right (by rw [e]; exact i1) hdq, Rat.le_of_mul_le_mul_right (by rw [e]; exact i2) hdq⟩
noncomputable def Sector (x y z A D H : Int) : Prop := (A = x ∧ z ≤ y ∧ H = y - z) ∨ (A = x ∧ y < z ∧ H = y - z + 6 * D) ∨ (A = y ∧ H = 2 * D + z - x) ∨ (A = z ∧ H = 4 * D + x - y)
/-- the hue that is told, behind the six parts -/
noncomputable def HueAt (hue : UInt64) (D H : Int) : Prop := Fi hue ∧ 0 ≤ Fv hue ∧ Fv hue < 1 ∧ (H : Rat) - 1 / 8192 ≤ 6 * ((D : Rat) * Fv hue) ∧ 6 * ((D : Rat) * Fv hue) ≤ (H : Rat) + 1 / 8192
theorem lin_e {a b : Int} : 524288 + 64 * a = 524288 + 64 * b ↔ a = b := by lia
theorem hue_pos {hh : UInt64} {N D : Int} (D1 : 1 ≤ D) (D2 : D ≤ 16000) (h : Nr hh ((N : Rat) / (D : Rat)) (8 * ep)) (n1 : 1 ≤ N) (n2 : N ≤ 6 * D - 1) : HueAt (mod1 (Float64.div hh six64)) D N := by
  have hq := q1 D1
  have hq2 := q16 D2
  have nq : (1 : Rat) ≤ (N : Rat) := q1 n1
  have nq2 : (N : Rat) ≤ 6 * (D : Rat) - 1 := by
    have := Rat.intCast_le_intCast.mpr n2
    rw [Rat.intCast_sub, Rat.intCast_mul] at this
    have e : ((6 : Int) : Rat) = 6 := by decide +kernel
    have e' : ((1 : Int) : Rat) = 1 := by decide +kernel
    rw [e, e'] at this; exact this
  have fb := frac_bounds (a := 0) (b := 6) D1 (by lia) (show N ≤ 6 * D by lia)
  have e0 : ((0 : Int) : Rat) = 0 := by decide +kernel
  have e6 : ((6 : Int) : Rat) = 6 := by decide +kernel
  rw [e0, e6] at fb
  have g := div6 h (by grind) (by grind) (by grind)
  have l1 := low_q (R := (N : Rat) / (D : Rat) / 6) hq hq2 (by grind) nq
  have l2 := low_q (R := 1 - (N : Rat) / (D : Rat) / 6) (N := 6 * (D : Rat) - N) hq hq2 (by grind) (by grind)
  obtain ⟨g1, g2, g3⟩ := g
  obtain ⟨m1, m2⟩ := mod1_same g1 (by grind) (by grind)
  have s := scale_small (D := (D : Rat)) (t := Fv (Float64.div hh six64) - (N : Rat) / (D : Rat) / 6) (e := 9 * ep) (by grind) hq2 (by grind) (by grind) (by grind)
  have e2 : (D : Rat) * (Fv (Float64.div hh six64) - (N : Rat) / (D : Rat) / 6) = (D : Rat) * Fv (Float64.div hh six64) - (N : Rat) / 6 := by grind
  rw [e2] at s
  exact ⟨m1, by grind, by grind, by rw [m2]; grind, by rw [m2]; grind⟩
theorem hue_neg {hh : UInt64} {N D : Int} (D1 : 1 ≤ D) (D2 : D ≤ 16000) (h : Nr hh ((N : Rat) / (D : Rat)) (8 * ep)) (n1 : N ≤ -1) (n2 : -D ≤ N) : HueAt (mod1 (Float64.div hh six64)) D (N + 6 * D) := by
  have hq := q1 D1
  have hq2 := q16 D2
  have nq : (N : Rat) ≤ -1 := by
    have := Rat.intCast_le_intCast.mpr n1
    have e : ((-1 : Int) : Rat) = -1 := by decide +kernel
    rw [e] at this; exact this
  have fb := frac_bounds (a := -1) (b := 0) D1 (by lia) (show N ≤ 0 * D by lia)
  have e0 : ((0 : Int) : Rat) = 0 := by decide +kernel
  have e6 : ((-1 : Int) : Rat) = -1 := by decide +kernel
  rw [e0, e6] at fb
  have g := div6 h (by grind) (by grind) (by grind)
  have l1 := low_q (R := -((N : Rat) / (D : Rat) / 6)) (N := -(N : Rat)) hq hq2 (by grind) (by grind)
  obtain ⟨g1, g2, g3⟩ := g
  obtain ⟨m1, m2, m3⟩ := mod1_neg g1 (by grind) (by grind)
  have s := scale_small (D := (D : Rat)) (t := Fv (mod1 (Float64.div hh six64)) - ((N : Rat) / (D : Rat) / 6 + 1)) (e := 10 * ep) (by grind) hq2 (by grind) (by grind) (by grind)
  have e2 : (D : Rat) * (Fv (mod1 (Float64.div hh six64)) - ((N : Rat) / (D : Rat) / 6 + 1)) = (D : Rat) * Fv (mod1 (Float64.div hh six64)) - (N : Rat) / 6 - (D : Rat) := by grind
  rw [e2] at s
  have eH : ((N + 6 * D : Int) : Rat) = (N : Rat) + 6 * (D : Rat) := by rw [Rat.intCast_add, Rat.intCast_mul]; rfl
  exact ⟨m1, by grind, by grind, by rw [eH]; grind, by rw [eH]; grind⟩
theorem sub_self_zero {c : UInt64} (h : Fi c) : Fi (Float64.sub c c) ∧ val (Float64.sub c c) = 0 := by
  obtain ⟨a, m, e, d⟩ := h
  have := (Float64.sub_right d d).1 (by lia)
  rw [this]; exact fi_zero _
theorem hue_zero {c : UInt64} {D : Int} (h : Fi c) : HueAt (mod1 (Float64.div (Float64.sub c c) six64)) D 0 := by
  obtain ⟨⟨a, m, e, d⟩, z⟩ := sub_self_zero h
  have d6 : decode six64 = .fin false 6755399441055744 (-50) := by kernel_rfl
  have hr := Float64.div_right d d6 (by decide)
  obtain ⟨f1, f2⟩ := right_exact (n := 0) (m := 0) hr (by rw [ex_six.2]; decide +kernel) (by decide) (by decide) (by rw [z]; simp)
  have z2 : val (Float64.div (Float64.sub c c) six64) = 0 := by rw [f2]; cases (a != false) <;> rfl
  have z3 := Fv_zero z2
  obtain ⟨m1, m2⟩ := mod1_same f1 (by rw [z3]; decide) (by rw [z3]; decide)
  have e0 : ((0 : Int) : Rat) = 0 := by decide +kernel
  refine ⟨m1, ?_, ?_, ?_, ?_⟩ <;> rw [m2, z3] <;> grind
section
variable {x y z : Int} (hx : x.natAbs ≤ 8000) (hy : y.natAbs ≤ 8000) (hz : z.natAbs ≤ 8000) (D1 : 1 ≤ max3 x y z - min3 x y z)
include hx hy hz D1
theorem c_near {p : Int} (h1 : min3 x y z ≤ p) (h2 : p ≤ max3 x y z) : Nr (rgb_c (colr x) (colr y) (colr z) (colr p)) (((max3 x y z - p : Int) : Rat) / ((max3 x y z - min3 x y z : Int) : Rat)) ep := by
  obtain ⟨A1, A2, B1, B2⟩ := mm_lin hx hy hz
  have n1 : Ex (Float64.sub (mx (colr x) (colr y) (colr z)) (colr p)) (64 * (max3 x y z - p)) := by
    have h := (mx_ex hx hy hz).sub (colr_ex (p := p) (ab_of (n := 20000) (by clear hx hy hz; lia) (by clear hx hy hz; lia))) (by clear hx hy hz; exact fit53 (by lia) (by lia))
    rwa [lin_r] at h
  have n2 := range_ex hx hy hz
  have fb := frac_bounds (n := max3 x y z - p) (a := 0) (b := 1) D1 (by lia) (by lia)
  have e0 : ((0 : Int) : Rat) = 0 := by decide +kernel
  have e1 : ((1 : Int) : Rat) = 1 := by decide +kernel
  have e64 : ((64 : Int) : Rat) = 64 := by decide +kernel
  rw [e0, e1] at fb
  have hq := q1 D1
  unfold rgb_c
  rw [← p50]
  refine div_nrj n1.1 n2.1 (Ex.ne hx hy hz n2 (by clear hx hy hz; lia)) ?_ 3 (by decide) (by rw [p3]; grind) (by rw [p3]; grind)
  rw [n1.Fv, n2.Fv, Rat.intCast_mul, Rat.intCast_mul, e64]
  grind
theorem hue_near : ∃ H, Sector x y z (max3 x y z) (max3 x y z - min3 x y z) H ∧ HueAt (mod1 (Float64.div (rgb_h (colr x) (colr y) (colr z)) six64)) (max3 x y z - min3 x y z) H := by
  obtain ⟨A1, A2, B1, B2⟩ := mm_lin hx hy hz
  have M := mm x y z
  obtain ⟨a1, a2, a3, a4, b1, b2, b3, b4⟩ := M
  have cx := c_near hx hy hz D1 b1 a1
  have cy := c_near hx hy hz D1 b2 a2
  have cz := c_near hx hy hz D1 b3 a3
  have eqm : ∀ p : Int, p.natAbs ≤ 8000 → eqB (colr p) (mx (colr x) (colr y) (colr z)) = decide (p = max3 x y z) := fun p hp => by
    rw [eqB_val (colr_ex (up20 hp)).1 (mx_ex hx hy hz).1]
    exact decide_eq_decide.mpr ((ex_cmp (colr_ex (up20 hp)) (mx_ex hx hy hz)).2.2.trans lin_e)
  have D2 : max3 x y z - min3 x y z ≤ 16000 := by clear cx cy cz eqm; lia
  have hq := q1 D1
  have fb := fun (p : Int) (h1 : min3 x y z ≤ p) (h2 : p ≤ max3 x y z) => frac_bounds (n := max3 x y z - p) (a := 0) (b := 1) D1 (by lia) (by lia)
  have e0 : ((0 : Int) : Rat) = 0 := by decide +kernel
  have e1 : ((1 : Int) : Rat) = 1 := by decide +kernel
  have e2 : ((2 : Int) : Rat) = 2 := by decide +kernel
  have e4 : ((4 : Int) : Rat) = 4 := by decide +kernel
  have fx := fb x b1 a1
  have fy := fb y b2 a2
  have fz := fb z b3 a3
  rw [e0, e1] at fx fy fz
  unfold rgb_h
  rw [eqm x hx, eqm y hy]
  generalize hA : max3 x y z = A at *
  generalize hD : A - min3 x y z = D at *
  have hDne : (D : Rat) ≠ 0 := fun h => by rw [h] at hq; exact absurd hq (by decide)
  by_cases s1 : x = A
  · rw [if_pos (by simpa using s1)]
    by_cases hyz : y = z
    · subst hyz
      exact ⟨0, .inl ⟨s1.symm, Int.le_refl _, by lia⟩, hue_zero cy.1⟩
    · have hN : Nr (Float64.sub (rgb_c (colr x) (colr y) (colr z) (colr z)) (rgb_c (colr x) (colr y) (colr z) (colr y))) (((y - z : Int) : Rat) / (D : Rat)) (8 * ep) := by
        refine ((cz.sub cy (by grind) (by grind)).le (by grind)).eq ?_
        rw [Rat.intCast_sub, Rat.intCast_sub, Rat.intCast_sub]; grind
      by_cases h : y < z
      · exact ⟨y - z + 6 * D, .inr (.inl ⟨s1.symm, h, rfl⟩), hue_neg D1 D2 hN (by lia) (by lia)⟩
      · exact ⟨y - z, .inl ⟨s1.symm, by lia, rfl⟩, hue_pos D1 D2 hN (by lia) (by lia)⟩
  · rw [if_neg (by simpa using s1)]
    by_cases s2 : y = A
    · rw [if_pos (by simpa using s2)]
      have hN : Nr (Float64.sub (Float64.add two64 (rgb_c (colr x) (colr y) (colr z) (colr x))) (rgb_c (colr x) (colr y) (colr z) (colr z))) (((2 * D + z - x : Int) : Rat) / (D : Rat)) (8 * ep) := by
        have t2 : Nr two64 2 0 := ex_two.nr.eq (by decide +kernel)
        refine (((t2.add cx (by grind) (by grind)).sub cz (by grind) (by grind)).le (by grind)).eq ?_
        rw [Rat.intCast_sub, Rat.intCast_sub, Rat.intCast_sub, Rat.intCast_add, Rat.intCast_mul, e2]; grind
      exact ⟨2 * D + z - x, .inr (.inr (.inl ⟨s2.symm, rfl⟩)), hue_pos D1 D2 hN (by lia) (by lia)⟩
    · rw [if_neg (by simpa using s2)]
      have s3 : z = A := by lia
      have hN : Nr (Float64.sub (Float64.add four64 (rgb_c (colr x) (colr y) (colr z) (colr y))) (rgb_c (colr x) (colr y) (colr z) (colr x))) (((4 * D + x - y : Int) : Rat) / (D : Rat)) (8 * ep) := by
        have t2 : Nr four64 4 0 := ex_four.nr.eq (by decide +kernel)
        refine (((t2.add cy (by grind) (by grind)).sub cx (by grind) (by grind)).le (by grind)).eq ?_
        rw [Rat.intCast_sub, Rat.intCast_sub, Rat.intCast_sub, Rat.intCast_add, Rat.intCast_mul, e4]; grind
      exact ⟨4 * D + x - y, .inr (.inr (.inr ⟨s3.symm, rfl⟩)), hue_pos D1 D2 hN (by lia) (by lia)⟩
end
end Mine
end

noncomputable section
open PySem PySem.Calls PyProof.Rows PySem.W PySem.Flt PySem.SeqAt
open PySem.Float64 (val Right V dist decode decode_ge pack infMag sgn)
set_option Elab.async false
set_option linter.unusedVariables false
namespace Mine
theorem k_third {k : Int} (h0 : 0 ≤ k) (h3 : k < 3) : Nr (fdivII (2 * k) 3) (2 * (k : Rat) / 3) ep := by
  have kq : (0 : Rat) ≤ (k : Rat) := by have := Rat.intCast_le_intCast.mpr h0; simpa using this
  have kq3 : (k : Rat) ≤ 3 := by have := Rat.intCast_le_intCast.mpr (Int.le_of_lt h3); simpa using this
  have r2 : Right (fdivII (2 * k) 3) false ((2 * k).toNat * KN) 3 := by
    unfold fdivII
    have s1 : (decide (2 * k < 0) != decide ((3 : Int) < 0)) = false := by
      have : decide (2 * k < 0) = false := by simp; lia
      rw [this]; rfl
    rw [s1, show (2 * k).natAbs = (2 * k).toNat by lia]
    exact Float64.ofFrac_right (by decide) rfl (by decide)
  rw [← p50]
  refine nr_of_right r2 (by decide) 3 (by decide) ?_ (by rw [p3]; grind) (by rw [p3]; grind)
  have e3 : ((3 : Nat) : Rat) = 3 := by decide +kernel
  have e1 : sgQ false ((2 * k).toNat * KN) = 2 * k * (KN : Int) := by
    unfold sgQ
    rw [if_neg (by decide), Int.natCast_mul, Int.toNat_of_nonneg (by lia)]
  have e2 : ((2 : Int) : Rat) = 2 := by decide +kernel
  rw [e1, e3, Rat.intCast_mul, Rat.intCast_mul, Rat.intCast_natCast, e2]
  grind
noncomputable def spinOf (k : Int) (hue : UInt64) : UInt64 := mod1 (Float64.sub (Float64.add half64 (fdivII (2 * k) 3)) hue)
theorem half_nr : Nr half64 (1 / 2) 0 := ⟨ex_half.1, by rw [half_Fv]; grind, by rw [half_Fv]; grind⟩
theorem fv_nr {x : UInt64} (h : Fi x) : Nr x (Fv x) 0 := ⟨h, by grind, by grind⟩
theorem spin_at {hue : UInt64} {D H k : Int} (D1 : 1 ≤ D) (D2 : D ≤ 16000) (hh : HueAt hue D H) (h0 : 0 ≤ k) (h3 : k < 3) :
    Fi (spinOf k hue) ∧ 0 ≤ Fv (spinOf k hue) ∧ Fv (spinOf k hue) ≤ 1 ∧ ∃ n0 : Int, ((3 * D + 4 * (k * D) - H - 6 * (D * n0) : Int) : Rat) - 1 / 8000 ≤ 6 * ((D : Rat) * Fv (spinOf k hue)) ∧ 6 * ((D : Rat) * Fv (spinOf k hue)) ≤ ((3 * D + 4 * (k * D) - H - 6 * (D * n0) : Int) : Rat) + 1 / 8000 := by
  obtain ⟨f, u0, u1, u2, u3⟩ := hh
  have hq := q1 D1
  have hq2 := q16 D2
  have kq : (0 : Rat) ≤ (k : Rat) := by have := Rat.intCast_le_intCast.mpr h0; simpa using this
  have kq3 : (k : Rat) ≤ 3 := by have := Rat.intCast_le_intCast.mpr (Int.le_of_lt h3); simpa using this
  have g := (half_nr.add (k_third h0 h3) (by grind) (by grind)).sub (fv_nr f) (by grind) (by grind)
  obtain ⟨g1, g2, g3⟩ := g
  obtain ⟨m1, m2, m3, n0, m4, m5⟩ := mod1_near g1
  refine ⟨m1, m2, m3, n0, ?_⟩
  have s := scale_small (D := (D : Rat)) (t := Fv (spinOf k hue) - (1 / 2 + 2 * (k : Rat) / 3 - Fv hue - (n0 : Rat))) (e := 8 * ep) (by grind) hq2 (by grind) (by unfold spinOf; grind) (by unfold spinOf; grind)
  have e1 : (D : Rat) * (Fv (spinOf k hue) - (1 / 2 + 2 * (k : Rat) / 3 - Fv hue - (n0 : Rat))) = (D : Rat) * Fv (spinOf k hue) - (D : Rat) / 2 - 2 * ((k : Rat) * (D : Rat)) / 3 + (D : Rat) * Fv hue + (D : Rat) * (n0 : Rat) := by grind
  rw [e1] at s
  have eI : ((3 * D + 4 * (k * D) - H - 6 * (D * n0) : Int) : Rat) = 3 * (D : Rat) + 4 * ((k : Rat) * (D : Rat)) - (H : Rat) - 6 * ((D : Rat) * (n0 : Rat)) := by
    rw [Rat.intCast_sub, Rat.intCast_sub, Rat.intCast_add, Rat.intCast_mul, Rat.intCast_mul, Rat.intCast_mul, Rat.intCast_mul, Rat.intCast_mul]; rfl
  rw [eI]
  constructor <;> grind
/-- the three lamps' hues -/
theorem arg_at {sp : UInt64} {D T : Int} (D1 : 1 ≤ D) (D2 : D ≤ 16000) (f : Fi sp) (u0 : 0 ≤ Fv sp) (u1 : Fv sp ≤ 1) (t1 : (T : Rat) - 1 / 8000 ≤ 6 * ((D : Rat) * Fv sp)) (t2 : 6 * ((D : Rat) * Fv sp) ≤ (T : Rat) + 1 / 8000) :
    (Fi (Float64.add sp third64) ∧ ((T + 2 * D : Int) : Rat) - 1 / 4096 ≤ 6 * ((D : Rat) * Fv (Float64.add sp third64)) ∧ 6 * ((D : Rat) * Fv (Float64.add sp third64)) ≤ ((T + 2 * D : Int) : Rat) + 1 / 4096) ∧
    (Fi (Float64.sub sp third64) ∧ ((T - 2 * D : Int) : Rat) - 1 / 4096 ≤ 6 * ((D : Rat) * Fv (Float64.sub sp third64)) ∧ 6 * ((D : Rat) * Fv (Float64.sub sp third64)) ≤ ((T - 2 * D : Int) : Rat) + 1 / 4096) := by
  have hq := q1 D1
  have hq2 := q16 D2
  have e2 : ((2 : Int) : Rat) = 2 := by decide +kernel
  obtain ⟨a1, a2, a3⟩ := (fv_nr f).add third_nr (by grind) (by grind)
  obtain ⟨b1, b2, b3⟩ := (fv_nr f).sub third_nr (by grind) (by grind)
  have s1 := scale_small (D := (D : Rat)) (t := Fv (Float64.add sp third64) - (Fv sp + 1 / 3)) (e := 4 * ep) (by grind) hq2 (by grind) (by grind) (by grind)
  have s2 := scale_small (D := (D : Rat)) (t := Fv (Float64.sub sp third64) - (Fv sp - 1 / 3)) (e := 4 * ep) (by grind) hq2 (by grind) (by grind) (by grind)
  have e1 : (D : Rat) * (Fv (Float64.add sp third64) - (Fv sp + 1 / 3)) = (D : Rat) * Fv (Float64.add sp third64) - (D : Rat) * Fv sp - (D : Rat) / 3 := by grind
  have e3 : (D : Rat) * (Fv (Float64.sub sp third64) - (Fv sp - 1 / 3)) = (D : Rat) * Fv (Float64.sub sp third64) - (D : Rat) * Fv sp + (D : Rat) / 3 := by grind
  rw [e1] at s1
  rw [e3] at s2
  refine ⟨⟨a1, ?_, ?_⟩, ⟨b1, ?_, ?_⟩⟩
  · rw [Rat.intCast_add, Rat.intCast_mul, e2]; grind
  · rw [Rat.intCast_add, Rat.intCast_mul, e2]; grind
  · rw [Rat.intCast_sub, Rat.intCast_mul, e2]; grind
  · rw [Rat.intCast_sub, Rat.intCast_mul, e2]; grind
theorem Nr.mull {x y : UInt64} {S f : Rat} (hx : Fi x) (x0 : 0 ≤ Fv x) (x1 : Fv x ≤ 1) (hy : Nr y S f) (s0 : -3 ≤ S - f) (s1 : S + f ≤ 3) (f1 : f ≤ 1) : Nr (Float64.mul x y) (Fv x * S) (f + ep) := by
  obtain ⟨b1, b2, b3⟩ := hy
  have m1 := mul_small (d := Fv y - S) (e := f) (t := Fv x) (by grind) (by grind) x0 x1
  have m2 := mul_small (d := Fv y) (e := 3) (t := Fv x) (by grind) (by grind) x0 x1
  have e2 : (Fv y - S) * Fv x = Fv x * Fv y - Fv x * S := by grind
  have e3 : Fv y * Fv x = Fv x * Fv y := by grind
  rw [e2] at m1
  rw [e3] at m2
  have := mul_nrj hx b1 3 (by decide) (by rw [p3]; grind) (by rw [p3]; grind)
  rw [p50] at this
  obtain ⟨c1, c2, c3⟩ := this
  exact ⟨c1, by grind, by grind⟩
theorem ex_Fv' {x : UInt64} {i : Int} (h : Ex x i) : 1048576 * Fv x = (i : Rat) := by rw [h.Fv]; grind
/-- the two lights -/
theorem m_near {l s : UInt64} {A B : Int} (hA : A.natAbs ≤ 8000) (hB : B.natAbs ≤ 8000) (hAB : B < A) (hl : Ex l (524288 - 32 * (A + B))) (hs : Nr s (((A - B : Int) : Rat) / ((16384 - iabs (A + B) : Int) : Rat)) ep) :
    Nr (hls_m2 l s) (1 / 2 - (A : Rat) / 16384 + ((A - B : Int) : Rat) / 16384) (16 * ep) ∧ Nr (Float64.sub (Float64.mul two64 l) (hls_m2 l s)) (1 / 2 - (A : Rat) / 16384) (16 * ep) := by
  have qa : (A : Rat) ≤ 8000 := by have := Rat.intCast_le_intCast.mpr (show A ≤ 8000 from ab_hi hA); simpa using this
  have qa' : (-8000 : Rat) ≤ (A : Rat) := by
    have := Rat.intCast_le_intCast.mpr (show -8000 ≤ A from ab_lo hA)
    have e : ((-8000 : Int) : Rat) = -8000 := by decide +kernel
    rw [e] at this; exact this
  have qb : (B : Rat) ≤ 8000 := by have := Rat.intCast_le_intCast.mpr (show B ≤ 8000 from ab_hi hB); simpa using this
  have qb' : (-8000 : Rat) ≤ (B : Rat) := by
    have := Rat.intCast_le_intCast.mpr (show -8000 ≤ B from ab_lo hB)
    have e : ((-8000 : Int) : Rat) = -8000 := by decide +kernel
    rw [e] at this; exact this
  have qab : (B : Rat) ≤ (A : Rat) := Rat.intCast_le_intCast.mpr (by lia)
  have hlv : Fv l = 1 / 2 - ((A : Rat) + (B : Rat)) / 32768 := by
    have := ex_Fv' hl
    rw [Rat.intCast_sub, Rat.intCast_mul, Rat.intCast_add] at this
    have e1 : ((524288 : Int) : Rat) = 524288 := by decide +kernel
    have e2 : ((32 : Int) : Rat) = 32 := by decide +kernel
    rw [e1, e2] at this
    grind
  have A1 : -8000 ≤ A := ab_lo hA
  have A2 : A ≤ 8000 := ab_hi hA
  have B1 : -8000 ≤ B := ab_lo hB
  have B2 : B ≤ 8000 := ab_hi hB
  have hiab : (0 ≤ A + B ∧ iabs (A + B) = A + B) ∨ (A + B < 0 ∧ iabs (A + B) = -(A + B)) := by clear hA hB; unfold iabs; split <;> lia
  have hden : 1 ≤ 16384 - iabs (A + B) := by clear hA hB; lia
  have fb := frac_bounds (n := A - B) (a := 0) (b := 1) hden (by clear hA hB; lia) (by clear hA hB; lia)
  have e0 : ((0 : Int) : Rat) = 0 := by decide +kernel
  have e1 : ((1 : Int) : Rat) = 1 := by decide +kernel
  rw [e0, e1] at fb
  have hdq := q1 hden
  have hprod : ((A - B : Int) : Rat) / ((16384 - iabs (A + B) : Int) : Rat) * ((16384 - iabs (A + B) : Int) : Rat) = (A : Rat) - (B : Rat) := by
    rw [Rat.intCast_sub A B]; grind
  have hm2 : Nr (hls_m2 l s) (1 / 2 - (A : Rat) / 16384 + ((A - B : Int) : Rat) / 16384) (8 * ep) := by
    have hle : leB l half64 = decide (0 ≤ A + B) := by
      rw [leB_val hl.1 ex_half.1]
      exact decide_eq_decide.mpr ((ex_cmp hl ex_half).2.1.trans (by lia))
    unfold hls_m2
    rw [hle]
    by_cases hp : 0 ≤ A + B
    · rw [if_pos (by simpa using hp)]
      have hi : ((16384 - iabs (A + B) : Int) : Rat) = 16384 - ((A : Rat) + (B : Rat)) := by
        have : iabs (A + B) = A + B := by unfold iabs; rw [if_neg (by lia)]
        rw [this, Rat.intCast_sub, Rat.intCast_add]; rfl
      rw [hi] at hprod hs fb hdq
      generalize ((A - B : Int) : Rat) / (16384 - ((A : Rat) + (B : Rat))) = sg at *
      have n1 : Nr one64 1 0 := ex_one.nr.eq (by decide +kernel)
      have g := Nr.mull hl.1 (by grind) (by grind) (n1.add hs (by grind) (by grind)) (by grind) (by grind) (by grind)
      refine (g.le (by grind)).eq ?_
      rw [hlv, Rat.intCast_sub]; grind
    · rw [if_neg (by simpa using hp)]
      have hi : ((16384 - iabs (A + B) : Int) : Rat) = 16384 + ((A : Rat) + (B : Rat)) := by
        have : iabs (A + B) = -(A + B) := by unfold iabs; rw [if_pos (by lia)]
        rw [this, Rat.intCast_sub, Rat.intCast_neg, Rat.intCast_add]
        have e : ((16384 : Int) : Rat) = 16384 := by decide +kernel
        rw [e]; grind
      rw [hi] at hprod hs fb hdq
      have pr := prod01 (s := Fv l) (t := ((A - B : Int) : Rat) / (16384 + ((A : Rat) + (B : Rat)))) (by grind) (by grind) fb.1 fb.2
      generalize ((A - B : Int) : Rat) / (16384 + ((A : Rat) + (B : Rat))) = sg at *
      have g := (((fv_nr hl.1).add hs (by grind) (by grind)).sub (Nr.mull hl.1 (by grind) (by grind) hs (by grind) (by grind) (by grind)) (by grind) (by grind))
      refine (g.le (by grind)).eq ?_
      rw [hlv, Rat.intCast_sub]; grind
  refine ⟨hm2.le (by grind), ?_⟩
  have t2 : Fv two64 = 2 := by rw [ex_two.Fv]; decide +kernel
  have tl := mul_nrj ex_two.1 hl.1 3 (by decide) (by rw [p3, t2, hlv]; grind) (by rw [p3, t2, hlv]; grind)
  rw [p50, t2] at tl
  have ed : ((A - B : Int) : Rat) = (A : Rat) - (B : Rat) := Rat.intCast_sub A B
  refine ((tl.sub hm2 (by rw [hlv, ed]; grind) (by rw [hlv, ed]; grind)).le (by grind)).eq ?_
  rw [hlv, ed]; grind
end Mine
end

noncomputable section
open PySem PySem.Calls PyProof.Rows PySem.W PySem.Flt PySem.SeqAt
open PySem.Float64 (val Right V dist decode decode_ge pack infMag sgn)
set_option Elab.async false
set_option linter.unusedVariables false
namespace Mine
noncomputable def swp (k x y z : Int) : List Int := if k = 0 then [x, z, y] else if k = 1 then [z, y, x] else [y, x, z]
noncomputable def Region (D Y tau : Int) : Prop := (Y ≤ D ∧ tau = Y) ∨ (D ≤ Y ∧ Y ≤ 3 * D ∧ tau = D) ∨ (3 * D ≤ Y ∧ Y ≤ 4 * D ∧ tau = 4 * D - Y) ∨ (4 * D ≤ Y ∧ tau = 0)
theorem trap_low {D Y tau : Int} (R : Region D Y tau) (D1 : 1 ≤ D) (h : Y ≤ D) : tau = Y := by unfold Region at R; lia
theorem trap_flat {D Y tau : Int} (R : Region D Y tau) (D1 : 1 ≤ D) (h : D ≤ Y) (h' : Y ≤ 3 * D) : tau = D := by unfold Region at R; lia
theorem trap_down {D Y tau : Int} (R : Region D Y tau) (D1 : 1 ≤ D) (h : 3 * D ≤ Y) (h' : Y ≤ 4 * D) : tau = 4 * D - Y := by unfold Region at R; lia
theorem trap_zero {D Y tau : Int} (R : Region D Y tau) (D1 : 1 ≤ D) (h : 4 * D ≤ Y) : tau = 0 := by unfold Region at R; lia
/-- the greatest one, the next and the one before it round the wheel -/
structure Top3 (p q r D h : Int) : Prop where
  d : 1 ≤ D
  h : h = q - r
  b : (D = p - r ∧ r ≤ q ∧ q ≤ p) ∨ (D = p - q ∧ q < r ∧ r ≤ p)
theorem whole_turns {D Y c N : Int} (D1 : 1 ≤ D) (c0 : 0 ≤ c) (c6 : c ≤ 6 * D) (y0 : 0 ≤ Y) (y6 : Y ≤ 6 * D) (hY : Y = c - 6 * (D * N)) : Y = c ∨ (c = 0 ∧ Y = 6 * D) ∨ (c = 6 * D ∧ Y = 0) := by
  have n1 : ¬ 2 ≤ N := fun h => by have := Int.mul_le_mul_of_nonneg_left h (show 0 ≤ D by lia); lia
  have n2 : ¬ N ≤ -2 := fun h => by have := Int.mul_le_mul_of_nonneg_left h (show 0 ≤ D by lia); lia
  have : N = 0 ∨ N = -1 ∨ N = 1 := by lia
  rcases this with rfl | rfl | rfl <;> lia
theorem top_p {p q r D h Y tau N : Int} (T : Top3 p q r D h) (y0 : 0 ≤ Y) (y6 : Y ≤ 6 * D) (hY : Y = 5 * D - h - 6 * (D * N)) (R : Region D Y tau) : tau = p - p := by
  obtain ⟨d, rfl, b⟩ := T
  have hh : q - r ≤ D ∧ -D ≤ q - r := by lia
  clear b
  rw [Int.sub_self]
  rcases whole_turns d (by lia) (by lia) y0 y6 hY with rfl | ⟨e, rfl⟩ | ⟨e, rfl⟩
  · exact trap_zero R d (by lia)
  · exact trap_zero R d (by lia)
  · exact trap_low R d (by lia)
theorem top_q {p q r D h Y tau N : Int} (T : Top3 p q r D h) (y0 : 0 ≤ Y) (y6 : Y ≤ 6 * D) (hY : Y = D - h - 6 * (D * N)) (R : Region D Y tau) : tau = p - q := by
  obtain ⟨d, rfl, b⟩ := T
  rcases b with ⟨e1, e2, e3⟩ | ⟨e1, e2, e3⟩
  · rcases whole_turns d (by lia) (by lia) y0 y6 hY with rfl | ⟨e, rfl⟩ | ⟨e, rfl⟩
    · rw [trap_low R d (by lia)]; lia
    · rw [trap_zero R d (by lia)]; lia
    · lia
  · rcases whole_turns d (by lia) (by lia) y0 y6 hY with rfl | ⟨e, rfl⟩ | ⟨e, rfl⟩
    · rw [trap_flat R d (by lia) (by lia)]; lia
    · lia
    · lia
theorem top_r {p q r D h Y tau N : Int} (T : Top3 p q r D h) (y0 : 0 ≤ Y) (y6 : Y ≤ 6 * D) (hY : Y = 3 * D - h - 6 * (D * N)) (R : Region D Y tau) : tau = p - r := by
  obtain ⟨d, rfl, b⟩ := T
  rcases b with ⟨e1, e2, e3⟩ | ⟨e1, e2, e3⟩
  · rcases whole_turns d (by lia) (by lia) y0 y6 hY with rfl | ⟨e, rfl⟩ | ⟨e, rfl⟩
    · rw [trap_flat R d (by lia) (by lia)]; lia
    · lia
    · lia
  · rcases whole_turns d (by lia) (by lia) y0 y6 hY with rfl | ⟨e, rfl⟩ | ⟨e, rfl⟩
    · rw [trap_down R d (by lia) (by lia)]; lia
    · lia
    · lia
/-- by the sector -/
theorem sector_top {x y z A B D H : Int} (M : MM x y z A B) (hD : D = A - B) (D1 : 1 ≤ D) (S : Sector x y z A D H) :
    (A = x ∧ ∃ h e, H = h + 6 * (D * e) ∧ Top3 x y z D h) ∨ (A = y ∧ ∃ h, H = 2 * D + h ∧ Top3 y z x D h) ∨ (A = z ∧ ∃ h, H = 4 * D + h ∧ Top3 z x y D h) := by
  obtain ⟨a1, a2, a3, -, b1, b2, b3, b4⟩ := M
  rcases S with ⟨rfl, s2, s3⟩ | ⟨rfl, s2, s3⟩ | ⟨rfl, s3⟩ | ⟨rfl, s3⟩
  · exact .inl ⟨rfl, y - z, 0, by lia, D1, rfl, by lia⟩
  · exact .inl ⟨rfl, y - z, 1, by lia, D1, rfl, by lia⟩
  · exact .inr (.inl ⟨rfl, z - x, by lia, D1, rfl, by lia⟩)
  · exact .inr (.inr ⟨rfl, x - y, by lia, D1, rfl, by lia⟩)
theorem sh1 (D N q : Int) : D * (N - q) = D * N - D * q := Int.mul_sub ..
theorem sh2 (D N q : Int) : D * (N + q) = D * N + D * q := Int.mul_add ..
theorem int_core {x y z A B D H k off N Y tau : Int} (M : MM x y z A B) (hD : D = A - B) (D1 : 1 ≤ D) (S : Sector x y z A D H) (hk : k = 0 ∨ k = 1 ∨ k = 2) (ho : off = 1 ∨ off = 0 ∨ off = -1) (y0 : 0 ≤ Y) (y6 : Y ≤ 6 * D) (hY : Y = 3 * D + 4 * (k * D) - H + 2 * (off * D) - 6 * (D * N)) (R : Region D Y tau) :
    tau = A - (swp k x y z).getD (1 - off).toNat 0 := by
  have key : (∀ n, Y = 5 * D - H - 6 * (D * n) → tau = A - x) ∧ (∀ n, Y = D - H - 6 * (D * n) → tau = A - y) ∧ (∀ n, Y = 3 * D - H - 6 * (D * n) → tau = A - z) := by
    rcases sector_top M hD D1 S with ⟨rfl, h, e, rfl, T⟩ | ⟨rfl, h, rfl, T⟩ | ⟨rfl, h, rfl, T⟩
    · exact ⟨fun n e1 => top_p (N := n + e) T y0 y6 (by rw [sh2]; lia) R, fun n e1 => top_q (N := n + e) T y0 y6 (by rw [sh2]; lia) R, fun n e1 => top_r (N := n + e) T y0 y6 (by rw [sh2]; lia) R⟩
    · exact ⟨fun n e1 => top_r (N := n) T y0 y6 (by lia) R, fun n e1 => top_p (N := n + 1) T y0 y6 (by rw [sh2]; lia) R, fun n e1 => top_q (N := n) T y0 y6 (by lia) R⟩
    · exact ⟨fun n e1 => top_q (N := n) T y0 y6 (by lia) R, fun n e1 => top_r (N := n + 1) T y0 y6 (by rw [sh2]; lia) R, fun n e1 => top_p (N := n + 1) T y0 y6 (by rw [sh2]; lia) R⟩
  clear M hD S R
  obtain ⟨kx, ky, kz⟩ := key
  rcases hk with rfl | rfl | rfl <;> rcases ho with rfl | rfl | rfl
  · exact kx N (by lia)
  · exact kz N (by lia)
  · exact ky N (by lia)
  · exact kz (N - 1) (by rw [sh1]; lia)
  · exact ky (N - 1) (by rw [sh1]; lia)
  · exact kx N (by lia)
  · exact ky (N - 2) (by rw [sh1]; lia)
  · exact kx (N - 1) (by rw [sh1]; lia)
  · exact kz (N - 1) (by rw [sh1]; lia)
end Mine
end

noncomputable section
open PySem PySem.Calls PyProof.Rows PySem.W PySem.Flt PySem.SeqAt
open PySem.Float64 (val Right V dist decode decode_ge pack infMag sgn)
set_option Elab.async false
set_option linter.unusedVariables false
namespace Mine
theorem wk1 {T v : Rat} (h : T - 1 / 8000 ≤ v) : T - 1 / 4096 ≤ v := by grind
theorem wk2 {T v : Rat} (h : v ≤ T + 1 / 8000) : v ≤ T + 1 / 4096 := by grind
noncomputable def lampN (L : UInt64) : UInt64 := Float64.add (Float64.mul (Float64.ofInt 16384) L) half64
noncomputable def LampOk (L : UInt64) (N : Int) : Prop := Float64.isFinite (lampN L) = true ∧ toI (lampN L) = N
/-- what the colours of three numbers tell -/
structure Colours (x y z k : Int) : Prop where
  rgbOk : RgbOk (colr x) (colr y) (colr z)
  light : eqB ((py_rgb (colr x) (colr y) (colr z)).getD 1 0) (Float64.add half64 (fdivII (max3 x y z + min3 x y z) 32768)) = true
  share : eqB ((py_rgb (colr x) (colr y) (colr z)).getD 2 0) (fdivII (max3 x y z - min3 x y z) (16384 - iabs (max3 x y z + min3 x y z))) = true
  hue0 : leB 0 ((py_rgb (colr x) (colr y) (colr z)).getD 0 0) = true
  hue1 : ltB ((py_rgb (colr x) (colr y) (colr z)).getD 0 0) one64 = true
  lamps : ∀ i : Nat, i < 3 → LampOk ((py_hls (spinOf k ((py_rgb (colr x) (colr y) (colr z)).getD 0 0)) (Float64.sub one64 ((py_rgb (colr x) (colr y) (colr z)).getD 1 0)) ((py_rgb (colr x) (colr y) (colr z)).getD 2 0)).getD i 0) (8192 - (swp k x y z).getD i 0)
theorem fi_nil : Fi 0 ∧ val 0 = 0 := ⟨⟨false, 0, -1074, by kernel_rfl⟩, (Float64.val_eq (x := 0) (a := false) (m := 0) (e := -1074) (by kernel_rfl)).trans (by decide +kernel)⟩
theorem three {P : Nat → Prop} (h0 : P 0) (h1 : P 1) (h2 : P 2) : ∀ i, i < 3 → P i := fun i hi => by
  match i, hi with
  | 0, _ => exact h0
  | 1, _ => exact h1
  | 2, _ => exact h2
theorem den_ok {s : Int} (h1 : -15000 ≤ s) (h2 : s ≤ 15000) : 1 ≤ 16384 - iabs s ∧ 16384 - iabs s ≤ 16384 := by unfold iabs; split <;> lia
theorem den_neg {s : Int} (h : s ≤ 0) : 16384 - iabs s = 16384 + s := by unfold iabs; split <;> lia
theorem den_pos {s : Int} (h : ¬ s ≤ 0) : 16384 - iabs s = 16384 - s := by unfold iabs; split <;> lia
theorem lin_1 {s : Int} : 1048576 - (524288 + 32 * s) = 524288 - 32 * s := by lia
theorem lin_2 {a b : Int} (h : a - b = 0) : 524288 - 32 * (a + b) = 64 * (8192 - a) := by lia
theorem k_range {k : Int} (hk : k = 0 ∨ k = 1 ∨ k = 2) : 0 ≤ k ∧ k < 3 := by lia
theorem tau_range {D Y tau : Int} (D1 : 1 ≤ D) (y0 : 0 ≤ Y) (hR : Region D Y tau) : 0 ≤ tau ∧ tau ≤ D := by
  unfold Region at hR
  rcases hR with ⟨r1, r2⟩ | ⟨r1, r2, r3⟩ | ⟨r1, r2, r3⟩ | ⟨r1, r2⟩ <;> lia
theorem arg_1 {D n0 n k H Y : Int} (h : Y = 3 * D + 4 * (k * D) - H - 6 * (D * n0) + 2 * D - 6 * (D * n)) : Y = 3 * D + 4 * (k * D) - H + 2 * (1 * D) - 6 * (D * (n0 + n)) := by rw [Int.mul_add]; lia
theorem arg_0 {D n0 n k H Y : Int} (h : Y = 3 * D + 4 * (k * D) - H - 6 * (D * n0) - 6 * (D * n)) : Y = 3 * D + 4 * (k * D) - H + 2 * (0 * D) - 6 * (D * (n0 + n)) := by rw [Int.mul_add]; lia
theorem arg_n {D n0 n k H Y : Int} (h : Y = 3 * D + 4 * (k * D) - H - 6 * (D * n0) - 2 * D - 6 * (D * n)) : Y = 3 * D + 4 * (k * D) - H + 2 * (-1 * D) - 6 * (D * (n0 + n)) := by rw [Int.mul_add]; lia
theorem colours {x y z k : Int} (hx : x.natAbs ≤ 7500) (hy : y.natAbs ≤ 7500) (hz : z.natAbs ≤ 7500) (hk : k = 0 ∨ k = 1 ∨ k = 2) : Colours x y z k := by
  have hx8 : x.natAbs ≤ 8000 := Nat.le_trans hx (by decide)
  have hy8 : y.natAbs ≤ 8000 := Nat.le_trans hy (by decide)
  have hz8 : z.natAbs ≤ 8000 := Nat.le_trans hz (by decide)
  have hb := mm_bound hx8 hy8 hz8
  have M := mm x y z
  have A1 : -7500 ≤ max3 x y z := ab_lo (max3_abs hx hy hz)
  have A2 : max3 x y z ≤ 7500 := ab_hi (max3_abs hx hy hz)
  have B1 : -7500 ≤ min3 x y z := ab_lo (min3_abs hx hy hz)
  have B2 : min3 x y z ≤ 7500 := ab_hi (min3_abs hx hy hz)
  have AB := hb.2.2
  have hsame := same_mm hx8 hy8 hz8
  have hlow := low_half hx8 hy8 hz8
  have hlight := light_ok hx8 hy8 hz8
  have hlex := light_ex hx8 hy8 hz8
  have hl' : Ex (Float64.sub one64 (rgb_l (colr x) (colr y) (colr z))) (524288 - 32 * (max3 x y z + min3 x y z)) := by
    have h := ex_one.sub hlex (fit53 (by lia) (by lia))
    rwa [lin_1] at h
  have hden := den_ok (s := max3 x y z + min3 x y z) (by lia) (by lia)
  by_cases hD : max3 x y z - min3 x y z = 0
  · have hrgb : py_rgb (colr x) (colr y) (colr z) = [0, rgb_l (colr x) (colr y) (colr z), 0] := by
      unfold py_rgb; rw [hsame, if_pos (by simpa using hD)]
    have hlamps : ∀ sp, py_hls sp (Float64.sub one64 (rgb_l (colr x) (colr y) (colr z))) 0 = [Float64.sub one64 (rgb_l (colr x) (colr y) (colr z)), Float64.sub one64 (rgb_l (colr x) (colr y) (colr z)), Float64.sub one64 (rgb_l (colr x) (colr y) (colr z))] := fun sp => by
      unfold py_hls; rw [if_pos (by decide +kernel)]
    have hall : x = max3 x y z ∧ y = max3 x y z ∧ z = max3 x y z := by
      have hm : max3 x y z = min3 x y z := Int.sub_eq_zero.mp hD
      exact ⟨Int.le_antisymm M.a1 (hm ▸ M.b1), Int.le_antisymm M.a2 (hm ▸ M.b2), Int.le_antisymm M.a3 (hm ▸ M.b3)⟩
    have hLamp : LampOk (Float64.sub one64 (rgb_l (colr x) (colr y) (colr z))) (8192 - max3 x y z) := by
      have hv := ex_Fv' hl'
      have e1 : ((524288 - 32 * (max3 x y z + min3 x y z) : Int) : Rat) = 64 * ((8192 - max3 x y z : Int) : Rat) := by
        rw [lin_2 hD, Rat.intCast_mul]; rfl
      rw [e1] at hv
      exact lamp_toI hl'.1 (by lia) (by lia) (by grind) (by grind)
    refine ⟨rgbOk hx8 hy8 hz8, ?_, ?_, ?_, ?_, ?_⟩
    · rw [hrgb]; exact hlight
    · rw [hrgb, hD]
      have hd : 0 < (16384 - iabs (max3 x y z + min3 x y z)).natAbs := Int.natAbs_pos.mpr (Int.ne_of_gt hden.1)
      have hr : Right (fdivII 0 (16384 - iabs (max3 x y z + min3 x y z))) (decide ((0 : Int) < 0) != decide (16384 - iabs (max3 x y z + min3 x y z) < 0)) (0 * KN) (16384 - iabs (max3 x y z + min3 x y z)).natAbs := Float64.ofFrac_right hd (by rw [show (0 : Int).natAbs = 0 from rfl, Nat.zero_mul, Nat.zero_mul, Nat.zero_mul, Nat.zero_mul]) hd
      obtain ⟨f1, f2⟩ := right_exact (n := 0) (m := 0) hr hd (by decide) (by decide) (by simp)
      show eqB 0 _ = true
      rw [eqB_val fi_nil.1 f1, fi_nil.2, f2]
      generalize (decide ((0 : Int) < 0) != decide (16384 - iabs (max3 x y z + min3 x y z) < 0)) = b
      cases b <;> decide
    · rw [hrgb]; show leB 0 0 = true; decide +kernel
    · rw [hrgb]; show ltB 0 one64 = true; decide +kernel
    · rw [hrgb]
      show ∀ i : Nat, i < 3 → LampOk ((py_hls (spinOf k 0) (Float64.sub one64 (rgb_l (colr x) (colr y) (colr z))) 0).getD i 0) _
      rw [hlamps]
      have hs : ∀ i : Nat, i < 3 → (swp k x y z).getD i 0 = max3 x y z := by
        unfold swp
        split
        · exact three hall.1.symm.symm hall.2.2 hall.2.1
        · split
          · exact three hall.2.2 hall.2.1 hall.1
          · exact three hall.2.1 hall.1 hall.2.2
      refine three ?_ ?_ ?_
      · rw [hs 0 (by decide)]; exact hLamp
      · rw [hs 1 (by decide)]; exact hLamp
      · rw [hs 2 (by decide)]; exact hLamp
  · have D1 : 1 ≤ max3 x y z - min3 x y z := by lia
    have D2 : max3 x y z - min3 x y z ≤ 16000 := by lia
    have hrgb : py_rgb (colr x) (colr y) (colr z) = [mod1 (Float64.div (rgb_h (colr x) (colr y) (colr z)) six64), rgb_l (colr x) (colr y) (colr z), rgb_s (colr x) (colr y) (colr z)] := by
      unfold py_rgb; rw [hsame, if_neg (by simpa using hD)]
    obtain ⟨H, hS, hH⟩ := hue_near hx8 hy8 hz8 D1
    have hshare : eqB (rgb_s (colr x) (colr y) (colr z)) (fdivII (max3 x y z - min3 x y z) (16384 - iabs (max3 x y z + min3 x y z))) = true ∧ Nr (rgb_s (colr x) (colr y) (colr z)) (((max3 x y z - min3 x y z : Int) : Rat) / ((16384 - iabs (max3 x y z + min3 x y z) : Int) : Rat)) ep := by
      unfold rgb_s
      rw [hlow]
      by_cases hp : max3 x y z + min3 x y z ≤ 0
      · rw [if_pos (by simpa using hp)]
        rw [den_neg hp]
        exact div_same (range_ex hx8 hy8 hz8) (sum_ex hx8 hy8 hz8) D1 (by lia) (by lia)
      · rw [if_neg (by simpa using hp)]
        rw [den_pos hp]
        exact div_same (range_ex hx8 hy8 hz8) (rest_ex hx8 hy8 hz8) D1 (by lia) (by lia)
    obtain ⟨hsh, hsN⟩ := hshare
    have hs0 : eqB (rgb_s (colr x) (colr y) (colr z)) 0 = false := by
      rw [eqB_val hsN.1 fi_nil.1, fi_nil.2]
      refine decide_eq_false fun h => ?_
      have h1 := Fv_zero h
      have h2 := hsN.2.1
      rw [h1] at h2
      have hq := q1 hden.1
      have hn := q1 D1
      have hq2 : ((16384 - iabs (max3 x y z + min3 x y z) : Int) : Rat) ≤ 16384 := by have := Rat.intCast_le_intCast.mpr hden.2; simpa using this
      generalize ((16384 - iabs (max3 x y z + min3 x y z) : Int) : Rat) = d at *
      generalize ((max3 x y z - min3 x y z : Int) : Rat) = n at *
      have e : n / d * d = n := by grind
      have hle : n / d ≤ ep := by grind
      have := Rat.mul_le_mul_of_nonneg_right hle (show 0 ≤ d by grind)
      rw [e] at this
      grind
    obtain ⟨hm2, hm1⟩ := m_near hb.1 hb.2.1 (Int.lt_of_sub_pos D1) hl' hsN
    have hlamps : ∀ sp, py_hls sp (Float64.sub one64 (rgb_l (colr x) (colr y) (colr z))) (rgb_s (colr x) (colr y) (colr z)) =
        [py_v (Float64.sub (Float64.mul two64 (Float64.sub one64 (rgb_l (colr x) (colr y) (colr z)))) (hls_m2 (Float64.sub one64 (rgb_l (colr x) (colr y) (colr z))) (rgb_s (colr x) (colr y) (colr z)))) (hls_m2 (Float64.sub one64 (rgb_l (colr x) (colr y) (colr z))) (rgb_s (colr x) (colr y) (colr z))) (Float64.add sp third64),
         py_v (Float64.sub (Float64.mul two64 (Float64.sub one64 (rgb_l (colr x) (colr y) (colr z)))) (hls_m2 (Float64.sub one64 (rgb_l (colr x) (colr y) (colr z))) (rgb_s (colr x) (colr y) (colr z)))) (hls_m2 (Float64.sub one64 (rgb_l (colr x) (colr y) (colr z))) (rgb_s (colr x) (colr y) (colr z))) sp,
         py_v (Float64.sub (Float64.mul two64 (Float64.sub one64 (rgb_l (colr x) (colr y) (colr z)))) (hls_m2 (Float64.sub one64 (rgb_l (colr x) (colr y) (colr z))) (rgb_s (colr x) (colr y) (colr z)))) (hls_m2 (Float64.sub one64 (rgb_l (colr x) (colr y) (colr z))) (rgb_s (colr x) (colr y) (colr z))) (Float64.sub sp third64)] := fun sp => by
      unfold py_hls; rw [hs0]; rfl
    have hk0 := k_range hk
    refine ⟨rgbOk hx8 hy8 hz8, ?_, ?_, ?_, ?_, ?_⟩
    · rw [hrgb]; exact hlight
    · rw [hrgb]; exact hsh
    · rw [hrgb]
      refine (leB_Fv fi_nil.1 hH.1).mpr ?_
      rw [Fv_zero fi_nil.2]; exact hH.2.1
    · rw [hrgb]
      refine (ltB_Fv hH.1 ex_one.1).mpr ?_
      have : Fv one64 = 1 := by rw [ex_one.Fv]; decide +kernel
      rw [this]; exact hH.2.2.1
    · rw [hrgb]
      show ∀ i : Nat, i < 3 → LampOk ((py_hls (spinOf k (mod1 (Float64.div (rgb_h (colr x) (colr y) (colr z)) six64))) (Float64.sub one64 (rgb_l (colr x) (colr y) (colr z))) (rgb_s (colr x) (colr y) (colr z))).getD i 0) _
      rw [hlamps]
      obtain ⟨f, u0, u1, n0, t1, t2⟩ := spin_at (k := k) D1 D2 hH hk0.1 hk0.2
      generalize spinOf k (mod1 (Float64.div (rgb_h (colr x) (colr y) (colr z)) six64)) = sp at *
      obtain ⟨⟨fa, ta1, ta2⟩, ⟨fs, ts1, ts2⟩⟩ := arg_at D1 D2 f u0 u1 t1 t2
      have hmB : -8000 ≤ max3 x y z ∧ max3 x y z - (max3 x y z - min3 x y z) ≤ 8000 ∧ max3 x y z ≤ 8000 ∧ -8000 ≤ max3 x y z - (max3 x y z - min3 x y z) := by lia
      have fin : ∀ (off : Int) (L : UInt64) (Y tau n : Int), (off = 1 ∨ off = 0 ∨ off = -1) → Y = 3 * (max3 x y z - min3 x y z) + 4 * (k * (max3 x y z - min3 x y z)) - H + 2 * (off * (max3 x y z - min3 x y z)) - 6 * ((max3 x y z - min3 x y z) * (n0 + n)) → 0 ≤ Y → Y ≤ 6 * (max3 x y z - min3 x y z) →
          Region (max3 x y z - min3 x y z) Y tau → Fi L → ((8192 - max3 x y z + tau : Int) : Rat) - 1 / 512 ≤ 16384 * Fv L → 16384 * Fv L ≤ ((8192 - max3 x y z + tau : Int) : Rat) + 1 / 512 → LampOk L (8192 - (swp k x y z).getD (1 - off).toNat 0) := fun off L Y tau n ho hY y0 y6 hR hL l1 l2 => by
        have hc := int_core M rfl D1 hS hk ho y0 y6 hY hR
        have htau := tau_range D1 y0 hR
        have he : 8192 - (swp k x y z).getD (1 - off).toNat 0 = 8192 - max3 x y z + tau := by rw [hc]; clear hc; lia
        rw [he]
        exact lamp_toI hL (by clear he hc hY y0 y6; lia) (by clear he hc hY y0 y6; lia) l1 l2
      refine three ?_ ?_ ?_
      · obtain ⟨Y, tau, n, hY, y0, y6, hR, hL, l1, l2⟩ := lamp_tau D1 D2 hmB hm1 hm2 fa ta1 ta2
        exact fin 1 _ Y tau n (.inl rfl) (arg_1 hY) y0 y6 hR hL l1 l2
      · obtain ⟨Y, tau, n, hY, y0, y6, hR, hL, l1, l2⟩ := lamp_tau D1 D2 hmB hm1 hm2 f (wk1 t1) (wk2 t2)
        exact fin 0 _ Y tau n (.inr (.inl rfl)) (arg_0 hY) y0 y6 hR hL l1 l2
      · obtain ⟨Y, tau, n, hY, y0, y6, hR, hL, l1, l2⟩ := lamp_tau D1 D2 hmB hm1 hm2 fs ts1 ts2
        exact fin (-1) _ Y tau n (.inr (.inr rfl)) (arg_n hY) y0 y6 hR hL l1 l2
end Mine
end

noncomputable section
open PySem PySem.Calls PyProof.Rows PySem.W PySem.Flt PySem.SeqAt
set_option Elab.async false
set_option linter.unusedVariables false
namespace Mine
theorem turn_law : TurnLaw := fun p k W W0 W1 hsum ha hb hc k0 k3 => by
  obtain ⟨a, b, c⟩ := p
  dsimp only at hsum ha hb hc
  have hk : k = 0 ∨ k = 1 ∨ k = 2 := by clear ha hb hc hsum W0 W1; lia
  have bounds : (ti ⟨a, b, c⟩ k W).x.natAbs ≤ 7500 ∧ (ti ⟨a, b, c⟩ k W).y.natAbs ≤ 7500 ∧ (ti ⟨a, b, c⟩ k W).z.natAbs ≤ 7500 := by
    have key : ∀ j q : Int, q.natAbs ≤ 6000 → (sn k W j q).natAbs ≤ 7500 := fun j q hq => by
      have q1 := ab_lo hq
      have q2 := ab_hi hq
      refine ab_of ?_ ?_ <;> unfold sn <;> split <;> lia
    exact ⟨key 0 a ha, key 1 b hb, key 2 c hc⟩
  obtain ⟨hx, hy, hz⟩ := bounds
  have C := colours hx hy hz hk
  have hA := max3_abs hx hy hz
  have hB := min3_abs hx hy hz
  have lamp : ∀ j : Int, 0 ≤ j → j < 3 → LampOk ((ti ⟨a, b, c⟩ k W).lamps.getD j.toNat 0) (8192 - (swp k (ti ⟨a, b, c⟩ k W).x (ti ⟨a, b, c⟩ k W).y (ti ⟨a, b, c⟩ k W).z).getD j.toNat 0) := fun j j0 j3 => C.lamps j.toNat (by clear ha hb hc hsum W0 W1 hA hB hx hy hz; lia)
  refine ⟨k0, k3, fun q hq => ?_, ?_, C.rgbOk, C.light, C.share, ?_, fun j j0 j3 => (lamp j j0 j3).1, fun j j0 j3 => ?_, C.hue0, C.hue1⟩
  · rcases List.mem_cons.mp hq with rfl | hq
    · exact Nat.lt_of_le_of_lt hx (by decide)
    · rcases List.mem_cons.mp hq with rfl | hq
      · exact Nat.lt_of_le_of_lt hy (by decide)
      · rcases List.mem_cons.mp hq with rfl | hq
        · exact Nat.lt_of_le_of_lt hz (by decide)
        · cases hq
  · show (max3 (ti ⟨a, b, c⟩ k W).x (ti ⟨a, b, c⟩ k W).y (ti ⟨a, b, c⟩ k W).z + min3 (ti ⟨a, b, c⟩ k W).x (ti ⟨a, b, c⟩ k W).y (ti ⟨a, b, c⟩ k W).z).natAbs < 16000
    exact Nat.lt_of_le_of_lt (Nat.le_trans (Int.natAbs_add_le _ _) (Nat.add_le_add hA hB)) (by decide)
  · exact Nat.lt_of_le_of_lt (Nat.le_trans (Int.natAbs_sub_le _ _) (Nat.add_le_add hA hB)) (by decide)
  · have h := (lamp j j0 j3).2
    show toI (lampN ((ti ⟨a, b, c⟩ k W).lamps.getD j.toNat 0)) - 8192 + (ti ⟨a, b, c⟩ k W).pt j - (ti ⟨a, b, c⟩ k W).st j = (ti ⟨a, b, c⟩ k W).due j
    rw [h]
    have hj : j = 0 ∨ j = 1 ∨ j = 2 := by clear ha hb hc hsum W0 W1 hA hB hx hy hz h; lia
    clear lamp C h ha hb hc W0 W1 hA hB hx hy hz
    rcases hk with rfl | rfl | rfl <;> rcases hj with rfl | rfl | rfl
    · show 8192 - (a - 0) - 8192 + a - (a - 0) = 0 - a; lia
    · show 8192 - (c - 0) - 8192 + b - (b - W) = b + a; lia
    · show 8192 - (b - W) - 8192 + c - (c - 0) = c + a; lia
    · show 8192 - (c - W) - 8192 + a - (a - 0) = a + b; lia
    · show 8192 - (b - 0) - 8192 + b - (b - 0) = 0 - b; lia
    · show 8192 - (a - 0) - 8192 + c - (c - W) = c + b; lia
    · show 8192 - (b - 0) - 8192 + a - (a - W) = a + c; lia
    · show 8192 - (a - W) - 8192 + b - (b - 0) = b + c; lia
    · show 8192 - (c - 0) - 8192 + c - (c - 0) = 0 - c; lia
theorem law_runs (xs : List Int) : ∃ f, LawRun (wholeOf xs) (firstOf xs) (namesL xs) f := by
  have hW := whole_range xs
  have hr := red_range xs
  have hg := green_range xs
  exact ⟨_, law_run turn_law (r := redOf xs) (g := greenOf xs) (b := wholeOf xs - redOf xs - greenOf xs) hr.1 hg.1 (by (first | lia | omega)) (by (first | lia | omega)) hW.1 hW.2 (namesL_len xs) (namesL_mem xs)⟩
end Mine
end

noncomputable section
open PySem PySem.Calls PyProof.Rows PySem.W PySem.Flt PySem.SeqAt
set_option Elab.async false
set_option linter.unusedVariables false
set_option maxRecDepth 100000
namespace Mine
/-! what stands at the law's entry -/
noncomputable def asL : List Addr := [2, 3, 15, 17, 18, 20, 21, 22, 25, 30, 31, 32, 34, 35, 37, 38, 39, 41, 42, 44, 45, 46, 47, 49, 50, 52, 53, 54, 55, 57, 58, 60, 61, 62, 64, 65, 67, 68, 69, 71, 72, 74, 75, 76, 77, 79, 80, 82, 83, 84, 86, 87, 89, 90, 91, 92, 94, 95, 97, 98, 99, 100, 101, 102, 103, 106, 108, 109, 111, 112, 113, 115, 116, 118, 119, 120, 122, 123, 125, 126, 127, 129, 130, 132, 133, 134, 136, 137, 139, 140, 141, 144, 145, 146, 149, 150, 151, 153, 154, 156, 157, 158, 160, 161, 163, 164, 165, 168, 169]
theorem blts_ok (w : WK) : ∀ b ∈ (CC w).blts, b.1 ≠ ("__name__" : Str) ∧ bootBuiltins b.1 = some b.2 := by
  intro b hb
  simp only [CC, List.mem_cons, List.not_mem_nil, or_false] at hb
  rcases hb with rfl | rfl | rfl | rfl | rfl | rfl | rfl | rfl | rfl | rfl | rfl <;> exact ⟨by decide +kernel, by kernel_rfl⟩
noncomputable def dF (d : Data) : Option FuncData := match d with
  | .func f => some f
  | _ => none
noncomputable def dV (d : Data) : Option (Array Value) := match d with
  | .fields f => some f
  | _ => none
noncomputable def dC (d : Data) : Option ClassData := match d with
  | .cls f => some f
  | _ => none
theorem dF_inv {d : Data} {f : FuncData} (h : dF d = some f) : d = .func f := by cases d <;> cases h; rfl
theorem dV_inv {d : Data} {f : Array Value} (h : dV d = some f) : d = .fields f := by cases d <;> cases h; rfl
theorem dC_inv {d : Data} {f : ClassData} (h : dC d = some f) : d = .cls f := by cases d <;> cases h; rfl
noncomputable def sO (o : Option Value) : Option Str := match o with
  | some (.str s _) => some s
  | _ => none
theorem sO_inv {o : Option Value} {x : Str} (h : sO o = some x) : ∃ t, o = some (.str x t) := by
  cases o with
  | none => cases h
  | some v => cases v <;> cases h; exact ⟨_, rfl⟩
noncomputable def vG (o : Option Value) : Option GV := match o with
  | none => some .none
  | some (.ref a) => some (.fn a)
  | some (.float c _) => some (.av (.flt c))
  | some (.str c _) => some (.av (.str c))
  | some (.int c _) => some (.av (.int c))
  | _ => none
theorem vG_is {o : Option Value} {g : GV} (h : vG o = some g) : g.Is o := by
  cases o with
  | none => cases h; rfl
  | some v => cases v <;> cases h <;> first | rfl | exact ⟨_, rfl, .flt _ _⟩ | exact ⟨_, rfl, .str _ _⟩ | exact ⟨_, rfl, .int _ _⟩
noncomputable def dataIn (K : Frag) (a : Addr) : Option Data := (K.lookup a).map (·.data)
theorem data_at {K : Frag} {a : Addr} {d : Data} (h : dataIn K a = some d) : ∃ o, K.lookup a = some o ∧ o.data = d := Option.map_eq_some_iff.mp h
theorem data_bind {α : Type} {K : Frag} {a : Addr} {g : Data → Option α} {v : α} {F : α → Data} (hg : ∀ {d v}, g d = some v → d = F v) (h : (dataIn K a).bind g = some v) : ∃ o, K.lookup a = some o ∧ o.data = F v := by
  obtain ⟨d, h1, h2⟩ := Option.bind_eq_some_iff.mp h
  obtain ⟨o, h3, h4⟩ := data_at h1
  exact ⟨o, h3, h4.trans (hg h2)⟩
noncomputable def seenG (K : Frag) := globsL.map fun g => (nsIn K mainGlobals g.1).bind vG
noncomputable def valG := globsL.map fun g => some g.2
theorem gv_of {K : Frag} {h : Heap} {mg : Str → Option Value} (X : K.In h) (G : h.Ns mainGlobals mg) {x : Str} {gv : GV} (e : (nsIn K mainGlobals x).bind vG = some gv) : gv.Is (mg x) := by
  obtain ⟨o, h1, h2⟩ := Option.bind_eq_some_iff.mp e
  have : mg x = o := by
    cases o with
    | none => exact mg_none_of X G h1
    | some v => exact mg_of X G h1
  rw [this]
  exact vG_is h2
noncomputable def strAt (K : Frag) (c : Addr) (i : Nat) : Option Str := ((dataIn K c).bind dV).bind fun vs => sO vs[i]?
theorem str_at {K : Frag} {c : Addr} {i : Nat} {x : Str} (h : strAt K c i = some x) : ∃ o vs t, K.lookup c = some o ∧ o.data = .fields vs ∧ vs[i]? = some (.str x t) := by
  obtain ⟨vs, h1, h2⟩ := Option.bind_eq_some_iff.mp h
  obtain ⟨o, h3, h4⟩ := data_bind dV_inv h1
  obtain ⟨t, h5⟩ := sO_inv h2
  exact ⟨o, vs, t, h3, h4, h5⟩
noncomputable def fnSeen (K : Frag) (a c : Addr) := (((dataIn K a).bind dF).map (fun fd => (fd.params, fd.body, fd.scope, fd.qualname, fd.closure, fd.globals, fd.builtins, fd.code, fd.defaults)), strAt K c 1)
theorem fnAt_of {K : Frag} {h : Heap} {a : Addr} {f : FnRec} (X : K.In h) (S : fnSeen K a f.code = (some (f.params, .stmts f.body, f.scope, f.qual, f.closure, mainGlobals, builtinsNs, .ref f.code, f.dflt), some f.qual)) : FnAt h a f := by
  obtain ⟨fd, h1, e⟩ := Option.map_eq_some_iff.mp (congrArg (·.1) S)
  obtain ⟨o, h2, h3⟩ := data_bind dF_inv h1
  obtain ⟨co, vs, t, h4, h5, h6⟩ := str_at (congrArg (·.2) S)
  exact ⟨o, fd, X _ _ h2, h3, congrArg (·.1) e, congrArg (·.2.1) e, congrArg (·.2.2.1) e, congrArg (·.2.2.2.1) e, congrArg (·.2.2.2.2.1) e, congrArg (·.2.2.2.2.2.1) e, congrArg (·.2.2.2.2.2.2.1) e, congrArg (·.2.2.2.2.2.2.2.1) e, congrArg (·.2.2.2.2.2.2.2.2) e, co, vs, t, X _ _ h4, h5, h6⟩
theorem low_of {a : Addr} (h : (Nat.blt a 170 && !tabs.contains a) = true) : Low a := by
  obtain ⟨h1, h2⟩ := Bool.and_eq_true_iff.mp h
  refine ⟨Nat.blt_eq.mp h1, fun hm => ?_⟩
  rw [List.contains_iff_mem.mpr hm] at h2
  cases h2
theorem fns_low (w : WK) : ∀ f ∈ (CC w).fns, Low f.1 ∧ Low f.2.code := by
  have : ((CC w).fns.all fun f => (Nat.blt f.1 170 && !tabs.contains f.1) && (Nat.blt f.2.code 170 && !tabs.contains f.2.code)) = true := by kernel_rfl
  intro f hf
  obtain ⟨h1, h2⟩ := Bool.and_eq_true_iff.mp (List.all_eq_true.mp this f hf)
  exact ⟨low_of h1, low_of h2⟩
/-- what is looked at behind the top: the written part, read off the heap itself -/
noncomputable def fragAt (as : List Addr) (h : Heap) : Frag := as.filterMap fun a => (h.get? a).map fun o => (a, o)
theorem fragAt_in {h : Heap} (as : List Addr) : (fragAt as h).In h := by
  induction as with
  | nil => intro a o e; cases e
  | cons b as ih =>
    intro a o e
    unfold fragAt at e
    rw [List.filterMap_cons] at e
    cases hb : h.get? b with
    | none => rw [hb] at e; exact ih a o e
    | some ob =>
      rw [hb] at e
      change List.lookup a ((b, ob) :: fragAt as h) = some o at e
      rw [List.lookup_cons] at e
      cases hq : a == b with
      | true => rw [hq] at e; cases e; rw [beq_iff_eq.mp hq]; exact hb
      | false => rw [hq] at e; exact ih a o e
theorem fragAt_low {h : Heap} : ∀ q ∈ fragAt asL h, Low q.1 := by
  have h0 : (asL.all fun a => Nat.blt a 170 && !tabs.contains a) = true := by decide +kernel
  intro q hq
  obtain ⟨a, ha, e⟩ := List.mem_filterMap.mp hq
  obtain ⟨o, _, rfl⟩ := Option.map_eq_some_iff.mp e
  exact low_of (List.all_eq_true.mp h0 _ ha)
noncomputable def slotsIn (K : Frag) : Bool := match K.lookup 101 with | some ⟨_, _, .cls cd, sl⟩ => !cd.abstract && !cd.hasDel && (sl.toList[4]?).join == some (.builtin "list.__new__") | _ => false
noncomputable def seenF (K : Frag) := (findIn K (.ref 101) "__getattribute__", findIn K (.ref 101) "__getattr__", findIn K (.ref 101) "push", findIn K (.ref 101) "pop", findIn K (.ref 101) "pop_from", findIn K (.ref 101) "part_count", findIn K (.ref 101) "append",
  findIn K (.ref 101) "__getitem__", findIn K (.ref 101) "__setitem__", findIn K (.ref 101) "__iter__", findIn K (.ref 101) "__len__", findIn K (.ref 101) "__str__", findIn K (.ref 101) "__init__", findIn K (.ref 101) "__setattr__", findIn K (.ref 101) "_initial_size", specialIn K (.ref 101) "__call__", nsIn K cStatics "thirdparty.any", nsIn K mainGlobals "__builtins__", nsIn K mainGlobals "law")
noncomputable def valF : Option (Option Value) × Option (Option Value) × Option (Option Value) × Option (Option Value) × Option (Option Value) × Option (Option Value) × Option (Option Value) × Option (Option Value) × Option (Option Value) × Option (Option Value) × Option (Option Value) × Option (Option Value) × Option (Option Value) × Option (Option Value) × Option (Option Value) × Option (Option Value) × Option (Option Value) × Option (Option Value) × Option (Option Value) :=
  (some (some (.builtin "list.__getattribute__")), some none, some (some (.ref 45)), some (some (.ref 61)), some (some (.ref 53)), some (some (.ref 98)), some (some (.builtin "list.append")),
   some (some (.builtin "list.__getitem__")), some (some (.builtin "list.__setitem__")), some (some (.builtin "list.__iter__")), some (some (.ref 68)), some (some (.ref 75)), some (some (.ref 38)), some (some (.builtin "object.__setattr__")), some none, some (some (.builtin "type.__call__")), some none, some (some (.ref 4)), some (some (.ref 169)))
noncomputable def seenM (K : Frag) := (mroIn K 101 (.type "list"), mroIn K 101 (.type "module"), mroIn K 101 (.type "collections.deque"), mroIn K 101 (.type "object"), mroIn K 101 (.ref 101), instIn K (.ref 101) (.type "type"), (clsIn K 101).map (·.hasDict))
noncomputable def valM : Option Bool × Option Bool × Option Bool × Option Bool × Option Bool × Option Bool × Option Bool := (some true, some false, some false, some true, some true, some true, some true)
noncomputable def seenV (K : Frag) := ([38, 45, 53, 61, 68, 75, 98].map fun a => typeIn K (.ref a), typeIn K (.ref 101), ((dataIn K 101).bind dC).map (·.mro), (clsIn K 101).map (·.qualname), [37, 60, 97].map fun c => strAt K c 2)
noncomputable def valV : List (Option Value) × Option Value × Option (List Value) × Option Str × List (Option Str) := ([38, 45, 53, 61, 68, 75, 98].map fun _ => some (.type "function"), some (.type "type"), some [.ref 101, .type "list", .type "object"], some "_Accumulator", [37, 60, 97].map fun _ => some "/claim/cut.py")
noncomputable def seenD (K : Frag) := [25, 46, 30].map fun a => dataIn K a
noncomputable def valD : List (Option Data) := [some (.cell (some (.ref 101))), some (.seq #[.int 0 229] 0), some (.seq #[.int 0 210] 0)]
noncomputable def seenB (K : Frag) : Bool := slotsIn K && codeHdIn K 67 63 && codeHdIn K 74 70 && (K.lookup 169).isSome
noncomputable def seenN (K : Frag) := fnsL.map fun f => fnSeen K f.1 f.2.code
noncomputable def valN := fnsL.map fun f => (some (f.2.params, FuncBody.stmts f.2.body, f.2.scope, f.2.qual, f.2.closure, mainGlobals, builtinsNs, Value.ref f.2.code, f.2.dflt), some f.2.qual)

/-- what is told of the part -/
structure Told1 (K : Frag) : Prop where
  f : seenF K = valF
  m : seenM K = valM
  v : seenV K = valV
  d : seenD K = valD
  g : seenG K = valG
  b : seenB K = true
  n : seenN K = valN
theorem cls_ok {K : Frag} (T : Told1 K) : ClsOk K := by
  have f := T.f
  have m := T.m
  have v := T.v
  have B := T.b
  unfold seenB at B
  simp only [Bool.and_eq_true] at B
  exact {
    ga := congrArg (·.1) f
    ghook := congrArg (·.2.1) f
    push := congrArg (·.2.2.1) f
    pop := congrArg (·.2.2.2.1) f
    pop_from := congrArg (·.2.2.2.2.1) f
    part_count := congrArg (·.2.2.2.2.2.1) f
    append := congrArg (·.2.2.2.2.2.2.1) f
    getitem := congrArg (·.2.2.2.2.2.2.2.1) f
    setitem := congrArg (·.2.2.2.2.2.2.2.2.1) f
    iter := congrArg (·.2.2.2.2.2.2.2.2.2.1) f
    len := congrArg (·.2.2.2.2.2.2.2.2.2.2.1) f
    str := congrArg (·.2.2.2.2.2.2.2.2.2.2.2.1) f
    init := congrArg (·.2.2.2.2.2.2.2.2.2.2.2.2.1) f
    setattr := congrArg (·.2.2.2.2.2.2.2.2.2.2.2.2.2.1) f
    nosize := congrArg (·.2.2.2.2.2.2.2.2.2.2.2.2.2.2.1) f
    called := congrArg (·.2.2.2.2.2.2.2.2.2.2.2.2.2.2.2.1) f
    plain := congrArg (·.2.2.2.2.2.2.2.2.2.2.2.2.2.2.2.2.1) f
    sub := congrArg (·.1) m
    mod := congrArg (·.2.1) m
    deque := congrArg (·.2.2.1) m
    obj := congrArg (·.2.2.2.1) m
    self := congrArg (·.2.2.2.2.1) m
    typ := congrArg (·.2.2.2.2.2.1) m
    hasDict := congrArg (·.2.2.2.2.2.2) m
    fns := List.map_inj_left.mp (congrArg (·.1) v)
    meta' := congrArg (·.2.1) v
    cell := data_at (congrArg (·.headD none) T.d)
    cls := by
      obtain ⟨cd, h1, h2⟩ := Option.map_eq_some_iff.mp (congrArg (·.2.2.1) v)
      obtain ⟨o, h3, h4⟩ := data_bind dC_inv h1
      exact ⟨o, cd, h3, h4, h2⟩
    qual := congrArg (·.2.2.2.1) v
    d46 := let ⟨o, h1, h2⟩ := data_at (congrArg (·.tail.headD none) T.d); ⟨o, _, _, h1, h2⟩
    d30 := let ⟨o, h1, h2⟩ := data_at (congrArg (·.tail.tail.headD none) T.d); ⟨o, _, _, h1, h2⟩
    slots := B.1.1.1
    codes := fun c hc => str_at ((List.map_inj_left (f := fun c => strAt K c 2) (g := fun _ => some "/claim/cut.py")).mp (congrArg (·.2.2.2.2) v) c hc) }
theorem tab_ok {K : Frag} {h : Heap} (Q : Told1 K) (X : K.In h) (T : ∀ P ∈ [63, 70], h.get? P = some (tabObj #[])) : TabOk h := by
  have B := Q.b
  unfold seenB at B
  simp only [Bool.and_eq_true] at B
  have c1 : CodeHd h 67 63 := codeHd_of_K X B.1.1.2
  have c2 : CodeHd h 74 70 := codeHd_of_K X B.1.2
  have t1 := T 63 (.head _)
  have t2 := T 70 (.tail _ (.head _))
  exact ⟨⟨#[], c1.code t1 trivial, c1.tab t1⟩, ⟨#[], c2.code t2 trivial, c2.tab t2⟩⟩
theorem pg_ok {w : World} {K : Frag} {h : Heap} {mg mb : Str → Option Value} {bm : Addr} {ob : Obj} (Q : Told1 K) (lo : ∀ q ∈ K, Low q.1) (X : K.In h) (T : ∀ P ∈ [63, 70], h.get? P = some (tabObj #[])) (G : h.Ns mainGlobals mg) (B : h.Ns builtinsNs mb) (hb : ∀ x : Str, x ≠ "__name__" → mb x = bootBuiltins x) (hl : h.NoLimit) (M : BMod h mainGlobals mg bm ob) : Pg (CC (w, K)) h := by
  have C := Q.b
  unfold seenB at C
  simp only [Bool.and_eq_true] at C
  refine ⟨⟨mg, G, fun p hp => gv_of X G (List.map_inj_left.mp Q.g p hp)⟩, ⟨mb, B, fun p hp => by rw [hb _ (blts_ok (w, K) p hp).1]; exact (blts_ok (w, K) p hp).2⟩, hl, fun p hp => ?_, fns_low _, ?_, X, lo, tab_ok Q X T, mg, bm, ob, M, ?_⟩
  · exact fnAt_of X (List.map_inj_left.mp Q.n p hp)
  · obtain ⟨o, e⟩ := Option.isSome_iff_exists.mp C.2
    exact ⟨o, X _ _ e⟩
  · have hm := M.name
    rw [mg_of X G (congrArg (·.2.2.2.2.2.2.2.2.2.2.2.2.2.2.2.2.2.1) Q.f)] at hm
    cases hm
    exact ⟨by decide, by decide⟩
theorem law_at {K : Frag} {h : Heap} {mg : Str → Option Value} (Q : Told1 K) (X : K.In h) (G : h.Ns mainGlobals mg) : mg "law" = some (.ref 169) := mg_of X G (congrArg (·.2.2.2.2.2.2.2.2.2.2.2.2.2.2.2.2.2.2) Q.f)
/-- the hook -/
noncomputable def seeK : Hook where
  α := ((_ × _ × _ × _ × _ × Bool × _) × List (Option Obj))
  obs s := let K := fragAt asL s.heap; ((seenF K, seenM K, seenV K, seenD K, seenG K, seenB K, seenN K), [63, 70].map s.heap.get?)
  val _ := ((valF, valM, valV, valD, valG, true, valN), [63, 70].map fun _ => some (tabObj #[]))
  says _ h := ∃ K : Frag, Told1 K ∧ (∀ q ∈ K, Low q.1) ∧ K.In h ∧ ∀ P ∈ [63, 70], h.get? P = some (tabObj #[])
  of _ s e := ⟨fragAt asL s.heap, ⟨congrArg (·.1.1) e, congrArg (·.1.2.1) e, congrArg (·.1.2.2.1) e, congrArg (·.1.2.2.2.1) e, congrArg (·.1.2.2.2.2.1) e, congrArg (·.1.2.2.2.2.2.1) e, congrArg (·.1.2.2.2.2.2.2) e⟩, fragAt_low, fragAt_in _, List.map_inj_left.mp (congrArg (·.2) e)⟩
  keeps _ _ _ x k := let ⟨K, t, l, i, c⟩ := x; ⟨K, t, l, i.keeps k, fun P hP => k _ _ (c P hP)⟩
end Mine
end

noncomputable section
open PySem PySem.Calls PyProof.Rows PySem.W PySem.Flt PySem.SeqAt
set_option Elab.async false
set_option linter.unusedVariables false
set_option maxRecDepth 100000
namespace Mine
theorem lvl_caller (n : Nat) (h : n ≤ 20) : Lvl n callerA := by
  have h1 : callerA.depth + 88 < 1000 := by decide +kernel
  have h2 : callerA.units + 352 < 9900 := by decide +kernel
  exact ⟨rfl, by (first | lia | omega), by (first | lia | omega)⟩
theorem oldK_of {s s' : Shared} (T : ∀ P ∈ [63, 70], s.heap.get? P = some (tabObj #[])) (T0 : TabOk s.heap) (S : Stp false (Wq false []) s s') (T1 : TabOk s'.heap) : OldK s.heap s'.heap where
  old := fun b o e => by
    by_cases hb : b ∈ tabs
    · right; left
      have key : ∀ c, (∃ ps, Tb s.heap c b ps) → (∃ ps, Tb s'.heap c b ps) → isCodeTable s.heap b ∧ o.cls = .none ∧ ∃ vs more, o.data = .fields vs ∧ s'.heap.get? b = some { o with data := .fields (vs ++ more) } := fun c ⟨ps, t0⟩ ⟨ps1, t1⟩ => by
        have h0 : s.heap.get? b = some (tabObj #[]) := T b hb
        rw [e] at h0
        cases h0
        refine ⟨t0.2.isCodeTable, rfl, #[], ps1, rfl, ?_⟩
        rw [t1.2.2]
        simp
      rcases List.mem_cons.mp hb with rfl | hb
      · exact key 67 T0.1 T1.1
      · rcases List.mem_cons.mp hb with rfl | hb
        · exact key 74 T0.2 T1.2
        · cases hb
    · left
      refine S.keep b o (fun w => ?_) e
      rcases w with w | ⟨_, w⟩
      · cases w
      · exact hb w
  there := fun b o e => S.live b o e
theorem rel_ints {h : Heap} {vs : List Value} {xs : List Int} {a : Addr} (hl : h.IsList a vs.toArray) (hi : IntsAre vs xs) : Rel h (.lst (xs.map .int)) (.ref a) := by
  refine .lst' hl ?_
  clear hl
  induction hi with
  | nil => exact .nil
  | cons => exact .cons (.int _ _) ‹_›
/-- the law's call, at the entry -/
theorem law_call {w : World} {K : Frag} {s : Shared} {mg mb : Str → Option Value} {bm : Addr} {ob : Obj} (Q1 : Told1 K) (lo : ∀ q ∈ K, Low q.1) (X : K.In s.heap) (T : ∀ P ∈ [63, 70], s.heap.get? P = some (tabObj #[])) (G : s.heap.Ns mainGlobals mg) (B : s.heap.Ns builtinsNs mb) (hb : ∀ x : Str, x ≠ "__name__" → mb x = bootBuiltins x) (hl : s.heap.NoLimit) (M : BMod s.heap mainGlobals mg bm ob)
    {xs : List Int} (hx : xs.length ≤ 63) {vs : List Value} {a : Addr} (ha : s.heap.IsList a vs.toArray) (hi : IntsAre vs xs) {Q : Value → Shared → Prop} {E : Value → Shared → Prop} (hgen : s.gens = #[])
    (hq : ∀ s' : Shared, OldK s.heap s'.heap → s'.os = s.os → AllBare s'.gens → Q (.bool true) s') : wpAny (model PySem.Challenge.pw_sh0020_01 w) callerA (call (.ref 169) [.ref a]) Q E s := by
  obtain ⟨f, Rn⟩ := law_runs xs
  have P := pg_ok (w := w) Q1 lo X T G B hb hl M
  refine wpAny_mono (run_law (n := 0) (w := (w, K)) (cls_ok Q1) hx Rn (lvl_caller 6 (by decide)) P (.cons (rel_ints ha hi) .nil)) (fun r s' ⟨h1, S, T1⟩ => ?_) fun _ _ z => z.elim
  subst h1
  have hsh := S.shape
  simp only [Bool.false_eq_true, if_false] at hsh
  obtain ⟨h, g, tk, e, hg⟩ := hsh
  refine hq s' (oldK_of T P.tab S T1) (by rw [e]) ?_
  rw [e]
  exact hg (.of_eq hgen)
theorem post_true (a b : List WData) : PySem.Challenge.rw_sh0020_01.row.claim.post a (.bool true) b = true := by
  unfold PySem.W.OpenLaw.row PySem.Challenge.rw_sh0020_01
  first | rfl | with_unfolding_all rfl | kernel_rfl
theorem reads_true (R : WRecords) (cl : Str → Option Addr) (h : Heap) : ReadsW R cl h (.bool true) (.bool true) [] := by
  constructor
end Mine
end

open PySem PySem.Calls PySem.W PyProof.Rows
set_option Elab.async false
set_option maxRecDepth 100000
namespace Mine
noncomputable def looseL : List Str := ["_wall", "EMPTYSTRING", "_Accumulator", "ONE_THIRD", "ONE_SIXTH", "TWO_THIRD", "rgb_to_hls", "hls_to_rgb", "_v", "_MAX_STRING_SIZE", "_MOVE_COST", "_CASE_COST", "_substitution_cost", "_levenshtein_distance", "_law_turn", "_law_short", "_law_struck", "_law_told"]
noncomputable def qv : Program := view PySem.Challenge.pw_sh0020_01 [22]
theorem left_boot {p q : Program} {loose : List Str} {Xt : Shared → Bool} {α : Type} {Yf : Shared → α} {Ya : World → α} {N : Nat} {g0 : Bool}
   (B : ∀ w : World, (fencedOpening treeTable p w N).map (fun s => (s.heap, s.gens, s.drawn, s.toks)) = some (boot_heap w.params, Array.mk [], boot_drawn, boot_toks))
   (h : ∀ (w : World) (os : OsState), (topFrom treeTable p w N ⟨boot_heap w.params, Array.mk [], boot_drawn, boot_toks, os⟩).map (fun s => (openSeen q loose (importedModules p.main.body) Xt g0 s, Yf s)) = some (openGood q loose, Ya w)) : LeftO p q loose Xt Yf Ya N g0 := fun w => by
  obtain ⟨⟨h1, gs, d, k, os⟩, e, e'⟩ := Option.map_eq_some_iff.mp (B w)
  cases e'
  unfold openEnds
  rw [e]
  exact h w os
theorem boot_law : ∀ w : World, (fencedOpening treeTable PySem.Challenge.pw_sh0020_01 w 2090).map (fun s => (s.heap, s.gens, s.drawn, s.toks)) = some (boot_heap w.params, Array.mk [], boot_drawn, boot_toks) :=
  boot_open (by kernel_rfl) (by decide +kernel) fun s => by kernel_rfl
noncomputable abbrev XtL : Shared → Bool := fun s => xlAt qv [] s && recOk (RowW.records PySem.Challenge.rw_sh0020_01.row.toRowW) s
theorem top_law (w : World) (os : OsState) : (topFrom treeTable PySem.Challenge.pw_sh0020_01 w 2090 ⟨boot_heap w.params, Array.mk [], boot_drawn, boot_toks, os⟩).map (fun s => (openSeen qv looseL (importedModules PySem.Challenge.pw_sh0020_01.main.body) XtL true s, seeK.obs s)) = some (openGood qv looseL, seeK.val w) := by
  unfold topFrom
  rw [PySem.W.Fast.te14082659384304107361, PySem.W.Fast.te4187177175401517315, PySem.W.Fast.te14364793385576792824]
  kernel_rfl
/-! what the law is to bear ahead of its call, look by look -/
noncomputable abbrev pL : Program := PySem.Challenge.rw_sh0020_01.row.toRowW.prog
open PySem.W.Fast in
theorem look_names : namesResolve pL = true := by rw [te8377067652309620493]; kernel_rfl
theorem look_world : pL.boundNames.all (fun n => !worldNames.contains n) = true := by kernel_rfl
open PySem.W.Fast in
theorem look_road : noRoadLSs { strict := !(importedModules pL.main.body).all cThrough.contains, foot := none, bare := (["vars", "dir", "locals"] : List Str).filter (readsOut pL pL.main.body) } pL.main.body = true := by rw [te8326940854005059898, te13343964577679436407]; kernel_rfl
open PySem.W.Fast in
theorem look_attr : (namesMeet pL pL.main.body fun _ n => attrL n) = true := by rw [te17119622794617984870, te17868728402115742887]; kernel_rfl
theorem look_law : looksOpen pL = true := by
  unfold looksOpen
  exact look_both (look_both (look_both (look_both (look_both (by kernel_rfl) (by kernel_rfl)) look_names) look_world) look_road) look_attr
open PySem.W.Fast in
theorem said_law : OpenLaw.wellSaid PySem.Challenge.rw_sh0020_01 = true := by
  unfold OpenLaw.wellSaid OpenRow.wellSaid OpenRow.partSaid
  rw [look_law, te8326940854005059898, te17119622794617984870, te9558739934217749035, te8179353310426384613, te16286561074155671207, te6984425678791042302, te10792542408131684335, te12879404354523853263, te482687673346738481, named_eq, te10501279942588096481, te13582783067957832011, te18344453789297297638, te12749700546528644094]
  kernel_rfl
end Mine
theorem PySem.Challenge.cw_sh0020_01_holds : PySem.Challenge.rw_sh0020_01.Holds := by
  refine holds_law Mine.said_law fun said => ?_
  refine holds_open (q := Mine.qv) (loose := Mine.looseL) (Xt := Mine.XtL) (XP := XL Mine.qv []) (Yf := Mine.seeK.obs) (Ya := Mine.seeK.val) (YP := Mine.seeK.says) (N := 2090) (Mine.left_boot Mine.boot_law Mine.top_law) Mine.seeK.of Mine.seeK.keeps (fun s e => xl_of s (Bool.and_eq_true_iff.mp e).1) XL.keeps (by rfl) (by rfl) (by rfl) (fun s e => recFacts_of (Bool.and_eq_true_iff.mp e).2) (by rfl) said (by decide +kernel) ⟨rfl, rfl, rfl, rfl, rfl, by decide +kernel⟩ ?hw ?hc
  (case hw => w_witness2)
  intro w s₀ s₁ mg mb G Y fa o pm cd doc dV kV ho hd hcd hD hmg hg args vals as hpre hlay hrd hwl hlo
  obtain ⟨K, Q1, lo, KX, KT⟩ := Y
  refine Ground.open G ?_
  intro T B D TE TW
  obtain ⟨_, _, M⟩ := bmod_of_top T
  have h169 : mg "law" = some (.ref 169) := Mine.law_at Q1 KX (Top.g T)
  have hfa : some (Value.ref fa) = some (Value.ref 169) := hmg.symm.trans h169
  cases hfa
  clear hcd hD hd hmg h169
  wrow_args hpre hlay hrd hwl hlo
  rename_i xs _ _ _ _ _ _ a vs _ hL _ _ _ hI _ hx _
  refine Mine.law_call Q1 lo KX KT (Top.g T) (Top.b T) (Top.builtins T) (Top.nolimit T) M (by (first | lia | omega)) hL hI hg fun s' h1 h2 h3 => ⟨.inl ⟨_, .bool true, [], rfl, fun _ => rfl, Mine.reads_true _ _ _, Mine.post_true _ _, fun _ => ⟨.nil, fun a ha => nomatch ha⟩⟩, h1, h2, h3⟩
