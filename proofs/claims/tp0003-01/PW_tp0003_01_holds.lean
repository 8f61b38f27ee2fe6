import PyProof.Rows.All
import Wide.All
import OpenK.AllK
import Wide.FinOn
import PySem.Challenge.RW_tp0003_01
set_option Elab.async false
set_option maxRecDepth 100000
set_option linter.unusedVariables false
set_option compiler.extract_closed false
set_option bootstrap.genMatcherCode false
namespace Mine
local macro_rules | `(tactic| walk_at "t") => `(tactic| first | exact Nat.le_refl _ | exact Nat.le_succ _ | exact Nat.le_add_right _ _ | exact Nat.le_succ_of_le (Nat.le_succ _) | assumption | omega)
local macro_rules | `(tactic| walk_at "o") => `(tactic| exact Or.inl (by kernel_rfl!))
local macro_rules | `(tactic| walk_at "u") => `(tactic| (intro _ _; with_unfolding_all rfl))
section
open PySem PySem.Calls PyProof.Rows

theorem leq2 {α : Type} {l : List α} (h : l.length = 2) : ∃ x y, l = [x, y] := by
  cases l with
  | nil => cases h
  | cons x t => obtain ⟨y, rfl⟩ := List.length_eq_one_iff.mp (Nat.succ.inj h); exact ⟨x, y, rfl⟩
theorem leq3 {α : Type} {l : List α} (h : l.length = 3) : ∃ x y z, l = [x, y, z] := by
  cases l with
  | nil => cases h
  | cons x t => obtain ⟨y, z, rfl⟩ := leq2 (Nat.succ.inj h); exact ⟨x, y, z, rfl⟩

/-- a value up to its token -/
noncomputable def er : Value → Value
  | .int i _ => .int i 0
  | .float b t => .float b (if t = 0 then 0 else 1)
  | .str x _ => .str x 0
  | v => v

/-- a value as the proof speaks of it: a plain one, or a flat tuple -/
inductive V where
  | p (v : Value)
  | t (us : List Value)
  | x (v : Value)

noncomputable abbrev vI (i : Int) : V := .p (.int i 0)
noncomputable abbrev vS (x : Str) : V := .p (.str x 0)
noncomputable abbrev vB (b : Bool) : V := .p (.bool b)
noncomputable abbrev vN : V := .p .none
noncomputable abbrev vF (x : UInt64) : V := .p (.float x 1)
noncomputable abbrev vR (a : Addr) : V := .p (.ref a)

noncomputable def V.Is (h : Heap) : V → Value → Prop
  | .p u, v => er v = u
  | .x u, v => v = u
  | .t us, v => ∃ a items, v = .ref a ∧ IsTup h a items ∧ items.toList.map er = us

/-- tuples are kept -/
noncomputable def TK (h h' : Heap) : Prop := ∀ a items, IsTup h a items → IsTup h' a items
theorem TK.refl (h : Heap) : TK h h := fun _ _ x => x
theorem TK.trans {h h' h'' : Heap} (x : TK h h') (y : TK h' h'') : TK h h'' := fun a i z => y a i (x a i z)
noncomputable def Kp (h h' : Heap) : Prop := ∀ b o, h.get? b = some o → h'.get? b = some o
theorem Kp.refl (h : Heap) : Kp h h := fun _ _ e => e
theorem Kp.trans {h h' h'' : Heap} (x : Kp h h') (y : Kp h' h'') : Kp h h'' := fun b o e => y b o (x b o e)
theorem Kp.tk {h h' : Heap} (x : Kp h h') : TK h h' := fun _ _ t => t.keeps x
theorem Kp.push (h : Heap) (o : Obj) : Kp h (h.push o) := fun _ _ e => Heap.get?_push_of_some _ e
/-- no tuple lies at b -/
noncomputable def NoTup (h : Heap) (b : Addr) : Prop := ∀ items, ¬ IsTup h b items
theorem TK.but {b : Addr} {h h' : Heap} (hs : Heap.ExtBut b h h') (hb : NoTup h b) : TK h h' := fun a items x => by
  by_cases e : a = b
  · subst e; exact (hb _ x).elim
  · exact x.extBut hs e

theorem V.Is.mono {h h' : Heap} {u : V} {v : Value} (x : u.Is h v) (k : TK h h') : u.Is h' v := by
  cases u with
  | p u => exact x
  | x u => exact x
  | t us => obtain ⟨a, items, e, t, r⟩ := x; exact ⟨a, items, e, k _ _ t, r⟩

noncomputable def IsAll (h : Heap) : List V → List Value → Prop
  | [], [] => True
  | u :: us, v :: vs => u.Is h v ∧ IsAll h us vs
  | _, _ => False
theorem IsAll.mono {h h' : Heap} (k : TK h h') : ∀ {us : List V} {vs : List Value}, IsAll h us vs → IsAll h' us vs
  | [], [], _ => trivial
  | _ :: _, _ :: _, ⟨a, b⟩ => ⟨a.mono k, b.mono k⟩
  | [], _ :: _, x => x.elim
  | _ :: _, [], x => x.elim
theorem IsAll.length {h : Heap} : ∀ {us : List V} {vs : List Value}, IsAll h us vs → us.length = vs.length
  | [], [], _ => rfl
  | _ :: _, _ :: _, ⟨_, b⟩ => by rw [List.length_cons, List.length_cons, b.length]
  | [], _ :: _, x => x.elim
  | _ :: _, [], x => x.elim
theorem IsAll.get {h : Heap} : ∀ {us : List V} {vs : List Value} {i : Nat} {u : V}, IsAll h us vs → us[i]? = some u → ∃ v, vs[i]? = some v ∧ u.Is h v
  | _ :: _, _ :: _, 0, _, ⟨a, _⟩, e => ⟨_, rfl, by cases e; exact a⟩
  | _ :: _, _ :: _, i + 1, _, ⟨_, b⟩, e => by
    obtain ⟨v, h1, h2⟩ := IsAll.get (i := i) b (by simpa using e)
    exact ⟨v, by simpa using h1, h2⟩
  | [], _, _, _, _, e => by simp at e
  | _ :: _, [], _, _, x, _ => x.elim
theorem IsAll.append {h : Heap} : ∀ {us us' : List V} {vs vs' : List Value}, IsAll h us vs → IsAll h us' vs' → IsAll h (us ++ us') (vs ++ vs')
  | [], _, [], _, _, y => y
  | _ :: _, _, _ :: _, _, ⟨a, b⟩, y => ⟨a, b.append y⟩
  | [], _, _ :: _, _, x, _ => x.elim
  | _ :: _, _, [], _, x, _ => x.elim
theorem IsAll.snoc {h : Heap} {us : List V} {vs : List Value} {u : V} {v : Value} (x : IsAll h us vs) (y : u.Is h v) : IsAll h (us ++ [u]) (vs ++ [v]) := x.append ⟨y, trivial⟩
theorem IsAll.set {h : Heap} : ∀ {us : List V} {vs : List Value} (i : Nat) {u : V} {v : Value}, IsAll h us vs → u.Is h v → IsAll h (us.set i u) (vs.set i v)
  | [], [], _, _, _, _, _ => trivial
  | _ :: _, _ :: _, 0, _, _, ⟨_, b⟩, y => ⟨y, b⟩
  | _ :: _, _ :: _, i + 1, _, _, ⟨a, b⟩, y => ⟨a, b.set i y⟩
  | [], _ :: _, _, _, _, x, _ => x.elim
  | _ :: _, [], _, _, _, x, _ => x.elim
theorem IsAll.take {h : Heap} : ∀ {us : List V} {vs : List Value} (n : Nat), IsAll h us vs → IsAll h (us.take n) (vs.take n)
  | [], [], _, _ => by simp [IsAll]
  | _ :: _, _ :: _, 0, _ => trivial
  | _ :: _, _ :: _, n + 1, ⟨a, b⟩ => ⟨a, b.take n⟩
  | [], _ :: _, _, x => x.elim
  | _ :: _, [], _, x => x.elim
theorem IsAll.drop {h : Heap} : ∀ {us : List V} {vs : List Value} (n : Nat), IsAll h us vs → IsAll h (us.drop n) (vs.drop n)
  | [], [], _, _ => by simp [IsAll]
  | _ :: _, _ :: _, 0, x => x
  | _ :: _, _ :: _, n + 1, ⟨_, b⟩ => b.drop n
  | [], _ :: _, _, x => x.elim
  | _ :: _, [], _, x => x.elim
/-- flat items -/
theorem isAll_flat {h : Heap} : ∀ {us vs : List Value}, vs.map er = us → IsAll h (us.map V.p) vs
  | [], [], _ => trivial
  | [], _ :: _, e => by simp at e
  | _ :: _, [], e => by simp at e
  | _ :: _, _ :: _, e => by
    simp only [List.map_cons, List.cons.injEq] at e
    exact ⟨e.1, isAll_flat e.2⟩
theorem flat_of {h : Heap} : ∀ {us vs : List Value}, IsAll h (us.map V.p) vs → vs.map er = us
  | [], [], _ => rfl
  | [], _ :: _, e => e.elim
  | _ :: _, [], e => e.elim
  | _ :: _, _ :: _, ⟨a, b⟩ => by rw [List.map_cons, flat_of b, show er _ = _ from a]


/-- what lies at an address of one's own -/
inductive LO where
  | lst (us : List V)
  | pl (us : List V)
  | is (P : Obj → Prop)
  | dct (n : Nat) (f : Int → Option V)

structure Cx where
  prog : Program
  w : World
  A : Around
  env : Env
  s₀ : Shared
  mg : Str → Option Value
  mb : Str → Option Value
  pos : Bool

noncomputable def notTupObj (o : Obj) : Bool := match o.data with | .seq _ _ => (match o.cls with | .type t => t != "tuple" | _ => false) | _ => true

noncomputable def LO.At (c : Cx) (h : Heap) (a : Addr) : LO → Prop
  | .lst us => ∃ items, h.IsList a items ∧ IsAll h us items.toList
  | .pl us => ∃ items, h.PlainList a items ∧ IsAll h us items.toList
  | .is P => ∃ o, h.get? a = some o ∧ notTupObj o = true ∧ P o
  | .dct n f => ∃ kvs : List (Int × Value), h.DictOf (intKind c.prog c.w) a kvs ∧ kvs.length ≤ n ∧ ∀ k, match f k, valueAt kvs k with | some u, some v => u.Is h v | none, none => True | _, _ => False

theorem noTup_of {h : Heap} {a : Addr} {o : Obj} (e : h.get? a = some o) (n : notTupObj o = true) : NoTup h a := fun items ⟨o', e', hc, k, hd⟩ => by
  rw [e] at e'; cases e'
  unfold notTupObj at n
  rw [hd, hc] at n
  simp at n
theorem LO.At.noTup {c : Cx} {h : Heap} {a : Addr} {lo : LO} (x : lo.At c h a) : NoTup h a := by
  cases lo with
  | lst us =>
    obtain ⟨items, ⟨o, e, hc, n, hd⟩, _⟩ := x
    exact noTup_of e (by unfold notTupObj; rw [hd, hc]; rfl)
  | pl us => obtain ⟨items, ⟨n, e⟩, _⟩ := x; exact noTup_of e rfl
  | is P => obtain ⟨o, e, n, _⟩ := x; exact noTup_of e n
  | dct n f =>
    obtain ⟨kvs, ⟨o, es, ep, e, _, hd, _⟩, _⟩ := x
    exact noTup_of e (by unfold notTupObj; rw [hd])
theorem LO.At.lt {c : Cx} {h : Heap} {a : Addr} {lo : LO} (x : lo.At c h a) : a < h.objs.size := by
  cases lo with
  | lst us => obtain ⟨items, ⟨o, e, _⟩, _⟩ := x; exact Heap.lt_size e
  | pl us => obtain ⟨items, ⟨n, e⟩, _⟩ := x; exact Heap.lt_size e
  | is P => obtain ⟨o, e, n, _⟩ := x; exact Heap.lt_size e
  | dct n f => obtain ⟨kvs, ⟨o, es, ep, e, _⟩, _⟩ := x; exact Heap.lt_size e
theorem LO.At.mono {c : Cx} {h h' : Heap} {a : Addr} {lo : LO} (x : lo.At c h a) (hk : ∀ o, h.get? a = some o → h'.get? a = some o) (k : TK h h') : lo.At c h' a := by
  cases lo with
  | lst us => obtain ⟨items, ⟨o, e, r⟩, y⟩ := x; exact ⟨items, ⟨o, hk o e, r⟩, y.mono k⟩
  | pl us => obtain ⟨items, ⟨n, e⟩, y⟩ := x; exact ⟨items, ⟨n, hk _ e⟩, y.mono k⟩
  | is P => obtain ⟨o, e, n⟩ := x; exact ⟨o, hk o e, n⟩
  | dct n f =>
    obtain ⟨kvs, ⟨o, es, ep, e, r⟩, y, z⟩ := x
    refine ⟨kvs, ⟨o, es, ep, hk o e, r⟩, y, fun q => ?_⟩
    have := z q
    split at this <;> simp_all
    exact this.mono k

/-- what the functions ask of the module -/
structure Gl (mg mb : Str → Option Value) (h : Heap) : Prop where
  g : h.Ns mainGlobals mg
  b : h.Ns builtinsNs mb
  nolimit : h.NoLimit
  fn : ∀ d ∈ recsOf PySem.Challenge.pw_tp0003_01, ∃ a o pm code doc, mg d.name = some (.ref a) ∧ h.get? a = some o ∧ o.data = .func (docDef d.name d.params d.body d.scope pm code doc) ∧ h.CodeRec code d.name
  bi : ∀ x ∈ (["range", "len", "min", "max", "round", "enumerate"] : List String), mg (Str.ofString x) = none ∧ mb (Str.ofString x) = bootBuiltins (Str.ofString x)
  bk : NoneBooked h
theorem Gl.keeps {mg mb : Str → Option Value} {h h' : Heap} (G : Gl mg mb h) (hk : Kp h h') : Gl mg mb h' where
  g := G.g.keeps hk
  b := G.b.keeps hk
  nolimit := G.nolimit.keeps hk
  fn := fun d hd => by
    obtain ⟨a, o, pm, code, doc, h1, h2, h3, h4⟩ := G.fn d hd
    exact ⟨a, o, pm, code, doc, h1, hk _ _ h2, h3, h4.keeps hk⟩
  bi := G.bi
  bk := by
    obtain ⟨mc, hn, e⟩ := G.bk
    exact ⟨mc, hn.keeps hk, e⟩

noncomputable def Room (k : Nat) (A : Around) : Prop := A.handled = none ∧ A.depth + k < recursionLimit ∧ A.units + 100 * k < cLine
theorem Room.mono {k k' : Nat} {A : Around} (r : Room k A) (h : k' ≤ k) : Room k' A := ⟨r.1, by have := r.2.1; omega, by have := r.2.2; omega⟩
theorem Room.deeper {k : Nat} {A : Around} {env : Env} (r : Room (k + 1) A) : Room k (A.deeper env) := ⟨r.1, by have := r.2.1; show A.depth + 1 + k < _; omega, by have := r.2.2; show A.units + 3 + 100 * k < _; omega⟩

structure Cx.Ok (c : Cx) : Prop where
  kind : c.env.scope.kind = .function
  co : c.env.scope.isCoroutine = false
  glob : c.env.globals = mainGlobals
  blt : c.env.builtins = builtinsNs
  above : c.s₀.heap.objs.size ≤ c.env.locals
  cellsL : ∀ n a, c.env.cells.lookup n = some a → a ≠ c.env.locals
  gl : Gl c.mg c.mb c.s₀.heap

structure Sg where
  loc : List (Str × V)
  led : List (Addr × LO)
  gens : Array GenState

structure St (c : Cx) (σ : Sg) (F : List (Addr × LO)) (s : Shared) : Prop where
  ok : c.Ok
  same : ∃ h tk, s = { c.s₀ with heap := h, toks := tk, gens := σ.gens }
  keep : Kp c.s₀.heap s.heap
  ns : ∃ m, s.heap.Ns c.env.locals m ∧ ∀ x u, c.env.kindOf x = some .local → σ.loc.lookup x = some u → ∃ v, m x = some v ∧ u.Is s.heap v
  cl : ∃ cm : Str → Option Value, (∀ n a, c.env.cells.lookup n = some a → s.heap.IsCell a (cm n)) ∧ ∀ x u, c.env.kindOf x = some .cell → σ.loc.lookup x = some u → ∃ v, cm x = some v ∧ u.Is s.heap v
  led : ∀ p ∈ σ.led ++ F, p.2.At c s.heap p.1 ∧ c.s₀.heap.objs.size ≤ p.1 ∧ p.1 ≠ c.env.locals ∧ ∀ n a, c.env.cells.lookup n = some a → p.1 ≠ a
  nd : ((σ.led ++ F).map (·.1)).Nodup
  tp : c.pos = true → 1 ≤ s.toks

section
variable {c : Cx} {σ : Sg} {F : List (Addr × LO)} {s : Shared}

theorem St.size (S : St c σ F s) : c.s₀.heap.objs.size ≤ s.heap.objs.size := by
  obtain ⟨m, hn, _⟩ := S.ns
  exact Nat.le_trans S.ok.above (Nat.le_of_lt hn.lt)
theorem St.gl (S : St c σ F s) : Gl c.mg c.mb s.heap := S.ok.gl.keeps S.keep

/-- a step that keeps all -/
theorem St.extP (S : St c σ F s) {h : Heap} {tk : Nat} (hk : Kp s.heap h) (ht : c.pos = true → 1 ≤ tk) : St c σ F { s with heap := h, toks := tk } where
  ok := S.ok
  same := by obtain ⟨h₁, t₁, e⟩ := S.same; exact ⟨h, tk, by rw [e]⟩
  keep := S.keep.trans hk
  ns := let ⟨m, hn, hv⟩ := S.ns; ⟨m, hn.keeps hk, fun x u k e => let ⟨v, a, b⟩ := hv x u k e; ⟨v, a, b.mono hk.tk⟩⟩
  cl := let ⟨cm, hn, hv⟩ := S.cl; ⟨cm, fun n a e => (hn n a e).keeps hk, fun x u k e => let ⟨v, a, b⟩ := hv x u k e; ⟨v, a, b.mono hk.tk⟩⟩
  led := fun p hp => let ⟨a, b⟩ := S.led p hp; ⟨a.mono (fun o e => hk _ o e) hk.tk, b⟩
  nd := S.nd
  tp := ht
theorem St.ext (S : St c σ F s) {h : Heap} {tk : Nat} (hk : Kp s.heap h) (ht : s.toks ≤ tk := by walk_at "t") : St c σ F { s with heap := h, toks := tk } := S.extP hk fun p => Nat.le_trans (S.tp p) ht
theorem St.tok (S : St c σ F s) {tk : Nat} (ht : s.toks ≤ tk := by walk_at "t") : St c σ F { s with toks := tk } := S.ext (h := s.heap) (Kp.refl _) ht
theorem St.push (S : St c σ F s) (o : Obj) : St c σ F { s with heap := s.heap.push o } := S.ext (tk := s.toks) (Kp.push _ o)

theorem St.fresh (S : St c σ F s) {a : Addr} (ha : s.heap.objs.size ≤ a) : (∀ p ∈ σ.led ++ F, p.1 ≠ a) ∧ a ≠ c.env.locals ∧ (∀ n b, c.env.cells.lookup n = some b → a ≠ b) ∧ c.s₀.heap.objs.size ≤ a := by
  refine ⟨fun p hp e => ?_, fun e => ?_, fun n b hb e => ?_, Nat.le_trans S.size ha⟩
  · exact absurd (e ▸ (S.led p hp).1.lt) (Nat.not_lt.mpr ha)
  · obtain ⟨m, hn, _⟩ := S.ns; exact absurd (e ▸ hn.lt) (Nat.not_lt.mpr ha)
  · obtain ⟨cm, hn, _⟩ := S.cl; exact absurd (e ▸ (hn n b hb).lt) (Nat.not_lt.mpr ha)

/-- a new object of one's own goes onto the ledger -/
theorem St.add {h : Heap} {tk : Nat} (S : St c σ F { s with heap := h, toks := tk }) {a : Addr} {lo : LO} (hs : s.heap.objs.size ≤ a) (S₀ : St c σ F s) (hat : lo.At c h a) : St c { σ with led := (a, lo) :: σ.led } F { s with heap := h, toks := tk } where
  ok := S.ok
  same := S.same
  keep := S.keep
  ns := S.ns
  cl := S.cl
  led := fun p hp => by
    rcases List.mem_cons.mp hp with rfl | hp
    · have := S₀.fresh hs; exact ⟨hat, this.2.2.2, this.2.1, this.2.2.1⟩
    · exact S.led p hp
  nd := by
    show ((a, lo).1 :: (σ.led ++ F).map (·.1)).Nodup
    refine List.nodup_cons.mpr ⟨fun hm => ?_, S.nd⟩
    obtain ⟨p, hp, e⟩ := List.mem_map.mp hm
    exact (S₀.fresh hs).1 p hp e
  tp := S.tp

/-- weaker -/
theorem St.weak (S : St c σ F s) {loc : List (Str × V)} (h : ∀ x u, loc.lookup x = some u → σ.loc.lookup x = some u) : St c { σ with loc := loc } F s where
  ok := S.ok
  same := S.same
  keep := S.keep
  ns := let ⟨m, hn, hv⟩ := S.ns; ⟨m, hn, fun x u k e => hv x u k (h x u e)⟩
  cl := let ⟨m, hn, hv⟩ := S.cl; ⟨m, hn, fun x u k e => hv x u k (h x u e)⟩
  led := S.led
  nd := S.nd
  tp := S.tp
theorem St.sub (S : St c σ F s) {led : List (Addr × LO)} {F' : List (Addr × LO)} (h : ∀ p ∈ led ++ F', p ∈ σ.led ++ F) (hn : ((led ++ F').map (·.1)).Nodup) : St c { σ with led := led } F' s where
  ok := S.ok
  same := S.same
  keep := S.keep
  ns := S.ns
  cl := S.cl
  led := fun p hp => S.led p (h p hp)
  nd := hn
  tp := S.tp

/-- a local name is stored -/
theorem St.setLocal (S : St c σ F s) {h : Heap} {tk : Nat} {x : Str} {v : Value} {u : V} {m : Str → Option Value} (_ : s.heap.Ns c.env.locals m)
    (hm : ∀ y w, c.env.kindOf y = some .local → σ.loc.lookup y = some w → ∃ v, m y = some v ∧ w.Is s.heap v) (hn : h.Ns c.env.locals (fun y => if y = x then some v else m y))
    (hs : Heap.SameBut c.env.locals s.heap h) (hu : u.Is s.heap v) (hx : c.env.kindOf x = some .local) (ht : s.toks ≤ tk := by walk_at "t") : St c { σ with loc := (x, u) :: σ.loc } F { s with heap := h, toks := tk } := by
  have hL : NoTup s.heap c.env.locals := by
    obtain ⟨m, ⟨o, es, ep, e, hd, _⟩, _⟩ := S.ns
    exact noTup_of e (by unfold notTupObj; rw [hd])
  have tk' : TK s.heap h := TK.but hs.extBut hL
  refine ⟨S.ok, ?_, fun b o e => ?_, ⟨_, hn, fun y w k e => ?_⟩, ?_, fun p hp => ?_, S.nd, fun p => Nat.le_trans (S.tp p) ht⟩
  · obtain ⟨h₁, t₁, e⟩ := S.same; exact ⟨h, tk, by rw [e]⟩
  · refine hs.extBut b o (fun q => ?_) (S.keep b o e)
    exact absurd (q ▸ Heap.lt_size e) (Nat.not_lt.mpr S.ok.above)
  · rw [List.lookup_cons] at e
    by_cases q : y = x
    · subst q
      simp at e; subst e
      exact ⟨v, by simp, hu.mono tk'⟩
    · have : (y == x) = false := beq_eq_false_iff_ne.mpr q
      rw [this] at e
      obtain ⟨v', h1, h2⟩ := hm y w k e
      exact ⟨v', by simpa [q] using h1, h2.mono tk'⟩
  · obtain ⟨cm, hc, hv⟩ := S.cl
    refine ⟨cm, fun n a e => (hc n a e).sameBut hs (S.ok.cellsL n a e), fun y w k e => ?_⟩
    rw [List.lookup_cons] at e
    have q : (y == x) = false := beq_eq_false_iff_ne.mpr fun q => by subst q; rw [hx] at k; cases k
    rw [q] at e
    obtain ⟨v', h1, h2⟩ := hv y w k e
    exact ⟨v', h1, h2.mono tk'⟩
  · obtain ⟨a, b1, b2, b3⟩ := S.led p hp
    exact ⟨a.mono (fun o e => hs.extBut _ o b2 e) tk', b1, b2, b3⟩

/-- a cell is stored -/
theorem St.setCell (S : St c σ F s) {h : Heap} {tk : Nat} {x : Str} {v : Value} {u : V} {a : Addr} (hx : c.env.kindOf x = some .cell) (hc : c.env.cells.lookup x = some a)
    (hi : h.IsCell a (some v)) (hs : Heap.SameBut a s.heap h) (hu : u.Is s.heap v) (hap : c.env.cells.Pairwise fun x y => x.2 ≠ y.2) (hown : c.s₀.heap.objs.size ≤ a) (ht : s.toks ≤ tk := by walk_at "t") :
    St c { σ with loc := (x, u) :: σ.loc } F { s with heap := h, toks := tk } := by
  obtain ⟨cm, hcm, hv⟩ := S.cl
  have hL : NoTup s.heap a := by
    obtain ⟨o, e, hd⟩ := hcm x a hc
    exact noTup_of e (by unfold notTupObj; rw [hd])
  have tk' : TK s.heap h := TK.but hs.extBut hL
  obtain ⟨m, hn, hm⟩ := S.ns
  refine ⟨S.ok, ?_, fun b o e => ?_, ⟨m, hn.sameBut hs (Ne.symm (S.ok.cellsL x a hc)), fun y w k e => ?_⟩, ⟨fun y => if y = x then some v else cm y, fun n b e => ?_, fun y w k e => ?_⟩, fun p hp => ?_, S.nd, fun p => Nat.le_trans (S.tp p) ht⟩
  · obtain ⟨h₁, t₁, e⟩ := S.same; exact ⟨h, tk, by rw [e]⟩
  · refine hs.extBut b o (fun q => ?_) (S.keep b o e)
    exact absurd (q ▸ Heap.lt_size e) (Nat.not_lt.mpr hown)
  · rw [List.lookup_cons] at e
    have q : (y == x) = false := beq_eq_false_iff_ne.mpr fun q => by subst q; rw [hx] at k; cases k
    rw [q] at e
    obtain ⟨v', h1, h2⟩ := hm y w k e
    exact ⟨v', h1, h2.mono tk'⟩
  · by_cases q : n = x
    · subst q; rw [hc] at e; cases e; simpa using hi
    · show h.IsCell b (if n = x then some v else cm n)
      rw [if_neg q]
      refine (hcm n b e).sameBut hs fun z => q ?_
      exact name_of_addr hap (mem_of_lookup e) (z ▸ mem_of_lookup hc)
  · rw [List.lookup_cons] at e
    by_cases q : y = x
    · subst q
      simp at e; subst e
      exact ⟨v, by simp, hu.mono tk'⟩
    · have : (y == x) = false := beq_eq_false_iff_ne.mpr q
      rw [this] at e
      obtain ⟨v', h1, h2⟩ := hv y w k e
      exact ⟨v', by simpa [q] using h1, h2.mono tk'⟩
  · obtain ⟨y, b1, b2, b3⟩ := S.led p hp
    exact ⟨y.mono (fun o e => hs.extBut _ o (b3 x a hc) e) tk', b1, b2, b3⟩

/-- an object of the ledger is changed -/
theorem St.upd {a : Addr} {lo lo' : LO} {i : Nat} (S : St c σ F s) (hi : σ.led[i]? = some (a, lo)) {h : Heap} {tk : Nat} (hs : Heap.ExtBut a s.heap h) (hat : lo'.At c h a) (ht : s.toks ≤ tk := by walk_at "t") :
    St c { σ with led := σ.led.set i (a, lo') } F { s with heap := h, toks := tk } := by
  have L := S.led (a, lo) (List.mem_append_left _ (List.mem_of_getElem? hi))
  have tk' : TK s.heap h := TK.but hs L.1.noTup
  obtain ⟨m, hn, hm⟩ := S.ns
  obtain ⟨cm, hcm, hv⟩ := S.cl
  have hmap : ((σ.led.set i (a, lo') ++ F).map (·.1)) = ((σ.led ++ F).map (·.1)) := by
    rw [List.map_append, List.map_append, List.map_set]
    congr 1
    apply List.ext_getElem?
    intro j
    rw [List.getElem?_set]
    by_cases q : i = j
    · subst q
      have hlt : i < σ.led.length := (List.getElem?_eq_some_iff.mp hi).1
      simp [hlt, hi]
      have := List.getElem?_eq_some_iff.mp hi
      rw [this.2]
    · simp [q]
  refine ⟨S.ok, ?_, fun b o e => ?_, ⟨m, hn.extBut hs (Ne.symm L.2.2.1), fun y w k e => ?_⟩, ⟨cm, fun n b e => ?_, fun y w k e => ?_⟩, fun p hp => ?_, hmap ▸ S.nd, fun p => Nat.le_trans (S.tp p) ht⟩
  · obtain ⟨h₁, t₁, e⟩ := S.same; exact ⟨h, tk, by rw [e]⟩
  · refine hs b o (fun q => ?_) (S.keep b o e)
    exact absurd (q ▸ Heap.lt_size e) (Nat.not_lt.mpr L.2.1)
  · obtain ⟨v', h1, h2⟩ := hm y w k e
    exact ⟨v', h1, h2.mono tk'⟩
  · obtain ⟨o, e1, hd⟩ := hcm n b e
    exact ⟨o, hs b o (fun z => L.2.2.2 n b e z.symm) e1, hd⟩
  · obtain ⟨v', h1, h2⟩ := hv y w k e
    exact ⟨v', h1, h2.mono tk'⟩
  · obtain ⟨j, hj⟩ := List.getElem?_of_mem hp
    by_cases q : j = i
    · subst q
      have hlt : j < σ.led.length := (List.getElem?_eq_some_iff.mp hi).1
      rw [List.getElem?_append_left (by simpa using hlt)] at hj
      simp [hlt] at hj
      subst hj
      exact ⟨hat, L.2⟩
    · have hj' : (σ.led ++ F)[j]? = some p := by
        by_cases hl : j < σ.led.length
        · rw [List.getElem?_append_left (by simpa using hl)] at hj
          rw [List.getElem?_append_left hl]
          rwa [List.getElem?_set_ne (Ne.symm q)] at hj
        · rw [List.getElem?_append_right (by simpa using hl)] at hj
          rw [List.getElem?_append_right (by omega)]
          simpa using hj
      have hpm := List.mem_of_getElem? hj'
      obtain ⟨y, b⟩ := S.led p hpm
      refine ⟨y.mono (fun o e => hs _ o (fun z => q ?_) e) tk', b⟩
      have h1 : ((σ.led ++ F).map (·.1))[j]? = some a := by rw [List.getElem?_map, hj']; simpa using z
      have h2 : ((σ.led ++ F).map (·.1))[i]? = some a := by
        rw [List.getElem?_map, List.getElem?_append_left (List.getElem?_eq_some_iff.mp hi).1, hi]; rfl
      have hl1 := (List.getElem?_eq_some_iff.mp h1).1
      exact (List.getElem?_inj hl1 S.nd).mp (h1.trans h2.symm)

/-- the first object of the ledger is lost -/
theorem St.lose {a : Addr} {lo : LO} {loc : List (Str × V)} {led : List (Addr × LO)} {g : Array GenState} (S : St c ⟨loc, (a, lo) :: led, g⟩ F s) {h : Heap} {tk : Nat} (hs : Heap.ExtBut a s.heap h) (ht : s.toks ≤ tk := by walk_at "t") :
    St c ⟨loc, led, g⟩ F { s with heap := h, toks := tk } := by
  have L := S.led (a, lo) (List.mem_append_left _ (.head _))
  have tk' : TK s.heap h := TK.but hs L.1.noTup
  obtain ⟨m, hn, hm⟩ := S.ns
  obtain ⟨cm, hcm, hv⟩ := S.cl
  have nd := List.nodup_cons.mp S.nd
  refine ⟨S.ok, ?_, fun b o e => ?_, ⟨m, hn.extBut hs (Ne.symm L.2.2.1), fun y w k e => ?_⟩, ⟨cm, fun n b e => ?_, fun y w k e => ?_⟩, fun p hp => ?_, nd.2, fun p => Nat.le_trans (S.tp p) ht⟩
  · obtain ⟨h₁, t₁, e⟩ := S.same; exact ⟨h, tk, by rw [e]⟩
  · refine hs b o (fun q => ?_) (S.keep b o e)
    exact absurd (q ▸ Heap.lt_size e) (Nat.not_lt.mpr L.2.1)
  · obtain ⟨v', h1, h2⟩ := hm y w k e
    exact ⟨v', h1, h2.mono tk'⟩
  · obtain ⟨o, e1, hd⟩ := hcm n b e
    exact ⟨o, hs b o (fun z => L.2.2.2 n b e z.symm) e1, hd⟩
  · obtain ⟨v', h1, h2⟩ := hv y w k e
    exact ⟨v', h1, h2.mono tk'⟩
  · obtain ⟨y, b⟩ := S.led p (.tail _ hp)
    exact ⟨y.mono (fun o e => hs _ o (fun q => nd.1 (List.mem_map.mpr ⟨p, hp, q⟩)) e) tk', b⟩

/-- what a block of its own has made is handed on -/
theorem St.joinP (S : St c σ F s) {s' : Shared} {led' : List (Addr × LO)} (same : ∃ h tk, s' = { s with heap := h, toks := tk }) (hk : Kp s.heap s'.heap)
    (hl : ∀ p ∈ led', p.2.At c s'.heap p.1 ∧ s.heap.objs.size ≤ p.1) (hn : (led'.map (·.1)).Nodup) (ht : c.pos = true → 1 ≤ s'.toks) : St c ⟨σ.loc, led' ++ σ.led, σ.gens⟩ F s' := by
  obtain ⟨h, tk, rfl⟩ := same
  have S2 : St c σ F { s with heap := h, toks := tk } := S.extP hk ht
  refine ⟨S2.ok, S2.same, S2.keep, S2.ns, S2.cl, fun p hp => ?_, ?_, S2.tp⟩
  · rw [List.append_assoc] at hp
    rcases List.mem_append.mp hp with hp | hp
    · have L := hl p hp
      have f := S.fresh L.2
      exact ⟨L.1, f.2.2.2, f.2.1, f.2.2.1⟩
    · exact S2.led p hp
  · show ((led' ++ σ.led ++ F).map (·.1)).Nodup
    rw [List.append_assoc, List.map_append]
    refine List.nodup_append.mpr ⟨hn, S.nd, fun x hx y hy e => ?_⟩
    obtain ⟨p, hp, rfl⟩ := List.mem_map.mp hx
    obtain ⟨q, hq, rfl⟩ := List.mem_map.mp hy
    exact (S.fresh (hl p hp).2).1 q hq e.symm

theorem St.join (S : St c σ F s) {s' : Shared} {led' : List (Addr × LO)} (same : ∃ h tk, s' = { s with heap := h, toks := tk }) (hk : Kp s.heap s'.heap)
    (hl : ∀ p ∈ led', p.2.At c s'.heap p.1 ∧ s.heap.objs.size ≤ p.1) (hn : (led'.map (·.1)).Nodup) (ht : s.toks ≤ s'.toks := by walk_at "t") : St c ⟨σ.loc, led' ++ σ.led, σ.gens⟩ F s' :=
  S.joinP same hk hl hn fun p => Nat.le_trans (S.tp p) ht

noncomputable def LO.isL (us : List V) (lo : LO) : Prop := lo = .lst us ∨ lo = .pl us
theorem LO.isL.at {us : List V} {lo : LO} {c : Cx} {h : Heap} {a : Addr} (x : lo.isL us) (y : lo.At c h a) : LO.At c h a (.lst us) := by
  rcases x with rfl | rfl
  · exact y
  · obtain ⟨items, hl, hall⟩ := y; exact ⟨items, hl.isList, hall⟩

/-- names that stand -/
noncomputable def Sub : List (Str × V) → List (Str × V) → Prop
  | [], _ => True
  | (x, u) :: r, l => l.lookup x = some u ∧ Sub r l
theorem Sub.get : ∀ {l' l : List (Str × V)}, Sub l' l → ∀ x u, l'.lookup x = some u → l.lookup x = some u
  | [], _, _, _, _, e => by simp at e
  | (y, w) :: r, l, ⟨h1, h2⟩, x, u, e => by
    rw [List.lookup_cons] at e
    by_cases q : x = y
    · subst q; simp at e; subst e; exact h1
    · have : (x == y) = false := beq_eq_false_iff_ne.mpr q
      rw [this] at e
      exact h2.get x u e
/-- σ' tells at least what σ tells -/
structure Sg.Has (σ' σ : Sg) : Prop where
  loc : Sub σ.loc σ'.loc
  led : σ'.led = σ.led
  gens : σ'.gens = σ.gens
theorem St.has {σ' : Sg} (S : St c σ' F s) (h : σ'.Has σ) : St c σ F s := by
  have := S.weak (loc := σ.loc) (fun x u e => h.loc.get x u e)
  obtain ⟨l, d, g⟩ := σ
  obtain ⟨l', d', g'⟩ := σ'
  cases h.led; cases h.gens
  exact this
/-- entries move between the ledger and the frame -/
theorem St.move {loc : List (Str × V)} {led E : List (Addr × LO)} {g : Array GenState} (S : St c ⟨loc, E ++ led, g⟩ F s) : St c ⟨loc, led, g⟩ (E ++ F) s := by
  refine St.sub (σ := ⟨loc, E ++ led, g⟩) S (led := led) (F' := E ++ F) (fun p hp => ?_) ?_
  · simp only [List.mem_append] at hp ⊢
    rcases hp with h | h | h <;> simp [h]
  · have := S.nd
    refine List.Perm.nodup ?_ this
    refine List.Perm.map _ ?_
    show List.Perm (E ++ led ++ F) (led ++ (E ++ F))
    rw [← List.append_assoc]
    exact List.Perm.append_right _ List.perm_append_comm
theorem St.back {loc : List (Str × V)} {led E : List (Addr × LO)} {g : Array GenState} (S : St c ⟨loc, led, g⟩ (E ++ F) s) : St c ⟨loc, E ++ led, g⟩ F s := by
  refine St.sub (σ := ⟨loc, led, g⟩) S (led := E ++ led) (F' := F) (fun p hp => ?_) ?_
  · simp only [List.mem_append] at hp ⊢
    rcases hp with (h | h) | h <;> simp [h]
  · refine List.Perm.nodup ?_ S.nd
    refine List.Perm.map _ ?_
    show List.Perm (led ++ (E ++ F)) (E ++ led ++ F)
    rw [← List.append_assoc]
    exact List.Perm.append_right _ List.perm_append_comm
theorem St.drop {loc : List (Str × V)} {led E : List (Addr × LO)} {g : Array GenState} (S : St c ⟨loc, E ++ led, g⟩ F s) : St c ⟨loc, led, g⟩ F s := by
  refine St.sub (σ := ⟨loc, E ++ led, g⟩) S (led := led) (F' := F) (fun p hp => ?_) ?_
  · simp only [List.mem_append] at hp ⊢
    rcases hp with h | h <;> simp [h]
  · have := S.nd
    have e : ((E ++ led ++ F).map (·.1)) = E.map (·.1) ++ (led ++ F).map (·.1) := by simp
    rw [show (({ loc := loc, led := E ++ led, gens := g } : Sg).led ++ F) = E ++ led ++ F from rfl, e] at this
    exact (List.nodup_append.mp this).2.1
end
end

section
open PySem PySem.Calls PyProof.Rows

noncomputable abbrev Mo (c : Cx) : Model := model c.prog c.w
noncomputable abbrev NoE : Value → Shared → Prop := fun _ _ => False
inductive Pv (c : Cx) (F : List (Addr × LO)) (s : Shared) (K : V → Sg → Prop) (v : Value) (s' : Shared) : Prop
  | mk (u : V) (σ' : Sg) (S : St c σ' F s') (k : TK s.heap s'.heap) (hu : u.Is s'.heap v) (h : K u σ')
inductive Pb (c : Cx) (F : List (Addr × LO)) (s : Shared) (K : Bool → Sg → Prop) (b : Bool) (s' : Shared) : Prop
  | mk (σ' : Sg) (S : St c σ' F s') (k : TK s.heap s'.heap) (h : K b σ')
inductive Pl (c : Cx) (F : List (Addr × LO)) (s : Shared) (K : List V → Sg → Prop) (vs : List Value) (s' : Shared) : Prop
  | mk (us : List V) (σ' : Sg) (S : St c σ' F s') (k : TK s.heap s'.heap) (hu : IsAll s'.heap us vs) (h : K us σ')
noncomputable def FlowIs (N : Sg → Prop) (R : V → Sg → Prop) (σ' : Sg) (h : Heap) : Flow → Prop
  | .next => N σ'
  | .ret v => ∃ u, u.Is h v ∧ R u σ'
  | _ => False
inductive Pf (c : Cx) (F : List (Addr × LO)) (s : Shared) (N : Sg → Prop) (R : V → Sg → Prop) (f : Flow) (s' : Shared) : Prop
  | mk (σ' : Sg) (S : St c σ' F s') (k : TK s.heap s'.heap) (h : FlowIs N R σ' s'.heap f)
noncomputable def Ev (c : Cx) (σ : Sg) (e : Expr) (K : V → Sg → Prop) : Prop := ∀ F s, St c σ F s → wpAny (Mo c) c.A (eval e c.env) (Pv c F s K) NoE s
noncomputable def EvT (c : Cx) (σ : Sg) (e : Expr) (K : Bool → Sg → Prop) : Prop := ∀ F s, St c σ F s → wpAny (Mo c) c.A (isTrue e c.env (eval e c.env)) (Pb c F s K) NoE s
noncomputable def EvA (c : Cx) (σ : Sg) (op : BoolOp) (es : List Expr) (K : Bool → Sg → Prop) : Prop := ∀ F s, St c σ F s → wpAny (Mo c) c.A (allTrue op es c.env) (Pb c F s K) NoE s
noncomputable def EvL (c : Cx) (σ : Sg) (es : List Expr) (K : List V → Sg → Prop) : Prop :=
  ∀ pos F s, St c σ F s → wpAny (Mo c) c.A (spliced (backTo pos (starEach es c.env))) (Pl c F s K) NoE s
noncomputable def Op1 (c : Cx) (σ : Sg) (a : V) (f : Value → Sem Value) (K : V → Sg → Prop) : Prop := ∀ F s v, St c σ F s → a.Is s.heap v → wpAny (Mo c) c.A (f v) (Pv c F s K) NoE s
noncomputable def Op2 (c : Cx) (σ : Sg) (a b : V) (f : Value → Value → Sem Value) (K : V → Sg → Prop) : Prop :=
  ∀ F s v w, St c σ F s → a.Is s.heap v → b.Is s.heap w → wpAny (Mo c) c.A (f v w) (Pv c F s K) NoE s
noncomputable def OpL (c : Cx) (σ : Sg) (us : List V) (f : List Value → Sem Value) (K : V → Sg → Prop) : Prop :=
  ∀ F s vs, St c σ F s → IsAll s.heap us vs → wpAny (Mo c) c.A (f vs) (Pv c F s K) NoE s
noncomputable def OpT (c : Cx) (σ : Sg) (a : V) (K : Bool → Sg → Prop) : Prop := ∀ F s v, St c σ F s → a.Is s.heap v → wpAny (Mo c) c.A (truthy v) (Pb c F s K) NoE s
noncomputable def Ex (c : Cx) (σ : Sg) (st : Stmt) (N : Sg → Prop) (R : V → Sg → Prop) : Prop := ∀ F s, St c σ F s → wpAny (Mo c) c.A (exec st c.env) (Pf c F s N R) NoE s
noncomputable def ExS (c : Cx) (σ : Sg) (l : List Stmt) (N : Sg → Prop) (R : V → Sg → Prop) : Prop := ∀ F s, St c σ F s → wpAny (Mo c) c.A (execs l c.env) (Pf c F s N R) NoE s

theorem noE {α : Type} {M : Model} {A : Around} {t : Sem α} {Q : α → Shared → Prop} {E : Value → Shared → Prop} {s : Shared} (h : wpAny M A t Q NoE s) : wpAny M A t Q E s :=
  wpAny_mono h (fun _ _ x => x) fun _ _ x => x.elim

section
variable {c : Cx} {σ : Sg} {F : List (Addr × LO)} {s s₁ : Shared} {K : V → Sg → Prop} {loc : List (Str × V)} {led : List (Addr × LO)} {g : Array GenState}

theorem Pv.lift (k : TK s.heap s₁.heap) {v : Value} {s' : Shared} (h : Pv c F s₁ K v s') : Pv c F s K v s' :=
  let ⟨u, σ', a, b, d, e⟩ := h; ⟨u, σ', a, k.trans b, d, e⟩
theorem Pb.lift {K : Bool → Sg → Prop} (k : TK s.heap s₁.heap) {v : Bool} {s' : Shared} (h : Pb c F s₁ K v s') : Pb c F s K v s' :=
  let ⟨σ', a, b, d⟩ := h; ⟨σ', a, k.trans b, d⟩
theorem Pf.lift {N : Sg → Prop} {R : V → Sg → Prop} (k : TK s.heap s₁.heap) {v : Flow} {s' : Shared} (h : Pf c F s₁ N R v s') : Pf c F s N R v s' :=
  let ⟨σ', a, b, d⟩ := h; ⟨σ', a, k.trans b, d⟩
theorem Pv.here {v : Value} {u : V} (S : St c σ F s) (h : K u σ) (hu : u.Is s.heap v) : Pv c F s K v s := ⟨u, σ, S, TK.refl _, hu, h⟩
theorem Pv.tok {v : Value} {u : V} {tk : Nat} (S : St c σ F s) (h : K u σ) (hu : u.Is s.heap v) (ht : s.toks ≤ tk := by walk_at "t") : Pv c F s K v { s with toks := tk } := ⟨u, σ, S.tok ht, TK.refl _, hu, h⟩

theorem is_int {h : Heap} {i : Int} {v : Value} (x : (vI i).Is h v) : ∃ t, v = .int i t := by
  have : er v = .int i 0 := x
  cases v <;> simp [er] at this
  subst this; exact ⟨_, rfl⟩
theorem is_str {h : Heap} {i : Str} {v : Value} (x : (vS i).Is h v) : ∃ t, v = .str i t := by
  have : er v = .str i 0 := x
  cases v <;> simp [er] at this
  subst this; exact ⟨_, rfl⟩
theorem is_fltT {h : Heap} {i : UInt64} {v : Value} (x : (vF i).Is h v) : ∃ t, v = .float i t ∧ t ≠ 0 := by
  have : er v = .float i 1 := x
  cases v <;> simp [er] at this
  obtain ⟨rfl, h⟩ := this
  exact ⟨_, rfl, h⟩
theorem is_flt {h : Heap} {i : UInt64} {v : Value} (x : (vF i).Is h v) : ∃ t, v = .float i t := let ⟨t, e, _⟩ := is_fltT x; ⟨t, e⟩
theorem er_flt {i : UInt64} {t : Tok} (h : 1 ≤ t) : er (.float i t) = .float i 1 := by
  have : t ≠ 0 := Nat.ne_of_gt h
  simp [er, this]
theorem is_ref {h : Heap} {i : Addr} {v : Value} (x : (vR i).Is h v) : v = .ref i := by
  have : er v = .ref i := x
  cases v <;> simp [er] at this
  subst this; rfl
theorem is_bool {h : Heap} {i : Bool} {v : Value} (x : (vB i).Is h v) : v = .bool i := by
  have : er v = .bool i := x
  cases v <;> simp [er] at this
  subst this; rfl
theorem is_none {h : Heap} {v : Value} (x : vN.Is h v) : v = .none := by
  have : er v = .none := x
  cases v <;> simp [er] at this
  rfl

-- names
theorem Ev.nm {x : Str} {p : Pos} {u : V} (hv : loc.lookup x = some u) (h : K u ⟨loc, led, g⟩) (hx : c.env.kindOf x = some .local := by kernel_rfl!) (hd : (x == ("__debug__" : Str)) = false := by kernel_rfl!) :
    Ev c ⟨loc, led, g⟩ (.Name x p) K := fun F s S => by
  obtain ⟨m, hn, hm⟩ := S.ns
  obtain ⟨v, h1, h2⟩ := hm x u hx hv
  exact wpAny_Name (wpAny_loadName_local S.ok.kind hx hn h1 (Pv.here S h h2)) hd
theorem Ev.cel {x : Str} {p : Pos} {u : V} {a : Addr} (hv : loc.lookup x = some u) (h : K u ⟨loc, led, g⟩) (hc : c.env.cells.lookup x = some a) (hx : c.env.kindOf x = some .cell := by kernel_rfl!) (hd : (x == ("__debug__" : Str)) = false := by kernel_rfl!) :
    Ev c ⟨loc, led, g⟩ (.Name x p) K := fun F s S => by
  obtain ⟨m, hn, hm⟩ := S.cl
  obtain ⟨v, h1, h2⟩ := hm x u hx hv
  have := hn x a hc
  rw [h1] at this
  exact wpAny_Name (wpAny_loadName_cell S.ok.kind hx hc this (Pv.here S h h2)) hd

-- constants
theorem Ev.int {i : Int} {k : Nat} {p : Pos} (h : K (vI i) σ) : Ev c σ (.Constant (.int i) k p) K := fun _ _ S => wpAny_Constant_int (Pv.tok S h rfl)
theorem Ev.str {i : Str} {k : Nat} {p : Pos} (h : K (vS i) σ) : Ev c σ (.Constant (.str i) k p) K := fun _ _ S => wpAny_Constant_str (Pv.tok S h rfl)
theorem Ev.bool {i : Bool} {k : Nat} {p : Pos} (h : K (vB i) σ) : Ev c σ (.Constant (.bool i) k p) K := fun _ _ S => wpAny_Constant_bool (Pv.here S h rfl)
theorem Ev.nil {k : Nat} {p : Pos} (h : K vN σ) : Ev c σ (.Constant .none k p) K := fun _ _ S => wpAny_Constant_none (Pv.here S h rfl)
theorem Ev.flt {i : UInt64} {k : Nat} {p : Pos} (hp : c.pos = true) (h : K (vF i) σ) : Ev c σ (.Constant (.float i) k p) K := fun _ s S => by
  show wpAny _ _ (mkFloat i) _ _ s
  exact fun _ _ _ => Pv.tok S h (er_flt (S.tp hp))

-- operators
theorem Ev.bin {l r : Expr} {op : Operator} {p : Pos} (h : Ev c σ l (fun a σ₁ => Ev c σ₁ r (fun b σ₂ => Op2 c σ₂ a b (binaryOp op) K))) : Ev c σ (.BinOp l op r p) K := fun F s S => by
  refine wpAny_BinOp (wpAny_mono (h F s S) (fun v s₁ hx => ?_) fun _ _ x => x)
  obtain ⟨a, σ₁, S₁, k₁, ha, h₁⟩ := hx
  refine wpAny_mono (h₁ F s₁ S₁) (fun w s₂ hx => ?_) fun _ _ x => x
  obtain ⟨b, σ₂, S₂, k₂, hb, h₂⟩ := hx
  exact wpAny_mono (h₂ F s₂ v w S₂ (ha.mono k₂) hb) (fun _ _ x => (x.lift (k₁.trans k₂))) fun _ _ x => x
theorem Ev.cmp {l r : Expr} {op : CmpOp} {p : Pos} (h : Ev c σ l (fun a σ₁ => Ev c σ₁ r (fun b σ₂ => Op2 c σ₂ a b (compareOp op) K))) (hm : behindInMarks op r = false := by with_unfolding_all rfl) : Ev c σ (.Compare l [op] [r] p) K := fun F s S => by
  refine wpAny_Compare1 (wpAny_mono (h F s S) (fun v s₁ hx => ?_) fun _ _ x => x) hm
  obtain ⟨a, σ₁, S₁, k₁, ha, h₁⟩ := hx
  refine wpAny_mono (h₁ F s₁ S₁) (fun w s₂ hx => ?_) fun _ _ x => x
  obtain ⟨b, σ₂, S₂, k₂, hb, h₂⟩ := hx
  exact wpAny_mono (h₂ F s₂ v w S₂ (ha.mono k₂) hb) (fun _ _ x => (x.lift (k₁.trans k₂))) fun _ _ x => x
theorem Ev.un {e : Expr} {op : UnaryOp} {p : Pos} (h : Ev c σ e (fun a σ₁ => Op1 c σ₁ a (unaryOp op) K)) : Ev c σ (.UnaryOp op e p) K := fun F s S => by
  refine wpAny_UnaryOp (wpAny_mono (h F s S) (fun v s₁ hx => ?_) fun _ _ x => x)
  obtain ⟨a, σ₁, S₁, k₁, ha, h₁⟩ := hx
  exact wpAny_mono (h₁ F s₁ v S₁ ha) (fun _ _ x => (x.lift k₁)) fun _ _ x => x
theorem Ev.and2 {x y : Expr} {p : Pos} (h : Ev c σ x (fun a σ₁ => OpT c σ₁ a (fun t σ₂ => (t = true → Ev c σ₂ y K) ∧ (t = false → K a σ₂)))) : Ev c σ (.BoolOp .And [x, y] p) K := fun F s S => by
  refine wpAny_And2 (wpAny_mono (h F s S) (fun v s₁ hx => ?_) fun _ _ x => x)
  obtain ⟨a, σ₁, S₁, k₁, ha, h₁⟩ := hx
  refine wpAny_mono (h₁ F s₁ v S₁ ha) (fun t s₂ hx => ?_) fun _ _ x => x
  obtain ⟨σ₂, S₂, k₂, h₂⟩ := hx
  cases t with
  | true => exact wpAny_mono (h₂.1 rfl F s₂ S₂) (fun _ _ x => (x.lift (k₁.trans k₂))) fun _ _ x => x
  | false => exact ⟨a, σ₂, S₂, k₁.trans k₂, ha.mono k₂, h₂.2 rfl⟩

-- ints
variable {a b : Int}
theorem Op2.addI (h : K (vI (a + b)) σ) : Op2 c σ (vI a) (vI b) (binaryOp .Add) K := fun _ _ _ _ S x y => by
  obtain ⟨t, rfl⟩ := is_int x; obtain ⟨u, rfl⟩ := is_int y
  exact add_int (Pv.tok S h rfl)
theorem Op2.subI (h : K (vI (a - b)) σ) : Op2 c σ (vI a) (vI b) (binaryOp .Sub) K := fun _ _ _ _ S x y => by
  obtain ⟨t, rfl⟩ := is_int x; obtain ⟨u, rfl⟩ := is_int y
  exact sub_int (Pv.tok S h rfl)
theorem Op2.mulI (hs : IntMulOk a b) (h : K (vI (a * b)) σ) : Op2 c σ (vI a) (vI b) (binaryOp .Mult) K := fun _ _ _ _ S x y => by
  obtain ⟨t, rfl⟩ := is_int x; obtain ⟨u, rfl⟩ := is_int y
  exact mul_int (Pv.tok S h rfl) hs
theorem Op2.modI (hb : b ≠ 0) (h : K (vI (a.fmod b)) σ) : Op2 c σ (vI a) (vI b) (binaryOp .Mod) K := fun _ _ _ _ S x y => by
  obtain ⟨t, rfl⟩ := is_int x; obtain ⟨u, rfl⟩ := is_int y
  exact mod_int hb (Pv.tok S h rfl)
theorem Op2.divI (hb : b ≠ 0) (hp : Builtin.divisionGoesByPylong a b = false) (h : K (vI (a.fdiv b)) σ) : Op2 c σ (vI a) (vI b) (binaryOp .FloorDiv) K := fun _ _ _ _ S x y => by
  obtain ⟨t, rfl⟩ := is_int x; obtain ⟨u, rfl⟩ := is_int y
  exact floordiv_int hb (Pv.tok S h rfl) (.inl hp)
theorem Op2.andI (h : K (vI (Builtin.bitAnd a b)) σ) : Op2 c σ (vI a) (vI b) (binaryOp .BitAnd) K := fun _ _ _ _ S x y => by
  obtain ⟨t, rfl⟩ := is_int x; obtain ⟨u, rfl⟩ := is_int y
  exact and_int (Pv.tok S h rfl)
theorem Op2.orI (h : K (vI (Builtin.bitOr a b)) σ) : Op2 c σ (vI a) (vI b) (binaryOp .BitOr) K := fun _ _ _ _ S x y => by
  obtain ⟨t, rfl⟩ := is_int x; obtain ⟨u, rfl⟩ := is_int y
  exact or_int (Pv.tok S h rfl)
theorem Op2.shlI (hb : 0 ≤ b) (hb2 : b ≤ 1000000) (ha : a.natAbs < 2 ^ 64) (h : K (vI (a * 2 ^ b.toNat)) σ) : Op2 c σ (vI a) (vI b) (binaryOp .LShift) K := fun _ _ _ _ S x y => by
  obtain ⟨t, rfl⟩ := is_int x; obtain ⟨u, rfl⟩ := is_int y
  exact lshift_int_small hb hb2 ha (Pv.tok S h rfl)
theorem Op2.shrI (hb : 0 ≤ b) (h : K (vI (a.fdiv (2 ^ b.toNat))) σ) : Op2 c σ (vI a) (vI b) (binaryOp .RShift) K := fun _ _ _ _ S x y => by
  obtain ⟨t, rfl⟩ := is_int x; obtain ⟨u, rfl⟩ := is_int y
  exact rshift_int hb (Pv.tok S h rfl)
theorem Op1.invI (h : K (vI (Builtin.bitNot a)) σ) : Op1 c σ (vI a) (unaryOp .Invert) K := fun _ _ _ S x => by
  obtain ⟨t, rfl⟩ := is_int x
  exact invert_int (Pv.tok S h rfl)
theorem Op2.leI (h : K (vB (decide (a ≤ b))) σ) : Op2 c σ (vI a) (vI b) (compareOp .LtE) K := fun _ _ _ _ S x y => by
  obtain ⟨t, rfl⟩ := is_int x; obtain ⟨u, rfl⟩ := is_int y
  exact le_int (Pv.here S h rfl)
theorem Op2.gtI (h : K (vB (decide (b < a))) σ) : Op2 c σ (vI a) (vI b) (compareOp .Gt) K := fun _ _ _ _ S x y => by
  obtain ⟨t, rfl⟩ := is_int x; obtain ⟨u, rfl⟩ := is_int y
  exact gt_int (Pv.here S h rfl)
theorem Op2.eqI (h : K (vB (a == b)) σ) : Op2 c σ (vI a) (vI b) (compareOp .Eq) K := fun _ _ _ _ S x y => by
  obtain ⟨t, rfl⟩ := is_int x; obtain ⟨u, rfl⟩ := is_int y
  exact eq_int (Pv.here S h rfl)
theorem Op2.isNoneI (h : K (vB false) σ) : ∀ {us : List Value}, Op2 c σ (.t us) vN (compareOp .Is) K := fun _ _ _ _ S x y => by
  obtain ⟨a, it, rfl, _⟩ := x
  cases is_none y
  exact PySem.is_none (Pv.here S h rfl)
theorem Op2.isNoneN (h : K (vB true) σ) : Op2 c σ vN vN (compareOp .Is) K := fun _ _ _ _ S x y => by
  cases is_none x; cases is_none y
  exact PySem.is_none (Pv.here S h rfl)
-- truth
theorem OpT.int {K : Bool → Sg → Prop} (h : K (a != 0) σ) : OpT c σ (vI a) K := fun _ _ _ S x => by
  obtain ⟨t, rfl⟩ := is_int x
  exact truthy_int ⟨σ, S, TK.refl _, h⟩
theorem OpT.bool {K : Bool → Sg → Prop} {p : Bool} (h : K p σ) : OpT c σ (vB p) K := fun _ _ _ S x => by
  cases is_bool x
  exact wpAny_truthy_bool ⟨σ, S, TK.refl _, h⟩
theorem Op1.not {u : V} (h : OpT c σ u (fun b σ' => K (vB !b) σ')) : Op1 c σ u (unaryOp .Not) K := fun F s v S x =>
  not_value (wpAny_mono (h F s v S x) (fun b s' ⟨σ', S', k, h'⟩ => ⟨vB (!b), σ', S', k, rfl, h'⟩) fun _ _ x => x)

variable {KB : Bool → Sg → Prop}
theorem EvT.cmp {l r : Expr} {op : CmpOp} {p : Pos} (h : Ev c σ l (fun a σ₁ => Ev c σ₁ r (fun b σ₂ => Op2 c σ₂ a b (compareOp op) (fun t σ₃ => OpT c σ₃ t KB)))) (hm : behindInMarks op r = false := by with_unfolding_all rfl) : EvT c σ (.Compare l [op] [r] p) KB := fun F s S => by
  refine wpAny_isTrue_Compare1 (wpAny_mono (h F s S) (fun v s₁ hx => ?_) fun _ _ x => x) hm
  obtain ⟨a, σ₁, S₁, k₁, ha, h₁⟩ := hx
  refine wpAny_mono (h₁ F s₁ S₁) (fun w s₂ hx => ?_) fun _ _ x => x
  obtain ⟨b, σ₂, S₂, k₂, hb, h₂⟩ := hx
  refine wpAny_mono (h₂ F s₂ v w S₂ (ha.mono k₂) hb) (fun t s₃ hx => ?_) fun _ _ x => x
  obtain ⟨tt, σ₃, S₃, k₃, ht, h₃⟩ := hx
  exact wpAny_mono (h₃ F s₃ t S₃ ht) (fun _ _ x => x.lift (k₁.trans (k₂.trans k₃))) fun _ _ x => x
theorem EvT.not {e : Expr} {p : Pos} (h : EvT c σ e (fun b σ' => KB (!b) σ')) : EvT c σ (.UnaryOp .Not e p) KB := fun F s S =>
  wpAny_isTrue_Not (wpAny_mono (h F s S) (fun b s₁ ⟨σ₁, S₁, k₁, h₁⟩ => ⟨σ₁, S₁, k₁, h₁⟩) fun _ _ x => x)
theorem EvT.bop {op : BoolOp} {es : List Expr} {p : Pos} (h : EvA c σ op es KB) : EvT c σ (.BoolOp op es p) KB := fun F s S => wpAny_isTrue_BoolOp (h F s S)
theorem EvA.andNil (h : KB true σ) : EvA c σ .And [] KB := fun _ _ S => wpAny_allTrue_And_nil ⟨σ, S, TK.refl _, h⟩
theorem EvA.orNil (h : KB false σ) : EvA c σ .Or [] KB := fun _ _ S => wpAny_allTrue_Or_nil ⟨σ, S, TK.refl _, h⟩
theorem EvA.andCons {e : Expr} {es : List Expr} (h : EvT c σ e (fun b σ' => (b = true → EvA c σ' .And es KB) ∧ (b = false → KB false σ'))) : EvA c σ .And (e :: es) KB := fun F s S => by
  refine wpAny_allTrue_And_cons (wpAny_mono (h F s S) (fun b s₁ hx => ?_) fun _ _ x => x)
  obtain ⟨σ₁, S₁, k₁, h₁⟩ := hx
  cases b with
  | true => simpa using wpAny_mono (h₁.1 rfl F s₁ S₁) (fun _ _ x => x.lift k₁) fun _ _ x => x
  | false => simpa using ⟨σ₁, S₁, k₁, h₁.2 rfl⟩
theorem EvA.orCons {e : Expr} {es : List Expr} (h : EvT c σ e (fun b σ' => (b = false → EvA c σ' .Or es KB) ∧ (b = true → KB true σ'))) : EvA c σ .Or (e :: es) KB := fun F s S => by
  refine wpAny_allTrue_Or_cons (wpAny_mono (h F s S) (fun b s₁ hx => ?_) fun _ _ x => x)
  obtain ⟨σ₁, S₁, k₁, h₁⟩ := hx
  cases b with
  | false => simpa using wpAny_mono (h₁.1 rfl F s₁ S₁) (fun _ _ x => x.lift k₁) fun _ _ x => x
  | true => simpa using ⟨σ₁, S₁, k₁, h₁.2 rfl⟩
theorem EvT.val {e : Expr} (h : Ev c σ e (fun u σ' => OpT c σ' u KB))
    (he : isTrue e c.env (eval e c.env) = (do let v ← eval e c.env; standAt e.pos; holding [v] (truthy v)) := by rfl) : EvT c σ e KB := fun F s S => by
  rw [he]
  refine wpAny_bind (wpAny_mono (h F s S) (fun v s₁ hx => ?_) fun _ _ x => x)
  obtain ⟨u, σ₁, S₁, k₁, hu, h₁⟩ := hx
  exact wpAny_bind (wpAny_standAt (wpAny_holding (wpAny_mono (h₁ F s₁ v S₁ hu) (fun _ _ x => x.lift k₁) fun _ _ x => x)))

-- lists of expressions
variable {KL : List V → Sg → Prop}
theorem EvL.nil (h : KL [] σ) : EvL c σ [] KL := fun _ _ _ S => wpAny_items_nil ⟨[], σ, S, TK.refl _, trivial, h⟩
theorem EvL.cons {e : Expr} {es : List Expr} (h : Ev c σ e (fun u σ' => EvL c σ' es (fun us σ'' => KL (u :: us) σ''))) (he : starEach (e :: es) c.env = (false, eval e c.env) :: starEach es c.env := by rfl) : EvL c σ (e :: es) KL := fun pos F s S => by
  refine wpAny_items_cons (wpAny_mono (h F s S) (fun v s₁ hx => ?_) fun _ _ x => x) he
  obtain ⟨u, σ₁, S₁, k₁, hu, h₁⟩ := hx
  refine wpAny_mono (h₁ pos F s₁ S₁) (fun vs s₂ hx => ?_) fun _ _ x => x
  obtain ⟨us, σ₂, S₂, k₂, hus, h₂⟩ := hx
  exact ⟨u :: us, σ₂, S₂, k₁.trans k₂, ⟨hu.mono k₂, hus⟩, h₂⟩

-- displays
theorem Ev.lst {es : List Expr} {p : Pos} (h : EvL c σ es (fun us σ' => us.length ≤ 1000 ∧ ∀ a, K (vR a) ⟨σ'.loc, (a, .lst us) :: σ'.led, σ'.gens⟩)) : Ev c σ (.List es p) K := fun F s S => by
  refine wpAny_List (wpAny_mono (h _ F s S) (fun vs s₁ hx => ?_) fun _ _ x => x)
  obtain ⟨us, σ₁, S₁, k₁, hus, h₁⟩ := hx
  refine ⟨?_, ?_⟩
  · have := hus.length; have := h₁.1; rw [sizeLine_eq]; omega
  · refine ⟨vR _, _, St.add (tk := s₁.toks) (S₁.push _) (Nat.le_refl _) S₁ ?_, k₁.trans (Kp.push _ _).tk, rfl, h₁.2 _⟩
    exact ⟨_, ⟨_, Heap.get?_push_size _ rfl, rfl, _, rfl⟩, hus.mono (Kp.push _ _).tk⟩
theorem Ev.plst {es : List Expr} {p : Pos} (h : EvL c σ es (fun us σ' => us.length ≤ 1000 ∧ ∀ a, K (vR a) ⟨σ'.loc, (a, .pl us) :: σ'.led, σ'.gens⟩)) : Ev c σ (.List es p) K := fun F s S => by
  refine wpAny_List (wpAny_mono (h _ F s S) (fun vs s₁ hx => ?_) fun _ _ x => x)
  obtain ⟨us, σ₁, S₁, k₁, hus, h₁⟩ := hx
  refine ⟨?_, ?_⟩
  · have := hus.length; have := h₁.1; rw [sizeLine_eq]; omega
  · refine ⟨vR _, _, St.add (tk := s₁.toks) (S₁.push _) (Nat.le_refl _) S₁ ?_, k₁.trans (Kp.push _ _).tk, rfl, h₁.2 _⟩
    exact ⟨_, ⟨_, Heap.get?_push_size _ rfl⟩, hus.mono (Kp.push _ _).tk⟩
theorem flatten_of {h : Heap} {us : List V} {vs : List Value} (x : IsAll h us vs) {ws : List Value} (e : us = ws.map V.p) : vs.map er = ws := flat_of (h := h) (e ▸ x)
theorem Ev.tup {es : List Expr} {k : Nat} {p : Pos} (h : EvL c σ es (fun us σ' => ∃ ws : List Value, us = ws.map V.p ∧ ws.length ≤ 1000 ∧ K (.t ws) σ')) : Ev c σ (.Tuple es k p) K := fun F s S => by
  refine wpAny_Tuple (wpAny_mono (h _ F s S) (fun vs s₁ hx => ?_) fun _ _ x => x)
  obtain ⟨us, σ₁, S₁, k₁, hus, ws, e, hl, h₁⟩ := hx
  refine ⟨?_, ?_⟩
  · have := hus.length; rw [e, List.length_map] at this; rw [sizeLine_eq]; omega
  · refine ⟨.t ws, _, S₁.push _, k₁.trans (Kp.push _ _).tk, ⟨_, _, rfl, ⟨_, Heap.get?_push_size _ rfl, rfl, _, rfl⟩, flatten_of hus e⟩, h₁⟩

-- statements
variable {N : Sg → Prop} {R : V → Sg → Prop}
theorem ExS.nil (h : N σ) : ExS c σ [] N R := fun _ _ S => wpAny_execs_nil ⟨σ, S, TK.refl _, h⟩
theorem ExS.cons {st : Stmt} {rest : List Stmt} (h : Ex c σ st (fun σ' => ExS c σ' rest N R) R) : ExS c σ (st :: rest) N R := fun F s S => by
  refine wpAny_execs_cons (wpAny_mono (h F s S) (fun f s₁ hx => ?_) fun _ _ x => x)
  obtain ⟨σ₁, S₁, k₁, h₁⟩ := hx
  cases f with
  | next => exact wpAny_mono (h₁ F s₁ S₁) (fun _ _ x => x.lift k₁) fun _ _ x => x
  | ret v => exact ⟨σ₁, S₁, k₁, h₁⟩
  | brk => exact h₁.elim
  | cont => exact h₁.elim
theorem Ex.ret {e : Expr} {p : Pos} (h : Ev c σ e R) : Ex c σ (.Return (some e) p) N R := fun F s S =>
  wpAny_Return_some (wpAny_mono (h F s S) (fun v s' ⟨u, σ', S', k, hu, h'⟩ => ⟨σ', S', k, u, hu, h'⟩) fun _ _ x => x)
theorem Ex.ite {t : Expr} {b1 b2 : List Stmt} {p : Pos} (h : EvT c σ t (fun b σ' => (b = true → ExS c σ' b1 N R) ∧ (b = false → ExS c σ' b2 N R))) : Ex c σ (.If t b1 b2 p) N R := fun F s S => by
  refine wpAny_If (wpAny_mono (h F s S) (fun b s₁ hx => ?_) fun _ _ x => x)
  obtain ⟨σ₁, S₁, k₁, h₁⟩ := hx
  cases b with
  | true => simpa using wpAny_mono (h₁.1 rfl F s₁ S₁) (fun _ _ x => x.lift k₁) fun _ _ x => x
  | false => simpa using wpAny_mono (h₁.2 rfl F s₁ S₁) (fun _ _ x => x.lift k₁) fun _ _ x => x
theorem notCls (ok : c.Ok) : (c.env.scope.kind == .class || (c.env.scope.kind == .module && c.env.locals != c.env.globals)) = false := by rw [ok.kind]; rfl
/-- a name is stored: a local, or a cell -/
noncomputable def StN (c : Cx) (x : Str) : Prop := c.env.kindOf x = some .local ∨ ∃ a, c.env.kindOf x = some .cell ∧ c.env.cells.lookup x = some a ∧ (c.env.cells.Pairwise fun x y => x.2 ≠ y.2) ∧ c.s₀.heap.objs.size ≤ a
theorem StN.store {x : Str} (hx : StN c x) {u : V} {v : Value} (S : St c σ F s) (hu : u.Is s.heap v) {Q : Unit → Shared → Prop}
    (h : ∀ s', St c ⟨(x, u) :: σ.loc, σ.led, σ.gens⟩ F s' → TK s.heap s'.heap → Q () s') : wpAny (Mo c) c.A (storeName c.env x v) Q NoE s := by
  rcases hx with hx | ⟨a, hx, hc, hap, hown⟩
  · obtain ⟨m, hn, hm⟩ := S.ns
    refine wpAny_storeName_local hx hn (fun h' hn' hs' => h _ (S.setLocal hn hm hn' hs' hu hx) ?_) (notCls S.ok)
    obtain ⟨o, es, ep, e, hd, _⟩ := hn
    exact TK.but hs'.extBut (noTup_of e (by unfold notTupObj; rw [hd]))
  · obtain ⟨cm, hcm, _⟩ := S.cl
    refine wpAny_storeName_cell S.ok.kind hx hc (hcm x a hc) (fun h' hi hs' => h _ (S.setCell (tk := s.toks) hx hc hi hs' hu hap hown) ?_)
    obtain ⟨o, e, hd⟩ := hcm x a hc
    exact TK.but hs'.extBut (noTup_of e (by unfold notTupObj; rw [hd]))
theorem Ex.asg {x : Str} {p' p : Pos} {e : Expr} (h : Ev c σ e (fun u σ' => N ⟨(x, u) :: σ'.loc, σ'.led, σ'.gens⟩)) (hx : StN c x := by walk_at "o") (hs : swapsWith e (some (.Name x p')) p.line c.env = pure false := by rfl) :
    Ex c σ (.Assign [.Name x p'] e p) N R := fun F s S =>
  wpAny_Assign_Name (wpAny_mono (h F s S) (fun v s₁ ⟨u, σ₁, S₁, k₁, hu, h₁⟩ => hx.store S₁ hu fun s' S' k' => ⟨_, S', k₁.trans k', h₁⟩) fun _ _ x => x) hs
end
end

section
open PySem PySem.Calls PyProof.Rows

noncomputable def stm (i : Nat) : Stmt := PySem.Challenge.pw_tp0003_01.main.body.getD i (.Pass default)
noncomputable def recOf : Stmt → DefRec
  | .FunctionDef name args body _ _ _ scope _ _ pos => ⟨name, args, body, scope, pos⟩
  | _ => ⟨"", ⟨[], [], none, [], [], none, []⟩, [], default, default⟩
noncomputable abbrev fn (i : Nat) : DefRec := recOf (stm i)
theorem fns_are : recsOf PySem.Challenge.pw_tp0003_01 = ([1,3,5,6,7,8,9,10,12,13,14,15,16,17,18,19,20,21,22].map fun i => recOf (stm i)) := by kernel_rfl
theorem fn_mem {i : Nat} (h : i ∈ [1,3,5,6,7,8,9,10,12,13,14,15,16,17,18,19,20,21,22]) : fn i ∈ recsOf PySem.Challenge.pw_tp0003_01 := by
  rw [fns_are]; exact List.mem_map.mpr ⟨i, h, rfl⟩

theorem call_cellsT {prog : Program} {w : World} {A : Around} {R : Result → Shared → Prop} {s : Shared} {name : Str} {params : Arguments} {body : List Stmt} {scope : Scope}
    {pm cd doc : Value} {a : Addr} {o : Obj} {args : List Value} {binds : List (Str × Value)}
    (hroom : A.depth < recursionLimit) (ho : s.heap.get? a = some o) (hdata : o.data = .func (Calls.docDef name params body scope pm cd doc)) (hlim : s.heap.NoLimit) (hcd : s.heap.CodeRec cd name)
    (hbind : bindArgs (Calls.docDef name params body scope pm cd doc) ⟨args, []⟩ = pure binds)
    (hkind : ∀ x ∈ binds, scope.names.lookup x.1 = some .local ∨ (scope.names.lookup x.1 = some .cell ∧ ((cellsFrom (s.heap.objs.size + 1) scope.names []).lookup x.1).isSome = true))
    (h : ∀ h₁ tk, s.toks ≤ tk → Fr s.heap s.heap.objs.size h₁ (bindL (envOfC name scope s.heap.objs.size a cd).kindOf binds fun _ => none) →
      Cl s.heap.objs.size (cellsFrom (s.heap.objs.size + 1) scope.names []) h₁ (bindC (envOfC name scope s.heap.objs.size a cd).kindOf binds fun _ => none) →
      wpAny (model prog w) (A.deeper (envOfC name scope s.heap.objs.size a cd)) (execs body (envOfC name scope s.heap.objs.size a cd))
        (fun f s' => R (.ok (.ret (match f with | .ret v => v | _ => .none))) s') (fun _ _ => False) { s with heap := h₁, toks := tk })
    (hco : scope.isCoroutine = false := by rfl) (hgen : scope.isGenerator = false := by rfl) (hk : scope.kind = .function := by rfl) :
    codeAny (model prog w) A (.call (.ref a) ⟨args, []⟩) R s := by
  refine codeAny_call_function (fd := Calls.docDef name params body scope pm cd doc) hroom ho hdata hco hgen rfl hcd ?_
  rw [hbind]
  refine wpAny_pure (wpAny_with_toks (Nat.le_refl s.toks) (wpAny_newFunctionEnv_cells hk hkind fun env he s' X => ?_))
  subst he
  intro ht
  obtain ⟨h₁, tk, rfl, _⟩ := X.done
  exact ⟨hlim.keeps X.toInCall.keep, codeAny_func (wpAny_mono (h h₁ tk ht ⟨X.toInCall.ns, X.toInCall.keep, X.toInCall.fresh⟩ ⟨X.cell, X.apart, X.above⟩) (fun _ _ x => x) (fun _ _ x => x.elim))⟩
noncomputable def FnAt (c : Cx) (σ : Sg) (d : DefRec) (us : List V) (K : V → Sg → Prop) : Prop :=
  ∀ F s vs a, c.mg d.name = some (.ref a) → St c σ F s → IsAll s.heap us vs →
    codeAny (Mo c) c.A (.call (.ref a) ⟨vs, []⟩) (fun r s' => match r with | .ok (.ret v) => Pv c F s K v s' | _ => False) s

section
variable {c : Cx} {σ : Sg} {F : List (Addr × LO)} {s s₁ : Shared} {K : V → Sg → Prop}

theorem ev_global {x : Str} {p : Pos} {v : Value} {Q : Value → Shared → Prop} (S : St c σ F s) (hv : c.mg x = some v) (h : Q v s) (hx : c.env.kindOf x = some .globalImplicit) (hd : (x == ("__debug__" : Str)) = false) :
    wpAny (Mo c) c.A (eval (.Name x p) c.env) Q NoE s :=
  Name_function_global S.ok.kind hx (loadGlobal_global (by rw [S.ok.glob]; exact S.gl.g) hv h) hd
theorem ev_builtin {x : Str} {p : Pos} {v : Value} {Q : Value → Shared → Prop} (S : St c σ F s) (hm : c.mg x = none) (hv : c.mb x = some v) (h : Q v s) (hx : c.env.kindOf x = some .globalImplicit) (hd : (x == ("__debug__" : Str)) = false) :
    wpAny (Mo c) c.A (eval (.Name x p) c.env) Q NoE s :=
  Name_function_global S.ok.kind hx (loadGlobal_builtin (by rw [S.ok.glob]; exact S.gl.g) hm (by rw [S.ok.blt]; exact S.gl.b) hv h) hd

/-- a call of a def of the module -/
theorem Ev.callF {x : Str} {np pos : Pos} {e : Expr} {es : List Expr} (i : Nat) (h : EvL c σ (e :: es) (fun us σ' => FnAt c σ' (fn i) us K))
    (hd : i ∈ [1,3,5,6,7,8,9,10,12,13,14,15,16,17,18,19,20,21,22] := by decide) (hn : (fn i).name = x := by kernel_rfl!)
    (hx : c.env.kindOf x = some .globalImplicit := by kernel_rfl!) (hdb : (x == ("__debug__" : Str)) = false := by kernel_rfl!) (he : starEach (e :: es) c.env = (false, eval e c.env) :: starEach es c.env := by rfl) :
    Ev c σ (.Call (.Name x np) (e :: es) [] pos) K := fun F s S => by
  subst hn
  obtain ⟨a, o, pm, code, doc, hm, _⟩ := S.ok.gl.fn _ (fn_mem hd)
  refine wpAny_Call_ofName (ev_global S hm ?_ hx hdb)
  show wpAny _ _ (callWith pos (.ref a) [] (backTo pos (starEach (e :: es) c.env)) []) _ _ s
  have h1 := h pos F s S
  rw [he] at h1 ⊢
  obtain ⟨a', o, pm, code, doc, hm', ho, hdat, _⟩ := S.ok.gl.fn _ (fn_mem hd)
  have : a' = a := by rw [hm] at hm'; exact (Value.ref.inj (Option.some.inj hm')).symm
  subst this
  refine callWith_function (o := o) (fd := docDef (fn i).name (fn i).params (fn i).body (fn i).scope pm code doc) (evalArgs_plain (wpAny_mono h1 (fun vs s₁ hx => ?_) fun _ _ x => x))
  obtain ⟨us, σ₁, S₁, k₁, hus, h₁⟩ := hx
  refine ⟨⟨S₁.keep _ _ ho, hdat⟩, wpAny_call (codeAny_mono (h₁ F s₁ vs a' hm S₁ hus) fun r s' hr => ?_)⟩
  cases r with
  | error e => exact hr.elim
  | ok f =>
    cases f with
    | ret v => exact hr.lift k₁
    | _ => exact hr.elim

/-- a call of a built-in function -/
theorem Ev.callB {n : String} {np pos : Pos} {e : Expr} {es : List Expr} (id : String) (h : EvL c σ (e :: es) (fun us σ' => OpL c σ' us (fun vs => call (.builtin id) vs) K))
    (hn : n ∈ (["range", "len", "min", "max", "round", "enumerate"] : List String) := by decide) (hb : bootBuiltins (Str.ofString n) = some (.builtin id) := by kernel_rfl!)
    (hx : c.env.kindOf (Str.ofString n) = some .globalImplicit := by kernel_rfl!) (hdb : ((Str.ofString n) == ("__debug__" : Str)) = false := by kernel_rfl!) (he : starEach (e :: es) c.env = (false, eval e c.env) :: starEach es c.env := by rfl)
    (hpl : (backTo pos (starEach (e :: es) c.env)).any (·.1) = false := by rfl) :
    Ev c σ (.Call (.Name (Str.ofString n) np) (e :: es) [] pos) K := fun F s S => by
  obtain ⟨h1, h2⟩ := S.ok.gl.bi n hn
  refine wpAny_Call_ofName (ev_builtin S h1 (h2.trans hb) ?_ hx hdb)
  show wpAny _ _ (callWith pos (.builtin id) [] (backTo pos (starEach (e :: es) c.env)) []) _ _ s
  have h3 := h pos F s S
  refine callWith_builtin hpl ?_
  rw [he] at h3 ⊢
  refine evalArgs_plain (wpAny_mono h3 (fun vs s₁ hx => ?_) fun _ _ x => x)
  obtain ⟨us, σ₁, S₁, k₁, hus, h₁⟩ := hx
  exact wpAny_mono (h₁ F s₁ vs S₁ hus) (fun _ _ x => x.lift k₁) fun _ _ x => x
theorem Ev.callT {n : String} {np pos : Pos} {e : Expr} {es : List Expr} (id : String) (h : EvL c σ (e :: es) (fun us σ' => OpL c σ' us (fun vs => call (.type id) vs) K))
    (hn : n ∈ (["range", "len", "min", "max", "round", "enumerate"] : List String) := by decide) (hb : bootBuiltins (Str.ofString n) = some (.type id) := by kernel_rfl!)
    (hx : c.env.kindOf (Str.ofString n) = some .globalImplicit := by kernel_rfl!) (hdb : ((Str.ofString n) == ("__debug__" : Str)) = false := by kernel_rfl!) (he : starEach (e :: es) c.env = (false, eval e c.env) :: starEach es c.env := by rfl)
    (hpl : (backTo pos (starEach (e :: es) c.env)).any (·.1) = false := by rfl) :
    Ev c σ (.Call (.Name (Str.ofString n) np) (e :: es) [] pos) K := fun F s S => by
  obtain ⟨h1, h2⟩ := S.ok.gl.bi n hn
  refine wpAny_Call_ofName (ev_builtin S h1 (h2.trans hb) ?_ hx hdb)
  show wpAny _ _ (callWith pos (.type id) [] (backTo pos (starEach (e :: es) c.env)) []) _ _ s
  have h3 := h pos F s S
  refine PySem.callWith_type hpl ?_
  rw [he] at h3 ⊢
  refine evalArgs_plain (wpAny_mono h3 (fun vs s₁ hx => ?_) fun _ _ x => x)
  obtain ⟨us, σ₁, S₁, k₁, hus, h₁⟩ := hx
  exact wpAny_mono (h₁ F s₁ vs S₁ hus) (fun _ _ x => x.lift k₁) fun _ _ x => x

theorem isAll_nil {h : Heap} {vs : List Value} (x : IsAll h [] vs) : vs = [] := by
  cases vs with
  | nil => rfl
  | cons _ _ => exact x.elim
theorem isAll_cons {h : Heap} {a : V} {us : List V} {vs : List Value} (x : IsAll h (a :: us) vs) : ∃ v ws, vs = v :: ws ∧ a.Is h v ∧ IsAll h us ws := by
  cases vs with
  | nil => exact x.elim
  | cons v ws => exact ⟨v, ws, rfl, x.1, x.2⟩
theorem isAll1 {h : Heap} {a : V} {vs : List Value} (x : IsAll h [a] vs) : ∃ v, vs = [v] ∧ a.Is h v := by
  obtain ⟨v, ws, rfl, y, e⟩ := isAll_cons x
  obtain rfl := isAll_nil e
  exact ⟨v, rfl, y⟩
theorem isAll2 {h : Heap} {a b : V} {vs : List Value} (x : IsAll h [a, b] vs) : ∃ v w, vs = [v, w] ∧ a.Is h v ∧ b.Is h w := by
  obtain ⟨v, ws, rfl, y, e⟩ := isAll_cons x
  obtain ⟨w, rfl, z⟩ := isAll1 e
  exact ⟨v, w, rfl, y, z⟩
theorem isAll3 {h : Heap} {a b d : V} {vs : List Value} (x : IsAll h [a, b, d] vs) : ∃ v w z, vs = [v, w, z] ∧ a.Is h v ∧ b.Is h w ∧ d.Is h z := by
  obtain ⟨v, ws, rfl, y, e⟩ := isAll_cons x
  obtain ⟨w, z, rfl, y', y''⟩ := isAll2 e
  exact ⟨v, w, z, rfl, y, y', y''⟩

theorem OpL.min2 {a b : Int} (hA : c.A.handled = none) (h : K (vI (min a b)) σ) : OpL c σ [vI a, vI b] (fun vs => call (.builtin "min") vs) K := fun F s vs S x => by
  obtain ⟨v, w, rfl, hv, hw⟩ := isAll2 x
  obtain ⟨t, rfl⟩ := is_int hv; obtain ⟨u, rfl⟩ := is_int hw
  refine wpAny_with_toks (Nat.le_refl s.toks) (min_two_ints hA fun h' tk hk ht => ⟨_, _, S.ext hk ht, Kp.tk hk, ?_, h⟩)
  show er _ = _
  split <;> simp only [er, Value.int.injEq, and_true] <;> omega
theorem OpL.max2 {a b : Int} (hA : c.A.handled = none) (h : K (vI (max a b)) σ) : OpL c σ [vI a, vI b] (fun vs => call (.builtin "max") vs) K := fun F s vs S x => by
  obtain ⟨v, w, rfl, hv, hw⟩ := isAll2 x
  obtain ⟨t, rfl⟩ := is_int hv; obtain ⟨u, rfl⟩ := is_int hw
  refine wpAny_with_toks (Nat.le_refl s.toks) (max_two_ints hA fun h' tk hk ht => ⟨_, _, S.ext hk ht, Kp.tk hk, ?_, h⟩)
  show er _ = _
  split <;> simp only [er, Value.int.injEq, and_true] <;> omega

/-- the callee's own context -/
noncomputable def callee (c : Cx) (d : DefRec) (s : Shared) (a : Addr) (cd : Value) : Cx :=
  ⟨c.prog, c.w, c.A.deeper (envOfC d.name d.scope s.heap.objs.size a cd), envOfC d.name d.scope s.heap.objs.size a cd, s, c.mg, c.mb, c.pos⟩

theorem bindL_not {k : Str → Option NameKind} {x : Str} : ∀ {names : List Str} {vs : List Value} {m : Str → Option Value}, x ∉ names → bindL k (names.zip vs) m x = m x
  | [], _, _, _ => rfl
  | _ :: _, [], _, _ => rfl
  | n :: ns, v :: vs, m, h => by
    rw [List.zip_cons_cons]
    show bindL k (ns.zip vs) (if k n = some .local then fun y => if y = n then some v else m y else m) x = m x
    rw [bindL_not (fun q => h (.tail _ q))]
    have : x ≠ n := fun q => h (q ▸ .head _)
    split <;> simp [this]
theorem bindC_not {k : Str → Option NameKind} {x : Str} : ∀ {names : List Str} {vs : List Value} {m : Str → Option Value}, x ∉ names → bindC k (names.zip vs) m x = m x
  | [], _, _, _ => rfl
  | _ :: _, [], _, _ => rfl
  | n :: ns, v :: vs, m, h => by
    rw [List.zip_cons_cons]
    show bindC k (ns.zip vs) (if k n = some .local then m else fun y => if y = n then some v else m y) x = m x
    rw [bindC_not (fun q => h (.tail _ q))]
    have : x ≠ n := fun q => h (q ▸ .head _)
    split <;> simp [this]
theorem bindL_is {h : Heap} {k : Str → Option NameKind} {x : Str} {u : V} (hk : k x = some .local) : ∀ {names : List Str} {us : List V} {vs : List Value} {m : Str → Option Value}, names.Nodup → IsAll h us vs → (names.zip us).lookup x = some u →
    ∃ v, bindL k (names.zip vs) m x = some v ∧ u.Is h v
  | [], _, _, _, _, _, e => by simp at e
  | _ :: _, [], _, _, _, _, e => by simp at e
  | _ :: _, _ :: _, [], _, _, a, _ => a.elim
  | n :: ns, u' :: us, v :: vs, m, hn, ⟨a, b⟩, e => by
    rw [List.zip_cons_cons] at e ⊢
    show ∃ v', bindL k (ns.zip vs) (if k n = some .local then fun y => if y = n then some v else m y else m) x = some v' ∧ u.Is h v'
    rw [List.lookup_cons] at e
    by_cases q : x = n
    · subst q
      simp at e; subst e
      exact ⟨v, by rw [bindL_not (List.nodup_cons.mp hn).1]; simp [hk], a⟩
    · have : (x == n) = false := beq_eq_false_iff_ne.mpr q
      rw [this] at e
      exact bindL_is hk (List.nodup_cons.mp hn).2 b e
theorem bindC_is {h : Heap} {k : Str → Option NameKind} {x : Str} {u : V} (hk : k x = some .cell) : ∀ {names : List Str} {us : List V} {vs : List Value} {m : Str → Option Value}, names.Nodup → IsAll h us vs → (names.zip us).lookup x = some u →
    ∃ v, bindC k (names.zip vs) m x = some v ∧ u.Is h v
  | [], _, _, _, _, _, e => by simp at e
  | _ :: _, [], _, _, _, _, e => by simp at e
  | _ :: _, _ :: _, [], _, _, a, _ => a.elim
  | n :: ns, u' :: us, v :: vs, m, hn, ⟨a, b⟩, e => by
    rw [List.zip_cons_cons] at e ⊢
    show ∃ v', bindC k (ns.zip vs) (if k n = some .local then m else fun y => if y = n then some v else m y) x = some v' ∧ u.Is h v'
    rw [List.lookup_cons] at e
    by_cases q : x = n
    · subst q
      simp at e; subst e
      exact ⟨v, by rw [bindC_not (List.nodup_cons.mp hn).1]; simp [hk], a⟩
    · have : (x == n) = false := beq_eq_false_iff_ne.mpr q
      rw [this] at e
      exact bindC_is hk (List.nodup_cons.mp hn).2 b e
theorem cellsFrom_gt {l0 : Nat} : ∀ (names : List (Str × NameKind)) (n : Nat) (acc : List (Str × Addr)), (∀ p ∈ acc, l0 ≤ p.2) → l0 ≤ n → ∀ p ∈ cellsFrom n names acc, l0 ≤ p.2
  | [], _, _, h, _ => h
  | (x, k) :: r, n, acc, h, hn => by
    unfold cellsFrom
    split
    · refine cellsFrom_gt r (n + 1) _ (fun p hp => ?_) (Nat.le_succ_of_le hn)
      rcases List.mem_cons.mp hp with rfl | hp
      · exact hn
      · exact h p hp
    · exact cellsFrom_gt r n acc h hn
theorem cellsFrom_pair : ∀ (names : List (Str × NameKind)) (n : Nat) (acc : List (Str × Addr)), acc.Pairwise (fun x y => x.2 ≠ y.2) → (∀ p ∈ acc, @LT.lt Nat _ p.2 n) → (cellsFrom n names acc).Pairwise fun x y => x.2 ≠ y.2
  | [], _, _, h, _ => h
  | (x, k) :: r, n, acc, h, hn => by
    unfold cellsFrom
    split
    · refine cellsFrom_pair r (n + 1) _ (List.pairwise_cons.mpr ⟨fun p hp e => Nat.lt_irrefl n ?_, h⟩) fun p hp => ?_
      · have := hn p hp; rw [← e] at this; exact this
      · rcases List.mem_cons.mp hp with rfl | hp
        · exact Nat.lt_succ_self n
        · exact Nat.lt_succ_of_lt (hn p hp)
    · exact cellsFrom_pair r n acc h hn
theorem callee_pair (c : Cx) (d : DefRec) (s : Shared) (a : Addr) (cd : Value) : (callee c d s a cd).env.cells.Pairwise fun x y => x.2 ≠ y.2 :=
  cellsFrom_pair _ _ [] .nil (fun _ h => nomatch h)
theorem callee_own {c : Cx} {d : DefRec} {s : Shared} {a : Addr} {cd : Value} {x : Str} {b : Addr} (h : (callee c d s a cd).env.cells.lookup x = some b) : s.heap.objs.size ≤ b ∧ b ≠ s.heap.objs.size := by
  have := cellsFrom_gt (l0 := s.heap.objs.size + 1) d.scope.names (s.heap.objs.size + 1) [] (fun _ h => nomatch h) (Nat.le_refl _) _ (mem_of_lookup h)
  exact ⟨Nat.le_of_succ_le this, Nat.ne_of_gt this⟩

/-- a def's contract by its body -/
theorem FnAt.body {i : Nat} {us : List V} {names : List Str} (hr : Room 1 c.A)
    (h : ∀ F s a cd, St c σ F s → ExS (callee c (fn i) s a cd) ⟨names.zip us, [], σ.gens⟩ (fn i).body (fun _ => False) (fun u σ' => σ'.gens = σ.gens ∧ K u ⟨σ.loc, σ'.led ++ σ.led, σ.gens⟩))
    (hd : i ∈ [1,3,5,6,7,8,9,10,12,13,14,15,16,17,18,19,20,21,22] := by decide)
    (hb : ∀ pm cd doc (vs : List Value), vs.length = us.length → bindArgs (docDef (fn i).name (fn i).params (fn i).body (fn i).scope pm cd doc) ⟨vs, []⟩ = pure (names.zip vs))
    (hn : names.Nodup) (hlen : names.length = us.length := by rfl)
    (hk : (names.all fun x => (fn i).scope.names.lookup x == some .local || (fn i).scope.names.lookup x == some .cell) = true := by kernel_rfl!)
    (hco : (fn i).scope.isCoroutine = false := by kernel_rfl!) (hgen : (fn i).scope.isGenerator = false := by kernel_rfl!) (hkd : (fn i).scope.kind = .function := by kernel_rfl!) :
    FnAt c σ (fn i) us K := fun F s vs a hm S hus => by
  obtain ⟨a', o, pm, cd, doc, hm', ho, hdat, hcd⟩ := S.gl.fn _ (fn_mem hd)
  have : a' = a := by rw [hm] at hm'; exact (Value.ref.inj (Option.some.inj hm')).symm
  subst this
  refine call_cellsT (by have := hr.2.1; omega) ho hdat S.gl.nolimit hcd (hb pm cd doc vs hus.length.symm) (fun x hx => ?_) (fun h₁ tk htk Fr' X => ?_) hco hgen hkd
  · have h1 : x.1 ∈ names := (List.of_mem_zip hx).1
    have h2 := List.all_eq_true.mp hk x.1 h1
    rcases Bool.or_eq_true_iff.mp h2 with q | q
    · exact .inl (by simpa using q)
    · have q' : (fn i).scope.names.lookup x.1 = some .cell := by simpa using q
      exact .inr ⟨q', W.cellsFrom_some _ _ _ (.inl q')⟩
  · have S' : St (callee c (fn i) s a' cd) ⟨names.zip us, [], σ.gens⟩ [] { s with heap := h₁, toks := tk } := by
      refine ⟨⟨hkd, hco, rfl, rfl, Nat.le_refl _, fun n b e => (callee_own (c := c) (a := a') (cd := cd) e).2, S.gl⟩, ⟨h₁, tk, ?_⟩, Fr'.keep, ⟨_, Fr'.ns, fun x u k e => ?_⟩, ⟨_, X.cell, fun x u k e => ?_⟩, fun p hp => (nomatch hp), .nil, fun p => Nat.le_trans (S.tp p) htk⟩
      · obtain ⟨h₂, t₂, e⟩ := S.same
        have : s.gens = σ.gens := by rw [e]
        show _ = { s with heap := h₁, toks := tk, gens := σ.gens }
        rw [← this]
      · obtain ⟨v, h1, h2⟩ := bindL_is (h := s.heap) k hn hus e
        exact ⟨v, h1, h2.mono (Kp.tk Fr'.keep)⟩
      · obtain ⟨v, h1, h2⟩ := bindC_is (h := s.heap) k hn hus e
        exact ⟨v, h1, h2.mono (Kp.tk Fr'.keep)⟩
    refine wpAny_mono (h F s a' cd S [] _ S') (fun f s' hf => ?_) fun _ _ x => x.elim
    obtain ⟨σ', S'', k', hf⟩ := hf
    cases f with
    | next => exact hf.elim
    | brk => exact hf.elim
    | cont => exact hf.elim
    | ret v =>
      obtain ⟨u, hu, hg, hK⟩ := hf
      refine ⟨u, _, ?_, Kp.tk S''.keep, hu, hK⟩
      have S2 : St c σ F s' := by
        obtain ⟨h₂, t₂, e⟩ := S''.same
        rw [hg] at e
        obtain ⟨h₃, t₃, e₃⟩ := S.same
        have hs : s' = { s with heap := s'.heap, toks := s'.toks } := by rw [e, e₃]; rfl
        rw [hs]
        exact S.extP S''.keep S''.tp
      refine ⟨S2.ok, S2.same, S2.keep, S2.ns, S2.cl, fun p hp => ?_, ?_, S2.tp⟩
      · rw [List.append_assoc] at hp
        rcases List.mem_append.mp hp with hp | hp
        · have L := S''.led p (List.mem_append_left _ hp)
          have f := S.fresh L.2.1
          exact ⟨L.1, f.2.2.2, f.2.1, f.2.2.1⟩
        · exact S2.led p hp
      · show ((σ'.led ++ σ.led ++ F).map (·.1)).Nodup
        rw [List.append_assoc, List.map_append]
        have n1 := S''.nd
        rw [List.append_nil] at n1
        refine List.nodup_append.mpr ⟨n1, S.nd, fun x hx y hy e => ?_⟩
        obtain ⟨p, hp, rfl⟩ := List.mem_map.mp hx
        obtain ⟨q, hq, rfl⟩ := List.mem_map.mp hy
        exact (S.fresh (S''.led p (List.mem_append_left _ hp)).2.1).1 q hq e.symm
end
end

section
open PySem PySem.Calls PyProof.Rows
section
variable {c : Cx} {σ : Sg} {K : V → Sg → Prop}
theorem len2 {P : List Value → Prop} {a b : V} (h : ∀ v w, P [v, w]) : ∀ vs : List Value, vs.length = [a, b].length → P vs := fun vs hv => by
  obtain ⟨v, w, rfl⟩ := leq2 hv
  exact h v w
theorem len1 {P : List Value → Prop} {a : V} (h : ∀ v, P [v]) : ∀ vs : List Value, vs.length = [a].length → P vs := fun vs hv => by
  obtain ⟨v, rfl⟩ := List.length_eq_one_iff.mp hv
  exact h v
theorem len3 {P : List Value → Prop} {a b d : V} (h : ∀ v w z, P [v, w, z]) : ∀ vs : List Value, vs.length = [a, b, d].length → P vs := fun vs hv => by
  obtain ⟨v, w, z, rfl⟩ := leq3 hv
  exact h v w z

theorem FnAt.and_ {a b : Int} (hr : Room 1 c.A) (h : K (vI (Builtin.bitAnd a b)) σ) : FnAt c σ (fn 5) [vI a, vI b] K :=
  FnAt.body (names := ["a", "b"]) hr (fun F s ad cd S =>
    ExS.cons (Ex.ret (Ev.bin (Ev.nm rfl (Ev.nm rfl (Op2.andI ⟨rfl, h⟩))))))
    (hb := fun pm cd doc => len2 fun v w => rfl) (hn := by decide)
theorem FnAt.lshift {b : Int} (hr : Room 1 c.A) (hb : 0 ≤ b) (hb2 : b ≤ 1000) (h : K (vI (2 ^ b.toNat)) σ) : FnAt c σ (fn 6) [vI 1, vI b] K :=
  FnAt.body (names := ["a", "b"]) hr (fun F s ad cd S =>
    ExS.cons (Ex.ret (Ev.bin (Ev.nm rfl (Ev.nm rfl (Op2.shlI hb (by omega) (by decide) ⟨rfl, by rw [Int.one_mul]; exact h⟩))))))
    (hb := fun pm cd doc => len2 fun v w => rfl) (hn := by decide)
theorem FnAt.mod {a b : Int} (hr : Room 1 c.A) (hb : b ≠ 0) (h : K (vI (a.fmod b)) σ) : FnAt c σ (fn 7) [vI a, vI b] K :=
  FnAt.body (names := ["a", "b"]) hr (fun F s ad cd S =>
    ExS.cons (Ex.ret (Ev.bin (Ev.nm rfl (Ev.nm rfl (Op2.modI hb ⟨rfl, h⟩))))))
    (hb := fun pm cd doc => len2 fun v w => rfl) (hn := by decide)
theorem FnAt.or_ {a b : Int} (hr : Room 1 c.A) (h : K (vI (Builtin.bitOr a b)) σ) : FnAt c σ (fn 8) [vI a, vI b] K :=
  FnAt.body (names := ["a", "b"]) hr (fun F s ad cd S =>
    ExS.cons (Ex.ret (Ev.bin (Ev.nm rfl (Ev.nm rfl (Op2.orI ⟨rfl, h⟩))))))
    (hb := fun pm cd doc => len2 fun v w => rfl) (hn := by decide)
theorem FnAt.sub {a b : Int} (hr : Room 1 c.A) (h : K (vI (a - b)) σ) : FnAt c σ (fn 9) [vI a, vI b] K :=
  FnAt.body (names := ["a", "b"]) hr (fun F s ad cd S =>
    ExS.cons (Ex.ret (Ev.bin (Ev.nm rfl (Ev.nm rfl (Op2.subI ⟨rfl, h⟩))))))
    (hb := fun pm cd doc => len2 fun v w => rfl) (hn := by decide)
end
end

section
open PySem PySem.Calls PyProof.Rows

/-- an iterator: its items, what it keeps on the ledger, what else must stand -/
structure ItR (c : Cx) (items : List V) (E : Nat → List (Addr × LO)) (B : Heap → Prop) (it : Value) : Prop where
  stable : ∀ h h', TK h h' → B h → B h'
  next : ∀ i u, items[i]? = some u → ∀ loc led g F s, B s.heap → St c ⟨loc, E i ++ led, g⟩ F s →
    wpAny (Mo c) c.A (pyNext it) (fun r s' => ∃ v, r = some v ∧ u.Is s'.heap v ∧ TK s.heap s'.heap ∧ St c ⟨loc, E (i + 1) ++ led, g⟩ F s') NoE s
  done : ∀ loc led g F s, B s.heap → St c ⟨loc, E items.length ++ led, g⟩ F s →
    wpAny (Mo c) c.A (pyNext it) (fun r s' => r = none ∧ TK s.heap s'.heap ∧ St c ⟨loc, led, g⟩ F s') NoE s
  self : ∀ i loc led g F s, B s.heap → St c ⟨loc, E i ++ led, g⟩ F s → ∀ (Q : Value → Shared → Prop), Q it s → wpAny (Mo c) c.A (pyIter it) Q NoE s
noncomputable def ItTo (c : Cx) (σ : Sg) (u : V) (items : List V) (σ' : Sg) : Prop :=
  ∀ F s v, St c σ F s → u.Is s.heap v → wpAny (Mo c) c.A (pyIter v) (fun it s' => ∃ E B, ItR c items E B it ∧ B s'.heap ∧ TK s.heap s'.heap ∧ St c ⟨σ'.loc, E 0 ++ σ'.led, σ'.gens⟩ F s') NoE s

section
variable {c : Cx} {σ : Sg} {F : List (Addr × LO)} {s s₁ : Shared} {K : V → Sg → Prop} {N : Sg → Prop} {R : V → Sg → Prop}

theorem ExS.has {σ' : Sg} {l : List Stmt} (h : ExS c σ l N R) (hs : σ'.Has σ) : ExS c σ' l N R := fun F s S => h F s (S.has hs)
theorem Ev.has {σ' : Sg} {e : Expr} (h : Ev c σ e K) (hs : σ'.Has σ) : Ev c σ' e K := fun F s S => h F s (S.has hs)

theorem Ex.for_ {x : Str} {px p : Pos} {iter : Expr} {body : List Stmt} (Inv : Nat → Sg → Prop)
    (h : Ev c σ iter (fun u σ₁ => ∃ items σ₂, ItTo c σ₁ u items σ₂ ∧ Inv 0 σ₂ ∧
      (∀ i u, items[i]? = some u → ∀ σ', Inv i σ' → ExS c ⟨(x, u) :: σ'.loc, σ'.led, σ'.gens⟩ body (Inv (i + 1)) R) ∧ (∀ σ', Inv items.length σ' → N σ')))
    (hx : StN c x := by walk_at "o") (hs : ∀ x, foldedSetIterable iter c.env x = pure x := by intro _; rfl) : Ex c σ (.For (.Name x px) iter body [] p) N R := fun F s S => by
  refine wpAny_For (wpAny_mono (h F s S) (fun v s₁ hx => ?_) fun _ _ x => x) hs
  obtain ⟨u, σ₁, S₁, k₁, hu, items, σ₂, hit, h0, hbody, hend⟩ := hx
  refine wpAny_mono (hit F s₁ v S₁ hu) (fun it s₂ hx => ?_) fun _ _ x => x
  obtain ⟨E, B, W, hB, k₂, S₂⟩ := hx
  refine codeAny_forLoop (fun n s' => ∃ i σ', St c ⟨σ'.loc, E i ++ σ'.led, σ'.gens⟩ F s' ∧ TK s.heap s'.heap ∧ B s'.heap ∧ Inv i σ' ∧ i ≤ items.length ∧ n = items.length + 1 - i) ?_ (items.length + 1)
    ⟨0, σ₂, S₂, k₁.trans k₂, hB, h0, Nat.zero_le _, rfl⟩
  rintro n s' ⟨i, σ', S', k', hB', hI, hi, rfl⟩
  cases hv : items[i]? with
  | none =>
    have hsz : i = items.length := Nat.le_antisymm hi (by simpa using hv)
    subst hsz
    refine noE (wpAny_mono (W.done _ _ _ F s' hB' S') (fun r s₃ hx => ?_) fun _ _ x => x)
    obtain ⟨hr, k₃, S₃⟩ := hx
    subst hr
    exact noE (wpAny_execs_nil ⟨σ', S₃, k'.trans k₃, hend σ' hI⟩)
  | some u =>
    have hlt : i < items.length := (List.getElem?_eq_some_iff.mp hv).1
    refine noE (wpAny_mono (W.next i u hv _ _ _ F s' hB' S') (fun r s₃ hx => ?_) fun _ _ x => x)
    obtain ⟨v, hr, hu, k₃, S₃⟩ := hx
    subst hr
    refine noE (wpAny_assign_Name (hx.store S₃ hu fun s₄ S₄ k₄ => ?_))
    refine noE (wpAny_mono (hbody i u hv σ' hI (E (i + 1) ++ F) s₄ (St.move S₄)) (fun f s₅ hx => ?_) fun _ _ x => x)
    obtain ⟨σ₅, S₅, k₅, hf⟩ := hx
    have k6 := k'.trans (k₃.trans (k₄.trans k₅))
    cases f with
    | next => exact ⟨items.length + 1 - (i + 1), by omega, i + 1, σ₅, St.back S₅, k6, W.stable _ _ (k₃.trans (k₄.trans k₅)) hB', hf, hlt, rfl⟩
    | cont => exact hf.elim
    | brk => exact hf.elim
    | ret v => exact ⟨σ₅, St.drop (St.back S₅), k6, hf⟩

-- ranges
noncomputable def RngO (n : Int) (o : Obj) : Prop := ∃ t u v, o = { cls := .type "range", dict := none, data := .fields #[.int 0 t, .int n u, .int 1 v], slots := #[] }
noncomputable def RngIt (x left : Int) (o : Obj) : Prop := o = { cls := .type "range_iterator", dict := none, data := .fields #[rawInt x, rawInt left, rawInt 1], slots := #[] }
theorem OpL.range {n : Int} (h : ∀ a, K (vR a) ⟨σ.loc, (a, .is (RngO n)) :: σ.led, σ.gens⟩) : OpL c σ [vI n] (fun vs => call (.type "range") vs) K := fun F s vs S x => by
  obtain ⟨v, rfl, hv⟩ := isAll1 x
  obtain ⟨t, rfl⟩ := is_int hv
  refine call_range_1 ⟨vR _, _, St.add (tk := s.toks + 1 + 1) (S.ext (Kp.push _ _)) (Nat.le_refl _) S ?_, (Kp.push _ _).tk, rfl, h _⟩
  exact ⟨_, Heap.get?_push_size _ rfl, rfl, _, _, _, rfl⟩
theorem small_range {n : Int} (h0 : 0 ≤ n) (h1 : n ≤ 1000) : Builtin.Range.small 0 n 1 = true := by
  unfold Builtin.Range.small Builtin.Range.rangeFitsLong
  rw [rangeSize_one]
  simp only [Bool.and_eq_true, Bool.or_eq_true, decide_eq_true_eq, beq_iff_eq]
  by_cases q : 0 < n
  · rw [if_pos q]; simp; omega
  · rw [if_neg q]; simp; omega
noncomputable def upTo (n : Nat) : List V := (List.range n).map fun (i : Nat) => vI (i : Int)
theorem upTo_get {n i : Nat} {u : V} (h : (upTo n)[i]? = some u) : i < n ∧ u = vI i := by
  unfold upTo at h
  have hl : i < n := by simpa using (List.getElem?_eq_some_iff.mp h).1
  rw [List.getElem?_map, List.getElem?_range hl] at h
  exact ⟨hl, (Option.some.inj h).symm⟩
@[simp] theorem upTo_length (n : Nat) : (upTo n).length = n := by simp [upTo]
theorem ItR.range (hA : c.A.handled = none) (I : Addr) (n : Nat) : ItR c (upTo n) (fun i => [(I, .is (RngIt i ((n : Int) - i)))]) (fun _ => True) (.ref I) where
  stable := fun _ _ _ _ => trivial
  next := fun i u hu loc led g F s _ S => by
    obtain ⟨hi, rfl⟩ := upTo_get hu
    obtain ⟨o, ho, _, rfl⟩ := (S.led _ (List.mem_append_left _ (List.mem_append_left _ (.head _)))).1
    refine wpAny_pyNext_range_item (x := (i : Int)) (left := (n : Int) - i) (step := 1) ho (by omega) fun h' hit hs => ⟨_, rfl, rfl, TK.but hs.extBut (noTup_of ho rfl), ?_⟩
    refine St.upd (σ := ⟨loc, _, g⟩) (i := 0) (tk := s.toks + 1) S rfl hs.extBut ?_
    refine ⟨_, hit, rfl, ?_⟩
    unfold RngIt
    rw [show (n : Int) - ((i + 1 : Nat) : Int) = (n : Int) - i - 1 by omega, show ((i + 1 : Nat) : Int) = (i : Int) + 1 by omega]
  done := fun loc led g F s _ S => by
    obtain ⟨o, ho, _, rfl⟩ := (S.led _ (List.mem_append_left _ (List.mem_append_left _ (.head _)))).1
    refine wpAny_pyNext_range_end hA ho (by simp) fun h' he => ⟨rfl, TK.but he (noTup_of ho rfl), ?_⟩
    exact St.lose (tk := s.toks) S he
  self := fun i loc led g F s _ S Q h => by
    obtain ⟨o, ho, _, rfl⟩ := (S.led _ (List.mem_append_left _ (List.mem_append_left _ (.head _)))).1
    exact wpAny_pyIter_rangeiter ho h

theorem ItTo.range {loc : List (Str × V)} {led : List (Addr × LO)} {g : Array GenState} {a : Addr} {n : Int} (hA : c.A.handled = none) (h0 : 0 ≤ n) (h1 : n ≤ 1000) :
    ItTo c ⟨loc, (a, .is (RngO n)) :: led, g⟩ (vR a) (upTo n.toNat) ⟨loc, led, g⟩ := fun F s v S hv => by
  cases is_ref hv
  obtain ⟨o, ho, _, t, u, w, rfl⟩ := (S.led _ (List.mem_append_left _ (.head _))).1
  refine wpAny_pyIter_range ho (small_range h0 h1) ⟨_, _, ItR.range hA s.heap.objs.size n.toNat, trivial, (Kp.push _ _).tk, ?_⟩
  have S0 : St c ⟨loc, led, g⟩ F s := St.drop (E := [(a, .is (RngO n))]) S
  refine St.add (tk := s.toks) (S0.push _) (Nat.le_refl _) S0 ⟨_, Heap.get?_push_size _ rfl, rfl, ?_⟩
  unfold RngIt
  rw [rangeSize_one, show (if 0 < n then n - 0 else 0) = ((n.toNat : Int) - ((0 : Nat) : Int)) by split <;> omega]
  rfl

noncomputable def LstIt (a : Addr) (i : Nat) (o : Obj) : Prop := o.cls = .type "list_iterator" ∧ o.data = .fields #[.ref a, .int i 0]
theorem lstIt_at {h : Heap} {I a : Addr} {i : Nat} (x : h.IsListIter I a i) : (LO.is (LstIt a i)).At c h I := let ⟨o, e, hc, hd⟩ := x; ⟨o, e, by unfold notTupObj; rw [hd], hc, hd⟩
theorem at_lstIt {h : Heap} {I a : Addr} {i : Nat} (x : (LO.is (LstIt a i)).At c h I) : h.IsListIter I a i := let ⟨o, e, _, hc, hd⟩ := x; ⟨o, e, hc, hd⟩
theorem ItR.lstOld (hA : c.A.handled = none) (I a : Addr) {us : List V} (hat : LO.At c c.s₀.heap a (.lst us)) : ItR c us (fun i => [(I, .is (LstIt a i))]) (fun _ => True) (.ref I) where
  stable := fun _ _ _ _ => trivial
  next := fun i u hu loc led g F s _ S => by
    have hit := at_lstIt (S.led _ (List.mem_append_left _ (List.mem_append_left _ (.head _)))).1
    obtain ⟨items, hl, hall⟩ := hat.mono (fun o e => S.keep _ o e) (Kp.tk S.keep)
    obtain ⟨v, hv, hu'⟩ := hall.get hu
    obtain ⟨o, ho, hc, hd⟩ := id hit
    have hn : NoTup s.heap I := noTup_of ho (by unfold notTupObj; rw [hd])
    refine wpAny_pyNext_list_item hit hl (x := v) (by simpa using hv) fun h' hit' hs => ⟨_, rfl, hu'.mono (TK.but hs.extBut hn), TK.but hs.extBut hn, ?_⟩
    exact St.upd (σ := ⟨loc, _, g⟩) (i := 0) (tk := s.toks) S rfl hs.extBut (lstIt_at hit')
  done := fun loc led g F s _ S => by
    have hit := at_lstIt (S.led _ (List.mem_append_left _ (List.mem_append_left _ (.head _)))).1
    obtain ⟨items, hl, hall⟩ := hat.mono (fun o e => S.keep _ o e) (Kp.tk S.keep)
    obtain ⟨o, ho, hc, hd⟩ := id hit
    have hn : NoTup s.heap I := noTup_of ho (by unfold notTupObj; rw [hd])
    refine wpAny_pyNext_list_end hA hit hl (by have := hall.length; simp at this; simp [this]) fun h' he => ⟨rfl, TK.but he hn, ?_⟩
    exact St.lose (tk := s.toks) S he
  self := fun i loc led g F s _ S Q h => wpAny_pyIter_listiter (at_lstIt (S.led _ (List.mem_append_left _ (List.mem_append_left _ (.head _)))).1) h
theorem ItR.lstOwn (hA : c.A.handled = none) (I a : Addr) {us : List V} : ItR c us (fun i => [(I, .is (LstIt a i)), (a, .lst us)]) (fun _ => True) (.ref I) where
  stable := fun _ _ _ _ => trivial
  next := fun i u hu loc led g F s _ S => by
    have hit := at_lstIt (S.led _ (List.mem_append_left _ (List.mem_append_left _ (.head _)))).1
    obtain ⟨items, hl, hall⟩ := (S.led _ (List.mem_append_left _ (List.mem_append_left _ (.tail _ (.head _))))).1
    obtain ⟨v, hv, hu'⟩ := hall.get hu
    obtain ⟨o, ho, hc, hd⟩ := id hit
    have hn : NoTup s.heap I := noTup_of ho (by unfold notTupObj; rw [hd])
    refine wpAny_pyNext_list_item hit hl (x := v) (by simpa using hv) fun h' hit' hs => ⟨_, rfl, hu'.mono (TK.but hs.extBut hn), TK.but hs.extBut hn, ?_⟩
    exact St.upd (σ := ⟨loc, _, g⟩) (i := 0) (tk := s.toks) S rfl hs.extBut (lstIt_at hit')
  done := fun loc led g F s _ S => by
    have hit := at_lstIt (S.led _ (List.mem_append_left _ (List.mem_append_left _ (.head _)))).1
    obtain ⟨items, hl, hall⟩ := (S.led _ (List.mem_append_left _ (List.mem_append_left _ (.tail _ (.head _))))).1
    obtain ⟨o, ho, hc, hd⟩ := id hit
    have hn : NoTup s.heap I := noTup_of ho (by unfold notTupObj; rw [hd])
    refine wpAny_pyNext_list_end hA hit hl (by have := hall.length; simp at this; simp [this]) fun h' he => ⟨rfl, TK.but he hn, ?_⟩
    exact St.drop (E := [(a, .lst us)]) (St.lose (tk := s.toks) S he)
  self := fun i loc led g F s _ S Q h => wpAny_pyIter_listiter (at_lstIt (S.led _ (List.mem_append_left _ (List.mem_append_left _ (.head _)))).1) h
theorem ItTo.lstOwn {loc : List (Str × V)} {led : List (Addr × LO)} {g : Array GenState} {a : Addr} {us : List V} (hA : c.A.handled = none) : ItTo c ⟨loc, (a, .lst us) :: led, g⟩ (vR a) us ⟨loc, led, g⟩ := fun F s v S hv => by
  cases is_ref hv
  obtain ⟨items, hl, hall⟩ := (S.led _ (List.mem_append_left _ (.head _))).1
  refine wpAny_pyIter_list hl ⟨_, _, ItR.lstOwn hA s.heap.objs.size a, trivial, (Kp.push _ _).tk, ?_⟩
  exact St.add (tk := s.toks) (S.push _) (Nat.le_refl _) S (lstIt_at ⟨_, Heap.get?_push_size _ rfl, rfl, rfl⟩)

noncomputable def TupIt (a : Addr) (i : Nat) (o : Obj) : Prop := o.cls = .type "tuple_iterator" ∧ o.data = .fields #[.ref a, .int i 0]
theorem tupIt_at {h : Heap} {I a : Addr} {i : Nat} (x : IsTupIter h I a i) : (LO.is (TupIt a i)).At c h I := let ⟨o, e, hc, hd⟩ := x; ⟨o, e, by unfold notTupObj; rw [hd], hc, hd⟩
theorem at_tupIt {h : Heap} {I a : Addr} {i : Nat} (x : (LO.is (TupIt a i)).At c h I) : IsTupIter h I a i := let ⟨o, e, _, hc, hd⟩ := x; ⟨o, e, hc, hd⟩
theorem ItR.tup (hA : c.A.handled = none) (I a : Addr) {us : List Value} {items : Array Value} (hi : items.toList.map er = us) :
    ItR c (us.map V.p) (fun i => [(I, .is (TupIt a i))]) (fun h => IsTup h a items) (.ref I) where
  stable := fun _ _ k x => k _ _ x
  next := fun i u hu loc led g F s ht S => by
    have hit := at_tupIt (S.led _ (List.mem_append_left _ (List.mem_append_left _ (.head _)))).1
    obtain ⟨v, hv, hu'⟩ := (isAll_flat (h := s.heap) hi).get hu
    obtain ⟨o, ho, hc, hd⟩ := id hit
    have hn : NoTup s.heap I := noTup_of ho (by unfold notTupObj; rw [hd])
    refine next_tuple_item hit ht (x := v) (by simpa using hv) fun h' hit' hs => ⟨_, rfl, hu'.mono (TK.but hs.extBut hn), TK.but hs.extBut hn, ?_⟩
    exact St.upd (σ := ⟨loc, _, g⟩) (i := 0) (tk := s.toks) S rfl hs.extBut (tupIt_at hit')
  done := fun loc led g F s ht S => by
    have hit := at_tupIt (S.led _ (List.mem_append_left _ (List.mem_append_left _ (.head _)))).1
    obtain ⟨o, ho, hc, hd⟩ := id hit
    have hn : NoTup s.heap I := noTup_of ho (by unfold notTupObj; rw [hd])
    refine next_tuple_end hA hit ht (by subst hi; simp) fun h' he => ⟨rfl, TK.but he hn, ?_⟩
    exact St.lose (tk := s.toks) S he
  self := fun i loc led g F s _ S Q h => by
    exact wpAny_pyIter_tupleiter (at_tupIt (S.led _ (List.mem_append_left _ (List.mem_append_left _ (.head _)))).1) h
theorem ItTo.tup {us : List Value} (hA : c.A.handled = none) : ItTo c σ (.t us) (us.map V.p) σ := fun F s v S hv => by
  obtain ⟨a, items, rfl, ht, hi⟩ := hv
  refine iter_tuple ht ⟨_, _, ItR.tup hA s.heap.objs.size a hi, ht.push _, (Kp.push _ _).tk, ?_⟩
  exact St.add (tk := s.toks) (S.push _) (Nat.le_refl _) S (tupIt_at ⟨_, Heap.get?_push_size _ rfl, rfl, rfl⟩)
end
end

section
open PySem PySem.Calls PyProof.Rows

noncomputable def Has (c : Cx) (σ : Sg) (a : Addr) (lo : LO) : Prop := LO.At c c.s₀.heap a lo ∨ (a, lo) ∈ σ.led
noncomputable def OpS (c : Cx) (σ : Sg) (value slice : Expr) (a b : V) (K : V → Sg → Prop) : Prop :=
  ∀ F s v w, St c σ F s → a.Is s.heap v → b.Is s.heap w → wpAny (Mo c) c.A (subscriptTail value slice v w) (Pv c F s K) NoE s
noncomputable def SetOp (c : Cx) (σ : Sg) (a b u : V) (N : Sg → Prop) : Prop :=
  ∀ F s v w x, St c σ F s → a.Is s.heap v → b.Is s.heap w → u.Is s.heap x → wpAny (Mo c) c.A (setItem v w x) (fun _ s' => ∃ σ', St c σ' F s' ∧ TK s.heap s'.heap ∧ N σ') NoE s

theorem seqIdx {k : Int} {n : Nat} (h0 : 0 ≤ k) (h1 : k.toNat < n) : seqIndex? k n = some k.toNat := by
  unfold seqIndex?
  have e : (if k < 0 then k + (n : Int) else k) = k := if_neg (by omega)
  have : (decide (0 ≤ k) && decide (k < (n : Int))) = true := by simp; omega
  simp only [e, this, if_true]
section
variable {c : Cx} {σ : Sg} {F : List (Addr × LO)} {s s₁ : Shared} {K : V → Sg → Prop} {N : Sg → Prop} {R : V → Sg → Prop} {loc : List (Str × V)} {led : List (Addr × LO)} {g : Array GenState}

/-- a list at a -/
noncomputable def HasL (c : Cx) (σ : Sg) (a : Addr) (us : List V) : Prop := LO.At c c.s₀.heap a (.lst us) ∨ ∃ lo, lo.isL us ∧ (a, lo) ∈ σ.led
theorem HasL.at {a : Addr} {us : List V} (x : HasL c σ a us) (S : St c σ F s) : LO.At c s.heap a (.lst us) := by
  rcases x with x | ⟨lo, hL, x⟩
  · exact x.mono (fun o e => S.keep _ o e) (Kp.tk S.keep)
  · exact hL.at (S.led _ (List.mem_append_left _ x)).1

theorem Ev.sub {value slice : Expr} {p : Pos} (h : Ev c σ value (fun a σ₁ => Ev c σ₁ slice (fun b σ₂ => OpS c σ₂ value slice a b K))) : Ev c σ (.Subscript value slice p) K := fun F s S => by
  refine Subscript_ (wpAny_mono (h F s S) (fun v s₁ hx => ?_) fun _ _ x => x)
  obtain ⟨a, σ₁, S₁, k₁, ha, h₁⟩ := hx
  refine wpAny_mono (h₁ F s₁ S₁) (fun w s₂ hx => ?_) fun _ _ x => x
  obtain ⟨b, σ₂, S₂, k₂, hb, h₂⟩ := hx
  exact wpAny_mono (h₂ F s₂ v w S₂ (ha.mono k₂) hb) (fun _ _ x => (x.lift (k₁.trans k₂))) fun _ _ x => x
theorem OpS.lst {value slice : Expr} {a : Addr} {k : Int} {us : List V} {u : V} (hat : HasL c σ a us) (h0 : 0 ≤ k) (hu : us[k.toNat]? = some u) (h : K u σ) (hk : k < 2 ^ 63 := by omega)
    (hs : ∀ l t, subscripted slice false (.ref l) (.int k t) = operate [.ref l, .int k t] (getItem (.ref l) (.int k t)) := by walk_at "u") : OpS c σ value slice (vR a) (vI k) K := fun F s v w S hv hw => by
  cases is_ref hv
  obtain ⟨t, rfl⟩ := is_int hw
  obtain ⟨items, hl, hall⟩ := hat.at S
  obtain ⟨v, hv, hu'⟩ := hall.get hu
  exact tail_any hl.typeIs slot_list_getitem.lookup (wpAny_getItem_list hl h0 hk (by simpa using hv) (Pv.here S h hu')) (hs _ _)
theorem OpS.tup {value slice : Expr} {k : Int} {us : List Value} {u : Value} (h0 : 0 ≤ k) (hu : us[k.toNat]? = some u) (h : K (.p u) σ) (hk : k < 2 ^ 63 := by omega)
    (hs : ∀ l t, subscripted slice false (.ref l) (.int k t) = operate [.ref l, .int k t] (getItem (.ref l) (.int k t)) := by walk_at "u") : OpS c σ value slice (.t us) (vI k) K := fun F s v w S hv hw => by
  obtain ⟨a, items, rfl, ht, hi⟩ := hv
  obtain ⟨t, rfl⟩ := is_int hw
  obtain ⟨v, hv, hu'⟩ := (isAll_flat (h := s.heap) hi).get (u := .p u) (i := k.toNat) (by simpa using hu)
  have hlt : k.toNat < items.size := by simpa using (List.getElem?_eq_some_iff.mp hv).1
  refine tail_any ht.typeIs slot_tuple_getitem.lookup (PyProof.Rows.getItem_tuple ht (j := k.toNat) (by omega) hk (seqIdx h0 hlt) (by simpa using hv) (Pv.here S h hu')) (hs _ _)
theorem OpS.str {value slice : Expr} {k : Int} {x : Str} {ch : Nat} (h0 : 0 ≤ k) (hu : x.cps[k.toNat]? = some ch) (h : K (vS ⟨#[ch]⟩) σ) (hk : k < 2 ^ 63 := by omega)
    (hs : ∀ t t', subscripted slice false (.str x t') (.int k t) = operate [.str x t', .int k t] (getItem (.str x t') (.int k t)) := by walk_at "u") : OpS c σ value slice (vS x) (vI k) K := fun F s v w S hv hw => by
  obtain ⟨t', rfl⟩ := is_str hv
  obtain ⟨t, rfl⟩ := is_int hw
  have hlt : k.toNat < x.cps.size := (Array.getElem?_eq_some_iff.mp hu).1
  refine tail_any (typeIs_str s x t') PySem.F.slot_str_getitem.lookup (P.getItem_str (c := ch) ?_ ?_ (Pv.tok S h rfl)) (hs _ _)
  · simp; omega
  · rw [show seqIndex? k x.length = some k.toNat from seqIdx h0 hlt]
    simpa using hu

-- stores
theorem Ex.setI {o i : Expr} {pos' p : Pos} {e : Expr} (h : Ev c σ e (fun u σ₁ => Ev c σ₁ o (fun a σ₂ => Ev c σ₂ i (fun b σ₃ => SetOp c σ₃ a b u N))))
    (hs : swapsWith e (some (.Subscript o i pos')) p.line c.env = pure false := by rfl) : Ex c σ (.Assign [.Subscript o i pos'] e p) N R := fun F s S => by
  refine wpAny_Assign_Subscript (wpAny_mono (h F s S) (fun v s₁ hx => ?_) fun _ _ x => x) hs
  obtain ⟨u, σ₁, S₁, k₁, hu, h₁⟩ := hx
  refine wpAny_mono (h₁ F s₁ S₁) (fun w s₂ hx => ?_) fun _ _ x => x
  obtain ⟨a, σ₂, S₂, k₂, ha, h₂⟩ := hx
  refine wpAny_mono (h₂ F s₂ S₂) (fun z s₃ hx => ?_) fun _ _ x => x
  obtain ⟨b, σ₃, S₃, k₃, hb, h₃⟩ := hx
  refine wpAny_mono (h₃ F s₃ w z v S₃ (ha.mono k₃) hb (hu.mono (k₂.trans k₃))) (fun _ s₄ hx => ?_) fun _ _ x => x
  obtain ⟨σ₄, S₄, k₄, h₄⟩ := hx
  exact ⟨σ₄, S₄, k₁.trans (k₂.trans (k₃.trans k₄)), h₄⟩
theorem SetOp.lst {a : Addr} {k : Int} {us : List V} {u : V} {i : Nat} {lo : LO} (hi : led[i]? = some (a, lo)) (hL : lo.isL us) (h0 : 0 ≤ k) (h1 : k < us.length) (h : N ⟨loc, led.set i (a, .lst (us.set k.toNat u)), g⟩) (hk : k < 2 ^ 63 := by omega) :
    SetOp c ⟨loc, led, g⟩ (vR a) (vI k) u N := fun F s v w x S hv hw hu => by
  cases is_ref hv
  obtain ⟨t, rfl⟩ := is_int hw
  have L := hL.at (S.led (a, lo) (List.mem_append_left _ (List.mem_of_getElem? hi))).1
  have hn : NoTup s.heap a := LO.At.noTup (lo := .lst us) L
  obtain ⟨items, hl, hall⟩ := L
  have hlen := hall.length
  refine wpAny_setItem_list hl h0 hk (by simp at hlen; omega) fun h' hl' hs => ⟨_, S.upd (tk := s.toks) hi hs.extBut ?_, TK.but hs.extBut hn, h⟩
  refine ⟨_, hl', ?_⟩
  have := (hall.mono (TK.but hs.extBut hn)).set k.toNat (hu.mono (TK.but hs.extBut hn))
  simpa using this
theorem Ex.app {o elt : Expr} {apos pos p : Pos} (h : Ev c σ o (fun a σ₁ => ∃ (b : Addr) (us : List V) (i : Nat), a = vR b ∧ σ₁.led[i]? = some (b, .pl us) ∧ us.length ≤ 1000 ∧
      Ev c σ₁ elt (fun u σ₂ => σ₂.led[i]? = some (b, .pl us) ∧ N ⟨σ₂.loc, σ₂.led.set i (b, .pl (us ++ [u])), σ₂.gens⟩)))
    (hbase : attributeBase o "append" c.env (eval o c.env) = eval o c.env := by with_unfolding_all rfl)
    (hfew : ((backTo pos (starEach [elt] c.env)).all (fun x => !x.1) && (backToKw pos (keywordEach [] c.env)).all (fun x => x.1.isSome)
      && decide (([elt] : List Expr).length + ([] : List Keyword).length + (if ([] : List Keyword).isEmpty then 0 else 1) < 30)) = true := by rfl)
    (hline : (apos.endLine == pos.line) = true := by rfl)
    (htrees : backTo pos (starEach [elt] c.env) = [(false, eval elt c.env)] := by with_unfolding_all rfl)
    (hi : interactive c.env = false := by rfl) (hs : swapsWith (.Call (.Attribute o "append" apos) [elt] [] pos) none p.line c.env = pure false := by rfl) :
    Ex c σ (.Expr (.Call (.Attribute o "append" apos) [elt] [] pos) p) N R := fun F s S => by
  refine wpAny_Expr (wpAny_Call_append hbase hfew hline htrees (wpAny_mono (h F s S) (fun v s₁ hx => ?_) fun _ _ x => x)) hi hs
  obtain ⟨a, σ₁, S₁, k₁, ha, b, us, i, e, hi₁, hlen, h₁⟩ := hx
  subst e
  cases is_ref ha
  obtain ⟨items, ⟨n, hl⟩, _⟩ := (S₁.led (b, .pl us) (List.mem_append_left _ (List.mem_of_getElem? hi₁))).1
  refine ⟨b, items, rfl, ⟨_, n, hl, rfl, rfl, rfl⟩, wpAny_mono (h₁ F s₁ S₁) (fun y s₂ hx => ?_) fun _ _ x => x⟩
  obtain ⟨u, σ₂, S₂, k₂, hu, hi₂, h₂⟩ := hx
  have L := (S₂.led (b, .pl us) (List.mem_append_left _ (List.mem_of_getElem? hi₂))).1
  have hn : NoTup s₂.heap b := LO.At.noTup (lo := .pl us) L
  obtain ⟨items₂, hl₂, hall₂⟩ := L
  refine wpAny_list_append_plain hl₂ (fun h' hl' hs' => ⟨_, S₂.upd (tk := s₂.toks) hi₂ hs'.extBut ?_, k₁.trans (k₂.trans (TK.but hs'.extBut hn)), h₂⟩) ?_
  · refine ⟨_, hl', ?_⟩
    have := (hall₂.mono (TK.but hs'.extBut hn)).snoc (hu.mono (TK.but hs'.extBut hn))
    simpa using this
  · have := hall₂.length; simp at this; rw [sizeLine_eq]; omega
/-- list times a small number -/
theorem Op2.mulL {b : Addr} {us : List V} {i : Nat} {x : Int} (hi : led[i]? = some (b, .pl us)) (h0 : 0 ≤ x) (h1 : x ≤ 100) (hl : us.length ≤ 100)
    (h : ∀ a, K (vR a) ⟨loc, (a, .pl (List.replicate x.toNat us).flatten) :: led, g⟩) : Op2 c ⟨loc, led, g⟩ (vR b) (vI x) (binaryOp .Mult) K := fun F s v w S hv hw => by
  cases is_ref hv
  obtain ⟨u, rfl⟩ := is_int hw
  obtain ⟨items, ⟨k, ho⟩, hall⟩ := (S.led (b, .pl us) (List.mem_append_left _ (List.mem_of_getElem? hi))).1
  have hlen := hall.length
  simp only [Array.length_toList] at hlen
  have hsz : items.size * x.toNat ≤ 10000 := by
    have h2 : items.size ≤ 100 := by omega
    have h3 : x.toNat ≤ 100 := by omega
    exact Nat.le_trans (Nat.mul_le_mul h2 h3) (by decide)
  have hrep : ∀ n : Nat, IsAll s.heap (List.replicate n us).flatten (List.replicate n items.toList).flatten := fun n => by
    induction n with
    | zero => trivial
    | succ n ih => simp only [List.replicate_succ, List.flatten_cons]; exact hall.append ih
  have hfold : ∀ (l : List (Array Value)) (a : Array Value), (l.foldl (fun x1 x2 => x1 ++ x2) a).toList = a.toList ++ (l.map (·.toList)).flatten := fun l => by
    induction l with
    | nil => intro a; simp
    | cons y r ih => intro a; rw [List.foldl_cons, ih]; simp
  have hall' : IsAll s.heap (List.replicate x.toNat us).flatten (List.foldl (fun x1 x2 => x1 ++ x2) #[] (List.replicate (if items.isEmpty = true then 0 else x.toNat) items)).toList := by
    rw [hfold]
    by_cases q : items.isEmpty = true
    · have : items = #[] := by simpa using q
      subst this
      have hu : us = [] := List.eq_nil_of_length_eq_zero (by simpa using hlen)
      subst hu
      simp [IsAll]
    · rw [if_neg q]
      simpa using hrep x.toNat
  refine wpAny_binaryOp_repeat_ref (T := "list") (U := "int") (by decide) ⟨_, ho, rfl⟩ (fun s' => typeIs_int s' x u) noFill_list_mul PySem.F.fills_int_mul PySem.F.slot_int_rmul repeat_list PySem.F.slot_int_index.lookup ?_
  refine call_meets PySem.F.slot_int_rmul (typeIs_int s x u) PySem.F.entry_int_rmul (PySem.F.args_int_rmul_2 _ _) (int___rmul___int_list x u b items k) ⟨ho, rfl, ⟨_, ho, rfl⟩, ?_⟩
  refine call_meets PySem.F.slot_list_mul ⟨_, ho, rfl⟩ PySem.F.entry_list_mul (PySem.F.args_list_mul_2 _ _) (AutoListH.list___mul___list_int_3 b items k x u (by simp [Builtin.List.listFitsIndex]; omega) (by omega) (by simp [Builtin.List.listTooLong, sizeLine]; omega)) ⟨ho, ?_⟩
  refine ⟨vR _, _, St.add (tk := s.toks) (S.push _) (Nat.le_refl _) S ?_, (Kp.push _ _).tk, rfl, h _⟩
  exact ⟨_, ⟨_, Heap.get?_push_size _ rfl⟩, hall'.mono (Kp.push _ _).tk⟩
end
end

section
open PySem PySem.Calls PyProof.Rows

/-- a comprehension's own context -/
noncomputable def compCx (c : Cx) (scope : Scope) (cl : List (Str × Addr)) (C : Addr) (s : Shared) : Cx := ⟨c.prog, c.w, c.A, compEnvC scope cl C c.env, s, c.mg, c.mb, c.pos⟩

/-- a source of items, whose iterator is one new object -/
structure Src (c : Cx) (σ : Sg) (u : V) (items : List V) (σ' : Sg) : Prop where
  weak : ∀ F s, St c σ F s → St c σ' F s
  push : ∀ F s v, St c σ F s → u.Is s.heap v → ∃ (o : Obj) (E : Nat → List (Addr × LO)) (B : Heap → Prop) (P : Obj → Prop),
    (∀ Q : Value → Shared → Prop, Q (.ref s.heap.objs.size) { s with heap := s.heap.push o } → wpAny (Mo c) c.A (pyIter v) Q NoE s) ∧
    E 0 = [(s.heap.objs.size, .is P)] ∧ P o ∧ notTupObj o = true ∧ o.isFreed = false ∧ B s.heap ∧
    ∀ c' : Cx, c'.prog = c.prog → c'.w = c.w → c'.A.handled = none → c'.s₀ = s → ItR c' items E B (.ref s.heap.objs.size)
section
variable {c : Cx} {σ : Sg} {F : List (Addr × LO)} {s s₁ : Shared} {K : V → Sg → Prop} {N : Sg → Prop} {R : V → Sg → Prop} {loc : List (Str × V)} {led : List (Addr × LO)} {g : Array GenState}

theorem Src.range {a : Addr} {n : Int} (h0 : 0 ≤ n) (h1 : n ≤ 1000) : Src c ⟨loc, (a, .is (RngO n)) :: led, g⟩ (vR a) (upTo n.toNat) ⟨loc, led, g⟩ where
  weak := fun F s S => St.drop (E := [(a, .is (RngO n))]) S
  push := fun F s v S hv => by
    cases is_ref hv
    obtain ⟨o, ho, _, t, u, w, rfl⟩ := (S.led _ (List.mem_append_left _ (.head _))).1
    refine ⟨_, fun i => [(s.heap.objs.size, .is (RngIt i ((n.toNat : Int) - i)))], fun _ => True, _, fun Q q => wpAny_pyIter_range ho (small_range h0 h1) q, rfl, ?_, rfl, rfl, trivial, fun c' _ _ hA _ => ItR.range hA _ _⟩
    unfold RngIt
    rw [rangeSize_one, show (if 0 < n then n - 0 else 0) = ((n.toNat : Int) - ((0 : Nat) : Int)) by split <;> omega]
    rfl
theorem Src.lst {a : Addr} {us : List V} (hat : HasL c σ a us) : Src c σ (vR a) us σ where
  weak := fun F s S => S
  push := fun F s v S hv => by
    cases is_ref hv
    have L := hat.at S
    obtain ⟨items, hl, hall⟩ := id L
    refine ⟨_, fun i => [(s.heap.objs.size, .is (LstIt a i))], fun _ => True, _, fun Q q => wpAny_pyIter_list hl q, rfl, ⟨rfl, rfl⟩, rfl, rfl, trivial, fun c' h1 h2 hA e => ItR.lstOld hA _ _ ?_⟩
    subst e
    exact L

noncomputable def EvIf (c : Cx) (σ : Sg) (ifs : List Expr) (K : Bool → Sg → Prop) : Prop := ∀ F s, St c σ F s →
  wpAny (Mo c) c.A (forIn ifs true fun t r => if r = true then do let ok ← isTrue t c.env (eval t c.env); pure (ForInStep.yield ok) else pure (ForInStep.yield r)) (Pb c F s K) NoE s
theorem EvIf.nil {K : Bool → Sg → Prop} (h : K true σ) : EvIf c σ [] K := fun F s S => wpAny_tests_nil ⟨σ, S, TK.refl _, h⟩
theorem EvIf.one {t : Expr} {K : Bool → Sg → Prop} (h : EvT c σ t K) : EvIf c σ [t] K := fun F s S => wpAny_tests_one (h F s S)

noncomputable def LocC (c : Cx) (scope : Scope) (loc : List (Str × V)) : List (Str × V) → Prop
  | [] => True
  | (x, u) :: r => (loc.lookup x = some u ∧ c.env.kindOf x = some .cell ∧ (relabel scope c.env).names.lookup x = some .cell) ∧ LocC c scope loc r
theorem LocC.get {scope : Scope} {x : Str} {u : V} : ∀ {l : List (Str × V)}, LocC c scope loc l → l.lookup x = some u → loc.lookup x = some u ∧ c.env.kindOf x = some .cell ∧ (relabel scope c.env).names.lookup x = some .cell
  | [], _, e => by simp at e
  | (y, w) :: r, ⟨h1, h2⟩, e => by
    rw [List.lookup_cons] at e
    by_cases q : x = y
    · subst q; simp at e; subst e; exact h1
    · have : (x == y) = false := beq_eq_false_iff_ne.mpr q
      rw [this] at e
      exact h2.get e

noncomputable def NsO (o : Obj) : Prop := ∃ es ep, o.data = .dict es ep ∧ StrKeys es
theorem nsO_at {h : Heap} {a : Addr} {m : Str → Option Value} (x : h.Ns a m) : (LO.is NsO).At c h a := let ⟨o, es, ep, e, hd, hk, _⟩ := x; ⟨o, e, by unfold notTupObj; rw [hd], es, ep, hd, hk⟩
theorem at_nsO {h : Heap} {a : Addr} (x : (LO.is NsO).At c h a) : ∃ m, h.Ns a m := let ⟨o, e, _, es, ep, hd, hk⟩ := x; ⟨_, o, es, ep, e, hd, hk, fun _ => rfl⟩
/-- the block of a comprehension with one clause -/
theorem comp_block {elt iter : Expr} {x : Str} {px : Pos} {ifs : List Expr} {scope : Scope} {pos : Pos} {cl : List (Str × Addr)} {loc' : List (Str × V)} {items : List V} {u : V} {σ' : Sg} (Inv : Nat → List V → Sg → Prop)
    {Q : Value → Addr → Result → Shared → Prop}
    (S : St c σ F s) {v : Value} (hv : u.Is s.heap v) (hA : c.A.handled = none) (hsrc : Src c σ u items σ') (hlen : items.length ≤ 1000)
    (hloc : LocC c scope σ'.loc loc') (hcl : ∀ n a, cl.lookup n = some a → c.env.cells.lookup n = some a)
    (hcell : ∀ y ∈ scope.names, y.2 ≠ .cell) (hkind : scope.kind = .function) (hco : scope.isCoroutine = false) (hx : scope.names.lookup x = some .local)
    (h0 : Inv 0 [] ⟨loc', [], σ'.gens⟩)
    (turn : ∀ C i u, items[i]? = some u → ∀ acc σ₂, Inv i acc σ₂ → EvIf (compCx c scope cl C s) ⟨(x, u) :: σ₂.loc, σ₂.led, σ₂.gens⟩ ifs (fun ok σ₃ => (ok = false → Inv (i + 1) acc σ₃) ∧
      (ok = true → Ev (compCx c scope cl C s) σ₃ elt (fun r σ₄ => Inv (i + 1) (acc ++ [r]) σ₄))))
    (hQ : ∀ D C acc σ₂ s₂, Inv items.length acc σ₂ → (σ₂.gens = σ'.gens → St c ⟨σ'.loc, (C, .is NsO) :: (D, .pl acc) :: (σ₂.led ++ σ'.led), σ'.gens⟩ F s₂) → TK s.heap s₂.heap → (∃ m, s₂.heap.Ns C m) → Q (.ref D) C (.ok .next) s₂) :
    wpAny (Mo c) c.A (pyIter v) (fun it s₂ => wpAny (Mo c) c.A (newList []) (fun acc s₃ => wpAny (Mo c) c.A (newFunctionEnv scope c.env.globals cl [] c.env.qual none .none (some c.env)) (fun cenv s₄ =>
      codeAny (Mo c) c.A (.compStart (.ListComp elt [⟨.Name x px, iter, ifs, 0⟩] scope pos) 0 it acc { cenv with scope := relabel scope c.env }) (Q acc cenv.locals) s₄) NoE s₃) NoE s₂) NoE s := by
  obtain ⟨o, E, B, P, hpi, hE0, hPo, hno, hfr, hB, hIt⟩ := hsrc.push F s v S hv
  have S' := hsrc.weak F s S
  refine hpi _ ?_
  refine wpAny_newObj_type (wpAny_newFunctionEnv hcell (by intro y hy; simp at hy) (fun h₁ hns₁ hsb₁ => ?_) hkind)
  dsimp only at hns₁ hsb₁ ⊢
  have hH1 : (s.heap.push o).objs.size = s.heap.objs.size + 1 := Heap.size_push ..
  have hH2 : ((s.heap.push o).push { cls := .type "list", dict := none, data := .seq ([] : List Value).toArray }).objs.size = s.heap.objs.size + 2 := by rw [Heap.size_push, hH1]
  rw [hH2] at hns₁ hsb₁ ⊢
  rw [hH1]
  have gI0 := Heap.get?_push_size s.heap (o := o) hfr
  have gD0 := Heap.get?_push_size (s.heap.push o) (o := { cls := .type "list", dict := none, data := .seq ([] : List Value).toArray }) rfl
  rw [hH1] at gD0
  obtain ⟨I, hI⟩ : ∃ I : Nat, s.heap.objs.size = I := ⟨_, rfl⟩
  rw [hI] at hns₁ hsb₁ gI0 gD0 hE0 hIt ⊢
  have hID : I ≠ I + 1 := Nat.ne_of_lt (Nat.lt_succ_self _)
  have old : Kp s.heap h₁ := fun b ob e => hsb₁.extBut b ob (by have := Heap.lt_size e; rw [hI] at this; exact Nat.ne_of_lt (Nat.lt_of_lt_of_le this (Nat.le_add_right ..)))
    (Heap.get?_push_of_some _ (Heap.get?_push_of_some _ (Heap.get?_push_of_some _ e)))
  have gI : h₁.get? I = some o := hsb₁.extBut _ _ (Nat.ne_of_lt (Nat.lt_add_of_pos_right (by decide))) (Heap.get?_push_of_some _ (Heap.get?_push_of_some _ gI0))
  have gD : h₁.get? (I + 1) = some { cls := .type "list", dict := none, data := .seq ([] : List Value).toArray } := hsb₁.extBut _ _ (Nat.ne_of_lt (Nat.lt_succ_self _)) (Heap.get?_push_of_some _ gD0)
  let c' := compCx c scope cl (I + 2) s
  have hap : ∀ n a, c'.env.cells.lookup n = some a → a < I := fun n a e => by
    obtain ⟨cm, hcm, _⟩ := S.cl
    have := (hcm n a (hcl n a e)).lt
    rw [hI] at this; exact this
  have hkx : c'.env.kindOf x = some .local := lookup_relabel_local hx
  have SC : St c' ⟨loc', E 0 ++ [(I + 1, .pl [])], σ'.gens⟩ [] { s with heap := h₁, toks := s.toks + ([] : List (Str × Value)).length } := by
    obtain ⟨cm, hcm, hv⟩ := S'.cl
    refine ⟨⟨?_, ?_, S.ok.glob, S.ok.blt, ?_, fun n a e => ?_, S.gl⟩, ?_, old, ⟨_, hns₁, fun y w k e => ?_⟩, ⟨cm, fun n a e => (hcm n a (hcl n a e)).keeps old, fun y w k e => ?_⟩, fun p hp => ?_, ?_, fun p => Nat.le_trans (S.tp p) (Nat.le_add_right _ _)⟩
    · exact hkind
    · exact hco
    · show s.heap.objs.size ≤ I + 2; rw [hI]; omega
    · have := hap n a e
      show a ≠ I + 2
      exact Nat.ne_of_lt (Nat.lt_of_lt_of_le this (Nat.le_add_right ..))
    · obtain ⟨h₂, t₂, e⟩ := S'.same
      exact ⟨h₁, _, by show _ = { s with heap := h₁, toks := _, gens := σ'.gens }; rw [show σ'.gens = s.gens by rw [e]]⟩
    · have := (hloc.get e).2.2
      have k' : (relabel scope c.env).names.lookup y = some .local := k
      rw [this] at k'; cases k'
    · obtain ⟨h1, h2, h3⟩ := hloc.get e
      obtain ⟨v, a, b⟩ := hv y w h2 h1
      exact ⟨v, a, b.mono old.tk⟩
    · rw [hE0] at hp
      simp only [List.append_nil, List.cons_append, List.nil_append, List.mem_cons, List.not_mem_nil, or_false] at hp
      rcases hp with rfl | rfl
      · exact ⟨⟨o, gI, hno, hPo⟩, by show s.heap.objs.size ≤ I; rw [hI]; exact Nat.le_refl _, by show I ≠ I + 2; omega, fun n a e q => absurd (hap n a e) (by have q' : I = a := q; rw [q']; exact Nat.lt_irrefl _)⟩
      · refine ⟨⟨#[], ⟨_, gD⟩, trivial⟩, by show s.heap.objs.size ≤ I + 1; rw [hI]; omega, by show I + 1 ≠ I + 2; omega, fun n a e q => absurd (hap n a e) (by have q' : I + 1 = a := q; rw [← q']; exact Nat.not_lt.mpr (Nat.le_succ I))⟩
    · rw [hE0]; simp [hID]
  have W := hIt c' rfl rfl hA rfl
  have back : ∀ {acc : List V} {σ₂ : Sg} {s₂ : Shared}, St c' ⟨σ₂.loc, (I + 1, .pl acc) :: σ₂.led, σ₂.gens⟩ [] s₂ → (σ₂.gens = σ'.gens → St c ⟨σ'.loc, (I + 2, .is NsO) :: (I + 1, .pl acc) :: (σ₂.led ++ σ'.led), σ'.gens⟩ F s₂) := by
    intro acc σ₂ s₂ S₂ hg
    refine St.joinP (led' := (I + 2, .is NsO) :: (I + 1, .pl acc) :: σ₂.led) S' ?_ S₂.keep (fun p hp => ?_) ?_ S₂.tp
    · obtain ⟨h₂, t₂, e⟩ := S₂.same
      obtain ⟨h₃, t₃, e₃⟩ := S'.same
      have : s.gens = σ'.gens := by rw [e₃]
      refine ⟨h₂, t₂, ?_⟩
      rw [e]
      show ({ s with heap := h₂, toks := t₂, gens := σ₂.gens } : Shared) = { s with heap := h₂, toks := t₂ }
      rw [hg, ← this]
    · rcases List.mem_cons.mp hp with rfl | hp
      · obtain ⟨m, hn, _⟩ := S₂.ns
        exact ⟨nsO_at hn, by show s.heap.objs.size ≤ I + 2; rw [hI]; exact Nat.le_add_right ..⟩
      · obtain ⟨a1, a2, _⟩ := S₂.led p (List.mem_append_left _ hp)
        exact ⟨a1, a2⟩
    · have nd := S₂.nd
      rw [List.append_nil] at nd
      refine List.nodup_cons.mpr ⟨fun hm => ?_, nd⟩
      obtain ⟨p, hp, e⟩ := List.mem_map.mp hm
      exact (S₂.led p (List.mem_append_left _ hp)).2.2.1 e
  have loop : ∀ s₃ : Shared, s₃ = { s with heap := h₁, toks := s.toks + ([] : List (Str × Value)).length } →
      codeAny (Mo c) c.A (.compLoop (.ListComp elt [⟨.Name x px, iter, ifs, 0⟩] scope pos) 0 (.ref I) (.ref (I + 1)) c'.env) (Q (.ref (I + 1)) (I + 2)) s₃ := by
    rintro s₃ rfl
    refine codeAny_compLoop_tests (fun n s' => ∃ i acc σ₂, St c' ⟨σ₂.loc, E i ++ (I + 1, .pl acc) :: σ₂.led, σ₂.gens⟩ [] s' ∧ B s'.heap ∧ TK s.heap s'.heap ∧ Inv i acc σ₂ ∧ acc.length ≤ i ∧ i ≤ items.length ∧ n = items.length + 1 - i) ?_ (items.length + 1)
      ⟨0, [], ⟨loc', [], σ'.gens⟩, SC, W.stable _ _ old.tk hB, old.tk, h0, Nat.le_refl _, Nat.zero_le _, rfl⟩
    rintro n s' ⟨i, acc, σ₂, S₂, hB', tk', hI', hacc, hi, rfl⟩
    cases hv : items[i]? with
    | none =>
      have hsz : i = items.length := Nat.le_antisymm hi (by simpa using hv)
      subst hsz
      refine noE (wpAny_mono (W.done _ _ _ [] s' hB' S₂) (fun r s₃ hx => ?_) fun _ _ x => x)
      obtain ⟨hr, k₃, S₃⟩ := hx
      subst hr
      obtain ⟨m, hn, _⟩ := S₃.ns
      exact hQ (I + 1) (I + 2) acc σ₂ s₃ hI' (back S₃) (tk'.trans k₃) ⟨m, hn⟩
    | some u =>
      have hlt : i < items.length := (List.getElem?_eq_some_iff.mp hv).1
      refine noE (wpAny_mono (W.next i u hv _ _ _ [] s' hB' S₂) (fun r s₃ hx => ?_) fun _ _ x => x)
      obtain ⟨v, hr, hu, k₃, S₃⟩ := hx
      subst hr
      refine noE (wpAny_assign_Name ((show StN c' x from .inl hkx).store S₃ hu fun s₄ S₄ k₄ => ?_))
      have S₅ : St c' ⟨(x, u) :: σ₂.loc, σ₂.led, σ₂.gens⟩ ((E (i + 1) ++ [(I + 1, .pl acc)]) ++ []) s₄ := St.move (by simpa using S₄)
      refine noE (wpAny_mono (turn (I + 2) i u hv acc σ₂ hI' _ s₄ S₅) (fun ok s₅ hx => ?_) fun _ _ x => x)
      obtain ⟨σ₅, S₅, k₅, hok⟩ := hx
      have k6 := tk'.trans (k₃.trans (k₄.trans k₅))
      have hB5 := W.stable _ _ (k₃.trans (k₄.trans k₅)) hB'
      cases ok with
      | false =>
        rw [if_neg (by simp)]
        have := St.back (E := E (i + 1) ++ [(I + 1, .pl acc)]) S₅
        exact ⟨items.length + 1 - (i + 1), by omega, i + 1, acc, σ₅, by simpa using this, hB5, k6, hok.1 rfl, by omega, hlt, rfl⟩
      | true =>
        rw [if_pos rfl]
        refine noE (wpAny_mono (hok.2 rfl _ s₅ S₅) (fun y s₆ hx => ?_) fun _ _ x => x)
        obtain ⟨r, σ₆, S₆, k₆, hr, h₆⟩ := hx
        have S₇ : St c' ⟨σ₆.loc, E (i + 1) ++ (I + 1, .pl acc) :: σ₆.led, σ₆.gens⟩ [] s₆ := by
          have := St.back (E := E (i + 1) ++ [(I + 1, .pl acc)]) S₆
          simpa using this
        have hi₂ : (E (i + 1) ++ (I + 1, .pl acc) :: σ₆.led)[(E (i + 1)).length]? = some ((I + 1 : Addr), LO.pl acc) := by simp
        have L := (S₇.led (I + 1, .pl acc) (List.mem_append_left _ (List.mem_of_getElem? hi₂))).1
        have hn : NoTup s₆.heap (I + 1) := LO.At.noTup (lo := .pl acc) L
        obtain ⟨its, hl₂, hall₂⟩ := L
        refine noE (wpAny_list_append_plain hl₂ (fun h' hl' hs' => ?_) ?_)
        · have U := St.upd (tk := s₆.toks) (lo' := .pl (acc ++ [r])) S₇ hi₂ hs'.extBut (by
            refine ⟨_, hl', ?_⟩
            have := (hall₂.mono (TK.but hs'.extBut hn)).snoc (hr.mono (TK.but hs'.extBut hn))
            simpa using this)
          refine ⟨items.length + 1 - (i + 1), by omega, i + 1, acc ++ [r], σ₆, ?_, W.stable _ _ (k₆.trans (TK.but hs'.extBut hn)) hB5, k6.trans (k₆.trans (TK.but hs'.extBut hn)), h₆, by simp; omega, hlt, rfl⟩
          simpa using U
        · have := hall₂.length
          simp at this
          rw [sizeLine_eq]; omega
  refine codeAny_compStart_list (loop _ rfl) (noE ?_)
  exact W.self 0 _ _ _ [] _ (W.stable _ _ old.tk hB) SC _ (loop _ rfl)

/-- what a comprehension asks of its clause, in its own context -/
noncomputable def CompOk (c : Cx) (σ : Sg) (elt : Expr) (x : Str) (ifs : List Expr) (scope : Scope) (cl : List (Str × Addr)) (u : V) (K : V → Sg → Prop) : Prop :=
  ∃ (items : List V) (σ' : Sg) (loc' : List (Str × V)) (Inv : Nat → List V → Sg → Prop), Src c σ u items σ' ∧ items.length ≤ 1000 ∧ LocC c scope σ'.loc loc' ∧ Inv 0 [] ⟨loc', [], σ'.gens⟩ ∧
    (∀ F s, St c σ F s → ∀ C i u, items[i]? = some u → ∀ acc σ₂, Inv i acc σ₂ → EvIf (compCx c scope cl C s) ⟨(x, u) :: σ₂.loc, σ₂.led, σ₂.gens⟩ ifs (fun ok σ₃ => (ok = false → Inv (i + 1) acc σ₃) ∧
      (ok = true → Ev (compCx c scope cl C s) σ₃ elt (fun r σ₄ => Inv (i + 1) (acc ++ [r]) σ₄)))) ∧
    (∀ acc σ₂, Inv items.length acc σ₂ → σ₂.gens = σ'.gens ∧ ∀ D, K (vR D) ⟨σ'.loc, (D, .pl acc) :: (σ₂.led ++ σ'.led), σ'.gens⟩)
theorem Ev.comp {elt iter : Expr} {x : Str} {px : Pos} {ifs : List Expr} {scope : Scope} {pos : Pos} (cl : List (Str × Addr)) (hA : c.A.handled = none)
    (h : Ev c σ iter (fun u σ₁ => CompOk c σ₁ elt x ifs scope cl u K))
    (hclos : closureFor scope c.env = pure cl) (hcl : ∀ n a, cl.lookup n = some a → c.env.cells.lookup n = some a)
    (hcell : ∀ y ∈ scope.names, y.2 ≠ .cell := by decide) (hkind : scope.kind = .function := by rfl) (hco : scope.isCoroutine = false := by rfl)
    (hnames : ∀ y ∈ scope.names, y.2 = .local → scope.names.lookup y.1 = some .local := by decide) (hx : scope.names.lookup x = some .local := by kernel_rfl!)
    (hs : ∀ x, foldedSetIterable iter c.env x = pure x := by intro _; rfl) :
    Ev c σ (.ListComp elt [⟨.Name x px, iter, ifs, 0⟩] scope pos) K := fun F s S => by
  rw [eval_ListComp]
  refine wpAny_comprehension_free (use := Option.none) (g := ⟨.Name x px, iter, ifs, 0⟩) (gs := []) rfl hs hclos hkind hnames (wpAny_mono (h F s S) (fun v s₁ hx => ?_) fun _ _ e => e)
  obtain ⟨u, σ₁, S₁, k₁, hu, items, σ', loc', Inv, hsrc, hlen, hloc, h0, turn, hend⟩ := hx
  refine comp_block Inv S₁ hu hA hsrc hlen hloc hcl hcell hkind hco hx h0 (fun C i u e acc σ₂ hI => turn F s₁ S₁ C i u e acc σ₂ hI) fun D C acc σ₂ s₂ hI hst k₂ ⟨m, hm⟩ => ⟨m, hm, fun h' hs' => ?_⟩
  obtain ⟨hg, hK⟩ := hend acc σ₂ hI
  have hn : NoTup s₂.heap C := by
    obtain ⟨o, es, ep, e, hd, _⟩ := hm
    exact noTup_of e (by unfold notTupObj; rw [hd])
  exact ⟨vR D, _, St.lose (tk := s₂.toks) (hst hg) hs'.extBut, k₁.trans (k₂.trans (TK.but hs'.extBut hn)), rfl, hK D⟩
theorem Ex.comp {y : Str} {py spos : Pos} {elt iter : Expr} {x : Str} {px : Pos} {ifs : List Expr} {scope : Scope} {pos : Pos} (cl : List (Str × Addr)) (hA : c.A.handled = none)
    (h : Ev c σ iter (fun u σ₁ => CompOk c σ₁ elt x ifs scope cl u (fun u σ' => N ⟨(y, u) :: σ'.loc, σ'.led, σ'.gens⟩)))
    (hclos : closureFor scope c.env = pure cl) (hcl : ∀ n a, cl.lookup n = some a → c.env.cells.lookup n = some a)
    (hcell : ∀ y ∈ scope.names, y.2 ≠ .cell := by decide) (hkind : scope.kind = .function := by rfl) (hco : scope.isCoroutine = false := by rfl)
    (hnames : ∀ y ∈ scope.names, y.2 = .local → scope.names.lookup y.1 = some .local := by decide) (hx : scope.names.lookup x = some .local := by kernel_rfl!)
    (hy : StN c y := by walk_at "o")
    (hsw : swapsWith (.ListComp elt [⟨.Name x px, iter, ifs, 0⟩] scope pos) (some (.Name y py)) spos.line c.env = pure true := by rfl)
    (hs : ∀ x, foldedSetIterable iter c.env x = pure x := by intro _; rfl) :
    Ex c σ (.Assign [.Name y py] (.ListComp elt [⟨.Name x px, iter, ifs, 0⟩] scope pos) spos) N R := fun F s S => by
  rw [exec_Assign_Name_used _ _ _ _ hsw]
  refine wpAny_bind (wpAny_standAt (wpAny_bind ?_))
  show wpAny _ _ (do let _ ← comprehension (.ListComp elt [⟨.Name x px, iter, ifs, 0⟩] scope pos) scope c.env _ (newList []) false (eval iter c.env) (some (assign (.Name y py) c.env))) _ _ s
  refine wpAny_bind (wpAny_mono (wpAny_comprehension_free (use := some (assign (.Name y py) c.env)) (Q := fun _ s' => Pf c F s N R .next s') (g := ⟨.Name x px, iter, ifs, 0⟩) (gs := []) rfl hs hclos hkind hnames (wpAny_mono (h F s S) (fun v s₁ hx => ?_) fun _ _ e => e)) (fun _ s' hq => wpAny_pure (wpAny_pure hq)) fun _ _ e => e)
  obtain ⟨u, σ₁, S₁, k₁, hu, items, σ', loc', Inv, hsrc, hlen, hloc, h0, turn, hend⟩ := hx
  refine comp_block Inv S₁ hu hA hsrc hlen hloc hcl hcell hkind hco hx h0 (fun C i u e acc σ₂ hI => turn F s₁ S₁ C i u e acc σ₂ hI) fun D C acc σ₂ s₂ hI hst k₂ ⟨m, hm⟩ => ?_
  obtain ⟨hg, hK⟩ := hend acc σ₂ hI
  show wpAny _ _ (assign (.Name y py) c.env (.ref D)) _ _ _
  refine wpAny_assign_Name (hy.store (u := vR D) (v := .ref D) (hst hg) rfl fun s₃ S₃ k₃ => ?_)
  have L := S₃.led (C, .is NsO) (List.mem_append_left _ (.head _))
  obtain ⟨m', hm'⟩ := at_nsO L.1
  refine ⟨m', hm', fun h' hs' => ?_⟩
  exact ⟨_, St.lose (tk := s₃.toks) S₃ hs'.extBut, k₁.trans (k₂.trans (k₃.trans (TK.but hs'.extBut (LO.At.noTup (lo := .is NsO) L.1)))), hK D⟩
end
end

section
open PySem PySem.Calls PyProof.Rows
section
variable {c : Cx} {σ : Sg} {F : List (Addr × LO)} {s s₁ : Shared} {K : V → Sg → Prop} {N : Sg → Prop} {R : V → Sg → Prop} {loc : List (Str × V)} {led : List (Addr × LO)} {g : Array GenState}

theorem ints_at {h : Heap} : ∀ {us : List Int} {vs : List Value}, IsAll h (us.map vI) vs → ∀ j (h1 : j < vs.length), ∃ t, vs[j] = .int (us.getD j 0) t
  | [], [], _, j, h1 => by simp at h1
  | _ :: _, _ :: _, ⟨a, _⟩, 0, _ => by obtain ⟨t, rfl⟩ := is_int a; exact ⟨t, rfl⟩
  | _ :: _, _ :: _, ⟨_, b⟩, j + 1, h1 => by
    obtain ⟨t, e⟩ := ints_at b j (by simpa using h1)
    exact ⟨t, by simpa using e⟩
  | [], _ :: _, x, _, _ => x.elim
  | _ :: _, [], x, _, _ => x.elim
theorem all_eq {us ws : List Int} (h : us.length = ws.length) : (List.range us.length).all (fun j => us.getD j 0 == ws.getD j 0) = decide (us = ws) := by
  rw [Bool.eq_iff_iff, List.all_eq_true, decide_eq_true_eq]
  constructor
  · intro q
    apply List.ext_getElem h
    intro i h1 h2
    have := q i (List.mem_range.mpr h1)
    simpa [List.getD_eq_getElem?_getD, List.getElem?_eq_getElem h1, List.getElem?_eq_getElem h2] using this
  · rintro rfl i _
    simp
theorem Op2.eqLL {a b : Addr} {us ws : List Int} (hr : Room 1 c.A) (ha : HasL c σ a (us.map vI)) (hb : HasL c σ b (ws.map vI)) (h : K (vB (decide (us = ws))) σ) : Op2 c σ (vR a) (vR b) (compareOp .Eq) K := fun F s v w S hv hw => by
  cases is_ref hv; cases is_ref hw
  obtain ⟨i1, l1, x1⟩ := ha.at S
  obtain ⟨i2, l2, x2⟩ := hb.at S
  have e1 := x1.length; have e2 := x2.length
  simp only [List.length_map, Array.length_toList] at e1 e2
  have hu : c.A.units < cLine := by have := hr.2.2; omega
  by_cases q : us.length = ws.length
  · refine SeqAt.eq_listAt (e := fun j => us.getD j 0 == ws.getD j 0) l1 l2 (by omega) hu (fun j h1 h2 => ?_) ?_
    · obtain ⟨t, q1⟩ := ints_at x1 j (by simpa using h1)
      obtain ⟨u, q2⟩ := ints_at x2 j (by simpa using h2)
      simp only [Array.getElem_toList] at q1 q2
      rw [q1, q2]
      exact MeetsSeq.EqGives.at (MeetsSeq.EqGives.int _ _ _ _) _ _
    · rw [← e1, all_eq q]; exact Pv.here S h rfl
  · refine SeqAt.eq_list_lengthsAt l1 l2 (by simp; omega) hu ?_
    have : decide (us = ws) = false := decide_eq_false fun e => q (e ▸ rfl)
    rw [this] at h
    exact Pv.here S h rfl
theorem Op2.eqNil {a b : Addr} {us : List V} (hr : Room 1 c.A) (ha : HasL c σ a us) (hb : HasL c σ b []) (h : K (vB us.isEmpty) σ) : Op2 c σ (vR a) (vR b) (compareOp .Eq) K := fun F s v w S hv hw => by
  cases is_ref hv; cases is_ref hw
  obtain ⟨i1, l1, x1⟩ := ha.at S
  obtain ⟨i2, l2, x2⟩ := hb.at S
  have e1 := x1.length; have e2 := x2.length
  simp only [List.length_nil, Array.length_toList] at e1 e2
  have hu : c.A.units < cLine := by have := hr.2.2; omega
  cases us with
  | nil =>
    refine SeqAt.eq_listAt (e := fun _ => true) l1 l2 (by simpa using e1.symm.trans e2) hu (fun j h1 h2 => by rw [← e2] at h2; exact absurd h2 (Nat.not_lt_zero _)) ?_
    rw [← e1]; exact Pv.here S h rfl
  | cons u r =>
    exact SeqAt.eq_list_lengthsAt l1 l2 (by rw [← e1, ← e2]; simp) hu (Pv.here S h rfl)
theorem Op2.neNil {a b : Addr} {us : List V} (hr : Room 1 c.A) (ha : HasL c σ a us) (hb : HasL c σ b []) (h : K (vB !us.isEmpty) σ) : Op2 c σ (vR a) (vR b) (compareOp .NotEq) K := fun F s v w S hv hw => by
  cases is_ref hv; cases is_ref hw
  obtain ⟨i1, l1, x1⟩ := ha.at S
  obtain ⟨i2, l2, x2⟩ := hb.at S
  have e1 := x1.length; have e2 := x2.length
  simp only [List.length_nil, Array.length_toList] at e1 e2
  have hu : c.A.units < cLine := by have := hr.2.2; omega
  show wpAny _ _ (richCompare .NotEq _ _) _ _ s
  cases us with
  | nil =>
    refine SeqAt.RcNeAt.lists (e := fun _ => true) l1 l2 (by simpa using e1.symm.trans e2) hu (fun j h1 h2 => by rw [← e2] at h2; exact absurd h2 (Nat.not_lt_zero _)) _ _ _ _ ?_
    rw [← e1]; exact Pv.here S h rfl
  | cons u r =>
    exact SeqAt.RcNeAt.lists_lengths l1 l2 (by rw [← e1, ← e2]; simp) hu _ _ _ _ (Pv.here S h rfl)
theorem mem_ints {h : Heap} {us : List Int} {vs : List Value} (x : IsAll h (us.map vI) vs) {y : Value} (hy : y ∈ vs) : ∃ i t, y = .int i t := by
  obtain ⟨j, hj, rfl⟩ := List.getElem_of_mem hy
  obtain ⟨t, e⟩ := ints_at x j hj
  exact ⟨_, t, e⟩
noncomputable def isI (x : Int) : Value → Bool
  | .int i _ => i == x
  | _ => false
theorem any_ints {h : Heap} (x : Int) : ∀ {us : List Int} {vs : List Value}, IsAll h (us.map vI) vs → vs.any (isI x) = us.any (· == x)
  | [], [], _ => rfl
  | _ :: _, _ :: _, ⟨a, b⟩ => by
    obtain ⟨t, rfl⟩ := is_int a
    simp only [List.any_cons, any_ints x b, isI]
  | [], _ :: _, y => y.elim
  | _ :: _, [], y => y.elim
theorem Op2.notIn {a : Addr} {us : List Int} {x : Int} (ha : HasL c σ a (us.map vI)) (h : K (vB !us.any (· == x)) σ) : Op2 c σ (vI x) (vR a) (compareOp .NotIn) K := fun F s v w S hv hw => by
  obtain ⟨t, rfl⟩ := is_int hv
  cases is_ref hw
  obtain ⟨its, l1, x1⟩ := ha.at S
  refine SeqAt.notIn_listAt (isI x) l1 (fun y hy => ?_) ?_
  · obtain ⟨i, u, rfl⟩ := mem_ints x1 (Array.mem_toList_iff.mpr hy)
    exact MeetsSeq.EqGives.at (MeetsSeq.EqGives.int _ _ _ _) _ _
  · rw [← Array.any_toList, any_ints x x1]
    exact Pv.here S h rfl
theorem Op2.addL {a b : Addr} {us ws : List V} (ha : HasL c ⟨loc, led, g⟩ a us) (hb : HasL c ⟨loc, led, g⟩ b ws) (hl : us.length + ws.length ≤ 1000) (h : ∀ d, K (vR d) ⟨loc, (d, .pl (us ++ ws)) :: led, g⟩) : Op2 c ⟨loc, led, g⟩ (vR a) (vR b) (binaryOp .Add) K := fun F s v w S hv hw => by
  cases is_ref hv; cases is_ref hw
  obtain ⟨i1, l1, x1⟩ := ha.at S
  obtain ⟨i2, l2, x2⟩ := hb.at S
  have e1 := x1.length; have e2 := x2.length
  simp only [Array.length_toList] at e1 e2
  obtain ⟨⟨cls, dd, data, sl⟩, ho, hc, n, hd⟩ := id l1
  obtain ⟨⟨cls2, dd2, data2, sl2⟩, ho2, hc2, n2, hd2⟩ := id l2
  simp only at hc hd hc2 hd2
  subst hc hd hc2 hd2
  refine concat_meets ⟨_, ho, rfl⟩ ⟨_, ho2, rfl⟩ noFill_list_add seq_list_add PySem.F.slot_list_add PySem.F.entry_list_add (PySem.F.args_list_add_2 _ _)
    (list_addW a b i1 i2 n n2 dd dd2 sl sl2 (by rw [sizeLine_eq]; omega)) ⟨ho, ho2, ?_⟩
  refine ⟨vR _, _, St.add (tk := s.toks) (S.push _) (Nat.le_refl _) S ?_, (Kp.push _ _).tk, rfl, h _⟩
  refine ⟨_, ⟨_, Heap.get?_push_size _ rfl⟩, ?_⟩
  simpa using (x1.append x2).mono (Kp.push s.heap _).tk

theorem St.subl {led' : List (Addr × LO)} (S : St c ⟨loc, led, g⟩ F s) (h : led'.Sublist led) : St c ⟨loc, led', g⟩ F s :=
  St.sub (σ := ⟨loc, led, g⟩) S (led := led') (F' := F) (fun p hp => by
    rcases List.mem_append.mp hp with q | q
    · exact List.mem_append_left _ (h.mem q)
    · exact List.mem_append_right _ q) (List.Sublist.nodup (List.Sublist.map _ (List.Sublist.append h (List.Sublist.refl _))) S.nd)
theorem ExS.drop {led' : List (Addr × LO)} {l : List Stmt} (h : ExS c ⟨loc, led', g⟩ l N R) (hs : led'.Sublist led) : ExS c ⟨loc, led, g⟩ l N R := fun F s S => h F s (S.subl hs)
theorem Ev.drop {led' : List (Addr × LO)} {e : Expr} (h : Ev c ⟨loc, led', g⟩ e K) (hs : led'.Sublist led) : Ev c ⟨loc, led, g⟩ e K := fun F s S => h F s (S.subl hs)
theorem Ev.cl {x : Str} {p : Pos} {u : V} (hv : loc.lookup x = some u) (h : K u ⟨loc, led, g⟩) (hc : (c.env.cells.lookup x).isSome = true := by kernel_rfl!) (hx : c.env.kindOf x = some .cell := by kernel_rfl!) (hd : (x == ("__debug__" : Str)) = false := by kernel_rfl!) :
    Ev c ⟨loc, led, g⟩ (.Name x p) K := by
  obtain ⟨a, ha⟩ := Option.isSome_iff_exists.mp hc
  exact Ev.cel hv h ha hx hd
theorem StN.cell {d : DefRec} {s : Shared} {a : Addr} {cd : Value} {x : Str} (hk : (callee c d s a cd).env.kindOf x = some .cell := by kernel_rfl!) (hs : ((callee c d s a cd).env.cells.lookup x).isSome = true := by kernel_rfl!) : StN (callee c d s a cd) x := by
  obtain ⟨b, hb⟩ := Option.isSome_iff_exists.mp hs
  exact .inr ⟨b, hk, hb, callee_pair .., (callee_own hb).1⟩
noncomputable def ClIn (c : Cx) : List (Str × Addr) → Prop
  | [] => True
  | (n, a) :: r => c.env.cells.lookup n = some a ∧ ClIn c r
theorem ClIn.get {n : Str} {a : Addr} : ∀ {cl : List (Str × Addr)}, ClIn c cl → cl.lookup n = some a → c.env.cells.lookup n = some a
  | [], _, e => by simp at e
  | (y, w) :: r, ⟨h1, h2⟩, e => by
    rw [List.lookup_cons] at e
    by_cases q : n = y
    · subst q; simp at e; subst e; exact h1
    · have : (n == y) = false := beq_eq_false_iff_ne.mpr q
      rw [this] at e
      exact h2.get e
theorem OpS.lstN {value slice : Expr} {a : Addr} {i : Nat} {us : List V} {u : V} (hat : HasL c σ a us) (hu : us[i]? = some u) (h : K u σ) (hi : i < 1000)
    (hs : ∀ l t, subscripted slice false (.ref l) (.int (i : Int) t) = operate [.ref l, .int i t] (getItem (.ref l) (.int i t)) := by walk_at "u") : OpS c σ value slice (vR a) (vI i) K :=
  OpS.lst hat (by omega) (by simpa using hu) h (by omega) hs
theorem SetOp.lstN {a : Addr} {k : Nat} {us : List V} {u : V} (i : Nat) {lo : LO} (hi : led[i]? = some (a, lo)) (hL : lo.isL us) (h1 : k < us.length) (hk : k < 1000) (h : N ⟨loc, led.set i (a, .lst (us.set k u)), g⟩) :
    SetOp c ⟨loc, led, g⟩ (vR a) (vI k) u N := SetOp.lst hi hL (by omega) (by omega) (by simpa using h) (by omega)
theorem map_set {l : List Int} {i : Nat} {x : Int} : (l.map vI).set i (vI x) = (l.set i x).map vI := by rw [List.map_set]
noncomputable def nat (l : List Int) (i : Nat) : Int := l.getD i 0
theorem map_get {l : List Int} {i : Nat} (h : i < l.length) : (l.map vI)[i]? = some (vI (nat l i)) := by
  unfold nat
  simp [List.getElem?_eq_getElem h, List.getD_eq_getElem?_getD]
theorem foldl_range_succ {α : Type} (f : α → Nat → α) (a : α) (n : Nat) : (List.range (n + 1)).foldl f a = f ((List.range n).foldl f a) n := by
  rw [List.range_succ, List.foldl_append]; rfl
theorem St.toLst {a : Addr} {lo : LO} {us : List V} {i : Nat} (S : St c ⟨loc, led, g⟩ F s) (hi : led[i]? = some (a, lo)) (hL : lo.isL us) : St c ⟨loc, led.set i (a, .lst us), g⟩ F s := by
  have L := (S.led (a, lo) (List.mem_append_left _ (List.mem_of_getElem? hi))).1
  obtain ⟨h, t, e⟩ := S.same
  have := St.upd (tk := s.toks) (h := s.heap) (lo' := .lst us) S hi (Heap.ExtBut.refl _ _) (hL.at L)
  exact this
theorem Ev.toLst {a : Addr} {lo : LO} {us : List V} {e : Expr} (i : Nat) (hi : led[i]? = some (a, lo)) (hL : lo.isL us) (h : Ev c ⟨loc, led.set i (a, .lst us), g⟩ e K) : Ev c ⟨loc, led, g⟩ e K :=
  fun F s S => h F s (S.toLst hi hL)
theorem foldl_len {α : Type} {f : List Int → α → List Int} (h : ∀ l a, (f l a).length = l.length) : ∀ (xs : List α) (l : List Int), (xs.foldl f l).length = l.length
  | [], _ => rfl
  | x :: xs, l => by rw [List.foldl_cons, foldl_len h xs, h]

theorem EvIf.has {σ' : Sg} {l : List Expr} {K : Bool → Sg → Prop} (h : EvIf c σ l K) (hs : σ'.Has σ) : EvIf c σ' l K := fun F s S => h F s (S.has hs)
theorem Sub.cons {x : Str} {u : V} : ∀ {l' l : List (Str × V)}, Sub l' l → (l'.lookup x = none) → Sub l' ((x, u) :: l)
  | [], _, _, _ => trivial
  | (y, w) :: r, l, ⟨h1, h2⟩, hn => by
    rw [List.lookup_cons] at hn
    by_cases q : x = y
    · subst q; simp at hn
    · have q1 : (x == y) = false := beq_eq_false_iff_ne.mpr q
      have q2 : (y == x) = false := beq_eq_false_iff_ne.mpr (Ne.symm q)
      rw [q1] at hn
      refine ⟨?_, h2.cons hn⟩
      rw [List.lookup_cons, q2]; exact h1
theorem Sub.refl_of : ∀ {l : List (Str × V)}, (l.map (·.1)).Nodup → Sub l l
  | [], _ => trivial
  | (x, u) :: r, h => by
    have := List.nodup_cons.mp h
    refine ⟨by rw [List.lookup_cons]; simp, (Sub.refl_of this.2).cons ?_⟩
    cases e : r.lookup x with
    | none => rfl
    | some v => exact absurd (List.mem_map.mpr ⟨_, mem_of_lookup e, rfl⟩) this.1
/-- a comprehension that picks -/
theorem CompOk.filter {p : Pos} {x : Str} {ifs : List Expr} {scope : Scope} {cl : List (Str × Addr)} {u : V} {items : List V} {σ' : Sg} (loc' : List (Str × V)) (q : V → Bool)
    (hsrc : Src c σ u items σ') (hlen : items.length ≤ 1000) (hloc : LocC c scope σ'.loc loc') (hnd : (loc'.map (·.1)).Nodup) (hx0 : loc'.lookup x = Option.none) (hx : scope.names.lookup x = some .local)
    (hd : (x == ("__debug__" : Str)) = false)
    (turn : ∀ F s, St c σ F s → ∀ C u, u ∈ items → EvIf (compCx c scope cl C s) ⟨(x, u) :: loc', [], σ'.gens⟩ ifs (fun ok σ₃ => ok = q u ∧ σ₃.Has ⟨(x, u) :: loc', [], σ'.gens⟩))
    (hK : ∀ D, K (vR D) ⟨σ'.loc, (D, .pl (items.filter q)) :: σ'.led, σ'.gens⟩) : CompOk c σ (.Name x p) x ifs scope cl u K := by
  refine ⟨items, σ', loc', fun i acc σ₂ => acc = (items.take i).filter q ∧ σ₂.Has ⟨loc', [], σ'.gens⟩, hsrc, hlen, hloc, ⟨by simp, Sub.refl_of hnd, rfl, rfl⟩, ?_, ?_⟩
  · rintro F s S C i u hu acc ⟨l2, d2, g2⟩ ⟨rfl, hH⟩
    have hs : (items.take (i + 1)).filter q = (items.take i).filter q ++ (if q u then [u] else []) := take_succ_filter q items i u hu
    refine (EvIf.has (σ := ⟨(x, u) :: loc', [], σ'.gens⟩) (fun F' s' S' => wpAny_mono (turn F s S C u (List.mem_of_getElem? hu) F' s' S') (fun ok s'' hx => ?_) fun _ _ x => x) ⟨⟨by simp, (hH.loc).cons hx0⟩, hH.led, hH.gens⟩)
    obtain ⟨σ₃, S₃, k₃, hok, hH₃⟩ := hx
    refine ⟨σ₃, S₃, k₃, fun e => ⟨?_, ?_⟩, fun e => ?_⟩
    · rw [hs, ← hok, e]; simp
    · exact ⟨hH₃.loc.2, hH₃.led, hH₃.gens⟩
    · obtain ⟨l3, d3, g3⟩ := σ₃
      refine Ev.nm (hH₃.loc.1) ⟨?_, hH₃.loc.2, hH₃.led, hH₃.gens⟩ (lookup_relabel_local hx) hd
      rw [hs, ← hok, e]; simp
  · rintro acc ⟨l2, d2, g2⟩ ⟨rfl, hH⟩
    have e1 := hH.led; have e2 := hH.gens
    dsimp only at e1 e2
    subst e1 e2
    refine ⟨rfl, fun D => ?_⟩
    have := hK D
    rw [List.take_length]
    exact this

/-- a def's contract by its body; what it has made may be forgotten -/
theorem FnAt.bodyD {i : Nat} {us : List V} {names : List Str} (hr : Room 1 c.A)
    (h : ∀ F s a cd, St c σ F s → ExS (callee c (fn i) s a cd) ⟨names.zip us, [], σ.gens⟩ (fn i).body (fun _ => False) (fun u σ' => σ'.gens = σ.gens ∧ ∃ l : List (Addr × LO), l.Sublist σ'.led ∧ K u ⟨σ.loc, l ++ σ.led, σ.gens⟩))
    (hd : i ∈ [1,3,5,6,7,8,9,10,12,13,14,15,16,17,18,19,20,21,22] := by decide)
    (hb : ∀ pm cd doc (vs : List Value), vs.length = us.length → bindArgs (docDef (fn i).name (fn i).params (fn i).body (fn i).scope pm cd doc) ⟨vs, []⟩ = pure (names.zip vs))
    (hn : names.Nodup) (hlen : names.length = us.length := by rfl)
    (hk : (names.all fun x => (fn i).scope.names.lookup x == some .local || (fn i).scope.names.lookup x == some .cell) = true := by kernel_rfl!)
    (hco : (fn i).scope.isCoroutine = false := by kernel_rfl!) (hgen : (fn i).scope.isGenerator = false := by kernel_rfl!) (hkd : (fn i).scope.kind = .function := by kernel_rfl!) :
    FnAt c σ (fn i) us K := fun F s vs a hm S hus => by
  have := FnAt.body (K := fun u σ' => ∃ l l' : List (Addr × LO), σ' = ⟨σ.loc, l ++ σ.led, σ.gens⟩ ∧ l'.Sublist l ∧ K u ⟨σ.loc, l' ++ σ.led, σ.gens⟩) (c := c) (σ := σ) hr (fun F s a cd S F' s' S' =>
    wpAny_mono (h F s a cd S F' s' S') (fun f s'' ⟨σ', S'', k, hf⟩ => ⟨σ', S'', k, by
      cases f with
      | ret v => obtain ⟨u, hu, hg, l, hl, hK⟩ := hf; exact ⟨u, hu, hg, _, l, rfl, hl, hK⟩
      | _ => exact hf⟩) fun _ _ x => x) hd hb hn hlen hk hco hgen hkd F s vs a hm S hus
  refine codeAny_mono this fun r s' hr => ?_
  cases r with
  | error e => exact hr
  | ok f =>
    cases f with
    | ret v =>
      obtain ⟨u, σ', S', k, hu, l, l', rfl, hl, hK⟩ := hr
      exact ⟨u, _, S'.subl (List.Sublist.append hl (List.Sublist.refl _)), k, hu, hK⟩
    | _ => exact hr

theorem ItTo.perm {u : V} {items : List V} {led' : List (Addr × LO)} {σ' : Sg} (h : ItTo c ⟨loc, led', g⟩ u items σ') (p : led'.Perm led) : ItTo c ⟨loc, led, g⟩ u items σ' := fun F s v S hv =>
  h F s v (St.sub (σ := ⟨loc, led, g⟩) S (led := led') (F' := F) (fun q hq => by
    rcases List.mem_append.mp hq with z | z
    · exact List.mem_append_left _ (p.mem_iff.mp z)
    · exact List.mem_append_right _ z) (((p.append_right F).map _).nodup_iff.mpr S.nd)) hv
theorem ItTo.own {a : Addr} {us : List V} {lo : LO} (hA : c.A.handled = none) (hL : lo.isL us) : ItTo c ⟨loc, (a, lo) :: led, g⟩ (vR a) us ⟨loc, led, g⟩ := fun F s v S hv =>
  ItTo.lstOwn hA F s v (St.toLst (i := 0) S rfl hL) hv
end
end

section
open PySem PySem.Calls PyProof.Rows

/-- what a turn does behind its tests -/
noncomputable def goOn (elt : Expr) (gens : List Comprehension) (e : Expr) (d : Nat) (acc : Value) (env : Env) (k : Sem Fin) : Sem Fin := match gens[d + 1]? with
  | some g' => do
    let x ← eval g'.iter env
    standAt g'.iter.pos
    let x ← foldedSetIterable g'.iter env x
    let _ ← runOwn (.compStart e (d + 1) (← holding [x] (pyIter x)) acc env) env
    k
  | none => do
    (do let _ ← call (.builtin "list.append") [acc, ← eval elt env])
    k
theorem compTurn_at {elt : Expr} {gens : List Comprehension} {scope : Scope} {pos : Pos} {it acc : Value} {env : Env} {d : Nat} {x : Str} {px : Pos} {iter : Expr} {ifs : List Expr} (hg : gens[d]? = some ⟨.Name x px, iter, ifs, 0⟩)
    (ha : ∀ g' ∈ gens, g'.is_async = 0) :
    compTurn (.ListComp elt gens scope pos) d it acc env = (do
      standAt iter.pos
      match ← pyNext it with
      | none => pure (.done .next)
      | some v =>
        assign (.Name x px) env v
        let ok ← forIn ifs true fun c r => if r = true then do let ok ← isTrue c env (eval c env); pure (ForInStep.yield ok) else pure (ForInStep.yield r)
        if ok then
          goOn elt gens (.ListComp elt gens scope pos) d acc env (again (.compLoop (.ListComp elt gens scope pos) d it acc env))
        else again (.compLoop (.ListComp elt gens scope pos) d it acc env)) := by
  unfold compTurn goOn
  simp only [hg]
  cases hg' : gens[d + 1]? with
  | none => rfl
  | some g' =>
    obtain ⟨t', i', f', a'⟩ := g'
    have : a' = 0 := ha _ (List.mem_of_getElem? hg')
    subst this
    rfl
section
variable {c : Cx} {σ : Sg} {F : List (Addr × LO)} {s s₁ : Shared} {K : V → Sg → Prop} {N : Sg → Prop} {R : V → Sg → Prop} {loc : List (Str × V)} {led : List (Addr × LO)} {g : Array GenState}
  {elt : Expr} {gens : List Comprehension} {scope : Scope} {pos : Pos} {d : Nat} {D : Addr}

/-- the tree behind the tests, with the list that grows at D in the frame -/
noncomputable def CGo (c : Cx) (elt : Expr) (gens : List Comprehension) (scope : Scope) (pos : Pos) (d : Nat) (D : Addr) (acc : List V) (σ : Sg) (K : List V → Sg → Prop) : Prop :=
  ∀ F s, St c σ ((D, .pl acc) :: F) s → ∀ (k : Sem Fin) (Q : Fin → Shared → Prop),
    (∀ s' acc' σ', St c σ' ((D, .pl acc') :: F) s' → TK s.heap s'.heap → K acc' σ' → wpAny (Mo c) c.A k Q NoE s') →
    wpAny (Mo c) c.A (goOn elt gens (.ListComp elt gens scope pos) d (.ref D) c.env k) Q NoE s

theorem St.updF {acc acc' : List V} (S : St c ⟨loc, led, g⟩ ((D, .pl acc) :: F) s) {h : Heap} {tk : Nat} (hs : Heap.ExtBut D s.heap h) (hat : LO.At c h D (.pl acc')) (ht : s.toks ≤ tk := by walk_at "t") : St c ⟨loc, led, g⟩ ((D, .pl acc') :: F) { s with heap := h, toks := tk } := by
  have B := St.back (E := [(D, .pl acc)]) S
  exact St.move (E := [(D, .pl acc')]) (St.upd (i := 0) B rfl hs hat)
/-- the last clause: an item goes onto the list -/
theorem CGo.emit {acc : List V} {K : List V → Sg → Prop} (hn : gens[d + 1]? = none) (hacc : acc.length ≤ 100000) (h : Ev c σ elt (fun r σ' => K (acc ++ [r]) σ')) : CGo c elt gens scope pos d D acc σ K := fun F s S k Q hk => by
  unfold goOn
  rw [hn]
  refine wpAny_bind (wpAny_bind (wpAny_mono (h _ s S) (fun y s₂ hx => ?_) fun _ _ x => x))
  obtain ⟨r, σ₂, S₂, k₂, hr, h₂⟩ := hx
  obtain ⟨l2, d2, g2⟩ := σ₂
  have L := (S₂.led (D, .pl acc) (List.mem_append_right _ (.head _))).1
  have hnt : NoTup s₂.heap D := LO.At.noTup (lo := .pl acc) L
  obtain ⟨its, hl₂, hall₂⟩ := L
  refine wpAny_bind (wpAny_list_append_plain hl₂ (fun h' hl' hs' => wpAny_pure (hk _ (acc ++ [r]) _ (St.updF (tk := s₂.toks) S₂ hs'.extBut ?_) (k₂.trans (TK.but hs'.extBut hnt)) h₂)) ?_)
  · refine ⟨_, hl', ?_⟩
    have := (hall₂.mono (TK.but hs'.extBut hnt)).snoc (hr.mono (TK.but hs'.extBut hnt))
    simpa using this
  · have := hall₂.length
    simp at this
    rw [sizeLine_eq]; omega
/-- the loop of the clause d -/
theorem comp_loop {x : Str} {px : Pos} {iter : Expr} {ifs : List Expr} (hg : gens[d]? = some ⟨.Name x px, iter, ifs, 0⟩) (ha : ∀ g' ∈ gens, g'.is_async = 0) {items : List V} {E : Nat → List (Addr × LO)} {B : Heap → Prop} {it : Value}
    (W : ItR c items E B it) (hx : StN c x) {acc : List V} {Rr : Result → Shared → Prop} (Inv : Nat → List V → Sg → Prop) (S : St c ⟨loc, E 0 ++ led, g⟩ ((D, .pl acc) :: F) s) (hB : B s.heap) (h0 : Inv 0 acc ⟨loc, led, g⟩)
    (turn : ∀ i u, items[i]? = some u → ∀ acc σ₂, Inv i acc σ₂ → EvIf c ⟨(x, u) :: σ₂.loc, σ₂.led, σ₂.gens⟩ ifs (fun ok σ₃ => (ok = false → Inv (i + 1) acc σ₃) ∧
      (ok = true → CGo c elt gens scope pos d D acc σ₃ (fun acc' σ₄ => Inv (i + 1) acc' σ₄))))
    (hR : ∀ acc σ₂ s', Inv items.length acc σ₂ → St c σ₂ ((D, .pl acc) :: F) s' → TK s.heap s'.heap → Rr (.ok .next) s') :
    codeAny (Mo c) c.A (.compLoop (.ListComp elt gens scope pos) d it (.ref D) c.env) Rr s := by
  refine codeAny_loop rfl (fun n s' => ∃ i acc σ₂, St c ⟨σ₂.loc, E i ++ σ₂.led, σ₂.gens⟩ ((D, .pl acc) :: F) s' ∧ B s'.heap ∧ TK s.heap s'.heap ∧ Inv i acc σ₂ ∧ i ≤ items.length ∧ n = items.length + 1 - i) (fun n s' hI => ?_) (items.length + 1)
    ⟨0, acc, ⟨loc, led, g⟩, S, hB, TK.refl _, h0, Nat.zero_le _, rfl⟩
  obtain ⟨i, acc, σ₂, S₂, hB', tk', hI', hi, rfl⟩ := hI
  show wpAny _ _ ((compTurn (.ListComp elt gens scope pos) d it (.ref D) c.env).onRaise (fun x => do noteFrame x c.env; theTreesLotGoes x)) _ _ s'
  refine wpAny_noted (noE ?_)
  rw [compTurn_at hg ha]
  refine wpAny_bind (wpAny_standAt (wpAny_bind ?_))
  cases hv : items[i]? with
  | none =>
    have hsz : i = items.length := Nat.le_antisymm hi (by simpa using hv)
    subst hsz
    refine wpAny_mono (W.done _ _ _ _ s' hB' S₂) (fun r s₃ hx => ?_) fun _ _ x => x
    obtain ⟨hr, k₃, S₃⟩ := hx
    subst hr
    exact wpAny_pure (hR acc σ₂ s₃ hI' S₃ (tk'.trans k₃))
  | some u =>
    have hlt : i < items.length := (List.getElem?_eq_some_iff.mp hv).1
    refine wpAny_mono (W.next i u hv _ _ _ _ s' hB' S₂) (fun r s₃ hx => ?_) fun _ _ x => x
    obtain ⟨v, hr, hu, k₃, S₃⟩ := hx
    subst hr
    refine wpAny_bind (wpAny_assign_Name (hx.store S₃ hu fun s₄ S₄ k₄ => ?_))
    have S₅ := St.move S₄
    refine wpAny_bind (wpAny_mono (turn i u hv acc σ₂ hI' _ s₄ S₅) (fun ok s₅ hx => ?_) fun _ _ x => x)
    obtain ⟨σ₅, S₅, k₅, hok⟩ := hx
    have k6 := tk'.trans (k₃.trans (k₄.trans k₅))
    have hB5 := W.stable _ _ (k₃.trans (k₄.trans k₅)) hB'
    cases ok with
    | false =>
      rw [if_neg (by simp)]
      exact wpAny_pure ⟨rfl, items.length + 1 - (i + 1), by omega, i + 1, acc, σ₅, St.back S₅, hB5, k6, hok.1 rfl, hlt, rfl⟩
    | true =>
      rw [if_pos rfl]
      have S₆ : St c σ₅ ((D, .pl acc) :: (E (i + 1) ++ F)) s₅ := by
        obtain ⟨l5, d5, g5⟩ := σ₅
        refine St.sub (σ := ⟨l5, d5, g5⟩) S₅ (led := d5) (F' := (D, .pl acc) :: (E (i + 1) ++ F)) (fun p hp => ?_) ?_
        · simp only [List.mem_append, List.mem_cons] at hp ⊢
          rcases hp with h | h | h | h <;> simp [h]
        · refine List.Perm.nodup ?_ S₅.nd
          refine List.Perm.map _ (List.Perm.append_left _ ?_)
          exact List.perm_middle
      refine hok.2 rfl _ s₅ S₆ _ _ fun s₇ acc' σ₇ S₇ k₇ h₇ => ?_
      refine wpAny_pure ⟨rfl, items.length + 1 - (i + 1), by omega, i + 1, acc', σ₇, ?_, W.stable _ _ k₇ hB5, k6.trans k₇, h₇, hlt, rfl⟩
      refine St.back ?_
      obtain ⟨l5, d5, g5⟩ := σ₇
      refine St.sub (σ := ⟨l5, d5, g5⟩) S₇ (led := d5) (F' := E (i + 1) ++ (D, .pl acc') :: F) (fun p hp => ?_) ?_
      · simp only [List.mem_append, List.mem_cons] at hp ⊢
        rcases hp with h | h | h | h <;> simp [h]
      · refine List.Perm.nodup ?_ S₇.nd
        refine List.Perm.map _ (List.Perm.append_left _ ?_)
        exact List.perm_middle.symm

theorem compStart_at {it acc : Value} {env : Env} {x : Str} {px : Pos} {iter : Expr} {ifs : List Expr} (hg : gens[d]? = some ⟨.Name x px, iter, ifs, 0⟩) :
    compStart (.ListComp elt gens scope pos) d it acc env = (do
      if (← ask).params.followText "comprehension-iter-twice" then return ← again (.compLoop (.ListComp elt gens scope pos) d it acc env)
      rule "comprehension.iter-twice"
      standAt iter.pos
      again (.compLoop (.ListComp elt gens scope pos) d (← pyIter it) acc env)) := by
  have hc : (clausesOf (.ListComp elt gens scope pos))[d]? = some ⟨.Name x px, iter, ifs, 0⟩ := hg
  unfold compStart
  rw [hc]
  rfl
theorem comp_start {it acc : Value} {x : Str} {px : Pos} {iter : Expr} {ifs : List Expr} {Rr : Result → Shared → Prop} (hg : gens[d]? = some ⟨.Name x px, iter, ifs, 0⟩)
    (h0 : codeAny (Mo c) c.A (.compLoop (.ListComp elt gens scope pos) d it acc c.env) Rr s) (h1 : wpAny (Mo c) c.A (pyIter it) (fun it' s' => codeAny (Mo c) c.A (.compLoop (.ListComp elt gens scope pos) d it' acc c.env) Rr s') NoE s) :
    codeAny (Mo c) c.A (.compStart (.ListComp elt gens scope pos) d it acc c.env) Rr s := by
  refine codeAny_of_tree ?_
  show wpAny _ _ ((compStart (.ListComp elt gens scope pos) d it acc c.env).onRaise (fun x => do noteFrame x c.env; standAt theWindowsPlace)) _ _ s
  refine wpAny_notedAt (noE ?_)
  rw [compStart_at hg]
  refine wpAny_bind (wpAny_askSetting (wpAny_ite ?_))
  split
  · first
      | exact wpAny_bind (wpAny_pure (wpAny_pure (And.intro rfl h0)))
      | exact wpAny_pure (And.intro rfl h0)
  · first
      | exact wpAny_bind (wpAny_rule (wpAny_bind (wpAny_standAt (wpAny_bind (wpAny_mono h1 (fun it' s' h' => wpAny_pure (And.intro rfl h')) fun _ _ x => x)))))
      | (refine wpAny_bind (wpAny_rule ?_); show wpAny _ _ (standAt iter.pos >>= _) _ _ s; exact wpAny_bind (wpAny_standAt (wpAny_bind (wpAny_mono h1 (fun it' s' h' => wpAny_pure (And.intro rfl h')) fun _ _ x => x))))
/-- an inner clause -/
theorem CGo.inner {acc : List V} {K : List V → Sg → Prop} {x : Str} {px : Pos} {iter : Expr} {ifs : List Expr} (hg : gens[d + 1]? = some ⟨.Name x px, iter, ifs, 0⟩) (ha : ∀ g' ∈ gens, g'.is_async = 0) (hx : StN c x)
    (h : Ev c σ iter (fun u σ₁ => ∃ (items : List V) (σ₂ : Sg) (Inv : Nat → List V → Sg → Prop), ItTo c σ₁ u items σ₂ ∧ Inv 0 acc σ₂ ∧
      (∀ i u, items[i]? = some u → ∀ acc σ₂, Inv i acc σ₂ → EvIf c ⟨(x, u) :: σ₂.loc, σ₂.led, σ₂.gens⟩ ifs (fun ok σ₃ => (ok = false → Inv (i + 1) acc σ₃) ∧
        (ok = true → CGo c elt gens scope pos (d + 1) D acc σ₃ (fun acc' σ₄ => Inv (i + 1) acc' σ₄)))) ∧
      (∀ acc σ', Inv items.length acc σ' → K acc σ')))
    (hs : ∀ x, foldedSetIterable iter c.env x = pure x := by intro _; rfl) : CGo c elt gens scope pos d D acc σ K := fun F s S k Q hk => by
  unfold goOn
  rw [hg]
  refine wpAny_bind (wpAny_mono (h _ s S) (fun v s₁ hx => ?_) fun _ _ x => x)
  obtain ⟨u, σ₁, S₁, k₁, hu, items, σ₂, Inv, hit, h0, turn, hend⟩ := hx
  refine wpAny_bind (wpAny_standAt (wpAny_bind (wpAny_of_eq (hs v) (wpAny_bind (wpAny_holding (wpAny_mono (hit _ s₁ v S₁ hu) (fun it s₂ hx => ?_) fun _ _ x => x))))))
  obtain ⟨E, B, W, hB, k₂, S₂⟩ := hx
  refine wpAny_bind ?_
  refine wpAny_runOwn ?_
  have loop : codeAny (Mo c) c.A (.compLoop (.ListComp elt gens scope pos) (d + 1) it (.ref D) c.env) (fun r s' => match r with | .ok f => wpAny (Mo c) c.A k Q NoE s' | .error e => False) s₂ :=
    comp_loop hg ha W hx Inv S₂ hB h0 turn fun acc' σ' s' hI S' k' => hk s' acc' σ' S' (k₁.trans (k₂.trans k')) (hend acc' σ' hI)
  refine codeAny_mono (comp_start hg loop ?_) fun r s' hr => ?_
  · exact W.self 0 _ _ _ _ _ hB S₂ _ loop
  · cases r with
    | ok f => exact hr
    | error e => exact hr.elim

/-- the block of a comprehension with several clauses -/
theorem comp_blockN {x : Str} {px : Pos} {iter : Expr} {ifs : List Expr} {gs : List Comprehension} {cl : List (Str × Addr)} {loc' : List (Str × V)} {items : List V} {u : V} {σ' : Sg} (Inv : Nat → List V → Sg → Prop)
    {Q : Value → Addr → Result → Shared → Prop}
    (S : St c σ F s) {v : Value} (hv : u.Is s.heap v) (hA : c.A.handled = none) (hsrc : Src c σ u items σ')
    (hloc : LocC c scope σ'.loc loc') (hcl : ∀ n a, cl.lookup n = some a → c.env.cells.lookup n = some a) (ha : ∀ g' ∈ (⟨.Name x px, iter, ifs, 0⟩ :: gs : List Comprehension), g'.is_async = 0)
    (hcell : ∀ y ∈ scope.names, y.2 ≠ .cell) (hkind : scope.kind = .function) (hco : scope.isCoroutine = false) (hx : scope.names.lookup x = some .local)
    (h0 : Inv 0 [] ⟨loc', [], σ'.gens⟩)
    (turn : ∀ C D i u, items[i]? = some u → ∀ acc σ₂, Inv i acc σ₂ → EvIf (compCx c scope cl C s) ⟨(x, u) :: σ₂.loc, σ₂.led, σ₂.gens⟩ ifs (fun ok σ₃ => (ok = false → Inv (i + 1) acc σ₃) ∧
      (ok = true → CGo (compCx c scope cl C s) elt (⟨.Name x px, iter, ifs, 0⟩ :: gs) scope pos 0 D acc σ₃ (fun acc' σ₄ => Inv (i + 1) acc' σ₄))))
    (hQ : ∀ D C acc σ₂ s₂, Inv items.length acc σ₂ → (σ₂.gens = σ'.gens → St c ⟨σ'.loc, (C, .is NsO) :: (D, .pl acc) :: (σ₂.led ++ σ'.led), σ'.gens⟩ F s₂) → TK s.heap s₂.heap → (∃ m, s₂.heap.Ns C m) → Q (.ref D) C (.ok .next) s₂) :
    wpAny (Mo c) c.A (pyIter v) (fun it s₂ => wpAny (Mo c) c.A (newList []) (fun acc s₃ => wpAny (Mo c) c.A (newFunctionEnv scope c.env.globals cl [] c.env.qual none .none (some c.env)) (fun cenv s₄ =>
      codeAny (Mo c) c.A (.compStart (.ListComp elt (⟨.Name x px, iter, ifs, 0⟩ :: gs) scope pos) 0 it acc { cenv with scope := relabel scope c.env }) (Q acc cenv.locals) s₄) NoE s₃) NoE s₂) NoE s := by
  obtain ⟨o, E, B, P, hpi, hE0, hPo, hno, hfr, hB, hIt⟩ := hsrc.push F s v S hv
  have S' := hsrc.weak F s S
  refine hpi _ ?_
  refine wpAny_newObj_type (wpAny_newFunctionEnv hcell (by intro y hy; simp at hy) (fun h₁ hns₁ hsb₁ => ?_) hkind)
  dsimp only at hns₁ hsb₁ ⊢
  have hH1 : (s.heap.push o).objs.size = s.heap.objs.size + 1 := Heap.size_push ..
  have hH2 : ((s.heap.push o).push { cls := .type "list", dict := none, data := .seq ([] : List Value).toArray }).objs.size = s.heap.objs.size + 2 := by rw [Heap.size_push, hH1]
  rw [hH2] at hns₁ hsb₁ ⊢
  rw [hH1]
  have gI0 := Heap.get?_push_size s.heap (o := o) hfr
  have gD0 := Heap.get?_push_size (s.heap.push o) (o := { cls := .type "list", dict := none, data := .seq ([] : List Value).toArray }) rfl
  rw [hH1] at gD0
  obtain ⟨I, hI⟩ : ∃ I : Nat, s.heap.objs.size = I := ⟨_, rfl⟩
  rw [hI] at hns₁ hsb₁ gI0 gD0 hE0 hIt ⊢
  have hID : I ≠ I + 1 := Nat.ne_of_lt (Nat.lt_succ_self _)
  have old : Kp s.heap h₁ := fun b ob e => hsb₁.extBut b ob (by have := Heap.lt_size e; rw [hI] at this; exact Nat.ne_of_lt (Nat.lt_of_lt_of_le this (Nat.le_add_right ..)))
    (Heap.get?_push_of_some _ (Heap.get?_push_of_some _ (Heap.get?_push_of_some _ e)))
  have gI : h₁.get? I = some o := hsb₁.extBut _ _ (Nat.ne_of_lt (Nat.lt_add_of_pos_right (by decide))) (Heap.get?_push_of_some _ (Heap.get?_push_of_some _ gI0))
  have gD : h₁.get? (I + 1) = some { cls := .type "list", dict := none, data := .seq ([] : List Value).toArray } := hsb₁.extBut _ _ (Nat.ne_of_lt (Nat.lt_succ_self _)) (Heap.get?_push_of_some _ gD0)
  let c' := compCx c scope cl (I + 2) s
  have hap : ∀ n a, c'.env.cells.lookup n = some a → a < I := fun n a e => by
    obtain ⟨cm, hcm, _⟩ := S.cl
    have := (hcm n a (hcl n a e)).lt
    rw [hI] at this; exact this
  have hkx : c'.env.kindOf x = some .local := lookup_relabel_local hx
  have SC : St c' ⟨loc', E 0 ++ [(I + 1, .pl [])], σ'.gens⟩ [] { s with heap := h₁, toks := s.toks + ([] : List (Str × Value)).length } := by
    obtain ⟨cm, hcm, hv⟩ := S'.cl
    refine ⟨⟨?_, ?_, S.ok.glob, S.ok.blt, ?_, fun n a e => ?_, S.gl⟩, ?_, old, ⟨_, hns₁, fun y w k e => ?_⟩, ⟨cm, fun n a e => (hcm n a (hcl n a e)).keeps old, fun y w k e => ?_⟩, fun p hp => ?_, ?_, fun p => Nat.le_trans (S.tp p) (Nat.le_add_right _ _)⟩
    · exact hkind
    · exact hco
    · show s.heap.objs.size ≤ I + 2; rw [hI]; omega
    · have := hap n a e
      show a ≠ I + 2
      exact Nat.ne_of_lt (Nat.lt_of_lt_of_le this (Nat.le_add_right ..))
    · obtain ⟨h₂, t₂, e⟩ := S'.same
      exact ⟨h₁, _, by show _ = { s with heap := h₁, toks := _, gens := σ'.gens }; rw [show σ'.gens = s.gens by rw [e]]⟩
    · have := (hloc.get e).2.2
      have k' : (relabel scope c.env).names.lookup y = some .local := k
      rw [this] at k'; cases k'
    · obtain ⟨h1, h2, h3⟩ := hloc.get e
      obtain ⟨v, a, b⟩ := hv y w h2 h1
      exact ⟨v, a, b.mono old.tk⟩
    · rw [hE0] at hp
      simp only [List.append_nil, List.cons_append, List.nil_append, List.mem_cons, List.not_mem_nil, or_false] at hp
      rcases hp with rfl | rfl
      · exact ⟨⟨o, gI, hno, hPo⟩, by show s.heap.objs.size ≤ I; rw [hI]; exact Nat.le_refl _, by show I ≠ I + 2; omega, fun n a e q => absurd (hap n a e) (by have q' : I = a := q; rw [q']; exact Nat.lt_irrefl _)⟩
      · refine ⟨⟨#[], ⟨_, gD⟩, trivial⟩, by show s.heap.objs.size ≤ I + 1; rw [hI]; omega, by show I + 1 ≠ I + 2; omega, fun n a e q => absurd (hap n a e) (by have q' : I + 1 = a := q; rw [← q']; exact Nat.not_lt.mpr (Nat.le_succ I))⟩
    · rw [hE0]; simp [hID]
  have W := hIt c' rfl rfl hA rfl
  have back : ∀ {acc : List V} {σ₂ : Sg} {s₂ : Shared}, St c' ⟨σ₂.loc, (I + 1, .pl acc) :: σ₂.led, σ₂.gens⟩ [] s₂ → (σ₂.gens = σ'.gens → St c ⟨σ'.loc, (I + 2, .is NsO) :: (I + 1, .pl acc) :: (σ₂.led ++ σ'.led), σ'.gens⟩ F s₂) := by
    intro acc σ₂ s₂ S₂ hg
    refine St.joinP (led' := (I + 2, .is NsO) :: (I + 1, .pl acc) :: σ₂.led) S' ?_ S₂.keep (fun p hp => ?_) ?_ S₂.tp
    · obtain ⟨h₂, t₂, e⟩ := S₂.same
      obtain ⟨h₃, t₃, e₃⟩ := S'.same
      have : s.gens = σ'.gens := by rw [e₃]
      refine ⟨h₂, t₂, ?_⟩
      rw [e]
      show ({ s with heap := h₂, toks := t₂, gens := σ₂.gens } : Shared) = { s with heap := h₂, toks := t₂ }
      rw [hg, ← this]
    · rcases List.mem_cons.mp hp with rfl | hp
      · obtain ⟨m, hn, _⟩ := S₂.ns
        exact ⟨nsO_at hn, by show s.heap.objs.size ≤ I + 2; rw [hI]; exact Nat.le_add_right ..⟩
      · obtain ⟨a1, a2, _⟩ := S₂.led p (List.mem_append_left _ hp)
        exact ⟨a1, a2⟩
    · have nd := S₂.nd
      rw [List.append_nil] at nd
      refine List.nodup_cons.mpr ⟨fun hm => ?_, nd⟩
      obtain ⟨p, hp, e⟩ := List.mem_map.mp hm
      exact (S₂.led p (List.mem_append_left _ hp)).2.2.1 e
  have SC' : St c' ⟨loc', E 0 ++ [], σ'.gens⟩ ((I + 1, .pl []) :: []) { s with heap := h₁, toks := s.toks + ([] : List (Str × Value)).length } := by
    refine St.sub (σ := ⟨loc', E 0 ++ [(I + 1, .pl [])], σ'.gens⟩) SC (led := E 0 ++ []) (F' := [(I + 1, .pl [])]) (fun p hp => by simpa using hp) (by simpa using SC.nd)
  have loop : codeAny (Mo c) c.A (.compLoop (.ListComp elt (⟨.Name x px, iter, ifs, 0⟩ :: gs) scope pos) 0 (.ref I) (.ref (I + 1)) c'.env) (Q (.ref (I + 1)) (I + 2)) { s with heap := h₁, toks := s.toks + ([] : List (Str × Value)).length } := by
    refine comp_loop (c := c') rfl ha W (.inl hkx) Inv SC' (W.stable _ _ old.tk hB) h0 (fun i u hu acc σ₂ hI => turn (I + 2) (I + 1) i u hu acc σ₂ hI) fun acc σ₂ s' hI S₂ k' => ?_
    obtain ⟨l2, d2, g2⟩ := σ₂
    have S₃ : St c' ⟨l2, (I + 1, .pl acc) :: d2, g2⟩ [] s' := St.back (E := [(I + 1, .pl acc)]) (F := []) S₂
    obtain ⟨m, hn, _⟩ := S₂.ns
    exact hQ (I + 1) (I + 2) acc _ s' hI (back S₃) (old.tk.trans k') ⟨m, hn⟩
  refine comp_start (c := c') rfl loop ?_
  exact W.self 0 _ _ _ _ _ (W.stable _ _ old.tk hB) SC' _ loop
theorem Ev.compN {iter : Expr} {x : Str} {px : Pos} {ifs : List Expr} {gs : List Comprehension} (cl : List (Str × Addr)) (hA : c.A.handled = none)
    (h : Ev c σ iter (fun u σ₁ => ∃ (items : List V) (σ' : Sg) (loc' : List (Str × V)) (Inv : Nat → List V → Sg → Prop), Src c σ₁ u items σ' ∧ LocC c scope σ'.loc loc' ∧ Inv 0 [] ⟨loc', [], σ'.gens⟩ ∧
      (∀ F s, St c σ₁ F s → ∀ C D i u, items[i]? = some u → ∀ acc σ₂, Inv i acc σ₂ → EvIf (compCx c scope cl C s) ⟨(x, u) :: σ₂.loc, σ₂.led, σ₂.gens⟩ ifs (fun ok σ₃ => (ok = false → Inv (i + 1) acc σ₃) ∧
        (ok = true → CGo (compCx c scope cl C s) elt (⟨.Name x px, iter, ifs, 0⟩ :: gs) scope pos 0 D acc σ₃ (fun acc' σ₄ => Inv (i + 1) acc' σ₄)))) ∧
      (∀ acc σ₂, Inv items.length acc σ₂ → σ₂.gens = σ'.gens ∧ ∀ D, K (vR D) ⟨σ'.loc, (D, .pl acc) :: (σ₂.led ++ σ'.led), σ'.gens⟩)))
    (hclos : closureFor scope c.env = pure cl) (hcl : ∀ n a, cl.lookup n = some a → c.env.cells.lookup n = some a) (ha : ∀ g' ∈ (⟨.Name x px, iter, ifs, 0⟩ :: gs : List Comprehension), g'.is_async = 0 := by simp)
    (hcell : ∀ y ∈ scope.names, y.2 ≠ .cell := by decide) (hkind : scope.kind = .function := by rfl) (hco : scope.isCoroutine = false := by rfl)
    (hnames : ∀ y ∈ scope.names, y.2 = .local → scope.names.lookup y.1 = some .local := by decide) (hx : scope.names.lookup x = some .local := by kernel_rfl!)
    (hs : ∀ x, foldedSetIterable iter c.env x = pure x := by intro _; rfl) :
    Ev c σ (.ListComp elt (⟨.Name x px, iter, ifs, 0⟩ :: gs) scope pos) K := fun F s S => by
  rw [eval_ListComp]
  refine wpAny_comprehension_free (use := Option.none) (g := ⟨.Name x px, iter, ifs, 0⟩) (gs := gs) rfl hs hclos hkind hnames (wpAny_mono (h F s S) (fun v s₁ hx => ?_) fun _ _ e => e)
  obtain ⟨u, σ₁, S₁, k₁, hu, items, σ', loc', Inv, hsrc, hloc, h0, turn, hend⟩ := hx
  refine comp_blockN Inv S₁ hu hA hsrc hloc hcl ha hcell hkind hco hx h0 (fun C D i u e acc σ₂ hI => turn F s₁ S₁ C D i u e acc σ₂ hI) fun D C acc σ₂ s₂ hI hst k₂ ⟨m, hm⟩ => ⟨m, hm, fun h' hs' => ?_⟩
  obtain ⟨hg, hK⟩ := hend acc σ₂ hI
  have hn : NoTup s₂.heap C := by
    obtain ⟨o, es, ep, e, hd, _⟩ := hm
    exact noTup_of e (by unfold notTupObj; rw [hd])
  exact ⟨vR D, _, St.lose (tk := s₂.toks) (hst hg) hs'.extBut, k₁.trans (k₂.trans (TK.but hs'.extBut hn)), rfl, hK D⟩
end
end

section
open PySem PySem.Calls PyProof.Rows

noncomputable def setF (f : Int → Option V) (k : Int) (u : V) : Int → Option V := fun x => if x = k then some u else f x
noncomputable def Agree (h : Heap) (f : Int → Option V) (kvs : List (Int × Value)) : Prop := ∀ k, match f k, valueAt kvs k with | some u, some v => u.Is h v | none, none => True | _, _ => False
theorem find_map_set {k : Int} {v : Value} {x : Int} : ∀ kvs : List (Int × Value), ((kvs.map (fun kv => if kv.1 = k then (kv.1, v) else kv)).find? fun kv => kv.1 = x).map (·.2) = if x = k then (if kvs.any (fun kv => kv.1 = k) then some v else none) else (kvs.find? fun kv => kv.1 = x).map (·.2)
  | [] => by simp
  | (a, b) :: r => by
    have ih := find_map_set (k := k) (v := v) (x := x) r
    simp only [List.map_cons, List.find?_cons, List.any_cons]
    by_cases h1 : a = k
    · subst h1
      by_cases h2 : a = x
      · subst h2; simp
      · have h3 : ¬ x = a := fun e => h2 e.symm
        simp only [if_true, h2, decide_false, h3, if_false] at ih ⊢
        exact ih
    · by_cases h2 : a = x
      · subst h2; simp [h1]
      · simp only [h1, if_false, h2, decide_false, Bool.false_or] at ih ⊢
        exact ih
theorem valueAt_stored (kvs : List (Int × Value)) (k : Int) (v : Value) (x : Int) : valueAt (stored kvs k v) x = if x = k then some v else valueAt kvs x := by
  unfold stored
  split
  next h =>
    unfold valueAt
    rw [find_map_set]
    simp only [h, if_true]
  next h =>
    unfold valueAt
    rw [List.find?_append]
    by_cases q : x = k
    · subst q
      have : (kvs.find? fun kv => kv.1 = x) = none := by
        rw [List.find?_eq_none]; intro y hy; intro e
        exact h (List.any_eq_true.mpr ⟨y, hy, e⟩)
      rw [this]; simp
    · have : ¬ k = x := fun e => q e.symm
      simp [q, this]
theorem Agree.set {h : Heap} {f : Int → Option V} {kvs : List (Int × Value)} (x : Agree h f kvs) {k : Int} {u : V} {v : Value} (hu : u.Is h v) : Agree h (setF f k u) (stored kvs k v) := fun y => by
  rw [valueAt_stored]
  unfold setF
  by_cases q : y = k
  · simp [q]; exact hu
  · simp only [q, if_false]; exact x y
theorem Agree.mono {h h' : Heap} {f : Int → Option V} {kvs : List (Int × Value)} (x : Agree h f kvs) (k : TK h h') : Agree h' f kvs := fun y => by
  have := x y
  cases h1 : f y <;> cases h2 : valueAt kvs y <;> simp only [h1, h2] at this ⊢
  exact this.mono k

section
variable {c : Cx} {σ : Sg} {F : List (Addr × LO)} {s s₁ : Shared} {K : V → Sg → Prop} {N : Sg → Prop} {R : V → Sg → Prop} {loc : List (Str × V)} {led : List (Addr × LO)} {g : Array GenState}

/-- a display of one int key -/
theorem Ev.dct1 {ke ve : Expr} {p : Pos} (h : Ev c σ ke (fun a σ₁ => ∃ k, a = vI k ∧ Ev c σ₁ ve (fun u σ₂ => ∀ d, K (vR d) ⟨σ₂.loc, (d, .dct 1 (setF (fun _ => none) k u)) :: σ₂.led, σ₂.gens⟩)))
    (hshape : (evalEachOpt [some ke] c.env).zip ((evalEach [ve] c.env).map fun v => do let x ← v; standAt p; pure x) = ([(eval ke c.env, do let x ← eval ve c.env; standAt p; pure x)] : List (Sem Value × Sem Value)).map fun p => (some p.1, p.2) := by rfl) :
    Ev c σ (.Dict [some ke] [ve] p) K := fun F s S => by
  refine wpAny_Dict_pairs (knd := intKind c.prog c.w) hshape (by simp) (by simp) (evalPairs_cons (wpAny_mono (h ((s.heap.objs.size, .dct 0 (fun _ => none)) :: F) _ ?_) (fun v s₁ ⟨a, σ₁, S₁, k₁, ha, k, e, h₁⟩ => ?_) fun _ _ x => x))
  · have D0 : (s.heap.push { cls := .type "dict", data := .dict #[] }).DictOf (intKind c.prog c.w) s.heap.objs.size [] := ⟨_, #[], 0, Heap.get?_push_size _ rfl, ⟨rfl, rfl, rfl⟩, rfl, fun e he => by simp at he, .nil, .nil⟩
    have S1 := St.add (tk := s.toks) (lo := .dct 0 (fun _ => none)) (S.push { cls := .type "dict", data := .dict #[] }) (Nat.le_refl _) S ⟨[], D0, by simp, fun k => by simp [valueAt]⟩
    exact St.move (E := [(s.heap.objs.size, .dct 0 (fun _ => none))]) S1
  · subst e
    obtain ⟨t, rfl⟩ := is_int ha
    refine wpAny_bind (wpAny_mono (h₁ _ s₁ S₁) (fun w s₂ hx => ?_) fun _ _ x => x)
    obtain ⟨u, σ₂, S₂, k₂, hu, h₂⟩ := hx
    refine wpAny_bind (wpAny_standAt (wpAny_pure (evalPairs_nil ?_)))
    obtain ⟨kvs, hD, hle, _⟩ := (S₂.led (s.heap.objs.size, .dct 0 (fun _ => none)) (List.mem_append_right _ (.head _))).1
    have hk : kvs = [] := List.eq_nil_of_length_eq_zero (by omega)
    subst hk
    refine ⟨[(k, w)], ⟨intKind_is _ _ _ _, rfl, trivial⟩, hD, fun h' hD' hs => ?_⟩
    have hn : NoTup s₂.heap s.heap.objs.size := by
      obtain ⟨o, es, ep, e, _, hd, _⟩ := hD
      exact noTup_of e (by unfold notTupObj; rw [hd])
    have tk := TK.but hs.extBut hn
    have SB : St c ⟨σ₂.loc, (s.heap.objs.size, .dct 0 (fun _ => none)) :: σ₂.led, σ₂.gens⟩ F s₂ := St.back (E := [(s.heap.objs.size, .dct 0 (fun _ => none))]) S₂
    refine ⟨vR _, _, SB.upd (i := 0) (tk := s₂.toks + 1) rfl hs.extBut (lo' := .dct 1 (setF (fun _ => none) k u)) ?_, (Kp.push _ _).tk.trans (k₁.trans (k₂.trans tk)), rfl, h₂ _⟩
    refine ⟨_, hD', by simp [merged, stored], ?_⟩
    exact Agree.set (kvs := []) (fun k => by simp [valueAt]) (hu.mono tk)

theorem lowS {a : Addr} {lo : LO} (S : St c σ F s) (hm : (a, lo) ∈ σ.led) : (a == sysModules) = false := by
  have h1 := (S.led _ (List.mem_append_left _ hm)).2.1
  have h2 := modules_low S.ok.gl.nolimit
  have : a ≠ sysModules := Nat.ne_of_gt (Nat.lt_of_lt_of_le h2 h1)
  exact beq_eq_false_iff_ne.mpr this
theorem Op2.inD {a : Addr} {n : Nat} {f : Int → Option V} {k : Int} (hm : (a, LO.dct n f) ∈ σ.led) (h : K (vB (f k).isSome) σ) : Op2 c σ (vI k) (vR a) (compareOp .In) K := fun F s v w S hv hw => by
  obtain ⟨t, rfl⟩ := is_int hv
  cases is_ref hw
  obtain ⟨kvs, hD, hle, hag⟩ := (S.led _ (List.mem_append_left _ hm)).1
  refine wpAny_in_of (knd := intKind c.prog c.w) (intKind_is _ _ _ _) (lowS S hm) hD.mapOf (Pv.tok S (u := vB (f k).isSome) h ?_)
  have := hag k
  show er _ = _
  split at this <;> simp_all [er]
theorem OpS.dct {value slice : Expr} {a : Addr} {n : Nat} {f : Int → Option V} {k : Int} {u : V} (hm : (a, LO.dct n f) ∈ σ.led) (hu : f k = some u) (h : K u σ)
    (hs : ∀ l t, subscripted slice false (.ref l) (.int k t) = operate [.ref l, .int k t] (getItem (.ref l) (.int k t)) := by walk_at "u") : OpS c σ value slice (vR a) (vI k) K := fun F s v w S hv hw => by
  cases is_ref hv
  obtain ⟨t, rfl⟩ := is_int hw
  obtain ⟨kvs, hD, hle, hag⟩ := (S.led _ (List.mem_append_left _ hm)).1
  have := hag k
  rw [hu] at this
  cases hv : valueAt kvs k with
  | none => rw [hv] at this; exact this.elim
  | some v =>
    rw [hv] at this
    exact tail_any hD.typeIs slot_dict_getitem.lookup (wpAny_getItem_of (knd := intKind c.prog c.w) (intKind_is _ _ _ _) hD.mapOf hv (Pv.tok S h this)) (hs _ _)
theorem SetOp.dct {a : Addr} {n : Nat} {f : Int → Option V} {k : Int} {u : V} {i : Nat} (hi : led[i]? = some (a, LO.dct n f)) (hn : n ≤ 1000) (h : N ⟨loc, led.set i (a, .dct (n + 1) (setF f k u)), g⟩) :
    SetOp c ⟨loc, led, g⟩ (vR a) (vI k) u N := fun F s v w x S hv hw hu => by
  cases is_ref hv
  obtain ⟨t, rfl⟩ := is_int hw
  have L := (S.led _ (List.mem_append_left _ (List.mem_of_getElem? hi))).1
  have hnt : NoTup s.heap a := LO.At.noTup (lo := .dct n f) L
  obtain ⟨kvs, hD, hle, hag⟩ := L
  refine wpAny_setItem_pairs (knd := intKind c.prog c.w) (intKind_is _ _ _ _) hD (fun h' hD' hs => ⟨_, S.upd (tk := s.toks + 1) hi hs.extBut (lo' := .dct (n + 1) (setF f k u)) ?_, TK.but hs.extBut hnt, h⟩) (by rw [sizeLine_eq]; omega)
  have tk := TK.but hs.extBut hnt
  exact ⟨_, hD', Nat.le_trans (stored_length_le _ _ _) (by omega), Agree.set (Agree.mono hag tk) (hu.mono tk)⟩
/-- x.get(e) -/
theorem Ev.getD {o e : Expr} {apos pos : Pos} (h : Ev c σ o (fun a σ₁ => ∃ d n f, a = vR d ∧ (d, LO.dct n f) ∈ σ₁.led ∧ Ev c σ₁ e (fun u σ₂ => ∃ k, u = vI k ∧ (d, LO.dct n f) ∈ σ₂.led ∧ K ((f k).getD vN) σ₂)))
    (hbase : attributeBase o "get" c.env (eval o c.env) = eval o c.env := by with_unfolding_all rfl) (hline : (apos.endLine == pos.line) = true := by rfl)
    (htrees : backTo pos (starEach [e] c.env) = [(false, eval e c.env)] := by with_unfolding_all rfl) :
    Ev c σ (.Call (.Attribute o "get" apos) [e] [] pos) K := fun F s S => by
  refine wpAny_Call_method1_late hbase hline htrees (wpAny_mono (h F s S) (fun v s₁ hx => ?_) fun _ _ x => x)
  obtain ⟨a, σ₁, S₁, k₁, ha, d, n, f, e, hm, h₁⟩ := hx
  subst e
  cases is_ref ha
  obtain ⟨kvs, hD, hle, hag⟩ := (S₁.led _ (List.mem_append_left _ hm)).1
  refine ⟨"dict", "dict.get", PySem.F.plainAttrs_dict, PySem.F.slot_dict_get, PySem.F.type_dict_get, hD.typeIs, hD.mapOf.noDict, ?_⟩
  refine callWith_builtin rfl (evalArgs_plain (spliced_cons (wpAny_mono (h₁ F s₁ S₁) (fun w s₂ hx => ?_) fun _ _ x => x)))
  obtain ⟨u, σ₂, S₂, k₂, hu, k, e, hm₂, h₂⟩ := hx
  refine spliced_nil ?_
  subst e
  obtain ⟨t, rfl⟩ := is_int hu
  obtain ⟨kvs, hD, hle, hag⟩ := (S₂.led _ (List.mem_append_left _ hm₂)).1
  refine call_meetsIn PySem.F.slot_dict_get hD.typeIs PySem.F.entry_dict_get (PySem.F.args_dict_get_2 _ _) (meets_dict_get (intKind c.prog c.w) d (intKind_is _ _ k _) (lowS S₂ hm₂)) ⟨_, hD.mapOf, ⟨_, σ₂, S₂.tok, k₁.trans k₂, ?_, h₂⟩⟩
  have := hag k
  split at this <;> simp_all
  rfl
/-- tuple and tuple -/
theorem Op2.addT {us ws : List Value} (hl : us.length + ws.length ≤ 1000) (h : K (.t (us ++ ws)) σ) : Op2 c σ (.t us) (.t ws) (binaryOp .Add) K := fun F s v w S hv hw => by
  obtain ⟨t, items, rfl, ht, hi⟩ := hv
  obtain ⟨b, items2, rfl, hb, hj⟩ := hw
  obtain ⟨⟨cls, dd, data, sl⟩, ho, hc, n, hd⟩ := id ht
  obtain ⟨⟨cls2, dd2, data2, sl2⟩, ho2, hc2, n2, hd2⟩ := id hb
  simp only at hc hd hc2 hd2
  subst hc hd hc2 hd2
  have l1 : items.size = us.length := by rw [← hi]; simp
  have l2 : items2.size = ws.length := by rw [← hj]; simp
  by_cases hv : us = []
  · subst hv
    have hz : items.isEmpty = true := by simpa using (Array.eq_empty_of_size_eq_zero (by simpa using l1))
    exact concat_meets ⟨_, ho, rfl⟩ ⟨_, ho2, rfl⟩ noFill_tuple_add seq_tuple_add PySem.F.slot_tuple_add PySem.F.entry_tuple_add (PySem.F.args_tuple_add_2 _ _)
      (tuple_addW0 t b items items2 n n2 dd dd2 sl sl2 hz) ⟨ho, ho2, Pv.here S h ⟨b, items2, rfl, hb, hj⟩⟩
  · by_cases hw : ws = []
    · subst hw
      have hz : items2.isEmpty = true := by simpa using (Array.eq_empty_of_size_eq_zero (by simpa using l2))
      refine concat_meets ⟨_, ho, rfl⟩ ⟨_, ho2, rfl⟩ noFill_tuple_add seq_tuple_add PySem.F.slot_tuple_add PySem.F.entry_tuple_add (PySem.F.args_tuple_add_2 _ _)
        (tuple_addW1 t b items items2 n n2 dd dd2 sl sl2 ?_ hz) ⟨ho, ho2, Pv.here S h ⟨t, items, rfl, ht, by simpa using hi⟩⟩
      intro q; simp at q; subst q; simp at hi; exact hv hi
    · refine concat_meets ⟨_, ho, rfl⟩ ⟨_, ho2, rfl⟩ noFill_tuple_add seq_tuple_add PySem.F.slot_tuple_add PySem.F.entry_tuple_add (PySem.F.args_tuple_add_2 _ _)
        (tuple_addW2 t b items items2 n n2 dd dd2 sl sl2 ?_ ?_ (by rw [sizeLine_eq]; omega)) ⟨ho, ho2, ?_⟩
      · intro q; simp at q; subst q; simp at hi; exact hv hi
      · intro q; simp at q; subst q; simp at hj; exact hw hj
      · exact ⟨.t (us ++ ws), _, S.push _, (Kp.push _ _).tk, ⟨_, _, rfl, ⟨_, Heap.get?_push_size _ rfl, rfl, _, rfl⟩, by simp [hi, hj]⟩, h⟩
end
end

section
open PySem PySem.Calls PyProof.Rows

theorem adjust_to (b n : Nat) (hb : b ≤ n) : Builtin.Slice.sliceAdjust none (some (b : Int)) 1 (n : Int) = (0, (b : Int)) := by
  unfold Builtin.Slice.sliceAdjust
  have h1 : ¬ ((1 : Int) < 0) := by omega
  have h2 : ¬ ((b : Int) < 0) := by omega
  simp only [h1, h2, if_false]
  congr 1
  omega
theorem places_to (b : Nat) : Builtin.Slice.slicePlaces 0 (b : Int) 1 = b := by
  unfold Builtin.Slice.slicePlaces
  have h1 : (1 : Int) > 0 := by omega
  simp only [h1, if_true, Int.ediv_one]
  split <;> omega
theorem pick_to (xs : Array Value) (b : Nat) (hb : b ≤ xs.size) : ((List.range b).filterMap fun (k : Nat) => xs[((0 : Int) + (k : Int) * 1).toNat]?).toArray = (xs.toList.take b).toArray := by
  have e : (fun (k : Nat) => xs[((0 : Int) + (k : Int) * 1).toNat]?) = fun k => xs[0 + k]? := by
    funext k
    have : ((0 : Int) + (k : Int) * 1).toNat = 0 + k := by omega
    rw [this]
  rw [e]
  have := pick_run xs 0 b
  rw [List.filterMap_map] at this
  have e2 : ((fun x => xs[x]?) ∘ fun x => 0 + x) = fun k => xs[0 + k]? := rfl
  rw [e2] at this
  rw [this, List.drop_zero]
section
variable {prog : Program} {w : World} {A : Around} {E : Value → Shared → Prop} {s : Shared}
theorem sliceApplied_to {sl : Addr} {b n : Nat} {u : Tok} {Q : Int × Int × Nat → Shared → Prop} (hs : s.heap.IsSliceOf sl .none (.int b u) .none) (hb : b ≤ n) (h : Q (0, 1, b) s) :
    wpAny (model prog w) A (Builtin.Slice.sliceApplied (.ref sl) (pure (n : Int))) Q E s := by
  obtain ⟨os, hos, hcs, hds⟩ := id hs
  unfold Builtin.Slice.sliceApplied Builtin.Slice.sliceFields
  refine wpAny_bind (wpAny_bind (wpAny_field hos hds (x := .none) rfl (wpAny_bind (wpAny_field hos hds (x := .int b u) rfl (wpAny_bind (wpAny_field hos hds (x := .none) rfl (wpAny_pure ?_)))))))
  refine wpAny_bind (slicePart_none ?_)
  show wpAny _ _ (if ((1 : Int) == 0) = true then _ else _) _ _ s
  rw [if_neg (by decide)]
  refine wpAny_bind (slicePart_none (wpAny_bind (slicePart_int (wpAny_bind (wpAny_pure ?_)))))
  show wpAny _ _ (match Builtin.Slice.sliceAdjust none (some (b : Int)) 1 (n : Int) with | (lo, hi) => pure (lo, (1 : Int), Builtin.Slice.slicePlaces lo hi 1)) _ _ s
  rw [adjust_to b n hb]
  show wpAny _ _ (pure ((0 : Int), (1 : Int), Builtin.Slice.slicePlaces 0 (b : Int) 1)) _ _ s
  rw [places_to b]
  exact wpAny_pure h
theorem getItem_tuple_to {t sl : Addr} {items : Array Value} {b : Nat} {u : Tok} {Q : Value → Shared → Prop} (ht : IsTup s.heap t items) (hs : s.heap.IsSliceOf sl .none (.int b u) .none) (hb : b ≤ items.size)
    (hall : b = items.size → Q (.ref t) s) (h : b ≠ items.size → Q (.ref s.heap.objs.size) { s with heap := s.heap.push { cls := .type "tuple", data := .seq (items.toList.take b).toArray } })
    (hsz : items.size ≤ sizeLine := by size_fits) : wpAny (model prog w) A (getItem (.ref t) (.ref sl)) Q E s := by
  have hdrop : sizeOk (.seq (items.toList.take b).toArray) := by
    show (items.toList.take b).toArray.size ≤ sizeLine
    rw [List.size_toArray, List.length_take, Array.length_toList]
    omega
  obtain ⟨os, hos, hcs, hds⟩ := id hs
  have hTs : s.TypeIs (.ref sl) "slice" := ⟨os, hos, hcs⟩
  unfold getItem
  try with_reducible refine wpAny_holding ?_
  first | refine wpAny_bind (wpAny_pure ?_) | skip
  refine wpAny_bind (wpAny_sequenceKey ht.typeIs (by decide) ?_)
  refine wpAny_bind (wpAny_callSpecial?_slot (name := Str.ofString "__getitem__") ht.typeIs slot_tuple_getitem
    (wpAny_call_entry slot_tuple_getitem ht.typeIs entry_tuple_getitem ?_ (args_tuple_getitem _ _)))
  show wpAny _ _ (Builtin.Tuple.tupleItemsOf (.ref t) >>= _) _ _ s
  refine wpAny_bind (tupleItemsOf_ ht ?_)
  refine wpAny_bind (wpAny_typeOf hTs ?_)
  rw [if_pos (by decide)]
  refine wpAny_bind (sliceApplied_to hs hb ?_)
  show wpAny _ _ (if ((0 : Int) == 0 && (1 : Int) == 1 && b == items.size) = true then _ else _) _ _ s
  by_cases q : b = items.size
  · rw [if_pos (by simp [q])]
    obtain ⟨o, ho, hc, n, hd⟩ := id ht
    unfold Builtin.Tuple.tupleIsExact
    refine wpAny_bind (wpAny_bind (wpAny_typeOf ht.typeIs (wpAny_pure ?_)))
    rw [if_pos (by decide)]
    exact wpAny_bind (wpAny_rule (wpAny_bind (wpAny_pure (wpAny_pure ⟨_, rfl, wpAny_pure (hall q)⟩))))
  · rw [if_neg (by simp [q]), pick_to items b hb]
    first
      | exact wpAny_bind (m := Builtin.Tuple.tupleExact _) (wpAny_newObj_type (wpAny_pure ⟨_, rfl, wpAny_pure (h q)⟩) hdrop)
      | exact wpAny_bind (m := Builtin.Tuple.tupleExact _) (wpAny_newObj_type (wpAny_bind (wpAny_pure (wpAny_pure ⟨_, rfl, wpAny_pure (h q)⟩))) hdrop)
      | exact wpAny_bind (wpAny_bind (m := Builtin.Tuple.tupleExact _) (wpAny_newObj_type (wpAny_pure (wpAny_pure ⟨_, rfl, wpAny_pure (h q)⟩)) hdrop))
end
theorem slicePick_upto' (items : Array Value) (b : Nat) : slicePick items none (some b) none = (items.toList.take b).toArray := by
  by_cases hb : b ≤ items.size
  · exact slicePick_upto items b hb
  · have h2 := slicePick_upto items items.size (Nat.le_refl _)
    rw [List.take_of_length_le (by simp)] at h2
    rw [List.take_of_length_le (by simp; omega), ← h2]
    unfold slicePick
    have e : sliceBounds none (some (b : Int)) none items.size = sliceBounds none (some (items.size : Int)) none items.size := by
      simp only [sliceBounds, Option.getD_none]
      have h2 : ¬ ((b : Int) < 0) := by omega
      have h3 : ¬ ((items.size : Int) < 0) := by omega
      simp only [h2, h3, if_false, show (1 : Int) > 0 by decide, if_true]
      congr 1
      congr 1; omega
    rw [e]
section
variable {c : Cx} {σ : Sg} {F : List (Addr × LO)} {s s₁ : Shared} {K : V → Sg → Prop} {N : Sg → Prop} {R : V → Sg → Prop} {loc : List (Str × V)} {led : List (Addr × LO)} {g : Array GenState}

/-- t[:n] of a tuple -/
theorem Ev.slT {value e : Expr} {p pos : Pos} (h : Ev c σ value (fun a σ₁ => ∃ us, a = .t us ∧ Ev c σ₁ e (fun b σ₂ => ∃ n : Nat, b = vI n ∧ n ≤ us.length ∧ us.length ≤ 1000 ∧ K (.t (us.take n)) σ₂)))
    (hs : ∀ l t, subscripted (.Slice none (some e) none p) false (.ref l) (.ref t) = operate [.ref t, .ref l] (getItem (.ref l) (.ref t)) := by walk_at "u") :
    Ev c σ (.Subscript value (.Slice none (some e) none p) pos) K := fun F s S => by
  refine Subscript_ (wpAny_mono (h F s S) (fun v s₁ hx => ?_) fun _ _ x => x)
  obtain ⟨a, σ₁, S₁, k₁, ha, us, ea, h₁⟩ := hx
  refine wpAny_Slice (wpAny_evalPart_none (wpAny_evalPart_some (wpAny_mono (h₁ F s₁ S₁) (fun w s₂ hx => ?_) fun _ _ x => x)))
  obtain ⟨b, σ₂, S₂, k₂, hb, n, eb, hn, hl, h₂⟩ := hx
  refine wpAny_evalPart_none ?_
  subst ea eb
  obtain ⟨t, rfl⟩ := is_int hb
  obtain ⟨x, items, rfl, ht, hi⟩ := ha.mono k₂
  have hsz : items.size = us.length := by rw [← hi]; simp
  have ht' := ht.push { cls := .type "slice", data := .fields #[.none, .int (n : Int) t, .none] }
  refine tail_any ht'.typeIs slot_tuple_getitem.lookup (getItem_tuple_to ht' (Heap.IsSliceOf.new ..) (by omega) (fun q => ?_) (fun q => ?_) (by rw [sizeLine_eq]; omega)) (hs _ _)
  · refine ⟨.t (us.take n), _, S₂.push _, (k₁.trans k₂).trans (Kp.push _ _).tk, ⟨x, items, rfl, ht', ?_⟩, h₂⟩
    rw [List.take_of_length_le (by omega)]; exact hi
  · refine ⟨.t (us.take n), _, (S₂.push _).push _, ((k₁.trans k₂).trans (Kp.push _ _).tk).trans (Kp.push _ _).tk, ⟨_, _, rfl, ⟨_, Heap.get?_push_size _ rfl, rfl, _, rfl⟩, ?_⟩, h₂⟩
    simp [← hi]
/-- l[:n] of a list -/
theorem Ev.slL {value e : Expr} {p pos : Pos} (h : Ev c σ value (fun a σ₁ => ∃ d us, a = vR d ∧ us.length ≤ 1000 ∧ HasL c σ₁ d us ∧ Ev c σ₁ e (fun b σ₂ => ∃ n : Nat, b = vI n ∧ HasL c σ₂ d us ∧ ∀ x, K (vR x) ⟨σ₂.loc, (x, .pl (us.take n)) :: σ₂.led, σ₂.gens⟩)))
    (hs : ∀ l t, subscripted (.Slice none (some e) none p) false (.ref l) (.ref t) = operate [.ref t, .ref l] (getItem (.ref l) (.ref t)) := by walk_at "u") :
    Ev c σ (.Subscript value (.Slice none (some e) none p) pos) K := fun F s S => by
  refine Subscript_ (wpAny_mono (h F s S) (fun v s₁ hx => ?_) fun _ _ x => x)
  obtain ⟨a, σ₁, S₁, k₁, ha, d, us, ea, hl, hat, h₁⟩ := hx
  refine wpAny_Slice (wpAny_evalPart_none (wpAny_evalPart_some (wpAny_mono (h₁ F s₁ S₁) (fun w s₂ hx => ?_) fun _ _ x => x)))
  obtain ⟨b, σ₂, S₂, k₂, hb, n, eb, hat₂, h₂⟩ := hx
  refine wpAny_evalPart_none ?_
  subst ea eb
  obtain ⟨t, rfl⟩ := is_int hb
  cases is_ref ha
  have S₃ := S₂.push { cls := .type "slice", data := .fields #[.none, .int (n : Int) t, .none] }
  obtain ⟨items, hL, hall⟩ := hat₂.at S₃
  have hsz := hall.length
  simp only [Array.length_toList] at hsz
  refine tail_any hL.typeIs slot_list_getitem.lookup (wpAny_getItem_list_slice (lo := none) (hi := some (n : Int)) (st := none) hL (Heap.IsSliceOf.new ..) .none (.int _ _) .none (by simp) ?_ (by rw [sizeLine_eq]; omega)) (hs _ _)
  rw [slicePick_upto']
  refine ⟨vR _, _, St.add (tk := s₂.toks) (S₃.push _) (Nat.le_refl _) S₃ ?_, ((k₁.trans k₂).trans (Kp.push _ _).tk).trans (Kp.push _ _).tk, rfl, h₂ _⟩
  exact ⟨_, ⟨_, Heap.get?_push_size _ rfl⟩, by simpa using (hall.take n).mono (Kp.push _ _).tk⟩
/-- l[n:] of a list -/
theorem Ev.slF {value e : Expr} {p pos : Pos} (h : Ev c σ value (fun a σ₁ => ∃ d us, a = vR d ∧ us.length ≤ 1000 ∧ HasL c σ₁ d us ∧ Ev c σ₁ e (fun b σ₂ => ∃ n : Nat, b = vI n ∧ n ≤ us.length ∧ HasL c σ₂ d us ∧ ∀ x, K (vR x) ⟨σ₂.loc, (x, .pl (us.drop n)) :: σ₂.led, σ₂.gens⟩)))
    (hs : ∀ l t, subscripted (.Slice (some e) none none p) false (.ref l) (.ref t) = operate [.ref t, .ref l] (getItem (.ref l) (.ref t)) := by walk_at "u") :
    Ev c σ (.Subscript value (.Slice (some e) none none p) pos) K := fun F s S => by
  refine Subscript_ (wpAny_mono (h F s S) (fun v s₁ hx => ?_) fun _ _ x => x)
  obtain ⟨a, σ₁, S₁, k₁, ha, d, us, ea, hl, hat, h₁⟩ := hx
  refine wpAny_Slice (wpAny_evalPart_some (wpAny_mono (h₁ F s₁ S₁) (fun w s₂ hx => ?_) fun _ _ x => x))
  obtain ⟨b, σ₂, S₂, k₂, hb, n, eb, hn, hat₂, h₂⟩ := hx
  refine wpAny_evalPart_none (wpAny_evalPart_none ?_)
  subst ea eb
  obtain ⟨t, rfl⟩ := is_int hb
  cases is_ref ha
  have S₃ := S₂.push { cls := .type "slice", data := .fields #[.int (n : Int) t, .none, .none] }
  obtain ⟨items, hL, hall⟩ := hat₂.at S₃
  have hsz := hall.length
  simp only [Array.length_toList] at hsz
  refine tail_any hL.typeIs slot_list_getitem.lookup (wpAny_getItem_list_slice (lo := some (n : Int)) (hi := none) (st := none) hL (Heap.IsSliceOf.new ..) (.int _ _) .none .none (by simp) ?_ (by rw [sizeLine_eq]; omega)) (hs _ _)
  rw [slicePick_from items n (by omega)]
  refine ⟨vR _, _, St.add (tk := s₂.toks) (S₃.push _) (Nat.le_refl _) S₃ ?_, ((k₁.trans k₂).trans (Kp.push _ _).tk).trans (Kp.push _ _).tk, rfl, h₂ _⟩
  exact ⟨_, ⟨_, Heap.get?_push_size _ rfl⟩, by simpa using (hall.drop n).mono (Kp.push _ _).tk⟩
end
end

section
open PySem PySem.Calls PyProof.Rows

noncomputable def gtF (a b : UInt64) : Bool := Float64.cmp a b == some Ordering.gt
noncomputable def ltF (a b : UInt64) : Bool := Float64.cmp a b == some Ordering.lt
noncomputable def eqF (a b : UInt64) : Bool := Float64.cmp a b == some Ordering.eq
noncomputable def best3 (q : UInt64 → UInt64 → Bool) (a b d : UInt64) : UInt64 := if q b a then (if q d b then d else b) else (if q d a then d else a)
noncomputable def fltAt (a b d : UInt64) : Nat → UInt64
  | 0 => a
  | 1 => b
  | _ => d
noncomputable def fltItems (a b d : UInt64) (t u x : Tok) : Array Value := #[.float a t, .float b u, .float d x]
section
variable {c : Cx} {σ : Sg} {F : List (Addr × LO)} {s s₁ : Shared} {K : V → Sg → Prop} {N : Sg → Prop} {R : V → Sg → Prop} {loc : List (Str × V)} {led : List (Addr × LO)} {g : Array GenState}
variable {a b d : UInt64}
theorem Op2.addF (hp : c.pos = true) (h : K (vF (Float64.add a b)) σ) : Op2 c σ (vF a) (vF b) (binaryOp .Add) K := fun F s v w S hv hw => by
  obtain ⟨t, rfl⟩ := is_flt hv; obtain ⟨u, rfl⟩ := is_flt hw
  exact AutoFloatOps.add_0 (Pv.tok S h (er_flt (S.tp hp)))
theorem Op2.subF (hp : c.pos = true) (h : K (vF (Float64.sub a b)) σ) : Op2 c σ (vF a) (vF b) (binaryOp .Sub) K := fun F s v w S hv hw => by
  obtain ⟨t, rfl⟩ := is_flt hv; obtain ⟨u, rfl⟩ := is_flt hw
  exact AutoFloatOps.sub_0 (Pv.tok S h (er_flt (S.tp hp)))
theorem Op2.divF (hz : Float64.isZero b = false) (hp : c.pos = true) (h : K (vF (Float64.div a b)) σ) : Op2 c σ (vF a) (vF b) (binaryOp .Div) K := fun F s v w S hv hw => by
  obtain ⟨t, rfl⟩ := is_flt hv; obtain ⟨u, rfl⟩ := is_flt hw
  exact AutoFloatOps.truediv_1 (by simp [hz]) (Pv.tok S h (er_flt (S.tp hp)))
theorem Op2.modF (hz : Float64.isZero b = false) (hp : c.pos = true) (h : K (vF (Float64.divmod a b).snd) σ) : Op2 c σ (vF a) (vF b) (binaryOp .Mod) K := fun F s v w S hv hw => by
  obtain ⟨t, rfl⟩ := is_flt hv; obtain ⟨u, rfl⟩ := is_flt hw
  exact AutoFloatOps.mod_1 (by simp [hz]) (Pv.tok S h (er_flt (S.tp hp)))
theorem Op2.mulFI {n : Int} (hz : Float64.isInf (Float64.ofInt n) = false) (hp : c.pos = true) (h : K (vF (Float64.mul a (Float64.ofInt n))) σ) : Op2 c σ (vF a) (vI n) (binaryOp .Mult) K := fun F s v w S hv hw => by
  obtain ⟨t, rfl⟩ := is_flt hv; obtain ⟨u, rfl⟩ := is_int hw
  exact AutoFloatOps.mul_fi_1 (by simp [hz]) (Pv.tok S h (er_flt (S.tp hp)))
theorem Op2.eqF (h : K (vB (Mine.eqF a b)) σ) : Op2 c σ (vF a) (vF b) (compareOp .Eq) K := fun F s v w S hv hw => by
  obtain ⟨t, rfl⟩ := is_flt hv; obtain ⟨u, rfl⟩ := is_flt hw
  exact AutoFloatOps.eq_0 (Pv.here S h rfl)
noncomputable def fracF (n m : Int) : UInt64 := Float64.ofFrac (decide (n < 0) != decide (m < 0)) n.natAbs m.natAbs
theorem Op2.divII {n m : Int} (h0 : m ≠ 0) (hz : Float64.isInf (fracF n m) = false) (hp : c.pos = true) (h : K (vF (fracF n m)) σ) : Op2 c σ (vI n) (vI m) (binaryOp .Div) K := fun F s v w S hv hw => by
  obtain ⟨t, rfl⟩ := is_int hv; obtain ⟨u, rfl⟩ := is_int hw
  exact AutoIntOps.truediv_2 (by simpa using h0) (by unfold fracF at hz; simp [hz]) (Pv.tok S h (er_flt (S.tp hp)))
theorem OpL.round {sg : Bool} {m : Nat} {e : Int} (hd : Float64.decode a = .fin sg m e) (h : K (vI (Float64.nearestOf sg m e)) σ) : OpL c σ [vF a] (fun vs => call (.builtin "round") vs) K := fun F s vs S hx => by
  obtain ⟨v, rfl, hv⟩ := isAll1 hx
  obtain ⟨t, rfl⟩ := is_flt hv
  exact Flt.round_via1 (call_gives PySem.F.slot_float_round (typeIs_float s a t) PySem.F.entry_float_round (PySem.F.args_float_round_1 _) (Flt.gives_round t hd) (Pv.tok S h rfl))

theorem best3_at {q : UInt64 → UInt64 → Bool} {t u x : Tok} {v : Value} (nt : t ≠ 0) (nu : u ≠ 0) (nx : x ≠ 0) (h : (fltItems a b d t u x)[argBest (fun i j => q (fltAt a b d i) (fltAt a b d j)) 2]? = some v) : er v = .float (best3 q a b d) 1 := by
  unfold best3
  by_cases hba : q b a = true
  · by_cases hc : q d b = true
    · have e : argBest (fun i j => q (fltAt a b d i) (fltAt a b d j)) 2 = 2 := by simp [argBest, fltAt, hba, hc]
      rw [e] at h; simp [fltItems] at h; subst h; simp [er, hba, hc, nt, nu, nx]
    · have e : argBest (fun i j => q (fltAt a b d i) (fltAt a b d j)) 2 = 1 := by simp [argBest, fltAt, hba, hc]
      rw [e] at h; simp [fltItems] at h; subst h; simp [er, hba, hc, nt, nu, nx]
  · by_cases hc : q d a = true
    · have e : argBest (fun i j => q (fltAt a b d i) (fltAt a b d j)) 2 = 2 := by simp [argBest, fltAt, hba, hc]
      rw [e] at h; simp [fltItems] at h; subst h; simp [er, hba, hc, nt, nu, nx]
    · have e : argBest (fun i j => q (fltAt a b d i) (fltAt a b d j)) 2 = 0 := by simp [argBest, fltAt, hba, hc]
      rw [e] at h; simp [fltItems] at h; subst h; simp [er, hba, hc, nt, nu, nx]
theorem flt_at {t u x : Tok} {i : Nat} {v : Value} (h : (fltItems a b d t u x)[i]? = some v) : ∃ t', v = .float (fltAt a b d i) t' := by
  match i, h with
  | 0, h => exact ⟨t, (Option.some.inj h).symm⟩
  | 1, h => exact ⟨u, (Option.some.inj h).symm⟩
  | 2, h => exact ⟨x, (Option.some.inj h).symm⟩
  | i + 3, h => simp [fltItems] at h
theorem OpL.max3 (hh : c.A.handled = none) (h : K (vF (best3 gtF a b d)) σ) : OpL c σ [vF a, vF b, vF d] (fun vs => call (.builtin "max") vs) K := fun F s vs S hx => by
  obtain ⟨v1, v2, v3, rfl, h1, h2, h3⟩ := isAll3 hx
  obtain ⟨t, rfl, nt⟩ := is_fltT h1; obtain ⟨u, rfl, nu⟩ := is_fltT h2; obtain ⟨x, rfl, nx⟩ := is_fltT h3
  have hT : (s.heap.push { cls := .type "tuple", data := .seq (fltItems a b d t u x) }).IsTuple s.heap.objs.size (fltItems a b d t u x) := ⟨_, Heap.get?_push_size _ rfl, rfl, 0, rfl⟩
  refine wpAny_with_toks (Nat.le_refl s.toks) (call_max_three (wpAny_pyIter_tuple hT ?_))
  have hsz : (s.heap.push { cls := .type "tuple", data := .seq (fltItems a b d t u x) }).objs.size = s.heap.objs.size + 1 := Heap.size_push ..
  refine ⟨_, [_, s.heap.objs.size], [_], _, _, _, fun i j => gtF (fltAt a b d i) (fltAt a b d j), rfl, Walks.tuple (A := c.A.in1) hh _ s.heap.objs.size (fun q => Nat.ne_of_lt (Nat.lt_succ_self _) (q.trans hsz)) (fltItems a b d t u x),
    ⟨⟨_, Heap.get?_push_size _ rfl, rfl, rfl⟩, hT.push _⟩, fun d hd => ?_, by simp [fltItems], fun i j vi vj s Q E hi hj hQ => ?_, fun v h' tk hP hk => ?_⟩
  · show d < ((s.heap.push _).push _).objs.size
    rw [Heap.size_push]
    rcases List.mem_cons.mp hd with rfl | hd
    · exact Nat.lt_succ_self _
    · rcases List.mem_cons.mp hd with rfl | hd
      · exact Nat.lt_succ_of_lt (Nat.lt_of_lt_of_eq (Nat.lt_succ_self _) hsz.symm)
      · cases hd
  · obtain ⟨t1, rfl⟩ := flt_at hi
    obtain ⟨t2, rfl⟩ := flt_at hj
    exact AutoFloatOps.gt_0 hQ
  · intro ht
    have hold : Kp s.heap h' := fun d o e => by
      refine hk d o (fun hm => ?_) (Heap.get?_push_of_some _ (Heap.get?_push_of_some _ e))
      rcases List.mem_cons.mp hm with e1 | hm
      · have := Heap.lt_size e; have e2 : d = s.heap.objs.size + 1 := e1.trans hsz; rw [e2] at this; exact Nat.lt_irrefl _ (Nat.lt_of_succ_lt this)
      · cases hm
    have hP' : (fltItems a b d t u x)[argBest (fun i j => gtF (fltAt a b d i) (fltAt a b d j)) 2]? = some v := hP
    exact ⟨vF (best3 gtF a b d), _, S.ext hold ht, hold.tk, best3_at nt nu nx hP', h⟩
theorem OpL.min3 (hh : c.A.handled = none) (h : K (vF (best3 ltF a b d)) σ) : OpL c σ [vF a, vF b, vF d] (fun vs => call (.builtin "min") vs) K := fun F s vs S hx => by
  obtain ⟨v1, v2, v3, rfl, h1, h2, h3⟩ := isAll3 hx
  obtain ⟨t, rfl, nt⟩ := is_fltT h1; obtain ⟨u, rfl, nu⟩ := is_fltT h2; obtain ⟨x, rfl, nx⟩ := is_fltT h3
  have hT : (s.heap.push { cls := .type "tuple", data := .seq (fltItems a b d t u x) }).IsTuple s.heap.objs.size (fltItems a b d t u x) := ⟨_, Heap.get?_push_size _ rfl, rfl, 0, rfl⟩
  refine wpAny_with_toks (Nat.le_refl s.toks) (call_min_three (wpAny_pyIter_tuple hT ?_))
  have hsz : (s.heap.push { cls := .type "tuple", data := .seq (fltItems a b d t u x) }).objs.size = s.heap.objs.size + 1 := Heap.size_push ..
  refine ⟨_, [_, s.heap.objs.size], [_], _, _, _, fun i j => ltF (fltAt a b d i) (fltAt a b d j), rfl, Walks.tuple (A := c.A.in1) hh _ s.heap.objs.size (fun q => Nat.ne_of_lt (Nat.lt_succ_self _) (q.trans hsz)) (fltItems a b d t u x),
    ⟨⟨_, Heap.get?_push_size _ rfl, rfl, rfl⟩, hT.push _⟩, fun d hd => ?_, by simp [fltItems], fun i j vi vj s Q E hi hj hQ => ?_, fun v h' tk hP hk => ?_⟩
  · show d < ((s.heap.push _).push _).objs.size
    rw [Heap.size_push]
    rcases List.mem_cons.mp hd with rfl | hd
    · exact Nat.lt_succ_self _
    · rcases List.mem_cons.mp hd with rfl | hd
      · exact Nat.lt_succ_of_lt (Nat.lt_of_lt_of_eq (Nat.lt_succ_self _) hsz.symm)
      · cases hd
  · obtain ⟨t1, rfl⟩ := flt_at hi
    obtain ⟨t2, rfl⟩ := flt_at hj
    exact AutoFloatOps.lt_0 hQ
  · intro ht
    have hold : Kp s.heap h' := fun d o e => by
      refine hk d o (fun hm => ?_) (Heap.get?_push_of_some _ (Heap.get?_push_of_some _ e))
      rcases List.mem_cons.mp hm with e1 | hm
      · have := Heap.lt_size e; have e2 : d = s.heap.objs.size + 1 := e1.trans hsz; rw [e2] at this; exact Nat.lt_irrefl _ (Nat.lt_of_succ_lt this)
      · cases hm
    have hP' : (fltItems a b d t u x)[argBest (fun i j => ltF (fltAt a b d i) (fltAt a b d j)) 2]? = some v := hP
    exact ⟨vF (best3 ltF a b d), _, S.ext hold ht, hold.tk, best3_at nt nu nx hP', h⟩
/-- x, y, z = e -/
theorem Ex.unp3 {x y z : Str} {px py pz p' p : Pos} {k : Nat} {e : Expr} (hA : c.A.handled = none) (h : Ev c σ e (fun u σ' => ∃ v1 v2 v3, u = .t [v1, v2, v3] ∧ N ⟨(z, .p v3) :: (y, .p v2) :: (x, .p v1) :: σ'.loc, σ'.led, σ'.gens⟩))
    (hx : StN c x := by walk_at "o") (hy : StN c y := by walk_at "o") (hz : StN c z := by walk_at "o")
    (hs : swapsWithSole [.Tuple [.Name x px, .Name y py, .Name z pz] k p'] e p.line c.env = pure false := by rfl) (hw : swappedStores [.Tuple [.Name x px, .Name y py, .Name z pz] k p'] e c.env = pure none := by rfl) :
    Ex c σ (.Assign [.Tuple [.Name x px, .Name y py, .Name z pz] k p'] e p) N R := fun F s S => by
  refine wpAny_Assign_stores (wpAny_mono (h F s S) (fun v s₁ hx => ?_) fun _ _ x => x) hs hw
  obtain ⟨u, σ₁, S₁, k₁, hu, v1, v2, v3, eu, h₁⟩ := hx
  subst eu
  obtain ⟨t, items, rfl, ht, hi⟩ := hu
  obtain ⟨w1, w2, w3, hw⟩ : ∃ w1 w2 w3, items.toList = [w1, w2, w3] := leq3 (by have := congrArg List.length hi; simpa using this)
  rw [hw] at hi
  simp only [List.map_cons, List.map_nil, List.cons.injEq, and_true] at hi
  show wpAny _ _ (assign (.Tuple [.Name x px, .Name y py, .Name z pz] k p') c.env (.ref t)) _ _ s₁
  refine assign_Tuple_tuple hA ht (by show 3 = _; rw [← Array.length_toList, hw]; rfl) rfl fun h' he => ?_
  have hkp : Kp s₁.heap h' := fun b o e => he b o (fun q => Nat.lt_irrefl _ (q ▸ Heap.lt_size e)) e
  rw [hw]
  have S₂ : St c σ₁ F { s₁ with heap := h' } := S₁.ext (tk := s₁.toks) hkp
  show wpAny _ _ (assignInOrder [assign (.Name x px) c.env, assign (.Name y py) c.env, assign (.Name z pz) c.env] [w1, w2, w3]) _ _ _
  unfold assignInOrder
  refine wpAny_bind (wpAny_holding (wpAny_assign_Name (hx.store (u := .p v1) S₂ hi.1 fun s₃ S₃ k₃ => ?_)))
  unfold assignInOrder
  refine wpAny_bind (wpAny_holding (wpAny_assign_Name (hy.store (u := .p v2) S₃ hi.2.1 fun s₄ S₄ k₄ => ?_)))
  unfold assignInOrder
  refine wpAny_bind (wpAny_holding (wpAny_assign_Name (hz.store (u := .p v3) S₄ hi.2.2 fun s₅ S₅ k₅ => ?_)))
  unfold assignInOrder
  exact wpAny_pure ⟨_, S₅, ((k₁.trans hkp.tk).trans k₃).trans (k₄.trans k₅), h₁⟩
end
end

open PySem
local macro_rules | `(tactic| walk_at "s") => `(tactic| first
  | ((with_reducible show Ev _ _ (Expr.Name _ _) _); refine Ev.nm rfl ?_)
  | ((with_reducible show Ev _ _ (Expr.Name _ _) _); refine Ev.cl rfl ?_)
  | ((with_reducible show Ev _ _ (Expr.Constant (Const.int _) _ _) _); refine Ev.int ?_)
  | ((with_reducible show Ev _ _ (Expr.BinOp _ _ _ _) _); refine Ev.bin ?_)
  | ((with_reducible show Ev _ _ (Expr.Subscript _ _ _) _); refine Ev.sub ?_)
  | ((with_reducible show Ev _ _ (Expr.Compare _ [_] [_] _) _); refine Ev.cmp ?_)
  | ((with_reducible show Ev _ _ (Expr.UnaryOp _ _ _) _); refine Ev.un ?_)
  | ((with_reducible show Ev _ _ (Expr.Constant (Const.str _) _ _) _); refine Ev.str ?_)
  | ((with_reducible show Ev _ _ (Expr.Constant (Const.float _) _ _) _); refine Ev.flt (by assumption) ?_)
  | ((with_reducible show Op2 _ _ (vF _) (vF _) (binaryOp Operator.Add) _); refine Op2.addF (by assumption) ?_)
  | ((with_reducible show Op2 _ _ (vF _) (vF _) (binaryOp Operator.Sub) _); refine Op2.subF (by assumption) ?_)
  | ((with_reducible show Op2 _ _ (vF _) (vF _) (compareOp CmpOp.Eq) _); refine Op2.eqF ?_)
  | ((with_reducible show EvL _ _ (_ :: _) _); refine EvL.cons ?_)
  | ((with_reducible show EvL _ _ [] _); refine EvL.nil ?_)
  | ((with_reducible show Op2 _ _ (vI _) (vI _) (binaryOp Operator.Add) _); refine Op2.addI ?_)
  | ((with_reducible show Op2 _ _ (vI _) (vI _) (binaryOp Operator.Sub) _); refine Op2.subI ?_)
  | ((with_reducible show Op2 _ _ (vI _) (vI _) (binaryOp Operator.BitAnd) _); refine Op2.andI ?_)
  | ((with_reducible show Op2 _ _ (vI _) (vI _) (binaryOp Operator.BitOr) _); refine Op2.orI ?_)
  | ((with_reducible show Op2 _ _ (vI _) (vI _) (compareOp CmpOp.LtE) _); refine Op2.leI ?_)
  | ((with_reducible show Op2 _ _ (vI _) (vI _) (compareOp CmpOp.Eq) _); refine Op2.eqI ?_)
  | ((with_reducible show Op2 _ _ (vI _) (vI _) (compareOp CmpOp.Gt) _); refine Op2.gtI ?_)
  | ((with_reducible show Op1 _ _ (vI _) (unaryOp UnaryOp.Invert) _); refine Op1.invI ?_)
  | ((with_reducible show Op2 _ _ (vI _) (vI _) (binaryOp Operator.RShift) _); refine Op2.shrI (by omega) ?_)
  | ((with_reducible show EvT _ _ (Expr.Compare _ [_] [_] _) _); refine EvT.cmp ?_)
  | ((with_reducible show EvT _ _ (Expr.BoolOp _ _ _) _); refine EvT.bop ?_)
  | ((with_reducible show EvT _ _ (Expr.UnaryOp UnaryOp.Not _ _) _); refine EvT.not ?_)
  | ((with_reducible show EvT _ _ (Expr.BinOp _ _ _ _) _); refine EvT.val ?_)
  | ((with_reducible show EvA _ _ BoolOp.And (_ :: _) _); refine EvA.andCons ?_)
  | ((with_reducible show EvA _ _ BoolOp.And [] _); refine EvA.andNil ?_)
  | ((with_reducible show EvA _ _ BoolOp.Or (_ :: _) _); refine EvA.orCons ?_)
  | ((with_reducible show EvA _ _ BoolOp.Or [] _); refine EvA.orNil ?_)
  | ((with_reducible show OpT _ _ (vB _) _); refine OpT.bool ?_)
  | ((with_reducible show OpT _ _ (vI _) _); refine OpT.int ?_)
  | ((with_reducible show ExS _ _ (_ :: _) _ _); refine ExS.cons ?_)
  | ((with_reducible show Ex _ _ (Stmt.If _ _ _ _) _ _); refine Ex.ite ?_)
  | ((with_reducible show Ex _ _ (Stmt.Assign [Expr.Name _ _] _ _) _ _); refine Ex.asg ?_)
  | ((with_reducible show Ex _ _ (Stmt.Return (some _) _) _ _); refine Ex.ret ?_)
  | ((with_reducible show Ex _ _ (Stmt.Assign [Expr.Subscript _ _ _] _ _) _ _); refine Ex.setI ?_))
section
open PySem PySem.Calls PyProof.Rows

noncomputable abbrev one64 : UInt64 := 0x3ff0000000000000
noncomputable def spV (sp : List (Int × Int)) : List V := sp.map fun p => .t [.int p.1 0, .int p.2 0, .float one64 1]
noncomputable def bor (a b : Int) : Int := Builtin.bitOr a b
noncomputable def tie (sp : List (Int × Int)) (k j : Nat) : Bool :=
  let way := ((sp.getD k (0, 0)).1 - (sp.getD j (0, 0)).1).fmod 24
  decide (min way (24 - way) ≤ (sp.getD k (0, 0)).2 + (sp.getD j (0, 0)).2)
noncomputable def setTie (net : List Int) (k j : Nat) : List Int :=
  let n1 := net.set k (bor (nat net k) (2 ^ j))
  n1.set j (bor (nat n1 j) (2 ^ k))
noncomputable def tiesIn (sp : List (Int × Int)) (k : Nat) (net : List Int) (j : Nat) : List Int := if tie sp k j then setTie net k j else net
noncomputable def tiesK (sp : List (Int × Int)) (net : List Int) (k : Nat) : List Int := (List.range k).foldl (tiesIn sp k) net
noncomputable def ties (sp : List (Int × Int)) : List Int := (List.range 6).foldl (tiesK sp) ((List.range 6).map fun k => 2 ^ k)

section
variable {c : Cx} {σ : Sg} {F : List (Addr × LO)} {s s₁ : Shared} {K : V → Sg → Prop} {N : Sg → Prop} {R : V → Sg → Prop} {loc : List (Str × V)} {led : List (Addr × LO)} {g : Array GenState}
theorem setTie_len {net : List Int} {k j : Nat} : (setTie net k j).length = net.length := by simp [setTie]
theorem tiesIn_len {sp : List (Int × Int)} {net : List Int} {k j : Nat} : (tiesIn sp k net j).length = net.length := by
  unfold tiesIn; split <;> simp [setTie_len]
theorem tiesK_len {sp : List (Int × Int)} {net : List Int} {k : Nat} : (tiesK sp net k).length = net.length := foldl_len (fun _ _ => tiesIn_len) _ _
theorem sp_get {sp : List (Int × Int)} {i : Nat} (h : i < sp.length) : (spV sp)[i]? = some (.t [.int (sp.getD i (0, 0)).1 0, .int (sp.getD i (0, 0)).2 0, .float one64 1]) := by
  unfold spV
  simp [List.getElem?_eq_getElem h, List.getD_eq_getElem?_getD]

theorem FnAt.ties {b : Addr} {sp : List (Int × Int)} (hlen : sp.length = 6) (hr : Room 2 c.A) (hat : HasL c σ b (spV sp)) (h : ∀ a, K (vR a) ⟨σ.loc, (a, .lst ((ties sp).map vI)) :: σ.led, σ.gens⟩) : FnAt c σ (fn 14) [vR b] K := by
  refine FnAt.body (names := ["spots"]) (hr.mono (by decide)) (fun F s ad cd S => ?_) (hb := fun pm cd doc => len1 fun v => rfl) (hn := by decide)
  have hr' : Room 1 (callee c (fn 14) s ad cd).A := hr.deeper
  have hA : (callee c (fn 14) s ad cd).A.handled = none := hr.1
  have hold : ∀ σ', HasL (callee c (fn 14) s ad cd) σ' b (spV sp) := fun σ' => .inl (hat.at S)
  refine ExS.cons (Ex.comp [] hA (Ev.callT "range" (EvL.cons (Ev.int (EvL.nil (OpL.range fun a => ?_))))) (closureFor_none (by decide)) (fun n a e => by cases e))
  refine ⟨upTo 6, _, [], fun i acc σ₂ => acc = (List.range i).map (fun k => vI (2 ^ k)) ∧ σ₂.led = [] ∧ σ₂.gens = σ.gens, Src.range (by decide) (by decide), by decide, trivial, ⟨rfl, rfl, rfl⟩, ?_, ?_⟩
  · rintro F s₁ S₁ C i u hu acc σ₂ ⟨rfl, hl, hg⟩
    obtain ⟨hi, rfl⟩ := upTo_get hu
    refine EvIf.nil ⟨(fun h => nomatch h), fun _ => Ev.callF 6 (EvL.cons (Ev.int (EvL.cons (Ev.nm rfl (EvL.nil (FnAt.lshift hr' (by omega) (by omega) ?_))))))⟩
    exact ⟨by rw [List.range_succ]; simp, hl, hg⟩
  · rintro acc ⟨l2, d2, g2⟩ ⟨rfl, hl, hg⟩
    dsimp only at hl hg
    subst hl hg
    refine ⟨rfl, fun D => ?_⟩
    dsimp only
    refine ExS.cons (Ex.for_ (fun i σ' => ∃ lo, lo.isL (((List.range i).foldl (tiesK sp) ((List.range 6).map fun k => 2 ^ k)).map vI) ∧ σ'.Has ⟨[("spots", vR b), ("net", vR D)], [(D, lo)], σ.gens⟩)
      (Ev.callT "range" (EvL.cons (Ev.int (EvL.nil (OpL.range fun a => ?_))))))
    dsimp only
    refine ⟨upTo 6, _, ItTo.range hA (by decide) (by decide), ⟨.pl _, .inr ?_, ⟨rfl, rfl, trivial⟩, rfl, rfl⟩, ?_, ?_⟩
    · simp
    · rintro i u hu ⟨l3, d3, g3⟩ ⟨lo, hL, hH⟩
      obtain ⟨hi, rfl⟩ := upTo_get hu
      dsimp only
      refine ExS.has (σ := ⟨[("k", vI i), ("spots", vR b), ("net", vR D)], [(D, lo)], σ.gens⟩) ?_ ⟨⟨rfl, hH.loc⟩, hH.led, hH.gens⟩
      refine ExS.cons (Ex.for_ (fun j σ' => ∃ lo, lo.isL (((List.range j).foldl (tiesIn sp i) ((List.range i).foldl (tiesK sp) ((List.range 6).map fun k => 2 ^ k))).map vI) ∧ σ'.Has ⟨[("k", vI i), ("spots", vR b), ("net", vR D)], [(D, lo)], σ.gens⟩)
        (Ev.callT "range" (EvL.cons (Ev.nm rfl (EvL.nil (OpL.range fun a => ?_))))))
      dsimp only
      refine ⟨_, _, ItTo.range hA (by omega) (by omega), ⟨lo, hL, ⟨rfl, rfl, rfl, trivial⟩, rfl, rfl⟩, ?_, ?_⟩
      · rintro j u hu ⟨l4, d4, g4⟩ ⟨lo, hL, hH⟩
        obtain ⟨hj, rfl⟩ := upTo_get hu
        dsimp only
        refine ExS.has (σ := ⟨[("j", vI j), ("k", vI i), ("spots", vR b), ("net", vR D)], [(D, lo)], σ.gens⟩) ?_ ⟨⟨rfl, hH.loc⟩, hH.led, hH.gens⟩
        have hlen' : ∀ j, ((List.range j).foldl (tiesIn sp i) ((List.range i).foldl (tiesK sp) ((List.range 6).map fun k => (2:Int) ^ k))).length = 6 := fun j => by
          rw [foldl_len (fun _ _ => tiesIn_len), foldl_len (fun _ _ => tiesK_len)]; rfl
        refine ExS.cons (Ex.asg (Ev.callF 7 (EvL.cons (Ev.callF 9 (EvL.cons (Ev.sub (Ev.sub (Ev.nm rfl (Ev.nm rfl (OpS.lstN (hold _) (sp_get (by omega)) ?_ (by omega)))))) )))))
        walk_at "s"
        refine OpS.tup (by decide) rfl ?_
        repeat walk_at "s"
        refine OpS.lstN (hold _) (sp_get (by omega)) ?_ (by omega)
        repeat walk_at "s"
        refine OpS.tup (by decide) rfl ?_
        repeat walk_at "s"
        refine FnAt.sub hr' ?_
        repeat walk_at "s"
        refine FnAt.mod hr' (by decide) ?_
        dsimp only
        repeat walk_at "s"
        refine Ev.callB "min" ?_
        repeat walk_at "s"
        refine OpL.min2 hA ?_
        repeat walk_at "s"
        refine OpS.lstN (hold _) (sp_get (by omega)) ?_ (by omega)
        repeat walk_at "s"
        refine OpS.tup (by decide) rfl ?_
        repeat walk_at "s"
        refine OpS.lstN (hold _) (sp_get (by omega)) ?_ (by omega)
        repeat walk_at "s"
        refine OpS.tup (by decide) rfl ?_
        repeat walk_at "s"
        refine ⟨fun ht => ?_, fun ht => ?_⟩
        · have ht' : tie sp i j = true := ht
          have hL4 := hlen' j
          generalize hnet : (List.range j).foldl (tiesIn sp i) ((List.range i).foldl (tiesK sp) ((List.range 6).map fun k => (2:Int) ^ k)) = net at hL hL4
          repeat walk_at "s"
          refine Ev.callF 8 ?_
          repeat walk_at "s"
          refine OpS.lstN (.inr ⟨lo, hL, .head _⟩) (map_get (by omega)) ?_ (by omega)
          repeat walk_at "s"
          refine Ev.callF 6 ?_
          repeat walk_at "s"
          refine FnAt.lshift hr' (by omega) (by omega) ?_
          repeat walk_at "s"
          refine FnAt.or_ hr' ?_
          repeat walk_at "s"
          refine SetOp.lstN 0 rfl hL (by simp [hL4]; omega) (by omega) ?_
          dsimp only [List.set]
          rw [map_set]
          have hL5 : (net.set i (bor (nat net i) (2 ^ j))).length = 6 := by simp [hL4]
          repeat walk_at "s"
          refine Ev.callF 8 ?_
          repeat walk_at "s"
          refine OpS.lstN (.inr ⟨_, .inl rfl, .head _⟩) (map_get (by simp; omega)) ?_ (by omega)
          repeat walk_at "s"
          refine Ev.callF 6 ?_
          repeat walk_at "s"
          refine FnAt.lshift hr' (by omega) (by omega) ?_
          repeat walk_at "s"
          refine FnAt.or_ hr' ?_
          repeat walk_at "s"
          refine SetOp.lstN 0 rfl (.inl rfl) (by simp [hL4]; omega) (by omega) ?_
          dsimp only [List.set]
          rw [map_set]
          refine ExS.nil (ExS.nil ⟨_, .inl (congrArg LO.lst ?_), ⟨rfl, rfl, rfl, trivial⟩, rfl, rfl⟩)
          rw [foldl_range_succ, hnet]
          simp only [tiesIn, ht', if_true, setTie]
          rfl
        · have ht' : tie sp i j = false := ht
          refine ExS.nil (ExS.nil ⟨lo, ?_, ⟨rfl, rfl, rfl, trivial⟩, rfl, rfl⟩)
          rw [foldl_range_succ]
          simp only [tiesIn, ht', if_false, Bool.false_eq_true]
          exact hL
      · rintro ⟨l4, d4, g4⟩ ⟨lo, hL, hH⟩
        refine ExS.nil ⟨lo, ?_, ⟨hH.loc.2.1, hH.loc.2.2.1, trivial⟩, hH.led, hH.gens⟩
        rw [foldl_range_succ]
        simpa [tiesK] using hL
    · rintro ⟨l3, d3, g3⟩ ⟨lo, hL, hH⟩
      refine ExS.has (σ := ⟨[("net", vR D)], [(D, lo)], σ.gens⟩) ?_ ⟨⟨hH.loc.2.1, trivial⟩, hH.led, hH.gens⟩
      refine ExS.cons (Ex.ret (Ev.toLst 0 rfl hL ?_))
      repeat walk_at "s"
      exact ⟨rfl, h D⟩
end
end

section
open PySem PySem.Calls PyProof.Rows

noncomputable def bit (x : Int) (k : Nat) : Bool := Builtin.bitAnd (x.fdiv (2 ^ k)) 1 != 0
noncomputable def offBad (net : List Int) (near : Int) (j : Nat) : Bool := bit near j && (Builtin.bitAnd near (Builtin.bitNot (nat net j)) != 0)
noncomputable def offQ (net : List Int) (near : Int) : V → Bool
  | .p (.int j _) => offBad net near j.toNat
  | _ => false
noncomputable def offK (net : List Int) (left : Int) (k : Nat) : Int :=
  if bit left k then (if ((upTo 6).filter (offQ net (Builtin.bitAnd (nat net k) left))).isEmpty then left - 1 * 2 ^ k else left) else left
noncomputable def offTurn (net : List Int) (left : Int) (_ : Nat) : Int := (List.range 6).foldl (offK net) left
noncomputable def takenOff (net : List Int) : Bool := (List.range 6).foldl (offTurn net) 63 == 0
section
variable {c : Cx} {σ : Sg} {F : List (Addr × LO)} {s s₁ : Shared} {K : V → Sg → Prop} {N : Sg → Prop} {R : V → Sg → Prop} {loc : List (Str × V)} {led : List (Addr × LO)} {g : Array GenState}


theorem FnAt.takenOff {b : Addr} {net : List Int} (hlen : net.length = 6) (hr : Room 2 c.A) (hat : HasL c σ b (net.map vI)) (h : K (vB (takenOff net)) σ) : FnAt c σ (fn 18) [vR b] K := by
  refine FnAt.body (names := ["net"]) (hr.mono (by decide)) (fun F s ad cd S => ?_) (hb := fun pm cd doc => len1 fun v => rfl) (hn := by decide)
  have hr' : Room 1 (callee c (fn 18) s ad cd).A := hr.deeper
  have hA : (callee c (fn 18) s ad cd).A.handled = none := hr.1
  have hold : ∀ σ', HasL (callee c (fn 18) s ad cd) σ' b (net.map vI) := fun σ' => .inl (hat.at S)
  refine ExS.cons ?_
  repeat walk_at "s"
  refine Ex.for_ (fun t σ' => σ'.Has ⟨[("left", vI ((List.range t).foldl (offTurn net) 63)), ("net", vR b)], [], σ.gens⟩) (Ev.callT "range" (EvL.cons (Ev.int (EvL.nil (OpL.range fun a => ?_)))))
  dsimp only
  refine ⟨upTo 6, _, ItTo.range hA (by decide) (by decide), ⟨⟨rfl, rfl, trivial⟩, rfl, rfl⟩, ?_, ?_⟩
  · rintro t u hu ⟨l3, d3, g3⟩ hH
    obtain ⟨ht, rfl⟩ := upTo_get hu
    dsimp only
    refine ExS.has (σ := ⟨[("left", vI ((List.range t).foldl (offTurn net) 63)), ("net", vR b)], [], σ.gens⟩) ?_ ⟨⟨hH.loc.1, hH.loc.2.1, trivial⟩, hH.led, hH.gens⟩
    generalize hL : (List.range t).foldl (offTurn net) 63 = left0
    repeat walk_at "s"
    refine Ex.for_ (fun k σ' => σ'.Has ⟨[("left", vI ((List.range k).foldl (offK net) left0)), ("net", vR b)], [], σ.gens⟩) (Ev.callT "range" (EvL.cons (Ev.int (EvL.nil (OpL.range fun a => ?_)))))
    dsimp only
    refine ⟨upTo 6, _, ItTo.range hA (by decide) (by decide), ⟨⟨rfl, rfl, trivial⟩, rfl, rfl⟩, ?_, ?_⟩
    · rintro k u hu ⟨l3, d3, g3⟩ hH
      obtain ⟨hk, rfl⟩ := upTo_get hu
      dsimp only
      refine ExS.has (σ := ⟨[("k", vI k), ("left", vI ((List.range k).foldl (offK net) left0)), ("net", vR b)], [], σ.gens⟩) ?_ ⟨⟨rfl, hH.loc⟩, hH.led, hH.gens⟩
      have step := foldl_range_succ (offK net) left0 k
      generalize hL' : (List.range k).foldl (offK net) left0 = left at step ⊢
      repeat walk_at "s"
      refine ⟨fun hb => ?_, fun hb => ?_⟩
      · have hb' : bit left k = true := hb
        refine ExS.cons (Ex.asg ?_ StN.cell)
        refine Ev.callF 5 ?_
        repeat walk_at "s"
        refine OpS.lstN (hold _) (map_get (by omega)) ?_ (by omega)
        repeat walk_at "s"
        refine FnAt.and_ hr' ?_
        repeat walk_at "s"
        refine Ev.comp _ hA (Ev.callT "range" (EvL.cons (Ev.int (EvL.nil (OpL.range fun a => ?_))))) rfl (fun n a => ClIn.get ⟨rfl, rfl, trivial⟩)
        generalize hN : Builtin.bitAnd (nat net k) left = near
        refine CompOk.filter [("near", vI near), ("net", vR b)] (offQ net near) (Src.range (by decide) (by decide)) (by decide) ⟨⟨rfl, by kernel_rfl!, by kernel_rfl!⟩, ⟨rfl, by kernel_rfl!, by kernel_rfl!⟩, trivial⟩ (by simp; decide) rfl (by kernel_rfl!) (by kernel_rfl!) ?_ ?_
        · rintro F s₁ S₁ C u hu
          obtain ⟨j, hju⟩ := List.getElem?_of_mem hu
          obtain ⟨hj, rfl⟩ := upTo_get hju
          dsimp only
          have hne : ∀ sc cl σ', HasL (compCx (callee c (fn 18) s ad cd) sc cl C s₁) σ' b (net.map vI) := fun _ _ σ' => .inl ((hold _).at S₁)
          have hq : offQ net near (vI j) = (bit near j && (Builtin.bitAnd near (Builtin.bitNot (nat net j)) != 0)) := rfl
          refine EvIf.one (EvT.bop (EvA.andCons (EvT.val ?_)))
          repeat walk_at "s"
          refine ⟨fun h1 => ?_, fun h1 => ⟨?_, ⟨rfl, rfl, rfl, trivial⟩, rfl, rfl⟩⟩
          · repeat walk_at "s"
            refine OpS.lstN (hne _ _ _) (map_get (by omega)) ?_ (by omega)
            repeat walk_at "s"
            refine ⟨fun h2 => EvA.andNil ⟨?_, ⟨rfl, rfl, rfl, trivial⟩, rfl, rfl⟩, fun h2 => ⟨?_, ⟨rfl, rfl, rfl, trivial⟩, rfl, rfl⟩⟩
            · exact hq ▸ (Bool.and_eq_true_iff.mpr ⟨h1, h2⟩).symm
            · exact hq ▸ (Bool.and_eq_false_iff.mpr (.inr h2)).symm
          · exact hq ▸ (Bool.and_eq_false_iff.mpr (.inl h1)).symm
        · intro D
          dsimp only
          refine Ev.plst (EvL.nil ⟨by decide, fun D2 => ?_⟩)
          refine Op2.eqNil hr' (.inr ⟨_, .inr rfl, .tail _ (.head _)⟩) (.inr ⟨_, .inr rfl, .head _⟩) ?_
          refine OpT.bool ⟨fun hc => ?_, fun hc => ?_⟩
          · refine ExS.drop ?_ (List.nil_sublist _)
            repeat walk_at "s"
            refine Op2.shlI (by omega) (by omega) (by decide) ?_
            repeat walk_at "s"
            refine ExS.nil (ExS.nil (ExS.nil ⟨⟨?_, rfl, trivial⟩, rfl, rfl⟩))
            rw [step]
            have hc' : ((upTo 6).filter (offQ net near)).isEmpty = true := by simpa using hc
            simp only [offK, hb', if_true, hN, hc']
            rfl
          · refine ExS.drop ?_ (List.nil_sublist _)
            refine ExS.nil (ExS.nil (ExS.nil ⟨⟨?_, rfl, trivial⟩, rfl, rfl⟩))
            rw [step]
            have hc' : ((upTo 6).filter (offQ net near)).isEmpty = false := by simpa using hc
            simp only [offK, hb', if_true, hN, hc', Bool.false_eq_true, if_false]
            rfl
      · refine ExS.nil (ExS.nil ⟨⟨?_, rfl, trivial⟩, rfl, rfl⟩)
        rw [step]
        have hb' : bit left k = false := hb
        simp only [offK, hb', Bool.false_eq_true, if_false]
        rfl
    · rintro ⟨l3, d3, g3⟩ hH
      refine ExS.nil ⟨⟨?_, hH.loc.2.1, trivial⟩, hH.led, hH.gens⟩
      rw [foldl_range_succ, hL]
      exact hH.loc.1
  · rintro ⟨l3, d3, g3⟩ hH
    refine ExS.has (σ := ⟨[("left", vI ((List.range 6).foldl (offTurn net) 63))], [], σ.gens⟩) ?_ ⟨⟨hH.loc.1, trivial⟩, hH.led, hH.gens⟩
    repeat walk_at "s"
    exact ⟨rfl, h⟩
end
end

section
open PySem PySem.Calls PyProof.Rows

noncomputable def hitV (j k : Nat) : V → Bool
  | .p (.int x _) => Builtin.bitAnd (Builtin.bitAnd (x.fdiv (2 ^ j)) (x.fdiv (2 ^ k))) 1 != 0
  | _ => false
noncomputable def joined (ps : List Int) (j k : Nat) : Bool := !((ps.map vI).filter (hitV j k)).isEmpty
section
variable {c : Cx} {σ : Sg} {F : List (Addr × LO)} {s s₁ : Shared} {K : V → Sg → Prop} {N : Sg → Prop} {R : V → Sg → Prop} {loc : List (Str × V)} {led : List (Addr × LO)} {g : Array GenState}

theorem FnAt.joined {b : Addr} {ps : List Int} {j k : Nat} (hlen : ps.length ≤ 100) (hr : Room 2 c.A) (hat : HasL c σ b (ps.map vI)) (h : K (vB (joined ps j k)) σ) : FnAt c σ (fn 20) [vR b, vI j, vI k] K := by
  refine FnAt.bodyD (names := ["pieces", "j", "k"]) (hr.mono (by decide)) (fun F s ad cd S => ?_) (hb := fun pm cd doc => len3 fun v w z => rfl) (hn := by decide)
  have hr' : Room 1 (callee c (fn 20) s ad cd).A := hr.deeper
  have hA : (callee c (fn 20) s ad cd).A.handled = none := hr.1
  have hold : ∀ σ', HasL (callee c (fn 20) s ad cd) σ' b (ps.map vI) := fun σ' => .inl (hat.at S)
  refine ExS.cons ?_
  repeat walk_at "s"
  refine Ev.comp _ hA (Ev.nm rfl ?_) rfl (fun n a => ClIn.get ⟨rfl, rfl, trivial⟩)
  refine CompOk.filter [("j", vI j), ("k", vI k)] (hitV j k) (Src.lst (hold _)) (by simpa using Nat.le_trans hlen (by decide)) ⟨⟨rfl, by kernel_rfl!, by kernel_rfl!⟩, ⟨rfl, by kernel_rfl!, by kernel_rfl!⟩, trivial⟩ (by simp; decide) rfl (by kernel_rfl!) (by kernel_rfl!) ?_ ?_
  · rintro F s₁ S₁ C u hu
    obtain ⟨x, hx, rfl⟩ := List.mem_map.mp hu
    refine EvIf.one (EvT.val ?_)
    repeat walk_at "s"
    exact ⟨rfl, ⟨rfl, rfl, rfl, trivial⟩, rfl, rfl⟩
  · intro D
    dsimp only
    refine Ev.plst (EvL.nil ⟨by decide, fun D2 => ?_⟩)
    refine Op2.neNil hr' (.inr ⟨_, .inr rfl, .tail _ (.head _)⟩) (.inr ⟨_, .inr rfl, .head _⟩) ?_
    exact ⟨rfl, [], List.nil_sublist _, h⟩
end
end

section
open PySem PySem.Calls PyProof.Rows

noncomputable def apV (p : Int) : V → Bool
  | .p (.int x _) => Builtin.bitAnd x p == 0
  | _ => false
noncomputable def apartOf (ps : List Int) (p : Int) : List Int := ps.filter fun x => Builtin.bitAnd x p == 0
noncomputable def joinP (ap : List Int) (p x : Int) : Int := if !ap.any (· == x) then Builtin.bitOr p x else p
noncomputable def pieceStep (net : List Int) (third : Nat) (ps : List Int) (k : Nat) : List Int :=
  if !bit (nat net third) k then
    apartOf ps (Builtin.bitAnd (nat net k) (63 - nat net third)) ++ [ps.foldl (joinP (apartOf ps (Builtin.bitAnd (nat net k) (63 - nat net third)))) (Builtin.bitAnd (nat net k) (63 - nat net third))]
  else ps
noncomputable def piecesWithout (net : List Int) (third : Nat) : List Int := (List.range 6).foldl (pieceStep net third) []
theorem apV_filter (p : Int) : ∀ ps : List Int, (ps.map vI).filter (apV p) = (apartOf ps p).map vI
  | [] => rfl
  | x :: r => by
    unfold apartOf
    rw [List.map_cons, List.filter_cons, List.filter_cons, apV_filter p r]
    show (if (Builtin.bitAnd x p == 0) = true then _ else _) = _
    split <;> simp [apartOf]
theorem foldl_take_succ {α β : Type} (f : β → α → β) (b : β) : ∀ (l : List α) (i : Nat) (x : α), l[i]? = some x → (l.take (i + 1)).foldl f b = f ((l.take i).foldl f b) x := fun l i x h => by
  rw [List.take_add_one, h, List.foldl_append]; rfl
theorem pieces_len (net : List Int) (t : Nat) : ∀ k, ((List.range k).foldl (pieceStep net t) []).length ≤ k
  | 0 => Nat.le_refl _
  | k + 1 => by
    rw [foldl_range_succ]
    have ih := pieces_len net t k
    generalize (List.range k).foldl (pieceStep net t) [] = ps at ih
    unfold pieceStep
    split
    · rw [List.length_append]
      have : (apartOf ps (Builtin.bitAnd (nat net k) (63 - nat net t))).length ≤ ps.length := List.length_filter_le _ _
      simp; omega
    · omega
section
variable {c : Cx} {σ : Sg} {F : List (Addr × LO)} {s s₁ : Shared} {K : V → Sg → Prop} {N : Sg → Prop} {R : V → Sg → Prop} {loc : List (Str × V)} {led : List (Addr × LO)} {g : Array GenState}

theorem FnAt.pieces {b : Addr} {net : List Int} {t : Nat} (hlen : net.length = 6) (ht : t < 6) (hr : Room 2 c.A) (hat : HasL c σ b (net.map vI)) (h : ∀ a, K (vR a) ⟨σ.loc, (a, .pl ((piecesWithout net t).map vI)) :: σ.led, σ.gens⟩) : FnAt c σ (fn 19) [vR b, vI t] K := by
  refine FnAt.body (names := ["net", "third"]) (hr.mono (by decide)) (fun F s ad cd S => ?_) (hb := fun pm cd doc => len2 fun v w => rfl) (hn := by decide)
  have hr' : Room 1 (callee c (fn 19) s ad cd).A := hr.deeper
  have hA : (callee c (fn 19) s ad cd).A.handled = none := hr.1
  have hold : ∀ σ', HasL (callee c (fn 19) s ad cd) σ' b (net.map vI) := fun σ' => .inl (hat.at S)
  refine ExS.cons ?_
  repeat walk_at "s"
  refine Ev.plst (EvL.nil ⟨by decide, fun D0 => ?_⟩)
  dsimp only
  repeat walk_at "s"
  refine Ex.for_ (fun k σ' => ∃ D, σ'.Has ⟨[("pieces", vR D), ("net", vR b), ("third", vI t)], [(D, .pl (((List.range k).foldl (pieceStep net t) []).map vI))], σ.gens⟩) (Ev.callT "range" (EvL.cons (Ev.int (EvL.nil (OpL.range fun a => ?_)))))
  dsimp only
  refine ⟨upTo 6, _, ItTo.range hA (by decide) (by decide), ⟨D0, ⟨rfl, rfl, rfl, trivial⟩, rfl, rfl⟩, ?_, ?_⟩
  · rintro k u hu ⟨l3, d3, g3⟩ ⟨D, hH⟩
    obtain ⟨hk, rfl⟩ := upTo_get hu
    dsimp only
    have hpl := pieces_len net t k
    have step := foldl_range_succ (pieceStep net t) [] k
    generalize hps : (List.range k).foldl (pieceStep net t) [] = ps at hH hpl step
    refine ExS.has (σ := ⟨[("k", vI k), ("pieces", vR D), ("net", vR b), ("third", vI t)], [(D, .pl (ps.map vI))], σ.gens⟩) ?_ ⟨⟨rfl, hH.loc⟩, hH.led, hH.gens⟩
    repeat walk_at "s"
    refine OpS.lstN (hold _) (map_get (by omega)) ?_ (by omega)
    repeat walk_at "s"
    refine ⟨fun hb => ?_, fun hb => ?_⟩
    · have hb' : (!bit (nat net t) k) = true := hb
      refine ExS.cons (Ex.asg ?_ StN.cell)
      refine Ev.callF 5 ?_
      repeat walk_at "s"
      refine OpS.lstN (hold _) (map_get (by omega)) ?_ (by omega)
      repeat walk_at "s"
      refine OpS.lstN (hold _) (map_get (by omega)) ?_ (by omega)
      repeat walk_at "s"
      refine FnAt.and_ hr' ?_
      generalize hp : Builtin.bitAnd (nat net k) (63 - nat net t) = p0
      dsimp only
      refine ExS.cons (Ex.comp _ hA (Ev.nm rfl ?_) rfl (fun n a => ClIn.get ⟨rfl, trivial⟩))
      refine CompOk.filter [("piece", vI p0)] (apV p0) (Src.lst (.inr ⟨_, .inr rfl, .head _⟩)) (by simp; omega) ⟨⟨rfl, by kernel_rfl!, by kernel_rfl!⟩, trivial⟩ (by simp) rfl (by kernel_rfl!) (by kernel_rfl!) ?_ ?_
      · rintro F s₁ S₁ C u hu
        obtain ⟨x, hx, rfl⟩ := List.mem_map.mp hu
        refine EvIf.one (EvT.cmp (Ev.callF 5 ?_))
        repeat walk_at "s"
        refine FnAt.and_ hr' ?_
        repeat walk_at "s"
        exact ⟨rfl, ⟨rfl, rfl, trivial⟩, rfl, rfl⟩
      · intro A
        dsimp only
        rw [apV_filter]
        refine ExS.cons (Ex.for_ (fun i σ' => σ'.Has ⟨[("piece", vI ((ps.take i).foldl (joinP (apartOf ps p0)) p0)), ("apart", vR A), ("net", vR b), ("third", vI t)], [(A, .pl ((apartOf ps p0).map vI))], σ.gens⟩) (Ev.nm rfl ?_))
        refine ⟨ps.map vI, _, ItTo.perm (ItTo.own hA (.inr rfl)) (List.Perm.swap _ _ _), ⟨⟨rfl, rfl, rfl, rfl, trivial⟩, rfl, rfl⟩, ?_, ?_⟩
        · rintro i u hu ⟨l4, d4, g4⟩ hH4
          simp only [List.getElem?_map, Option.map_eq_some_iff] at hu
          obtain ⟨x, hx, rfl⟩ := hu
          have stp := foldl_take_succ (joinP (apartOf ps p0)) p0 ps i x hx
          dsimp only
          generalize (ps.take i).foldl (joinP (apartOf ps p0)) p0 = p1 at stp hH4
          refine ExS.has (σ := ⟨[("one", vI x), ("piece", vI p1), ("apart", vR A), ("net", vR b), ("third", vI t)], [(A, .pl ((apartOf ps p0).map vI))], σ.gens⟩) ?_ ⟨⟨rfl, hH4.loc⟩, hH4.led, hH4.gens⟩
          repeat walk_at "s"
          refine Op2.notIn (.inr ⟨_, .inr rfl, .head _⟩) ?_
          refine OpT.bool ⟨fun hc => ?_, fun hc => ?_⟩
          · refine ExS.cons (Ex.asg ?_ StN.cell)
            refine Ev.callF 8 ?_
            repeat walk_at "s"
            refine FnAt.or_ hr' ?_
            refine ExS.nil (ExS.nil ⟨⟨?_, rfl, rfl, rfl, trivial⟩, rfl, rfl⟩)
            rw [stp]
            simp only [joinP, hc, if_true]
            rfl
          · refine ExS.nil (ExS.nil ⟨⟨?_, rfl, rfl, rfl, trivial⟩, rfl, rfl⟩)
            rw [stp]
            simp only [joinP, hc, Bool.false_eq_true, if_false]
            rfl
        · rintro ⟨l4, d4, g4⟩ hH4
          rw [List.length_map, List.take_length] at hH4
          generalize hp1 : ps.foldl (joinP (apartOf ps p0)) p0 = p1 at hH4
          refine ExS.has (σ := ⟨[("piece", vI p1), ("apart", vR A), ("net", vR b), ("third", vI t)], [(A, .pl ((apartOf ps p0).map vI))], σ.gens⟩) ?_ ⟨hH4.loc, hH4.led, hH4.gens⟩
          repeat walk_at "s"
          refine Ev.plst ?_
          repeat walk_at "s"
          refine ⟨by simp, fun D2 => ?_⟩
          dsimp only
          refine Op2.addL (us := (apartOf ps p0).map vI) (ws := [vI p1]) (.inr ⟨_, .inr rfl, .tail _ (.head _)⟩) (.inr ⟨_, .inr rfl, .head _⟩) ?_ fun D3 => ?_
          · have : (apartOf ps p0).length ≤ ps.length := List.length_filter_le _ _
            simp; omega
          · dsimp only
            refine ExS.drop (led' := [(D3, .pl ((apartOf ps p0).map vI ++ [vI p1]))]) ?_ (List.Sublist.cons_cons _ (List.nil_sublist _))
            refine ExS.nil (ExS.nil ⟨D3, ⟨rfl, rfl, rfl, trivial⟩, ?_, rfl⟩)
            rw [step]
            simp only [pieceStep, hb', if_true, hp, hp1, List.map_append, List.map_cons, List.map_nil]
    · have hb' : (!bit (nat net t) k) = false := hb
      refine ExS.nil (ExS.nil ⟨D, ⟨rfl, rfl, rfl, trivial⟩, ?_, rfl⟩)
      rw [step]
      simp only [pieceStep, hb', Bool.false_eq_true, if_false]
  · rintro ⟨l3, d3, g3⟩ ⟨D, hH⟩
    refine ExS.has (σ := ⟨[("pieces", vR D)], [(D, .pl ((piecesWithout net t).map vI))], σ.gens⟩) ?_ ⟨⟨hH.loc.1, trivial⟩, hH.led, hH.gens⟩
    repeat walk_at "s"
    exact ⟨rfl, h D⟩
end
end

section
open PySem PySem.Calls PyProof.Rows

noncomputable def tripleOk (net : List Int) (a b c : Nat) : Bool := joined (piecesWithout net a) b c && (joined (piecesWithout net b) a c && joined (piecesWithout net c) a b)
noncomputable def tri (a b c : Nat) : V := .t [.int a 0, .int b 0, .int c 0]
noncomputable def threesC (net : List Int) (a b : Nat) (acc : List V) (c : Nat) : List V := if tripleOk net a b c then acc ++ [tri a b c] else acc
noncomputable def threesB (net : List Int) (a : Nat) (acc : List V) (b : Nat) : List V := (List.range b).foldl (threesC net a b) acc
noncomputable def threesA (net : List Int) (acc : List V) (a : Nat) : List V := (List.range a).foldl (threesB net a) acc
noncomputable def threes (net : List Int) : List V := (List.range 6).foldl (threesA net) []
noncomputable def ldg (net : List Int) (as : List Addr) : List (Addr × LO) := (as.zipIdx.map fun p => (p.1, LO.pl ((piecesWithout net p.2).map vI))).reverse
theorem ldg_snoc (net : List Int) (as : List Addr) (a : Addr) : ldg net (as ++ [a]) = (a, .pl ((piecesWithout net as.length).map vI)) :: ldg net as := by
  unfold ldg; rw [List.zipIdx_append]; simp
theorem ldg_mem {net : List Int} {as : List Addr} {j : Nat} {a : Addr} (h : as[j]? = some a) : (a, LO.pl ((piecesWithout net j).map vI)) ∈ ldg net as := by
  unfold ldg
  rw [List.mem_reverse, List.mem_map]
  exact ⟨(a, j), by rw [List.mem_zipIdx_iff_getElem?]; exact h, rfl⟩
section
variable {c : Cx} {σ : Sg} {F : List (Addr × LO)} {s s₁ : Shared} {K : V → Sg → Prop} {N : Sg → Prop} {R : V → Sg → Prop} {loc : List (Str × V)} {led : List (Addr × LO)} {g : Array GenState}

theorem FnAt.threes {b : Addr} {net : List Int} (hlen : net.length = 6) (hr : Room 3 c.A) (hat : HasL c σ b (net.map vI)) (h : ∀ a, K (vR a) ⟨σ.loc, (a, .pl (Mine.threes net)) :: σ.led, σ.gens⟩) : FnAt c σ (fn 21) [vR b] K := by
  refine FnAt.bodyD (names := ["net"]) (hr.mono (by decide)) (fun F s ad cd S => ?_) (hb := fun pm cd doc => len1 fun v => rfl) (hn := by decide)
  have hr' : Room 2 (callee c (fn 21) s ad cd).A := hr.deeper
  have hA : (callee c (fn 21) s ad cd).A.handled = none := hr.1
  have hold : ∀ σ', HasL (callee c (fn 21) s ad cd) σ' b (net.map vI) := fun σ' => .inl (hat.at S)
  refine ExS.cons (Ex.asg ?_ StN.cell)
  refine Ev.comp _ hA (Ev.callT "range" (EvL.cons (Ev.int (EvL.nil (OpL.range fun a => ?_))))) rfl (fun n a => ClIn.get ⟨rfl, trivial⟩)
  refine ⟨upTo 6, _, [("net", vR b)], fun i acc σ₂ => ∃ as : List Addr, as.length = i ∧ acc = as.map vR ∧ σ₂.Has ⟨[("net", vR b)], ldg net as, σ.gens⟩, Src.range (by decide) (by decide), by decide,
    ⟨⟨rfl, by kernel_rfl!, by kernel_rfl!⟩, trivial⟩, ⟨[], rfl, rfl, ⟨rfl, trivial⟩, rfl, rfl⟩, ?_, ?_⟩
  · rintro F s₁ S₁ C i u hu acc ⟨l2, d2, g2⟩ ⟨as, hl, rfl, hH⟩
    obtain ⟨hi, rfl⟩ := upTo_get hu
    have hne : ∀ sc cl σ', HasL (compCx (callee c (fn 21) s ad cd) sc cl C s₁) σ' b (net.map vI) := fun _ _ σ' => .inl ((hold _).at S₁)
    refine EvIf.nil ⟨(fun h => nomatch h), fun _ => ?_⟩
    dsimp only
    refine Ev.has (σ := ⟨[("third", vI i), ("net", vR b)], ldg net as, σ.gens⟩) ?_ ⟨⟨rfl, hH.loc⟩, hH.led, hH.gens⟩
    refine Ev.callF 19 ?_
    repeat walk_at "s"
    refine FnAt.pieces hlen hi hr' (hne _ _ _) fun a => ⟨as ++ [a], by simp [hl], by simp, ⟨rfl, trivial⟩, ?_, rfl⟩
    dsimp only
    rw [ldg_snoc, hl]
  · rintro acc ⟨l2, d2, g2⟩ ⟨as, hl, rfl, hH⟩
    have e1 := hH.led; have e2 := hH.gens
    dsimp only at e1 e2
    subst e1 e2
    refine ⟨rfl, fun D => ?_⟩
    dsimp only
    rw [List.append_nil]
    have hal : as.length = 6 := by simpa using hl
    refine ExS.cons (Ex.ret ?_)
    refine Ev.compN _ hA (Ev.callT "range" (EvL.cons (Ev.int (EvL.nil (OpL.range fun a => ?_))))) rfl (fun n a => ClIn.get ⟨rfl, trivial⟩)
    refine ⟨upTo 6, _, [("pieces", vR D)], fun i acc σ₂ => (acc = (List.range i).foldl (threesA net) [] ∧ acc.length ≤ 36 * i) ∧ σ₂.Has ⟨[("pieces", vR D)], [], σ.gens⟩, Src.range (by decide) (by decide),
      ⟨⟨rfl, by kernel_rfl!, by kernel_rfl!⟩, trivial⟩, ⟨⟨rfl, by decide⟩, ⟨rfl, trivial⟩, rfl, rfl⟩, ?_, ?_⟩
    · rintro F s₁ S₁ C D' i u hu acc ⟨l2, d2, g2⟩ ⟨⟨hacc, hal0⟩, hH⟩
      obtain ⟨hi, rfl⟩ := upTo_get hu
      have LD := HasL.at (a := D) (us := as.map vR) (.inr ⟨_, .inr rfl, .tail _ (.head _)⟩) S₁
      have hD : ∀ sc cl σ', HasL (compCx (callee c (fn 21) s ad cd) sc cl C s₁) σ' D (as.map vR) := fun _ _ σ' => .inl LD
      have LP := fun j a (e : as[j]? = some a) => HasL.at (a := a) (us := (piecesWithout net j).map vI) (.inr ⟨_, .inr rfl, .tail _ (.tail _ (ldg_mem e))⟩) S₁
      have hP : ∀ sc cl σ' j a, as[j]? = some a → HasL (compCx (callee c (fn 21) s ad cd) sc cl C s₁) σ' a ((piecesWithout net j).map vI) := fun _ _ σ' j a e => .inl (LP j a e)
      have hget : ∀ j, j < 6 → ∃ a, as[j]? = some a ∧ (as.map vR)[j]? = some (vR a) := fun j hj => by
        have : j < as.length := by omega
        exact ⟨as[j], by simp [this], by simp [this]⟩
      have hpl : ∀ j, (piecesWithout net j).length ≤ 100 := fun j => Nat.le_trans (pieces_len net j 6) (by decide)
      refine EvIf.nil ⟨(fun h => nomatch h), fun _ => ?_⟩
      dsimp only
      refine CGo.inner rfl (by simp) (.inl (by kernel_rfl!)) ?_
      refine Ev.has (σ := ⟨[("a", vI i), ("pieces", vR D)], [], σ.gens⟩) ?_ ⟨⟨rfl, hH.loc⟩, hH.led, hH.gens⟩
      refine Ev.callT "range" (EvL.cons (Ev.nm rfl (EvL.nil (OpL.range fun a => ?_))))
      refine ⟨upTo i, _, fun j acc σ₂ => (acc = (List.range j).foldl (threesB net i) ((List.range i).foldl (threesA net) []) ∧ acc.length ≤ 36 * i + 6 * j) ∧ σ₂.Has ⟨[("a", vI i), ("pieces", vR D)], [], σ.gens⟩,
        ItTo.range hA (by omega) (by omega), ⟨⟨hacc, hal0⟩, ⟨rfl, rfl, trivial⟩, rfl, rfl⟩, ?_, ?_⟩
      · rintro j u hu acc ⟨l3, d3, g3⟩ ⟨⟨hacc, hal1⟩, hH⟩
        obtain ⟨hj, rfl⟩ := upTo_get hu
        refine EvIf.nil ⟨(fun h => nomatch h), fun _ => ?_⟩
        dsimp only
        refine CGo.inner rfl (by simp) (.inl (by kernel_rfl!)) ?_
        refine Ev.has (σ := ⟨[("b", vI j), ("a", vI i), ("pieces", vR D)], [], σ.gens⟩) ?_ ⟨⟨rfl, hH.loc⟩, hH.led, hH.gens⟩
        refine Ev.callT "range" (EvL.cons (Ev.nm rfl (EvL.nil (OpL.range fun a => ?_))))
        refine ⟨upTo j, _, fun k acc' σ₂ => (acc' = (List.range k).foldl (threesC net i j) acc ∧ acc'.length ≤ 36 * i + 6 * j + k) ∧ σ₂.Has ⟨[("b", vI j), ("a", vI i), ("pieces", vR D)], [], σ.gens⟩,
          ItTo.range hA (by omega) (by omega), ⟨⟨rfl, by omega⟩, ⟨rfl, rfl, rfl, trivial⟩, rfl, rfl⟩, ?_, ?_⟩
        · rintro k u hu acc' ⟨l4, d4, g4⟩ ⟨⟨hacc', hal2⟩, hH⟩
          obtain ⟨hk, rfl⟩ := upTo_get hu
          dsimp only
          refine EvIf.has (σ := ⟨[("c", vI k), ("b", vI j), ("a", vI i), ("pieces", vR D)], [], σ.gens⟩) ?_ ⟨⟨rfl, hH.loc⟩, hH.led, hH.gens⟩
          have step := foldl_range_succ (threesC net i j) acc k
          rw [← hacc'] at step
          obtain ⟨ai, ei, ei'⟩ := hget i hi
          obtain ⟨aj, ej, ej'⟩ := hget j (by omega)
          obtain ⟨ak, ek, ek'⟩ := hget k (by omega)
          have no : tripleOk net i j k = false → (acc' = (List.range (k + 1)).foldl (threesC net i j) acc ∧ acc'.length ≤ 36 * i + 6 * j + (k + 1)) := fun e => by
            rw [step]; unfold threesC; rw [e]; exact ⟨by simp, by omega⟩
          refine EvIf.one (EvT.bop (EvA.andCons (EvT.val (Ev.callF 20 ?_))))
          repeat walk_at "s"
          refine OpS.lstN (hD _ _ _) ei' ?_ (by omega)
          repeat walk_at "s"
          refine FnAt.joined (hpl i) hr' (hP _ _ _ i ai ei) ?_
          repeat walk_at "s"
          refine ⟨fun h1 => ?_, fun h1 => ⟨fun _ => ⟨no (by simp [tripleOk, h1]), ⟨rfl, rfl, rfl, trivial⟩, rfl, rfl⟩, (fun h => nomatch h)⟩⟩
          refine EvA.andCons (EvT.val (Ev.callF 20 ?_))
          repeat walk_at "s"
          refine OpS.lstN (hD _ _ _) ej' ?_ (by omega)
          repeat walk_at "s"
          refine FnAt.joined (hpl j) hr' (hP _ _ _ j aj ej) ?_
          repeat walk_at "s"
          refine ⟨fun h2 => ?_, fun h2 => ⟨fun _ => ⟨no (by simp [tripleOk, h2]), ⟨rfl, rfl, rfl, trivial⟩, rfl, rfl⟩, (fun h => nomatch h)⟩⟩
          refine EvA.andCons (EvT.val (Ev.callF 20 ?_))
          repeat walk_at "s"
          refine OpS.lstN (hD _ _ _) ek' ?_ (by omega)
          repeat walk_at "s"
          refine FnAt.joined (hpl k) hr' (hP _ _ _ k ak ek) ?_
          repeat walk_at "s"
          refine ⟨fun h3 => ?_, fun h3 => ⟨fun _ => ⟨no (by simp [tripleOk, h3]), ⟨rfl, rfl, rfl, trivial⟩, rfl, rfl⟩, (fun h => nomatch h)⟩⟩
          refine EvA.andNil ⟨(fun h => nomatch h), fun _ => CGo.emit rfl (by omega) ?_⟩
          refine Ev.tup ?_
          repeat walk_at "s"
          refine ⟨[.int i 0, .int j 0, .int k 0], rfl, by simp, ⟨?_, by simp; omega⟩, ⟨rfl, rfl, rfl, trivial⟩, rfl, rfl⟩
          rw [step]; unfold threesC
          rw [show tripleOk net i j k = true by simp [tripleOk, h1, h2, h3]]
          rfl
        · rintro acc' ⟨l4, d4, g4⟩ ⟨⟨hacc', hal2⟩, hH⟩
          rw [upTo_length] at hacc' hal2
          refine ⟨⟨?_, by omega⟩, ⟨hH.loc.2.1, hH.loc.2.2.1, trivial⟩, hH.led, hH.gens⟩
          rw [foldl_range_succ, ← hacc]
          exact hacc'
      · rintro acc' ⟨l4, d4, g4⟩ ⟨⟨hacc', hal2⟩, hH⟩
        rw [upTo_length] at hacc' hal2
        refine ⟨⟨?_, by omega⟩, ⟨hH.loc.2.1, trivial⟩, hH.led, hH.gens⟩
        rw [foldl_range_succ]
        exact hacc'
    · rintro acc ⟨l2, d2, g2⟩ ⟨⟨hacc, hal0⟩, hH⟩
      have e1 := hH.led; have e2 := hH.gens
      dsimp only at e1 e2
      subst e1 e2
      refine ⟨rfl, fun D2 => ⟨rfl, [(D2, .pl (Mine.threes net))], ?_, h D2⟩⟩
      rw [hacc]
      exact List.Sublist.cons_cons _ (List.nil_sublist _)
end
end

section
open PySem PySem.Calls PyProof.Rows

noncomputable def tupV (l : List Nat) : V := .t (l.map fun (k : Nat) => Value.int (k : Int) 0)
noncomputable abbrev Tab := Int → Option (List Nat)
noncomputable def setT (f : Tab) (k : Int) (l : List Nat) : Tab := fun x => if x = k then some l else f x
noncomputable def toF (f : Tab) : Int → Option V := fun x => (f x).map tupV
theorem toF_set (f : Tab) (k : Int) (l : List Nat) : setF (toF f) k (tupV l) = toF (setT f k l) := by
  funext x; unfold setF toF setT; split <;> rfl
noncomputable def bitB (x : Int) (k : Nat) : Bool := Builtin.bitAnd (x.fdiv (2 ^ ((k : Int)).toNat)) 1 != 0
noncomputable def mayStep (net : List Int) (front : Nat) (may : Int) (k : Nat) : Int := if decide (0 < Builtin.bitAnd (nat net k) (63 - (front : Int))) then Builtin.bitAnd may (nat net k) else may
noncomputable def mayOf (net : List Int) (front : Nat) (l : List Nat) : Int := l.foldl (mayStep net front) (63 - (front : Int))
noncomputable def setK (front : Nat) (l : List Nat) (may : Int) (f : Tab) (k : Nat) : Tab := if bitB may k then setT f ((front : Int) + 1 * 2 ^ ((k : Int)).toNat) (l ++ [k]) else f
noncomputable def frontStep (net : List Int) (f : Tab) (front : Nat) : Tab := match f (front : Int) with | none => f | some l => (List.range 6).foldl (setK front l (mayOf net front l)) f
noncomputable def lineTab (net : List Int) (n : Nat) : Tab := (List.range n).foldl (frontStep net) (setT (fun _ => none) 0 [])
noncomputable def lineOf (net : List Int) : Option (List Nat) := lineTab net 63 63
noncomputable def TabOk (f : Tab) : Prop := ∀ x l, f x = some l → (l.length : Int) ≤ x ∧ ∀ k ∈ l, k < 6
theorem TabOk.set {f : Tab} (h : TabOk f) {x : Int} {l : List Nat} (h1 : (l.length : Int) ≤ x) (h2 : ∀ k ∈ l, k < 6) : TabOk (setT f x l) := fun y m e => by
  unfold setT at e
  split at e
  next q => cases e; exact ⟨q ▸ h1, h2⟩
  next => exact h y m e
theorem pow_pos2 (k : Nat) : 1 ≤ (1 : Int) * 2 ^ ((k : Int)).toNat := by
  have : (0 : Int) < 2 ^ ((k : Int)).toNat := Int.pow_pos (by decide)
  omega
section
variable {c : Cx} {σ : Sg} {F : List (Addr × LO)} {s s₁ : Shared} {K : V → Sg → Prop} {N : Sg → Prop} {R : V → Sg → Prop} {loc : List (Str × V)} {led : List (Addr × LO)} {g : Array GenState}

set_option maxHeartbeats 2000000 in
theorem FnAt.line {b : Addr} {net : List Int} (hlen : net.length = 6) (hr : Room 2 c.A) (hat : HasL c σ b (net.map vI)) (h : K (((lineOf net).map tupV).getD vN) σ) : FnAt c σ (fn 15) [vR b] K := by
  refine FnAt.bodyD (names := ["net"]) (hr.mono (by decide)) (fun F s ad cd S => ?_) (hb := fun pm cd doc => len1 fun v => rfl) (hn := by decide)
  have hr' : Room 1 (callee c (fn 15) s ad cd).A := hr.deeper
  have hA : (callee c (fn 15) s ad cd).A.handled = none := hr.1
  have hold : ∀ σ', HasL (callee c (fn 15) s ad cd) σ' b (net.map vI) := fun σ' => .inl (hat.at S)
  refine ExS.cons ?_
  refine Ex.asg ?_
  refine Ev.dct1 ?_
  refine Ev.int ⟨_, rfl, ?_⟩
  refine Ev.tup ?_
  refine EvL.nil ⟨[], rfl, by decide, fun d => ?_⟩
  dsimp only
  rw [show setF (fun _ => none) 0 (V.t []) = toF (setT (fun _ => none) 0 []) from toF_set (fun _ => none) 0 []]
  refine ExS.cons (Ex.for_ (fun t σ' => TabOk (lineTab net t) ∧ ∃ n, n ≤ 1 + 6 * t ∧ σ'.Has ⟨[("lines", vR d), ("net", vR b)], [(d, .dct n (toF (lineTab net t)))], σ.gens⟩) (Ev.callT "range" (EvL.cons (Ev.int (EvL.nil (OpL.range fun a => ?_))))))
  dsimp only
  refine ⟨upTo 63, _, ItTo.range hA (by decide) (by decide), ⟨?_, 1, by omega, ⟨rfl, rfl, trivial⟩, rfl, rfl⟩, ?_, ?_⟩
  · exact TabOk.set (fun _ _ e => by simp at e) (by simp) (by simp)
  · rintro t u hu ⟨l3, d3, g3⟩ ⟨hok, n, hn, hH⟩
    obtain ⟨ht, rfl⟩ := upTo_get hu
    dsimp only
    refine ExS.has (σ := ⟨[("front", vI t), ("lines", vR d), ("net", vR b)], [(d, .dct n (toF (lineTab net t)))], σ.gens⟩) ?_ ⟨⟨rfl, hH.loc⟩, hH.led, hH.gens⟩
    have step : lineTab net (t + 1) = frontStep net (lineTab net t) t := foldl_range_succ (frontStep net) (setT (fun _ => none) 0 []) t
    generalize hT : lineTab net t = f at step ⊢ hok
    refine ExS.cons ?_
    repeat walk_at "s"
    refine Op2.inD (.head _) ?_
    repeat walk_at "s"
    refine ⟨fun hb => ?_, fun hb => ?_⟩
    · cases hl : f (t : Int) with
      | none => simp [toF, hl] at hb
      | some l =>
        obtain ⟨hlle, hlk⟩ := hok _ _ hl
        have hFl : toF f (t : Int) = some (tupV l) := by simp [toF, hl]
        have step' : lineTab net (t + 1) = (List.range 6).foldl (setK t l (mayOf net t l)) f := by rw [step]; simp only [frontStep, hl]
        repeat walk_at "s"
        refine Ex.for_ (fun i σ' => σ'.Has ⟨[("may", vI ((l.take i).foldl (mayStep net t) (63 - (t : Int)))), ("front", vI t), ("lines", vR d), ("net", vR b)], [(d, .dct n (toF f))], σ.gens⟩) (Ev.sub (Ev.nm rfl (Ev.nm rfl (OpS.dct (.head _) hFl ?_))))
        refine ⟨_, _, ItTo.tup hA, ⟨⟨rfl, rfl, rfl, rfl, trivial⟩, rfl, rfl⟩, ?_, ?_⟩
        · rintro i u hu ⟨l3, d3, g3⟩ hH
          have : ∃ k, l[i]? = some k ∧ u = vI k := by
            rw [List.getElem?_map, List.getElem?_map] at hu
            cases hk : l[i]? with
            | none => rw [hk] at hu; cases hu
            | some k => rw [hk] at hu; exact ⟨k, rfl, (Option.some.inj hu).symm⟩
          obtain ⟨k, hk, rfl⟩ := this
          have hk6 := hlk k (List.mem_of_getElem? hk)
          have st2 : (l.take (i + 1)).foldl (mayStep net t) (63 - (t : Int)) = mayStep net t ((l.take i).foldl (mayStep net t) (63 - (t : Int))) k := by
            rw [List.take_add_one, hk]; simp
          dsimp only
          refine ExS.has (σ := ⟨[("k", vI k), ("may", vI ((l.take i).foldl (mayStep net t) (63 - (t : Int)))), ("front", vI t), ("lines", vR d), ("net", vR b)], [(d, .dct n (toF f))], σ.gens⟩) ?_ ⟨⟨rfl, hH.loc⟩, hH.led, hH.gens⟩
          generalize hm : (l.take i).foldl (mayStep net t) (63 - (t : Int)) = m at st2 ⊢
          refine ExS.cons (Ex.ite (EvT.cmp (Ev.callF 5 ?_)))
          repeat walk_at "s"
          refine OpS.lstN (hold _) (map_get (by omega)) ?_ (by omega)
          repeat walk_at "s"
          refine FnAt.and_ hr' ?_
          repeat walk_at "s"
          refine ⟨fun hc => ?_, fun hc => ?_⟩
          · refine ExS.cons (Ex.asg (Ev.callF 5 ?_))
            repeat walk_at "s"
            refine OpS.lstN (hold _) (map_get (by omega)) ?_ (by omega)
            repeat walk_at "s"
            refine FnAt.and_ hr' ?_
            refine ExS.nil (ExS.nil ⟨⟨?_, rfl, rfl, rfl, trivial⟩, rfl, rfl⟩)
            rw [st2]; simp only [mayStep, hc, if_true]; rfl
          · refine ExS.nil (ExS.nil ⟨⟨?_, rfl, rfl, rfl, trivial⟩, rfl, rfl⟩)
            rw [st2]; simp only [mayStep, hc, Bool.false_eq_true, if_false]; rfl
        · rintro ⟨l3, d3, g3⟩ hH
          refine ExS.has (σ := ⟨[("may", vI (mayOf net t l)), ("front", vI t), ("lines", vR d), ("net", vR b)], [(d, .dct n (toF f))], σ.gens⟩) ?_ ⟨?_, hH.led, hH.gens⟩
          rotate_left
          · have := hH.loc
            simp only [List.length_map, List.take_length] at this
            exact this
          generalize hm : mayOf net t l = m at step' ⊢
          refine ExS.cons (Ex.for_ (fun k σ' => TabOk ((List.range k).foldl (setK t l m) f) ∧ ((List.range k).foldl (setK t l m) f) t = some l ∧ ∃ n', n' ≤ n + k ∧ σ'.Has ⟨[("may", vI m), ("front", vI t), ("lines", vR d), ("net", vR b)], [(d, .dct n' (toF ((List.range k).foldl (setK t l m) f)))], σ.gens⟩) (Ev.callT "range" (EvL.cons (Ev.int (EvL.nil (OpL.range fun a => ?_))))))
          dsimp only
          refine ⟨upTo 6, _, ItTo.range hA (by decide) (by decide), ⟨hok, hl, n, by omega, ⟨rfl, rfl, rfl, rfl, trivial⟩, rfl, rfl⟩, ?_, ?_⟩
          · rintro k u hu ⟨l4, d4, g4⟩ ⟨hok', hl', n', hn', hH⟩
            obtain ⟨hk, rfl⟩ := upTo_get hu
            dsimp only
            refine ExS.has (σ := ⟨[("k", vI k), ("may", vI m), ("front", vI t), ("lines", vR d), ("net", vR b)], [(d, .dct n' (toF ((List.range k).foldl (setK t l m) f)))], σ.gens⟩) ?_ ⟨⟨rfl, hH.loc⟩, hH.led, hH.gens⟩
            have st3 := foldl_range_succ (setK t l m) f k
            generalize hG : (List.range k).foldl (setK t l m) f = f' at st3 ⊢ hok' hl'
            have hFl' : toF f' (t : Int) = some (tupV l) := by simp [toF, hl']
            have hp := pow_pos2 k
            refine ExS.cons ?_
            repeat walk_at "s"
            refine ⟨fun hc => ?_, fun hc => ?_⟩
            · have hc' : bitB m k = true := hc
              have e3 : (List.range (k + 1)).foldl (setK t l m) f = setT f' ((t : Int) + 1 * 2 ^ ((k : Int)).toNat) (l ++ [k]) := by rw [st3]; simp only [setK, hc', if_true]
              refine ExS.cons (Ex.setI (Ev.bin (Ev.sub (Ev.nm rfl (Ev.nm rfl (OpS.dct (.head _) hFl' (Ev.tup ?_)))))))
              repeat walk_at "s"
              refine ⟨[.int k 0], rfl, by simp, Op2.addT (by simp; omega) ?_⟩
              repeat walk_at "s"
              refine Op2.shlI (by omega) (by omega) (by decide) ?_
              repeat walk_at "s"
              refine SetOp.dct (i := 0) rfl (by omega) ?_
              refine ExS.nil (ExS.nil ⟨?_, ?_, n' + 1, by omega, ⟨rfl, rfl, rfl, rfl, trivial⟩, ?_, rfl⟩)
              · rw [e3]
                refine hok'.set ?_ ?_
                · rw [List.length_append, List.length_singleton]
                  omega
                · intro x hx
                  simp at hx
                  rcases hx with hx | hx
                  · exact hlk x hx
                  · omega
              · rw [e3]; unfold setT; rw [if_neg (by omega)]; exact hl'
              · rw [e3, ← toF_set]; simp [tupV]
            · have hc' : bitB m k = false := hc
              have e3 : (List.range (k + 1)).foldl (setK t l m) f = f' := by rw [st3]; simp only [setK, hc', Bool.false_eq_true, if_false]
              refine ExS.nil (ExS.nil ⟨?_, ?_, n', by omega, ⟨rfl, rfl, rfl, rfl, trivial⟩, ?_, rfl⟩)
              · rw [e3]; exact hok'
              · rw [e3]; exact hl'
              · rw [e3]
          · rintro ⟨l4, d4, g4⟩ ⟨hok', hl', n', hn', hH⟩
            rw [upTo_length] at hok' hH
            refine ExS.nil (ExS.nil ⟨?_, n', ?_, ⟨hH.loc.2.2.1, hH.loc.2.2.2.1, trivial⟩, ?_, hH.gens⟩)
            · rw [step']; exact hok'
            · simp at hn'; omega
            · rw [step']; exact hH.led
    · have hl : f (t : Int) = none := by
        cases q : f (t : Int) with
        | none => rfl
        | some l => simp [toF, q] at hb
      have step' : lineTab net (t + 1) = f := by rw [step]; simp only [frontStep, hl]
      refine ExS.nil (ExS.nil ⟨?_, n, by omega, ⟨rfl, rfl, trivial⟩, ?_, rfl⟩)
      · rw [step']; exact hok
      · rw [step']
  · rintro ⟨l3, d3, g3⟩ ⟨hok, n, hn, hH⟩
    rw [upTo_length] at hH
    refine ExS.has (σ := ⟨[("lines", vR d), ("net", vR b)], [(d, .dct n (toF (lineTab net 63)))], σ.gens⟩) ?_ hH
    refine ExS.cons (Ex.ret (Ev.getD (Ev.nm rfl ⟨_, _, _, rfl, .head _, Ev.int ⟨_, rfl, .head _, ?_⟩⟩)))
    exact ⟨rfl, [], List.nil_sublist _, h⟩
end
end

section
open PySem PySem.Calls PyProof.Rows

noncomputable def tx (l : List Nat) : Str := ⟨l.toArray⟩
theorem tx_length (l : List Nat) : (tx l).length = l.length := by simp [tx, Str.length]
theorem tx_append (l m : List Nat) : tx l ++ tx m = tx (l ++ m) := by
  show Str.append _ _ = _
  simp [tx, Str.append]
theorem abc_eq : Str.ofString "abcdef" = tx [97, 98, 99, 100, 101, 102] := by decide +kernel
theorem bs_eq : Str.ofString "\\" = tx [92] := by decide +kernel
theorem abc_get {k : Nat} (h : k < 6) : (Str.ofString "abcdef").cps[((k : Int)).toNat]? = some (97 + k) := by
  rw [abc_eq, Int.toNat_natCast]
  exact (by decide : ∀ k, k < 6 → (tx [97, 98, 99, 100, 101, 102]).cps[k]? = some (97 + k)) k h
noncomputable def endsQ (net : List Int) (p : Nat) (front : Int) (k : Nat) : Bool := bitB (nat net k) p && (Builtin.bitAnd (nat net k) (63 - front) == 0)
noncomputable def wrK (net : List Int) (p : Nat) (front : Int) (t : List Nat) (k : Nat) : List Nat := if endsQ net p front k then t ++ [92, 97 + k] else t
noncomputable def frontOf (l : List Nat) : Int := l.foldl (fun (f : Int) (p : Nat) => Builtin.bitOr f (2 ^ ((p : Int)).toNat)) 0
noncomputable def wrStep (net : List Int) (l : List Nat) (t : List Nat) (i : Nat) : List Nat := (l.take (i + 1)).foldl (wrK net (l.getD i 0) (frontOf (l.take (i + 1)))) (t ++ [97 + l.getD i 0])
noncomputable def written (l : List Nat) (net : List Int) : List Nat := (List.range 6).foldl (wrStep net l) []
theorem wrK_len (net : List Int) (p : Nat) (front : Int) (t : List Nat) (k : Nat) : (wrK net p front t k).length ≤ t.length + 2 := by
  unfold wrK; split <;> simp
section
variable {c : Cx} {σ : Sg} {F : List (Addr × LO)} {s s₁ : Shared} {K : V → Sg → Prop} {N : Sg → Prop} {R : V → Sg → Prop} {loc : List (Str × V)} {led : List (Addr × LO)} {g : Array GenState}
theorem Op2.addS {x y : Str} (hl : x.length + y.length ≤ 1000) (h : K (vS (x ++ y)) σ) : Op2 c σ (vS x) (vS y) (binaryOp .Add) K := fun F s v w S hv hw => by
  obtain ⟨t, rfl⟩ := is_str hv
  obtain ⟨u, rfl⟩ := is_str hw
  exact wpAny_with_toks (Nat.le_refl s.toks) (add_str (fun t' tk ht => Pv.tok S h rfl ht) (by rw [sizeLine_eq]; omega))
set_option maxHeartbeats 2000000 in
theorem FnAt.written {b : Addr} {net : List Int} {l : List Nat} (hlen : net.length = 6) (hl : l.length = 6) (h6 : ∀ k ∈ l, k < 6) (hr : Room 2 c.A) (hat : HasL c σ b (net.map vI)) (h : K (vS (tx (Mine.written l net))) σ) : FnAt c σ (fn 16) [tupV l, vR b] K := by
  refine FnAt.bodyD (names := ["line", "net"]) (hr.mono (by decide)) (fun F s ad cd S => ?_) (hb := fun pm cd doc => len2 fun v w => rfl) (hn := by decide)
  have hr' : Room 1 (callee c (fn 16) s ad cd).A := hr.deeper
  have hA : (callee c (fn 16) s ad cd).A.handled = none := hr.1
  have hold : ∀ σ', HasL (callee c (fn 16) s ad cd) σ' b (net.map vI) := fun σ' => .inl (hat.at S)
  refine ExS.cons ?_
  repeat walk_at "s"
  rw [show Str.ofString "" = tx [] from by decide +kernel]
  refine Ex.for_ (fun t σ' => ∃ tt : List Nat, tt = (List.range t).foldl (wrStep net l) [] ∧ tt.length ≤ 13 * t ∧ σ'.Has ⟨[("text", vS (tx tt)), ("front", vI (frontOf (l.take t))), ("line", tupV l), ("net", vR b)], [], σ.gens⟩) (Ev.callT "range" (EvL.cons (Ev.int (EvL.nil (OpL.range fun a => ?_)))))
  dsimp only
  refine ⟨upTo 6, _, ItTo.range hA (by decide) (by decide), ⟨[], rfl, by simp, ⟨rfl, rfl, rfl, rfl, trivial⟩, rfl, rfl⟩, ?_, ?_⟩
  · rintro i u hu ⟨l3, d3, g3⟩ ⟨tt, htt, htl, hH⟩
    obtain ⟨hi, rfl⟩ := upTo_get hu
    dsimp only
    refine ExS.has (σ := ⟨[("step", vI i), ("text", vS (tx tt)), ("front", vI (frontOf (l.take i))), ("line", tupV l), ("net", vR b)], [], σ.gens⟩) ?_ ⟨⟨rfl, hH.loc⟩, hH.led, hH.gens⟩
    have step := foldl_range_succ (wrStep net l) [] i
    rw [← htt] at step
    have hil : i < l.length := by omega
    have hp : l.getD i 0 = l[i] := by simp [hil]
    have hp6 : l[i] < 6 := h6 _ (List.getElem_mem hil)
    have hget : (l.map fun (k : Nat) => Value.int (k : Int) 0)[((i : Int)).toNat]? = some (.int (l[i] : Nat) 0) := by
      rw [Int.toNat_natCast, List.getElem?_map, List.getElem?_eq_getElem hil]; rfl
    have hfr : frontOf (l.take (i + 1)) = Builtin.bitOr (frontOf (l.take i)) (2 ^ ((l[i] : Nat) : Int).toNat) := by
      unfold frontOf; rw [List.take_add_one, List.getElem?_eq_getElem hil, List.foldl_append]; rfl
    generalize hpp : l[i] = p at hp hp6 hget hfr
    refine ExS.cons ?_
    repeat walk_at "s"
    refine OpS.tup (by omega) hget ?_ (by omega)
    refine OpS.str (by omega) (abc_get hp6) ?_ (by omega)
    refine Op2.addS (by rw [tx_length]; show tt.length + 1 ≤ 1000; omega) ?_
    rw [show tx tt ++ (⟨#[97 + p]⟩ : Str) = tx (tt ++ [97 + p]) from tx_append tt [97 + p]]
    dsimp only
    refine ExS.cons (Ex.asg (Ev.callF 8 ?_))
    repeat walk_at "s"
    refine Ev.callF 6 ?_
    repeat walk_at "s"
    refine OpS.tup (by omega) hget ?_ (by omega)
    repeat walk_at "s"
    refine FnAt.lshift hr' (by omega) (by omega) ?_
    repeat walk_at "s"
    refine FnAt.or_ hr' ?_
    dsimp only
    rw [← hfr]
    generalize hfq : frontOf (l.take (i + 1)) = fr at hfr
    refine ExS.cons (Ex.for_ (fun j σ' => ∃ t2 : List Nat, t2 = ((l.take (i + 1)).take j).foldl (wrK net p fr) (tt ++ [97 + p]) ∧ t2.length ≤ 13 * i + 1 + 2 * j ∧ σ'.Has ⟨[("text", vS (tx t2)), ("front", vI fr), ("step", vI i), ("line", tupV l), ("net", vR b)], [], σ.gens⟩) (Ev.slT (Ev.nm rfl ⟨_, rfl, Ev.bin (Ev.nm rfl (Ev.int (Op2.addI ⟨i + 1, rfl, by simp; omega, by simp; omega, ?_⟩)))⟩)))
    rw [← List.map_take]
    refine ⟨_, _, ItTo.tup hA, ⟨tt ++ [97 + p], by simp, by simp; omega, ⟨rfl, rfl, rfl, rfl, rfl, trivial⟩, rfl, rfl⟩, ?_, ?_⟩
    · rintro j u hu ⟨l4, d4, g4⟩ ⟨t2, ht2, htl2, hH⟩
      have : ∃ k, (l.take (i + 1))[j]? = some k ∧ u = vI k := by
        rw [List.getElem?_map, List.getElem?_map] at hu
        cases hk : (l.take (i + 1))[j]? with
        | none => rw [hk] at hu; cases hu
        | some k => rw [hk] at hu; exact ⟨k, rfl, (Option.some.inj hu).symm⟩
      obtain ⟨k, hk, rfl⟩ := this
      have hk6 : k < 6 := h6 k (List.mem_of_mem_take (List.mem_of_getElem? hk))
      have hj : j < 6 := by have := (List.getElem?_eq_some_iff.mp hk).1; simp at this; omega
      have st2 : ((l.take (i + 1)).take (j + 1)).foldl (wrK net p fr) (tt ++ [97 + p]) = wrK net p fr t2 k := by
        rw [List.take_add_one, hk, ht2]; simp
      dsimp only
      refine ExS.has (σ := ⟨[("k", vI k), ("text", vS (tx t2)), ("front", vI fr), ("step", vI i), ("line", tupV l), ("net", vR b)], [], σ.gens⟩) ?_ ⟨⟨rfl, hH.loc⟩, hH.led, hH.gens⟩
      refine ExS.cons ?_
      repeat walk_at "s"
      refine OpS.lstN (hold _) (map_get (by omega)) ?_ (by omega)
      repeat walk_at "s"
      refine OpS.tup (by omega) hget ?_ (by omega)
      repeat walk_at "s"
      refine ⟨fun h1 => ?_, fun h1 => ⟨(fun h => nomatch h), fun _ => ?_⟩⟩
      · have h1' : bitB (nat net k) p = true := h1
        refine EvA.andCons (EvT.cmp (Ev.callF 5 ?_))
        repeat walk_at "s"
        refine OpS.lstN (hold _) (map_get (by omega)) ?_ (by omega)
        repeat walk_at "s"
        refine FnAt.and_ hr' ?_
        repeat walk_at "s"
        refine ⟨fun h2 => EvA.andNil ⟨fun _ => ?_, (fun h => nomatch h)⟩, fun h2 => ⟨(fun h => nomatch h), fun _ => ?_⟩⟩
        · have hq : endsQ net p fr k = true := Bool.and_eq_true_iff.mpr ⟨h1', h2⟩
          refine ExS.cons ?_
          repeat walk_at "s"
          rw [bs_eq]
          refine Op2.addS (by rw [tx_length, tx_length]; show t2.length + 1 ≤ 1000; omega) ?_
          rw [tx_append]
          repeat walk_at "s"
          refine OpS.str (by omega) (abc_get hk6) ?_ (by omega)
          refine Op2.addS (by rw [tx_length, List.length_append]; show t2.length + 1 + 1 ≤ 1000; omega) ?_
          rw [show tx (t2 ++ [92]) ++ (⟨#[97 + k]⟩ : Str) = tx (t2 ++ [92] ++ [97 + k]) from tx_append _ [97 + k]]
          refine ExS.nil (ExS.nil ⟨t2 ++ [92] ++ [97 + k], ?_, by simp; omega, ⟨rfl, rfl, rfl, rfl, rfl, trivial⟩, rfl, rfl⟩)
          rw [st2]; unfold wrK; rw [if_pos hq]; simp
        · have hq : endsQ net p fr k = false := Bool.and_eq_false_iff.mpr (.inr h2)
          refine ExS.nil (ExS.nil ⟨t2, ?_, by omega, ⟨rfl, rfl, rfl, rfl, rfl, trivial⟩, rfl, rfl⟩)
          rw [st2]; unfold wrK; rw [if_neg (by simp [hq])]
      · have hq : endsQ net p fr k = false := Bool.and_eq_false_iff.mpr (.inl h1)
        refine ExS.nil (ExS.nil ⟨t2, ?_, by omega, ⟨rfl, rfl, rfl, rfl, rfl, trivial⟩, rfl, rfl⟩)
        rw [st2]; unfold wrK; rw [if_neg (by simp [hq])]
    · rintro ⟨l4, d4, g4⟩ ⟨t2, ht2, htl2, hH⟩
      have hq : ((l.take (i + 1)).map fun (k : Nat) => Value.int (k : Int) 0).map V.p = (l.take (i + 1)).map fun (k : Nat) => vI k := by rw [List.map_map]; rfl
      simp only [List.length_map, List.length_take] at ht2 htl2
      rw [List.take_of_length_le (l := l.take (i + 1)) (by simp)] at ht2
      refine ExS.nil ⟨t2, ?_, by omega, ⟨hH.loc.1, ?_, hH.loc.2.2.2.1, hH.loc.2.2.2.2.1, trivial⟩, hH.led, hH.gens⟩
      · rw [step]; unfold wrStep; rw [hfq, hp]; exact ht2
      · exact hH.loc.2.1
  · rintro ⟨l3, d3, g3⟩ ⟨tt, htt, htl, hH⟩
    rw [upTo_length] at htt
    refine ExS.has (σ := ⟨[("text", vS (tx tt))], [], σ.gens⟩) ?_ ⟨⟨hH.loc.1, trivial⟩, hH.led, hH.gens⟩
    refine ExS.cons ?_
    repeat walk_at "s"
    refine ⟨rfl, [], List.nil_sublist _, ?_⟩
    rw [htt]
    exact h
end
end

section
open PySem PySem.Calls PyProof.Rows

noncomputable def wayOf (p c : Int) : Int := (p - c).fmod 24
noncomputable def shareOf (p c : Int) : Int := min 4 (max 0 (8 - min (wayOf p c) (24 - wayOf p c)))
noncomputable def partOf (p r c : Int) : UInt64 := fracF (16 - 4 * r + r * shareOf p c) 16
noncomputable def corner (i : Nat) : Int := 8 * i
noncomputable def paint (p r : Int) (n : Nat) : List V := (List.range n).map fun i => vF (partOf p r (corner i))
theorem paint_succ (p r : Int) (n : Nat) : paint p r (n + 1) = paint p r n ++ [vF (partOf p r (corner n))] := by simp [paint, List.range_succ]
theorem mulOk_small {a b : Int} (h : Builtin.Int.intBits a ≤ 64) : IntMulOk a b := IntMulOk.of_left h
section
variable {c : Cx} {σ : Sg} {F : List (Addr × LO)} {s s₁ : Shared} {K : V → Sg → Prop} {N : Sg → Prop} {R : V → Sg → Prop} {loc : List (Str × V)} {led : List (Addr × LO)} {g : Array GenState}
theorem Ev.tup3 {x y z : Expr} {k : Nat} {p : Pos} {u v w : Value} (h : EvL c σ [x, y, z] (fun us σ' => us = [.p u, .p v, .p w] ∧ K (.t [u, v, w]) σ')) : Ev c σ (.Tuple [x, y, z] k p) K := by
  refine Ev.tup (fun pos F s S => wpAny_mono (h pos F s S) (fun vs s' hx => ?_) fun _ _ x => x)
  obtain ⟨us, σ', S', k, hu, e, hK⟩ := hx
  exact ⟨us, σ', S', k, hu, [u, v, w], e, by simp, hK⟩
set_option maxHeartbeats 2000000 in
theorem FnAt.paint {p r : Int} (hp : Builtin.Int.intBits r ≤ 64) (hfin : ∀ i, i < 3 → Float64.isInf (partOf p r (corner i)) = false) (hps : c.pos = true) (hr : Room 2 c.A) (h : ∀ a, K (vR a) ⟨σ.loc, (a, .pl (Mine.paint p r 3)) :: σ.led, σ.gens⟩) : FnAt c σ (fn 12) [vI p, vI r] K := by
  refine FnAt.bodyD (names := ["place", "reach"]) (hr.mono (by decide)) (fun F s ad cd S => ?_) (hb := fun pm cd doc => len2 fun v w => rfl) (hn := by decide)
  have hr' : Room 1 (callee c (fn 12) s ad cd).A := hr.deeper
  have hA : (callee c (fn 12) s ad cd).A.handled = none := hr.1
  have hpos : (callee c (fn 12) s ad cd).pos = true := hps
  refine ExS.cons ?_
  refine Ex.asg ?_
  refine Ev.plst (EvL.nil ⟨by decide, fun D => ?_⟩)
  dsimp only
  refine ExS.cons ?_
  refine Ex.for_ (fun i σ' => σ'.Has ⟨[("parts", vR D), ("place", vI p), ("reach", vI r)], [(D, .pl (Mine.paint p r i))], σ.gens⟩) ?_
  refine Ev.tup3 (u := .int 0 0) (v := .int 8 0) (w := .int 16 0) ?_
  repeat walk_at "s"
  refine ⟨rfl, _, _, ItTo.tup hA, ⟨⟨rfl, rfl, rfl, trivial⟩, rfl, rfl⟩, ?_, ?_⟩
  · rintro i u hu ⟨l3, d3, g3⟩ hH
    have hi : i < 3 ∧ u = vI (corner i) := by
      match i, hu with
      | 0, hu => exact ⟨by decide, (Option.some.inj hu).symm⟩
      | 1, hu => exact ⟨by decide, (Option.some.inj hu).symm⟩
      | 2, hu => exact ⟨by decide, (Option.some.inj hu).symm⟩
      | i + 3, hu => simp at hu
    obtain ⟨hi, rfl⟩ := hi
    dsimp only
    refine ExS.has (σ := ⟨[("corner", vI (corner i)), ("parts", vR D), ("place", vI p), ("reach", vI r)], [(D, .pl (Mine.paint p r i))], σ.gens⟩) ?_ ⟨⟨rfl, hH.loc⟩, hH.led, hH.gens⟩
    have hps := paint_succ p r i
    have hf := hfin i hi
    unfold partOf at hps hf
    have hlen : (Mine.paint p r i).length = i := by simp [Mine.paint]
    generalize hc : corner i = cr at hps hf ⊢
    refine ExS.cons (Ex.asg (Ev.callF 7 ?_))
    refine EvL.cons (Ev.callF 9 ?_)
    repeat walk_at "s"
    refine FnAt.sub hr' ?_
    repeat walk_at "s"
    refine FnAt.mod hr' (by decide) ?_
    dsimp only
    refine ExS.cons (Ex.asg ?_)
    refine Ev.callB "min" (EvL.cons ?_)
    repeat walk_at "s"
    refine Ev.callB "max" (EvL.cons ?_)
    repeat walk_at "s"
    refine Ev.callB "min" (EvL.cons ?_)
    repeat walk_at "s"
    refine OpL.min2 hA ?_
    repeat walk_at "s"
    refine OpL.max2 hA ?_
    repeat walk_at "s"
    refine OpL.min2 hA ?_
    dsimp only
    refine ExS.cons ?_
    refine Ex.app ?_
    refine Ev.nm rfl ⟨D, Mine.paint p r i, 0, rfl, rfl, by omega, ?_⟩
    repeat walk_at "s"
    refine Op2.mulI (mulOk_small (by decide)) ?_
    repeat walk_at "s"
    refine Op2.mulI (mulOk_small hp) ?_
    repeat walk_at "s"
    refine Op2.divII (by decide) hf hpos ?_
    refine ⟨rfl, ExS.nil ⟨⟨rfl, rfl, rfl, trivial⟩, ?_, rfl⟩⟩
    rw [hps]
    rfl
  · rintro ⟨l3, d3, g3⟩ hH
    refine ExS.has (σ := ⟨[("parts", vR D)], [(D, .pl (Mine.paint p r 3))], σ.gens⟩) ?_ ⟨⟨hH.loc.1, trivial⟩, hH.led, hH.gens⟩
    refine ExS.cons ?_
    repeat walk_at "s"
    exact ⟨rfl, _, List.Sublist.refl _, h D⟩

noncomputable def maxc (r g b : UInt64) : UInt64 := best3 gtF r g b
noncomputable def minc (r g b : UInt64) : UInt64 := best3 ltF r g b
noncomputable def rangec (r g b : UInt64) : UInt64 := Float64.sub (maxc r g b) (minc r g b)
noncomputable def cc (r g b x : UInt64) : UInt64 := Float64.div (Float64.sub (maxc r g b) x) (rangec r g b)
noncomputable def hue0 (r g b : UInt64) : UInt64 := if eqF r (maxc r g b) then Float64.sub (cc r g b b) (cc r g b g) else if eqF g (maxc r g b) then Float64.sub (Float64.add 0x4000000000000000 (cc r g b r)) (cc r g b b) else Float64.sub (Float64.add 0x4010000000000000 (cc r g b g)) (cc r g b r)
noncomputable def hueOf (r g b : UInt64) : UInt64 := (Float64.divmod (Float64.div (hue0 r g b) 0x4018000000000000) 0x3ff0000000000000).snd
noncomputable def satOf (r g b : UInt64) : UInt64 := Float64.div (rangec r g b) (maxc r g b)
noncomputable def rgbOk (r g b : UInt64) : Bool := !eqF (minc r g b) (maxc r g b) && (!Float64.isZero (maxc r g b) && !Float64.isZero (rangec r g b))
set_option maxHeartbeats 2000000 in
theorem FnAt.rgb {r g b : UInt64} (hok : rgbOk r g b = true) (hps : c.pos = true) (hr : Room 2 c.A) (h : K (.t [.float (hueOf r g b) 1, .float (satOf r g b) 1, .float (maxc r g b) 1]) σ) : FnAt c σ (fn 1) [vF r, vF g, vF b] K := by
  refine FnAt.bodyD (names := ["r", "g", "b"]) (hr.mono (by decide)) (fun F s ad cd S => ?_) (hb := fun pm cd doc => len3 fun v w z => rfl) (hn := by decide)
  have hA : (callee c (fn 1) s ad cd).A.handled = none := hr.1
  have hpos : (callee c (fn 1) s ad cd).pos = true := hps
  have h1 : eqF (minc r g b) (maxc r g b) = false := by unfold rgbOk at hok; simp at hok; exact hok.1
  have h2 : Float64.isZero (maxc r g b) = false := by unfold rgbOk at hok; simp at hok; exact hok.2.1
  have h3 : Float64.isZero (rangec r g b) = false := by unfold rgbOk at hok; simp at hok; exact hok.2.2
  refine ExS.cons ?_
  refine Ex.asg (Ev.callB "max" (EvL.cons ?_))
  repeat walk_at "s"
  refine OpL.max3 hA ?_
  dsimp only
  rw [show best3 gtF r g b = maxc r g b from rfl]
  refine ExS.cons ?_
  refine Ex.asg (Ev.callB "min" (EvL.cons ?_))
  repeat walk_at "s"
  refine OpL.min3 hA ?_
  dsimp only
  rw [show best3 ltF r g b = minc r g b from rfl]
  refine ExS.cons ?_
  repeat walk_at "s"
  rw [show Float64.sub (maxc r g b) (minc r g b) = rangec r g b from rfl]
  refine ⟨fun e => ?_, fun _ => ?_⟩
  · rw [h1] at e; cases e
  refine ExS.nil ?_
  dsimp only
  refine ExS.cons ?_
  repeat walk_at "s"
  refine Op2.divF h2 hpos ?_
  dsimp only
  refine ExS.cons ?_
  repeat walk_at "s"
  refine Op2.divF h3 hpos ?_
  dsimp only
  refine ExS.cons ?_
  repeat walk_at "s"
  refine Op2.divF h3 hpos ?_
  dsimp only
  refine ExS.cons ?_
  repeat walk_at "s"
  refine Op2.divF h3 hpos ?_
  dsimp only
  have fin : ∀ (hh : UInt64) (l : List (Str × V)), hh = hue0 r g b → ExS (callee c (fn 1) s ad cd) ⟨("h", vF hh) :: ("bc", vF (cc r g b b)) :: ("gc", vF (cc r g b g)) :: ("rc", vF (cc r g b r)) :: ("s", vF (satOf r g b)) :: ("v", vF (maxc r g b)) :: l, [], σ.gens⟩ ((fn 1).body.drop 10) (fun _ => False) (fun u σ' => σ'.gens = σ.gens ∧ ∃ led', led'.Sublist σ'.led ∧ K u ⟨σ.loc, led' ++ σ.led, σ.gens⟩) := by
    intro hh l e
    subst e
    refine ExS.cons ?_
    repeat walk_at "s"
    refine Op2.divF (by decide +kernel) hpos ?_
    repeat walk_at "s"
    refine Op2.modF (by decide +kernel) hpos ?_
    dsimp only
    refine ExS.cons ?_
    refine Ex.ret (Ev.tup3 (u := .float (hueOf r g b) 1) (v := .float (satOf r g b) 1) (w := .float (maxc r g b) 1) ?_)
    repeat walk_at "s"
    exact ⟨rfl, rfl, [], List.nil_sublist _, h⟩
  refine ExS.cons ?_
  repeat walk_at "s"
  refine ⟨fun e => ?_, fun e => ?_⟩
  · refine ExS.cons ?_
    repeat walk_at "s"
    refine ExS.nil (fin _ _ ?_)
    unfold hue0; rw [if_pos e]; rfl
  · refine ExS.cons ?_
    repeat walk_at "s"
    refine ⟨fun e2 => ?_, fun e2 => ?_⟩
    · refine ExS.cons ?_
      repeat walk_at "s"
      refine ExS.nil (ExS.nil (fin _ _ ?_))
      unfold hue0; rw [if_neg (by simp [e]), if_pos e2]; rfl
    · refine ExS.cons ?_
      repeat walk_at "s"
      refine ExS.nil (ExS.nil (fin _ _ ?_))
      unfold hue0; rw [if_neg (by simp [e]), if_neg (by simp [e2])]; rfl
end
end

section
open PySem PySem.Calls PyProof.Rows

noncomputable def isFin (x : UInt64) : Bool := match Float64.decode x with
  | .fin _ _ _ => true
  | _ => false
noncomputable def roundI (x : UInt64) : Int := match Float64.decode x with
  | .fin s m e => Float64.nearestOf s m e
  | _ => 0
theorem isFin_dec {x : UInt64} (h : isFin x = true) : ∃ s m e, Float64.decode x = .fin s m e ∧ roundI x = Float64.nearestOf s m e := by
  unfold isFin at h
  unfold roundI
  cases hd : Float64.decode x with
  | fin s m e => exact ⟨s, m, e, rfl, rfl⟩
  | _ => rw [hd] at h; cases h
noncomputable def hue24 (x y z : UInt64) : UInt64 := Float64.mul (hueOf x y z) (Float64.ofInt 24)
noncomputable def sat4 (x y z : UInt64) : UInt64 := Float64.mul (satOf x y z) (Float64.ofInt 4)
noncomputable def toldOk (x y z : UInt64) : Bool := rgbOk x y z && (isFin (hue24 x y z) && isFin (sat4 x y z))
noncomputable def toldOf (x y z : UInt64) : List Value := [.int (roundI (hue24 x y z)) 0, .int (roundI (sat4 x y z)) 0, .float (maxc x y z) 1]
section
variable {c : Cx} {σ : Sg} {F : List (Addr × LO)} {s s₁ : Shared} {K : V → Sg → Prop} {N : Sg → Prop} {R : V → Sg → Prop} {loc : List (Str × V)} {led : List (Addr × LO)} {g : Array GenState}
theorem OpL.roundF {x : UInt64} (h1 : isFin x = true) (h : K (vI (roundI x)) σ) : OpL c σ [vF x] (fun vs => call (.builtin "round") vs) K := by
  obtain ⟨s, m, e, hd, er⟩ := isFin_dec h1
  exact OpL.round hd (er ▸ h)
set_option maxHeartbeats 2000000 in
theorem FnAt.told {a : Addr} {x y z : UInt64} (hok : toldOk x y z = true) (hps : c.pos = true) (hr : Room 3 c.A) (hat : HasL c σ a [vF x, vF y, vF z]) (h : K (.t (toldOf x y z)) σ) : FnAt c σ (fn 13) [vR a] K := by
  refine FnAt.bodyD (names := ["parts"]) (hr.mono (by decide)) (fun F s ad cd S => ?_) (hb := fun pm cd doc => len1 fun v => rfl) (hn := by decide)
  have hA : (callee c (fn 13) s ad cd).A.handled = none := hr.1
  have hpos : (callee c (fn 13) s ad cd).pos = true := hps
  have hr' : Room 2 (callee c (fn 13) s ad cd).A := hr.deeper
  have hold : ∀ σ', HasL (callee c (fn 13) s ad cd) σ' a [vF x, vF y, vF z] := fun σ' => .inl (hat.at S)
  have h1 : rgbOk x y z = true := by unfold toldOk at hok; simp at hok; exact hok.1
  have h2 : isFin (hue24 x y z) = true := by unfold toldOk at hok; simp at hok; exact hok.2.1
  have h3 : isFin (sat4 x y z) = true := by unfold toldOk at hok; simp at hok; exact hok.2.2
  refine ExS.cons ?_
  refine Ex.unp3 hA ?_
  refine Ev.callF 1 ?_
  repeat walk_at "s"
  refine OpS.lst (hold _) (by decide) rfl ?_
  repeat walk_at "s"
  refine OpS.lst (hold _) (by decide) rfl ?_
  repeat walk_at "s"
  refine OpS.lst (hold _) (by decide) rfl ?_
  repeat walk_at "s"
  refine FnAt.rgb h1 hpos hr' ⟨_, _, _, rfl, ?_⟩
  dsimp only
  refine ExS.cons ?_
  refine Ex.ret (Ev.tup3 (u := .int (roundI (hue24 x y z)) 0) (v := .int (roundI (sat4 x y z)) 0) (w := .float (maxc x y z) 1) ?_)
  refine EvL.cons (Ev.callB "round" (EvL.cons ?_))
  repeat walk_at "s"
  refine Op2.mulFI (by decide +kernel) hpos ?_
  repeat walk_at "s"
  refine OpL.roundF h2 ?_
  refine EvL.cons (Ev.callB "round" (EvL.cons ?_))
  repeat walk_at "s"
  refine Op2.mulFI (by decide +kernel) hpos ?_
  repeat walk_at "s"
  refine OpL.roundF h3 ?_
  repeat walk_at "s"
  exact ⟨rfl, rfl, [], List.nil_sublist _, h⟩
end
/-- all paints are told back right -/
noncomputable def tell (x : Nat) : List Value := toldOf (partOf (x % 24 : Nat) (1 + x / 24 : Nat) (corner 0)) (partOf (x % 24 : Nat) (1 + x / 24 : Nat) (corner 1)) (partOf (x % 24 : Nat) (1 + x / 24 : Nat) (corner 2))
noncomputable def tellOk (x : Nat) : Bool := toldOk (partOf (x % 24 : Nat) (1 + x / 24 : Nat) (corner 0)) (partOf (x % 24 : Nat) (1 + x / 24 : Nat) (corner 1)) (partOf (x % 24 : Nat) (1 + x / 24 : Nat) (corner 2))
  && ((List.range 3).all (fun i => !Float64.isInf (partOf (x % 24 : Nat) (1 + x / 24 : Nat) (corner i)))
  && decide (roundI (hue24 (partOf (x % 24 : Nat) (1 + x / 24 : Nat) (corner 0)) (partOf (x % 24 : Nat) (1 + x / 24 : Nat) (corner 1)) (partOf (x % 24 : Nat) (1 + x / 24 : Nat) (corner 2))) = (x % 24 : Nat)
    ∧ roundI (sat4 (partOf (x % 24 : Nat) (1 + x / 24 : Nat) (corner 0)) (partOf (x % 24 : Nat) (1 + x / 24 : Nat) (corner 1)) (partOf (x % 24 : Nat) (1 + x / 24 : Nat) (corner 2))) = (1 + x / 24 : Nat)
    ∧ maxc (partOf (x % 24 : Nat) (1 + x / 24 : Nat) (corner 0)) (partOf (x % 24 : Nat) (1 + x / 24 : Nat) (corner 1)) (partOf (x % 24 : Nat) (1 + x / 24 : Nat) (corner 2)) = 0x3ff0000000000000))
theorem tell_q0 : (List.range 12).all (fun i => tellOk (0 + i)) = true := by decide +kernel
theorem tell_q1 : (List.range 12).all (fun i => tellOk (12 + i)) = true := by decide +kernel
theorem tell_q2 : (List.range 12).all (fun i => tellOk (24 + i)) = true := by decide +kernel
theorem tell_q3 : (List.range 12).all (fun i => tellOk (36 + i)) = true := by decide +kernel
theorem tell_q4 : (List.range 12).all (fun i => tellOk (48 + i)) = true := by decide +kernel
theorem tell_q5 : (List.range 12).all (fun i => tellOk (60 + i)) = true := by decide +kernel
theorem tell_q6 : (List.range 12).all (fun i => tellOk (72 + i)) = true := by decide +kernel
theorem tell_q7 : (List.range 12).all (fun i => tellOk (84 + i)) = true := by decide +kernel
theorem tell_from {n k : Nat} (q : (List.range 12).all (fun i => tellOk (k + i)) = true) (a : k ≤ n) (b : n < k + 12) : tellOk n = true := by
  have := List.all_eq_true.mp q (n - k) (List.mem_range.mpr (by omega))
  rwa [show k + (n - k) = n by omega] at this
theorem tell_all {n : Nat} (h : n < 96) : tellOk n = true := by
  by_cases a1 : n < 12
  · exact tell_from tell_q0 (Nat.zero_le _) a1
  by_cases a2 : n < 24
  · exact tell_from tell_q1 (Nat.le_of_not_lt a1) a2
  by_cases a3 : n < 36
  · exact tell_from tell_q2 (Nat.le_of_not_lt a2) a3
  by_cases a4 : n < 48
  · exact tell_from tell_q3 (Nat.le_of_not_lt a3) a4
  by_cases a5 : n < 60
  · exact tell_from tell_q4 (Nat.le_of_not_lt a4) a5
  by_cases a6 : n < 72
  · exact tell_from tell_q5 (Nat.le_of_not_lt a5) a6
  by_cases a7 : n < 84
  · exact tell_from tell_q6 (Nat.le_of_not_lt a6) a7
  exact tell_from tell_q7 (Nat.le_of_not_lt a7) h
end

section
open PySem PySem.Calls PyProof.Rows

section
variable {c : Cx} {σ : Sg} {F : List (Addr × LO)} {s s₁ : Shared} {K : V → Sg → Prop} {N : Sg → Prop} {R : V → Sg → Prop} {loc : List (Str × V)} {led : List (Addr × LO)} {g : Array GenState}

theorem St.updE {E E' : List (Addr × LO)} (S : St c ⟨loc, E ++ led, g⟩ F s) (hE : (E'.map (·.1)).Sublist (E.map (·.1))) {h : Heap} {tk : Nat}
    (hk : ∀ b o, b ∉ E.map (·.1) → s.heap.get? b = some o → h.get? b = some o) (hat : ∀ p ∈ E', p.2.At c h p.1) (ht : s.toks ≤ tk := by walk_at "t") :
    St c ⟨loc, E' ++ led, g⟩ F { s with heap := h, toks := tk } ∧ TK s.heap h := by
  have hfact : ∀ b, b ∈ E.map (·.1) → ∃ p ∈ E, p.1 = b ∧ (p.2.At c s.heap p.1 ∧ c.s₀.heap.objs.size ≤ p.1 ∧ p.1 ≠ c.env.locals ∧ ∀ n a, c.env.cells.lookup n = some a → p.1 ≠ a) := fun b hb => by
    obtain ⟨p, hp, e⟩ := List.mem_map.mp hb
    exact ⟨p, hp, e, S.led p (List.mem_append_left _ (List.mem_append_left _ hp))⟩
  have tk' : TK s.heap h := fun a items x => by
    by_cases q : a ∈ E.map (·.1)
    · obtain ⟨p, hp, e, hl⟩ := hfact a q
      subst e
      exact (hl.1.noTup _ x).elim
    · obtain ⟨o, ho, r⟩ := x; exact ⟨o, hk _ _ q ho, r⟩
  refine ⟨⟨S.ok, ?_, fun b o e => ?_, ?_, ?_, fun p hp => ?_, ?_, fun p => Nat.le_trans (S.tp p) ht⟩, tk'⟩
  · obtain ⟨h₁, t₁, e⟩ := S.same; exact ⟨h, tk, by rw [e]⟩
  · refine hk b o (fun q => ?_) (S.keep b o e)
    obtain ⟨p, hp, e', hl⟩ := hfact b q
    exact absurd (e' ▸ Heap.lt_size e) (Nat.not_lt.mpr hl.2.1)
  · obtain ⟨m, hn, hm⟩ := S.ns
    refine ⟨m, hn.at fun o x => hk _ o (fun q => ?_) x, fun x u k e => ?_⟩
    · obtain ⟨p, hp, e', hl⟩ := hfact _ q
      exact hl.2.2.1 e'
    · obtain ⟨v, h1, h2⟩ := hm x u k e; exact ⟨v, h1, h2.mono tk'⟩
  · obtain ⟨cm, hcm, hv⟩ := S.cl
    refine ⟨cm, fun n b e => ?_, fun x u k e => ?_⟩
    · obtain ⟨o, ho, hd⟩ := hcm n b e
      refine ⟨o, hk b o (fun q => ?_) ho, hd⟩
      obtain ⟨p, hp, e', hl⟩ := hfact _ q
      exact hl.2.2.2 n b e e'
    · obtain ⟨v, h1, h2⟩ := hv x u k e; exact ⟨v, h1, h2.mono tk'⟩
  · have nd : ((E ++ led ++ F).map (·.1)).Nodup := S.nd
    rcases List.mem_append.mp hp with hp | hp
    · rcases List.mem_append.mp hp with hp | hp
      · obtain ⟨q, hq, e, hl⟩ := hfact p.1 (hE.subset (List.mem_map.mpr ⟨p, hp, rfl⟩))
        refine ⟨hat p hp, ?_⟩
        rw [← e]; exact hl.2
      · obtain ⟨y, b⟩ := S.led p (List.mem_append_left _ (List.mem_append_right _ hp))
        refine ⟨y.mono (fun o e => hk _ o (fun q => ?_) e) tk', b⟩
        rw [List.append_assoc, List.map_append, List.nodup_append] at nd
        exact nd.2.2 _ q _ (List.mem_map.mpr ⟨p, List.mem_append_left _ hp, rfl⟩) rfl
    · obtain ⟨y, b⟩ := S.led p (List.mem_append_right _ hp)
      refine ⟨y.mono (fun o e => hk _ o (fun q => ?_) e) tk', b⟩
      rw [List.append_assoc, List.map_append, List.nodup_append] at nd
      exact nd.2.2 _ q _ (List.mem_map.mpr ⟨p, List.mem_append_right _ hp, rfl⟩) rfl
  · have nd : ((E ++ led ++ F).map (·.1)).Nodup := S.nd
    refine List.Nodup.sublist ?_ nd
    show ((E' ++ led ++ F).map (·.1)).Sublist _
    rw [List.append_assoc, List.append_assoc, List.map_append (l₁ := E'), List.map_append (l₁ := E)]
    exact List.Sublist.append hE (List.Sublist.refl _)

-- enumerate of a text
noncomputable def EnumI (it : Addr) (i : Nat) (o : Obj) : Prop := ∃ old, o = { cls := .type "enumerate", dict := none, data := .fields #[.none, .bool false, .ref it, rawInt i, .none, old], slots := #[] }
noncomputable def StrI (x : Str) (i : Nat) (o : Obj) : Prop := ∃ t, o.cls = .type (strIterType x) ∧ o.data = .fields #[.str x t, .int i 0]
noncomputable def EnE (e it : Addr) (x : Str) (i : Nat) : List (Addr × LO) := [(e, .is (EnumI it i)), (it, .is (StrI x i))]
theorem drawsStr {prog : Program} {w : World} {A : Around} (hh : A.handled = none) (it : Addr) (x : Str) (t : Tok) :
    Draws prog w A it [it] x.cps.size (fun i v => ∃ c u, x.cps[i]? = some c ∧ v = .str ⟨#[c]⟩ u) (fun i h => h.IsStrIter it (strIterType x) x t i) := by
  unfold strIterType
  split
  · exact Draws.strAscii hh it x t
  · exact Draws.strWide hh it x t
theorem ene_at {e it : Addr} {x : Str} {i : Nat} (S : St c ⟨loc, EnE e it x i ++ led, g⟩ F s) : (∃ old, IsEnum s.heap e it i old) ∧ (∃ t, s.heap.IsStrIter it (strIterType x) x t i) ∧ e ≠ it := by
  obtain ⟨o, ho, _, old, rfl⟩ := (S.led (e, .is (EnumI it i)) (List.mem_append_left _ (List.mem_append_left _ (.head _)))).1
  obtain ⟨o2, ho2, _, t, hc, hd⟩ := (S.led (it, .is (StrI x i)) (List.mem_append_left _ (List.mem_append_left _ (.tail _ (.head _))))).1
  refine ⟨⟨old, ho⟩, ⟨t, o2, ho2, hc, hd⟩, fun q => ?_⟩
  have nd : ((EnE e it x i ++ led ++ F).map (·.1)).Nodup := S.nd
  subst q
  simp [EnE] at nd
theorem ene_of {h : Heap} {e it : Addr} {x : Str} {i : Nat} {t : Tok} (h1 : ∃ old, IsEnum h e it i old) (h2 : h.IsStrIter it (strIterType x) x t i) : ∀ p ∈ EnE e it x i, p.2.At c h p.1 := fun p hp => by
  rcases List.mem_cons.mp hp with rfl | hp
  · obtain ⟨old, ho⟩ := h1
    exact ⟨_, ho, rfl, old, rfl⟩
  · rcases List.mem_cons.mp hp with rfl | hp
    · obtain ⟨o, ho, hc, hd⟩ := h2
      exact ⟨o, ho, by unfold notTupObj; rw [hd], t, hc, hd⟩
    · cases hp
theorem assign2 {xi xv : Str} {pi pv pt : Pos} {k : Nat} {v1 v2 : Value} {w1 w2 : V} {T : Addr} (hA : c.A.handled = none) (hxi : StN c xi) (hxv : StN c xv) (S : St c σ F s) (hT : IsTup s.heap T #[v1, v2]) (h1 : w1.Is s.heap v1) (h2 : w2.Is s.heap v2)
    {Q : Unit → Shared → Prop} (h : ∀ s', St c ⟨(xv, w2) :: (xi, w1) :: σ.loc, σ.led, σ.gens⟩ F s' → TK s.heap s'.heap → Q () s') :
    wpAny (Mo c) c.A (assign (.Tuple [.Name xi pi, .Name xv pv] k pt) c.env (.ref T)) Q NoE s := by
  refine assign_Tuple_tuple hA hT rfl rfl fun h' he => ?_
  have hkp : Kp s.heap h' := fun b o e => he b o (fun q => Nat.lt_irrefl _ (q ▸ Heap.lt_size e)) e
  have S₂ : St c σ F { s with heap := h' } := S.ext (tk := s.toks) hkp
  show wpAny _ _ (assignInOrder [assign (.Name xi pi) c.env, assign (.Name xv pv) c.env] [v1, v2]) _ _ _
  unfold assignInOrder
  refine wpAny_bind (wpAny_holding (wpAny_assign_Name (hxi.store (u := w1) S₂ (h1.mono hkp.tk) fun s₃ S₃ k₃ => ?_)))
  unfold assignInOrder
  refine wpAny_bind (wpAny_holding (wpAny_assign_Name (hxv.store (u := w2) S₃ (h2.mono (hkp.tk.trans k₃)) fun s₄ S₄ k₄ => ?_)))
  unfold assignInOrder
  exact wpAny_pure (h _ S₄ ((hkp.tk.trans k₃).trans k₄))
theorem enum_done {e it : Addr} {x : Str} (hA : c.A.handled = none) (S : St c ⟨loc, EnE e it x x.cps.size ++ led, g⟩ F s) :
    wpAny (Mo c) c.A (pyNext (.ref e)) (fun r s' => r = none ∧ TK s.heap s'.heap ∧ St c ⟨loc, led, g⟩ F s') NoE s := by
  obtain ⟨he, ⟨t, hs⟩, hne⟩ := ene_at S
  have W := WalksT.enumerateD (A := c.A) (drawsStr (prog := c.prog) (w := c.w) (A := c.A.in1) hA it x t) e hne (by simp [hne]) (by simp)
  refine wpAny_with_toks (Nat.le_refl s.toks) (W.done s _ _ ⟨he, hs⟩ fun h' tk hk => ?_)
  intro ht
  obtain ⟨S', tk'⟩ := St.updE (E' := []) S (List.nil_sublist _) (tk := tk) hk (fun p hp => nomatch hp)
  exact ⟨rfl, tk', S'⟩
theorem OpL.enumS {x : Str} (h : ∀ e it, K (vR e) ⟨σ.loc, EnE e it x 0 ++ σ.led, σ.gens⟩) : OpL c σ [vS x] (fun vs => call (.type "enumerate") vs) K := fun F s vs S hx => by
  obtain ⟨v, rfl, hv⟩ := isAll1 hx
  obtain ⟨t, rfl⟩ := is_str hv
  refine call_enumerate_str fun h' he hs hz hk => ?_
  refine ⟨vR _, _, St.join S (led' := EnE (s.heap.objs.size + 1) s.heap.objs.size x 0) ⟨h', s.toks, rfl⟩ hk (fun p hp => ⟨ene_of ⟨_, he⟩ hs p hp, ?_⟩) ?_, Kp.tk hk, rfl, h _ _⟩
  · rcases List.mem_cons.mp hp with rfl | hp
    · exact Nat.le_succ _
    · rcases List.mem_cons.mp hp with rfl | hp
      · exact Nat.le_refl _
      · cases hp
  · show [s.heap.objs.size + 1, s.heap.objs.size].Nodup
    simp
end
end

section
open PySem PySem.Calls PyProof.Rows
section
variable {prog : Program} {w : World} {A : Around} {E : Value → Shared → Prop} {s : Shared}
theorem enum_next_str {e it : Addr} {x : Str} {t : Tok} {i ch : Nat} {old : Value} {Q : Value → Shared → Prop}
    (he : IsEnum s.heap e it i old) (hit : s.heap.IsStrIter it "str_ascii_iterator" x t i) (hx : x.cps[i]? = some ch) (hne : e ≠ it)
    (hQ : ∀ h', IsEnumOut h' e it ((i : Int) + 1) (.str ⟨#[ch]⟩ s.toks) s.heap.objs.size → h'.IsStrIter it "str_ascii_iterator" x t (i + 1) →
      h'.get? s.heap.objs.size = some { cls := .type "tuple", data := .seq #[.int i (s.toks + 1), .str ⟨#[ch]⟩ s.toks] } → h'.objs.size = s.heap.objs.size + 1 →
      (∀ b o, b ≠ e → b ≠ it → s.heap.get? b = some o → h'.get? b = some o) → Q (.ref s.heap.objs.size) { s with heap := h', toks := s.toks + 1 + 1 }) :
    wpAny (model prog w) A (Builtin.«enumerate.__next__» ⟨[.ref e], []⟩) (fun fin s' => ∃ v, fin = .done (.ret v) ∧ Q v s') E s := by
  obtain ⟨hp, g, d, tk, os⟩ := s
  show wpAny _ _ (field (.ref e) 2 >>= _) _ _ _
  refine wpAny_bind (wpAny_field he rfl (x := .ref it) rfl ?_)
  refine wpAny_bind (wpAny_nextOf_ascii_item hit hx fun h₁ hit₁ hs₁ => ?_)
  replace hs₁ : Heap.SameBut it hp h₁ := hs₁
  have he₁ : IsEnum h₁ e it i old := (hs₁.2 e hne).trans he
  show wpAny _ _ (field (.ref e) 3 >>= _) _ _ ⟨h₁, g, d, tk + 1, os⟩
  refine wpAny_bind (wpAny_field he₁ rfl (x := rawInt i) rfl ?_)
  show wpAny _ _ (field (.ref e) 4 >>= _) _ _ ⟨h₁, g, d, tk + 1, os⟩
  refine wpAny_bind (wpAny_field he₁ rfl (x := .none) rfl ?_)
  show wpAny _ _ (mkInt i >>= _) _ _ ⟨h₁, g, d, tk + 1, os⟩
  refine wpAny_bind (wpAny_mkInt ?_)
  show wpAny _ _ (setField (.ref e) 3 (rawInt ((i : Int) + 1)) >>= _) _ _ ⟨h₁, g, d, tk + 1 + 1, os⟩
  refine wpAny_bind (wpAny_setField_rec he₁ (by simp) fun h₂ he₂ hs₂ => ?_)
  replace hs₂ : Heap.SameBut e h₁ h₂ := hs₂
  replace he₂ : IsEnum h₂ e it ((i : Int) + 1) old := he₂
  show wpAny _ _ (setField (.ref e) 4 .none >>= _) _ _ ⟨h₂, g, d, tk + 1 + 1, os⟩
  refine wpAny_bind (wpAny_setField_rec he₂ (by simp) fun h₃ he₃ hs₃ => ?_)
  replace hs₃ : Heap.SameBut e h₂ h₃ := hs₃
  replace he₃ : IsEnum h₃ e it ((i : Int) + 1) old := he₃
  show wpAny _ _ (newTuple [.int i (tk + 1), .str ⟨#[ch]⟩ tk] >>= _) _ _ ⟨h₃, g, d, tk + 1 + 1, os⟩
  refine wpAny_bind (wpAny_newTuple ?_)
  have he₄ : IsEnum (h₃.push { cls := .type "tuple", data := .seq #[.int i (tk + 1), .str ⟨#[ch]⟩ tk] }) e it ((i : Int) + 1) old := Heap.get?_push_of_some _ he₃
  generalize hh₄ : h₃.push { cls := .type "tuple", data := .seq #[.int i (tk + 1), .str ⟨#[ch]⟩ tk] } = h₄ at he₄
  have hsz : h₃.objs.size = hp.objs.size := by rw [hs₃.1, hs₂.1, hs₁.1]
  have hel : e < hp.objs.size := Heap.lt_size he
  have ht₄ : h₄.get? hp.objs.size = some { cls := .type "tuple", data := .seq #[.int i (tk + 1), .str ⟨#[ch]⟩ tk] } := by rw [← hh₄, ← hsz]; exact Heap.get?_push_size _ rfl
  have hz₄ : h₄.objs.size = hp.objs.size + 1 := by rw [← hh₄, Heap.size_push, hsz]
  have hk₄ : ∀ b o, b ≠ e → b ≠ it → hp.get? b = some o → h₄.get? b = some o := fun b o hbe hbi hb => by
    rw [← hh₄]; exact Heap.get?_push_of_some _ (hs₃.extBut b o hbe (hs₂.extBut b o hbe (hs₁.extBut b o hbi hb)))
  have hit₄ : h₄.IsStrIter it "str_ascii_iterator" x t (i + 1) := by
    rw [← hh₄]; obtain ⟨o, ho, r⟩ := (hit₁.extBut hs₂.extBut (Ne.symm hne)).extBut hs₃.extBut (Ne.symm hne); exact ⟨o, Heap.get?_push_of_some _ ho, r⟩
  show wpAny _ _ (Builtin.SmallTypes.ownedTupleIsFree (.ref e) >>= _) _ _ ⟨h₄, g, d, tk + 1 + 1, os⟩
  rw [hsz]
  clear hh₄ he₃ hs₃ he₂ hs₂ he₁ hs₁ hit₁ hsz h₃ h₂ h₁
  refine wpAny_bind ?_
  · unfold Builtin.SmallTypes.ownedTupleIsFree
    refine wpAny_bind (wpAny_field he₄ rfl (x := .none) rfl (wpAny_pure ?_))
    simp only [if_true]
    refine wpAny_bind (wpAny_rule ?_)
    refine wpAny_bind (wpAny_field he₄ rfl (x := old) rfl ?_)
    refine wpAny_bind (wpAny_setField_rec he₄ (by simp) fun h₅ he₅ hs₅ => ?_)
    replace hs₅ : Heap.SameBut e h₄ h₅ := hs₅
    replace he₅ : IsEnum h₅ e it ((i : Int) + 1) (.str ⟨#[ch]⟩ tk) := he₅
    show wpAny _ _ (Builtin.SmallTypes.ownedTupleHandOut (.ref e) (.ref hp.objs.size) >>= _) _ _ ⟨h₅, g, d, tk + 1 + 1, os⟩
    refine wpAny_bind ?_
    · unfold Builtin.SmallTypes.ownedTupleHandOut
      refine wpAny_bind (wpAny_setField_rec he₅ (by simp) fun h₆ he₆ hs₆ => ?_)
      replace hs₆ : Heap.SameBut e h₅ h₆ := hs₆
      replace he₆ : IsEnumOut h₆ e it ((i : Int) + 1) (.str ⟨#[ch]⟩ tk) hp.objs.size := he₆
      refine wpAny_setField_rec he₆ (by simp) fun h₇ he₇ hs₇ => ?_
      replace hs₇ : Heap.SameBut e h₆ h₇ := hs₇
      replace he₇ : IsEnumOut h₇ e it ((i : Int) + 1) (.str ⟨#[ch]⟩ tk) hp.objs.size := he₇
      refine wpAny_bind (wpAny_letGo (wpAny_pure ⟨_, rfl, hQ h₇ he₇ ?_ ?_ ?_ ?_⟩))
      · exact ((hit₄.extBut hs₅.extBut (Ne.symm hne)).extBut hs₆.extBut (Ne.symm hne)).extBut hs₇.extBut (Ne.symm hne)
      · exact hs₇.extBut _ _ (Nat.ne_of_gt hel) (hs₆.extBut _ _ (Nat.ne_of_gt hel) (hs₅.extBut _ _ (Nat.ne_of_gt hel) ht₄))
      · rw [hs₇.1, hs₆.1, hs₅.1, hz₄]
      · exact fun b o hbe hbi hb => hs₇.extBut b o hbe (hs₆.extBut b o hbe (hs₅.extBut b o hbe (hk₄ b o hbe hbi hb)))
theorem pyNext_enum_str {e it : Addr} {x : Str} {t : Tok} {i ch : Nat} {old : Value} {Q : Option Value → Shared → Prop}
    (he : IsEnum s.heap e it i old) (hit : s.heap.IsStrIter it "str_ascii_iterator" x t i) (hx : x.cps[i]? = some ch) (hne : e ≠ it)
    (hQ : ∀ h', IsEnumOut h' e it ((i : Int) + 1) (.str ⟨#[ch]⟩ s.toks) s.heap.objs.size → h'.IsStrIter it "str_ascii_iterator" x t (i + 1) →
      h'.get? s.heap.objs.size = some { cls := .type "tuple", data := .seq #[.int i (s.toks + 1), .str ⟨#[ch]⟩ s.toks] } → h'.objs.size = s.heap.objs.size + 1 →
      (∀ b o, b ≠ e → b ≠ it → s.heap.get? b = some o → h'.get? b = some o) → Q (some (.ref s.heap.objs.size)) { s with heap := h', toks := s.toks + 1 + 1 }) :
    wpAny (model prog w) A (pyNext (.ref e)) Q E s := by
  have hT : s.TypeIs (.ref e) "enumerate" := ⟨_, he, rfl⟩
  unfold pyNext
  exact wpAny_bind (wpAny_attempt (wpAny_callSpecial?_slot (name := Str.ofString "__next__") hT PySem.F.slot_enumerate_next
    (wpAny_call_entry PySem.F.slot_enumerate_next hT PySem.F.entry_enumerate_next
      (enum_next_str he hit hx hne fun h' a b c d k => wpAny_pure (hQ h' a b c d k)) (PySem.F.args_enumerate_next_1 _))))
end
end

section
open PySem PySem.Calls PyProof.Rows
section
variable {c : Cx} {σ : Sg} {F : List (Addr × LO)} {s s₁ : Shared} {K : V → Sg → Prop} {N : Sg → Prop} {R : V → Sg → Prop} {loc : List (Str × V)} {led : List (Addr × LO)} {g : Array GenState}
noncomputable abbrev vX (x : Str) (t : Tok) : V := .x (.str x t)
/-- `is` of two texts, their tokens known -/
theorem Op2.isX {x y : Str} {t u : Tok} (ht : 0 < t) (hu : 0 < u) (htu : u < t) (h : ∀ b, (x ≠ y → b = false) → K (vB b) σ) : Op2 c σ (vX x t) (vX y u) (compareOp .Is) K := fun F s v w S hv hw => by
  cases hv; cases hw
  show wpAny _ _ (do return Value.bool (← isSame (.str x t) (.str y u)) : Sem Value) _ _ s
  refine wpAny_bind ?_
  show wpAny _ _ (isSame.created (x == y) t u) _ _ s
  have h0 : (t == 0 || u == 0) = false := by
    have h1 : (t == 0) = false := beq_eq_false_iff_ne.mpr (Nat.ne_of_gt ht)
    have h2 : (u == 0) = false := beq_eq_false_iff_ne.mpr (Nat.ne_of_gt hu)
    rw [h1, h2]; rfl
  have h3 : (t == u) = false := beq_eq_false_iff_ne.mpr (Nat.ne_of_gt htu)
  unfold isSame.created
  rw [h0, h3]
  by_cases q : x = y
  · subst q
    rw [show (!(x == x)) = false by simp]
    refine wpAny_bind (wpAny_sharingNotTold_none S.gl.bk ?_)
    refine wpAny_bind (wpAny_sharingNotTold_none S.gl.bk ?_)
    exact wpAny_bind (wpAny_rule (wpAny_bind (wpAny_askSetting (wpAny_pure (wpAny_pure (Pv.here S (h _ fun q => absurd rfl q) rfl))))))
  · rw [show (!(x == y)) = true by simp [q]]
    exact wpAny_pure (wpAny_pure (Pv.here S (h false fun _ => rfl) rfl))
theorem Op2.eqX {x y : Str} {t u : Tok} (h : K (vB (x == y)) σ) : Op2 c σ (vX x t) (vX y u) (compareOp .Eq) K := fun F s v w S hv hw => by
  cases hv; cases hw
  exact PyProof.Rows.eq_str (Pv.here S h rfl)
end
end

section
open PySem PySem.Calls PyProof.Rows PySem.W.X
section
variable {prog : Program} {w : World} {A : Around} {c : Code} {fs : List Frame} {s : Shared} {P : End → Shared → Prop} {env : Env} {K : Flow → Sem Fin} {H : Value → Sem Fin} {gd : Bool → Bool} {lv : List Value → List Value}
theorem sx_wrap {α : Type} {m : Sem α} {K : α → Sem Fin} {H : Value → Sem Fin} {gd : Bool → Bool} {lv : List Value → List Value}
    (h : wpAny (model prog w) (A.over c fs) m (fun a s' => SegX (model prog w) A c (K a) fs s' P) (fun x s' => SegX (model prog w) A c (H x) fs s' P) s) : SegX (model prog w) A c (m.wrap K H gd lv) fs s P := by
  rintro Γ p rfl hΓ
  obtain ⟨e, s', hr, hq⟩ := runs_wrap_of_wp (Φ := fun e s' => e.quiet = true ∧ P e s') K H gd lv m (h (Γ.over fs) p (hΓ.over fs)) (fun a p' s' h' => h' Γ p' rfl hΓ) (fun x p' s' h' => h' Γ p' rfl hΓ)
  exact ⟨e, s', hr, hq⟩
theorem sx_wrapN {α : Type} {m : Sem α} {K : α → Sem Fin} {H : Value → Sem Fin} {gd : Bool → Bool} {lv : List Value → List Value}
    (h : wpAny (model prog w) (A.over c fs) m (fun a s' => SegX (model prog w) A c (K a) fs s' P) (fun _ _ => False) s) : SegX (model prog w) A c (m.wrap K H gd lv) fs s P :=
  sx_wrap (wpAny_mono h (fun _ _ x => x) fun _ _ x => x.elim)
theorem sx_at {p' : Pos} {k : Unit → Sem Fin} (h : SegX (model prog w) A c (k ()) fs s P) : SegX (model prog w) A c (.at p' k) fs s P :=
  sx_wrap (m := standAt p') (K := k) (H := .raise) (gd := id) (lv := id) (wpAny_standAt h)
theorem sx_point {l : List Value} {k : Unit → Sem Fin} (h : SegX (model prog w) A c (k ()) fs s P) : SegX (model prog w) A c (.point l k) fs s P :=
  sx_wrap (m := point) (K := k) (H := .raise) (gd := id) (lv := fun _ => l) (wpAny_point h)
theorem sx_bind {α β : Type} {m : Sem α} {f : α → Sem β} {K : β → Sem Fin} {H : Value → Sem Fin} {gd : Bool → Bool} {lv : List Value → List Value}
    (h : wpAny (model prog w) (A.over c fs) m (fun a s' => SegX (model prog w) A c ((f a).wrap K H gd lv) fs s' P) (fun _ _ => False) s) : SegX (model prog w) A c ((m >>= f).wrap K H gd lv) fs s P := by
  rw [Sem.bind_eq_wrap', Sem.wrap_wrap]
  exact sx_wrapN h
theorem sx_nil (h : SegX (model prog w) A c (K .next) fs s P) : SegX (model prog w) A c ((execs [] env).wrap K H gd lv) fs s P := h
theorem sx_cons {st : Stmt} {rest : List Stmt}
    (h : SegX (model prog w) A c ((exec st env).wrap (fun f => match f with | .next => (execs rest env).wrap K H gd lv | f => K f) H gd lv) fs s P) :
    SegX (model prog w) A c ((execs (st :: rest) env).wrap K H gd lv) fs s P := by rw [execs_cons_wrap]; exact h
theorem sx_plain {st : Stmt} {rest : List Stmt}
    (h : wpAny (model prog w) (A.over c fs) (exec st env) (fun f s' => f = .next ∧ SegX (model prog w) A c ((execs rest env).wrap K H gd lv) fs s' P) (fun _ _ => False) s) :
    SegX (model prog w) A c ((execs (st :: rest) env).wrap K H gd lv) fs s P :=
  sx_cons (sx_wrapN (wpAny_mono h (fun f s' ⟨hf, h'⟩ => by subst hf; exact h') fun _ _ x => x))
theorem sx_If {test : Expr} {body orelse : List Stmt} {pos : Pos}
    (h : wpAny (model prog w) (A.over c fs) (isTrue test env (eval test env)) (fun b s' => if b = true then SegX (model prog w) A c ((execs body env).wrap K H gd lv) fs s' P else SegX (model prog w) A c ((execs orelse env).wrap K H gd lv) fs s' P) (fun _ _ => False) s) :
    SegX (model prog w) A c ((exec (.If test body orelse pos) env).wrap K H gd lv) fs s P := by
  rw [exec_If]
  show SegX _ A c (.at pos fun _ => ((isTrue test env (eval test env)) >>= fun b => if b = true then execs body env else execs orelse env).wrap K H gd lv) fs s P
  refine sx_at ?_
  rw [Sem.bind_eq_wrap', Sem.wrap_wrap]
  refine sx_wrapN (wpAny_mono h (fun b s' hb => ?_) fun _ _ x => x)
  cases b with
  | true => simpa using hb
  | false => simpa using hb
theorem sx_Yield {e : Expr} {ypos pos : Pos} (hfs : splitAtGen fs = none) (hgd : gd false = false) (hfg : fs.any Frame.guarded = false)
    (h : wpAny (model prog w) (A.over c fs) (eval e env) (fun v s' => ∀ l k p, k (.send .none) = K .next → P (.susp v false l k c p fs) s') (fun _ _ => False) s)
    (hco : env.scope.isCoroutine = false := by rfl) (hi : interactive env = false := by rfl) :
    SegX (model prog w) A c ((exec (.Expr (.Yield (some e) ypos) pos) env).wrap K H gd lv) fs s P := by
  rw [exec_Expr env _ pos hi rfl]
  show SegX _ A c (.at pos fun _ => ((eval e env >>= fun v => (standAt ypos >>= fun _ => yieldOut env v)) >>= fun x =>
    dropValue (.Yield (some e) ypos) pos x).wrap K H gd lv) fs s P
  have hy : ∀ v, yieldOut env v = yieldValue v := fun v => by simp only [yieldOut, hco, Bool.false_eq_true, if_false]
  simp only [hy]
  refine sx_at ?_
  rw [Sem.bind_eq_wrap', Sem.bind_eq_wrap', Sem.wrap_wrap, Sem.wrap_wrap]
  refine sx_wrapN (wpAny_mono h (fun v s' h' => ?_) fun _ _ x => x)
  refine sx_at ?_
  show SegX _ A c (.yield v (gd false) (lv []) _) fs s' P
  rw [hgd]
  refine s_yield _ _ _ _ _ _ _ _ _ _ hfs hfg fun p => h' _ _ p ?_
  rfl
theorem sx_For {target iter : Expr} {body orelse : List Stmt} {pos : Pos}
    (h : wpAny (model prog w) (A.over c fs) (eval iter env) (fun x s₁ => wpAny (model prog w) (A.over c fs) (pyIter x) (fun it s₂ =>
      ∀ k p, (∀ f, k (.ok f) = K f) → SegX (model prog w) A (.forLoop target it body orelse env) (denote table (.forLoop target it body orelse env)) (.ret k none (gd false) (lv []) c p [] :: fs) s₂ P) (fun _ _ => False) s₁) (fun _ _ => False) s)
    (hs : ∀ x, foldedSetIterable iter env x = pure x := by intro _; rfl) :
    SegX (model prog w) A c ((exec (.For target iter body orelse pos) env).wrap K H gd lv) fs s P := by
  rw [exec_For]
  refine sx_bind (wpAny_standAt (sx_bind (wpAny_mono h (fun x s₁ h₁ => sx_bind (wpAny_of_eq (hs x) (sx_bind (wpAny_standAt (sx_bind (wpAny_holding
    (wpAny_mono h₁ (fun it s₂ h₂ => ?_) fun _ _ h' => h'))))))) fun _ _ h' => h')))
  show SegX _ A c (.call (.forLoop target it body orelse env) none (gd false) (lv []) _) fs s₂ P
  exact s_call _ _ _ _ _ _ _ _ _ _ _ _ fun p => h₂ _ p fun f => rfl
noncomputable def loopK (c : Code) : Flow → Sem Fin
  | .next => .pure (.again c)
  | .cont => .pure (.again c)
  | .brk => .pure (.done .next)
  | .ret v => .pure (.done (.ret v))
noncomputable def funcK : Flow → Sem Fin
  | .ret v => .pure (.done (.ret v))
  | _ => .pure (.done (.ret .none))
theorem sx_forLoop {target : Expr} {it : Value} {body : List Stmt} {k : Result → Sem Fin} {hd : Option Value} {g : Bool} {l : List Value} {c₁ : Code} {p₁ : Pos} {kp : List Value}
    (h : wpAny (model prog w) (A.over (.forLoop target it body [] env) (.ret k hd g l c₁ p₁ kp :: fs)) (pyNext it) (fun r s₁ => match r with
      | none => SegX (model prog w) A c₁ (k (.ok .next)) fs s₁ P
      | some v => wpAny (model prog w) (A.over (.forLoop target it body [] env) (.ret k hd g l c₁ p₁ kp :: fs)) (letOwnedTupleGo target it v) (fun _ s₂ => wpAny (model prog w) (A.over (.forLoop target it body [] env) (.ret k hd g l c₁ p₁ kp :: fs)) (assign target env v) (fun _ s₃ =>
        ∀ Hb, SegX (model prog w) A (.forLoop target it body [] env) ((execs body env).wrap (loopK (.forLoop target it body [] env)) Hb id id) (.ret k hd g l c₁ p₁ kp :: fs) s₃ P) (fun _ _ => False) s₂) (fun _ _ => False) s₁) (fun _ _ => False) s) :
    SegX (model prog w) A (.forLoop target it body [] env) (denote table (.forLoop target it body [] env)) (.ret k hd g l c₁ p₁ kp :: fs) s P := by
  show SegX _ A _ ((forTurn target it body [] env).onRaise (fun x => do noteFrame x env; theTreesLotGoes x)) _ s P
  unfold forTurn
  rw [Sem.onRaise_eq_wrap]
  refine sx_bind (wpAny_standAt (sx_bind (wpAny_onRaise (wpAny_mono h (fun r s₁ h₁ => ?_) fun _ _ h' => h'.elim))))
  cases r with
  | none =>
    show SegX _ A _ (.pure (.again (.block [] env))) _ s₁ P
    refine s_again _ _ _ _ _ _ _ _ rfl ?_
    show SegX _ A _ (.pure (.done .next)) _ s₁ P
    exact s_pop _ _ _ _ _ _ _ (.ok .next) _ rfl _ _ _ _ _ _ _ h₁
  | some v =>
    refine sx_bind (wpAny_mono h₁ (fun _ s₂ h₂ => sx_bind (wpAny_mono h₂ (fun _ s₃ h₃ => ?_) fun _ _ h' => h')) fun _ _ h' => h')
    have key : ∀ HH : Value → Sem Fin, (fun a : Flow => ((match a with
      | .next | .cont => again (.forLoop target it body [] env)
      | .brk => pure (.done .next)
      | .ret v => pure (.done (.ret v)) : Sem Fin)).wrap .pure HH id id) = loopK (.forLoop target it body [] env) := fun HH => funext fun a => by cases a <;> rfl
    have q := h₃ fun e => ((do noteFrame e env; theTreesLotGoes e : Sem Unit).bind fun _ => .raise e)
    rw [← key fun e => ((do noteFrame e env; theTreesLotGoes e : Sem Unit).bind fun _ => .raise e)] at q
    rw [Sem.bind_eq_wrap', Sem.wrap_wrap]
    exact q
theorem sx_func {body : List Stmt}
    (h : ∀ H, SegX (model prog w) A (.func body env) ((execs body env).wrap funcK H id id) fs s P) :
    SegX (model prog w) A (.func body env) (denote table (.func body env)) fs s P := by
  show SegX _ A _ (.point [] fun _ => ((execs body env).onRaise (leaving env)) >>= _) fs s P
  refine sx_point ?_
  have q := h fun e => (leaving env e).wrap (fun _ => .raise e) .raise id id
  rw [Sem.onRaise_eq_wrap, Sem.bind_eq_wrap', Sem.wrap_wrap]
  rw [Sem.wrap_congr (execs body env) (K' := funcK) (H' := fun e => (leaving env e).wrap (fun _ => .raise e) .raise id id)]
  · exact q
  · intro f; cases f <;> rfl
  · intro e; rw [Sem.bind_eq_wrap, Sem.wrap_wrap]; rfl
end
end

section
open PySem PySem.Calls PyProof.Rows PySem.W.X
section
variable {c : Cx} {σ : Sg} {F : List (Addr × LO)} {s s₁ : Shared} {K : V → Sg → Prop} {N : Sg → Prop} {R : V → Sg → Prop} {loc : List (Str × V)} {led : List (Addr × LO)} {g : Array GenState}
theorem enum_turnT {xi xv : Str} {pi pv pt : Pos} {k : Nat} {e it : Addr} {x : Str} {i ch : Nat} (hA : c.A.handled = none) (hty : strIterType x = "str_ascii_iterator") (hxi : StN c xi) (hxv : StN c xv) (S : St c ⟨loc, EnE e it x i ++ led, g⟩ F s) (hc : x.cps[i]? = some ch)
    {Q : Shared → Prop} (hQ : ∀ s' t, St c ⟨(xv, vX ⟨#[ch]⟩ t) :: (xi, vI i) :: loc, EnE e it x (i + 1) ++ led, g⟩ F s' → TK s.heap s'.heap → s.toks ≤ t → t < s'.toks → Q s') :
    wpAny (Mo c) c.A (pyNext (.ref e)) (fun r s₁ => ∃ v, r = some v ∧ wpAny (Mo c) c.A (letOwnedTupleGo (.Tuple [.Name xi pi, .Name xv pv] k pt) (.ref e) v)
      (fun _ s₂ => wpAny (Mo c) c.A (assign (.Tuple [.Name xi pi, .Name xv pv] k pt) c.env v) (fun _ s₃ => Q s₃) NoE s₂) NoE s₁) NoE s := by
  obtain ⟨⟨old, he⟩, ⟨t, hs⟩, hne⟩ := ene_at S
  have hs' := hs
  rw [hty] at hs'
  refine pyNext_enum_str he hs' hc hne fun h' ho hit hT hz hk => ⟨_, rfl, ?_⟩
  have hel : e < s.heap.objs.size := Heap.lt_size he
  have hil : it < s.heap.objs.size := Heap.lt_size hs.choose_spec.1
  refine wpAny_with_toks (n := s.toks + 1) (Nat.le_succ _) ?_
  refine wpAny_letOwnedTupleGo_enum ho fun h'' he'' hs'' htk => ?_
  refine wpAny_with_toks htk ?_
  have hkk : ∀ b o, b ∉ (EnE e it x i).map (·.1) → s.heap.get? b = some o → h''.get? b = some o := fun b o hb y => by
    have hb' : b ≠ e ∧ b ≠ it := by simpa [EnE] using hb
    exact hs''.extBut b o hb'.1 (hk b o hb'.1 hb'.2 y)
  have hit'' : h''.IsStrIter it (strIterType x) x t (i + 1) := by
    rw [hty]
    obtain ⟨o, y, r⟩ := hit
    exact ⟨o, hs''.extBut it o (Ne.symm hne) y, r⟩
  obtain ⟨S', tk'⟩ := St.updE (E' := EnE e it x (i + 1)) S (List.Sublist.refl _) (tk := s.toks + 1 + 1) hkk (ene_of ⟨_, by simpa using he''⟩ hit'')
  have hT' : IsTup h'' s.heap.objs.size #[.int (i : Int) (s.toks + 1), .str ⟨#[ch]⟩ s.toks] :=
    ⟨_, hs''.extBut _ _ (Nat.ne_of_gt hel) hT, rfl, _, rfl⟩
  exact wpAny_mono (assign2 (Q := fun _ s' => s.toks + 1 ≤ s'.toks → Q s') hA hxi hxv S' hT' (w1 := vI i) (w2 := vX ⟨#[ch]⟩ s.toks) rfl rfl fun s' S₂ k₂ ht => hQ s' _ S₂ (tk'.trans k₂) (Nat.le_refl _) ht) (fun _ _ y => y) fun _ _ y => y.elim

theorem LO.At.cx {c d : Cx} {h : Heap} {a : Addr} {lo : LO} (hp : d.prog = c.prog) (hw : d.w = c.w) (x : lo.At c h a) : lo.At d h a := by
  cases lo with
  | lst us => exact x
  | pl us => exact x
  | is P => exact x
  | dct n f => obtain ⟨kvs, y⟩ := x; exact ⟨kvs, by rw [hp, hw]; exact y⟩
noncomputable def Cx.at (c : Cx) (A : Around) (E : Env) : Cx := ⟨c.prog, c.w, A, E, c.s₀, c.mg, c.mb, c.pos⟩
theorem St.around {A : Around} (S : St c σ F s) : St (c.at A c.env) σ F s where
  ok := ⟨S.ok.kind, S.ok.co, S.ok.glob, S.ok.blt, S.ok.above, S.ok.cellsL, S.ok.gl⟩
  same := S.same
  keep := S.keep
  ns := S.ns
  cl := S.cl
  led := fun p hp => let ⟨a, b⟩ := S.led p hp; ⟨a.cx rfl rfl, b⟩
  nd := S.nd
  tp := S.tp
theorem St.re {A B : Around} {E : Env} (S : St (c.at A E) σ F s) : St (c.at B E) σ F s := St.around (c := c.at A E) (A := B) S
/-- values that ask nothing of the heap -/
noncomputable def Flat : V → Prop
  | .t _ => False
  | _ => True
theorem Flat.is {u : V} (x : Flat u) {h h' : Heap} {v : Value} (y : u.Is h v) : u.Is h' v := by
  cases u with
  | t us => exact x.elim
  | p u => exact y
  | x u => exact y
noncomputable def FlatL (loc : List (Str × V)) : Prop := ∀ p ∈ loc, Flat p.2
theorem FlatL.get {loc : List (Str × V)} (x : FlatL loc) {y : Str} {u : V} (e : loc.lookup y = some u) : Flat u := x _ (mem_of_lookup e)
/-- another frame's locals, asleep -/
noncomputable def Asleep (E : Env) (loc : List (Str × V)) (o : Obj) : Prop :=
  ∃ h m, Heap.get? h E.locals = some o ∧ h.Ns E.locals m ∧ ∀ x u, E.kindOf x = some .local → loc.lookup x = some u → ∃ v, m x = some v ∧ u.Is h v
theorem St.swap {A : Around} {E : Env} {dloc : List (Str × V)} {led₁ led₂ F₁ F₂ rest : List (Addr × LO)} (dok : (c.at A E).Ok) (hcc : c.env.cells = []) (hdc : E.cells = []) (hkc : ∀ x, E.kindOf x ≠ some .cell) (fc : FlatL loc) (fd : FlatL dloc)
    (S : St c ⟨loc, led₁, g⟩ F₁ s) (h1 : (led₁ ++ F₁).Perm ((E.locals, .is (Asleep E dloc)) :: rest)) (h2 : (led₂ ++ F₂).Perm ((c.env.locals, .is (Asleep c.env loc)) :: rest)) :
    St (c.at A E) ⟨dloc, led₂, g⟩ F₂ s := by
  have L := S.led _ (h1.mem_iff.mpr (.head _))
  obtain ⟨⟨o, ho, hnt, h, m, hg, hn, hm⟩, hge, hne, _⟩ := L
  have nd1 : ((led₁ ++ F₁).map (·.1)).Nodup := S.nd
  rw [(h1.map _).nodup_iff, List.map_cons, List.nodup_cons] at nd1
  obtain ⟨mc, hnc, hmc⟩ := S.ns
  refine ⟨dok, S.same, S.keep, ⟨m, hn.at fun o' e => ?_, fun x u k e => ?_⟩, ⟨fun _ => none, fun n a e => ?_, fun x u k e => ?_⟩, fun p hp => ?_, ?_, S.tp⟩
  · rw [hg] at e; cases e; exact ho
  · obtain ⟨v, h1, h2⟩ := hm x u k e
    exact ⟨v, h1, (fd.get e).is h2⟩
  · have : E.cells.lookup n = some a := e
    rw [hdc] at this; cases this
  · exact absurd k (hkc x)
  · rcases List.mem_cons.mp (h2.mem_iff.mp hp) with rfl | hp
    · obtain ⟨o, es, ep, e, hd, r⟩ := hnc
      refine ⟨⟨o, e, by unfold notTupObj; rw [hd], s.heap, mc, e, ⟨o, es, ep, e, hd, r⟩, hmc⟩, S.ok.above, hne.symm, fun n a e => ?_⟩
      have : E.cells.lookup n = some a := e
      rw [hdc] at this; cases this
    · obtain ⟨y, b1, b2, b3⟩ := S.led p (h1.mem_iff.mpr (.tail _ hp))
      refine ⟨y.cx rfl rfl, b1, fun q => nd1.1 ?_, fun n a e => ?_⟩
      · exact List.mem_map.mpr ⟨p, hp, q⟩
      · have : E.cells.lookup n = some a := e
        rw [hdc] at this; cases this
  · show ((led₂ ++ F₂).map (·.1)).Nodup
    rw [(h2.map _).nodup_iff, List.map_cons, List.nodup_cons]
    refine ⟨fun hm => ?_, nd1.2⟩
    obtain ⟨p, hp, e⟩ := List.mem_map.mp hm
    exact (S.led p (h1.mem_iff.mpr (.tail _ hp))).2.2.1 e
end
end

section
open PySem PySem.Calls PyProof.Rows PySem.W.X
section
variable {c : Cx} {A : Around} {E : Env} {σ : Sg} {F : List (Addr × LO)} {s s₁ : Shared} {loc : List (Str × V)} {led : List (Addr × LO)} {g : Array GenState}
  {co : Code} {fs : List Frame} {P : End → Shared → Prop} {K : Flow → Sem Fin} {H : Value → Sem Fin} {gd : Bool → Bool} {lv : List Value → List Value}
noncomputable abbrev Mp (c : Cx) : Model := model c.prog c.w
theorem sg_plain {st : Stmt} {rest : List Stmt} {N : Sg → Prop} (S : St (c.at A E) σ F s) (h : Ex (c.at (A.over co fs) E) σ st N (fun _ _ => False))
    (h' : ∀ σ' s', N σ' → St (c.at A E) σ' F s' → TK s.heap s'.heap → s.toks ≤ s'.toks → SegX (Mp c) A co ((execs rest E).wrap K H gd lv) fs s' P) :
    SegX (Mp c) A co ((execs (st :: rest) E).wrap K H gd lv) fs s P := by
  refine sx_plain (wpAny_mono (wpAny_toks (h F s S.re)) (fun f s' hx => ?_) fun _ _ x => x.2)
  obtain ⟨ht, σ', S', k, hf⟩ := hx
  cases f with
  | next => exact ⟨rfl, h' σ' s' hf S'.re k ht⟩
  | cont => exact hf.elim
  | brk => exact hf.elim
  | ret v => obtain ⟨_, _, x⟩ := hf; exact x.elim
theorem sg_If {test : Expr} {body orelse : List Stmt} {pos : Pos} {KB : Bool → Sg → Prop} (S : St (c.at A E) σ F s) (h : EvT (c.at (A.over co fs) E) σ test KB)
    (h' : ∀ b σ' s', KB b σ' → St (c.at A E) σ' F s' → TK s.heap s'.heap → s.toks ≤ s'.toks → SegX (Mp c) A co ((execs (if b = true then body else orelse) E).wrap K H gd lv) fs s' P) :
    SegX (Mp c) A co ((exec (.If test body orelse pos) E).wrap K H gd lv) fs s P := by
  refine sx_If (wpAny_mono (wpAny_toks (h F s S.re)) (fun b s' hx => ?_) fun _ _ x => x.2)
  obtain ⟨ht, σ', S', k, hf⟩ := hx
  have := h' b σ' s' hf S'.re k ht
  cases b with
  | true => simpa using this
  | false => simpa using this
theorem sg_for {iter : Expr} {xi xv : Str} {pi pv pt pos : Pos} {k : Nat} {body orelse : List Stmt} {KV : V → Sg → Prop} (S : St (c.at A E) σ F s) (h : Ev (c.at (A.over co fs) E) σ iter KV)
    (h' : ∀ u σ' s', KV u σ' → St (c.at A E) σ' F s' → TK s.heap s'.heap → s.toks ≤ s'.toks → ∃ e it x led, u = vR e ∧ σ'.led = EnE e it x 0 ++ led ∧
      ∀ k' p, (∀ f, k' (.ok f) = K f) → SegX (Mp c) A (.forLoop (.Tuple [.Name xi pi, .Name xv pv] k pt) (.ref e) body orelse E) (denote table (.forLoop (.Tuple [.Name xi pi, .Name xv pv] k pt) (.ref e) body orelse E)) (.ret k' none (gd false) (lv []) co p [] :: fs) s' P)
    (hs : ∀ x, foldedSetIterable iter E x = pure x := by intro _; rfl) :
    SegX (Mp c) A co ((exec (.For (.Tuple [.Name xi pi, .Name xv pv] k pt) iter body orelse pos) E).wrap K H gd lv) fs s P := by
  refine sx_For (wpAny_mono (wpAny_toks (h F s S.re)) (fun v s' hx => ?_) fun _ _ x => x.2) hs
  obtain ⟨ht, u, σ', S', k₁, hu, hf⟩ := hx
  obtain ⟨e, it, x, led, rfl, hl, h''⟩ := h' u σ' s' hf S'.re k₁ ht
  cases is_ref hu
  obtain ⟨loc₁, led₁, g₁⟩ := σ'
  dsimp only at hl
  subst hl
  obtain ⟨⟨old, he⟩, _, _⟩ := ene_at S'
  exact wpAny_pyIter_enum he h''
theorem sg_turn {xi xv : Str} {pi pv pt : Pos} {k : Nat} {e it : Addr} {x : Str} {i ch : Nat} {body : List Stmt} {k' : Result → Sem Fin} {hd : Option Value} {gg : Bool} {l : List Value} {c₁ : Code} {p₁ : Pos} {kp : List Value}
    (hA : (A.over (.forLoop (.Tuple [.Name xi pi, .Name xv pv] k pt) (.ref e) body [] E) (.ret k' hd gg l c₁ p₁ kp :: fs)).handled = none) (hty : strIterType x = "str_ascii_iterator") (hxi : StN (c.at A E) xi) (hxv : StN (c.at A E) xv)
    (S : St (c.at A E) ⟨loc, EnE e it x i ++ led, g⟩ F s) (hc : x.cps[i]? = some ch)
    (h : ∀ s' t Hb, St (c.at A E) ⟨(xv, vX ⟨#[ch]⟩ t) :: (xi, vI i) :: loc, EnE e it x (i + 1) ++ led, g⟩ F s' → TK s.heap s'.heap → s.toks ≤ t → t < s'.toks →
      SegX (Mp c) A (.forLoop (.Tuple [.Name xi pi, .Name xv pv] k pt) (.ref e) body [] E) ((execs body E).wrap (loopK (.forLoop (.Tuple [.Name xi pi, .Name xv pv] k pt) (.ref e) body [] E)) Hb id id) (.ret k' hd gg l c₁ p₁ kp :: fs) s' P) :
    SegX (Mp c) A (.forLoop (.Tuple [.Name xi pi, .Name xv pv] k pt) (.ref e) body [] E) (denote table (.forLoop (.Tuple [.Name xi pi, .Name xv pv] k pt) (.ref e) body [] E)) (.ret k' hd gg l c₁ p₁ kp :: fs) s P := by
  refine sx_forLoop (wpAny_mono (enum_turnT (c := c.at (A.over (.forLoop (.Tuple [.Name xi pi, .Name xv pv] k pt) (.ref e) body [] E) (.ret k' hd gg l c₁ p₁ kp :: fs)) E) (pi := pi) (pv := pv) (pt := pt) (k := k) hA hty hxi hxv S.re hc (fun s' t S' k₁ h1 h2 => fun Hb => h s' t Hb S'.re k₁ h1 h2)) (fun r s₁ hx => ?_) fun _ _ x => x)
  obtain ⟨v, hr, hgo⟩ := hx
  subst hr
  exact hgo
theorem sg_done {xi xv : Str} {pi pv pt : Pos} {k : Nat} {e it : Addr} {x : Str} {body : List Stmt} {k' : Result → Sem Fin} {hd : Option Value} {gg : Bool} {l : List Value} {c₁ : Code} {p₁ : Pos} {kp : List Value}
    (hA : (A.over (.forLoop (.Tuple [.Name xi pi, .Name xv pv] k pt) (.ref e) body [] E) (.ret k' hd gg l c₁ p₁ kp :: fs)).handled = none)
    (S : St (c.at A E) ⟨loc, EnE e it x x.cps.size ++ led, g⟩ F s)
    (h : ∀ s', St (c.at A E) ⟨loc, led, g⟩ F s' → TK s.heap s'.heap → s.toks ≤ s'.toks → SegX (Mp c) A c₁ (k' (.ok .next)) fs s' P) :
    SegX (Mp c) A (.forLoop (.Tuple [.Name xi pi, .Name xv pv] k pt) (.ref e) body [] E) (denote table (.forLoop (.Tuple [.Name xi pi, .Name xv pv] k pt) (.ref e) body [] E)) (.ret k' hd gg l c₁ p₁ kp :: fs) s P := by
  refine sx_forLoop (wpAny_mono (wpAny_toks (enum_done (c := c.at (A.over (.forLoop (.Tuple [.Name xi pi, .Name xv pv] k pt) (.ref e) body [] E) (.ret k' hd gg l c₁ p₁ kp :: fs)) E) hA S.re)) (fun r s₁ hx => ?_) fun _ _ x => x.2)
  obtain ⟨ht, hr, k₁, S₁⟩ := hx
  subst hr
  exact h _ S₁.re k₁ ht
end
end

section
open PySem PySem.Calls PyProof.Rows PySem.W.X
section
variable {c : Cx} {σ : Sg} {K : V → Sg → Prop} {loc : List (Str × V)} {led : List (Addr × LO)} {g : Array GenState}
theorem Ev.nmS {x y : Str} {t : Tok} {p : Pos} (hv : loc.lookup x = some (vX y t)) (h : K (vS y) ⟨loc, led, g⟩) (hx : c.env.kindOf x = some .local := by kernel_rfl!) (hd : (x == ("__debug__" : Str)) = false := by kernel_rfl!) :
    Ev c ⟨loc, led, g⟩ (.Name x p) K := fun F s S => by
  obtain ⟨m, hn, hm⟩ := S.ns
  obtain ⟨v, h1, h2⟩ := hm x _ hx hv
  refine wpAny_Name (wpAny_loadName_local S.ok.kind hx hn h1 (Pv.here S h ?_)) hd
  cases h2
  rfl
theorem Op2.eqS {x y : Str} (h : K (vB (x == y)) σ) : Op2 c σ (vS x) (vS y) (compareOp .Eq) K := fun F s v w S hv hw => by
  obtain ⟨t, rfl⟩ := is_str hv
  obtain ⟨u, rfl⟩ := is_str hw
  exact PyProof.Rows.eq_str (Pv.here S h rfl)
end
section
variable {c : Cx} {A : Around} {E : Env} {σ : Sg} {F : List (Addr × LO)} {s s₁ : Shared} {loc : List (Str × V)} {led : List (Addr × LO)} {g : Array GenState}
  {co : Code} {fs : List Frame} {P : End → Shared → Prop} {K : Flow → Sem Fin} {H : Value → Sem Fin} {gd : Bool → Bool} {lv : List Value → List Value}
theorem sg_yield {es : List Expr} {k : Nat} {tp ypos pos : Pos} {KL : List V → Sg → Prop} (hfs : splitAtGen fs = none) (hgd : gd false = false) (hfg : fs.any Frame.guarded = false) (hco : E.scope.isCoroutine = false) (hi : interactive E = false)
    (S : St (c.at A E) σ F s) (h : EvL (c.at (A.over co fs) E) σ es KL) (hl : es.length ≤ 1000)
    (h' : ∀ us σ' vs T s', KL us σ' → St (c.at A E) σ' F s' → IsAll s'.heap us vs → IsTup s'.heap T vs.toArray → TK s.heap s'.heap → s.toks ≤ s'.toks → vs.length ≤ 1000 ∧ ∀ l k p, k (.send .none) = K .next → P (.susp (.ref T) false l k co p fs) s') :
    SegX (Mp c) A co ((exec (.Expr (.Yield (some (.Tuple es k tp)) ypos) pos) E).wrap K H gd lv) fs s P := by
  refine sx_Yield hfs hgd hfg (wpAny_Tuple (wpAny_mono (wpAny_toks (h _ F s S.re)) (fun vs s₁ hx => ?_) fun _ _ x => x.2)) hco hi
  obtain ⟨ht, us, σ₁, S₁, k₁, hus, h₁⟩ := hx
  have S₂ : St (c.at A E) σ₁ F { s₁ with heap := s₁.heap.push { cls := .type "tuple", data := .seq vs.toArray } } := S₁.re.push _
  have kp := Kp.push s₁.heap { cls := .type "tuple", data := .seq vs.toArray }
  obtain ⟨hlen, hP⟩ := h' us σ₁ vs s₁.heap.objs.size _ h₁ S₂ (hus.mono kp.tk) ⟨_, Heap.get?_push_size _ rfl, rfl, _, rfl⟩ (k₁.trans kp.tk) ht
  exact ⟨by rw [sizeLine_eq]; omega, hP⟩
end
/-- the units of a text: a plain character, or a backslash and one more -/
noncomputable def GoodU (u : List Nat) : Prop := (∃ ch, ch ≠ 92 ∧ u = [ch]) ∨ ∃ ch, u = [92, ch]
noncomputable def items : Nat → List (List Nat) → List (Nat × List Nat)
  | _, [] => []
  | i, u :: r => (i + u.length - 1, u) :: items (i + u.length) r
/-- what a segment of the generator ends in -/
noncomputable def Out (c : Cx) (A : Around) (E : Env) : List (Nat × List Nat) → List (Addr × LO) → Array GenState → Shared → End → Shared → Prop
  | [], F, g, s₀ => fun e s => e = .ret (.ok (.ret .none)) ∧ TK s₀.heap s.heap ∧ s₀.toks ≤ s.toks ∧ ∃ loc led, FlatL loc ∧ St (c.at A E) ⟨loc, led, g⟩ F s
  | (q, u) :: rest, F, g, s₀ => fun e s => ∃ T l k co p fs tq tu loc led, e = .susp (.ref T) false l k co p fs ∧ fs.any Frame.guarded = false ∧ IsTup s.heap T #[.int q tq, .str (tx u) tu] ∧
      (u.length = 1 → 0 < tu ∧ tu < s.toks) ∧ TK s₀.heap s.heap ∧ s₀.toks ≤ s.toks ∧ FlatL loc ∧ St (c.at A E) ⟨loc, led, g⟩ F s ∧
      ∀ F₂ g₂ s₂, St (c.at A E) ⟨loc, led, g₂⟩ F₂ s₂ → 1 ≤ s₂.toks → SegX (Mp c) A co (k (.send .none)) fs s₂ (Out c A E rest F₂ g₂ s₂)
theorem Out.from {c : Cx} {A : Around} {E : Env} {F : List (Addr × LO)} {g : Array GenState} {s₀ s₁ : Shared} (k : TK s₀.heap s₁.heap) (ht : s₀.toks ≤ s₁.toks) : ∀ {its : List (Nat × List Nat)} {e : End} {s : Shared}, Out c A E its F g s₁ e s → Out c A E its F g s₀ e s := by
  intro its e s hx
  cases its with
  | nil => exact ⟨hx.1, k.trans hx.2.1, Nat.le_trans ht hx.2.2.1, hx.2.2.2⟩
  | cons a rest =>
    obtain ⟨q, u⟩ := a
    obtain ⟨T, l, kk, co, p, fs, tq, tu, loc, led, h1, h2, h3, h4, h5, h6, x⟩ := hx
    exact ⟨T, l, kk, co, p, fs, tq, tu, loc, led, h1, h2, h3, h4, k.trans h5, Nat.le_trans ht h6, x⟩
end

section
open PySem PySem.Calls PyProof.Rows PySem.W.X
noncomputable abbrev gE (n : Nat) (a : Addr) (cd : Value) : Env := envOfC (fn 3).name (fn 3).scope n a cd
noncomputable def forParts : Stmt → Expr × List Stmt
  | .For t _ b _ _ => (t, b)
  | _ => (default, [])
noncomputable def gT : Expr := (forParts ((fn 3).body.getD 2 (.Pass default))).1
noncomputable def gB : List Stmt := (forParts ((fn 3).body.getD 2 (.Pass default))).2
noncomputable abbrev gL (n : Nat) (a : Addr) (cd : Value) (e : Addr) : Code := .forLoop gT (.ref e) gB [] (gE n a cd)
theorem drop_cons {α : Type} {L : List α} {i : Nat} {a : α} {r : List α} (h : L.drop i = a :: r) : L[i]? = some a ∧ L.drop (i + 1) = r ∧ i < L.length := by
  have h1 : L[i]? = some a := by
    have := congrArg (·[0]?) h
    simpa [List.getElem?_drop] using this
  refine ⟨h1, ?_, (List.getElem?_eq_some_iff.mp h1).1⟩
  have := congrArg (List.drop 1) h
  simpa [List.drop_drop, Nat.add_comm] using this
theorem FlatL.cons {loc : List (Str × V)} {y : Str} {u : V} (h : Flat u) (x : FlatL loc) : FlatL ((y, u) :: loc) := fun p hp => by
  rcases List.mem_cons.mp hp with rfl | hp
  · exact h
  · exact x p hp
theorem ne4 {a b c d e : Nat} (h1 : a ≤ b) (h2 : b ≤ c) (h3 : c ≤ d) (h4 : d ≤ e) : a ≤ e := by omega
section
variable {c : Cx} {A : Around} {F : List (Addr × LO)} {s s₀ : Shared} {loc : List (Str × V)} {g : Array GenState} {n : Nat} {a : Addr} {cd : Value} {e it : Addr} {x : Str}
  {k' : Result → Sem Fin} {l : List Value} {c₁ : Code} {p₁ : Pos} {kp : List Value}
set_option maxHeartbeats 2000000 in
theorem gen_loop (hA : A.handled = none) (hty : strIterType x = "str_ascii_iterator")
    (hend : ∀ F g s loc, St (c.at A (gE n a cd)) ⟨loc, [], g⟩ F s → loc.lookup ("escape" : Str) = some (vB false) → FlatL loc → SegX (Mp c) A c₁ (k' (.ok .next)) [] s (Out c A (gE n a cd) [] F g s)) :
    ∀ (us : List (List Nat)) (i : Nat) F g s loc, x.cps.toList.drop i = us.flatten → i ≤ x.cps.size → (∀ u ∈ us, GoodU u) → St (c.at A (gE n a cd)) ⟨loc, EnE e it x i, g⟩ F s → 1 ≤ s.toks →
      loc.lookup ("escape" : Str) = some (vB false) → FlatL loc →
      SegX (Mp c) A (gL n a cd e) (denote table (gL n a cd e)) [.ret k' none false l c₁ p₁ kp] s (Out c A (gE n a cd) (items i us) F g s)
  | [], i, F, g, s, loc, hd, hi, hu, S, ht, he, hf => by
    have hi' : i = x.cps.size := by
      have h2 := congrArg List.length hd
      simp at h2
      omega
    subst hi'
    refine sg_done (led := []) (by simpa [Around.over, marksOver, Frame.marks, markOver] using hA) S fun s' S' k₁ t₁ => ?_
    exact (hend F g s' loc S' he hf).mono fun e s'' y => Out.from (its := []) k₁ t₁ y
  | u :: us, i, F, g, s, loc, hd, hi, hu, S, ht, he, hf => by
    rw [List.flatten_cons] at hd
    rcases hu u (.head _) with ⟨ch, hne, rfl⟩ | ⟨ch, rfl⟩
    · obtain ⟨h1, h2, h3⟩ := drop_cons hd
      refine sg_turn (led := []) (by simpa [Around.over, marksOver, Frame.marks, markOver] using hA) hty (.inl (by kernel_rfl!)) (.inl (by kernel_rfl!)) S (by simpa using h1) fun s₁ t Hb S₁ k₁ t1 t2 => ?_
      refine sx_cons ?_
      refine sg_If (KB := fun b σ' => b = false ∧ σ' = ⟨(("ch" : Str), vX ⟨#[ch]⟩ t) :: (("pos" : Str), vI i) :: loc, EnE e it x (i + 1), g⟩) S₁ (EvT.val (Ev.nm (u := vB false) (by exact he) (OpT.bool ⟨rfl, rfl⟩))) fun b σ' s₂ hb S₂ k₂ t3 => ?_
      obtain ⟨rfl, rfl⟩ := hb
      rw [if_neg (by decide)]
      refine sx_cons ?_
      refine sg_If (KB := fun b σ' => b = ((⟨#[ch]⟩ : Str) == Str.ofString "\\") ∧ σ' = ⟨(("ch" : Str), vX ⟨#[ch]⟩ t) :: (("pos" : Str), vI i) :: loc, EnE e it x (i + 1), g⟩) S₂ (EvT.cmp (Ev.nmS rfl (Ev.str (Op2.eqS (OpT.bool ⟨rfl, rfl⟩))))) fun b σ' s₃ hb S₃ k₃ t4 => ?_
      obtain ⟨rfl, rfl⟩ := hb
      rw [if_neg (by rw [bs_eq]; simpa [tx] using hne)]
      refine sx_cons ?_
      have hf' : FlatL ((("ch" : Str), vX ⟨#[ch]⟩ t) :: (("pos" : Str), vI i) :: loc) := .cons trivial (.cons trivial hf)
      refine sg_yield (KL := fun us σ' => us = [vI i, vX ⟨#[ch]⟩ t] ∧ σ' = ⟨(("ch" : Str), vX ⟨#[ch]⟩ t) :: (("pos" : Str), vI i) :: loc, EnE e it x (i + 1), g⟩) rfl rfl rfl (by kernel_rfl!) (by rfl) S₃ (EvL.cons (Ev.nm rfl (EvL.cons (Ev.nm rfl (EvL.nil ⟨rfl, rfl⟩))))) (by decide) fun us' σ' vs T s₄ hb S₄ hall hT k₄ t5 => ?_
      obtain ⟨rfl, rfl⟩ := hb
      obtain ⟨v, w, rfl, hv, hw⟩ := isAll2 hall
      obtain ⟨tq, rfl⟩ := is_int hv
      cases hw
      refine ⟨by simp, fun l' k p hk => ?_⟩
      refine ⟨T, l', k, _, p, _, tq, t, _, _, rfl, rfl, hT, fun _ => ⟨Nat.lt_of_lt_of_le ht t1, Nat.lt_of_lt_of_le t2 (ne4 (Nat.le_refl _) t3 t4 t5)⟩, k₁.trans (k₂.trans (k₃.trans k₄)), ne4 (Nat.le_trans t1 (Nat.le_of_lt t2)) t3 t4 t5, hf', S₄, fun F₂ g₂ s₅ S₅ ht5 => ?_⟩
      · rw [hk]
        refine s_again _ _ _ _ _ _ _ _ rfl ?_
        exact gen_loop hA hty hend us (i + 1) F₂ g₂ s₅ _ h2 (by simp at h3; omega) (fun u hu' => hu u (.tail _ hu')) S₅ ht5 (by exact he) hf'
    · obtain ⟨h1, h2, h3⟩ := drop_cons hd
      obtain ⟨h4, h5, h6⟩ := drop_cons h2
      refine sg_turn (led := []) (by simpa [Around.over, marksOver, Frame.marks, markOver] using hA) hty (.inl (by kernel_rfl!)) (.inl (by kernel_rfl!)) S (by simpa using h1) fun s₁ t Hb S₁ k₁ t1 t2 => ?_
      refine sx_cons ?_
      refine sg_If (KB := fun b σ' => b = false ∧ σ' = ⟨(("ch" : Str), vX ⟨#[92]⟩ t) :: (("pos" : Str), vI i) :: loc, EnE e it x (i + 1), g⟩) S₁ (EvT.val (Ev.nm (u := vB false) (by exact he) (OpT.bool ⟨rfl, rfl⟩))) fun b σ' s₂ hb S₂ k₂ t3 => ?_
      obtain ⟨rfl, rfl⟩ := hb
      rw [if_neg (by decide)]
      refine sx_cons ?_
      refine sg_If (KB := fun b σ' => b = ((⟨#[92]⟩ : Str) == Str.ofString "\\") ∧ σ' = ⟨(("ch" : Str), vX ⟨#[92]⟩ t) :: (("pos" : Str), vI i) :: loc, EnE e it x (i + 1), g⟩) S₂ (EvT.cmp (Ev.nmS rfl (Ev.str (Op2.eqS (OpT.bool ⟨rfl, rfl⟩))))) fun b σ' s₃ hb S₃ k₃ t4 => ?_
      obtain ⟨rfl, rfl⟩ := hb
      rw [if_pos (by decide +kernel)]
      refine sg_plain (N := fun σ' => σ' = ⟨(("escape" : Str), vB true) :: (("ch" : Str), vX ⟨#[92]⟩ t) :: (("pos" : Str), vI i) :: loc, EnE e it x (i + 1), g⟩) S₃ (Ex.asg (Ev.bool rfl)) fun σ' s₄ hb S₄ k₄ t5 => ?_
      subst hb
      refine sx_nil ?_
      refine s_again _ _ _ _ _ _ _ _ rfl ?_
      refine sg_turn (led := []) (by simpa [Around.over, marksOver, Frame.marks, markOver] using hA) hty (.inl (by kernel_rfl!)) (.inl (by kernel_rfl!)) S₄ (by simpa using h4) fun s₅ u Hc S₅ k₅ t6 t7 => ?_
      refine sx_cons ?_
      refine sg_If (KB := fun b σ' => b = true ∧ σ' = ⟨(("ch" : Str), vX ⟨#[ch]⟩ u) :: (("pos" : Str), vI (i + 1 : Nat)) :: (("escape" : Str), vB true) :: (("ch" : Str), vX ⟨#[92]⟩ t) :: (("pos" : Str), vI i) :: loc, EnE e it x (i + 1 + 1), g⟩) S₅ (EvT.val (Ev.nm (u := vB true) rfl (OpT.bool ⟨rfl, rfl⟩))) fun b σ' s₆ hb S₆ k₆ t8 => ?_
      obtain ⟨rfl, rfl⟩ := hb
      rw [if_pos rfl]
      refine sx_cons ?_
      have hf' : FlatL ((("ch" : Str), vX ⟨#[ch]⟩ u) :: (("pos" : Str), vI (i + 1 : Nat)) :: (("escape" : Str), vB true) :: (("ch" : Str), vX ⟨#[92]⟩ t) :: (("pos" : Str), vI i) :: loc) := .cons trivial (.cons trivial (.cons trivial (.cons trivial (.cons trivial hf))))
      refine sg_yield (KL := fun us σ' => us = [vI (i + 1 : Nat), vS (Str.ofString "\\" ++ ⟨#[ch]⟩)] ∧ σ' = ⟨(("ch" : Str), vX ⟨#[ch]⟩ u) :: (("pos" : Str), vI (i + 1 : Nat)) :: (("escape" : Str), vB true) :: (("ch" : Str), vX ⟨#[92]⟩ t) :: (("pos" : Str), vI i) :: loc, EnE e it x (i + 1 + 1), g⟩) rfl rfl rfl (by kernel_rfl!) (by rfl) S₆ (EvL.cons (Ev.nm rfl (EvL.cons (Ev.bin (Ev.str (Ev.nmS rfl (Op2.addS (by rw [bs_eq, tx_length]; exact (by decide : 2 ≤ 1000)) (EvL.nil ⟨rfl, rfl⟩)))))))) (by decide) fun us' σ' vs T s₇ hb S₇ hall hT k₇ t9 => ?_
      obtain ⟨rfl, rfl⟩ := hb
      obtain ⟨v, w, rfl, hv, hw⟩ := isAll2 hall
      obtain ⟨tq, rfl⟩ := is_int hv
      rw [bs_eq, show tx [92] ++ (⟨#[ch]⟩ : Str) = tx [92, ch] from tx_append [92] [ch]] at hw
      obtain ⟨tw, rfl⟩ := is_str hw
      refine ⟨by simp, fun l' k p hk => ?_⟩
      refine ⟨T, l', k, _, p, _, tq, tw, _, _, rfl, rfl, hT, fun q => absurd q (by simp), (k₁.trans (k₂.trans (k₃.trans k₄))).trans (k₅.trans (k₆.trans k₇)), ?_, hf', S₇, fun F₂ g₂ s₈ S₈ ht8 => ?_⟩
      · exact ne4 (Nat.le_trans t1 (Nat.le_of_lt t2)) t3 t4 (Nat.le_trans t5 (ne4 (Nat.le_trans t6 (Nat.le_of_lt t7)) t8 t9 (Nat.le_refl _)))
      · rw [hk]
        refine sg_plain (N := fun σ' => σ' = ⟨(("escape" : Str), vB false) :: (("ch" : Str), vX ⟨#[ch]⟩ u) :: (("pos" : Str), vI (i + 1 : Nat)) :: (("escape" : Str), vB true) :: (("ch" : Str), vX ⟨#[92]⟩ t) :: (("pos" : Str), vI i) :: loc, EnE e it x (i + 1 + 1), g₂⟩) S₈ (Ex.asg (Ev.bool rfl)) fun σ' s₉ hb S₉ k₉ t10 => ?_
        subst hb
        refine sx_nil ?_
        refine s_again _ _ _ _ _ _ _ _ rfl ?_
        exact (gen_loop hA hty hend us (i + 1 + 1) F₂ g₂ s₉ _ h5 (by simp at h6; omega) (fun u hu' => hu u (.tail _ hu')) S₉ (Nat.le_trans ht8 t10) rfl (.cons trivial hf')).mono fun e s'' y => Out.from k₉ t10 y
end
end

section
open PySem PySem.Calls PyProof.Rows PySem.W.X
section
variable {c : Cx} {A : Around} {F : List (Addr × LO)} {s s₀ : Shared} {loc : List (Str × V)} {g : Array GenState} {n : Nat} {a : Addr} {cd : Value} {x : Str}
set_option maxHeartbeats 2000000 in
theorem gen_start (hA : A.handled = none) (hty : strIterType x = "str_ascii_iterator") {us : List (List Nat)} (hx : x.cps.toList = us.flatten) (hu : ∀ u ∈ us, GoodU u)
    (S : St (c.at A (gE n a cd)) ⟨[(("addr" : Str), vS x)], [], g⟩ F s) (ht : 1 ≤ s.toks) :
    SegX (Mp c) A (.func (fn 3).body (gE n a cd)) (denote table (.func (fn 3).body (gE n a cd))) [] s (Out c A (gE n a cd) (items 0 us) F g s) := by
  refine sx_func fun H => ?_
  refine sg_plain (N := fun σ' => σ' = ⟨[(("pos" : Str), vI 0), (("addr" : Str), vS x)], [], g⟩) S (Ex.asg (Ev.int rfl)) fun σ' s₁ hb S₁ k₁ t1 => ?_
  subst hb
  refine sg_plain (N := fun σ' => σ' = ⟨[(("escape" : Str), vB false), (("pos" : Str), vI 0), (("addr" : Str), vS x)], [], g⟩) S₁ (Ex.asg (Ev.bool rfl)) fun σ' s₂ hb S₂ k₂ t2 => ?_
  subst hb
  refine sx_cons ?_
  have hf : FlatL [(("escape" : Str), vB false), (("pos" : Str), vI 0), (("addr" : Str), vS x)] := .cons trivial (.cons trivial (.cons trivial fun _ h => nomatch h))
  refine sg_for (KV := fun u σ' => ∃ e it, u = vR e ∧ σ' = ⟨[(("escape" : Str), vB false), (("pos" : Str), vI 0), (("addr" : Str), vS x)], EnE e it x 0, g⟩) S₂ (Ev.callT "enumerate" (EvL.cons (Ev.nm rfl (EvL.nil (OpL.enumS fun e it => ⟨e, it, rfl, rfl⟩))))) fun u σ' s₃ hb S₃ k₃ t3 => ?_
  obtain ⟨e, it, rfl, rfl⟩ := hb
  refine ⟨e, it, x, [], rfl, (List.append_nil _).symm, fun k' p hk => ?_⟩
  refine SegX.mono (gen_loop hA hty (fun F₂ g₂ s₄ loc S₄ he hf => ?_) us 0 F g s₃ _ (by simpa using hx) (Nat.zero_le _) hu S₃ (Nat.le_trans ht (ne4 t1 t2 t3 (Nat.le_refl _))) rfl hf) fun e s' y => Out.from (k₁.trans (k₂.trans k₃)) (ne4 t1 t2 t3 (Nat.le_refl _)) y
  rw [hk]
  refine sx_cons ?_
  refine sg_If (KB := fun b σ' => b = false ∧ σ' = ⟨loc, [], g₂⟩) S₄ (EvT.val (Ev.nm (u := vB false) he (OpT.bool ⟨rfl, rfl⟩))) fun b σ' s₅ hb S₅ k₅ t5 => ?_
  obtain ⟨rfl, rfl⟩ := hb
  rw [if_neg (by decide)]
  refine sx_nil ?_
  exact s_end _ _ _ _ _ _ (.ok (.ret .none)) _ rfl ⟨rfl, k₅, t5, loc, _, hf, S₅⟩
end
end

section
open PySem PySem.Calls PyProof.Rows PySem.W.X
section
variable {c : Cx} {σ : Sg} {E : Env} {F : List (Addr × LO)} {s : Shared} {loc : List (Str × V)} {led : List (Addr × LO)} {g : Array GenState}
theorem St.gens {g' : Array GenState} (S : St c ⟨loc, led, g⟩ F s) : St c ⟨loc, led, g'⟩ F { s with gens := g' } where
  ok := S.ok
  same := by obtain ⟨h, tk, e⟩ := S.same; exact ⟨h, tk, by rw [e]⟩
  keep := S.keep
  ns := S.ns
  cl := S.cl
  led := S.led
  nd := S.nd
  tp := S.tp
theorem St.gensIs (S : St c σ F s) : s.gens = σ.gens := by obtain ⟨h, tk, e⟩ := S.same; rw [e]
noncomputable def GenO (k : Nat) (o : Obj) : Prop := ∃ nm qn, o.cls = .type "generator" ∧ o.data = .fields #[.int k 0, nm, qn] ∧ o.slots = #[]
noncomputable def Wait (c : Cx) (A : Around) (E : Env) (its : List (Nat × List Nat)) (gs : GenState) (loc : List (Str × V)) (led : List (Addr × LO)) : Prop :=
  FlatL loc ∧ ∃ c₀ t₀ fs₀, ((gs = .fresh c₀ ∧ t₀ = denote table c₀ ∧ fs₀ = []) ∨ ∃ k₀ l₀ p₀ cl, gs = .suspended k₀ l₀ c₀ p₀ fs₀ cl ∧ t₀ = k₀ (.send .none)) ∧
    ∀ F g s, St (c.at A E) ⟨loc, led, g⟩ F s → 1 ≤ s.toks → SegX (Mp c) A c₀ t₀ fs₀ s (Out c A E its F g s)
noncomputable def GenL (ga k : Nat) (E : Env) (dloc : List (Str × V)) (dled : List (Addr × LO)) : List (Addr × LO) := (E.locals, .is (Asleep E dloc)) :: (ga, .is (GenO k)) :: dled
noncomputable def Told (c : Cx) (E : Env) (ga k : Nat) (loc : List (Str × V)) (led : List (Addr × LO)) (g : Array GenState) (F : List (Addr × LO)) : List (Nat × List Nat) → Option Value → Shared → Prop
  | [], r, s' => r = none ∧ St c ⟨loc, led, g.setIfInBounds k .finished⟩ F s'
  | (q, u) :: rest, r, s' => ∃ T tq tu gs dloc dled, r = some (.ref T) ∧ IsTup s'.heap T #[.int q tq, .str (tx u) tu] ∧ (u.length = 1 → 0 < tu ∧ tu < s'.toks) ∧
      St c ⟨loc, GenL ga k E dloc dled ++ led, g.setIfInBounds k gs⟩ F s' ∧ Wait c c.A.in1 E rest gs dloc dled
theorem gen_next {ga k : Nat} {its : List (Nat × List Nat)} {gs : GenState} {dloc : List (Str × V)} {dled : List (Addr × LO)} (hr : Room 1 c.A) (dok : (c.at c.A.in1 E).Ok)
    (hcc : c.env.cells = []) (hdc : E.cells = []) (hkc : ∀ x, E.kindOf x ≠ some .cell) (hkk : ∀ x, c.env.kindOf x ≠ some .cell) (hf : FlatL loc)
    (S : St c ⟨loc, GenL ga k E dloc dled ++ led, g⟩ F s) (hg : g[k]? = some gs) (W : Wait c c.A.in1 E its gs dloc dled) (ht : 1 ≤ s.toks) :
    wpAny (Mo c) c.A (pyNext (.ref ga)) (fun r s' => TK s.heap s'.heap ∧ s.toks ≤ s'.toks ∧ Told c E ga k loc led g F its r s') NoE s := by
  obtain ⟨fd, c₀, t₀, fs₀, hgs, hseg⟩ := W
  have hga : s.heap.IsGen ga k := by
    obtain ⟨o, ho, _, nm, qn, h1, h2, h3⟩ := (S.led (ga, .is (GenO k)) (List.mem_append_left _ (List.mem_append_left _ (.tail _ (.head _))))).1
    exact ⟨o, nm, qn, ho, h1, h2, h3⟩
  have hsg : s.gens[k]? = some gs := by rw [S.gensIs]; exact hg
  have S₁ : St c ⟨loc, GenL ga k E dloc dled ++ led, g.setIfInBounds k .running⟩ F (s.setGen k .running) := by
    have := S.gens (g' := g.setIfInBounds k .running)
    have e : s.setGen k .running = { s with gens := g.setIfInBounds k .running } := by
      show { s with gens := s.gens.setIfInBounds k .running } = _
      rw [S.gensIs]
    rw [e]; exact this
  have S₂ : St (c.at c.A.in1 E) ⟨dloc, dled, g.setIfInBounds k .running⟩ ((c.env.locals, .is (Asleep c.env loc)) :: (ga, .is (GenO k)) :: (led ++ F)) (s.setGen k .running) := by
    refine St.swap dok hcc hdc hkc hf fd S₁ (rest := (ga, .is (GenO k)) :: dled ++ (led ++ F)) ?_ ?_
    · simp only [GenL, List.cons_append, List.append_assoc]; exact List.Perm.refl _
    · exact (List.perm_middle.trans ((List.Perm.cons _ List.perm_middle)))
  have back : ∀ {dloc' dled' g' s'}, FlatL dloc' → St (c.at c.A.in1 E) ⟨dloc', dled', g'⟩ ((c.env.locals, .is (Asleep c.env loc)) :: (ga, .is (GenO k)) :: (led ++ F)) s' → St c ⟨loc, GenL ga k E dloc' dled' ++ led, g'⟩ F s' := by
    intro dloc' dled' g' s' fd' S'
    refine St.swap (c := c.at c.A.in1 E) (A := c.A) (E := c.env) S.ok hdc hcc hkk fd' hf S' (rest := (ga, .is (GenO k)) :: dled' ++ (led ++ F)) ?_ ?_
    · exact (List.perm_middle.trans ((List.Perm.cons _ List.perm_middle)))
    · simp only [GenL, List.cons_append, List.append_assoc]; exact List.Perm.refl _
  have main : ∀ {α : Type} {Q : α → Shared → Prop} {EE : Value → Shared → Prop} {kk : GenResult → Sem α} {l : List Value},
      (∀ e s', Out c c.A.in1 E its ((c.env.locals, .is (Asleep c.env loc)) :: (ga, .is (GenO k)) :: (led ++ F)) (g.setIfInBounds k .running) (s.setGen k .running) e s' → wpAny (Mo c) c.A.in1 (kk e.result) Q EE (s'.setGen k e.genState)) →
      wpAny (Mo c) c.A.in1 (.resume k (.send .none) l kk) Q EE s := by
    intro α Q EE kk l h
    refine wake_any α c.prog c.w (A := c.A.in1) hsg (hgs.imp (fun  hx => ?_) id) (fun Γ => Γ.In c.A.in1) (fun _ h => h) ?_
    obtain ⟨a, b, d⟩ := hx
    exact ⟨a, rfl, b, d⟩
    exact (hseg _ _ _ S₂ ht).mono fun e s' he Γ p hΓ => h e s' he Γ p hΓ
  have after : ∀ {led' gs' s'}, St c ⟨loc, led', g.setIfInBounds k .running⟩ F s' → St c ⟨loc, led', g.setIfInBounds k gs'⟩ F (s'.setGen k gs') := by
    intro led' gs' s' S'
    have e : s'.setGen k gs' = { s' with gens := g.setIfInBounds k gs' } := by
      show { s' with gens := s'.gens.setIfInBounds k gs' } = _
      rw [S'.gensIs]
      show { s' with gens := (g.setIfInBounds k .running).setIfInBounds k gs' } = _
      rw [Array.setIfInBounds_setIfInBounds]
    rw [e]; exact S'.gens
  unfold pyNext
  refine wpAny_bind (wpAny_attempt (wpAny_callSpecial?_slot (name := Str.ofString "__next__") hga.typeIs slot_gen_next
    (wpAny_call_entry slot_gen_next hga.typeIs entry_gen_next ?_ (args_gen_next _))))
  show wpAny _ _ (Builtin.Generator.genWake (.ref ga) (.send .none)) _ _ s
  unfold Builtin.Generator.genWake
  refine wpAny_bind (wpAny_holding (wpAny_genNumber hga (wpAny_bind (wpAny_genState hsg ?_))))
  have hst : gs ≠ .running ∧ gs ≠ .finished := by
    rcases hgs with ⟨rfl, _⟩ | ⟨_, _, _, _, rfl, _⟩
    · exact ⟨by simp, by simp⟩
    · exact ⟨by simp, by simp⟩
  clear hgs
  cases gs with
  | running => exact absurd rfl hst.1
  | finished => exact absurd rfl hst.2
  | _ =>
    refine wpAny_bind (wpAny_roomToWake S.gl.nolimit (by have := hr.2.1; show c.A.depth < _; omega) ?_)
    show wpAny _ _ (.resume k (.send .none) [] _) _ _ s
    refine main fun e s' he => ?_
    cases its with
    | nil =>
      obtain ⟨rfl, k₁, t₁, dl, dd, fd', S'⟩ := he
      show wpAny _ _ (newExc (.type "StopIteration") [] >>= _) _ _ _
      refine wpAny_bind ?_
      simp only [newExc, newTuple]
      refine wpAny_bind (wpAny_newObj_type ?_ (by size_fits))
      refine wpAny_bind (m := firstArgMember _ _) (wpAny_of_eq (a := Value.none) (by first | rfl | (simp only [firstArgMember]; rfl)) ?_)
      refine wpAny_newObj_type ?_ (by size_fits)
      simp only [raiseNew]
      refine wpAny_bind (wpAny_bind (wpAny_handled ?_))
      rw [show c.A.in1.handled = none from hr.1]
      refine wpAny_throw ?_
      refine wpAny_bind (wpAny_isInstance (T := "StopIteration") (b := true) ⟨_, Heap.get?_push_size _ rfl, rfl⟩ isSubtype_stop ?_)
      have S₃ := after (gs' := .finished) (back fd' S')
      have S₄ := S₃.sub (led := led) (F' := F) (fun p hp => by
        rcases List.mem_append.mp hp with hp | hp
        · exact List.mem_append_left _ (List.mem_append_right _ hp)
        · exact List.mem_append_right _ hp) (by
        refine List.Nodup.sublist ?_ S₃.nd
        show ((led ++ F).map (·.1)).Sublist (((GenL ga k E dl dd ++ led) ++ F).map (·.1))
        rw [List.append_assoc]
        exact (List.sublist_append_right _ _).map _)
      refine wpAny_pure ⟨k₁.trans (Kp.tk ((Kp.push _ _).trans (Kp.push _ _))), t₁, rfl, ?_⟩
      exact (S₄.push _).push _
    | cons it rest =>
      obtain ⟨q, u⟩ := it
      obtain ⟨T, l, kk, co, p, fs, tq, tu, dl, dd, rfl, hfg, hT, htu, k₁, t₁, fd', S', hnext⟩ := he
      have eg : (End.susp (.ref T) false l kk co p fs).genState = GenState.suspended kk l co p fs false := by simp [End.genState, hfg]
      rw [eg]
      refine wpAny_pure ⟨_, rfl, wpAny_pure ⟨k₁, t₁, T, tq, tu, _, dl, dd, rfl, hT, htu, after (gs' := .suspended kk l co p fs false) (back fd' S'), fd', co, _, fs, .inr ⟨kk, l, p, false, rfl, rfl⟩, hnext⟩⟩

end
end

section
open PySem PySem.Calls PyProof.Rows PySem.W.X
section
variable {c : Cx} {σ : Sg} {K : V → Sg → Prop} {F : List (Addr × LO)} {s : Shared} {A : Around} {x : Str} {us : List (List Nat)} {n : Nat} {a : Addr} {cd : Value}
theorem wait_start (hA : A.handled = none) (hty : strIterType x = "str_ascii_iterator") (hx : x.cps.toList = us.flatten) (hu : ∀ u ∈ us, GoodU u) :
    Wait c A (gE n a cd) (items 0 us) (.fresh (.func (fn 3).body (gE n a cd))) [(("addr" : Str), vS x)] [] :=
  ⟨.cons trivial fun _ h => (nomatch h), _, _, _, .inl ⟨rfl, rfl, rfl⟩, fun F g s S ht => gen_start hA hty hx hu S ht⟩
theorem gen_call (hr : Room 1 c.A) (h : ∀ ga n a cd, (c.at c.A.in1 (gE n a cd)).Ok → K (vR ga) ⟨σ.loc, GenL ga σ.gens.size (gE n a cd) [(("addr" : Str), vS x)] [] ++ σ.led, σ.gens.push (.fresh (.func (fn 3).body (gE n a cd)))⟩) :
    ∀ F s vs a, c.mg (fn 3).name = some (.ref a) → St c σ F s → IsAll s.heap [vS x] vs →
      codeAny (Mo c) c.A (.call (.ref a) ⟨vs, []⟩) (fun r s' => match r with | .ok (.ret v) => 2 ≤ s'.toks ∧ Pv c F s K v s' | _ => False) s := fun F s vs a hm S hus => by
  obtain ⟨loc, led, g⟩ := σ
  have hg : s.gens = g := S.gensIs
  subst hg
  obtain ⟨v, rfl, hv⟩ := isAll1 hus
  obtain ⟨a', o, pm, cd, doc, hm', ho, hdat, hcd⟩ := S.gl.fn _ (fn_mem (i := 3) (by decide))
  have : a' = a := by rw [hm] at hm'; exact (Value.ref.inj (Option.some.inj hm')).symm
  subst this
  have hk : (fn 3).scope.kind = .function := by kernel_rfl
  have hbind : bindArgs (docDef (fn 3).name (fn 3).params (fn 3).body (fn 3).scope pm cd doc) ⟨[v], []⟩ = pure [(("addr" : Str), v)] := rfl
  refine codeAny_call_generator (fd := docDef (fn 3).name (fn 3).params (fn 3).body (fn 3).scope pm cd doc) (body := (fn 3).body) (by have := hr.2.1; omega) ho hdat (by kernel_rfl) (by kernel_rfl) rfl hcd ?_
  rw [hbind]
  refine wpAny_pure (wpAny_newFunctionEnv_cells hk ?_ fun env he s' X => ?_)
  · intro y hy
    rcases List.mem_cons.mp hy with rfl | hy
    · exact .inl (by kernel_rfl)
    · cases hy
  · subst he
    obtain ⟨h₁, tk, rfl, _⟩ := X.done
    have hkeep : Kp s.heap h₁ := X.toInCall.keep
    have hns := X.toInCall.ns
    refine ⟨S.gl.nolimit.keeps hkeep, ?_⟩
    show 2 ≤ tk + 1 + 1 ∧ Pv c F s K (.ref h₁.objs.size) { s with heap := h₁.push { cls := .type "generator", data := .fields #[.int s.gens.size 0, .str (fn 3).name tk, .str (fn 3).name (tk + 1)] }, toks := tk + 1 + 1, gens := s.gens.push (.fresh (.func (fn 3).body (gE s.heap.objs.size a' cd))) }
    refine ⟨Nat.le_add_left 2 tk, ?_⟩
    generalize hob : ({ cls := .type "generator", data := .fields #[.int s.gens.size 0, .str (fn 3).name tk, .str (fn 3).name (tk + 1)] } : Obj) = ob
    have S₀ := S.gens (g' := s.gens.push (.fresh (.func (fn 3).body (gE s.heap.objs.size a' cd))))
    have kp : Kp h₁ (h₁.push ob) := Kp.push _ _
    obtain ⟨on, es, ep, en, hd, rn⟩ := hns
    have hlt : s.heap.objs.size < h₁.objs.size := Heap.lt_size en
    refine ⟨vR h₁.objs.size, _, St.joinP (led' := GenL h₁.objs.size s.gens.size (gE s.heap.objs.size a' cd) [(("addr" : Str), vS x)] []) S₀ ⟨h₁.push ob, tk + 1 + 1, ?_⟩ (hkeep.trans kp) (fun p hp => ?_) ?_ (fun _ => Nat.le_add_left 1 (tk + 1)), Kp.tk (hkeep.trans kp), rfl, h _ _ _ _ ?_⟩
    · rfl
    · rcases List.mem_cons.mp hp with rfl | hp
      · refine ⟨⟨on, kp _ _ en, by unfold notTupObj; rw [hd], h₁, _, en, ⟨on, es, ep, en, hd, rn⟩, fun y u k e => ?_⟩, Nat.le_refl _⟩
        obtain ⟨v', h1, h2⟩ := bindL_is (h := s.heap) (m := fun _ => none) (names := [("addr" : Str)]) (us := [vS x]) k (by decide) hus e
        exact ⟨v', h1, h2.mono hkeep.tk⟩
      · rcases List.mem_cons.mp hp with rfl | hp
        · subst hob
          exact ⟨⟨_, Heap.get?_push_size _ rfl, rfl, _, _, rfl, rfl, rfl⟩, Nat.le_of_lt hlt⟩
        · cases hp
    · show [s.heap.objs.size, h₁.objs.size].Nodup
      simp
      omega
    · exact ⟨hk, by kernel_rfl!, rfl, rfl, S.size, fun n b e => (by have : ([] : List (Str × Addr)).lookup n = some b := e; cases this), S.ok.gl⟩
end
end

section
open PySem PySem.Calls PyProof.Rows PySem.W.X
noncomputable def EvN (n : Nat) (c : Cx) (σ : Sg) (e : Expr) (K : Nat → V → Sg → Prop) : Prop :=
  ∀ F s, n ≤ s.toks → St c σ F s → wpAny (Mo c) c.A (eval e c.env) (fun v s' => ∃ m, n ≤ m ∧ m ≤ s'.toks ∧ Pv c F s (K m) v s') NoE s
noncomputable def EvLN (n : Nat) (c : Cx) (σ : Sg) (es : List Expr) (K : Nat → List V → Sg → Prop) : Prop :=
  ∀ pos F s, n ≤ s.toks → St c σ F s → wpAny (Mo c) c.A (spliced (backTo pos (starEach es c.env))) (fun vs s' => ∃ m, n ≤ m ∧ m ≤ s'.toks ∧ Pl c F s (K m) vs s') NoE s
noncomputable def FnAtN (n : Nat) (c : Cx) (σ : Sg) (d : DefRec) (us : List V) (K : Nat → V → Sg → Prop) : Prop :=
  ∀ F s vs a, n ≤ s.toks → c.mg d.name = some (.ref a) → St c σ F s → IsAll s.heap us vs →
    codeAny (Mo c) c.A (.call (.ref a) ⟨vs, []⟩) (fun r s' => match r with | .ok (.ret v) => ∃ m, n ≤ m ∧ m ≤ s'.toks ∧ Pv c F s (K m) v s' | _ => False) s
noncomputable def ExN (n : Nat) (c : Cx) (σ : Sg) (st : Stmt) (N : Sg → Prop) (R : V → Sg → Prop) : Prop := ∀ F s, n ≤ s.toks → St c σ F s → wpAny (Mo c) c.A (exec st c.env) (Pf c F s N R) NoE s
noncomputable def ExSN (n : Nat) (c : Cx) (σ : Sg) (l : List Stmt) (N : Sg → Prop) (R : V → Sg → Prop) : Prop := ∀ F s, n ≤ s.toks → St c σ F s → wpAny (Mo c) c.A (execs l c.env) (Pf c F s N R) NoE s
section
variable {n : Nat} {c : Cx} {σ : Sg} {F : List (Addr × LO)} {s s₁ : Shared} {K : V → Sg → Prop} {KN : Nat → V → Sg → Prop} {N : Sg → Prop} {R : V → Sg → Prop} {loc : List (Str × V)} {led : List (Addr × LO)} {g : Array GenState}
theorem EvN.at {e : Expr} (h : Ev c σ e (KN n)) : EvN n c σ e KN := fun F s hn S =>
  wpAny_mono (wpAny_toks_of hn (h F s S)) (fun v s' ⟨t, x⟩ => ⟨n, Nat.le_refl _, t, x⟩) fun _ _ x => x.2
theorem EvLN.nil {KL : Nat → List V → Sg → Prop} (h : KL n [] σ) : EvLN n c σ [] KL := fun pos F s hn S =>
  wpAny_mono (wpAny_toks_of hn (EvL.nil (c := c) (KL := KL n) h pos F s S)) (fun v s' ⟨t, x⟩ => ⟨n, Nat.le_refl _, t, x⟩) fun _ _ x => x.2
theorem EvLN.cons {e : Expr} {es : List Expr} {KL : Nat → List V → Sg → Prop} (h : EvN n c σ e (fun m u σ' => EvLN m c σ' es (fun m' us σ'' => KL m' (u :: us) σ''))) (he : starEach (e :: es) c.env = (false, eval e c.env) :: starEach es c.env := by rfl) : EvLN n c σ (e :: es) KL := fun pos F s hn S => by
  refine wpAny_items_cons (wpAny_mono (h F s hn S) (fun v s₁ hx => ?_) fun _ _ x => x) he
  obtain ⟨m, hm, hms, u, σ₁, S₁, k₁, hu, h₁⟩ := hx
  refine wpAny_mono (h₁ pos F s₁ hms S₁) (fun vs s₂ hx => ?_) fun _ _ x => x
  obtain ⟨m', hm', hms', us, σ₂, S₂, k₂, hus, h₂⟩ := hx
  exact ⟨m', Nat.le_trans hm hm', hms', u :: us, σ₂, S₂, k₁.trans k₂, ⟨hu.mono k₂, hus⟩, h₂⟩
theorem EvN.callF {x : Str} {np pos : Pos} {e : Expr} {es : List Expr} (i : Nat) (h : EvLN n c σ (e :: es) (fun m us σ' => FnAtN m c σ' (fn i) us KN))
    (hd : i ∈ [1,3,5,6,7,8,9,10,12,13,14,15,16,17,18,19,20,21,22] := by decide) (hn : (fn i).name = x := by kernel_rfl!)
    (hx : c.env.kindOf x = some .globalImplicit := by kernel_rfl!) (hdb : (x == ("__debug__" : Str)) = false := by kernel_rfl!) (he : starEach (e :: es) c.env = (false, eval e c.env) :: starEach es c.env := by rfl) :
    EvN n c σ (.Call (.Name x np) (e :: es) [] pos) KN := fun F s ht S => by
  subst hn
  obtain ⟨a, o, pm, code, doc, hm, _⟩ := S.ok.gl.fn _ (fn_mem hd)
  refine wpAny_Call_ofName (ev_global S hm ?_ hx hdb)
  show wpAny _ _ (callWith pos (.ref a) [] (backTo pos (starEach (e :: es) c.env)) []) _ _ s
  have h1 := h pos F s ht S
  rw [he] at h1 ⊢
  obtain ⟨a', o, pm, code, doc, hm', ho, hdat, _⟩ := S.ok.gl.fn _ (fn_mem hd)
  have : a' = a := by rw [hm] at hm'; exact (Value.ref.inj (Option.some.inj hm')).symm
  subst this
  refine callWith_function (o := o) (fd := docDef (fn i).name (fn i).params (fn i).body (fn i).scope pm code doc) (evalArgs_plain (wpAny_mono h1 (fun vs s₁ hx => ?_) fun _ _ x => x))
  obtain ⟨m, hm1, hm2, us, σ₁, S₁, k₁, hus, h₁⟩ := hx
  refine ⟨⟨S₁.keep _ _ ho, hdat⟩, wpAny_call (codeAny_mono (h₁ F s₁ vs a' hm2 hm S₁ hus) fun r s' hr => ?_)⟩
  cases r with
  | error e => exact hr.elim
  | ok f =>
    cases f with
    | ret v => obtain ⟨m', h2, h3, x⟩ := hr; exact ⟨m', Nat.le_trans hm1 h2, h3, x.lift k₁⟩
    | _ => exact hr.elim
theorem EvN.subS {value slice : Expr} {p : Pos} {k : Int} {x : Str} {ch : Nat} (h : Ev c σ value (fun a σ₁ => a = vS x ∧ Ev c σ₁ slice (fun b σ₂ => b = vI k ∧ ∀ t, n ≤ t → KN (t + 1) (vX ⟨#[ch]⟩ t) σ₂)))
    (h0 : 0 ≤ k) (hu : x.cps[k.toNat]? = some ch) (hk : k < 2 ^ 63 := by omega)
    (hs : ∀ t t', subscripted slice false (.str x t') (.int k t) = operate [.str x t', .int k t] (getItem (.str x t') (.int k t)) := by walk_at "u") : EvN n c σ (.Subscript value slice p) KN := fun F s hn S => by
  refine Subscript_ (wpAny_mono (wpAny_toks_of hn (h F s S)) (fun v s₁ hx => ?_) fun _ _ x => x.2)
  obtain ⟨t1, a, σ₁, S₁, k₁, ha, e1, h₁⟩ := hx
  refine wpAny_mono (wpAny_toks_of t1 (h₁ F s₁ S₁)) (fun w s₂ hx => ?_) fun _ _ x => x.2
  obtain ⟨t2, b, σ₂, S₂, k₂, hb, e2, h₂⟩ := hx
  subst e1; subst e2
  obtain ⟨t', rfl⟩ := is_str ha
  obtain ⟨t, rfl⟩ := is_int hb
  have hlt : k.toNat < x.cps.size := (Array.getElem?_eq_some_iff.mp hu).1
  refine tail_any (typeIs_str s₂ x t') PySem.F.slot_str_getitem.lookup (P.getItem_str (c := ch) ?_ ?_ ⟨s₂.toks + 1, Nat.le_succ_of_le t2, Nat.le_refl _, vX ⟨#[ch]⟩ s₂.toks, σ₂, S₂.tok, k₁.trans k₂, rfl, h₂ _ t2⟩) (hs _ _)
  · simp; omega
  · rw [show seqIndex? k x.length = some k.toNat from seqIdx h0 hlt]
    simpa using hu
theorem ExN.setI {o i : Expr} {pos' p : Pos} {e : Expr} (h : Ev c σ e (fun u σ₁ => Ev c σ₁ o (fun a σ₂ => EvN n c σ₂ i (fun _ b σ₃ => SetOp c σ₃ a b u N))))
    (hs : swapsWith e (some (.Subscript o i pos')) p.line c.env = pure false := by rfl) : ExN n c σ (.Assign [.Subscript o i pos'] e p) N R := fun F s hn S => by
  refine wpAny_Assign_Subscript (wpAny_mono (wpAny_toks_of hn (h F s S)) (fun v s₁ hx => ?_) fun _ _ x => x.2) hs
  obtain ⟨t1, u, σ₁, S₁, k₁, hu, h₁⟩ := hx
  refine wpAny_mono (wpAny_toks_of t1 (h₁ F s₁ S₁)) (fun w s₂ hx => ?_) fun _ _ x => x.2
  obtain ⟨t2, a, σ₂, S₂, k₂, ha, h₂⟩ := hx
  refine wpAny_mono (h₂ F s₂ t2 S₂) (fun z s₃ hx => ?_) fun _ _ x => x
  obtain ⟨m, _, _, b, σ₃, S₃, k₃, hb, h₃⟩ := hx
  refine wpAny_mono (h₃ F s₃ w z v S₃ (ha.mono k₃) hb (hu.mono (k₂.trans k₃))) (fun _ s₄ hx => ?_) fun _ _ x => x
  obtain ⟨σ₄, S₄, k₄, h₄⟩ := hx
  exact ⟨σ₄, S₄, k₁.trans (k₂.trans (k₃.trans k₄)), h₄⟩
theorem ExN.ite {t : Expr} {b1 b2 : List Stmt} {p : Pos} (h : EvT c σ t (fun b σ' => (b = true → ExSN n c σ' b1 N R) ∧ (b = false → ExSN n c σ' b2 N R))) : ExN n c σ (.If t b1 b2 p) N R := fun F s hn S => by
  refine wpAny_If (wpAny_mono (wpAny_toks_of hn (h F s S)) (fun b s₁ hx => ?_) fun _ _ x => x.2)
  obtain ⟨t1, σ₁, S₁, k₁, h₁⟩ := hx
  cases b with
  | true => simpa using wpAny_mono (h₁.1 rfl F s₁ t1 S₁) (fun _ _ x => x.lift k₁) fun _ _ x => x
  | false => simpa using wpAny_mono (h₁.2 rfl F s₁ t1 S₁) (fun _ _ x => x.lift k₁) fun _ _ x => x
theorem ExSN.one {st : Stmt} (h : ExN n c σ st N R) : ExSN n c σ [st] N R := fun F s hn S => by
  refine wpAny_execs_cons (wpAny_mono (h F s hn S) (fun f s₁ hx => ?_) fun _ _ x => x)
  obtain ⟨σ₁, S₁, k₁, h₁⟩ := hx
  cases f with
  | next => exact wpAny_execs_nil ⟨σ₁, S₁, k₁, h₁⟩
  | ret v => exact ⟨σ₁, S₁, k₁, h₁⟩
  | brk => exact h₁.elim
  | cont => exact h₁.elim
theorem wpAny_letOwnedTupleGo_gen {prog : Program} {w : World} {A : Around} {E : Value → Shared → Prop} {s : Shared} {elts : List Expr} {x1 : Nat} {pos : Pos} {ga T : Addr} {k : Nat} {o : Obj} {Q : Unit → Shared → Prop} (ho : s.heap.get? ga = some o) (hg : GenO k o) (hQ : Q () s) :
    wpAny (model prog w) A (letOwnedTupleGo (.Tuple elts x1 pos) (.ref ga) (.ref T)) Q E s := by
  obtain ⟨nm, qn, hc, hd, _⟩ := hg
  unfold letOwnedTupleGo
  refine wpAny_bind (wpAny_load ho ?_)
  rw [hc, hd]
  show wpAny _ A (if (["enumerate", "zip", "dict_itemiterator", "dict_reverseitemiterator", "odict_iterator", "itertools.zip_longest", "itertools.pairwise"].contains "generator" &&
      (#[.int k 0, nm, qn] : Array Value)[0]? == some (rawInt T)) = true then _ else _) Q E s
  rw [if_neg (by
    intro h
    rw [show (["enumerate", "zip", "dict_itemiterator", "dict_reverseitemiterator", "odict_iterator", "itertools.zip_longest", "itertools.pairwise"].contains "generator") = false from by decide, Bool.false_and] at h
    cases h)]
  exact wpAny_pure hQ
end
end

section
open PySem PySem.Calls PyProof.Rows PySem.W.X
theorem push_set {α : Type} (a : Array α) (x y : α) : (a.push x).setIfInBounds a.size y = a.push y := by
  apply Array.toList_inj.mp
  rw [Array.toList_setIfInBounds, Array.toList_push, Array.toList_push, List.set_append]
  simp
section
variable {n : Nat} {c : Cx} {σ : Sg} {F : List (Addr × LO)} {s s₁ : Shared} {K : V → Sg → Prop} {KN : Nat → V → Sg → Prop} {N : Sg → Prop} {R : V → Sg → Prop} {loc : List (Str × V)} {led : List (Addr × LO)} {g : Array GenState}
set_option maxHeartbeats 1000000 in
theorem Ex.forG {xi xv : Str} {pi pv pt p : Pos} {k : Nat} {iter : Expr} {body : List Stmt} (hr : Room 1 c.A) (hcc : c.env.cells = []) (hkk : ∀ x, c.env.kindOf x ≠ some .cell)
    (Inv : Nat → List (Str × V) → List (Addr × LO) → Prop) (gb : Array GenState) (its : List (Nat × List Nat))
    (h : EvN 0 c σ iter (fun m u σ₁ => 1 ≤ m ∧ ∃ ga E dloc dled gs loc₀ led, u = vR ga ∧ σ₁ = ⟨loc₀, GenL ga gb.size E dloc dled ++ led, gb.push gs⟩ ∧ E.cells = [] ∧ (∀ x, E.kindOf x ≠ some .cell) ∧ (c.at c.A.in1 E).Ok ∧
      Wait c c.A.in1 E its gs dloc dled ∧ FlatL loc₀ ∧ Inv 0 loc₀ led))
    (hbody : ∀ (i q : Nat) (u : List Nat), its[i]? = some (q, u) → ∀ loc led gs t n, FlatL loc → Inv i loc led → 1 ≤ n → (u.length = 1 → 0 < t ∧ t < n) →
      ExSN n c ⟨(xv, vX (tx u) t) :: (xi, vI q) :: loc, led, gb.push gs⟩ body (fun σ'' => FlatL σ''.loc ∧ σ''.gens = gb.push gs ∧ Inv (i + 1) σ''.loc σ''.led) R)
    (hend : ∀ loc led, FlatL loc → Inv its.length loc led → N ⟨loc, led, gb.push .finished⟩)
    (hxi : StN c xi := by walk_at "o") (hxv : StN c xv := by walk_at "o") (hs : ∀ x, foldedSetIterable iter c.env x = pure x := by intro _; rfl) :
    Ex c σ (.For (.Tuple [.Name xi pi, .Name xv pv] k pt) iter body [] p) N R := fun F s S => by
  refine wpAny_For (wpAny_mono (h F s (Nat.zero_le _) S) (fun v s₁ hx => ?_) fun _ _ x => x) hs
  obtain ⟨m, _, hm, u, σ₁, S₁, k₁, hu, h1, ga, E, dloc, dled, gs, loc₀, led, eu, eσ, hdc, hkc, dok, W, hf, h0⟩ := hx
  subst eu; subst eσ
  cases is_ref hu
  have hga : s₁.heap.IsGen ga gb.size := by
    obtain ⟨o, ho, _, nm, qn, h1, h2, h3⟩ := (S₁.led (ga, .is (GenO gb.size)) (List.mem_append_left _ (List.mem_append_left _ (.tail _ (.head _))))).1
    exact ⟨o, nm, qn, ho, h1, h2, h3⟩
  refine wpAny_pyIter_gen hga ?_
  refine codeAny_forLoop_any (fun j s' => ∃ i loc led gs dloc dled, St c ⟨loc, GenL ga gb.size E dloc dled ++ led, gb.push gs⟩ F s' ∧ TK s.heap s'.heap ∧ 1 ≤ s'.toks ∧ FlatL loc ∧ Inv i loc led ∧ Wait c c.A.in1 E (its.drop i) gs dloc dled ∧ i ≤ its.length ∧ j = its.length + 1 - i) ?_ (its.length + 1)
    ⟨0, _, _, _, _, _, S₁, k₁, Nat.le_trans h1 hm, hf, h0, W, Nat.zero_le _, rfl⟩
  rintro j s' ⟨i, loc, led, gs, dloc, dled, S', k', ht, hf, hI, W, hi, rfl⟩
  have hnx := gen_next (its := its.drop i) (gs := gs) hr dok hcc hdc hkc hkk hf S' (by simp) W ht
  refine noE (wpAny_mono hnx (fun r s₂ hx => ?_) fun _ _ x => x)
  obtain ⟨k₂, t₂, hT⟩ := hx
  cases hd : its.drop i with
  | nil =>
    rw [hd] at hT
    obtain ⟨rfl, S₂⟩ := hT
    have hsz : i = its.length := Nat.le_antisymm hi (by simpa using hd)
    subst hsz
    rw [push_set] at S₂
    exact wpAny_execs_nil ⟨_, S₂, k'.trans k₂, hend loc led hf hI⟩
  | cons itm rest =>
    obtain ⟨q, u⟩ := itm
    obtain ⟨h4, h5, h6⟩ := drop_cons hd
    rw [hd] at hT
    obtain ⟨T, tq, tu, gs', dloc', dled', rfl, hTup, htu, S₂, W'⟩ := hT
    rw [push_set] at S₂
    rw [← h5] at W'
    obtain ⟨o, ho, _, hgo⟩ := (S₂.led (ga, .is (GenO gb.size)) (List.mem_append_left _ (List.mem_append_left _ (.tail _ (.head _))))).1
    refine wpAny_letOwnedTupleGo_gen ho hgo ?_
    refine wpAny_with_toks (Nat.le_refl s₂.toks) ?_
    refine wpAny_mono (assign2 (w1 := vI q) (w2 := vX (tx u) tu) (Q := fun _ s₃ => St c ⟨(xv, vX (tx u) tu) :: (xi, vI q) :: loc, GenL ga gb.size E dloc' dled' ++ led, gb.push gs'⟩ F s₃ ∧ TK s₂.heap s₃.heap) hr.1 hxi hxv S₂ hTup rfl rfl fun s₃ S₃ k₃ => ⟨S₃, k₃⟩) (fun _ s₃ ⟨S₃, k₃⟩ t₃ => ?_) fun _ _ x => x.elim
    have hb := hbody i q u h4 loc led gs' tu s₂.toks hf hI (Nat.le_trans ht t₂) htu (GenL ga gb.size E dloc' dled' ++ F) s₃ t₃ (St.move S₃)
    refine noE (wpAny_mono (wpAny_toks hb) (fun f s₄ hx => ?_) fun _ _ x => x.2)
    obtain ⟨t₄, σ₄, S₄, k₄, hf₄⟩ := hx
    have k6 := k'.trans (k₂.trans (k₃.trans k₄))
    have t6 : 1 ≤ s₄.toks := Nat.le_trans ht (Nat.le_trans t₂ (Nat.le_trans t₃ t₄))
    obtain ⟨loc₄, led₄, g₄⟩ := σ₄
    cases f with
    | next =>
      obtain ⟨hfl, hge, hin⟩ := hf₄
      dsimp only at hge
      subst hge
      exact ⟨its.length + 1 - (i + 1), by omega, i + 1, loc₄, led₄, gs', dloc', dled', St.back S₄, k6, t6, hfl, hin, W', h6, rfl⟩
    | cont => exact hf₄.elim
    | brk => exact hf₄.elim
    | ret v => exact ⟨_, St.drop (St.back S₄), k6, hf₄⟩
end
end

section
open PySem PySem.Calls PyProof.Rows PySem.W.X
section
variable {n : Nat} {c : Cx} {σ : Sg} {F : List (Addr × LO)} {s s₁ : Shared} {K : V → Sg → Prop} {N : Sg → Prop} {R : V → Sg → Prop} {loc : List (Str × V)} {led : List (Addr × LO)} {g : Array GenState}
theorem FnAtN.body {i : Nat} {us : List V} {names : List Str} (hr : Room 1 c.A)
    (h : ∀ F s a cd, St c σ F s → ExSN n (callee c (fn i) s a cd) ⟨names.zip us, [], σ.gens⟩ (fn i).body (fun _ => False) (fun u σ' => σ'.led = [] ∧ σ'.gens = σ.gens ∧ K u σ))
    (hd : i ∈ [1,3,5,6,7,8,9,10,12,13,14,15,16,17,18,19,20,21,22] := by decide)
    (hb : ∀ pm cd doc (vs : List Value), vs.length = us.length → bindArgs (docDef (fn i).name (fn i).params (fn i).body (fn i).scope pm cd doc) ⟨vs, []⟩ = pure (names.zip vs))
    (hn : names.Nodup) (hlen : names.length = us.length := by rfl)
    (hk : (names.all fun x => (fn i).scope.names.lookup x == some .local || (fn i).scope.names.lookup x == some .cell) = true := by kernel_rfl!)
    (hco : (fn i).scope.isCoroutine = false := by kernel_rfl!) (hgen : (fn i).scope.isGenerator = false := by kernel_rfl!) (hkd : (fn i).scope.kind = .function := by kernel_rfl!) :
    FnAtN n c σ (fn i) us (fun _ => K) := fun F s vs a ht hm S hus => by
  obtain ⟨a', o, pm, cd, doc, hm', ho, hdat, hcd⟩ := S.gl.fn _ (fn_mem hd)
  have : a' = a := by rw [hm] at hm'; exact (Value.ref.inj (Option.some.inj hm')).symm
  subst this
  refine codeAny_mono (codeAny_toks_of ht (R := fun r s' => match r with | .ok (.ret v) => Pv c F s K v s' | _ => False) ?_) (fun r s' ⟨t, x⟩ => by
    cases r with
    | error e => exact x.elim
    | ok f =>
      cases f with
      | ret v => exact ⟨n, Nat.le_refl _, t, x⟩
      | _ => exact x.elim)
  refine call_cellsT (by have := hr.2.1; omega) ho hdat S.gl.nolimit hcd (hb pm cd doc vs hus.length.symm) (fun x hx => ?_) (fun h₁ tk htk Fr' X => ?_) hco hgen hkd
  · have h1 : x.1 ∈ names := (List.of_mem_zip hx).1
    have h2 := List.all_eq_true.mp hk x.1 h1
    rcases Bool.or_eq_true_iff.mp h2 with q | q
    · exact .inl (by simpa using q)
    · have q' : (fn i).scope.names.lookup x.1 = some .cell := by simpa using q
      exact .inr ⟨q', W.cellsFrom_some _ _ _ (.inl q')⟩
  · have S' : St (callee c (fn i) s a' cd) ⟨names.zip us, [], σ.gens⟩ [] { s with heap := h₁, toks := tk } := by
      refine ⟨⟨hkd, hco, rfl, rfl, Nat.le_refl _, fun n b e => (callee_own (c := c) (a := a') (cd := cd) e).2, S.gl⟩, ⟨h₁, tk, ?_⟩, Fr'.keep, ⟨_, Fr'.ns, fun x u k e => ?_⟩, ⟨_, X.cell, fun x u k e => ?_⟩, fun p hp => (nomatch hp), .nil, fun p => Nat.le_trans (S.tp p) htk⟩
      · obtain ⟨h₂, t₂, e⟩ := S.same
        have : s.gens = σ.gens := by rw [e]
        show _ = { s with heap := h₁, toks := tk, gens := σ.gens }
        rw [← this]
      · obtain ⟨v, h1, h2⟩ := bindL_is (h := s.heap) k hn hus e
        exact ⟨v, h1, h2.mono (Kp.tk Fr'.keep)⟩
      · obtain ⟨v, h1, h2⟩ := bindC_is (h := s.heap) k hn hus e
        exact ⟨v, h1, h2.mono (Kp.tk Fr'.keep)⟩
    refine wpAny_mono (h F s a' cd S [] _ (Nat.le_trans ht htk) S') (fun f s' hf => ?_) fun _ _ x => x.elim
    obtain ⟨σ', S'', k', hf⟩ := hf
    cases f with
    | next => exact hf.elim
    | brk => exact hf.elim
    | cont => exact hf.elim
    | ret v =>
      obtain ⟨u, hu, hl, hg, hK⟩ := hf
      refine ⟨u, σ, ?_, Kp.tk S''.keep, hu, hK⟩
      obtain ⟨h₂, t₂, e⟩ := S''.same
      rw [hg] at e
      obtain ⟨h₃, t₃, e₃⟩ := S.same
      have hs : s' = { s with heap := s'.heap, toks := s'.toks } := by rw [e, e₃]; rfl
      rw [hs]
      exact S.extP S''.keep S''.tp
theorem Ex.forET {xi xv : Str} {pi pv pt p : Pos} {k : Nat} {iter : Expr} {body orelse : List Stmt} (hA : c.A.handled = none) (Inv : Nat → Sg → Prop)
    (h : Ev c σ iter (fun u σ₁ => ∃ e it x led, u = vR e ∧ σ₁.led = EnE e it x 0 ++ led ∧ strIterType x = "str_ascii_iterator" ∧ Inv 0 ⟨σ₁.loc, led, σ₁.gens⟩ ∧
      (∀ i ch t, x.cps[i]? = some ch → n ≤ t → ∀ σ', Inv i σ' → ExS c ⟨(xv, vX ⟨#[ch]⟩ t) :: (xi, vI i) :: σ'.loc, σ'.led, σ'.gens⟩ body (Inv (i + 1)) R) ∧ (∀ σ', Inv x.cps.size σ' → ExS c σ' orelse N R)))
    (hxi : StN c xi := by walk_at "o") (hxv : StN c xv := by walk_at "o") (hs : ∀ x, foldedSetIterable iter c.env x = pure x := by intro _; rfl) :
    ExN n c σ (.For (.Tuple [.Name xi pi, .Name xv pv] k pt) iter body orelse p) N R := fun F s hn S => by
  refine wpAny_For (wpAny_mono (wpAny_toks_of hn (h F s S)) (fun v s₁ hx => ?_) fun _ _ x => x.2) hs
  obtain ⟨t₁, u, σ₁, S₁, k₁, hu, e, it, x, led, eu, el, hty, h0, hbody, hend⟩ := hx
  subst eu
  cases is_ref hu
  obtain ⟨loc₁, led₁, g₁⟩ := σ₁
  dsimp only at el h0
  subst el
  obtain ⟨⟨old, he⟩, _, _⟩ := ene_at S₁
  refine wpAny_pyIter_enum he ?_
  refine codeAny_forLoop_any (fun j s' => ∃ i σ', St c ⟨σ'.loc, EnE e it x i ++ σ'.led, σ'.gens⟩ F s' ∧ TK s.heap s'.heap ∧ n ≤ s'.toks ∧ Inv i σ' ∧ i ≤ x.cps.size ∧ j = x.cps.size + 1 - i) ?_ (x.cps.size + 1)
    ⟨0, _, S₁, k₁, t₁, h0, Nat.zero_le _, rfl⟩
  rintro j s' ⟨i, σ', S', k', ht, hI, hi, rfl⟩
  cases hv : x.cps[i]? with
  | none =>
    have hsz : i = x.cps.size := Nat.le_antisymm hi (by simpa using hv)
    subst hsz
    refine noE (wpAny_mono (enum_done hA S') (fun r s₃ hx => ?_) fun _ _ x => x)
    obtain ⟨hr, k₃, S₃⟩ := hx
    subst hr
    refine noE (wpAny_mono (hend σ' hI F s₃ S₃) (fun f s₅ hx => ?_) fun _ _ x => x)
    obtain ⟨σ₅, S₅, k₅, hf⟩ := hx
    exact ⟨σ₅, S₅, k'.trans (k₃.trans k₅), hf⟩
  | some ch =>
    have hlt : i < x.cps.size := (Array.getElem?_eq_some_iff.mp hv).1
    refine noE (wpAny_mono (enum_turnT (pi := pi) (pv := pv) (pt := pt) (k := k) hA hty hxi hxv S' hv (Q := fun s₃ => ∃ t, St c ⟨(xv, vX ⟨#[ch]⟩ t) :: (xi, vI i) :: σ'.loc, EnE e it x (i + 1) ++ σ'.led, σ'.gens⟩ F s₃ ∧ TK s'.heap s₃.heap ∧ s'.toks ≤ t ∧ t < s₃.toks) fun s₃ t S₃ k₃ ta tb => ⟨t, S₃, k₃, ta, tb⟩) (fun r s₁ hx => ?_) fun _ _ x => x)
    obtain ⟨v, hr, hgo⟩ := hx
    subst hr
    refine noE (wpAny_mono hgo (fun _ s₂ has => noE (wpAny_mono has (fun _ s₃ hx => ?_) fun _ _ x => x)) fun _ _ x => x)
    obtain ⟨t, S₃, k₃, ta, tb⟩ := hx
    refine noE (wpAny_mono (wpAny_toks (hbody i ch t hv (Nat.le_trans ht ta) σ' hI (EnE e it x (i + 1) ++ F) s₃ (St.move S₃))) (fun f s₅ hx => ?_) fun _ _ x => x.2)
    obtain ⟨t₅, σ₅, S₅, k₅, hf⟩ := hx
    have k6 := k'.trans (k₃.trans k₅)
    cases f with
    | next => exact ⟨x.cps.size + 1 - (i + 1), by omega, i + 1, σ₅, St.back S₅, k6, Nat.le_trans ht (Nat.le_trans ta (Nat.le_trans (Nat.le_of_lt tb) t₅)), hf, hlt, rfl⟩
    | cont => exact hf.elim
    | brk => exact hf.elim
    | ret v => exact ⟨σ₅, St.drop (St.back S₅), k6, hf⟩
end
end

section
open PySem PySem.Calls PyProof.Rows PySem.W.X
section
variable {n : Nat} {c : Cx} {σ : Sg} {F : List (Addr × LO)} {s s₁ : Shared} {K : V → Sg → Prop} {N : Sg → Prop} {R : V → Sg → Prop} {loc : List (Str × V)} {led : List (Addr × LO)} {g : Array GenState}
theorem abc_at {i ch : Nat} (h : (tx [97, 98, 99, 100, 101, 102]).cps[i]? = some ch) : i < 6 ∧ ch = 97 + i := by
  have hlt : i < 6 := (Array.getElem?_eq_some_iff.mp h).1
  refine ⟨hlt, ?_⟩
  match i, hlt with
  | 0, _ => cases h; rfl
  | 1, _ => cases h; rfl
  | 2, _ => cases h; rfl
  | 3, _ => cases h; rfl
  | 4, _ => cases h; rfl
  | 5, _ => cases h; rfl
theorem FnAtN.indexOf {idx : Nat} {t : Tok} (hr : Room 2 c.A) (ht : 0 < t) (htn : t < n) (hlt : idx < 6) (h : K (vI idx) σ) : FnAtN n c σ (fn 10) [vS (tx [97, 98, 99, 100, 101, 102]), vX ⟨#[97 + idx]⟩ t] (fun _ => K) := by
  refine FnAtN.body (names := ["a", "b"]) (hr.mono (by decide)) (fun F s ad cd S => ?_) (hb := fun pm cd doc => len2 fun v w => rfl) (hn := by decide)
  have hA : (callee c (fn 10) s ad cd).A.handled = none := hr.1
  refine ExSN.one ?_
  refine Ex.forET hA (fun i σ' => i ≤ idx ∧ σ'.loc.lookup ("b" : Str) = some (vX ⟨#[97 + idx]⟩ t) ∧ σ'.led = [] ∧ σ'.gens = σ.gens) ?_
  refine Ev.callT "enumerate" ?_
  refine EvL.cons (Ev.nm rfl (EvL.nil (OpL.enumS fun e it => ?_)))
  refine ⟨e, it, _, [], rfl, (List.append_nil _).symm, by decide +kernel, ⟨Nat.zero_le _, rfl, rfl, rfl⟩, fun i ch u hc hu σ' hI => ?_, fun σ' hI => ?_⟩
  · obtain ⟨h1, h2, h3, h4⟩ := hI
    obtain ⟨loc, led, g⟩ := σ'
    dsimp only at h2 h3 h4 ⊢
    subst h3; subst h4
    obtain ⟨h5, rfl⟩ := abc_at hc
    refine ExS.cons ?_
    refine Ex.ite ?_
    refine EvT.bop ?_
    refine EvA.orCons ?_
    refine EvT.cmp (Ev.nm rfl (Ev.nm (u := vX ⟨#[97 + idx]⟩ t) (by exact h2) ?_))
    refine Op2.isX (Nat.lt_of_lt_of_le ht (Nat.le_trans (Nat.le_of_lt htn) hu)) ht (Nat.lt_of_lt_of_le htn hu) fun b hb => ?_
    refine OpT.bool ⟨fun e => ?_, fun e => ?_⟩
    · subst e
      refine EvA.orCons ?_
      refine EvT.cmp (Ev.nm rfl (Ev.nm (u := vX ⟨#[97 + idx]⟩ t) (by exact h2) (Op2.eqX (OpT.bool ⟨fun e => ?_, fun e => ?_⟩))))
      · refine EvA.orNil ⟨fun e => (by cases e), fun _ => ?_⟩
        refine ExS.nil (ExS.nil ⟨?_, by exact h2, rfl, rfl⟩)
        have : i ≠ idx := fun q => by subst q; simp at e
        omega
      · refine ⟨fun _ => ?_, fun e => (by cases e)⟩
        refine ExS.cons (Ex.ret (Ev.nm rfl ⟨rfl, rfl, ?_⟩))
        have : i = idx := by simpa using e
        subst this; exact h
    · subst e
      refine ⟨fun _ => ?_, fun e => (by cases e)⟩
      refine ExS.cons (Ex.ret (Ev.nm rfl ⟨rfl, rfl, ?_⟩))
      have : i = idx := by
        by_cases q : i = idx
        · exact q
        · have := hb (by simpa using q)
          cases this
      subst this; exact h
  · obtain ⟨h1, _⟩ := hI
    have h1 : 6 ≤ idx := h1
    omega
end
end

section
open PySem PySem.Calls PyProof.Rows PySem.W.X
section
variable {n : Nat} {c : Cx} {σ : Sg} {F : List (Addr × LO)} {s s₁ : Shared} {K : V → Sg → Prop} {N : Sg → Prop} {R : V → Sg → Prop} {loc : List (Str × V)} {led : List (Addr × LO)} {g : Array GenState}
theorem OpL.lenS {x : Str} (hl : x.length ≤ 100000) (h : K (vI x.length) σ) : OpL c σ [vS x] (fun vs => call (.builtin "len") vs) K := fun F s vs S hx => by
  obtain ⟨v, rfl, hv⟩ := isAll1 hx
  obtain ⟨t, rfl⟩ := is_str hv
  exact len_str (by omega) (Pv.tok S h rfl)
theorem OpL.lenL {a : Addr} {us : List V} (hat : HasL c σ a us) (hl : us.length ≤ 100000) (h : K (vI us.length) σ) : OpL c σ [vR a] (fun vs => call (.builtin "len") vs) K := fun F s vs S hx => by
  obtain ⟨v, rfl, hv⟩ := isAll1 hx
  cases is_ref hv
  obtain ⟨items, hli, hall⟩ := hat.at S
  have := hall.length
  simp at this
  refine len_list hli (by omega) (Pv.tok S h ?_)
  show er _ = _
  rw [this]; rfl
/-- a def's contract by its body, generators made on the way -/
theorem FnAt.bodyG {i : Nat} {us : List V} {names : List Str} (hr : Room 1 c.A)
    (h : ∀ F s a cd, St c σ F s → ExS (callee c (fn i) s a cd) ⟨names.zip us, [], σ.gens⟩ (fn i).body (fun _ => False) (fun u σ' => ∃ l : List (Addr × LO), l.Sublist σ'.led ∧ K u ⟨σ.loc, l ++ σ.led, σ'.gens⟩))
    (hd : i ∈ [1,3,5,6,7,8,9,10,12,13,14,15,16,17,18,19,20,21,22] := by decide)
    (hb : ∀ pm cd doc (vs : List Value), vs.length = us.length → bindArgs (docDef (fn i).name (fn i).params (fn i).body (fn i).scope pm cd doc) ⟨vs, []⟩ = pure (names.zip vs))
    (hn : names.Nodup) (hlen : names.length = us.length := by rfl)
    (hk : (names.all fun x => (fn i).scope.names.lookup x == some .local || (fn i).scope.names.lookup x == some .cell) = true := by kernel_rfl!)
    (hco : (fn i).scope.isCoroutine = false := by kernel_rfl!) (hgen : (fn i).scope.isGenerator = false := by kernel_rfl!) (hkd : (fn i).scope.kind = .function := by kernel_rfl!) :
    FnAt c σ (fn i) us K := fun F s vs a hm S hus => by
  obtain ⟨a', o, pm, cd, doc, hm', ho, hdat, hcd⟩ := S.gl.fn _ (fn_mem hd)
  have : a' = a := by rw [hm] at hm'; exact (Value.ref.inj (Option.some.inj hm')).symm
  subst this
  refine call_cellsT (by have := hr.2.1; omega) ho hdat S.gl.nolimit hcd (hb pm cd doc vs hus.length.symm) (fun x hx => ?_) (fun h₁ tk htk Fr' X => ?_) hco hgen hkd
  · have h1 : x.1 ∈ names := (List.of_mem_zip hx).1
    have h2 := List.all_eq_true.mp hk x.1 h1
    rcases Bool.or_eq_true_iff.mp h2 with q | q
    · exact .inl (by simpa using q)
    · have q' : (fn i).scope.names.lookup x.1 = some .cell := by simpa using q
      exact .inr ⟨q', W.cellsFrom_some _ _ _ (.inl q')⟩
  · have S' : St (callee c (fn i) s a' cd) ⟨names.zip us, [], σ.gens⟩ [] { s with heap := h₁, toks := tk } := by
      refine ⟨⟨hkd, hco, rfl, rfl, Nat.le_refl _, fun n b e => (callee_own (c := c) (a := a') (cd := cd) e).2, S.gl⟩, ⟨h₁, tk, ?_⟩, Fr'.keep, ⟨_, Fr'.ns, fun x u k e => ?_⟩, ⟨_, X.cell, fun x u k e => ?_⟩, fun p hp => (nomatch hp), .nil, fun p => Nat.le_trans (S.tp p) htk⟩
      · obtain ⟨h₂, t₂, e⟩ := S.same
        have : s.gens = σ.gens := by rw [e]
        show _ = { s with heap := h₁, toks := tk, gens := σ.gens }
        rw [← this]
      · obtain ⟨v, h1, h2⟩ := bindL_is (h := s.heap) k hn hus e
        exact ⟨v, h1, h2.mono (Kp.tk Fr'.keep)⟩
      · obtain ⟨v, h1, h2⟩ := bindC_is (h := s.heap) k hn hus e
        exact ⟨v, h1, h2.mono (Kp.tk Fr'.keep)⟩
    refine wpAny_mono (h F s a' cd S [] _ S') (fun f s' hf => ?_) fun _ _ x => x.elim
    obtain ⟨σ', S'', k', hf⟩ := hf
    cases f with
    | next => exact hf.elim
    | brk => exact hf.elim
    | cont => exact hf.elim
    | ret v =>
      obtain ⟨u, hu, l, hl, hK⟩ := hf
      refine ⟨u, _, ?_, Kp.tk S''.keep, hu, hK⟩
      have S2 : St c ⟨σ.loc, σ.led, σ'.gens⟩ F s' := by
        obtain ⟨h₂, t₂, e⟩ := S''.same
        have hs : s' = { { s with gens := σ'.gens } with heap := s'.heap, toks := s'.toks } := by rw [e]; rfl
        rw [hs]
        exact (St.gens (g' := σ'.gens) S).extP S''.keep S''.tp
      refine ⟨S2.ok, S2.same, S2.keep, S2.ns, S2.cl, fun p hp => ?_, ?_, S2.tp⟩
      · rw [List.append_assoc] at hp
        rcases List.mem_append.mp hp with hp | hp
        · have L := S''.led p (List.mem_append_left _ (hl.subset hp))
          have f := S.fresh L.2.1
          exact ⟨L.1, f.2.2.2, f.2.1, f.2.2.1⟩
        · exact S2.led p hp
      · show ((l ++ σ.led ++ F).map (·.1)).Nodup
        rw [List.append_assoc, List.map_append]
        have n1 := S''.nd
        rw [List.append_nil] at n1
        refine List.nodup_append.mpr ⟨n1.sublist (hl.map _), S.nd, fun x hx y hy e => ?_⟩
        obtain ⟨p, hp, rfl⟩ := List.mem_map.mp hx
        obtain ⟨q, hq, rfl⟩ := List.mem_map.mp hy
        exact (S.fresh (S''.led p (List.mem_append_left _ (hl.subset hp))).2.1).1 q hq e.symm
end
end

section
open PySem PySem.Calls PyProof.Rows PySem.W.X
noncomputable def Unit6 (u : List Nat) : Prop := (∃ p, p < 6 ∧ u = [97 + p]) ∨ ∃ p, p < 6 ∧ u = [92, 97 + p]
theorem Unit6.good {u : List Nat} (h : Unit6 u) : GoodU u := by
  rcases h with ⟨p, hp, rfl⟩ | ⟨p, hp, rfl⟩
  · exact .inl ⟨97 + p, by omega, rfl⟩
  · exact .inr ⟨97 + p, rfl⟩
theorem items_mem : ∀ {us : List (List Nat)} {k i q : Nat} {u : List Nat}, (items k us)[i]? = some (q, u) → u ∈ us ∧ q ≤ k + us.flatten.length
  | [], k, i, q, u, h => by simp [items] at h
  | v :: us, k, i, q, u, h => by
    cases i with
    | zero =>
      simp [items] at h
      obtain ⟨h1, rfl⟩ := h
      refine ⟨.head _, ?_⟩
      simp; omega
    | succ i =>
      obtain ⟨h1, h2⟩ := items_mem (us := us) (k := k + v.length) (i := i) (by simpa [items] using h)
      refine ⟨.tail _ h1, ?_⟩
      simp at h2 ⊢; omega
noncomputable def rdStep (be : List Int × List Int) (it : Nat × List Nat) : List Int × List Int :=
  if it.2.length = 2 then (be.1, be.2.set (it.2.getD 1 0 - 97) it.1) else (be.1.set (it.2.getD 0 0 - 97) it.1, be.2)
noncomputable def readBE (its : List (Nat × List Nat)) : List Int × List Int := its.foldl rdStep (List.replicate 6 0, List.replicate 6 0)
noncomputable def rdQ (b e : List Int) (k j : Nat) : Bool := decide (nat b j ≤ nat e k) && decide (nat b k ≤ nat e j)
noncomputable def rdIn (b e : List Int) (k : Nat) (net : List Int) (j : Nat) : List Int := if rdQ b e k j then net.set k (bor (nat net k) (2 ^ j)) else net
noncomputable def rdK (b e : List Int) (net : List Int) (k : Nat) : List Int := (List.range 6).foldl (rdIn b e k) net
noncomputable def readNet (b e : List Int) : List Int := (List.range 6).foldl (rdK b e) (List.replicate 6 0)
noncomputable def readOf (us : List (List Nat)) : List Int := readNet (readBE (items 0 us)).1 (readBE (items 0 us)).2
theorem rdStep_len (be : List Int × List Int) (it : Nat × List Nat) : (rdStep be it).1.length = be.1.length ∧ (rdStep be it).2.length = be.2.length := by
  unfold rdStep; split <;> simp
theorem readBE_len : ∀ (its : List (Nat × List Nat)) (be : List Int × List Int), (its.foldl rdStep be).1.length = be.1.length ∧ (its.foldl rdStep be).2.length = be.2.length
  | [], be => ⟨rfl, rfl⟩
  | it :: its, be => by
    have h1 := readBE_len its (rdStep be it)
    have h2 := rdStep_len be it
    exact ⟨h1.1.trans h2.1, h1.2.trans h2.2⟩
theorem rdIn_len (b e : List Int) (k : Nat) (net : List Int) (j : Nat) : (rdIn b e k net j).length = net.length := by unfold rdIn; split <;> simp
theorem rdK_len (b e : List Int) (net : List Int) (k : Nat) : (rdK b e net k).length = net.length := by
  unfold rdK; rw [foldl_len (fun _ _ => rdIn_len _ _ _ _ _)]
theorem noCell {E : Env} (h : (E.scope.names.all fun p => p.2 != .cell) = true) : ∀ x, E.kindOf x ≠ some .cell := fun x e => by
  have := List.all_eq_true.mp h _ (mem_of_lookup e)
  simp at this
theorem ascii_iter {l : List Nat} (h : ∀ ch ∈ l, ch < 128) : strIterType (tx l) = "str_ascii_iterator" := by
  unfold strIterType
  rw [if_pos ?_]
  simpa [tx, Array.all_eq_true, List.all_eq_true] using h
end

section
open PySem PySem.Calls PyProof.Rows PySem.W.X

section
variable {n : Nat} {c : Cx} {σ : Sg} {F : List (Addr × LO)} {s s₁ : Shared} {K : V → Sg → Prop} {N : Sg → Prop} {R : V → Sg → Prop} {loc : List (Str × V)} {led : List (Addr × LO)} {g : Array GenState}
set_option maxHeartbeats 2000000 in
theorem FnAt.read {us : List (List Nat)} (h6 : ∀ u ∈ us, Unit6 u) (hlen : us.flatten.length ≤ 1000) (hr : Room 4 c.A) (h : ∀ a, K (vR a) ⟨σ.loc, (a, .lst ((readOf us).map vI)) :: σ.led, σ.gens.push .finished⟩) :
    FnAt c σ (fn 17) [vS (tx us.flatten)] K := by
  refine FnAt.bodyG (names := ["text"]) (hr.mono (by decide)) (fun F s ad cd S => ?_) (hb := fun pm cd doc => len1 fun v => rfl) (hn := by decide)
  have hr' : Room 3 (callee c (fn 17) s ad cd).A := hr.deeper
  have hA : (callee c (fn 17) s ad cd).A.handled = none := hr.1
  refine ExS.cons ?_
  refine Ex.asg ?_
  refine Ev.bin ?_
  refine Ev.plst (EvL.cons (Ev.int (EvL.nil ⟨by decide, fun a1 => ?_⟩)))
  refine Ev.int (Op2.mulL (i := 0) rfl (by decide) (by decide) (by decide) fun b => ?_)
  dsimp only
  refine ExS.drop (led' := [(b, .pl ((List.replicate 6 (0 : Int)).map vI))]) ?_ (List.sublist_append_left [_] _)
  refine ExS.cons ?_
  refine Ex.asg ?_
  refine Ev.bin ?_
  refine Ev.plst (EvL.cons (Ev.int (EvL.nil ⟨by decide, fun a2 => ?_⟩)))
  refine Ev.int (Op2.mulL (i := 0) rfl (by decide) (by decide) (by decide) fun e => ?_)
  dsimp only
  refine ExS.drop (led' := [(e, .pl ((List.replicate 6 (0 : Int)).map vI)), (b, .pl ((List.replicate 6 (0 : Int)).map vI))]) ?_ (List.Sublist.cons_cons _ (List.sublist_cons_self _ _))
  refine ExS.cons ?_
  refine Ex.forG (hr'.mono (by decide)) (by kernel_rfl!) (noCell (by kernel_rfl!)) (fun i loc led => ∃ loB loE, loB.isL ((((items 0 us).take i).foldl rdStep (List.replicate 6 0, List.replicate 6 0)).1.map vI) ∧ loE.isL ((((items 0 us).take i).foldl rdStep (List.replicate 6 0, List.replicate 6 0)).2.map vI) ∧
    led = [(e, loE), (b, loB)] ∧ loc.lookup ("begins" : Str) = some (vR b) ∧ loc.lookup ("ends" : Str) = some (vR e)) σ.gens (items 0 us) ?_ ?_ ?_
  · refine EvN.callF 3 ?_
    refine EvLN.cons (EvN.at (Ev.nm rfl (EvLN.nil ?_)))
    intro F₂ s₂ vs a _ hm S₂ hus
    refine codeAny_mono (gen_call (K := fun u σ₁ => ∃ ga E dloc dled gs loc₀ led, u = vR ga ∧ σ₁ = ⟨loc₀, GenL ga σ.gens.size E dloc dled ++ led, σ.gens.push gs⟩ ∧ E.cells = [] ∧ (∀ x, E.kindOf x ≠ some .cell) ∧ ((callee c (fn 17) s ad cd).at (callee c (fn 17) s ad cd).A.in1 E).Ok ∧
      Wait (callee c (fn 17) s ad cd) (callee c (fn 17) s ad cd).A.in1 E (items 0 us) gs dloc dled ∧ FlatL loc₀ ∧ (∃ loB loE, loB.isL ((((items 0 us).take 0).foldl rdStep (List.replicate 6 0, List.replicate 6 0)).1.map vI) ∧ loE.isL ((((items 0 us).take 0).foldl rdStep (List.replicate 6 0, List.replicate 6 0)).2.map vI) ∧
    led = [(e, loE), (b, loB)] ∧ loc₀.lookup ("begins" : Str) = some (vR b) ∧ loc₀.lookup ("ends" : Str) = some (vR e))) (hr'.mono (by decide)) (fun ga n a cd ok => ?_) F₂ s₂ vs a hm S₂ hus) fun r s' x => ?_
    · refine ⟨ga, gE n a cd, _, [], _, _, _, rfl, rfl, by kernel_rfl!, noCell (by kernel_rfl!), ok, wait_start hA (ascii_iter fun ch hc => ?_) rfl (fun u hu => (h6 u hu).good), .cons trivial (.cons trivial (.cons trivial fun _ h => nomatch h)), _, _, .inr rfl, .inr rfl, rfl, rfl, rfl⟩
      obtain ⟨u, hu, hcu⟩ := List.mem_flatten.mp hc
      rcases h6 u hu with ⟨p, hp, rfl⟩ | ⟨p, hp, rfl⟩
      · simp at hcu; omega
      · simp at hcu; omega
    · cases r with
      | error e => exact x.elim
      | ok f =>
        cases f with
        | ret v => obtain ⟨y, u, σ', zS, zk, zu, zh⟩ := x; exact ⟨2, by decide, y, u, σ', zS, zk, zu, by decide, zh⟩
        | _ => exact x.elim
  · rintro i q u hi loc led gs t n hf ⟨loB, loE, hB, hE, rfl, hlb, hle⟩ hn htu
    obtain ⟨hum, hq⟩ := items_mem hi
    have htk : ((items 0 us).take (i + 1)).foldl rdStep (List.replicate 6 0, List.replicate 6 0) = rdStep (((items 0 us).take i).foldl rdStep (List.replicate 6 0, List.replicate 6 0)) (q, u) := by
      rw [List.take_add_one, hi, List.foldl_append]; rfl
    have hl := readBE_len ((items 0 us).take i) (List.replicate 6 0, List.replicate 6 0)
    generalize ((items 0 us).take i).foldl rdStep (List.replicate 6 0, List.replicate 6 0) = be at hB hE htk hl
    obtain ⟨bb, ee⟩ := be
    dsimp only at hB hE hl
    simp only [List.length_replicate] at hl
    have hr2 : Room 2 (callee c (fn 17) s ad cd).A := hr'.mono (by decide)
    have hf' : ∀ u : List Nat, FlatL ((("unit" : Str), vX (tx u) t) :: (("place" : Str), vI q) :: loc) := fun u => .cons trivial (.cons trivial hf)
    refine ExSN.one ?_
    refine ExN.ite ?_
    refine EvT.cmp ?_
    refine Ev.callB "len" ?_
    refine EvL.cons (Ev.nmS rfl (EvL.nil (OpL.lenS ?_ ?_)))
    · rcases h6 u hum with ⟨p, hp, rfl⟩ | ⟨p, hp, rfl⟩ <;> (rw [tx_length]; simp)
    · rw [tx_length]
      refine Ev.int (Op2.eqI (OpT.bool ⟨fun e2 => ?_, fun e2 => ?_⟩))
      · rcases h6 u hum with ⟨p, hp, rfl⟩ | ⟨p, hp, rfl⟩
        · simp at e2
        · refine ExSN.one ?_
          refine ExN.setI ?_
          refine Ev.nm rfl ?_
          refine Ev.nm (u := vR e) (by exact hle) ?_
          refine EvN.callF 10 ?_
          refine EvLN.cons (EvN.at (Ev.str ?_))
          rw [abc_eq]
          refine EvLN.cons ?_
          refine EvN.subS (k := 1) (x := tx [92, 97 + p]) (ch := 97 + p) (Ev.nmS rfl ⟨rfl, Ev.int ⟨rfl, fun t' ht' => ?_⟩⟩) (by decide) rfl
          refine EvLN.nil ?_
          refine FnAtN.indexOf hr2 (Nat.lt_of_lt_of_le (Nat.lt_of_lt_of_le Nat.zero_lt_one hn) ht') (Nat.lt_succ_self _) hp ?_
          refine SetOp.lstN 0 rfl hE (by simp [hl.2]; omega) (by omega) ?_
          refine ⟨hf' _, rfl, loB, _, ?_, .inl ?_, rfl, by exact hlb, by exact hle⟩
          · rw [htk]; simpa [rdStep] using hB
          · rw [htk, map_set]; simp [rdStep]
      · rcases h6 u hum with ⟨p, hp, rfl⟩ | ⟨p, hp, rfl⟩
        · refine ExSN.one ?_
          refine ExN.setI ?_
          refine Ev.nm rfl ?_
          refine Ev.nm (u := vR b) (by exact hlb) ?_
          refine EvN.callF 10 ?_
          refine EvLN.cons (EvN.at (Ev.str ?_))
          rw [abc_eq]
          refine EvLN.cons (EvN.at (Ev.nm rfl ?_))
          refine EvLN.nil ?_
          refine FnAtN.indexOf hr2 (htu rfl).1 (htu rfl).2 hp ?_
          refine SetOp.lstN 1 rfl hB (by simp [hl.1]; omega) (by omega) ?_
          refine ⟨hf' _, rfl, _, loE, .inl ?_, ?_, rfl, by exact hlb, by exact hle⟩
          · rw [htk, map_set]; simp [rdStep]
          · rw [htk]; simpa [rdStep] using hE
        · simp at e2
  · rintro loc led hf ⟨loB, loE, hB, hE, rfl, hlb, hle⟩
    rw [List.take_length] at hB hE
    have hl := readBE_len (items 0 us) (List.replicate 6 0, List.replicate 6 0)
    change loB.isL ((readBE (items 0 us)).1.map vI) at hB
    change loE.isL ((readBE (items 0 us)).2.map vI) at hE
    change (readBE (items 0 us)).1.length = _ ∧ (readBE (items 0 us)).2.length = _ at hl
    have hK : ∀ a, K (vR a) ⟨σ.loc, (a, .lst ((readNet (readBE (items 0 us)).1 (readBE (items 0 us)).2).map vI)) :: σ.led, σ.gens.push .finished⟩ := h
    generalize readBE (items 0 us) = be at hB hE hl hK
    obtain ⟨bb, ee⟩ := be
    dsimp only at hB hE hl hK
    simp only [List.length_replicate] at hl
    refine ExS.has (σ := ⟨[("begins", vR b), ("ends", vR e)], [(e, loE), (b, loB)], σ.gens.push .finished⟩) ?_ ⟨⟨hlb, hle, trivial⟩, rfl, rfl⟩
    refine ExS.cons ?_
    refine Ex.asg ?_
    refine Ev.bin ?_
    refine Ev.plst (EvL.cons (Ev.int (EvL.nil ⟨by decide, fun a3 => ?_⟩)))
    refine Ev.int (Op2.mulL (i := 0) rfl (by decide) (by decide) (by decide) fun D => ?_)
    dsimp only
    refine ExS.drop (led' := [(D, .pl ((List.replicate 6 (0 : Int)).map vI)), (e, loE), (b, loB)]) ?_ (List.Sublist.cons_cons _ (List.sublist_cons_self _ _))
    refine ExS.cons (Ex.for_ (fun i σ' => ∃ lo, lo.isL (((List.range i).foldl (rdK bb ee) (List.replicate 6 0)).map vI) ∧ σ'.Has ⟨[("begins", vR b), ("ends", vR e), ("net", vR D)], [(D, lo), (e, loE), (b, loB)], σ.gens.push .finished⟩)
      (Ev.callT "range" (EvL.cons (Ev.int (EvL.nil (OpL.range fun a => ?_))))))
    dsimp only
    refine ⟨upTo 6, _, ItTo.range hA (by decide) (by decide), ⟨.pl _, .inr ?_, ⟨rfl, rfl, rfl, trivial⟩, rfl, rfl⟩, ?_, ?_⟩
    · simp
    · rintro i u hu ⟨l3, d3, g3⟩ ⟨lo, hL, hH⟩
      obtain ⟨hi, rfl⟩ := upTo_get hu
      dsimp only
      refine ExS.has (σ := ⟨[("k", vI i), ("begins", vR b), ("ends", vR e), ("net", vR D)], [(D, lo), (e, loE), (b, loB)], σ.gens.push .finished⟩) ?_ ⟨⟨rfl, hH.loc⟩, hH.led, hH.gens⟩
      refine ExS.cons (Ex.for_ (fun j σ' => ∃ lo, lo.isL (((List.range j).foldl (rdIn bb ee i) ((List.range i).foldl (rdK bb ee) (List.replicate 6 0))).map vI) ∧ σ'.Has ⟨[("k", vI i), ("begins", vR b), ("ends", vR e), ("net", vR D)], [(D, lo), (e, loE), (b, loB)], σ.gens.push .finished⟩)
        (Ev.callT "range" (EvL.cons (Ev.int (EvL.nil (OpL.range fun a => ?_))))))
      dsimp only
      refine ⟨upTo 6, _, ItTo.range hA (by decide) (by decide), ⟨lo, hL, ⟨rfl, rfl, rfl, rfl, trivial⟩, rfl, rfl⟩, ?_, ?_⟩
      · rintro j u hu ⟨l4, d4, g4⟩ ⟨lo, hL, hH⟩
        obtain ⟨hj, rfl⟩ := upTo_get hu
        dsimp only
        refine ExS.has (σ := ⟨[("j", vI j), ("k", vI i), ("begins", vR b), ("ends", vR e), ("net", vR D)], [(D, lo), (e, loE), (b, loB)], σ.gens.push .finished⟩) ?_ ⟨⟨rfl, hH.loc⟩, hH.led, hH.gens⟩
        have hlen' : ((List.range j).foldl (rdIn bb ee i) ((List.range i).foldl (rdK bb ee) (List.replicate 6 0))).length = 6 := by
          rw [foldl_len (fun _ _ => rdIn_len _ _ _ _ _), foldl_len (fun _ _ => rdK_len _ _ _ _)]; rfl
        repeat walk_at "s"
        refine OpS.lstN (.inr ⟨loB, hB, .tail _ (.tail _ (.head _))⟩) (map_get (by omega)) ?_ (by omega)
        repeat walk_at "s"
        refine OpS.lstN (.inr ⟨loE, hE, .tail _ (.head _)⟩) (map_get (by omega)) ?_ (by omega)
        repeat walk_at "s"
        have hskip : rdQ bb ee i j = false → lo.isL (((List.range (j + 1)).foldl (rdIn bb ee i) ((List.range i).foldl (rdK bb ee) (List.replicate 6 0))).map vI) := fun hq => by
          rw [foldl_range_succ]
          simp only [rdIn, hq, if_false, Bool.false_eq_true]
          exact hL
        refine ⟨fun q1 => ?_, fun q1 => ?_⟩
        · repeat walk_at "s"
          refine OpS.lstN (.inr ⟨loB, hB, .tail _ (.tail _ (.head _))⟩) (map_get (by omega)) ?_ (by omega)
          repeat walk_at "s"
          refine OpS.lstN (.inr ⟨loE, hE, .tail _ (.head _)⟩) (map_get (by omega)) ?_ (by omega)
          repeat walk_at "s"
          refine ⟨fun q2 => ?_, fun q2 => ?_⟩
          · refine EvA.andNil ⟨fun _ => ?_, (fun h => nomatch h)⟩
            have hq : rdQ bb ee i j = true := by unfold rdQ; rw [q1, q2]; rfl
            generalize hnet : (List.range j).foldl (rdIn bb ee i) ((List.range i).foldl (rdK bb ee) (List.replicate 6 0)) = net at hL hlen'
            repeat walk_at "s"
            refine Ev.callF 8 ?_
            repeat walk_at "s"
            refine OpS.lstN (.inr ⟨lo, hL, .head _⟩) (map_get (by omega)) ?_ (by omega)
            repeat walk_at "s"
            refine Ev.callF 6 ?_
            repeat walk_at "s"
            refine FnAt.lshift (hr'.mono (by decide)) (by omega) (by omega) ?_
            repeat walk_at "s"
            refine FnAt.or_ (hr'.mono (by decide)) ?_
            repeat walk_at "s"
            refine SetOp.lstN 0 rfl hL (by simp [hlen']; omega) (by omega) ?_
            dsimp only [List.set]
            rw [map_set]
            refine ExS.nil (ExS.nil ⟨_, .inl (congrArg LO.lst ?_), ⟨rfl, rfl, rfl, rfl, trivial⟩, rfl, rfl⟩)
            rw [foldl_range_succ, hnet]
            simp only [rdIn, hq, if_true]
            rfl
          · refine ⟨(fun h => nomatch h), fun _ => ?_⟩
            exact ExS.nil (ExS.nil ⟨lo, hskip (by unfold rdQ; rw [q1, q2]; rfl), ⟨rfl, rfl, rfl, rfl, trivial⟩, rfl, rfl⟩)
        · refine ⟨(fun h => nomatch h), fun _ => ?_⟩
          exact ExS.nil (ExS.nil ⟨lo, hskip (by unfold rdQ; rw [q1]; rfl), ⟨rfl, rfl, rfl, rfl, trivial⟩, rfl, rfl⟩)
      · rintro ⟨l4, d4, g4⟩ ⟨lo, hL, hH⟩
        refine ExS.nil ⟨lo, ?_, ⟨hH.loc.2, hH.led, hH.gens⟩⟩
        rw [foldl_range_succ]
        simpa [rdK] using hL
    · rintro ⟨l3, d3, g3⟩ ⟨lo, hL, hH⟩
      refine ExS.has (σ := ⟨[("net", vR D)], [(D, lo), (e, loE), (b, loB)], σ.gens.push .finished⟩) ?_ ⟨⟨hH.loc.2.2.1, trivial⟩, hH.led, hH.gens⟩
      refine ExS.cons (Ex.ret (Ev.toLst 0 rfl hL ?_))
      repeat walk_at "s"
      exact ⟨_, List.sublist_append_left [_] _, hK D⟩
end
end

section
open PySem PySem.Calls PyProof.Rows
section
variable {c : Cx} {σ : Sg} {F : List (Addr × LO)} {s s₁ : Shared} {K : V → Sg → Prop} {N : Sg → Prop} {R : V → Sg → Prop} {loc : List (Str × V)} {led : List (Addr × LO)} {g : Array GenState}
theorem eqAt_one {A : Around} {s : Shared} {t u : Tok} (bk : NoneBooked s.heap) (ht : t ≠ 0) (hu : u ≠ 0) : SeqAt.EqAt A s (.float one64 t) (.float one64 u) true := fun prog w E Q hq => by
  unfold eqBool
  refine wpAny_holding ?_
  refine wpAny_ite_split (fun _ => wpAny_bind (wpAny_rule (wpAny_pure hq))) (fun _ => ?_)
  have rest : wpAny (model prog w) A (do truthOfDropped (← richCompare .Eq (.float one64 t) (.float one64 u))) Q E s := by
    have : wpAny (model prog w) A (compareOp .Eq (.float one64 t) (.float one64 u)) (fun v s' => wpAny (model prog w) A (truthOfDropped v) Q E s') E s := AutoFloatOps.eq_0 (by
      have e : Mine.eqF one64 one64 = true := by decide +kernel
      show wpAny _ _ (truthOfDropped (.bool (Mine.eqF one64 one64))) _ _ s
      rw [e]; exact wpAny_truthy_bool hq)
    exact wpAny_bind this
  show wpAny _ _ (isSame (.float one64 t) (.float one64 u) >>= _) _ _ s
  refine wpAny_bind ?_
  show wpAny _ _ (isSame.created (one64 == one64 && !Float64.isNaN one64) t u) _ _ s
  unfold isSame.created
  have h0 : (t == 0 || u == 0) = false := by
    have h1 : (t == 0) = false := beq_eq_false_iff_ne.mpr ht
    have h2 : (u == 0) = false := beq_eq_false_iff_ne.mpr hu
    rw [h1, h2]; rfl
  rw [h0, show (one64 == one64 && !Float64.isNaN one64) = true by decide +kernel]
  have fin : ∀ b : Bool, wpAny (model prog w) A (if b = true then pure true else do truthOfDropped (← richCompare .Eq (.float one64 t) (.float one64 u))) Q E s := fun b => by
    cases b with
    | true => exact wpAny_pure hq
    | false => exact rest
  by_cases q : (t == u) = true
  · rw [q]; exact wpAny_pure (fin true)
  · have q' : (t == u) = false := by simpa using q
    rw [q']
    refine wpAny_bind (wpAny_sharingNotTold_none bk ?_)
    refine wpAny_bind (wpAny_sharingNotTold_none bk ?_)
    exact wpAny_bind (wpAny_rule (wpAny_bind (wpAny_askSetting (wpAny_pure (fin _)))))
theorem is_sp {h : Heap} {a b : Int} {z : UInt64} {v : Value} (x : (V.t [.int a 0, .int b 0, .float z 1]).Is h v) : ∃ d t u w, v = .ref d ∧ IsTup h d #[.int a t, .int b u, .float z w] ∧ w ≠ 0 := by
  obtain ⟨d, items, rfl, ht, hi⟩ := x
  have hl : items.toList.length = 3 := by have := congrArg List.length hi; simpa using this
  obtain ⟨x, y, w, e⟩ := leq3 hl
  have hit : items = #[x, y, w] := by rw [← Array.toList_inj, e]
  rw [e] at hi
  simp only [List.map_cons, List.map_nil, List.cons.injEq, and_true] at hi
  obtain ⟨h1, h2, h3⟩ := hi
  obtain ⟨t, rfl⟩ := is_int (h := h) (i := a) (v := x) h1
  obtain ⟨u, rfl⟩ := is_int (h := h) (i := b) (v := y) h2
  obtain ⟨w, rfl, hw⟩ := is_fltT (h := h) (i := z) (v := w) h3
  rw [hit] at ht
  exact ⟨d, t, u, w, rfl, ht, hw⟩
theorem sp_at {h : Heap} : ∀ {sp : List (Int × Int)} {vs : List Value}, IsAll h (spV sp) vs → ∀ j (h1 : j < vs.length), ∃ (p : Int × Int) (a : Addr) (t u w : Tok), sp[j]? = some p ∧ vs[j] = .ref a ∧ IsTup h a #[.int p.1 t, .int p.2 u, .float one64 w] ∧ w ≠ 0
  | [], [], _, j, h1 => by simp at h1
  | p :: _, _ :: _, ⟨x, _⟩, 0, _ => by obtain ⟨a, t, u, w, rfl, ht⟩ := is_sp x; exact ⟨p, a, t, u, w, rfl, rfl, ht⟩
  | _ :: _, _ :: _, ⟨_, b⟩, j + 1, h1 => by
    obtain ⟨p, a, t, u, w, e1, e2, e3⟩ := sp_at b j (by simpa using h1)
    exact ⟨p, a, t, u, w, by simpa using e1, by simpa using e2, e3⟩
  | [], _ :: _, x, _, _ => x.elim
  | _ :: _, [], x, _, _ => x.elim
theorem Op2.neSp {a b : Addr} {sp : List (Int × Int)} (hr : Room 2 c.A) (ha : HasL c σ a (spV sp)) (hb : HasL c σ b (spV sp)) (h : K (vB false) σ) : Op2 c σ (vR a) (vR b) (compareOp .NotEq) K := fun F s v w S hv hw => by
  cases is_ref hv; cases is_ref hw
  obtain ⟨i1, l1, x1⟩ := ha.at S
  obtain ⟨i2, l2, x2⟩ := hb.at S
  have e1 := x1.length; have e2 := x2.length
  simp only [Array.length_toList] at e1 e2
  have hu : c.A.units < cLine := by have := hr.2.2; omega
  have hu1 : c.A.in1.units < cLine := by have := hr.2.2; show c.A.units + 1 < _; omega
  show wpAny _ _ (richCompare .NotEq _ _) _ _ s
  refine SeqAt.RcNeAt.lists (e := fun _ => true) l1 l2 (by omega) hu (fun j h1 h2 => ?_) _ _ _ _ ?_
  · obtain ⟨p, a1, t1, u1, w1, g1, q1, ht1, nw1⟩ := sp_at x1 j (by simpa using h1)
    obtain ⟨p', a2, t2, u2, w2, g2, q2, ht2, nw2⟩ := sp_at x2 j (by simpa using h2)
    rw [g1] at g2; cases g2
    simp only [Array.getElem_toList] at q1 q2
    rw [q1, q2]
    by_cases q : a1 = a2
    · subst q; exact SeqAt.EqAt.same _
    · refine SeqAt.EqAt.of_refs q ?_
      have := SeqAt.RcAt.tuples (A := c.A.in1) (s := s) (e := fun _ => true) ht1 ht2 hu1 (fun j h1 h2 => ?_)
      · exact this
      · match j, h1 with
        | 0, _ => simpa using (MeetsSeq.EqGives.int p.1 p.1 t1 t2).at c.A.in1.in1 s
        | 1, _ => simpa using (MeetsSeq.EqGives.int p.2 p.2 u1 u2).at c.A.in1.in1 s
        | 2, _ => exact eqAt_one S.gl.bk nw1 nw2
  · rw [show (List.range i1.size).all (fun _ => true) = true by simp]
    exact Pv.here S h rfl
end
end

section
open PySem PySem.Calls PyProof.Rows
section
variable {n : Nat} {c : Cx} {σ : Sg} {F : List (Addr × LO)} {s s₁ : Shared} {K : V → Sg → Prop} {N : Sg → Prop} {R : V → Sg → Prop} {loc : List (Str × V)} {led : List (Addr × LO)} {g : Array GenState}
theorem take_succ_map {α β : Type} (f : α → β) (l : List α) (i : Nat) (u : α) (h : l[i]? = some u) : (l.take (i + 1)).map f = (l.take i).map f ++ [f u] := by
  rw [List.take_add_one, h]; simp
theorem CompOk.map {elt : Expr} {x : Str} {scope : Scope} {u : V} {items : List V} {σ' : Sg} (f : V → V)
    (hsrc : Src c σ u items σ') (hlen : items.length ≤ 1000)
    (turn : ∀ F s, St c σ F s → ∀ C u, u ∈ items → ∀ K : V → Sg → Prop, (∀ loc led, K (f u) ⟨loc, led, σ'.gens⟩) → Ev (compCx c scope [] C s) ⟨[(x, u)], [], σ'.gens⟩ elt K)
    (hK : ∀ D E, K (vR D) ⟨σ'.loc, (D, .pl (items.map f)) :: (E ++ σ'.led), σ'.gens⟩) : CompOk c σ elt x [] scope [] u K := by
  refine ⟨items, σ', [], fun i acc σ₂ => acc = (items.take i).map f ∧ σ₂.gens = σ'.gens, hsrc, hlen, trivial, ⟨by simp, rfl⟩, ?_, ?_⟩
  · rintro F s S C i u hu acc ⟨l2, d2, g2⟩ ⟨rfl, hg⟩
    dsimp only at hg
    subst hg
    refine EvIf.nil ⟨(fun h => nomatch h), fun _ => ?_⟩
    dsimp only
    refine Ev.drop (led' := []) ?_ (List.nil_sublist _)
    refine Ev.has (σ := ⟨[(x, u)], [], σ'.gens⟩) ?_ ⟨⟨by simp, trivial⟩, rfl, rfl⟩
    exact turn F s S C u (List.mem_of_getElem? hu) _ fun loc led => ⟨(take_succ_map f items i u hu).symm, rfl⟩
  · rintro acc ⟨l2, d2, g2⟩ ⟨rfl, hg⟩
    dsimp only at hg
    subst hg
    refine ⟨rfl, fun D => ?_⟩
    rw [List.take_length]
    exact hK D d2
noncomputable def Cx.on (c : Cx) : Cx := { c with pos := true }
theorem St.on (S : St c σ F s) (ht : 1 ≤ s.toks) : St c.on σ F s where
  ok := ⟨S.ok.kind, S.ok.co, S.ok.glob, S.ok.blt, S.ok.above, S.ok.cellsL, S.ok.gl⟩
  same := S.same
  keep := S.keep
  ns := S.ns
  cl := S.cl
  led := fun p hp => let ⟨a, b⟩ := S.led p hp; ⟨a.cx rfl rfl, b⟩
  nd := S.nd
  tp := fun _ => ht
theorem St.off (S : St c.on σ F s) : St c σ F s where
  ok := ⟨S.ok.kind, S.ok.co, S.ok.glob, S.ok.blt, S.ok.above, S.ok.cellsL, S.ok.gl⟩
  same := S.same
  keep := S.keep
  ns := S.ns
  cl := S.cl
  led := fun p hp => let ⟨a, b⟩ := S.led p hp; ⟨a.cx rfl rfl, b⟩
  nd := S.nd
  tp := fun _ => S.tp rfl
/-- the first statement: a list of ints; from there the tokens are positive -/
theorem EvN.int {i : Int} {k : Nat} {p : Pos} {KN : Nat → V → Sg → Prop} (h : ∀ m, 1 ≤ m → n ≤ m → KN m (vI i) σ) : EvN n c σ (.Constant (.int i) k p) KN := fun F s hn S =>
  wpAny_Constant_int ⟨s.toks + 1, Nat.le_succ_of_le hn, Nat.le_refl _, Pv.tok S (h _ (Nat.le_add_left 1 _) (Nat.le_succ_of_le hn)) rfl⟩
theorem ExS.first {x : Str} {p' p lp : Pos} {es : List Expr} {rest : List Stmt} (h : EvLN 0 c σ es (fun m us σ' => 1 ≤ m ∧ us.length ≤ 1000 ∧ ∀ a, ExS c.on ⟨(x, vR a) :: σ'.loc, (a, .lst us) :: σ'.led, σ'.gens⟩ rest N R))
    (hx : StN c x := by walk_at "o") (hs : swapsWith (.List es lp) (some (.Name x p')) p.line c.env = pure false := by rfl) :
    ExS c σ (.Assign [.Name x p'] (.List es lp) p :: rest) N R := fun F s S => by
  refine wpAny_execs_cons (wpAny_Assign_Name (wpAny_List (wpAny_mono (h _ F s (Nat.zero_le _) S) (fun vs s₁ hx => ?_) fun _ _ x => x)) hs)
  obtain ⟨m, _, hm, us, σ₁, S₁, k₁, hus, h1, hl, h₁⟩ := hx
  refine ⟨?_, ?_⟩
  · have := hus.length; rw [sizeLine_eq]; omega
  · have S₂ := St.add (tk := s₁.toks) (S₁.push { cls := .type "list", data := .seq vs.toArray }) (Nat.le_refl _) S₁ (lo := .lst us) ⟨_, ⟨_, Heap.get?_push_size _ rfl, rfl, _, rfl⟩, hus.mono (Kp.push _ _).tk⟩
    have t1 : 1 ≤ s₁.toks := Nat.le_trans h1 hm
    refine wpAny_mono (wpAny_toks_of (n := 1) t1 (hx.store (u := vR s₁.heap.objs.size) (v := .ref s₁.heap.objs.size) S₂ rfl (Q := fun _ s' => St c ⟨(x, vR s₁.heap.objs.size) :: σ₁.loc, (s₁.heap.objs.size, .lst us) :: σ₁.led, σ₁.gens⟩ F s' ∧ TK s₁.heap s'.heap) fun s' S' k' => ⟨S', (Kp.push _ _).tk.trans k'⟩)) (fun _ s' hx => ?_) fun _ _ x => x.2
    obtain ⟨t', S', k'⟩ := hx
    refine noE (wpAny_mono (h₁ _ F s' (S'.on t')) (fun f s₄ hx => ?_) fun _ _ x => x)
    obtain ⟨σ₄, S₄, k₄, hf⟩ := hx
    exact ⟨σ₄, S₄.off, k₁.trans (k'.trans k₄), hf⟩
end
end

section
open PySem PySem.Calls PyProof.Rows
noncomputable def wrKU (net : List Int) (p : Nat) (front : Int) (t : List (List Nat)) (k : Nat) : List (List Nat) := if endsQ net p front k then t ++ [[92, 97 + k]] else t
noncomputable def wrStepU (net : List Int) (l : List Nat) (t : List (List Nat)) (i : Nat) : List (List Nat) := (l.take (i + 1)).foldl (wrKU net (l.getD i 0) (frontOf (l.take (i + 1)))) (t ++ [[97 + l.getD i 0]])
noncomputable def writtenU (l : List Nat) (net : List Int) : List (List Nat) := (List.range 6).foldl (wrStepU net l) []
theorem wrKU_flat (net : List Int) (p : Nat) (front : Int) : ∀ (ks : List Nat) (t : List (List Nat)), (ks.foldl (wrKU net p front) t).flatten = ks.foldl (wrK net p front) t.flatten
  | [], t => rfl
  | k :: ks, t => by
    rw [List.foldl_cons, List.foldl_cons, wrKU_flat net p front ks]
    congr 1
    unfold wrKU wrK
    split <;> simp
theorem wrStepU_flat (net : List Int) (l : List Nat) : ∀ (is : List Nat) (t : List (List Nat)), (is.foldl (wrStepU net l) t).flatten = is.foldl (wrStep net l) t.flatten
  | [], t => rfl
  | i :: is, t => by
    rw [List.foldl_cons, List.foldl_cons, wrStepU_flat net l is]
    congr 1
    unfold wrStepU wrStep
    rw [wrKU_flat]
    simp
theorem writtenU_flat (l : List Nat) (net : List Int) : (writtenU l net).flatten = written l net := wrStepU_flat net l _ []
theorem wrKU_ok {net : List Int} {p : Nat} {front : Int} : ∀ (ks : List Nat) (t : List (List Nat)), (∀ k ∈ ks, k < 6) → (∀ u ∈ t, Unit6 u) → ∀ u ∈ ks.foldl (wrKU net p front) t, Unit6 u
  | [], t, _, h => h
  | k :: ks, t, hk, h => by
    rw [List.foldl_cons]
    refine wrKU_ok ks _ (fun j hj => hk j (.tail _ hj)) fun u hu => ?_
    unfold wrKU at hu
    split at hu
    · rcases List.mem_append.mp hu with hu | hu
      · exact h u hu
      · rw [List.mem_singleton.mp hu]; exact .inr ⟨k, hk k (.head _), rfl⟩
    · exact h u hu
theorem wrStepU_ok {net : List Int} {l : List Nat} (hl : l.length = 6) (h6 : ∀ k ∈ l, k < 6) : ∀ (is : List Nat) (t : List (List Nat)), (∀ i ∈ is, i < 6) → (∀ u ∈ t, Unit6 u) → ∀ u ∈ is.foldl (wrStepU net l) t, Unit6 u
  | [], t, _, h => h
  | i :: is, t, hi, h => by
    rw [List.foldl_cons]
    refine wrStepU_ok hl h6 is _ (fun j hj => hi j (.tail _ hj)) ?_
    refine wrKU_ok _ _ (fun k hk => h6 k (List.mem_of_mem_take hk)) fun u hu => ?_
    rcases List.mem_append.mp hu with hu | hu
    · exact h u hu
    · rw [List.mem_singleton.mp hu]
      refine .inl ⟨l.getD i 0, ?_, rfl⟩
      have : i < l.length := by rw [hl]; exact hi i (.head _)
      rw [List.getD_eq_getElem?_getD, List.getElem?_eq_getElem this]
      exact h6 _ (List.getElem_mem _)
theorem writtenU_ok {net : List Int} {l : List Nat} (hl : l.length = 6) (h6 : ∀ k ∈ l, k < 6) : ∀ u ∈ writtenU l net, Unit6 u :=
  wrStepU_ok hl h6 _ [] (fun i hi => List.mem_range.mp hi) (fun _ h => nomatch h)
theorem wrK_fold_len (net : List Int) (p : Nat) (front : Int) : ∀ (ks : List Nat) (t : List Nat), (ks.foldl (wrK net p front) t).length ≤ t.length + 2 * ks.length
  | [], t => by simp
  | k :: ks, t => by
    have h1 := wrK_fold_len net p front ks (wrK net p front t k)
    have h2 := wrK_len net p front t k
    simp only [List.foldl_cons, List.length_cons]; omega
theorem wrStep_fold_len (net : List Int) {l : List Nat} (hl : l.length = 6) : ∀ (is : List Nat) (t : List Nat), (is.foldl (wrStep net l) t).length ≤ t.length + 13 * is.length
  | [], t => by simp
  | i :: is, t => by
    have h1 := wrStep_fold_len net hl is (wrStep net l t i)
    have h2 := wrK_fold_len net (l.getD i 0) (frontOf (l.take (i + 1))) (l.take (i + 1)) (t ++ [97 + l.getD i 0])
    have h3 : (l.take (i + 1)).length ≤ 6 := by rw [List.length_take, hl]; omega
    have h4 : (wrStep net l t i).length ≤ t.length + 13 := by
      unfold wrStep
      simp only [List.length_append, List.length_singleton] at h2
      omega
    simp only [List.foldl_cons, List.length_cons]; omega
theorem written_len (net : List Int) {l : List Nat} (hl : l.length = 6) : (written l net).length ≤ 1000 := by
  have := wrStep_fold_len net hl (List.range 6) []
  simp at this
  exact Nat.le_trans this (by decide)
noncomputable def drawsN (sc : List Int) : List Nat := (sc.take 6).map (fun x => (x.fmod 96).toNat) ++ [74, 80, 88, 0, 8, 16].drop (sc.take 6).length
noncomputable def spN (n : Nat) : Int × Int := ((n % 24 : Nat), (1 + n / 24 : Nat))
noncomputable def dueB (net : List Int) : Bool := takenOff net && (threes net).isEmpty
noncomputable def lawB (net : List Int) : Bool := match lineOf net with
  | none => !dueB net
  | some l => dueB net && decide (readOf (writtenU l net) = net)
noncomputable def netN (sc : List Int) : List Int := ties ((drawsN sc).map spN)
theorem drawsN_len (sc : List Int) : (drawsN sc).length = 6 := by
  unfold drawsN
  rw [List.length_append, List.length_map, List.length_drop]
  have : (sc.take 6).length ≤ 6 := by rw [List.length_take]; omega
  simp only [List.length_cons, List.length_nil]; omega
theorem drawsN_lt (sc : List Int) : ∀ n ∈ drawsN sc, n < 96 := fun n hn => by
  unfold drawsN at hn
  rcases List.mem_append.mp hn with hn | hn
  · obtain ⟨x, _, rfl⟩ := List.mem_map.mp hn
    have h1 := Int.fmod_nonneg_of_pos x (b := 96) (by decide)
    have h2 := Int.fmod_lt_of_pos x (b := 96) (by decide)
    omega
  · have := List.mem_of_mem_drop hn
    simp at this
    omega
end

section
open PySem PySem.Calls PyProof.Rows

noncomputable def mod96 : V → V
  | .p (.int x _) => vI (((x.fmod 96).toNat : Nat) : Int)
  | u => u
theorem mod96_map (sc : List Int) : ((sc.map vI).take 6).map mod96 = ((sc.take 6).map (fun x => (x.fmod 96).toNat)).map fun (n : Nat) => vI (n : Int) := by
  rw [← List.map_take, List.map_map, List.map_map]
  rfl
theorem mem_vI {u : V} {l : List Int} {n : Nat} (h : u ∈ (l.map vI).take n) : ∃ x, u = vI x := by
  obtain ⟨x, _, rfl⟩ := List.mem_map.mp (List.mem_of_mem_take h)
  exact ⟨x, rfl⟩
noncomputable def dV (n : Nat) : V := vI (n : Int)
theorem drawsV (sc : List Int) : (((sc.take 6).map (fun x => (x.fmod 96).toNat)).map fun (n : Nat) => vI (n : Int)) ++ [vI 74, vI 80, vI 88, vI 0, vI 8, vI 16].drop (sc.take 6).length = (drawsN sc).map dV := by
  unfold drawsN
  rw [List.map_append, List.map_drop]
  rfl
theorem div_ok : ∀ n : Nat, n < 96 → Builtin.divisionGoesByPylong (n : Int) 24 = false := by decide +kernel
theorem bits_ok : ∀ n : Nat, n < 96 → Builtin.Int.intBits ((1 + n / 24 : Nat) : Int) ≤ 64 := by decide +kernel
theorem fmod24 (n : Nat) : (n : Int).fmod 24 = ((n % 24 : Nat) : Int) := by
  rw [Int.fmod_eq_emod_of_nonneg _ (by decide)]; omega
theorem fdiv24 (n : Nat) : 1 + (n : Int).fdiv 24 = ((1 + n / 24 : Nat) : Int) := by
  rw [Int.fdiv_eq_ediv_of_nonneg _ (by decide)]; omega
noncomputable def spOne (p : Int × Int) : V := .t [.int p.1 0, .int p.2 0, .float one64 1]
noncomputable def telV : V → V
  | .p (.int x _) => spOne (spN x.toNat)
  | u => u
theorem telV_map (ds : List Nat) : (ds.map dV).map telV = spV (ds.map spN) := by
  unfold spV
  rw [List.map_map, List.map_map]
  exact List.map_congr_left fun n _ => rfl
theorem tell_at {n : Nat} (h : n < 96) : toldOk (partOf (n % 24 : Nat) (1 + n / 24 : Nat) (corner 0)) (partOf (n % 24 : Nat) (1 + n / 24 : Nat) (corner 1)) (partOf (n % 24 : Nat) (1 + n / 24 : Nat) (corner 2)) = true ∧
    (∀ i, i < 3 → Float64.isInf (partOf (n % 24 : Nat) (1 + n / 24 : Nat) (corner i)) = false) ∧
    .t (toldOf (partOf (n % 24 : Nat) (1 + n / 24 : Nat) (corner 0)) (partOf (n % 24 : Nat) (1 + n / 24 : Nat) (corner 1)) (partOf (n % 24 : Nat) (1 + n / 24 : Nat) (corner 2))) = spOne (spN n) := by
  have h1 := tell_all h
  unfold tellOk at h1
  simp only [Bool.and_eq_true, decide_eq_true_eq] at h1
  obtain ⟨h2, h3, h4, h5, h6⟩ := h1
  refine ⟨h2, fun i hi => ?_, ?_⟩
  · have := List.all_eq_true.mp h3 i (List.mem_range.mpr hi)
    simpa using this
  · unfold toldOf spOne spN
    rw [h4, h5, h6]
theorem ties_len (sp : List (Int × Int)) : (ties sp).length = 6 := by
  unfold ties
  rw [foldl_len (fun _ _ => tiesK_len)]; rfl
theorem Ev.imp {c : Cx} {σ : Sg} {e : Expr} {K K' : V → Sg → Prop} (h : Ev c σ e K) (hk : ∀ u σ', K u σ' → K' u σ') : Ev c σ e K' := fun F s S =>
  wpAny_mono (h F s S) (fun v s' ⟨u, σ', a, b, d, k⟩ => ⟨u, σ', a, b, d, hk u σ' k⟩) fun _ _ x => x
noncomputable def lawCx (prog : Program) (w : World) (A : Around) (a : Addr) (cd : Value) (s : Shared) (mg mb : Str → Option Value) (pos : Bool) : Cx :=
  ⟨prog, w, A.deeper (envOfC (fn 22).name (fn 22).scope s.heap.objs.size a cd), envOfC (fn 22).name (fn 22).scope s.heap.objs.size a cd, s, mg, mb, pos⟩
section
variable {prog : Program} {w : World} {A : Around} {a : Addr} {cd : Value} {s : Shared} {mg mb : Str → Option Value} {g : Array GenState} {b : Addr} {sc : List Int}
set_option maxHeartbeats 4000000 in
theorem law_walk (hr : Room 5 A) (hlen : sc.length ≤ 100) (hat : ∀ pos, LO.At (lawCx prog w A a cd s mg mb pos) s.heap b (.lst (sc.map vI)))
    (hline : ∀ l, lineOf (netN sc) = some l → l.length = 6 ∧ ∀ k ∈ l, k < 6) :
    ExS (lawCx prog w A a cd s mg mb false) ⟨[(("script" : Str), vR b)], [], g⟩ (fn 22).body (fun _ => False) (fun u σ' => u = vB (lawB (netN sc)) ∧ (σ'.gens = g ∨ σ'.gens = g.push .finished)) := by
  have hr' : Room 4 (lawCx prog w A a cd s mg mb true).A := hr.deeper
  have hA : (lawCx prog w A a cd s mg mb true).A.handled = none := hr.1
  have hpos : (lawCx prog w A a cd s mg mb true).pos = true := rfl
  have hold : ∀ σ', HasL (lawCx prog w A a cd s mg mb true) σ' b (sc.map vI) := fun σ' => .inl (hat true)
  refine ExS.first ?_
  refine EvLN.cons (EvN.int fun m1 h1 _ => ?_)
  refine EvLN.cons (EvN.at (Ev.int ?_))
  refine EvLN.cons (EvN.at (Ev.int ?_))
  refine EvLN.cons (EvN.at (Ev.int ?_))
  refine EvLN.cons (EvN.at (Ev.int ?_))
  refine EvLN.cons (EvN.at (Ev.int ?_))
  refine EvLN.nil ⟨h1, by decide, fun gv => ?_⟩
  show ExS (lawCx prog w A a cd s mg mb true) _ _ _ _
  dsimp only
  refine ExS.cons ?_
  refine Ex.asg ?_
  refine Ev.bin ?_
  refine Ev.comp [] hA ?_ (closureFor_none (by decide)) (fun n a e => by cases e)
  refine Ev.slL (Ev.nm rfl ⟨b, sc.map vI, rfl, by simp; omega, hold _, ?_⟩)
  refine Ev.int ⟨6, rfl, hold _, fun x1 => ?_⟩
  refine CompOk.map mod96 (Src.lst (.inr ⟨_, .inr rfl, .head _⟩)) (by simp; omega) (fun F s S C u hu K hK => ?_) fun D E => ?_
  · obtain ⟨x, rfl⟩ := mem_vI hu
    refine Ev.bin (Ev.nm rfl (Ev.int (Op2.modI (by decide) ?_)))
    have := hK [("x", vI x)] []
    have e : mod96 (vI x) = vI (x.fmod 96) := by
      show vI (((x.fmod 96).toNat : Nat) : Int) = _
      rw [Int.toNat_of_nonneg (Int.fmod_nonneg_of_pos x (by decide))]
    rw [e] at this
    exact this
  rw [mod96_map]
  dsimp only
  refine Ev.drop (led' := [(D, .pl (((sc.take 6).map (fun x => (x.fmod 96).toNat)).map fun (n : Nat) => vI (n : Int))), (gv, .lst [vI 74, vI 80, vI 88, vI 0, vI 8, vI 16])]) ?_ ?_
  rotate_left
  · exact List.Sublist.cons_cons _ (List.Sublist.trans (List.sublist_cons_self _ _) (List.sublist_append_right _ _))
  refine Ev.slF (Ev.nm rfl ⟨gv, [vI 74, vI 80, vI 88, vI 0, vI 8, vI 16], rfl, by decide, .inr ⟨_, .inl rfl, .tail _ (.head _)⟩, ?_⟩)
  refine Ev.callB "len" ?_
  refine EvL.cons ?_
  refine Ev.slL (Ev.nm rfl ⟨b, sc.map vI, rfl, by simp; omega, hold _, ?_⟩)
  refine Ev.int ⟨6, rfl, hold _, fun x2 => ?_⟩
  refine EvL.nil (OpL.lenL (.inr ⟨_, .inr rfl, .head _⟩) (by simp; omega) ?_)
  have hl6 : ((sc.map vI).take 6).length = (sc.take 6).length := by simp
  rw [hl6]
  refine ⟨_, rfl, by simp; omega, .inr ⟨_, .inl rfl, .tail _ (.tail _ (.head _))⟩, fun x3 => ?_⟩
  refine Op2.addL (.inr ⟨_, .inr rfl, .tail _ (.tail _ (.head _))⟩) (.inr ⟨_, .inr rfl, .head _⟩) (by simp; omega) fun d => ?_
  rw [drawsV]
  dsimp only
  refine ExS.drop (led' := [(d, .pl ((drawsN sc).map dV))]) ?_ (List.sublist_append_left [_] _)
  refine ExS.cons ?_
  refine Ex.comp [] hA (Ev.nm rfl ?_) (closureFor_none (by decide)) (fun n a e => by cases e)
  refine CompOk.map telV (Src.lst (.inr ⟨_, .inr rfl, .head _⟩)) (by simp [drawsN_len]) (fun F s S C u hu K hK => ?_) fun D E => ?_
  · obtain ⟨n, hn, rfl⟩ := List.mem_map.mp hu
    have hn96 := drawsN_lt sc n hn
    obtain ⟨t1, t2, t3⟩ := tell_at hn96
    refine Ev.callF 13 ?_
    refine EvL.cons ?_
    refine Ev.callF 12 ?_
    refine EvL.cons (Ev.bin (Ev.nm rfl (Ev.int (Op2.modI (by decide) ?_))))
    refine EvL.cons (Ev.bin (Ev.int (Ev.bin (Ev.nm rfl (Ev.int (Op2.divI (by decide) (div_ok n hn96) (Op2.addI ?_)))))))
    rw [fmod24, fdiv24]
    refine EvL.nil (FnAt.paint (bits_ok n hn96) t2 hpos (hr'.mono (by decide)) fun a => ?_)
    refine EvL.nil (FnAt.told t1 hpos (hr'.mono (by decide)) (.inr ⟨_, .inr rfl, .head _⟩) ?_)
    rw [t3]
    exact hK _ _
  rw [telV_map]
  dsimp only
  refine ExS.drop (led' := [(D, .pl (spV ((drawsN sc).map spN))), (d, .pl ((drawsN sc).map dV))]) ?_ (List.Sublist.cons_cons _ (List.sublist_append_right _ _))
  refine ExS.cons ?_
  refine Ex.ite ?_
  refine EvT.cmp ?_
  refine Ev.nm rfl ?_
  refine Ev.comp [] hA (Ev.nm rfl ?_) (closureFor_none (by decide)) (fun n a e => by cases e)
  refine CompOk.map telV (Src.lst (.inr ⟨_, .inr rfl, .tail _ (.head _)⟩)) (by simp [drawsN_len]) (fun F s S C u hu K hK => ?_) fun D2 E2 => ?_
  · obtain ⟨n, hn, rfl⟩ := List.mem_map.mp hu
    have hn96 := drawsN_lt sc n hn
    refine Ev.tup3 (u := .int (n % 24 : Nat) 0) (v := .int (1 + n / 24 : Nat) 0) (w := .float one64 1) ?_
    refine EvL.cons (Ev.bin (Ev.nm rfl (Ev.int (Op2.modI (by decide) ?_))))
    refine EvL.cons (Ev.bin (Ev.int (Ev.bin (Ev.nm rfl (Ev.int (Op2.divI (by decide) (div_ok n hn96) (Op2.addI ?_)))))))
    rw [fmod24, fdiv24]
    exact EvL.cons (Ev.flt hpos (EvL.nil ⟨rfl, hK _ _⟩))
  rw [telV_map]
  refine Op2.neSp (hr'.mono (by decide)) (.inr ⟨_, .inr rfl, .tail _ (List.mem_append_right _ (.head _))⟩) (.inr ⟨_, .inr rfl, .head _⟩) ?_
  refine OpT.bool ⟨(fun h => nomatch h), fun _ => ?_⟩
  refine ExS.nil ?_
  dsimp only
  refine ExS.drop (led' := [(D, .pl (spV ((drawsN sc).map spN)))]) ?_ (List.Sublist.cons _ (List.Sublist.trans (List.sublist_append_left [_] _) (List.sublist_append_right _ _)))
  have hsp : ((drawsN sc).map spN).length = 6 := by rw [List.length_map, drawsN_len]
  refine ExS.cons ?_
  refine Ex.asg ?_
  refine Ev.callF 14 ?_
  refine EvL.cons (Ev.nm rfl (EvL.nil (FnAt.ties hsp (hr'.mono (by decide)) (.inr ⟨_, .inr rfl, .head _⟩) fun nt => ?_)))
  have hn6 : (netN sc).length = 6 := ties_len _
  change ExS _ ⟨_, (nt, .lst ((netN sc).map vI)) :: _, _⟩ _ _ _
  generalize netN sc = net at hline hn6 ⊢
  dsimp only
  refine ExS.drop (led' := [(nt, .lst (net.map vI))]) ?_ (List.sublist_append_left [_] _)
  have hN : ∀ {pre : List (Addr × LO)} {lc : List (Str × V)} {gg : Array GenState}, HasL (lawCx prog w A a cd s mg mb true) ⟨lc, pre ++ [(nt, .lst (net.map vI))], gg⟩ nt (net.map vI) := fun {_ _ _} => .inr ⟨_, .inl rfl, List.mem_append_right _ (.head _)⟩
  refine ExS.cons ?_
  refine Ex.asg ?_
  refine Ev.callF 15 ?_
  refine EvL.cons (Ev.nm rfl (EvL.nil (FnAt.line hn6 (hr'.mono (by decide)) (hN (pre := [])) ?_)))
  refine ExS.cons ?_
  refine Ex.asg ?_
  dsimp only
  refine Ev.imp (K := fun u σ' => u = vB (dueB net) ∧ ∃ E, σ' = ⟨[("line", ((lineOf net).map tupV).getD vN), ("net", vR nt), ("spots", vR D), ("draws", vR d), ("given", vR gv), ("script", vR b)], E ++ [(nt, .lst (net.map vI))], g⟩) ?_ ?_
  · refine Ev.and2 ?_
    refine Ev.callF 18 ?_
    refine EvL.cons (Ev.nm rfl (EvL.nil (FnAt.takenOff hn6 (hr'.mono (by decide)) (hN (pre := [])) ?_)))
    refine OpT.bool ⟨fun e => ?_, fun e => ?_⟩
    · refine Ev.cmp ?_
      refine Ev.callF 21 ?_
      refine EvL.cons (Ev.nm rfl (EvL.nil (FnAt.threes hn6 (hr'.mono (by decide)) (hN (pre := [])) fun th => ?_)))
      refine Ev.lst (EvL.nil ⟨by decide, fun em => ?_⟩)
      refine Op2.eqNil (hr'.mono (by decide)) (.inr ⟨_, .inr rfl, .tail _ (.head _)⟩) (.inr ⟨_, .inl rfl, .head _⟩) ?_
      refine ⟨?_, [(em, .lst []), (th, .pl (Mine.threes net))], rfl⟩
      rw [show dueB net = (takenOff net && (Mine.threes net).isEmpty) from rfl, e, Bool.true_and]
    · refine ⟨?_, [], rfl⟩
      rw [show dueB net = (takenOff net && (Mine.threes net).isEmpty) from rfl, e, Bool.false_and]
  · rintro u σ' ⟨rfl, E, rfl⟩
    dsimp only
    have goalOf : lawB net = (match lineOf net with
      | none => !dueB net
      | some l => dueB net && decide (readOf (writtenU l net) = net)) := rfl
    cases hL : lineOf net with
    | none =>
      rw [hL] at goalOf
      refine ExS.cons (Ex.ite (EvT.cmp (Ev.nm rfl (Ev.nil (Op2.isNoneN (OpT.bool ⟨fun _ => ?_, (fun h => nomatch h)⟩))))))
      refine ExS.cons (Ex.ret (Ev.un (Ev.nm rfl (Op1.not (OpT.bool ⟨?_, .inl rfl⟩)))))
      rw [goalOf]
    | some l =>
      rw [hL] at goalOf
      obtain ⟨hl1, hl2⟩ := hline l hL
      refine ExS.cons (Ex.ite (EvT.cmp (Ev.nm rfl (Ev.nil (Op2.isNoneI (OpT.bool ⟨(fun h => nomatch h), fun _ => ?_⟩))))))
      refine ExS.nil ?_
      refine ExS.cons (Ex.ret (Ev.and2 (Ev.nm rfl (OpT.bool ⟨fun e => ?_, fun e => ⟨?_, .inl rfl⟩⟩))))
      · refine Ev.cmp ?_
        refine Ev.callF 17 ?_
        refine EvL.cons ?_
        refine Ev.callF 16 ?_
        refine EvL.cons (Ev.nm rfl ?_)
        refine EvL.cons (Ev.nm rfl (EvL.nil (FnAt.written hn6 hl1 hl2 (hr'.mono (by decide)) hN ?_)))
        rw [← writtenU_flat]
        refine EvL.nil (FnAt.read (writtenU_ok hl1 hl2) (by rw [writtenU_flat]; exact written_len net hl1) hr' fun rd => ?_)
        refine Ev.nm rfl ?_
        refine Op2.eqLL (hr'.mono (by decide)) (.inr ⟨_, .inl rfl, .head _⟩) (.inr ⟨_, .inl rfl, .tail _ (List.mem_append_right _ (.head _))⟩) ⟨?_, .inr rfl⟩
        rw [goalOf, e]; rfl
      · rw [goalOf, e]; rfl
end
end

section
open PySem PySem.Calls PyProof.Rows
theorem ints_all {h : Heap} {vs : List Value} {sc : List Int} (x : IntsAre vs sc) : IsAll h (sc.map vI) vs := by
  induction x with
  | nil => exact trivial
  | cons _ _ _ ih => exact ⟨rfl, ih⟩
theorem law_call {prog : Program} {w : World} {A : Around} {E : Value → Shared → Prop} {s : Shared} {mg mb : Str → Option Value} {fa b : Addr} {vs : List Value} {sc : List Int} (hr : Room 5 A)
    (G : Gl mg mb s.heap) (hm : mg (fn 22).name = some (.ref fa)) (hL : s.heap.IsList b vs.toArray) (hI : IntsAre vs sc) (hlen : sc.length ≤ 100)
    (hline : ∀ l, lineOf (netN sc) = some l → l.length = 6 ∧ ∀ k ∈ l, k < 6) (hlaw : lawB (netN sc) = true)
    {Q : Value → Shared → Prop} (hQ : ∀ h d t g', Kp s.heap h → (g' = s.gens ∨ g' = s.gens.push .finished) → Q (.bool true) ⟨h, g', d, t, s.os⟩) :
    wpAny (model prog w) A (call (.ref fa) [.ref b]) Q E s := by
  obtain ⟨a', o, pm, cd, doc, hm', ho, hdat, hcd⟩ := G.fn _ (fn_mem (i := 22) (by decide))
  have : a' = fa := by rw [hm] at hm'; exact (Value.ref.inj (Option.some.inj hm')).symm
  subst this
  refine wpAny_call (codeAny_mono (R := fun r s' => match r with | .ok (.ret v) => Q v s' | _ => False) ?_ fun r s' hr => ?_)
  · refine call_cellsT (by have := hr.2.1; omega) ho hdat G.nolimit hcd (binds := [(("script" : Str), .ref b)]) rfl (fun x hx => ?_) (fun h₁ tk htk Fr' X => ?_) (by kernel_rfl) (by kernel_rfl) (by kernel_rfl)
    · rcases List.mem_cons.mp hx with rfl | hx
      · exact .inl (by kernel_rfl)
      · cases hx
    · have S' : St (lawCx prog w A a' cd s mg mb false) ⟨[(("script" : Str), vR b)], [], s.gens⟩ [] { s with heap := h₁, toks := tk } := by
        refine ⟨⟨by kernel_rfl!, by kernel_rfl!, rfl, rfl, Nat.le_refl _, fun n b e => ?_, G⟩, ⟨h₁, tk, rfl⟩, Fr'.keep, ⟨_, Fr'.ns, fun x u k e => ?_⟩, ⟨_, X.cell, fun x u k e => ?_⟩, fun p hp => (nomatch hp), .nil, (fun h => nomatch h)⟩
        · have e : ([] : List (Str × Addr)).lookup n = some b := e
          cases e
        · obtain ⟨v, h1, h2⟩ := bindL_is (h := s.heap) (names := [("script" : Str)]) (us := [vR b]) (vs := [.ref b]) k (by decide) ⟨rfl, trivial⟩ e
          exact ⟨v, h1, h2.mono (Kp.tk Fr'.keep)⟩
        · obtain ⟨v, h1, h2⟩ := bindC_is (h := s.heap) (names := [("script" : Str)]) (us := [vR b]) (vs := [.ref b]) k (by decide) ⟨rfl, trivial⟩ e
          exact ⟨v, h1, h2.mono (Kp.tk Fr'.keep)⟩
      refine wpAny_mono (law_walk (g := s.gens) hr hlen (fun pos => ⟨_, hL, by simpa using ints_all hI⟩) hline [] _ S') (fun f s' hf => ?_) fun _ _ x => x.elim
      obtain ⟨σ', S'', k', hf⟩ := hf
      cases f with
      | next => exact hf.elim
      | brk => exact hf.elim
      | cont => exact hf.elim
      | ret v =>
        obtain ⟨u, hu, rfl, hg⟩ := hf
        cases is_bool hu
        obtain ⟨h₂, t₂, e⟩ := S''.same
        have hk := S''.keep
        rw [e] at hk ⊢
        rw [hlaw]
        exact hQ h₂ _ t₂ _ hk hg
  · cases r with
    | error e => exact hr.elim
    | ok f =>
      cases f with
      | ret v => exact hr
      | _ => exact hr.elim
end

section
open PySem
theorem and_cast (a b : Nat) : Builtin.bitAnd (a : Int) (b : Int) = ((a &&& b : Nat) : Int) := by
  unfold Builtin.bitAnd
  have h1 : decide ((0 : Int) ≤ (a : Int)) = true := by simp
  have h2 : decide ((0 : Int) ≤ (b : Int)) = true := by simp
  rw [h1, h2]
  simp
theorem or_cast (a b : Nat) : Builtin.bitOr (a : Int) (b : Int) = ((a ||| b : Nat) : Int) := by
  unfold Builtin.bitOr Builtin.bitAnd Builtin.bitNot
  have h1 : decide ((0 : Int) ≤ -(a : Int) - 1) = false := by simp; omega
  have h2 : decide ((0 : Int) ≤ -(b : Int) - 1) = false := by simp; omega
  rw [h1, h2]
  show -(-(((-(-(a : Int) - 1) - 1).toNat ||| (-(-(b : Int) - 1) - 1).toNat : Nat) : Int) - 1) - 1 = _
  have e1 : (-(-(a : Int) - 1) - 1).toNat = a := by omega
  have e2 : (-(-(b : Int) - 1) - 1).toNat = b := by omega
  rw [e1, e2]
  omega
theorem andNot_cast (a b : Nat) : Builtin.bitAnd (a : Int) (Builtin.bitNot (b : Int)) = (a : Int) - ((a &&& b : Nat) : Int) := by
  unfold Builtin.bitAnd Builtin.bitNot
  have h1 : decide ((0 : Int) ≤ (a : Int)) = true := by simp
  have h2 : decide ((0 : Int) ≤ -(b : Int) - 1) = false := by simp; omega
  rw [h1, h2]
  show (a : Int) - (((a : Int).toNat &&& (-(-(b : Int) - 1) - 1).toNat : Nat) : Int) = _
  have e2 : (-(-(b : Int) - 1) - 1).toNat = b := by omega
  rw [e2, Int.toNat_natCast]
theorem bit_cast (a k : Nat) : bit (a : Int) k = a.testBit k := by
  unfold bit
  have e : (a : Int).fdiv (2 ^ k) = ((a >>> k : Nat) : Int) := by
    rw [Int.fdiv_eq_ediv_of_nonneg _ (Int.le_of_lt (Int.pow_pos (by decide))), Nat.shiftRight_eq_div_pow]
    simp
  have := and_cast (a >>> k) 1
  rw [e]
  rw [show Builtin.bitAnd ((a >>> k : Nat) : Int) 1 = (((a >>> k) &&& 1 : Nat) : Int) from this, Nat.testBit, Nat.and_comm]
  cases h : (1 &&& a >>> k) with
  | zero => simp
  | succ n => simp; omega
theorem bitB_cast (a k : Nat) : bitB (a : Int) k = a.testBit k := by
  have : bitB (a : Int) k = bit (a : Int) k := by unfold bitB bit; simp
  rw [this, bit_cast]
noncomputable abbrev cst (ms : List Nat) : List Int := ms.map fun (m : Nat) => (m : Int)
theorem nat_cst (ms : List Nat) (u : Nat) : nat (cst ms) u = ((ms.getD u 0 : Nat) : Int) := by
  unfold nat cst
  rw [List.getD_eq_getElem?_getD, List.getD_eq_getElem?_getD, List.getElem?_map]
  cases ms[u]? <;> simp
/-- who is tied to whom -/
noncomputable abbrev adj (ms : List Nat) (u w : Nat) : Bool := (ms.getD u 0).testBit w
structure Sym (ms : List Nat) : Prop where
  len : ms.length = 6
  lt : ∀ u, u < 6 → ms.getD u 0 < 64
  refl : ∀ u, u < 6 → adj ms u u = true
  sym : ∀ u w, u < 6 → w < 6 → adj ms u w = adj ms w u
theorem set_cst (ms : List Nat) (k x : Nat) : (cst ms).set k (x : Int) = cst (ms.set k x) := by
  unfold cst; rw [List.map_set]
theorem getD_set {ms : List Nat} {k x u : Nat} (hk : k < ms.length) : (ms.set k x).getD u 0 = if u = k then x else ms.getD u 0 := by
  rw [List.getD_eq_getElem?_getD, List.getD_eq_getElem?_getD, List.getElem?_set]
  by_cases q : k = u
  · subst q; simp [hk]
  · have : ¬ u = k := fun e => q e.symm
    simp [q, this]
theorem setTie_sym {ms : List Nat} (S : Sym ms) {k j : Nat} (hk : k < 6) (hj : j < k) : ∃ ms', setTie (cst ms) k j = cst ms' ∧ Sym ms' := by
  have hkl : k < ms.length := by rw [S.len]; exact hk
  have hjl : j < (ms.set k (ms.getD k 0 ||| 2 ^ j)).length := by rw [List.length_set, S.len]; omega
  refine ⟨(ms.set k (ms.getD k 0 ||| 2 ^ j)).set j ((ms.set k (ms.getD k 0 ||| 2 ^ j)).getD j 0 ||| 2 ^ k), ?_, ?_⟩
  · unfold setTie bor
    have e1 : ∀ i : Nat, ((2 : Int) ^ i) = ((2 ^ i : Nat) : Int) := fun i => by simp
    simp only [e1, nat_cst, or_cast, set_cst]
  · have hg : ∀ u, ((ms.set k (ms.getD k 0 ||| 2 ^ j)).set j ((ms.set k (ms.getD k 0 ||| 2 ^ j)).getD j 0 ||| 2 ^ k)).getD u 0 = if u = j then ms.getD j 0 ||| 2 ^ k else if u = k then ms.getD k 0 ||| 2 ^ j else ms.getD u 0 := fun u => by
      rw [getD_set hjl, getD_set hkl]
      have : ¬ j = k := by omega
      simp only [this, if_false]
      by_cases q : u = j
      · simp [q]
      · simp only [q, if_false]; rw [getD_set hkl]
    have ha : ∀ u w, adj ((ms.set k (ms.getD k 0 ||| 2 ^ j)).set j ((ms.set k (ms.getD k 0 ||| 2 ^ j)).getD j 0 ||| 2 ^ k)) u w = (adj ms u w || (decide (u = j) && decide (w = k)) || (decide (u = k) && decide (w = j))) := fun u w => by
      unfold adj
      rw [hg]
      by_cases q1 : u = j
      · subst q1
        have : ¬ u = k := by omega
        simp [this, Nat.testBit_or, Nat.testBit_two_pow, eq_comm]
      · by_cases q2 : u = k
        · subst q2
          simp [q1, Nat.testBit_or, Nat.testBit_two_pow, eq_comm]
        · simp [q1, q2]
    have p2 : ∀ i, i < 6 → 2 ^ i < 64 := by decide
    refine ⟨by simp [S.len], fun u hu => ?_, fun u hu => ?_, fun u w hu hw => ?_⟩
    · rw [hg]
      have h1 := S.lt j (by omega); have h2 := S.lt k hk; have h3 := S.lt u hu
      split
      · exact Nat.or_lt_two_pow (n := 6) h1 (p2 k hk)
      · split
        · exact Nat.or_lt_two_pow (n := 6) h2 (p2 j (by omega))
        · exact h3
    · rw [ha, S.refl u hu]; rfl
    · rw [ha, ha, S.sym u w hu hw]
      cases adj ms w u <;> cases decide (u = j) <;> cases decide (w = k) <;> cases decide (u = k) <;> cases decide (w = j) <;> rfl
theorem tiesIn_sym {sp : List (Int × Int)} {k j : Nat} {net : List Int} (hk : k < 6) (hj : j < k) (h : ∃ ms, net = cst ms ∧ Sym ms) : ∃ ms, tiesIn sp k net j = cst ms ∧ Sym ms := by
  obtain ⟨ms, rfl, S⟩ := h
  unfold tiesIn
  split
  · exact setTie_sym S hk hj
  · exact ⟨ms, rfl, S⟩
theorem foldl_inv {α β : Type} (P : α → Prop) (f : α → β → α) : ∀ (l : List β) (a : α), P a → (∀ a b, b ∈ l → P a → P (f a b)) → P (l.foldl f a)
  | [], a, h, _ => h
  | b :: l, a, h, hf => foldl_inv P f l (f a b) (hf a b (.head _) h) fun a' b' hb => hf a' b' (.tail _ hb)
theorem ties_sym (sp : List (Int × Int)) : ∃ ms, ties sp = cst ms ∧ Sym ms := by
  unfold ties
  refine foldl_inv (fun net => ∃ ms, net = cst ms ∧ Sym ms) _ _ _ ⟨[1, 2, 4, 8, 16, 32], by decide, ?_⟩ fun net k hk h => ?_
  · refine ⟨rfl, by decide, by decide, fun u w hu hw => ?_⟩
    have : ∀ u, u < 6 → ∀ w, w < 6 → adj [1, 2, 4, 8, 16, 32] u w = adj [1, 2, 4, 8, 16, 32] w u := by decide
    exact this u hu w hw
  · unfold tiesK
    exact foldl_inv (fun net => ∃ ms, net = cst ms ∧ Sym ms) _ _ _ h fun net j hj h => tiesIn_sym (List.mem_range.mp hk) (List.mem_range.mp hj) h
theorem netN_sym (sc : List Int) : ∃ ms, netN sc = cst ms ∧ Sym ms := ties_sym _
end

section
open PySem
theorem sub63_bit : ∀ x, x < 64 → ∀ k, k < 6 → (63 - x).testBit k = !x.testBit k := by decide +kernel
theorem and_pos : ∀ a, a < 64 → ∀ b, b < 64 → decide (0 < a &&& b) = (List.range 6).any fun w => a.testBit w && b.testBit w := by decide +kernel
theorem add_bit : ∀ x, x < 64 → ∀ k, k < 6 → x.testBit k = false → x + 2 ^ k < 64 ∧ ∀ j, j < 6 → (x + 2 ^ k).testBit j = (x.testBit j || decide (j = k)) := by decide +kernel
/-- k may come next -/
noncomputable def Okk (ms : List Nat) (l : List Nat) (k : Nat) : Prop := k < 6 ∧ k ∉ l ∧ ∀ u ∈ l, (∃ w, w < 6 ∧ w ∉ l ∧ adj ms u w = true) → adj ms u k = true
/-- an order of vertices, and the mask of those laid -/
inductive OrdM (ms : List Nat) : Nat → List Nat → Prop
  | nil : OrdM ms 0 []
  | snoc {x : Nat} {l : List Nat} {k : Nat} : OrdM ms x l → Okk ms l k → OrdM ms (x + 2 ^ k) (l ++ [k])
structure Bits (x : Nat) (l : List Nat) : Prop where
  lt : x < 64
  mem : ∀ k, k < 6 → x.testBit k = decide (k ∈ l)
  lt6 : ∀ k ∈ l, k < 6
  nd : l.Nodup
theorem Bits.add {x : Nat} {l : List Nat} (h : Bits x l) {k : Nat} (hk : k < 6) (hn : k ∉ l) : Bits (x + 2 ^ k) (l ++ [k]) := by
  have hb : x.testBit k = false := by rw [h.mem k hk]; simpa using hn
  obtain ⟨h1, h2⟩ := add_bit x h.lt k hk hb
  refine ⟨h1, fun j hj => ?_, fun j hj => ?_, ?_⟩
  · rw [h2 j hj, h.mem j hj]
    by_cases q : j ∈ l <;> by_cases r : j = k <;> simp [q, r]
  · rcases List.mem_append.mp hj with hj | hj
    · exact h.lt6 j hj
    · rw [List.mem_singleton.mp hj]; exact hk
  · refine List.nodup_append.mpr ⟨h.nd, by simp, fun a ha b hb e => ?_⟩
    rw [List.mem_singleton.mp hb] at e
    exact hn (e ▸ ha)
theorem OrdM.bits {ms : List Nat} {x : Nat} {l : List Nat} (h : OrdM ms x l) : Bits x l := by
  induction h with
  | nil => exact ⟨by decide, fun k hk => by simp, (fun _ h => nomatch h), List.nodup_nil⟩
  | snoc _ o ih => exact ih.add o.1 o.2.1
noncomputable def mayN (ms : List Nat) (x : Nat) (may u : Nat) : Nat := if 0 < (ms.getD u 0) &&& (63 - x) then may &&& ms.getD u 0 else may
theorem mayStep_cast (ms : List Nat) {x : Nat} (hx : x < 64) (may u : Nat) : mayStep (cst ms) x may u = ((mayN ms x may u : Nat) : Int) := by
  unfold mayStep mayN
  rw [nat_cst, show (63 - (x : Int)) = ((63 - x : Nat) : Int) by omega, and_cast, and_cast]
  by_cases q : 0 < (ms.getD u 0) &&& (63 - x)
  · have : (0 : Int) < (((ms.getD u 0) &&& (63 - x) : Nat) : Int) := by exact_mod_cast q
    simp only [this, decide_true, if_true, q]
  · have : ¬ (0 : Int) < (((ms.getD u 0) &&& (63 - x) : Nat) : Int) := fun h => q (by exact_mod_cast h)
    simp only [this, decide_false, if_false, q, Bool.false_eq_true]
theorem mayFold_cast (ms : List Nat) {x : Nat} (hx : x < 64) : ∀ (l : List Nat) (may : Nat), l.foldl (mayStep (cst ms) x) (may : Int) = ((l.foldl (mayN ms x) may : Nat) : Int)
  | [], may => rfl
  | u :: l, may => by rw [List.foldl_cons, List.foldl_cons, mayStep_cast ms hx, mayFold_cast ms hx l]
theorem mayN_bit (ms : List Nat) (x k : Nat) : ∀ (l : List Nat) (may : Nat), (l.foldl (mayN ms x) may).testBit k = (may.testBit k && l.all fun u => !decide (0 < (ms.getD u 0) &&& (63 - x)) || adj ms u k)
  | [], may => by simp
  | u :: l, may => by
    rw [List.foldl_cons, mayN_bit ms x k l, List.all_cons]
    unfold mayN
    by_cases q : 0 < (ms.getD u 0) &&& (63 - x)
    · simp only [q, if_true, Nat.testBit_and, decide_true, Bool.not_true, Bool.false_or, Bool.and_assoc]
    · simp only [q, if_false, decide_false, Bool.not_false, Bool.true_or, Bool.true_and]
theorem may_iff {ms : List Nat} (S : Sym ms) {x : Nat} {l : List Nat} (B : Bits x l) {k : Nat} (hk : k < 6) : bitB (mayOf (cst ms) x l) k = true ↔ Okk ms l k := by
  unfold mayOf
  rw [show (63 - (x : Int)) = ((63 - x : Nat) : Int) by have := B.lt; omega, mayFold_cast ms B.lt, bitB_cast, mayN_bit, Bool.and_eq_true, List.all_eq_true, sub63_bit x B.lt k hk, B.mem k hk]
  have hp : ∀ u ∈ l, (decide (0 < (ms.getD u 0) &&& (63 - x)) = true ↔ ∃ w, w < 6 ∧ w ∉ l ∧ adj ms u w = true) := fun u hu => by
    rw [and_pos _ (S.lt u (B.lt6 u hu)) _ (by omega), List.any_eq_true]
    constructor
    · rintro ⟨w, hw, h⟩
      have hw6 := List.mem_range.mp hw
      rw [Bool.and_eq_true, sub63_bit x B.lt w hw6, B.mem w hw6] at h
      exact ⟨w, hw6, by simpa using h.2, h.1⟩
    · rintro ⟨w, hw6, hn, ha⟩
      refine ⟨w, List.mem_range.mpr hw6, ?_⟩
      rw [Bool.and_eq_true, sub63_bit x B.lt w hw6, B.mem w hw6]
      exact ⟨ha, by simpa using hn⟩
  constructor
  · rintro ⟨h1, h2⟩
    refine ⟨hk, by simpa using h1, fun u hu hw => ?_⟩
    have := h2 u hu
    rw [(hp u hu).mpr hw] at this
    simpa using this
  · rintro ⟨_, h1, h2⟩
    refine ⟨by simpa using h1, fun u hu => ?_⟩
    cases q : decide (0 < (ms.getD u 0) &&& (63 - x)) with
    | false => rfl
    | true => rw [h2 u hu ((hp u hu).mp q)]; rfl
/-- soundness of the table -/
noncomputable def TabS (ms : List Nat) (f : Tab) : Prop := ∀ y l, f y = some l → ∃ x : Nat, y = (x : Int) ∧ OrdM ms x l
theorem setK_sound {ms : List Nat} (S : Sym ms) {x : Nat} {l : List Nat} (O : OrdM ms x l) {f : Tab} (h : TabS ms f) {k : Nat} (hk : k < 6) : TabS ms (setK x l (mayOf (cst ms) x l) f k) := by
  unfold setK
  split
  next q =>
    have o := (may_iff S O.bits hk).mp q
    intro y m e
    unfold setT at e
    split at e
    next r =>
      cases e
      exact ⟨x + 2 ^ k, by rw [r]; simp, .snoc O o⟩
    next => exact h y m e
  next => exact h
theorem front_sound {ms : List Nat} (S : Sym ms) {f : Tab} (h : TabS ms f) (n : Nat) : TabS ms (frontStep (cst ms) f n) := by
  unfold frontStep
  split
  next => exact h
  next l e =>
    obtain ⟨x, hx, O⟩ := h _ _ e
    have : x = n := by omega
    subst this
    exact foldl_inv (TabS ms) _ _ _ h fun f k hk hf => setK_sound S O hf (List.mem_range.mp hk)
theorem tab_sound {ms : List Nat} (S : Sym ms) (n : Nat) : TabS ms (lineTab (cst ms) n) := by
  unfold lineTab
  refine foldl_inv (TabS ms) _ _ _ (fun y l e => ?_) fun f k _ hf => front_sound S hf k
  unfold setT at e
  split at e
  next q => cases e; exact ⟨0, q, .nil⟩
  next => cases e
theorem line_sound {ms : List Nat} (S : Sym ms) {l : List Nat} (h : lineOf (cst ms) = some l) : OrdM ms 63 l := by
  obtain ⟨x, hx, O⟩ := tab_sound S 63 _ _ h
  have : x = 63 := by omega
  exact this ▸ O
theorem Bits.perm {l : List Nat} (B : Bits 63 l) : l.Perm (List.range 6) := by
  refine (List.perm_ext_iff_of_nodup B.nd List.nodup_range).mpr fun k => ⟨fun h => List.mem_range.mpr (B.lt6 k h), fun h => ?_⟩
  have h6 := List.mem_range.mp h
  have h1 := B.mem k h6
  have h2 : (63 : Nat).testBit k = true := by
    have : ∀ k, k < 6 → (63 : Nat).testBit k = true := by decide
    exact this k h6
  rw [h2] at h1
  simpa using h1.symm
theorem law_line_ {ms : List Nat} (S : Sym ms) {l : List Nat} (h : lineOf (cst ms) = some l) : l.length = 6 ∧ ∀ k ∈ l, k < 6 := by
  have B := (line_sound S h).bits
  exact ⟨by rw [B.perm.length_eq]; rfl, B.lt6⟩
/-- completeness of the table -/
theorem setK_keeps {x : Int} {front : Nat} {l : List Nat} {may : Int} {f : Tab} {k : Nat} (h : (f x).isSome = true) : (setK front l may f k x).isSome = true := by
  unfold setK
  split
  · unfold setT; split
    · rfl
    · exact h
  · exact h
theorem setKs_keeps {x : Int} {front : Nat} {l : List Nat} {may : Int} : ∀ (ks : List Nat) (f : Tab), (f x).isSome = true → ((ks.foldl (setK front l may) f) x).isSome = true
  | [], f, h => h
  | k :: ks, f, h => setKs_keeps ks _ (setK_keeps h)
theorem setKs_sets {front : Nat} {l : List Nat} {may : Int} {k : Nat} (hb : bitB may k = true) : ∀ (ks : List Nat) (f : Tab), k ∈ ks → ((ks.foldl (setK front l may) f) ((front + 2 ^ k : Nat) : Int)).isSome = true
  | [], f, h => nomatch h
  | j :: ks, f, h => by
    rw [List.foldl_cons]
    rcases List.mem_cons.mp h with rfl | h
    · refine setKs_keeps ks _ ?_
      unfold setK
      rw [if_pos hb]
      unfold setT
      rw [if_pos (by simp)]
      rfl
    · exact setKs_sets hb ks _ h
theorem front_keeps {net : List Int} {x : Int} {f : Tab} (n : Nat) (h : (f x).isSome = true) : (frontStep net f n x).isSome = true := by
  unfold frontStep
  cases e : f (n : Int) with
  | none => exact h
  | some l => exact setKs_keeps _ _ h
theorem tab_succ (net : List Int) (n : Nat) : lineTab net (n + 1) = frontStep net (lineTab net n) n := by
  unfold lineTab; rw [List.range_succ, List.foldl_append]; rfl
theorem tab_mono {net : List Int} {x : Int} {n m : Nat} (h : n ≤ m) (hx : (lineTab net n x).isSome = true) : (lineTab net m x).isSome = true := by
  induction m with
  | zero => have : n = 0 := by omega
            subst this; exact hx
  | succ m ih =>
    by_cases q : n = m + 1
    · subst q; exact hx
    · rw [tab_succ]; exact front_keeps m (ih (by omega))
theorem Okk.ext {ms : List Nat} {l l' : List Nat} {k : Nat} (h : ∀ j, j ∈ l ↔ j ∈ l') (o : Okk ms l k) : Okk ms l' k :=
  ⟨o.1, fun q => o.2.1 ((h k).mpr q), fun u hu ⟨w, h1, h2, h3⟩ => o.2.2 u ((h u).mpr hu) ⟨w, h1, fun q => h2 ((h w).mp q), h3⟩⟩
theorem line_complete {ms : List Nat} (S : Sym ms) {x : Nat} {l : List Nat} (O : OrdM ms x l) : ∀ N, x ≤ N → (lineTab (cst ms) N (x : Int)).isSome = true := by
  induction O with
  | nil =>
    intro N _
    refine tab_mono (n := 0) (Nat.zero_le _) ?_
    rfl
  | snoc O o ih =>
    rename_i x l k
    intro N hN
    have hp : 0 < 2 ^ k := Nat.pow_pos (by decide)
    refine tab_mono (n := x + 1) (by omega) ?_
    rw [tab_succ]
    have h1 := ih x (Nat.le_refl _)
    unfold frontStep
    cases e : lineTab (cst ms) x (x : Int) with
    | none => rw [e] at h1; cases h1
    | some l' =>
      obtain ⟨x', hx', O'⟩ := tab_sound S x _ _ e
      have : x' = x := by omega
      subst this
      refine setKs_sets ((may_iff S O'.bits o.1).mpr (o.ext fun j => ?_)) _ _ (List.mem_range.mpr o.1)
      constructor
      · intro hj
        have := O'.bits.mem j (O.bits.lt6 j hj)
        rw [O.bits.mem j (O.bits.lt6 j hj)] at this
        simpa [hj] using this.symm
      · intro hj
        have := O.bits.mem j (O'.bits.lt6 j hj)
        rw [O'.bits.mem j (O'.bits.lt6 j hj)] at this
        simpa [hj] using this.symm
theorem line_some {ms : List Nat} (S : Sym ms) {l : List Nat} (O : OrdM ms 63 l) : lineOf (cst ms) ≠ none := fun e => by
  have := line_complete S O 63 (Nat.le_refl _)
  unfold lineOf at e
  rw [show ((63 : Nat) : Int) = 63 from rfl, e] at this
  cases this
end

section
open PySem
theorem sub_bit : ∀ x, x < 64 → ∀ k, k < 6 → x.testBit k = true → x - 2 ^ k < 64 ∧ 2 ^ k ≤ x ∧ ∀ j, j < 6 → (x - 2 ^ k).testBit j = (x.testBit j && !decide (j = k)) := by decide +kernel
theorem and_eq : ∀ a, a < 64 → ∀ b, b < 64 → (a == a &&& b) = (List.range 6).all fun w => !a.testBit w || b.testBit w := by decide +kernel
theorem zero_of : ∀ a, a < 64 → (∀ k, k < 6 → a.testBit k = false) → a = 0 := by decide +kernel
/-- k's neighbours in left are tied to one another -/
noncomputable def simpB (ms : List Nat) (left k : Nat) : Bool := (List.range 6).all fun j => !((ms.getD k 0 &&& left).testBit j) || ((ms.getD k 0 &&& left) == (ms.getD k 0 &&& left) &&& ms.getD j 0)
noncomputable def offN (ms : List Nat) (left k : Nat) : Nat := if left.testBit k && simpB ms left k then left - 2 ^ k else left
theorem filter_empty {ms : List Nat} {near : Nat} : ((upTo 6).filter (offQ (cst ms) (near : Int))).isEmpty = (List.range 6).all fun j => !(near.testBit j) || (near == near &&& ms.getD j 0) := by
  have h : ∀ j : Nat, offQ (cst ms) (near : Int) (vI (j : Int)) = !(!(near.testBit j) || (near == near &&& ms.getD j 0)) := fun j => by
    show offBad (cst ms) near ((j : Int)).toNat = _
    unfold offBad
    rw [Int.toNat_natCast, bit_cast, nat_cst, andNot_cast]
    have : ((near : Int) - ((near &&& ms.getD j 0 : Nat) : Int) != 0) = !(near == near &&& ms.getD j 0) := by
      by_cases q : near = near &&& ms.getD j 0
      · rw [← q]; simp
      · have h1 : (near == near &&& ms.getD j 0) = false := by simpa using q
        have h2 : ((near : Int) - ((near &&& ms.getD j 0 : Nat) : Int) != 0) = true := by
          simp only [bne_iff_ne, ne_eq]
          intro e
          apply q
          omega
        rw [h1, h2]; rfl
    rw [this]
    cases near.testBit j <;> cases (near == near &&& ms.getD j 0) <;> rfl
  rw [Bool.eq_iff_iff, List.isEmpty_iff, List.filter_eq_nil_iff, List.all_eq_true]
  constructor
  · intro q j hj
    have := q (vI j) (List.mem_map.mpr ⟨j, hj, rfl⟩)
    rw [h] at this
    generalize near.testBit j = a at this ⊢
    generalize (near == near &&& ms.getD j 0) = b at this ⊢
    revert this
    cases a <;> cases b <;> simp
  · intro q u hu
    obtain ⟨j, hj, rfl⟩ := List.mem_map.mp hu
    rw [h, q j hj]
    simp
theorem offK_cast {ms : List Nat} {left k : Nat} (hl : left < 64) (hk : k < 6) : offK (cst ms) (left : Int) k = ((offN ms left k : Nat) : Int) := by
  unfold offK offN
  rw [nat_cst, and_cast, bit_cast, filter_empty]
  by_cases q : left.testBit k = true
  · obtain ⟨_, h2, _⟩ := sub_bit left hl k hk q
    rw [if_pos q, q, Bool.true_and]
    show (if simpB ms left k = true then _ else _) = _
    by_cases r : simpB ms left k = true
    · rw [if_pos r, if_pos r, Int.ofNat_sub h2]; simp
    · rw [if_neg r, if_neg r]
  · have q' : left.testBit k = false := by simpa using q
    rw [if_neg q, q', Bool.false_and]; rfl
theorem offN_lt {ms : List Nat} {left k : Nat} (hl : left < 64) : offN ms left k < 64 := by
  unfold offN; split
  · exact Nat.lt_of_le_of_lt (Nat.sub_le _ _) hl
  · exact hl
theorem offs_cast {ms : List Nat} : ∀ (ks : List Nat) (left : Nat), (∀ k ∈ ks, k < 6) → left < 64 → ks.foldl (offK (cst ms)) (left : Int) = ((ks.foldl (offN ms) left : Nat) : Int) ∧ ks.foldl (offN ms) left < 64
  | [], left, _, hl => ⟨rfl, hl⟩
  | k :: ks, left, hk, hl => by
    rw [List.foldl_cons, List.foldl_cons, offK_cast hl (hk k (.head _))]
    exact offs_cast ks _ (fun j hj => hk j (.tail _ hj)) (offN_lt hl)
noncomputable def turnN (ms : List Nat) (left : Nat) : Nat := (List.range 6).foldl (offN ms) left
theorem turn_lt {ms : List Nat} {left : Nat} (hl : left < 64) : turnN ms left < 64 := (offs_cast (ms := ms) (List.range 6) left (fun k hk => List.mem_range.mp hk) hl).2
theorem turns_cast {ms : List Nat} : ∀ (ts : List Nat) (left : Nat), left < 64 → ts.foldl (offTurn (cst ms)) (left : Int) = ((ts.foldl (fun x _ => turnN ms x) left : Nat) : Int)
  | [], left, _ => rfl
  | t :: ts, left, hl => by
    rw [List.foldl_cons, List.foldl_cons]
    have h := offs_cast (ms := ms) (List.range 6) left (fun k hk => List.mem_range.mp hk) hl
    rw [show offTurn (cst ms) (left : Int) t = ((turnN ms left : Nat) : Int) from h.1]
    exact turns_cast ts _ (turn_lt hl)
theorem takenOff_cast (ms : List Nat) : takenOff (cst ms) = ((List.range 6).foldl (fun x _ => turnN ms x) 63 == 0) := by
  unfold takenOff
  rw [show (63 : Int) = ((63 : Nat) : Int) from rfl, turns_cast _ _ (by decide)]
  rw [Bool.eq_iff_iff, beq_iff_eq, beq_iff_eq]
  omega
theorem simp_iff {ms : List Nat} (S : Sym ms) {left k : Nat} (hl : left < 64) (hk : k < 6) : simpB ms left k = true ↔ ∀ j w, j < 6 → w < 6 → adj ms k j = true → left.testBit j = true → adj ms k w = true → left.testBit w = true → adj ms j w = true := by
  unfold simpB
  rw [List.all_eq_true]
  have hn : ms.getD k 0 &&& left < 64 := Nat.lt_of_le_of_lt Nat.and_le_right hl
  constructor
  · intro h j w hj hw a1 a2 b1 b2
    have := h j (List.mem_range.mpr hj)
    rw [and_eq _ hn _ (S.lt j hj), Nat.testBit_and, show (ms.getD k 0).testBit j = true from a1, a2] at this
    rw [show (!(true && true)) = false from rfl, Bool.false_or] at this
    have h2 := List.all_eq_true.mp this w (List.mem_range.mpr hw)
    rw [Nat.testBit_and, show (ms.getD k 0).testBit w = true from b1, b2, show (!(true && true)) = false from rfl, Bool.false_or] at h2
    exact h2
  · intro h j hj
    have hj6 := List.mem_range.mp hj
    rw [and_eq _ hn _ (S.lt j hj6), Nat.testBit_and]
    cases a1 : (ms.getD k 0).testBit j with
    | false => rfl
    | true =>
      cases a2 : left.testBit j with
      | false => rfl
      | true =>
        rw [show (!(true && true)) = false from rfl, Bool.false_or, List.all_eq_true]
        intro w hw
        rw [Nat.testBit_and]
        cases b1 : (ms.getD k 0).testBit w with
        | false => rfl
        | true =>
          cases b2 : left.testBit w with
          | false => rfl
          | true =>
            rw [show (!(true && true)) = false from rfl, Bool.false_or]
            exact h j w hj6 (List.mem_range.mp hw) a1 a2 b1 b2
theorem offN_bit {ms : List Nat} {left k : Nat} (hl : left < 64) (hk : k < 6) {j : Nat} (hj : j < 6) : (offN ms left k).testBit j = true → left.testBit j = true := by
  unfold offN
  split
  next q =>
    rw [(sub_bit left hl k hk (Bool.and_eq_true _ _ ▸ q).1).2.2 j hj, Bool.and_eq_true]
    exact fun h => h.1
  next => exact id
theorem offs_bit {ms : List Nat} {j : Nat} (hj : j < 6) : ∀ (ks : List Nat) (left : Nat), (∀ k ∈ ks, k < 6) → left < 64 → (ks.foldl (offN ms) left).testBit j = true → left.testBit j = true
  | [], _, _, _, h => h
  | k :: ks, left, hk, hl, h => offN_bit hl (hk k (.head _)) hj (offs_bit hj ks _ (fun i hi => hk i (.tail _ hi)) (offN_lt hl) h)
/-- an order tells each later one -/
theorem OrdM.split {ms : List Nat} {x : Nat} {l : List Nat} (O : OrdM ms x l) : ∀ q k r, l = q ++ k :: r → Okk ms q k := by
  induction O with
  | nil => intro q k r e; simp at e
  | snoc O o ih =>
    rename_i x l k'
    intro q k r e
    rcases List.eq_nil_or_concat r with rfl | ⟨r', y, rfl⟩
    · have := List.append_inj' e rfl
      obtain ⟨rfl, e2⟩ := this
      cases e2
      exact o
    · have e' : l ++ [k'] = (q ++ k :: r') ++ [y] := by rw [e]; simp
      have := List.append_inj' e' rfl
      exact ih q k r' this.1
theorem apart {α : Type} [DecidableEq α] : ∀ {p : List α} {j w : α}, j ∈ p → w ∈ p → j ≠ w → (∃ q r, p = q ++ w :: r ∧ j ∈ q) ∨ (∃ q r, p = q ++ j :: r ∧ w ∈ q)
  | a :: p, j, w, hj, hw, hne => by
    by_cases q1 : a = j
    · subst q1
      rcases List.mem_cons.mp hw with rfl | hw
      · exact (hne rfl).elim
      · obtain ⟨q, r, rfl⟩ := List.append_of_mem hw
        exact .inl ⟨a :: q, r, rfl, .head _⟩
    · by_cases q2 : a = w
      · subst q2
        rcases List.mem_cons.mp hj with rfl | hj
        · exact (hne rfl).elim
        · obtain ⟨q, r, rfl⟩ := List.append_of_mem hj
          exact .inr ⟨a :: q, r, rfl, .head _⟩
      · rcases apart ((List.mem_cons.mp hj).resolve_left fun e => q1 e.symm) ((List.mem_cons.mp hw).resolve_left fun e => q2 e.symm) hne with ⟨q, r, rfl, h⟩ | ⟨q, r, rfl, h⟩
        · exact .inl ⟨a :: q, r, rfl, .tail _ h⟩
        · exact .inr ⟨a :: q, r, rfl, .tail _ h⟩
/-- the last one's neighbours are tied to one another -/
theorem last_simp {ms : List Nat} (S : Sym ms) {x : Nat} {p : List Nat} {v : Nat} (O : OrdM ms x (p ++ [v])) {j w : Nat} (hj : j ∈ p ++ [v]) (hw : w ∈ p ++ [v]) (a : adj ms v j = true) (b : adj ms v w = true) : adj ms j w = true := by
  have B := O.bits
  have hv : v < 6 := B.lt6 v (by simp)
  have hj6 := B.lt6 j hj
  have hw6 := B.lt6 w hw
  have nd := B.nd
  have hvp : v ∉ p := fun h => by
    rw [List.nodup_append] at nd
    exact nd.2.2 v h v (by simp) rfl
  by_cases q0 : j = w
  · subst q0; exact S.refl j hj6
  by_cases q1 : j = v
  · subst q1; exact b
  by_cases q2 : w = v
  · subst q2; rw [S.sym j w hj6 hw6]; exact a
  have hjp : j ∈ p := by simpa [q1] using hj
  have hwp : w ∈ p := by simpa [q2] using hw
  rcases apart hjp hwp q0 with ⟨q, r, e, h⟩ | ⟨q, r, e, h⟩
  · have := O.split q w (r ++ [v]) (by rw [e]; simp)
    exact this.2.2 j h ⟨v, hv, fun h => hvp (by rw [e]; exact List.mem_append_left _ h), by rw [S.sym j v hj6 hv]; exact a⟩
  · have := O.split q j (r ++ [v]) (by rw [e]; simp)
    rw [S.sym j w hj6 hw6]
    exact this.2.2 w h ⟨v, hv, fun h => hvp (by rw [e]; exact List.mem_append_left _ h), by rw [S.sym w v hw6 hv]; exact b⟩
theorem offs_out {ms : List Nat} (S : Sym ms) {x : Nat} {p : List Nat} {v : Nat} (O : OrdM ms x (p ++ [v])) : ∀ (ks : List Nat) (left : Nat), (∀ k ∈ ks, k < 6) → left < 64 → (∀ k, k < 6 → left.testBit k = true → k ∈ p ++ [v]) → v ∈ ks → (ks.foldl (offN ms) left).testBit v = false
  | [], _, _, _, _, h => nomatch h
  | k :: ks, left, hk, hl, hs, hv => by
    have hv6 : v < 6 := O.bits.lt6 v (by simp)
    have hk6 := hk k (.head _)
    rw [List.foldl_cons]
    by_cases q : v ∈ ks
    · exact offs_out S O ks _ (fun j hj => hk j (.tail _ hj)) (offN_lt hl) (fun j hj h => hs j hj (offN_bit hl hk6 hj h)) q
    · have e : v = k := (List.mem_cons.mp hv).resolve_right q
      subst e
      cases h : (ks.foldl (offN ms) (offN ms left v)).testBit v with
      | false => rfl
      | true =>
        have h1 := offs_bit hv6 ks _ (fun j hj => hk j (.tail _ hj)) (offN_lt hl) h
        have h2 := offN_bit hl hk6 hv6 h1
        have h3 : simpB ms left v = true := (simp_iff S hl hv6).mpr fun j w hj hw a1 a2 b1 b2 => last_simp S O (hs j hj a2) (hs w hw b2) a1 b1
        unfold offN at h1
        rw [h2, h3] at h1
        have := (sub_bit left hl v hv6 h2).2.2 v hv6
        simp only [Bool.and_self, if_true] at h1
        rw [this] at h1
        simp at h1
theorem turns_zero {ms : List Nat} (S : Sym ms) : ∀ (n : Nat) (p : List Nat) (x left : Nat), p.length = n → OrdM ms x p → left < 64 → (∀ k, k < 6 → left.testBit k = true → k ∈ p) → ∀ ts : List Nat, ts.length = n → ts.foldl (fun x _ => turnN ms x) left = 0
  | 0, p, x, left, hn, O, hl, hs, ts, ht => by
    rw [List.length_eq_zero_iff.mp ht]
    rw [List.length_eq_zero_iff.mp hn] at hs
    refine zero_of left hl fun k hk => ?_
    cases h : left.testBit k with
    | false => rfl
    | true => exact (List.not_mem_nil (hs k hk h)).elim
  | n + 1, p, x, left, hn, O, hl, hs, ts, ht => by
    cases ts with
    | nil => simp at ht
    | cons t ts =>
      rw [List.foldl_cons]
      cases O with
      | nil => simp at hn
      | snoc O' o =>
        rename_i x l k
        refine turns_zero S n l _ (turnN ms left) (by simpa using hn) O' (turn_lt hl) (fun j hj h => ?_) ts (by simpa using ht)
        have h1 := offs_bit hj (List.range 6) left (fun k hk => List.mem_range.mp hk) hl h
        have h2 := hs j hj h1
        rcases List.mem_append.mp h2 with h2 | h2
        · exact h2
        · exfalso
          have e := List.mem_singleton.mp h2
          subst e
          have := offs_out S (.snoc O' o) (List.range 6) left (fun k hk => List.mem_range.mp hk) hl hs (List.mem_range.mpr hj)
          unfold turnN at h
          rw [this] at h
          cases h
theorem off_true {ms : List Nat} (S : Sym ms) {l : List Nat} (O : OrdM ms 63 l) : takenOff (cst ms) = true := by
  rw [takenOff_cast]
  have B := O.bits
  have := turns_zero S 6 l 63 63 (by rw [B.perm.length_eq]; rfl) O (by decide) (fun k hk h => by rw [B.mem k hk] at h; simpa using h) (List.range 6) rfl
  rw [this]; rfl
/-- a set of vertices of which none comes off first -/
theorem offs_stay {ms : List Nat} (S : Sym ms) {cs : List Nat} (h6 : ∀ v ∈ cs, v < 6) (hc : ∀ v ∈ cs, ∃ j ∈ cs, ∃ w ∈ cs, adj ms v j = true ∧ adj ms v w = true ∧ adj ms j w = false) :
    ∀ (ks : List Nat) (left : Nat), (∀ k ∈ ks, k < 6) → left < 64 → (∀ v ∈ cs, left.testBit v = true) → ∀ v ∈ cs, (ks.foldl (offN ms) left).testBit v = true
  | [], _, _, _, h => h
  | k :: ks, left, hk, hl, h => by
    rw [List.foldl_cons]
    refine offs_stay S h6 hc ks _ (fun j hj => hk j (.tail _ hj)) (offN_lt hl) fun v hv => ?_
    have hk6 := hk k (.head _)
    unfold offN
    split
    next q =>
      rw [Bool.and_eq_true] at q
      rw [(sub_bit left hl k hk6 q.1).2.2 v (h6 v hv), h v hv, Bool.true_and]
      by_cases e : v = k
      · subst e
        obtain ⟨j, hj, w, hw, a, b, d⟩ := hc v hv
        have := (simp_iff S hl hk6).mp q.2 j w (h6 j hj) (h6 w hw) a (h j hj) b (h w hw)
        rw [d] at this; cases this
      · simp [e]
    next => exact h v hv
theorem off_false {ms : List Nat} (S : Sym ms) {cs : List Nat} (hne : cs ≠ []) (h6 : ∀ v ∈ cs, v < 6) (hc : ∀ v ∈ cs, ∃ j ∈ cs, ∃ w ∈ cs, adj ms v j = true ∧ adj ms v w = true ∧ adj ms j w = false) : takenOff (cst ms) = false := by
  rw [takenOff_cast]
  have : ∀ (ts : List Nat) (left : Nat), left < 64 → (∀ v ∈ cs, left.testBit v = true) → ∀ v ∈ cs, (ts.foldl (fun x _ => turnN ms x) left).testBit v = true := by
    intro ts
    induction ts with
    | nil => intro left _ h; exact h
    | cons t ts ih =>
      intro left hl h
      rw [List.foldl_cons]
      exact ih _ (turn_lt hl) (offs_stay S h6 hc (List.range 6) left (fun k hk => List.mem_range.mp hk) hl h)
  obtain ⟨v, hv⟩ := List.exists_mem_of_ne_nil cs hne
  have h63 : ∀ k, k < 6 → (63 : Nat).testBit k = true := by decide
  have h1 := this (List.range 6) 63 (by decide) (fun u hu => h63 u (h6 u hu)) v hv
  cases e : ((List.range 6).foldl (fun x _ => turnN ms x) 63 == 0) with
  | false => rfl
  | true => rw [eq_of_beq e] at h1; simp at h1
end

section
open PySem
theorem and_pos' {a b : Nat} (ha : a < 64) (hb : b < 64) (h : ¬ (a &&& b = 0)) : ∃ w, w < 6 ∧ a.testBit w = true ∧ b.testBit w = true := by
  have h1 := and_pos a ha b hb
  have h2 : decide (0 < a &&& b) = true := by simp; omega
  rw [h2] at h1
  obtain ⟨w, hw, h3⟩ := List.any_eq_true.mp h1.symm
  rw [Bool.and_eq_true] at h3
  exact ⟨w, List.mem_range.mp hw, h3⟩
/-- a mask whose bits all lie in one list -/
noncomputable def InL (q : List Nat) (x : Int) : Prop := ∃ n : Nat, x = (n : Int) ∧ n < 64 ∧ ∀ k, k < 6 → n.testBit k = true → k ∈ q
noncomputable def Side (q r : List Nat) (x : Int) : Prop := InL q x ∨ InL r x
theorem InL.or {q : List Nat} {x y : Int} (h : InL q x) (h' : InL q y) : InL q (Builtin.bitOr x y) := by
  obtain ⟨n, rfl, h1, h2⟩ := h
  obtain ⟨m, rfl, h3, h4⟩ := h'
  refine ⟨n ||| m, or_cast n m, Nat.or_lt_two_pow (n := 6) h1 h3, fun k hk h => ?_⟩
  rw [Nat.testBit_or, Bool.or_eq_true] at h
  rcases h with h | h
  · exact h2 k hk h
  · exact h4 k hk h
theorem InL.apart {q r : List Nat} (hd : ∀ k ∈ q, k ∉ r) {x y : Int} (h : InL q x) (h' : InL r y) : Builtin.bitAnd x y = 0 := by
  obtain ⟨n, rfl, h1, h2⟩ := h
  obtain ⟨m, rfl, h3, h4⟩ := h'
  rw [and_cast]
  by_cases e : n &&& m = 0
  · rw [e]; rfl
  · obtain ⟨w, hw, a, b⟩ := and_pos' h1 h3 e
    exact (hd w (h2 w hw a) (h4 w hw b)).elim
theorem join_in {q r : List Nat} {ps : List Int} {p : Int} (hs : ∀ x ∈ ps, Side q r x) (hx : ∀ x ∈ ps, InL r x → Builtin.bitAnd x p = 0) : ∀ (xs : List Int) (y : Int), (∀ x ∈ xs, x ∈ ps) → InL q y → InL q (xs.foldl (joinP (apartOf ps p)) y)
  | [], y, _, h => h
  | x :: xs, y, hm, h => by
    rw [List.foldl_cons]
    refine join_in hs hx xs _ (fun z hz => hm z (.tail _ hz)) ?_
    unfold joinP
    split
    next g =>
      have hxp := hm x (.head _)
      rcases hs x hxp with s | s
      · exact h.or s
      · exfalso
        have h0 := hx x hxp s
        have : x ∈ apartOf ps p := List.mem_filter.mpr ⟨hxp, by rw [h0]; rfl⟩
        have h1 : (apartOf ps p).any (· == x) = true := List.any_eq_true.mpr ⟨x, this, by simp⟩
        rw [h1] at g; cases g
    next => exact h
theorem piece_step {ms : List Nat} (S : Sym ms) {l q r : List Nat} {m : Nat} (O : OrdM ms 63 l) (el : l = q ++ m :: r) {ps : List Int} (hs : ∀ x ∈ ps, Side q r x) {k : Nat} (hk : k < 6) : ∀ x ∈ pieceStep (cst ms) m ps k, Side q r x := by
  have B := O.bits
  have hm6 : m < 6 := B.lt6 m (by rw [el]; simp)
  have ok := O.split q m r el
  have nd := B.nd
  rw [el, List.nodup_append] at nd
  have hd : ∀ j ∈ q, j ∉ r := fun j hj hr => nd.2.2 j hj j (.tail _ hr) rfl
  have hin : ∀ j, j < 6 → j ≠ m → j ∈ q ∨ j ∈ r := fun j hj hne => by
    have : j ∈ l := B.perm.mem_iff.mpr (List.mem_range.mpr hj)
    rw [el] at this
    rcases List.mem_append.mp this with h | h
    · exact .inl h
    · exact .inr ((List.mem_cons.mp h).resolve_left hne)
  unfold pieceStep
  split
  next g =>
    have hkm : adj ms m k = false := by
      rw [nat_cst, bit_cast] at g
      exact (Bool.not_eq_true' _).mp g
    have hkne : k ≠ m := fun e => by subst e; rw [S.refl k hk] at hkm; cases hkm
    rw [nat_cst, nat_cst, show (63 - ((ms.getD m 0 : Nat) : Int)) = ((63 - ms.getD m 0 : Nat) : Int) by have := S.lt m hm6; omega, and_cast]
    have hb : ∀ w, w < 6 → (ms.getD k 0 &&& (63 - ms.getD m 0)).testBit w = true → adj ms k w = true ∧ adj ms m w = false := fun w hw h => by
      rw [Nat.testBit_and, Bool.and_eq_true, sub63_bit _ (S.lt m hm6) w hw] at h
      exact ⟨h.1, (Bool.not_eq_true' _).mp h.2⟩
    have h64 : ms.getD k 0 &&& (63 - ms.getD m 0) < 64 := Nat.lt_of_le_of_lt Nat.and_le_left (S.lt k hk)
    have side : (InL q ((ms.getD k 0 &&& (63 - ms.getD m 0) : Nat) : Int) ∨ InL r ((ms.getD k 0 &&& (63 - ms.getD m 0) : Nat) : Int)) := by
      rcases hin k hk hkne with hq | hr
      · refine .inl ⟨_, rfl, h64, fun w hw h => ?_⟩
        obtain ⟨a, b⟩ := hb w hw h
        have hwne : w ≠ m := fun e => by subst e; rw [S.refl w hw] at b; cases b
        rcases hin w hw hwne with h' | h'
        · exact h'
        · have := ok.2.2 k hq ⟨w, hw, fun hq' => hd w hq' h', a⟩
          rw [S.sym k m hk hm6, hkm] at this; cases this
      · refine .inr ⟨_, rfl, h64, fun w hw h => ?_⟩
        obtain ⟨a, b⟩ := hb w hw h
        have hwne : w ≠ m := fun e => by subst e; rw [S.refl w hw] at b; cases b
        rcases hin w hw hwne with h' | h'
        · have := ok.2.2 w h' ⟨k, hk, fun hq' => hd k hq' hr, by rw [S.sym w k hw hk]; exact a⟩
          rw [S.sym w m hw hm6, b] at this; cases this
        · exact h'
    intro x hx
    rcases List.mem_append.mp hx with hx | hx
    · exact hs x (List.mem_filter.mp hx).1
    · rw [List.mem_singleton.mp hx]
      rcases side with s | s
      · exact .inl (join_in hs (fun x _ hx => by
          have := InL.apart hd s hx
          obtain ⟨n, rfl, _⟩ := hx
          rw [and_cast] at this ⊢
          rw [Nat.and_comm]; exact this) ps _ (fun _ h => h) s)
      · exact .inr (join_in (fun x hx => (hs x hx).symm) (fun x _ hx => InL.apart hd hx s) ps _ (fun _ h => h) s)
  next => exact hs
theorem pieces_side {ms : List Nat} (S : Sym ms) {l q r : List Nat} {m : Nat} (O : OrdM ms 63 l) (el : l = q ++ m :: r) : ∀ x ∈ piecesWithout (cst ms) m, Side q r x := by
  unfold piecesWithout
  exact foldl_inv (fun ps => ∀ x ∈ ps, Side q r x) _ _ _ (fun _ h => nomatch h) fun ps k hk h => piece_step S O el h (List.mem_range.mp hk)
theorem hit_cast (j k n : Nat) : hitV j k (vI (n : Int)) = (n.testBit j && n.testBit k) := by
  show (Builtin.bitAnd (Builtin.bitAnd ((n : Int).fdiv (2 ^ j)) ((n : Int).fdiv (2 ^ k))) 1 != 0) = _
  have e : ∀ k, (n : Int).fdiv (2 ^ k) = ((n >>> k : Nat) : Int) := fun k => by
    rw [Int.fdiv_eq_ediv_of_nonneg _ (Int.le_of_lt (Int.pow_pos (by decide))), Nat.shiftRight_eq_div_pow]
    simp
  rw [e, e, and_cast, show (1 : Int) = ((1 : Nat) : Int) from rfl, and_cast]
  have h : ∀ a b : Nat, ((((a &&& b) &&& 1 : Nat) : Int) != 0) = (a.testBit 0 && b.testBit 0) := fun a b => by
    rw [← Nat.testBit_and, Nat.testBit_zero]
    have h1 : (a &&& b) &&& 1 = (a &&& b) % 2 := Nat.and_one_is_mod _
    rw [h1]
    rcases Nat.mod_two_eq_zero_or_one (a &&& b) with e | e <;> rw [e] <;> rfl
  rw [h, Nat.testBit_shiftRight, Nat.testBit_shiftRight]
  rfl
theorem joined_false {q r : List Nat} (hd : ∀ k ∈ q, k ∉ r) {ps : List Int} (hs : ∀ x ∈ ps, Side q r x) {j k : Nat} (hj : j < 6) (hk : k < 6) (h : (j ∈ q ∧ k ∈ r) ∨ (j ∈ r ∧ k ∈ q)) : joined ps j k = false := by
  unfold joined
  rw [Bool.not_eq_false', List.isEmpty_iff, List.filter_eq_nil_iff]
  intro u hu
  obtain ⟨x, hx, rfl⟩ := List.mem_map.mp hu
  have : ∀ n : Nat, x = (n : Int) → (n.testBit j = true → n.testBit k = true → False) → ¬ hitV j k (vI x) = true := fun n e h => by
    subst e
    rw [hit_cast, Bool.and_eq_true]
    exact fun ⟨a, b⟩ => h a b
  rcases hs x hx with ⟨n, e, _, hb⟩ | ⟨n, e, _, hb⟩
  · refine this n e fun a b => ?_
    rcases h with ⟨h1, h2⟩ | ⟨h1, h2⟩
    · exact hd k (hb k hk b) h2
    · exact hd j (hb j hj a) h1
  · refine this n e fun a b => ?_
    rcases h with ⟨h1, h2⟩ | ⟨h1, h2⟩
    · exact hd j h1 (hb j hj a)
    · exact hd k h2 (hb k hk b)
theorem mid_false {ms : List Nat} (S : Sym ms) {l q r : List Nat} {m : Nat} (O : OrdM ms 63 l) (el : l = q ++ m :: r) {j k : Nat} (h : (j ∈ q ∧ k ∈ r) ∨ (j ∈ r ∧ k ∈ q)) : joined (piecesWithout (cst ms) m) j k = false := by
  have B := O.bits
  have nd := B.nd
  rw [el, List.nodup_append] at nd
  have hd : ∀ j ∈ q, j ∉ r := fun j hj hr => nd.2.2 j hj j (.tail _ hr) rfl
  have h6 : ∀ i, i ∈ q ∨ i ∈ r → i < 6 := fun i hi => B.lt6 i (by rw [el]; rcases hi with h | h <;> simp [h])
  refine joined_false hd (pieces_side S O el) ?_ ?_ h
  · rcases h with h | h
    · exact h6 j (.inl h.1)
    · exact h6 j (.inr h.1)
  · rcases h with h | h
    · exact h6 k (.inr h.2)
    · exact h6 k (.inl h.2)
theorem at_idx {l : List Nat} {m : Nat} (hm : m ∈ l) : l = l.take (l.idxOf m) ++ m :: l.drop (l.idxOf m + 1) := by
  have hlt := List.idxOf_lt_length_of_mem hm
  have h1 := List.take_append_drop (l.idxOf m) l
  rw [List.drop_eq_getElem_cons hlt, List.getElem_idxOf] at h1
  exact h1.symm
theorem in_take {l : List Nat} {x m : Nat} (hx : x ∈ l) (h : l.idxOf x < l.idxOf m) : x ∈ l.take (l.idxOf m) := by
  have hlt := List.idxOf_lt_length_of_mem hx
  have : (l.take (l.idxOf m))[l.idxOf x]? = some x := by
    rw [List.getElem?_take, if_pos h, List.getElem?_eq_getElem hlt, List.getElem_idxOf]
  exact List.mem_of_getElem? this
theorem in_drop {l : List Nat} {x m : Nat} (hx : x ∈ l) (h : l.idxOf m < l.idxOf x) : x ∈ l.drop (l.idxOf m + 1) := by
  have hlt := List.idxOf_lt_length_of_mem hx
  have : (l.drop (l.idxOf m + 1))[l.idxOf x - (l.idxOf m + 1)]? = some x := by
    rw [List.getElem?_drop, show l.idxOf m + 1 + (l.idxOf x - (l.idxOf m + 1)) = l.idxOf x by omega, List.getElem?_eq_getElem hlt, List.getElem_idxOf]
  exact List.mem_of_getElem? this
theorem idx_ne {l : List Nat} {x y : Nat} (hx : x ∈ l) (hy : y ∈ l) (h : x ≠ y) : l.idxOf x ≠ l.idxOf y := fun e => h (by
  have h1 := List.getElem_idxOf (List.idxOf_lt_length_of_mem hx)
  have h2 := List.getElem_idxOf (List.idxOf_lt_length_of_mem hy)
  rw [← h1, ← h2]
  congr 1)
theorem triple_false {ms : List Nat} (S : Sym ms) {l : List Nat} (O : OrdM ms 63 l) {a b c : Nat} (ha : a < 6) (hb : b < a) (hc : c < b) : tripleOk (cst ms) a b c = false := by
  have B := O.bits
  have hml : ∀ k, k < 6 → k ∈ l := fun k hk => B.perm.mem_iff.mpr (List.mem_range.mpr hk)
  have mid : ∀ m j k, m < 6 → j < 6 → k < 6 → ((l.idxOf j < l.idxOf m ∧ l.idxOf m < l.idxOf k) ∨ (l.idxOf k < l.idxOf m ∧ l.idxOf m < l.idxOf j)) → joined (piecesWithout (cst ms) m) j k = false := fun m j k hm hj hk h => by
    refine mid_false S O (at_idx (hml m hm)) ?_
    rcases h with ⟨h1, h2⟩ | ⟨h1, h2⟩
    · exact .inl ⟨in_take (hml j hj) h1, in_drop (hml k hk) h2⟩
    · exact .inr ⟨in_drop (hml j hj) h2, in_take (hml k hk) h1⟩
  have e1 := idx_ne (hml a ha) (hml b (by omega)) (by omega)
  have e2 := idx_ne (hml a ha) (hml c (by omega)) (by omega)
  have e3 := idx_ne (hml b (by omega)) (hml c (by omega)) (by omega)
  unfold tripleOk
  by_cases q1 : (l.idxOf b < l.idxOf a ∧ l.idxOf a < l.idxOf c) ∨ (l.idxOf c < l.idxOf a ∧ l.idxOf a < l.idxOf b)
  · rw [mid a b c ha (by omega) (by omega) q1]; rfl
  by_cases q2 : (l.idxOf a < l.idxOf b ∧ l.idxOf b < l.idxOf c) ∨ (l.idxOf c < l.idxOf b ∧ l.idxOf b < l.idxOf a)
  · rw [mid b a c (by omega) ha (by omega) q2]; simp
  · rw [mid c a b (by omega) ha (by omega) (by omega)]; simp
theorem threes_nil {ms : List Nat} (S : Sym ms) {l : List Nat} (O : OrdM ms 63 l) : threes (cst ms) = [] := by
  unfold threes
  refine foldl_inv (fun acc => acc = []) _ _ _ rfl fun acc a ha h => ?_
  unfold threesA
  refine foldl_inv (fun acc => acc = []) _ _ _ h fun acc b hb h => ?_
  unfold threesB
  refine foldl_inv (fun acc => acc = []) _ _ _ h fun acc c hc h => ?_
  unfold threesC
  rw [triple_false S O (List.mem_range.mp ha) (List.mem_range.mp hb) (List.mem_range.mp hc)]
  exact h
/-- one asteroidal triple is enough -/
theorem foldl_keep {α β : Type} (P : α → Prop) (f : α → β → α) (hf : ∀ a b, P a → P (f a b)) : ∀ (l : List β) (a : α), P a → P (l.foldl f a)
  | [], _, h => h
  | b :: l, a, h => foldl_keep P f hf l _ (hf a b h)
theorem foldl_hit {α β : Type} (P : α → Prop) (f : α → β → α) (hf : ∀ a b, P a → P (f a b)) {b : β} (hb : ∀ a, P (f a b)) : ∀ (l : List β) (a : α), b ∈ l → P (l.foldl f a)
  | [], _, h => nomatch h
  | x :: l, a, h => by
    rw [List.foldl_cons]
    rcases List.mem_cons.mp h with rfl | h
    · exact foldl_keep P f hf l _ (hb a)
    · exact foldl_hit P f hf hb l _ h
theorem threes_some {net : List Int} {a b c : Nat} (ha : a < 6) (hb : b < a) (hc : c < b) (h : tripleOk net a b c = true) : (threes net).isEmpty = false := by
  have kC : ∀ a b, ∀ (acc : List V) c, acc.isEmpty = false → (threesC net a b acc c).isEmpty = false := fun a b acc c h => by
    unfold threesC; split
    · cases acc <;> simp at h ⊢
    · exact h
  have kB : ∀ a, ∀ (acc : List V) b, acc.isEmpty = false → (threesB net a acc b).isEmpty = false := fun a acc b h => foldl_keep _ _ (kC a b) _ _ h
  have kA : ∀ (acc : List V) a, acc.isEmpty = false → (threesA net acc a).isEmpty = false := fun acc a h => foldl_keep _ _ (kB a) _ _ h
  unfold threes
  refine foldl_hit (fun acc : List V => acc.isEmpty = false) _ kA (b := a) (fun acc => ?_) _ _ (List.mem_range.mpr ha)
  unfold threesA
  refine foldl_hit (fun acc : List V => acc.isEmpty = false) _ (kB a) (b := b) (fun acc => ?_) _ _ (List.mem_range.mpr hb)
  unfold threesB
  refine foldl_hit (fun acc : List V => acc.isEmpty = false) _ (kC a b) (b := c) (fun acc => ?_) _ _ (List.mem_range.mpr hc)
  unfold threesC
  rw [h]
  simp
end

section
open PySem
noncomputable def rdU (st : Nat × (List Int × List Int)) (u : List Nat) : Nat × (List Int × List Int) := (st.1 + u.length, rdStep st.2 (st.1 + u.length - 1, u))
theorem items_fold : ∀ (us : List (List Nat)) (i : Nat) (be : List Int × List Int), (items i us).foldl rdStep be = (us.foldl rdU (i, be)).2
  | [], i, be => rfl
  | u :: us, i, be => by
    rw [items, List.foldl_cons, List.foldl_cons, items_fold us]
    rfl
noncomputable def runU (us : List (List Nat)) : Nat × (List Int × List Int) := us.foldl rdU (0, (List.replicate 6 0, List.replicate 6 0))
theorem runU_snoc (us : List (List Nat)) (u : List Nat) : runU (us ++ [u]) = rdU (runU us) u := by unfold runU; rw [List.foldl_append]; rfl
theorem readBE_run (us : List (List Nat)) : readBE (items 0 us) = (runU us).2 := items_fold us 0 _
theorem nat_set {l : List Int} {k u : Nat} {x : Int} (hk : k < l.length) : nat (l.set k x) u = if u = k then x else nat l u := by
  unfold nat
  rw [List.getD_eq_getElem?_getD, List.getD_eq_getElem?_getD, List.getElem?_set]
  by_cases q : k = u
  · subst q; simp [hk]
  · have : ¬ u = k := fun e => q e.symm
    simp [q, this]
/-- what has been read so far, m laid, D ended -/
structure Rd (l : List Nat) (us : List (List Nat)) (m : Nat) (D : Nat → Nat → Prop) : Prop where
  lb : (runU us).2.1.length = 6
  le : (runU us).2.2.length = 6
  b : ∀ j, j < 6 → l.idxOf j < m → nat (runU us).2.1 j < ((runU us).1 : Int)
  e : ∀ k s, D k s → nat (runU us).2.2 k < ((runU us).1 : Int) ∧ ∀ j, j < 6 → l.idxOf j < m → (nat (runU us).2.1 j ≤ nat (runU us).2.2 k ↔ l.idxOf j ≤ s)
theorem Rd.head {l : List Nat} {us : List (List Nat)} {i v : Nat} {D : Nat → Nat → Prop} (R : Rd l us i D) (hv : v < 6) (hi : l.idxOf v = i) (hinj : ∀ j, j < 6 → l.idxOf j = i → j = v) (hD : ∀ k s, D k s → s < i) : Rd l (us ++ [[97 + v]]) (i + 1) D := by
  have e1 : runU (us ++ [[97 + v]]) = ((runU us).1 + 1, ((runU us).2.1.set v ((runU us).1 : Int), (runU us).2.2)) := by
    rw [runU_snoc]
    unfold rdU rdStep
    simp
  have hlb := R.lb
  have hv' : v < (runU us).2.1.length := by rw [hlb]; exact hv
  have hb : ∀ j, nat ((runU us).2.1.set v ((runU us).1 : Int)) j = if j = v then ((runU us).1 : Int) else nat (runU us).2.1 j := fun j => nat_set hv'
  refine ⟨by rw [e1]; simp [hlb], by rw [e1]; exact R.le, fun j hj hlt => ?_, fun k s d => ?_⟩
  · rw [e1]
    show nat ((runU us).2.1.set v ((runU us).1 : Int)) j < (((runU us).1 + 1 : Nat) : Int)
    rw [hb]
    split
    · omega
    next q =>
      have : l.idxOf j < i := by
        by_cases z : l.idxOf j = i
        · exact (q (hinj j hj z)).elim
        · omega
      have := R.b j hj this
      omega
  · obtain ⟨h1, h2⟩ := R.e k s d
    have hs := hD k s d
    rw [e1]
    refine ⟨by show nat (runU us).2.2 k < (((runU us).1 + 1 : Nat) : Int); omega, fun j hj hlt => ?_⟩
    show nat ((runU us).2.1.set v ((runU us).1 : Int)) j ≤ nat (runU us).2.2 k ↔ _
    rw [hb]
    split
    next q => subst q; constructor <;> intro h <;> omega
    next q =>
      refine h2 j hj ?_
      by_cases z : l.idxOf j = i
      · exact (q (hinj j hj z)).elim
      · omega
theorem Rd.tail {l : List Nat} {us : List (List Nat)} {i k : Nat} {D : Nat → Nat → Prop} (R : Rd l us (i + 1) D) (hk : k < 6) (hD : ∀ s, ¬ D k s) : Rd l (us ++ [[92, 97 + k]]) (i + 1) (fun k' s => D k' s ∨ (k' = k ∧ s = i)) := by
  have e1 : runU (us ++ [[92, 97 + k]]) = ((runU us).1 + 2, ((runU us).2.1, (runU us).2.2.set k (((runU us).1 + 1 : Nat) : Int))) := by
    rw [runU_snoc]
    unfold rdU rdStep
    simp
  have hk' : k < (runU us).2.2.length := by rw [R.le]; exact hk
  have he : ∀ j, nat ((runU us).2.2.set k (((runU us).1 + 1 : Nat) : Int)) j = if j = k then (((runU us).1 + 1 : Nat) : Int) else nat (runU us).2.2 j := fun j => nat_set hk'
  refine ⟨by rw [e1]; exact R.lb, by rw [e1]; simp [R.le], fun j hj hlt => ?_, fun k' s d => ?_⟩
  · rw [e1]
    have := R.b j hj hlt
    show nat (runU us).2.1 j < (((runU us).1 + 2 : Nat) : Int)
    omega
  · rw [e1]
    show nat ((runU us).2.2.set k (((runU us).1 + 1 : Nat) : Int)) k' < (((runU us).1 + 2 : Nat) : Int) ∧ ∀ j, j < 6 → l.idxOf j < i + 1 → (nat (runU us).2.1 j ≤ nat ((runU us).2.2.set k (((runU us).1 + 1 : Nat) : Int)) k' ↔ l.idxOf j ≤ s)
    rw [he]
    rcases d with d | ⟨rfl, rfl⟩
    · have hne : k' ≠ k := fun q => hD s (q ▸ d)
      rw [if_neg hne]
      obtain ⟨h1, h2⟩ := R.e k' s d
      exact ⟨by omega, h2⟩
    · rw [if_pos rfl]
      refine ⟨by omega, fun j hj hlt => ?_⟩
      have := R.b j hj hlt
      constructor <;> intro _ <;> omega
theorem Rd.mono {l : List Nat} {us : List (List Nat)} {m : Nat} {D D' : Nat → Nat → Prop} (R : Rd l us m D) (h : ∀ k s, D' k s → D k s) : Rd l us m D' := ⟨R.lb, R.le, R.b, fun k s d => R.e k s (h k s d)⟩
/-- k ends at step s -/
noncomputable def EndAt (ms : List Nat) (l : List Nat) (k s : Nat) : Prop := adj ms k (l.getD s 0) = true ∧ ∀ w, w < 6 → adj ms k w = true → w ∈ l.take (s + 1)
noncomputable def maskN (l : List Nat) : Nat := l.foldl (fun x p => x ||| 2 ^ p) 0
theorem frontOf_cast : ∀ (l : List Nat) (x : Nat), l.foldl (fun (f : Int) (p : Nat) => Builtin.bitOr f (2 ^ ((p : Int)).toNat)) (x : Int) = ((l.foldl (fun x p => x ||| 2 ^ p) x : Nat) : Int)
  | [], x => rfl
  | p :: l, x => by
    rw [List.foldl_cons, List.foldl_cons, Int.toNat_natCast, show ((2 : Int) ^ p) = ((2 ^ p : Nat) : Int) by simp, or_cast]
    exact frontOf_cast l _
theorem frontOf_mask (l : List Nat) : frontOf l = ((maskN l : Nat) : Int) := frontOf_cast l 0
theorem mask_bit : ∀ (l : List Nat) (x k : Nat), (l.foldl (fun x p => x ||| 2 ^ p) x).testBit k = (x.testBit k || decide (k ∈ l))
  | [], x, k => by simp
  | p :: l, x, k => by
    rw [List.foldl_cons, mask_bit l, Nat.testBit_or, Nat.testBit_two_pow, Bool.or_assoc]
    congr 1
    by_cases q : p = k
    · subst q; simp
    · have q' : ¬ k = p := fun e => q e.symm
      simp [q, q']
theorem mask_lt : ∀ (l : List Nat) (x : Nat), x < 64 → (∀ k ∈ l, k < 6) → l.foldl (fun x p => x ||| 2 ^ p) x < 64
  | [], x, h, _ => h
  | p :: l, x, h, hl => by
    have p2 : ∀ i, i < 6 → 2 ^ i < 64 := by decide
    exact mask_lt l _ (Nat.or_lt_two_pow (n := 6) h (p2 p (hl p (.head _)))) fun k hk => hl k (.tail _ hk)
theorem ends_iff {ms : List Nat} (S : Sym ms) {l : List Nat} (h6 : ∀ k ∈ l, k < 6) {s k : Nat} (hk : k < 6) : endsQ (cst ms) (l.getD s 0) (frontOf (l.take (s + 1))) k = true ↔ EndAt ms l k s := by
  unfold endsQ
  rw [nat_cst, bitB_cast, frontOf_mask]
  have hlt : maskN (l.take (s + 1)) < 64 := mask_lt _ 0 (by decide) fun k hk => h6 k (List.mem_of_mem_take hk)
  rw [show (63 - ((maskN (l.take (s + 1)) : Nat) : Int)) = ((63 - maskN (l.take (s + 1)) : Nat) : Int) by omega, and_cast, Bool.and_eq_true, beq_iff_eq]
  have hb : ∀ w, w < 6 → (63 - maskN (l.take (s + 1))).testBit w = !decide (w ∈ l.take (s + 1)) := fun w hw => by
    rw [sub63_bit _ hlt w hw]
    unfold maskN
    rw [mask_bit]
    simp
  constructor
  · rintro ⟨h1, h2⟩
    refine ⟨h1, fun w hw ha => ?_⟩
    by_cases q : w ∈ l.take (s + 1)
    · exact q
    · exfalso
      have h3 := and_pos (ms.getD k 0) (S.lt k hk) (63 - maskN (l.take (s + 1))) (by omega)
      have h4 : (List.range 6).any (fun w => (ms.getD k 0).testBit w && (63 - maskN (l.take (s + 1))).testBit w) = true :=
        List.any_eq_true.mpr ⟨w, List.mem_range.mpr hw, by rw [hb w hw, show (ms.getD k 0).testBit w = true from ha]; simpa using q⟩
      rw [h4] at h3
      have h5 := of_decide_eq_true h3
      omega
  · rintro ⟨h1, h2⟩
    refine ⟨h1, ?_⟩
    by_cases q : ms.getD k 0 &&& (63 - maskN (l.take (s + 1))) = 0
    · rw [q]; rfl
    · exfalso
      obtain ⟨w, hw, a, b⟩ := and_pos' (S.lt k hk) (by omega) q
      rw [hb w hw] at b
      have := h2 w hw a
      simp [this] at b
theorem take_idx {l : List Nat} (nd : l.Nodup) {w s : Nat} (hw : w ∈ l) : w ∈ l.take (s + 1) ↔ l.idxOf w ≤ s := by
  have hlt := List.idxOf_lt_length_of_mem hw
  constructor
  · intro h
    obtain ⟨i, hi, e⟩ := List.getElem_of_mem h
    rw [List.getElem_take] at e
    have hi' : i < l.length := by rw [List.length_take] at hi; omega
    have : l.idxOf w = i := by rw [← e]; exact nd.idxOf_getElem i hi'
    rw [List.length_take] at hi; omega
  · intro h
    have : (l.take (s + 1))[l.idxOf w]? = some w := by
      rw [List.getElem?_take, if_pos (by omega), List.getElem?_eq_getElem hlt, List.getElem_idxOf]
    exact List.mem_of_getElem? this
theorem end_unique {ms : List Nat} {l : List Nat} (nd : l.Nodup) (hl : l.length = 6) (h6 : ∀ k ∈ l, k < 6) {k s s' : Nat} (hs : s < 6) (hs' : s' < 6) (h : EndAt ms l k s) (h' : EndAt ms l k s') : s = s' := by
  have key : ∀ s s', s < 6 → s' < 6 → EndAt ms l k s → EndAt ms l k s' → s' ≤ s := fun s s' hs hs' h h' => by
    have hg : l.getD s' 0 = l[s'] := by rw [List.getD_eq_getElem?_getD, List.getElem?_eq_getElem (by omega)]; rfl
    have hm : l[s'] ∈ l := List.getElem_mem _
    have := h.2 (l.getD s' 0) (by rw [hg]; exact h6 _ hm) h'.1
    rw [hg, take_idx nd hm, nd.idxOf_getElem] at this
    exact this
  have := key s s' hs hs' h h'
  have := key s' s hs' hs h' h
  omega
theorem inner_run {ms : List Nat} (S : Sym ms) {l : List Nat} (h6 : ∀ k ∈ l, k < 6) {i : Nat} : ∀ (ks : List Nat) (us : List (List Nat)) (D : Nat → Nat → Prop), ks.Nodup → (∀ k ∈ ks, k < 6) → (∀ k ∈ ks, EndAt ms l k i → ∀ s, ¬ D k s) → Rd l us (i + 1) D →
    Rd l (ks.foldl (wrKU (cst ms) (l.getD i 0) (frontOf (l.take (i + 1)))) us) (i + 1) (fun k s => D k s ∨ (k ∈ ks ∧ s = i ∧ EndAt ms l k i))
  | [], us, D, _, _, _, R => R.mono fun k s d => d.resolve_right fun h => nomatch h.1
  | k :: ks, us, D, nd, hk, hD, R => by
    rw [List.foldl_cons]
    have nd' := List.nodup_cons.mp nd
    by_cases q : endsQ (cst ms) (l.getD i 0) (frontOf (l.take (i + 1))) k = true
    · have hE := (ends_iff S h6 (hk k (.head _))).mp q
      have R' := R.tail (hk k (.head _)) (hD k (.head _) hE)
      have e : wrKU (cst ms) (l.getD i 0) (frontOf (l.take (i + 1))) us k = us ++ [[92, 97 + k]] := by unfold wrKU; rw [if_pos q]
      rw [e]
      refine (inner_run S h6 ks _ _ nd'.2 (fun j hj => hk j (.tail _ hj)) (fun j hj hEj s d => ?_) R').mono fun k' s d => ?_
      · rcases d with d | ⟨rfl, _⟩
        · exact hD j (.tail _ hj) hEj s d
        · exact nd'.1 hj
      · rcases d with d | ⟨h1, h2, h3⟩
        · exact .inl (.inl d)
        · rcases List.mem_cons.mp h1 with rfl | h1
          · exact .inl (.inr ⟨rfl, h2⟩)
          · exact .inr ⟨h1, h2, h3⟩
    · have e : wrKU (cst ms) (l.getD i 0) (frontOf (l.take (i + 1))) us k = us := by unfold wrKU; rw [if_neg q]
      rw [e]
      refine (inner_run S h6 ks us D nd'.2 (fun j hj => hk j (.tail _ hj)) (fun j hj => hD j (.tail _ hj)) R).mono fun k' s d => ?_
      rcases d with d | ⟨h1, h2, h3⟩
      · exact .inl d
      · rcases List.mem_cons.mp h1 with rfl | h1
        · exact (q ((ends_iff S h6 (hk k' (.head _))).mpr h3)).elim
        · exact .inr ⟨h1, h2, h3⟩
theorem outer_run {ms : List Nat} (S : Sym ms) {l : List Nat} (B : Bits 63 l) (hl : l.length = 6) : ∀ n, n ≤ 6 → Rd l ((List.range n).foldl (wrStepU (cst ms) l) []) n (fun k s => s < n ∧ k < 6 ∧ EndAt ms l k s)
  | 0, _ => ⟨rfl, rfl, (fun _ _ h => nomatch h), (fun _ _ d => nomatch d.1)⟩
  | n + 1, hn => by
    have ih := outer_run S B hl n (by omega)
    rw [foldl_range_succ]
    generalize (List.range n).foldl (wrStepU (cst ms) l) [] = us at ih
    have hg : l.getD n 0 = l[n] := by rw [List.getD_eq_getElem?_getD, List.getElem?_eq_getElem (by omega)]; rfl
    have hm : l[n] ∈ l := List.getElem_mem _
    have hv6 : l.getD n 0 < 6 := by rw [hg]; exact B.lt6 _ hm
    have hidx : l.idxOf (l.getD n 0) = n := by rw [hg]; exact B.nd.idxOf_getElem n (by omega)
    have hml : ∀ k, k < 6 → k ∈ l := fun k hk => B.perm.mem_iff.mpr (List.mem_range.mpr hk)
    have R := ih.head hv6 hidx (fun j hj e => by
      by_cases q : j = l.getD n 0
      · exact q
      · exact (idx_ne (hml j hj) (hml _ hv6) q (e.trans hidx.symm)).elim) (fun k s d => d.1)
    have nd' : (l.take (n + 1)).Nodup := B.nd.sublist (List.take_sublist _ _)
    have hk6 : ∀ k ∈ l.take (n + 1), k < 6 := fun k hk => B.lt6 k (List.mem_of_mem_take hk)
    have R' := inner_run S B.lt6 (l.take (n + 1)) _ _ nd' hk6 (fun k hk hE s d => by
      have := end_unique B.nd hl B.lt6 (by omega) (by omega) hE d.2.2
      have := d.1
      omega) R
    unfold wrStepU
    refine R'.mono fun k s d => ?_
    by_cases q : s = n
    · subst q
      refine .inr ⟨?_, rfl, d.2.2⟩
      exact d.2.2.2 k d.2.1 (S.refl k d.2.1)
    · exact .inl ⟨by have := d.1; omega, d.2⟩
/-- each one ends -/
theorem end_exists {ms : List Nat} (S : Sym ms) {l : List Nat} (B : Bits 63 l) (hl : l.length = 6) {k : Nat} (hk : k < 6) : ∃ s, s < 6 ∧ EndAt ms l k s := by
  have hml : ∀ k, k < 6 → k ∈ l := fun k hk => B.perm.mem_iff.mpr (List.mem_range.mpr hk)
  -- the greatest step with a neighbour
  have : ∀ n, (∃ s, s < n ∧ s < 6 ∧ adj ms k (l.getD s 0) = true ∧ ∀ s', s' < n → s' < 6 → adj ms k (l.getD s' 0) = true → s' ≤ s) ∨ (∀ s, s < n → s < 6 → adj ms k (l.getD s 0) = false) := by
    intro n
    induction n with
    | zero => exact .inr fun s h => nomatch h
    | succ n ih =>
      by_cases q : n < 6 ∧ adj ms k (l.getD n 0) = true
      · exact .inl ⟨n, Nat.lt_succ_self _, q.1, q.2, fun s' h _ _ => Nat.le_of_lt_succ h⟩
      · rcases ih with ⟨s, h1, h2, h3, h4⟩ | h
        · refine .inl ⟨s, Nat.lt_succ_of_lt h1, h2, h3, fun s' a b d => ?_⟩
          by_cases e : s' = n
          · subst e; exact (q ⟨b, d⟩).elim
          · exact h4 s' (by omega) b d
        · refine .inr fun s a b => ?_
          by_cases e : s = n
          · subst e
            cases z : adj ms k (l.getD s 0) with
            | false => rfl
            | true => exact (q ⟨b, z⟩).elim
          · exact h s (by omega) b
  have hgi : ∀ w, w < 6 → l.getD (l.idxOf w) 0 = w ∧ l.idxOf w < 6 := fun w hw => by
    have hlt := List.idxOf_lt_length_of_mem (hml w hw)
    refine ⟨?_, by omega⟩
    rw [List.getD_eq_getElem?_getD, List.getElem?_eq_getElem hlt, List.getElem_idxOf]
    rfl
  rcases this 6 with ⟨s, _, h2, h3, h4⟩ | h
  · refine ⟨s, h2, h3, fun w hw ha => ?_⟩
    rw [take_idx B.nd (hml w hw)]
    obtain ⟨e, hlt⟩ := hgi w hw
    exact h4 (l.idxOf w) hlt hlt (by rw [e]; exact ha)
  · obtain ⟨e, hlt⟩ := hgi k hk
    have := h (l.idxOf k) hlt hlt
    rw [e, S.refl k hk] at this
    cases this
theorem overlap {ms : List Nat} (S : Sym ms) {l : List Nat} (O : OrdM ms 63 l) (hl : l.length = 6) {j k sj sk : Nat} (hj : j < 6) (hk : k < 6) (hsj : sj < 6) (hsk : sk < 6) (Ej : EndAt ms l j sj) (Ek : EndAt ms l k sk) :
    (l.idxOf j ≤ sk ∧ l.idxOf k ≤ sj) ↔ adj ms k j = true := by
  have B := O.bits
  have hml : ∀ k, k < 6 → k ∈ l := fun k hk => B.perm.mem_iff.mpr (List.mem_range.mpr hk)
  have key : ∀ j k s, j < 6 → k < 6 → s < 6 → EndAt ms l k s → l.idxOf k < l.idxOf j → l.idxOf j ≤ s → adj ms k j = true := fun j k s hj hk hs E h1 h2 => by
    have hg : l.getD s 0 = l[s] := by rw [List.getD_eq_getElem?_getD, List.getElem?_eq_getElem (by omega)]; rfl
    have hm : l[s] ∈ l := List.getElem_mem _
    have hi : l.idxOf l[s] = s := B.nd.idxOf_getElem s (by omega)
    have hE := E.1
    rw [hg] at hE
    by_cases q : l.idxOf j = s
    · by_cases z : j = l[s]
      · rw [z]; exact hE
      · exact (idx_ne (hml j hj) hm z (q.trans hi.symm)).elim
    · have ok := O.split _ _ _ (at_idx (hml j hj))
      refine ok.2.2 k (in_take (hml k hk) h1) ⟨l[s], B.lt6 _ hm, fun h => ?_, hE⟩
      have hlt := List.idxOf_lt_length_of_mem (hml j hj)
      have : l.idxOf j = (l.idxOf j - 1) + 1 := by omega
      rw [this, take_idx B.nd hm, hi] at h
      omega
  constructor
  · rintro ⟨h1, h2⟩
    by_cases e : j = k
    · subst e; exact S.refl j hj
    · have hne := idx_ne (hml j hj) (hml k hk) e
      by_cases q : l.idxOf k < l.idxOf j
      · exact key j k sk hj hk hsk Ek q h1
      · rw [S.sym k j hk hj]
        exact key k j sj hk hj hsj Ej (by omega) h2
  · intro h
    refine ⟨(take_idx B.nd (hml j hj)).mp (Ek.2 j hj h), (take_idx B.nd (hml k hk)).mp (Ej.2 k hk (by rw [S.sym j k hj hk]; exact h))⟩
theorem row_step : ∀ m, m < 64 → ∀ j, j < 6 → (if m.testBit j then m % 2 ^ j ||| 2 ^ j else m % 2 ^ j) = m % 2 ^ (j + 1) := by decide +kernel
noncomputable def rows (ms : List Nat) (k j : Nat) : List Nat := (List.range 6).map fun u => if u < k then ms.getD u 0 else if u = k then ms.getD k 0 % 2 ^ j else 0
theorem rows_get {ms : List Nat} {k j u : Nat} (hu : u < 6) : (rows ms k j).getD u 0 = if u < k then ms.getD u 0 else if u = k then ms.getD k 0 % 2 ^ j else 0 := by
  unfold rows
  rw [List.getD_eq_getElem?_getD, List.getElem?_map, List.getElem?_range hu]
  rfl
theorem ext6 {a b : List Nat} (ha : a.length = 6) (hb : b.length = 6) (h : ∀ u, u < 6 → a.getD u 0 = b.getD u 0) : a = b := by
  apply List.ext_getElem (by omega)
  intro i h1 h2
  have := h i (by omega)
  rwa [List.getD_eq_getElem?_getD, List.getD_eq_getElem?_getD, List.getElem?_eq_getElem h1, List.getElem?_eq_getElem h2] at this
theorem rows_next {ms : List Nat} (S : Sym ms) {b e : List Int} (hq : ∀ k j, k < 6 → j < 6 → rdQ b e k j = adj ms k j) {k j : Nat} (hk : k < 6) (hj : j < 6) : rdIn b e k (cst (rows ms k j)) j = cst (rows ms k (j + 1)) := by
  unfold rdIn bor
  rw [hq k j hk hj, nat_cst, show ((2 : Int) ^ j) = ((2 ^ j : Nat) : Int) by simp, or_cast, set_cst]
  have hl : ∀ k j, (rows ms k j).length = 6 := fun k j => by simp [rows]
  have hs := row_step (ms.getD k 0) (S.lt k hk) j hj
  by_cases q : adj ms k j = true
  · rw [if_pos q]
    rw [if_pos (show (ms.getD k 0).testBit j = true from q)] at hs
    congr 1
    refine ext6 (by simp [hl]) (hl _ _) fun u hu => ?_
    rw [getD_set (by rw [hl]; exact hk), rows_get hk, rows_get hu, rows_get hu]
    by_cases z : u = k
    · subst z
      simp only [Nat.lt_irrefl, ↓reduceIte]
      exact hs
    · simp [z]
  · rw [if_neg q]
    rw [if_neg (show ¬ (ms.getD k 0).testBit j = true from q)] at hs
    congr 1
    refine ext6 (hl _ _) (hl _ _) fun u hu => ?_
    rw [rows_get hu, rows_get hu, hs]
theorem rows_row {ms : List Nat} (S : Sym ms) {b e : List Int} (hq : ∀ k j, k < 6 → j < 6 → rdQ b e k j = adj ms k j) {k : Nat} (hk : k < 6) : ∀ n, n ≤ 6 → (List.range n).foldl (rdIn b e k) (cst (rows ms k 0)) = cst (rows ms k n)
  | 0, _ => rfl
  | n + 1, hn => by rw [foldl_range_succ, rows_row S hq hk n (by omega), rows_next S hq hk (by omega)]
theorem rows_end {ms : List Nat} (S : Sym ms) {k : Nat} (hk : k < 6) : rows ms k 6 = rows ms (k + 1) 0 := by
  have hl : ∀ k j, (rows ms k j).length = 6 := fun k j => by simp [rows]
  refine ext6 (hl _ _) (hl _ _) fun u hu => ?_
  rw [rows_get hu, rows_get hu]
  have h1 : ms.getD k 0 % 2 ^ 6 = ms.getD k 0 := Nat.mod_eq_of_lt (S.lt k hk)
  by_cases z : u < k
  · have : u < k + 1 := by omega
    simp [z, this]
  · by_cases z2 : u = k
    · subst z2
      simp only [Nat.lt_irrefl, ↓reduceIte, Nat.lt_succ_self]
      exact h1
    · have : ¬ u < k + 1 := by omega
      simp only [z, z2, this, if_false]
      split
      · simp
        exact (Nat.mod_one _).symm
      · rfl
theorem readNet_is {ms : List Nat} (S : Sym ms) {b e : List Int} (hq : ∀ k j, k < 6 → j < 6 → rdQ b e k j = adj ms k j) : readNet b e = cst ms := by
  have h : ∀ n, n ≤ 6 → (List.range n).foldl (rdK b e) (List.replicate 6 0) = cst (rows ms n 0) := by
    intro n
    induction n with
    | zero =>
      intro _
      show List.replicate 6 (0 : Int) = cst (rows ms 0 0)
      have : rows ms 0 0 = List.replicate 6 0 := by
        refine ext6 (by simp [rows]) (by simp) fun u hu => ?_
        rw [rows_get hu]
        have : (List.replicate 6 (0 : Nat)).getD u 0 = 0 := by
          rw [List.getD_eq_getElem?_getD, List.getElem?_replicate]; split <;> rfl
        rw [this]
        simp [Nat.mod_one]
      rw [this]; rfl
    | succ n ih =>
      intro hn
      rw [foldl_range_succ, ih (by omega)]
      unfold rdK
      rw [rows_row S hq (by omega) 6 (Nat.le_refl _), rows_end S (by omega)]
  unfold readNet
  rw [h 6 (Nat.le_refl _)]
  congr 1
  refine ext6 (by simp [rows]) S.len fun u hu => ?_
  rw [rows_get hu, if_pos hu]
theorem read_is {ms : List Nat} (S : Sym ms) {l : List Nat} (O : OrdM ms 63 l) : readOf (writtenU l (cst ms)) = cst ms := by
  have B := O.bits
  have hl : l.length = 6 := by rw [B.perm.length_eq]; rfl
  have R := outer_run S B hl 6 (Nat.le_refl _)
  unfold readOf
  rw [readBE_run]
  refine readNet_is S fun k j hk hj => ?_
  obtain ⟨sk, h1, Ek⟩ := end_exists S B hl hk
  obtain ⟨sj, h2, Ej⟩ := end_exists S B hl hj
  have hml : ∀ k, k < 6 → l.idxOf k < 6 := fun k hk => by
    have := List.idxOf_lt_length_of_mem (B.perm.mem_iff.mpr (List.mem_range.mpr hk))
    omega
  have a1 := (R.e k sk ⟨h1, hk, Ek⟩).2 j hj (hml j hj)
  have a2 := (R.e j sj ⟨h2, hj, Ej⟩).2 k hk (hml k hk)
  have a3 := overlap S O hl hj hk h2 h1 Ej Ek
  unfold rdQ
  rw [Bool.eq_iff_iff, Bool.and_eq_true, decide_eq_true_eq, decide_eq_true_eq]
  show (nat (runU (writtenU l (cst ms))).2.1 j ≤ nat (runU (writtenU l (cst ms))).2.2 k ∧ nat (runU (writtenU l (cst ms))).2.1 k ≤ nat (runU (writtenU l (cst ms))).2.2 j) ↔ _
  rw [← a3]
  exact ⟨fun h => ⟨a1.mp h.1, a2.mp h.2⟩, fun h => ⟨a1.mpr h.1, a2.mpr h.2⟩⟩
end

section
open PySem
-- what is known of a graph: two matrices of bits, the known ties and the known gaps
noncomputable def ordB (T F : Nat) : List Nat → Nat → List Nat → Bool
  | _, rm, [] => rm == 0
  | pl, rm, k :: rs => rm.testBit k && pl.all (fun u => T.testBit (6 * u + k) || ((F >>> (6 * u)) &&& (rm - 2 ^ k)) == rm - 2 ^ k) && ordB T F (k :: pl) (rm - 2 ^ k) rs
noncomputable def cycB (T F : Nat) (cs : List Nat) : Bool := (List.range cs.length).all fun i =>
  let a := cs.getD ((i + cs.length - 1) % cs.length) 0
  let v := cs.getD i 0
  let b := cs.getD ((i + 1) % cs.length) 0
  Nat.blt v 6 && (T.testBit (6 * v + a) && (T.testBit (6 * v + b) && F.testBit (6 * a + b)))
noncomputable def msOf (T : Nat) : List Nat := (List.range 6).map fun u => (T >>> (6 * u)) % 64 ||| 2 ^ u
noncomputable def triB (T F a b c : Nat) : Bool := ((T ||| F) &&& 34089189246 == 34089189246) && (Nat.blt a 6 && (Nat.blt b a && (Nat.blt c b && tripleOk (cst (msOf T)) a b c)))
noncomputable def digs (code : Nat) : Nat → List Nat
  | 0 => []
  | n + 1 => code % 8 :: digs (code / 8) n
noncomputable def two (u w : Nat) : Nat := 2 ^ (6 * u + w) ||| 2 ^ (6 * w + u)
noncomputable def chk : Nat → Nat → Nat → Nat → Option Nat
  | 0, _, _, _ => none
  | _ + 1, 0, _, _ => none
  | d + 1, n + 1, T, F =>
    if (n + 1) % 8 == 0 then
      (if Nat.blt ((n + 1) / 8 % 8) 6 && Nat.blt ((n + 1) / 64 % 8) 6 then
        match chk d ((n + 1) / 512) (T ||| two ((n + 1) / 8 % 8) ((n + 1) / 64 % 8)) F with
        | none => none
        | some c1 => chk d c1 T (F ||| two ((n + 1) / 8 % 8) ((n + 1) / 64 % 8))
      else none)
    else if (n + 1) % 8 == 1 then (if ordB T F [] 63 (digs ((n + 1) / 8) 6) then some ((n + 1) / 2097152) else none)
    else if (n + 1) % 8 == 2 then (if cycB T F (digs ((n + 1) / 8) 4) then some ((n + 1) / 32768) else none)
    else if (n + 1) % 8 == 3 then (if cycB T F (digs ((n + 1) / 8) 5) then some ((n + 1) / 262144) else none)
    else if (n + 1) % 8 == 4 then (if cycB T F (digs ((n + 1) / 8) 6) then some ((n + 1) / 2097152) else none)
    else (if triB T F ((n + 1) / 8 % 8) ((n + 1) / 64 % 8) ((n + 1) / 512 % 8) then some ((n + 1) / 4096) else none)
/-- what is told of a graph -/
noncomputable def Concl (ms : List Nat) : Prop := (∃ l, OrdM ms 63 l) ∨ takenOff (cst ms) = false ∨ (threes (cst ms)).isEmpty = false
noncomputable def AgreeG (ms : List Nat) (T F : Nat) : Prop := ∀ u w, u < 6 → w < 6 → (T.testBit (6 * u + w) = true → adj ms u w = true) ∧ (F.testBit (6 * u + w) = true → adj ms u w = false)
theorem all63 : ∀ x, x < 64 → (∀ k, k < 6 → x.testBit k = true) → x = 63 := by decide +kernel
theorem bit_hi : ∀ x, x < 64 → ∀ k, k < 8 → x.testBit k = true → k < 6 := by decide +kernel
theorem big_bit {x : Nat} (hx : x < 64) {k : Nat} (h : x.testBit k = true) : k < 6 := by
  by_cases q : k < 8
  · exact bit_hi x hx k q h
  · have : x < 2 ^ k := Nat.lt_of_lt_of_le hx (Nat.pow_le_pow_right (n := 2) (by decide) (by omega : 6 ≤ k))
    rw [Nat.testBit_lt_two_pow this] at h; cases h
theorem ord_sound {ms : List Nat} {T F : Nat} (A : AgreeG ms T F) : ∀ (rs pl l : List Nat) (x rm : Nat), OrdM ms x l → (∀ u, u ∈ l ↔ u ∈ pl) → rm < 64 → (∀ w, w < 6 → rm.testBit w = !decide (w ∈ l)) → ordB T F pl rm rs = true → ∃ l, OrdM ms 63 l
  | [], pl, l, x, rm, O, hp, hr, hb, h => by
    unfold ordB at h
    have e : rm = 0 := by simpa using h
    subst e
    have : x = 63 := all63 x O.bits.lt fun k hk => by
      rw [O.bits.mem k hk]
      have := hb k hk
      rw [Nat.zero_testBit] at this
      simpa using this
    exact ⟨l, this ▸ O⟩
  | k :: rs, pl, l, x, rm, O, hp, hr, hb, h => by
    unfold ordB at h
    rw [Bool.and_eq_true, Bool.and_eq_true, List.all_eq_true] at h
    obtain ⟨⟨h1, h2⟩, h3⟩ := h
    have hk6 := big_bit hr h1
    have hkl : k ∉ l := by
      have := hb k hk6
      rw [h1] at this
      simpa using this
    obtain ⟨s1, s2, s3⟩ := sub_bit rm hr k hk6 h1
    refine ord_sound A rs (k :: pl) (l ++ [k]) _ (rm - 2 ^ k) (.snoc O ⟨hk6, hkl, fun u hu ⟨w, hw, hn, ha⟩ => ?_⟩) (fun u => ?_) s1 (fun w hw => ?_) h3
    · have hu6 := O.bits.lt6 u hu
      have := h2 u ((hp u).mp hu)
      rw [Bool.or_eq_true] at this
      rcases this with q | q
      · exact (A u k hu6 hk6).1 q
      · by_cases e : w = k
        · subst e; exact ha
        · have e1 := eq_of_beq q
          have hb1 : (rm - 2 ^ k).testBit w = true := by
            rw [s3 w hw, hb w hw]
            simp [hn, e]
          rw [← e1, Nat.testBit_and, Bool.and_eq_true, Nat.testBit_shiftRight] at hb1
          have := (A u w hu6 hw).2 hb1.1
          rw [this] at ha; cases ha
    · rw [List.mem_append, List.mem_singleton, List.mem_cons, hp u]
      exact Or.comm
    · rw [s3 w hw, hb w hw]
      by_cases a : w ∈ l <;> by_cases b : w = k <;> simp [a, b]
theorem cyc_sound {ms : List Nat} (S : Sym ms) {T F : Nat} (A : AgreeG ms T F) {cs : List Nat} (hne : cs ≠ []) (h : cycB T F cs = true) : takenOff (cst ms) = false := by
  unfold cycB at h
  rw [List.all_eq_true] at h
  have hn : 0 < cs.length := List.length_pos_iff.mpr hne
  have hget : ∀ i, i < cs.length → cs.getD i 0 ∈ cs := fun i hi => by
    rw [List.getD_eq_getElem?_getD, List.getElem?_eq_getElem hi]
    exact List.getElem_mem _
  have hv : ∀ i (hi : i < cs.length), cs.getD i 0 = cs[i] := fun i hi => by rw [List.getD_eq_getElem?_getD, List.getElem?_eq_getElem hi]; rfl
  have h6 : ∀ v ∈ cs, v < 6 := fun v hv' => by
    obtain ⟨i, hi, rfl⟩ := List.getElem_of_mem hv'
    have := h i (List.mem_range.mpr hi)
    simp only [Bool.and_eq_true, Nat.blt_eq] at this
    have h1 := this.1
    rw [hv i hi] at h1
    exact h1
  refine off_false S hne h6 fun v hv' => ?_
  obtain ⟨i, hi, rfl⟩ := List.getElem_of_mem hv'
  have := h i (List.mem_range.mpr hi)
  simp only [Bool.and_eq_true, Nat.blt_eq] at this
  rw [hv i hi] at this
  obtain ⟨a1, a5, a6, a7⟩ := this
  have m1 := hget ((i + cs.length - 1) % cs.length) (Nat.mod_lt _ hn)
  have m2 := hget ((i + 1) % cs.length) (Nat.mod_lt _ hn)
  exact ⟨_, m1, _, m2, (A _ _ a1 (h6 _ m1)).1 a5, (A _ _ a1 (h6 _ m2)).1 a6, (A _ _ (h6 _ m1) (h6 _ m2)).2 a7⟩
theorem bits_eq : ∀ a, a < 64 → ∀ b, b < 64 → (∀ k, k < 6 → a.testBit k = b.testBit k) → a = b := by decide +kernel
theorem off_bits : ∀ u, u < 6 → ∀ w, w < 6 → u ≠ w → (34089189246 : Nat).testBit (6 * u + w) = true := by decide +kernel
theorem ms_eq {ms : List Nat} (S : Sym ms) {T F : Nat} (A : AgreeG ms T F) (h : (T ||| F) &&& 34089189246 = 34089189246) : ms = msOf T := by
  refine ext6 S.len (by simp [msOf]) fun u hu => ?_
  have e : (msOf T).getD u 0 = (T >>> (6 * u)) % 64 ||| 2 ^ u := by
    unfold msOf
    rw [List.getD_eq_getElem?_getD, List.getElem?_map, List.getElem?_range hu]; rfl
  rw [e]
  have p2 : ∀ i, i < 6 → 2 ^ i < 64 := by decide
  have hlt : (T >>> (6 * u)) % 64 ||| 2 ^ u < 64 := Nat.or_lt_two_pow (n := 6) (Nat.mod_lt _ (by decide)) (p2 u hu)
  refine bits_eq _ (S.lt u hu) _ hlt fun k hk => ?_
  show adj ms u k = _
  rw [Nat.testBit_or, Nat.testBit_two_pow, show (64 : Nat) = 2 ^ 6 from rfl, Nat.testBit_mod_two_pow, Nat.testBit_shiftRight]
  by_cases q : u = k
  · subst q; rw [S.refl u hu]; simp
  · obtain ⟨a1, a2⟩ := A u k hu hk
    have hb := off_bits u hu k hk q
    rw [← h, Nat.testBit_and, Bool.and_eq_true, Nat.testBit_or, Bool.or_eq_true] at hb
    cases t : T.testBit (6 * u + k) with
    | true => rw [a1 t]; simp [hk]
    | false =>
      rw [t] at hb
      rw [a2 (hb.1.resolve_left (by simp))]
      simp [q]
theorem tri_sound {ms : List Nat} (S : Sym ms) {T F a b c : Nat} (A : AgreeG ms T F) (h : triB T F a b c = true) : (threes (cst ms)).isEmpty = false := by
  unfold triB at h
  simp only [Bool.and_eq_true, Nat.blt_eq, beq_iff_eq] at h
  obtain ⟨h1, h2, h3, h4, h5⟩ := h
  rw [ms_eq S A h1]
  exact threes_some h2 h3 h4 h5
theorem two_bit {u w u' w' : Nat} (hw : w < 6) (hu : u < 6) (hw' : w' < 6) (h : (two u w).testBit (6 * u' + w') = true) : (u' = u ∧ w' = w) ∨ (u' = w ∧ w' = u) := by
  unfold two at h
  rw [Nat.testBit_or, Nat.testBit_two_pow, Nat.testBit_two_pow, Bool.or_eq_true, decide_eq_true_eq, decide_eq_true_eq] at h
  omega
theorem AgreeG.yes {ms : List Nat} (S : Sym ms) {T F u w : Nat} (A : AgreeG ms T F) (hu : u < 6) (hw : w < 6) (h : adj ms u w = true) : AgreeG ms (T ||| two u w) F := fun u' w' hu' hw' => by
  refine ⟨fun t => ?_, (A u' w' hu' hw').2⟩
  rw [Nat.testBit_or, Bool.or_eq_true] at t
  rcases t with t | t
  · exact (A u' w' hu' hw').1 t
  · rcases two_bit hw hu hw' t with ⟨rfl, rfl⟩ | ⟨rfl, rfl⟩
    · exact h
    · rw [S.sym _ _ hu' hw']; exact h
theorem AgreeG.no {ms : List Nat} (S : Sym ms) {T F u w : Nat} (A : AgreeG ms T F) (hu : u < 6) (hw : w < 6) (h : adj ms u w = false) : AgreeG ms T (F ||| two u w) := fun u' w' hu' hw' => by
  refine ⟨(A u' w' hu' hw').1, fun t => ?_⟩
  rw [Nat.testBit_or, Bool.or_eq_true] at t
  rcases t with t | t
  · exact (A u' w' hu' hw').2 t
  · rcases two_bit hw hu hw' t with ⟨rfl, rfl⟩ | ⟨rfl, rfl⟩
    · exact h
    · rw [S.sym _ _ hu' hw']; exact h
theorem digs_ne {code n : Nat} : digs code (n + 1) ≠ [] := by unfold digs; simp
theorem chk_sound {ms : List Nat} (S : Sym ms) : ∀ (d code T F r : Nat), chk d code T F = some r → AgreeG ms T F → Concl ms
  | 0, _, _, _, _, h, _ => by simp [chk] at h
  | _ + 1, 0, _, _, _, h, _ => by simp [chk] at h
  | d + 1, n + 1, T, F, r, h, A => by
    unfold chk at h
    split at h
    next =>
      split at h
      next hv =>
        rw [Bool.and_eq_true, Nat.blt_eq, Nat.blt_eq] at hv
        cases hc : chk d ((n + 1) / 512) (T ||| two ((n + 1) / 8 % 8) ((n + 1) / 64 % 8)) F with
        | none => rw [hc] at h; cases h
        | some c1 =>
          rw [hc] at h
          cases ha : adj ms ((n + 1) / 8 % 8) ((n + 1) / 64 % 8) with
          | true => exact chk_sound S d _ _ _ _ hc (A.yes S hv.1 hv.2 ha)
          | false => exact chk_sound S d _ _ _ _ h (A.no S hv.1 hv.2 ha)
      next => cases h
    next =>
      split at h
      next =>
        split at h
        next q =>
          exact .inl (ord_sound A _ [] [] 0 63 .nil (fun u => Iff.rfl) (by decide) (fun w hw => by
            have : ∀ w, w < 6 → (63 : Nat).testBit w = true := by decide
            rw [this w hw]; simp) q)
        next => cases h
      next =>
        split at h
        next =>
          split at h
          next q => exact .inr (.inl (cyc_sound S A digs_ne q))
          next => cases h
        next =>
          split at h
          next =>
            split at h
            next q => exact .inr (.inl (cyc_sound S A digs_ne q))
            next => cases h
          next =>
            split at h
            next =>
              split at h
              next q => exact .inr (.inl (cyc_sound S A digs_ne q))
              next => cases h
            next =>
              split at h
              next q => exact .inr (.inr (tri_sound S A q))
              next => cases h
end

section
open PySem
noncomputable def pairs : List (Nat × Nat) := [(1, 0), (2, 0), (2, 1), (3, 0), (3, 1)]
noncomputable def mT (m : Nat) : Nat := (List.range 5).foldl (fun x i => if m.testBit i then x ||| two (pairs.getD i (0, 0)).1 (pairs.getD i (0, 0)).2 else x) 0
noncomputable def mF (m : Nat) : Nat := (List.range 5).foldl (fun x i => if m.testBit i then x else x ||| two (pairs.getD i (0, 0)).1 (pairs.getD i (0, 0)).2) 0
theorem tk0 : (chk 11 5395844660968405913454840719951589229553764165752514779018637422712827473086846020584754591149548407083685153870155171028291618200996826194981201465087205871154602905930634051559142332587647997106852149272032007759999206435775542836193643172263998782057254407753914398243979402698589204967477708202630488528492688298157666335205078837508562866511948265134854911020770206298965726754886152998465993874352695437404890079076500338042579199968632372263798426991146688683554807955143891866209953421302427677807305286550696420030786693662902315569135717888754812511191973531568930357699243719363613730619532269904263036385742759577315216620039561059193589430898031974778882931347422552583327758032731682256561602536393218771330149017094105678741771257010001675085699168625144856614853409056032194120360748233925734706770442946564806131354728522570285654375168699349472771319214962511987117099749398263703327709274190816689057832649038753631626201152834776082269656284208911821517383910761910859111675027106988541374889951416819588105872721474188280951818613184030516239688659096264608527669794336573452191823073351429535809625106725725040176815645538082062368570947699440224617203792828232808103091037315034981708886176508357768847121551835432 (mT 0) (mF 0)).isSome = true := by decide +kernel
theorem tk1 : (chk 11 702383326534668770656080716958904813460047620043640869653733318157508131554377387227198377326326012552530081118497049229788492595087446828964228538089803341430719753853391887510582051269980474945137136557502757807589636339943044480456278605722777419290876739361713258459964174374722910579588049834995747934023696718835680710829608217840684715531157166651516991207442244943260523066353875503418779445999220326061987209047878311546935935750628857719893521511892241820693133903167066499007361630987819165711538149818262537154051934918263200620786895825646273974678765598905726149454227759662704056840650547351169307196837016548630919936617714494064730996545481839100537109289209329624206852640632006347587582267231855756041775605028123294124466034121616040293915181014804548156203864209270002337218618656659167996663130125340102680091219084912652603891139848344569458798362109375804702495453283388058652911703744909914405645267752309981795765529659525441847618281748402903711636864379159985681836665092202231553686922285980027667542251070016189869143253186292370949645228367291453367290648240875440277509329508657705028980017676150452983816978297096936505839300496208863959894808609064 (mT 1) (mF 1)).isSome = true := by decide +kernel
theorem tk2 : (chk 11 38440255252440295539319135751287561778741456649838791974113103740647123115068463032067072436629650551754353841230294975076497265972894977461392731301495344881235067264069214305290308189130550231194348160409938734518021187112775383097290693794305798019967429336489038472842570291693525160924230115375327377599778651708874490939733098497066532338630450346902517053546163114654899579984676565845373759280909290734394944989029610389496099903200743757642483769829984864451389875483148140112676753605039091196100825551031240724684382482240108168021433149152397903073371699009092431363287768105079181232154890457945328384931212354682584659100772967845496973708768629325532618434897810227151504748877237632974911261634040780684563064624939049655920430734205427316535148916198359943354550070662495188031794690139416049981472314859753313381501015356049870781424477892702769840106522136645376948004901423069189641339455854289012013446549923731648892284670372350019194973035337305001524708029679681623435865192778352593628005116893146291954654484651392948987639655584445422156171709670715283698231964996517574790948963904690001776603631569943706660501285120854644797313787114492655061437261055272443553553444841535607373842896423459648336927045946105640257240590464392864143220911703944330321927497474800859623584192314095400095025865183470017423604861472484704552 (mT 2) (mF 2)).isSome = true := by decide +kernel
theorem tk3 : (chk 11 227353222369897163543905766137592275111061751034133666112739880487747790778517030244202030582503497316627575575378386385927694468614227125558372823570038962174472783926538877020835663817078963588804018258975291380407977934666917561110111673233780898475622167853006887849786645011350052303236611109315255471354573893780537697187015567444005121416323995617574824397430204017120752982192242254851787916298398193108554070507018640058519478513245998637719020184155174979054632469185934219432762271861884698003697473588142970059122192467099471538086982524892352376728924629086286699055307177601760674257308540261534139921001339317076057868378776908439495942094022150159168906704342363690861785936907910512590711966532428468734249076435146605841527047694899839317823249453247284802413865595392283592248395893960856361645060140576218887967072433009863096346109683651534287979633139252574759276460826462962336613832046900159327001328252942320304868182586873688765761107826817477764986816286617858399427910420272341136740057825591886509923963350305821164392962566139338977952316373872518450122722667839906235437850491922583380292187963243085803943052355550569476065167659659946886779767595579176090578101175038732150700364416936580028455941641023097352341972763710920028248784677729236214115707392564040485802980403471044004374967924950225361323669723188612146425863787112718321430514223544903433562930542563360 (mT 3) (mF 3)).isSome = true := by decide +kernel
theorem tk4 : (chk 11 38275972048299008602595267556847480587871951963787191656864035709718345687749127401235599178614322821813223566538161612625297758847293399285036647955068266074332738664379463410840481411743471190881833018356422141965576424224344114572567872642928663810573732663624419345754498499723694260637281887389968281986690830935534034618884703813224012275249101113750989158393600897872107261843686169844772163137641488011597668481019392521124053330177048574967669491027069780603939227992898031937912091945217132286505525479551216992976018984292441281936420412302594300134128407330868640258624772285259894109959540285806387105049355369748099648374126660089476394033882101628987669385227942997887804287600332939221650116831702539704645667314540079911365516167570033459119345749795521489591048410204268506242763174545879690556911151945977263403502749951013888297574645665023152604811653952273454529378745200434258368312714457975956336956390485083621451264681332660050161360980922556281652420579122364888620727239666533668685552997747501209696400011957580661431347692934666955739163363909603612235835675589186416986455146649314828883750722304144502823194277832051756443792165166629063633388382373363179191878875287761097270005830484749796433522053465196978128711250506829123611465293859606660554070394557507088934272596361888235225701500637731016769580807604989411624 (mT 4) (mF 4)).isSome = true := by decide +kernel
theorem tk5 : (chk 11 227353222369897163543905766137592275111061751034133666112739878129871093116925903570274819409466648346467764698057146821917989225247740391626209929824737744723657091726892786637533551619853454882127914643083275385741820494788735878866714195615968780343221005240454264432995760053258183855961111194163644639402016789096992311778431076718662737548911058535551520998083466529041319167469197019713579987962383386426032555711856883820650219615124370961849287456467556916295467548037131963328303948376707169241600422382403964427988978814033286406741404227423288830171746511806755958208951824430893189793514851449232092004969210552194913833472693316588467745181585439392839957813223464046811182864491270127364381299818877154075694781146453499867466913308303853263554491825804189384346138616793016568198581737359793743058533650085617052642362036364091041143161663484869788961716007704067599160787286482781824054657625557517893248055310786979901255457204533391684207757554078887306298465807080177820197673761816939580983423084528177572987002246561100596343976316356872248490758983281110210132061000744599061950895784509152049724391637610528175554659139261979363642841053855002122452566181088518700570185067429205707899942924274451560870543576596910629569985653150749827943362081110553522400188386530918411928470261917244122227058105431659529575013582799604851812848570016143545636315443208897322710978273529952 (mT 5) (mF 5)).isSome = true := by decide +kernel
theorem tk6 : (chk 11 206435271756981954937645000418759675052489713458603616961042502608829787950339048300414617196434663292023092970874988901257195118548795590639717475973449471013161325353563080769496788431024093413538897049604170337401443125067459400606568962243170081462375806090544513432900729925666592701816051543565883517470863610830089571188018310792510660030599497300049937651397360799657863006452570285303833101392927825559042463882143936796608115251983699221057728664266948118048907920253761737403799990519233741071755498634192587374187348715349315343550299518769981923971025501068141528653689610623074352668795549796216936860977622206721125654428030508995902675610487908367771689571500550199791778935730889146758504703240926512852881430792533215700865588237145635767320438728204076750316273010165528599142753076530524144566009393840690793343280558635403876009194865974502309001625747216342933642565184931983967445176334492192447810362388650290980640519025813696855454884465646100921376375313450953587584457682723377535652795142212767111705709602061584516422812514310210727836675999667890334191518473299557735961050839726942111055113935591924036495353408855059643215728059323424629756637085843869228442362400987082906601229562637055669065658384197607762130160337119376526340609075189915632704212399562491235354302240086972291002956870598252433720531543644051489404819643388064 (mT 6) (mF 6)).isSome = true := by decide +kernel
theorem tk7 : (chk 11 754020837545176743213784075139203882987278611431365247949518420008607354313696317677128145218936181451366745794564707686814031967869468938414293294696893571768944554873971017973313328966511424691426786677931180121896475470303478453226213514332493637639003699415190419677248519199206649465116363594754139285248286076949035707559520759010164981033568982813462364085190701903267606921260327861068965808904993411461594345952686543949591190468342379648345662943427736133123780643610237504324091754216388292634325705157819500867001312938691316499258869228475055968654863587584160587283318586750505138047274623789817694196811159431527013908705397071384344967398044111644764665578081468572646387129306950379961784645210165094435687200360831728200759129630756740437052679153390002021752513612404016430790268077536933400552696572165471781772374283835387888539974223443596635324614006007771039218451417635424666164504781772052544083703626449143963291281603454828746834952649239052020125655295331256592946849101388096184090681406141290442450386797388064271296312996103655078364059458937102559019775813430219338063362286042562712 (mT 7) (mF 7)).isSome = true := by decide +kernel
theorem tk8 : (chk 11 27908166785146094329856056049231339051768658785700100675735050677751041631629695883047607201045606638370933885222929026861197092978730271608741686675152544105207012609545919491153566696436828216680323825168174267370388453079317462007267633953397471174612546064554630692941647699845889511145609980266574074844723531116241860856060897067079430373364968513856614757708907911330985014218306162189441518091886685756997776294092721763866118126746801034672547843424251919038519248336047971819408010674926554920262168489969932070156927396171052523618131978881024657250604462985133405229177138744200177909712485886265763295577316827069348540764712953334115352475063190906181859725462893233242507555580535655420470628665540980728337346250235588741056853980444210790284076850866039091075451987754492863607093632294724287408353426273418162823006158302486285181395174178740724358260849019447215589142379958754367716103448240383813986471582169641514270244356465119485394313101286632073821780777976780911560963454219347406192615997308729757614906085998704076064895368614895754894676668740157897446732185901039902325487232852821682008933580735311240978958004136074763674358685637306127333527437906260196071725619103263505018837145671571435761694090225289125777156364127294342651117237352475680266138746569905960499852841181700124032143503881138628627371498105267667240 (mT 8) (mF 8)).isSome = true := by decide +kernel
theorem tk9 : (chk 11 165887812848951425690706901106416569101075112319972219922325603043386023437739843055895104703226692446510503013224077624480755841611505688571830188406023053209590339193536260315561943645646005371252801569191900760326322763023004841430259209846175689311939148324383352979746466919530382255370849522463013417754059423009628816845182600010282520032318723510952104504586324858703512130008701110871053122712564831046890551990936633883738529986200304623162609114877674205293682778828820557805847983411889132579886534063136310903743876587902857101234355656444785775626328588756508182014970264918534080271105427417195463116882384004846299686621769815385538430111947652899780288020072725049921580025917841201763888015673185629024694688972518618528853697780362618900967599622940275999500177997963996742269984537042381267478678193183685151828465317855049522056167108875991767476875036809957929125950093198400992406876665639382680928971156318199418576711503179667161640668652326156054205027225558201417365012622528282651741042255336323701411187148280087133480428683245207117450373159346005185083731239662187461933078814237994839220229192211325472517781474362289413515442199595977538992067175574379918440388763857420005371612944218258336218339231055432413123359921539843662197958252668153617537140194053845495993555362306671700276324060770929631800340573671029410709786967497439943471619812046804217497677111250976 (mT 9) (mF 9)).isSome = true := by decide +kernel
theorem tk10 : (chk 11 159733555210197772705648703421242280519972914215180752775357357810510348456637974431780588930478188723643853261697520590405656583191291470243109820648609045813081369750824439617246224152848566529209860429763225304519902100013204537706230552837110284141531434137057191145030337478470732356683616478706806103715117100828451769402384079102461871303656065920052843637208295022943573890777819568902258748507874009935013220233907090763834355925163051502132908444306204751190372698698645108978458708228465245227610580168928826532673644829863962509619172486630848258603619909395475904046252389688482744505063027294568493780980398805174693121266071792082170502028059369052572249090201672907498869125946149087315998466208187431706114441459744619042508573440573831092819224233884825476829961421513351748905831046396587289612759453788369767490350048259695718778832280210538823463186102184169379480326322394868711439247494762925513881936585912193216747021151040145372609695589932277517986354446632 (mT 10) (mF 10)).isSome = true := by decide +kernel
theorem tk11 : (chk 11 4910618881731767938370660639624282225298633387058896204971075438313944318873875655827771754033829992200827056558082188499600513722129914392822197091655564334005947788059608725617157602657773262165110638083720654670326574860014991223232365088440719407213051118577057309443376051219807197421174637761710459897388165816954720100321311880206429805557995707296957648241282039467097553391220088164548745132524861192597873206087230482337032467499768585151969717254994236546439361598989430745766422314046999683308700351544887271554208729702438726914125094934858009419152418462085618623322704194658253064468624238200145247555793684258774906528402519514775819334414564485336600363663575868795355459910713746330237002711071645754946704488667592194920090858079933378612616736185118838733204072629843237925520279542189720229286699852254246086256388454438197770830956554211609159223161724823395358557490235405531039993542609005948571509251461627902304846795714195627339401158190827319278516915229949096614561877675175667501977027555333168373935197473716428724029336743072086954477237442730097676802240761227020496128912449923350172270845339987905008429122655194305263309088820947795540930418582364240468738770656592373431160864 (mT 11) (mF 11)).isSome = true := by decide +kernel
theorem tk12 : (chk 11 379377580398720205869600715096104020399416459896408647291382210752259722085976919484461020219040394037024482427085379076352696323772010396917573343448844861761238895596584080554927412947966228380208002083277725500920723726073723431133571839923787002837508189014145267907819538348121584913730198591729919719070183321052262936554343943720278660158675229173765085471045231413560039116507133612285566228722644027840358864129858960342213668609344589954536860422421620200983280477037533907225270982306476743776528078947051354424727946769945729216976187799688134054898383030406085391028142823258931602356532816892763049542777564217053738811405538026965796978578478750829108025766753625796195334827253393550361536196458600089229734383716333267224341776420210979009567143031804451841135288783579887353039674834077611906908140463535999627347923360792657195670890619636271713683278672809250128013434086042979741278922756940807010708828640340231866367850224000811325026649713231453935542257044489233449740680344483979343386955062374032133896219433192051161231866265895192745389547495010313209059575702158891858140566272972066269060037892789670789889846509917841851276674569208760139707894295607502116092828656644600696105665617835557962215933754626172582706719205930977985191171129680487792733388323704576245953449039118622174173808812160654732477331836234237214486494943425071155272554581678853950796418649652344659858029160731803695371816559614038909309205526897178552480598590325242839639537773762043162955132662326383774365303084477138674785485523113834848210429143676214338414468056587949185296219848856 (mT 12) (mF 12)).isSome = true := by decide +kernel
theorem tk13 : (chk 11 88400937759115214112460798850842595588662096725568535014979192405245815826453905597234780438700415180103751235792279639702544053926415923373088456618439742591483517270464976203594648971017798136104708456993751263890836324283315847240670613193963092109808848383691002689436667164505710695640886815588852803665255329432591925691872198606217824287239676780789785055042751767247728265788599625343649331925962719448700799445156486287826720448215023086780712165138044581570520688663110939716731782120668506659160465762867673129515414598940903806854553130565664647481213588308501843239782363806172498749586006934006080534380242832717209233789794279699643456331930285240683045989671335501353445419039529243876727664323542443400660120 (mT 13) (mF 13)).isSome = true := by decide +kernel
theorem tk14 : (chk 11 177759584959568809206751569854363037557809370073007649693900283200197534683030598720622976362228937357000233220757924868399963847258403513081785396150398884870978595299536380485351323207643111081093965938600684111624014641558462163541295842600959567740816472807720376112537708464965306360481816806683954844306345610016057460560949183532477528780889524396078883730216854302233130789573990545375584956339255024097672138243103743303690359655571809199177916560047971234426498893643498099812806525330259447750378462030404877239426618543226332972312761603952323249811406309584028185465511532872007673274592668987093374072458639334706304415358613923955843532525585233627958604748379150964450088671193912131961882818568054211423210716573255252843667109128548234873792649105888923382361166599326699269606966436464790432158061151943311994753872645306699700213302231774779608986953487813351920279210905674767944521829342940730065985780216769549346579971956866085490732262836393996061144134221851451892594244480410988509265006950338365309971924749959207664265290994628587247548313780687319472798615515008138502922492921525757096074108419621993433966661792 (mT 14) (mF 14)).isSome = true := by decide +kernel
theorem tk15 : (chk 11 1711100941997383130389785225625603448349267305332420898731553649401499567875597671871797748026131605419079120138431455385893944011729813403656741270378286402323094534605647734490178579159175786686081279158453158528406696525927645841707629982780812819354855523993637806289773265704293774218791909902216814801472999668956140692936771330062047090712837515893756097919630912089837660326243775241807918209633656127938019031217812210754085206424977599840120836861040477228611695789160972650124565692387495526194398712260616897307938659017885469241869301687052650514465388354316696421808306009360842260536683856696190567324987992446286889831000634233252678328523465944227031705780963267016560565857259517002425520157730016991353903002338693329670423197984055495574144347032814321991934244535352433222995841748546316994420665339421592747110158163994456489961349090727215696797547336504518218585068388946123278025797298950051267660630482893297522381919478269016857358507528516413638481800389492637226582798894640738755748796140828566581006470179272011392160522154700956899718378311395569333227721370936582440961942050246495550810982743597755946666570558551037209721183324125880447207837658490555175916527032428086172194575205618198191261812464348488198783504531680 (mT 15) (mF 15)).isSome = true := by decide +kernel
theorem tk16 : (chk 11 27743888516174969797572356957009698961065289287716996033726020144276999124625460933373579371642435376463298483996973103271168126011901896690652148168651344785892639310283101816253812307209493088765989061310132793972246667060111840341099841148569640740504965858886087673798380109278485242197622945327746246654411943977390484945755900732056909259345875197864797704683790326605543624595405585786875518415220306466373297968339717468639174692314606785278126608335619498897858170641170400229017877506415066033179391799404415895442459847806217341725922320188940777906127109401325424376599574072989272388038263956931919458805886227391682539106295491787875799521131786464425753296448542177485770584261427731742823063872930316500203760483257547417896219016223547385409419037223914184187609549677512527400221748570178799687134619878029444158813551477928234872372161941240575646795721427657344719876366777245832775082147522698776372259242380349194664425854796386751107752047849006307516382641975912623354394807062055557175381292627165593490506275477349677878858655803333012618284119115557903172984727055966127250407812838271299899954144714383543348923197852974108394331569891825398464620050147147193859947473274566286279113426208232974713518420867800904055910834795833929434283714994895616212730682229300377753839182289909218643699049699215809893285926718452908328 (mT 16) (mF 16)).isSome = true := by decide +kernel
theorem tk17 : (chk 11 165887812848951425690706901106416569101075112319972219922325600685509325783773377617796292942283159454327840527222418668613146321733832059107190406561215127350638963325009780365131866464436562583595264580184266453001669810482856160220097359287342598917174473934912097578950590327322673354250971026459924786006139377323462059245769323466962470793906037694766301264981911626416021099006993801224939020406352925504542978842918131209296958687847316658601507696093430520058474744672480951876930216961861016206580565011871582494021127607223384139040280499274055886648351908001163549472196465017241831128672726538045252429133272761347114495246630063072876920089227169694951084993814944527394548470660977337472037878281347302827075820019468175223341824318988210947804357104578186071660515615430355479603640443170950449604005451289303448655027075145923334768790418710647786309690128749488874579692870996679810410004082918657393909832196463729642667134819739883705760595348932558167086110286091138369282298889536825070235656034600405305351292150832859915397668073783609622935072156038990205490292568262323707423880555119425187210659941818825266791762067597905927437101274394561479589507683400227915432330717598031764721406205078937752851971190970916109138200900193582945900544361213990670772733983014729873714793545569125464005910116624912485127771352984781820634066924943641900468396633696435948288696570138720 (mT 17) (mF 17)).isSome = true := by decide +kernel
theorem tk18 : (chk 11 316560716165277943147946494920085545297257264832431708990039220938677273651047086642714950137002923499954515725332273659145826604001193823191339680464650247853255275016898474290461808802071416461294107336820611931078281397414698786683159660715931555925516510314488418942173647920719726473889482732360069406241909812632162327360612506028671448194840182007078129172846035757592085487284021306434579696675983377283651770982631866697309322533499261141010912923950610027906947888468992374344287599445044886350068073328228827043680530823492577346867931906032776790458733085630622640428814590362921657891973128774393557387068795860509184058400605834778354946236910800649859743902613653763112510732651301121054068017139182917118131260997407289879340829585320195913581255442505887503430023505208975892330065939684756856350841866397877087094617155449643968303880654292730713270967587805415873822299885396502698070121790318234594022830067677883053552552619715701308883876132876299849497147969498567425037725948419914335088316031643583335612523796608387659576995625605507029140077180670297548974738989659195511132064593274841635373549795368998901572666502425771145378037538669089885110751092873399452031606916372314185171171141358147173771285481549297330547170777637287519731550855981835543885207872262377340152269213068765041942912353107043490478571158159076511193795926561702326106073598048469447654419279759773797592560535802564236781703241295024235692360299884496985811839822142440450350421401820327515276839935046271210774388382987179630330479699031852706087663434578313009875370458046724660663544791192 (mT 18) (mF 18)).isSome = true := by decide +kernel
theorem tk19 : (chk 11 105295431248174327362634763386291956403115047267038671358902183861768473105845739094526349244718442548757056304742043927661371743705702564059525314646405833892813013520242547952583553619639265330328720827813005399783352301837626129478493922533657722580966445633311509953486918663247292668730325133256884423178505593307571364648809910400725170018430887135847180225733824111876405417803887746135543393947002747691688199412250344174007527226417424106949990777284014027229949958551314962442944251301652092378858972287725718968877033633316759196399306854015445516523856475283159892743334518165456109276855163162891666685846205124702641952897905057892005148229255609349334227346075750864773117329722933478650061711723573831636124824 (mT 19) (mF 19)).isSome = true := by decide +kernel
theorem tk20 : (chk 11 160302246842282026533398094431736387877529887690028935959499745869948615836620376240293178632023610088727219504561941388710602110955586293157870944445989973456820111811562659692847090948914891949315321119398564483399179641586821533880061341454536982270645365624865236542711452046220135705231280445135398936519903939162653512567146661130157645135212598078540452208747881067795309737373561550355084823442512949144699374020510731052741741750239365603100534194680226002761435417778694630374221702404402909917250496575113932845610124880535389011361960617838818346453021860899000790255365856451650141698876166475571824497210980053815948125644634812179554898361349419061191856093168954093424617507818907893606052439800273464132380490825520676928215902504364649869076596778405019688615906901648652647432381820328771780722695526271691011566679299142930228107155893887696895517723488038625400364965424425321015697798274485401273169161063745789048010528836545896373704107397452395694751454642472 (mT 20) (mF 20)).isSome = true := by decide +kernel
theorem tk21 : (chk 11 4910618881731765188382648491030924927511383639733022882587483887040117093781140396167131978971436298424398962159305344735203897419826501858765256531250809453607749860014684220588138642703506084082299968990976580957865113282142723442418518239398261252304926581467322375582308488080194986875464483346682666083721361110177204567934399722030345179294674719932298746648588130113380677934836637576472059732625954647584193934095484987817533690439225662659764045635057801291685450331939711991963380661322690768101009077037255308137600561151537751978240904113034399731954774900100747625617042636496367668076089302619576109128523792369944868154530550417300518923990587744696140819700615138725264487067643653356039320631675041772205690439301084591529811750748277275826870629237542993980839900530403485238592424237928634130665661110173865307844566561853392318913685538377348494919940632767260717046575780129083022533810745966959622467791613003318343209232648359182318134161844393912026509046206442937404824536289214060340286836989958885759668090849398414081647663387805949483739705362721607459246723288311241063272223115447150178648576480763147248777783060506292372042093679050696213572555946035733323816004377681280425316448 (mT 21) (mF 21)).isSome = true := by decide +kernel
theorem tk22 : (chk 11 177821192572158922033859706446686102396957864038862022603531180138848546254668505154507029193494633789438641350093283362792653758569733704691574302050738952785670012603995894730475122540146956263970346232830374125510213014964761703154124469121216579123119659190929956647761470096935910195087001877278996326786675054050926179611562302020978540601617246781830289413361434083278643946573769469475572449295337728741311208673907519333954752835608992976133911336022186372539694110189041557292512728898037117510054142460120984815243645034220807918614132659822422869568482306274381402045050441423343895784072438116239648782091756701994535392226598180910591935725480596434966690034033634022455974881340119922975246109170049322502165933718372272198943738694435381808904316127574701864217453134683149615472408055379996473823325775315042372962421395735699726260014130016403853953331340994024935045169026973308295444978775355425034594539683721049761410144774745940171515751835090878479589748503504101903694846458443187537191227297151656592277778810485267705140460135725314778528341406073442624146673244568151732028158260645966215884584910688302465529499808 (mT 22) (mF 22)).isSome = true := by decide +kernel
theorem tk23 : (chk 11 1711100939705180485958975444326131469621217383426372721617044466733484424106149775526673704848075643167274120485239780690489057601070378553950552159763123792288026995223892560859621713399040754265287310886047413012176312142719802748207690322949580164881313804086370045593716457875636578282432983758829188176658051862076710815470014309468495230516425118422302285234951004798217234174127600838395505431376378894601017949532960065408902695147291191778569535360582680537530948957016163207394938787555636142915289059146542204260772008426258258996830604513636714550089873284480259786394531209717067407632425642888050649249328876339542976202241716030904654161512584209048538690497126113186592538719502184127593484890846175417635646660357227219466524757374860467030635870334046375959856697150512245205641181247137817178182849732830390376057860519302751032520463661792773925598349254437474810714512572907463899174182611283495218277632273389201071871656510031197720396892802577780097555140908642090080422421362470323282842247796186044010930414052186964946607989466748921669028192785809741776453492170635559245203797863246009992949628281796816855218885310651582304645471007808822037764930755071513682445566398597157461910516007550888104079823249525183828633256476896 (mT 23) (mF 23)).isSome = true := by decide +kernel
theorem tk24 : (chk 11 246263058013754034594858527674522538255834545516555439969509063444343446810641017368037285605081933664890925761158152133011875289155849977922212933287189195956963288976360406737492300991305565118051794753738583436754670748717903842362708580203876538298495767223944306696218148514008617681841247424239319014676193752403809304447909265586899023635389669220347371459035613957555334591185589487425457193346503465022547943864321491442018766431550565061035160087900347314471666172700408326673957130567219974620761020320725823249278566279095846191045285749313755767423208126862196133666665432843301207683674110066725993895119152155995628920747386336078985986768140377391750068767785799928887184782790259897368175966344802615505758816549923304896533470056936996249005768001251416849139205140097631837277190355999784160546216537517959250616462546496094531117752945868933326802968172208953790022694871628224640105823347981978921039552878450136185525267896475568893050414409515336420952172001109435596192137602027349087076109927576752291465551157805146130223434042487791992799526214682452181524034530458660399491437115510919844420629739237286849492027059270969324145523868356074333933082768084017097219921441805427996752436790225802762440024107821832819700379957764414259211415418102243537139028750616142195066215545793989187831963865681420642716664197617043039441795770601696 (mT 24) (mF 24)).isSome = true := by decide +kernel
theorem tk25 : (chk 11 553363385415610011639244875460634817372779857012575899587081699076722640212719005381495015149688069897573141272646757387706466504963140852958739913673153594209928770769046825592500555695091288861402287129891575518582300011346556009654694217045011618146578377173386377049596614343250871398586751932795071032179671938471458453892806745737832611065319338692853040245062373039213227054316240618982994773238098335301990763759318349095101608151866813417426758994480790289977335927388555222232345702355477982705273587823767710508790321068000795342823978990999055482926012682532766988446805535270952461067473057178478550047261976939462532082174465472359798602247505643901676871398880387062970099325847453787189927354462199916095298398102043014920255244765992873669551073614895512270554551745215837751166238891660571648339942648086751574191252831409108668291754993385485641472316504072521095403796746673638503678336088370763707988887698753334888288782208026608218091969330354938973777271379021181349725177940175501241303926589509514168445795419864151208860444996090083642623957000850043379648642326959851291721298168659427480 (mT 25) (mF 25)).isSome = true := by decide +kernel
theorem tk26 : (chk 11 177266724058847109665801078194415949125140174447643010536102245044743875101932358261410081013550649983834787622638285563714741440624381491957791378840878801058867617478943234380556305499684477379960741164395545536428839503576371177582426630056084439929404053851411664303006151025512493877336773249876119843961595431243743811437752632897872511495883557175329391624178369116521815237445373721235837769249436165136535049634126448741513858716858154880208245634891070425591293336319837200160062785211978656230325213585063725658231889501915173568287674089766541418853133254337309426546057670984603034249067927974220047883236962811962255340325628267428219238042431184948746700751960549258504271108405524256891834656450635490655576431496987118689486855540382973951085918561899368729641311013829915450652078351580978848648555284298122279770768192878911878794301972897817872046397950843557351282039152914306677391228013449527839450815391455353820621736893159436500116925308729800466099466574794356216075571691215180207904642642083835762385149830550626242481880447018836665431092423461634991868060787453403248883637841277078127597331294259750547327406304 (mT 26) (mF 26)).isSome = true := by decide +kernel
theorem tk27 : (chk 11 1706886597846641291821915096109446216699024141430609154513550102298671166699087885110084979982622047708711030097696882149512602147719618826500089975830815608387357596162920692447801093512254210985937208960594000900685380945700652356198154998573460154314387185877273472614713318136187570012609080688616234397645491128216725432124308791267053931749006539024703738743466829081468988392550984958938133570900173289305471002296214020971207495635624983556949551851460643831657924041970265491459251991829134197442614032205835772985123000885107224964874727913202496158344868082073042879780197773429665936785815921009287339358962834235528369375544305524920241316334253445369102000102082301165517592639722107795956894976094180910600772212643519825576067004263393328773257793386893820382838242953849564850603567510958602388482948340712920166900255227456684033251720346368392816037655414557051782748935757047931605681232551159041791285697946917585194430475518599275486104546179992207284993448195764604964291745512589097075748849743474000878008968054651768593029438964185956666051179373453097542352496767498353133468526155433758234087327168814009848203079553432794921584261867795851543205649399809857319158479138671768211536574163117194660265912388688753928410153140384 (mT 27) (mF 27)).isSome = true := by decide +kernel
theorem tk28 : (chk 11 177328331671437222492909214786739013964288668413497383445733141983394886673569712305555156286338864273223321992829141825325956409081200932547454084780682525833093962532948153748397130939423809070481310940262921426772238035333825534952119387222896389579477312330944093214824740704510357747672992804005218268814844022774215905491782029615800058002921924144685248171862508204592913580629738284595525278740943955292806096658159531074450164707665981220353570206263290802976403299880798361206784206632020510359968751701519871629719664490945239665547253009305117905698548927782499460794847982903155558705325570039936785308442270377293263642529330607132169319216187108866365200231895710510350995031849486929651311584589313163028776609095143087558170039173916681339090519844946012735214443600061740438392088483383364059244715823590606647066680542114686175980028734877948723341811135400375426369564897207158108808429911881988292808609142434960192021986744328235903834055526278071898615752154695727035736334993630056710299720648178301934883655034265683595550702427733341582754830241169481678799839561391706621606915317155935854660195367591824799276585184 (mT 28) (mF 28)).isSome = true := by decide +kernel
theorem tk29 : (chk 11 1706886595554430023312319045972276740582062379412925159068170793730291748762646204654585914128265128076999110492952479665636533047897076434336598585534212942940662996794284958253300865644013137149668669798722830006712352012832101937717753772996909256348643984357624052285665092456905008287139245637768926446293665798375294073006600079584003865676414704554196337972664177377667232886312873880817032813616898849864174680669577669988533776959136153852282128835844222156575021619207636250921210109272473974441674197355622368534507365393153133981260540329591401496084053985223937220258962844072105682113335934437387766274803972549761584627484856209689182298368791208758784086268851063069380169984762163018113140272225501327993823038734198142523856153261170356788846112629188383818358147881520242692067008364215619052398002368800251803249245396281596041272453250321556654764093940691876192007616070569540599852770362709595962728413555760542471613754253385562133942062430304430510136102199962369260801485877744383674443573331566240360535875858508906238065950106945569427423885811249726073599164365245616786075882251875827113164935533769006288851795287468181359692741258297676897026612484448872098023507640249722111296667306179230181046241957937329066051568156832 (mT 29) (mF 29)).isSome = true := by decide +kernel
theorem tk30 : (chk 11 160099538390105937290880087968400260384137647140228663485773356570912293080193778533354785223288619011052843572211856582588642227250476315408056087718218224469898093186606714894554927533598829484741541119397050468061409436465715253968146280410189671377608202069721342471560727407520113894767201106023037072619825969619875344553263824247871505943130626108453462943825614371705820548517627751539724897695204985705680164193807138290348476330197521722837232075865538856891490452675167752131582697620398245477401627418089696978425605244669335771399666499954000563674794235821948068243157826005390225234015980367730432885801021269319647400920310428152077061237097487509867913560216 (mT 30) (mF 30)).isSome = true := by decide +kernel
theorem tk31 : (chk 11 51670372124068926327907693360085335515110420898439130004104505159215649723022757534237515980120903368906629603519089688200622048035343128173439348725737737907055115416681503732391196887592410992090850224519438171332720436270080011383029870727490049172161150138788591419717549522142479046656285342352971820491895553324159146984773271766495367413687203882731364045518998187517675017258173261011311870929040897185830138495932579392865026585950531699366997524613476994314156534177371848890517345218008867755374625904010823095769693178427953518835057643402899833109169210982261628469229710942412431675693136962867080439097855066349675796184287547901427271104412404760511612384831541170376874440447884625565243583713918881370763407025342791790112132171115532137388085871241832137244122509351097398258099178674397457833208244675767522382086214867326994916166269426431446027232496000835807332922070795400278093162239963675748071590949051561162073444093077170694451630172010991950210193331703233809723041525815442673004575257695285025624609429343514304247599734245094720898114353845577926513093167386043393377899389012366675505166423772156455106267176178296242271456978662403357950825157685054088181900600829820285059154865484745805113917773276407321988650910440434662573447778123077274337680410133104713816364638017928182953989658861125358717616935064 (mT 31) (mF 31)).isSome = true := by decide +kernel
theorem tree_ok : ∀ m, m < 32 → ∃ code, (chk 11 code (mT m) (mF m)).isSome = true
  | 0, _ => ⟨_, tk0⟩
  | 1, _ => ⟨_, tk1⟩
  | 2, _ => ⟨_, tk2⟩
  | 3, _ => ⟨_, tk3⟩
  | 4, _ => ⟨_, tk4⟩
  | 5, _ => ⟨_, tk5⟩
  | 6, _ => ⟨_, tk6⟩
  | 7, _ => ⟨_, tk7⟩
  | 8, _ => ⟨_, tk8⟩
  | 9, _ => ⟨_, tk9⟩
  | 10, _ => ⟨_, tk10⟩
  | 11, _ => ⟨_, tk11⟩
  | 12, _ => ⟨_, tk12⟩
  | 13, _ => ⟨_, tk13⟩
  | 14, _ => ⟨_, tk14⟩
  | 15, _ => ⟨_, tk15⟩
  | 16, _ => ⟨_, tk16⟩
  | 17, _ => ⟨_, tk17⟩
  | 18, _ => ⟨_, tk18⟩
  | 19, _ => ⟨_, tk19⟩
  | 20, _ => ⟨_, tk20⟩
  | 21, _ => ⟨_, tk21⟩
  | 22, _ => ⟨_, tk22⟩
  | 23, _ => ⟨_, tk23⟩
  | 24, _ => ⟨_, tk24⟩
  | 25, _ => ⟨_, tk25⟩
  | 26, _ => ⟨_, tk26⟩
  | 27, _ => ⟨_, tk27⟩
  | 28, _ => ⟨_, tk28⟩
  | 29, _ => ⟨_, tk29⟩
  | 30, _ => ⟨_, tk30⟩
  | 31, _ => ⟨_, tk31⟩
  | n + 32, h => absurd h (by omega)
theorem lt32 : ∀ x, x < 64 → x.testBit 5 = false → x < 32 := by decide +kernel
theorem row_bits (q : Nat → Bool) : ∀ (l : List Nat) (x : Nat), x < 64 → (∀ w ∈ l, w < 6) → l.foldl (fun x w => if q w then x ||| 2 ^ w else x) x < 64 ∧ ∀ k, (l.foldl (fun x w => if q w then x ||| 2 ^ w else x) x).testBit k = (x.testBit k || (decide (k ∈ l) && q k))
  | [], x, h, _ => ⟨h, fun k => by simp⟩
  | w :: l, x, h, hl => by
    rw [List.foldl_cons]
    have p2 : ∀ i, i < 6 → 2 ^ i < 64 := by decide
    have hx : (if q w = true then x ||| 2 ^ w else x) < 64 := by
      split
      · exact Nat.or_lt_two_pow (n := 6) h (p2 w (hl w (.head _)))
      · exact h
    obtain ⟨h1, h2⟩ := row_bits q l _ hx fun v hv => hl v (.tail _ hv)
    refine ⟨h1, fun k => ?_⟩
    rw [h2]
    by_cases e : w = k
    · subst e
      cases hq : q w with
      | true => simp [Nat.testBit_or]
      | false => simp
    · have e' : ¬ k = w := fun z => e z.symm
      cases hq : q w with
      | true => simp [Nat.testBit_or, e, e']
      | false => simp [e']
theorem pair_ok : ∀ v, v < 5 → (pairs.getD v (0, 0)).1 < 6 ∧ (pairs.getD v (0, 0)).2 < 6 := by decide
theorem start_T {ms : List Nat} (S : Sym ms) {m F : Nat} (hb : ∀ v, v < 5 → m.testBit v = adj ms (pairs.getD v (0, 0)).1 (pairs.getD v (0, 0)).2) : ∀ (l : List Nat) (x : Nat), (∀ i ∈ l, i < 5) → AgreeG ms x F →
    AgreeG ms (l.foldl (fun x i => if m.testBit i then x ||| two (pairs.getD i (0, 0)).1 (pairs.getD i (0, 0)).2 else x) x) F
  | [], x, _, A => A
  | i :: l, x, hl, A => by
    rw [List.foldl_cons]
    refine start_T S hb l _ (fun j hj => hl j (.tail _ hj)) ?_
    have hi := hl i (.head _)
    split
    next q => exact A.yes S (pair_ok i hi).1 (pair_ok i hi).2 (by rw [← hb i hi]; exact q)
    next => exact A
theorem start_F {ms : List Nat} (S : Sym ms) {m T : Nat} (hb : ∀ v, v < 5 → m.testBit v = adj ms (pairs.getD v (0, 0)).1 (pairs.getD v (0, 0)).2) : ∀ (l : List Nat) (x : Nat), (∀ i ∈ l, i < 5) → AgreeG ms T x →
    AgreeG ms T (l.foldl (fun x i => if m.testBit i then x else x ||| two (pairs.getD i (0, 0)).1 (pairs.getD i (0, 0)).2) x)
  | [], x, _, A => A
  | i :: l, x, hl, A => by
    rw [List.foldl_cons]
    refine start_F S hb l _ (fun j hj => hl j (.tail _ hj)) ?_
    have hi := hl i (.head _)
    split
    next => exact A
    next q => exact A.no S (pair_ok i hi).1 (pair_ok i hi).2 (by rw [← hb i hi]; simpa using q)
theorem concl {ms : List Nat} (S : Sym ms) : Concl ms := by
  obtain ⟨h1, h2⟩ := row_bits (fun v => adj ms (pairs.getD v (0, 0)).1 (pairs.getD v (0, 0)).2) (List.range 5) 0 (by decide) (fun w hw => by have := List.mem_range.mp hw; omega)
  generalize (List.range 5).foldl (fun x w => if adj ms (pairs.getD w (0, 0)).1 (pairs.getD w (0, 0)).2 = true then x ||| 2 ^ w else x) 0 = m at h1 h2
  have hm : m < 32 := lt32 m h1 (by rw [h2]; simp)
  have hb : ∀ v, v < 5 → m.testBit v = adj ms (pairs.getD v (0, 0)).1 (pairs.getD v (0, 0)).2 := fun v hv => by rw [h2]; simp [hv]
  have A0 : AgreeG ms 0 0 := fun u w _ _ => ⟨fun t => (by rw [Nat.zero_testBit] at t; cases t), fun t => (by rw [Nat.zero_testBit] at t; cases t)⟩
  have hr : ∀ i ∈ List.range 5, i < 5 := fun i hi => List.mem_range.mp hi
  have A : AgreeG ms (mT m) (mF m) := start_F S hb _ _ hr (start_T S hb _ _ hr A0)
  obtain ⟨code, hc⟩ := tree_ok m hm
  obtain ⟨r, hr⟩ := Option.isSome_iff_exists.mp hc
  exact chk_sound S 11 _ _ _ r hr A
theorem law_net {ms : List Nat} (S : Sym ms) : lawB (cst ms) = true := by
  unfold lawB
  cases e : lineOf (cst ms) with
  | some l =>
    have O := line_sound S e
    show (dueB (cst ms) && decide (readOf (writtenU l (cst ms)) = cst ms)) = true
    unfold dueB
    rw [off_true S O, threes_nil S O, read_is S O]
    simp
  | none =>
    show (!dueB (cst ms)) = true
    unfold dueB
    rcases concl S with ⟨l, O⟩ | h | h
    · exact (line_some S O e).elim
    · rw [h]; rfl
    · rw [h]; simp
theorem law_line {sc : List Int} : ∀ l, lineOf (netN sc) = some l → l.length = 6 ∧ ∀ k ∈ l, k < 6 := by
  obtain ⟨ms, e, S⟩ := netN_sym sc
  rw [e]
  exact fun l h => law_line_ S h
theorem law_true (sc : List Int) : lawB (netN sc) = true := by
  obtain ⟨ms, e, S⟩ := netN_sym sc
  rw [e]
  exact law_net S
end

end Mine
open PySem PySem.W PyProof.Rows
open_top Mine.hd for PySem.Challenge.rw_tp0003_01
namespace Mine
theorem booked {K : PySem.W.Frag} {h : Heap} (X : K.In h) (T : ∃ mc, h.Ns cStatics mc ∧ mc "sys.int_max_str_digits" = none)
    (e : (match K.lookup cStatics with | some o => (match o.data with | .dict es _ => (nsFind es sharingNotToldKey).isNone | _ => false) | none => false) = true) : NoneBooked h := by
  obtain ⟨mc, hn, _⟩ := T
  refine ⟨mc, hn, ?_⟩
  obtain ⟨o, es, ep, ho, hd, hk, hm⟩ := hn
  cases hl : K.lookup cStatics with
  | none => rw [hl] at e; cases e
  | some o' =>
    have h1 := X _ _ hl
    rw [ho] at h1
    cases h1
    rw [hl] at e
    simp only [hd] at e
    rw [← hm]
    simpa using e
noncomputable def biNames : List String := ["range", "len", "min", "max", "round", "enumerate"]
theorem bi_of {p : Program} {loose : List Str} {mean : ExcName → Option Value} {mg mb : Str → Option Value} {h : Heap} (T : Top p loose mean mg mb h)
    (e : (biNames.all fun x => !(startupNames.contains (Str.ofString x)) && !(loose.contains (Str.ofString x)) && !(((recsOf p).map (·.name)).contains (Str.ofString x)) && !(((litsOf p).map (·.1)).contains (Str.ofString x)) && !(((clssOf p loose).map (·.name)).contains (Str.ofString x))) = true)
    (e2 : (biNames.all fun x => !(Str.ofString x == ("__name__" : Str))) = true) :
    ∀ x ∈ (["range", "len", "min", "max", "round", "enumerate"] : List String), mg (Str.ofString x) = none ∧ mb (Str.ofString x) = bootBuiltins (Str.ofString x) := fun x hx => by
  have h1 := List.all_eq_true.mp e x hx
  have h2 := List.all_eq_true.mp e2 x hx
  simp only [Bool.and_eq_true, Bool.not_eq_true'] at h1 h2
  have nm : ∀ {l : List Str}, l.contains (Str.ofString x) = false → Str.ofString x ∉ l := fun {l} q hm => by
    have := List.contains_iff_mem.mpr hm
    rw [q] at this; cases this
  exact ⟨T.free _ (nm h1.1.1.1.1) (nm h1.1.1.1.2) (nm h1.1.1.2) (nm h1.1.2) (nm h1.2), T.builtins _ (by simpa using h2)⟩
end Mine
set_option maxHeartbeats 8000000 in
theorem PySem.Challenge.cw_tp0003_01_holds : PySem.Challenge.rw_tp0003_01.Holds := by
  exact Mine.hd (by
    k_fill
    intro w s₀ s₁ mg mb G Y fa o pm cd doc dV kV ho hd hcd hD hmg hg args vals as hpre hlay hrd hwl hlo
    have KX := kIn_of Y
    have X := (Ground.X G).1
    have V := (Ground.X G).2
    refine Ground.open G ?_
    intro T B D TE TW
    wrow_args hpre hlay hrd hwl hlo
    have hgl : Mine.Gl mg mb s₁.heap := {
      g := T.g
      b := T.b
      nolimit := T.nolimit
      fn := fun d hd => T.fn d (by rw [show recsOf Mine.hd.view_39 = recsOf PySem.Challenge.pw_tp0003_01 by kernel_rfl]; exact hd)
      bi := Mine.bi_of T (by kernel_rfl) (by kernel_rfl)
      bk := Mine.booked KX T.nodigits (by kernel_rfl) }
    refine Mine.law_call ⟨rfl, by decide, by decide⟩ hgl hmg (by assumption) (by assumption) (by omega) Mine.law_line (Mine.law_true _) fun h d t g' hk hgg => ?_
    refine ⟨.inl ⟨_, _, [], rfl, fun _ => rfl, ReadsW.bool true, ?_, fun _ => ⟨List.nodup_nil, fun _ hm => (nomatch hm)⟩⟩, .of_keep hk, rfl, ?_⟩
    · first | rfl | wrow_post
    · rcases hgg with e | e
      · rw [e, hg]; exact AllBare.empty
      · rw [e, hg]; exact AllBare.empty.push rfl)

