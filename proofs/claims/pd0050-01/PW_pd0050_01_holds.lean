import PyProof.Rows.All
import Wide.All
import OpenK.AllK
import Wide.FinOn
import PySem.Challenge.RW_pd0050_01
set_option Elab.async false

section -- Hd
open PySem PySem.W PyProof.Rows
set_option Elab.async false
set_option maxRecDepth 100000
set_option maxHeartbeats 0
namespace Mine
/-- the look at the law -/
theorem law_of_row (h : PySem.Challenge.rw_pd0050_01.row.wellSaid = true → PySem.Challenge.rw_pd0050_01.row.Holds) : PySem.Challenge.rw_pd0050_01.Holds := by
  o_law
  exact h (by assumption)
/-- the rows that the head keeps -/
def vw : Program := PySem.W.view PySem.Challenge.pw_pd0050_01 [0, 4, 6, 8, 9, 11, 13, 15, 16, 17, 18, 19, 20, 21, 23, 24, 25, 26, 27, 28, 29, 30, 31, 32]
def lo : List Str := ["capwords"]
-- the left run at once, without twins of the text's own heap and view: those fill 20 MiB of the compiled file
local macro_rules | `(tactic| o_law) => `(tactic| refine law_of_row fun said => ?_)
local macro_rules | `(tactic| o_head $H:term) => `(tactic| (
  apply holds_open (r := PySem.Challenge.rw_pd0050_01.row) (q := vw) (loose := lo) (Xt := fun s => xlAt vw [] s && recOk (RowW.records (PySem.Challenge.rw_pd0050_01.row).toRowW) s) (XP := XL vw []) (Yf := Hook.obs $H) (Ya := Hook.val $H) (YP := Hook.says $H) (N := 2654) (hY := Hook.of $H) (hYk := Hook.keeps $H) (hX := fun s e => xl_of s (Bool.and_eq_true_iff.mp e).1) (hXk := XL.keeps) (hdef := by rfl) (hp := by rfl) (hk := by rfl) (hRf := fun s e => recFacts_of (Bool.and_eq_true_iff.mp e).2) (hwr := by rfl) (k1 := by assumption) (ok := by decide +kernel) (hb := ⟨rfl, rfl, rfl, rfl, rfl, by decide +kernel⟩)
  focus (intro w; unfold openEnds topFrom fencedOpening; rw [PySem.W.Fast.te14364793385576792824, PySem.W.Fast.te14082659384304107361, PySem.W.Fast.te10274390034422433532, PySem.W.Fast.te14289696077712309145, PySem.W.Fast.te1435165496053646825, PySem.W.Fast.te4187177175401517315]; kernel_rfl)))
open_top hd for PySem.Challenge.rw_pd0050_01
end Mine
end

section -- F1
open PySem PySem.W PyProof.Rows
set_option Elab.async false
set_option maxRecDepth 100000
namespace Mine

/-- the data that the walk speaks of -/
inductive D where
  | none
  | bool (b : Bool)
  | int (i : Int)
  | str (x : Str)
  | list (l : List D)
  | tuple (l : List D)
  | val (v : Value)

mutual
inductive Rep (X : Addr → Prop) (h : Heap) : Value → D → Prop
  | none : Rep X h .none .none
  | bool (b : Bool) : Rep X h (.bool b) (.bool b)
  | int (i : Int) (t : Tok) : Rep X h (.int i t) (.int i)
  | str (x : Str) (t : Tok) : Rep X h (.str x t) (.str x)
  | list {a : Addr} {vs : List Value} {ds : List D} : ¬ X a → h.IsList a vs.toArray → RepAll X h vs ds → Rep X h (.ref a) (.list ds)
  | tuple {a : Addr} {vs : List Value} {ds : List D} : IsTup h a vs.toArray → RepAll X h vs ds → Rep X h (.ref a) (.tuple ds)
  | val (v : Value) : Rep X h v (.val v)
inductive RepAll (X : Addr → Prop) (h : Heap) : List Value → List D → Prop
  | nil : RepAll X h [] []
  | cons {v : Value} {vs : List Value} {d : D} {ds : List D} : Rep X h v d → RepAll X h vs ds → RepAll X h (v :: vs) (d :: ds)
end

/-- every list and tuple stays -/
def SeqKeep (h h' : Heap) : Prop := ∀ b o xs n, h.get? b = some o → o.data = .seq xs n → h'.get? b = some o
def Keep (h h' : Heap) : Prop := ∀ b o, h.get? b = some o → h'.get? b = some o
theorem Keep.seq {h h' : Heap} (k : Keep h h') : SeqKeep h h' := fun b o _ _ e _ => k b o e
theorem Keep.refl (h : Heap) : Keep h h := fun _ _ e => e
theorem Keep.trans {h h' h'' : Heap} (k : Keep h h') (k' : Keep h' h'') : Keep h h'' := fun b o e => k' b o (k b o e)
theorem SeqKeep.trans {h h' h'' : Heap} (k : SeqKeep h h') (k' : SeqKeep h' h'') : SeqKeep h h'' := fun b o xs n e d => k' b o xs n (k b o xs n e d) d
theorem Keep.push (h : Heap) (o : Obj) : Keep h (h.push o) := fun _ _ e => Heap.get?_push_of_some o e

theorem isList_seqKeep {h h' : Heap} {a items} (k : SeqKeep h h') (x : h.IsList a items) : h'.IsList a items :=
  let ⟨o, ho, hc, n, hd⟩ := x; ⟨o, k a o _ _ ho hd, hc, n, hd⟩
theorem isTup_seqKeep {h h' : Heap} {a items} (k : SeqKeep h h') (x : IsTup h a items) : IsTup h' a items :=
  let ⟨o, ho, hc, n, hd⟩ := x; ⟨o, k a o _ _ ho hd, hc, n, hd⟩

mutual
theorem Rep.up {X : Addr → Prop} {h h' : Heap} (k : SeqKeep h h') : ∀ {v : Value} {d : D}, Rep X h v d → Rep X h' v d
  | _, _, .none => .none
  | _, _, .bool b => .bool b
  | _, _, .int i t => .int i t
  | _, _, .str x t => .str x t
  | _, _, .list n a r => .list n (isList_seqKeep k a) (RepAll.up k r)
  | _, _, .tuple a r => .tuple (isTup_seqKeep k a) (RepAll.up k r)
  | _, _, .val v => .val v
theorem RepAll.up {X : Addr → Prop} {h h' : Heap} (k : SeqKeep h h') : ∀ {vs : List Value} {ds : List D}, RepAll X h vs ds → RepAll X h' vs ds
  | _, _, .nil => .nil
  | _, _, .cons a r => .cons (Rep.up k a) (RepAll.up k r)
end

mutual
/-- other lists to keep off -/
theorem Rep.off {X X' : Addr → Prop} {h : Heap} (k : ∀ a, X' a → X a ∨ h.get? a = Option.none) : ∀ {v : Value} {d : D}, Rep X h v d → Rep X' h v d
  | _, _, .none => .none
  | _, _, .bool b => .bool b
  | _, _, .int i t => .int i t
  | _, _, .str x t => .str x t
  | _, _, .list n a r => .list (fun q => (k _ q).elim n fun e => by obtain ⟨o, ho, _⟩ := a; rw [ho] at e; cases e) a (RepAll.off k r)
  | _, _, .tuple a r => .tuple a (RepAll.off k r)
  | _, _, .val v => .val v
theorem RepAll.off {X X' : Addr → Prop} {h : Heap} (k : ∀ a, X' a → X a ∨ h.get? a = Option.none) : ∀ {vs : List Value} {ds : List D}, RepAll X h vs ds → RepAll X' h vs ds
  | _, _, .nil => .nil
  | _, _, .cons a r => .cons (Rep.off k a) (RepAll.off k r)
end

theorem RepAll.length {X : Addr → Prop} {h : Heap} : ∀ {vs : List Value} {ds : List D}, RepAll X h vs ds → vs.length = ds.length
  | _, _, .nil => rfl
  | _, _, .cons _ r => by rw [List.length_cons, List.length_cons, r.length]
theorem RepAll.append {X : Addr → Prop} {h : Heap} : ∀ {vs : List Value} {ds : List D}, RepAll X h vs ds → ∀ {ws : List Value} {es : List D}, RepAll X h ws es → RepAll X h (vs ++ ws) (ds ++ es)
  | _, _, .nil, _, _, k => k
  | _, _, .cons a r, _, _, k => .cons a (r.append k)
theorem RepAll.get {X : Addr → Prop} {h : Heap} : ∀ {vs : List Value} {ds : List D}, RepAll X h vs ds → ∀ {k : Nat} {d : D}, ds[k]? = some d → ∃ v, vs[k]? = some v ∧ Rep X h v d
  | _, _, .nil, _, _, e => by simp at e
  | _, _, .cons a _, 0, _, e => by cases e; exact ⟨_, rfl, a⟩
  | _, _, .cons _ r, k + 1, _, e => r.get (k := k) e
theorem RepAll.getV {X : Addr → Prop} {h : Heap} : ∀ {vs : List Value} {ds : List D}, RepAll X h vs ds → ∀ {k : Nat} {v : Value}, vs[k]? = some v → ∃ d, ds[k]? = some d ∧ Rep X h v d
  | _, _, .nil, _, _, e => by simp at e
  | _, _, .cons a _, 0, _, e => by cases e; exact ⟨_, rfl, a⟩
  | _, _, .cons _ r, k + 1, _, e => r.getV (k := k) e
theorem RepAll.take {X : Addr → Prop} {h : Heap} : ∀ {vs : List Value} {ds : List D}, RepAll X h vs ds → ∀ n : Nat, RepAll X h (vs.take n) (ds.take n)
  | _, _, _, 0 => .nil
  | _, _, .nil, _ + 1 => .nil
  | _, _, .cons a r, n + 1 => .cons a (r.take n)
theorem RepAll.drop {X : Addr → Prop} {h : Heap} : ∀ {vs : List Value} {ds : List D}, RepAll X h vs ds → ∀ n : Nat, RepAll X h (vs.drop n) (ds.drop n)
  | _, _, r, 0 => r
  | _, _, .nil, _ + 1 => .nil
  | _, _, .cons _ r, n + 1 => r.drop n

/-- the store that the walk speaks of -/
abbrev Sto := List (Str × D)

structure EnvOk (X : Addr → Prop) (env : Env) (h : Heap) (μ : Sto) : Prop where
  kind : env.scope.kind = .function
  glob : env.globals = mainGlobals
  blt : env.builtins = builtinsNs
  ns : ∃ m, h.Ns env.locals m ∧ ∀ x d, μ.lookup x = some d → env.kindOf x = some .local → ∃ v, m x = some v ∧ Rep X h v d
  cell : ∀ x d, μ.lookup x = some d → (env.kindOf x = some .cell ∨ env.kindOf x = some .free) → ∃ c v, env.cells.lookup x = some c ∧ h.IsCell c (some v) ∧ Rep X h v d

theorem EnvOk.up {X : Addr → Prop} {env : Env} {h h' : Heap} {μ : Sto} (F : EnvOk X env h μ) (k : Keep h h') : EnvOk X env h' μ where
  kind := F.kind
  glob := F.glob
  blt := F.blt
  ns := let ⟨m, hn, hv⟩ := F.ns; ⟨m, hn.keeps k, fun x d e l => let ⟨v, a, r⟩ := hv x d e l; ⟨v, a, r.up k.seq⟩⟩
  cell := fun x d e l => let ⟨c, v, a, b, r⟩ := F.cell x d e l; ⟨c, v, a, b.keeps k, r.up k.seq⟩

/-- what stands at every heap of the run -/
structure Gd (w : World) (mg mb : Str → Option Value) (X : Addr → Prop) (h : Heap) : Prop where
  k : (hd.heap_1 w.params).In h
  g : h.Ns mainGlobals mg
  b : h.Ns builtinsNs mb
  nolimit : h.NoLimit
  bu : ∀ x : Str, x ≠ "__name__" → mb x = bootBuiltins x
  x : ∀ a, X a → ∃ o, h.get? a = some o
theorem Gd.up {w : World} {mg mb : Str → Option Value} {X : Addr → Prop} {h h' : Heap} (G : Gd w mg mb X h) (k : Keep h h') : Gd w mg mb X h' :=
  ⟨G.k.keeps k, G.g.keeps k, G.b.keeps k, G.nolimit.keeps k, G.bu, fun a q => let ⟨o, e⟩ := G.x a q; ⟨o, k a o e⟩⟩
/-- a new address is none that one keeps off -/
theorem Gd.new {w : World} {mg mb : Str → Option Value} {X : Addr → Prop} {h : Heap} (G : Gd w mg mb X h) {a : Addr} (ha : h.objs.size ≤ a) : ¬ X a := fun q => by
  obtain ⟨o, e⟩ := G.x a q
  exact absurd (Heap.lt_size e) (Nat.not_lt.mpr ha)

theorem keeps_refl (s : Shared) : Keeps s s := ⟨s.heap, s.toks, rfl, fun _ _ e => e⟩
theorem keeps_toks (s : Shared) (t : Nat) : Keeps s { s with toks := t } := ⟨s.heap, t, rfl, fun _ _ e => e⟩
theorem keeps_trans {s s' s'' : Shared} (a : Keeps s s') (b : Keeps s' s'') : Keeps s s'' := by
  obtain ⟨h, t, rfl, k⟩ := a
  obtain ⟨h', t', rfl, k'⟩ := b
  exact ⟨h', t', rfl, fun b o e => k' b o (k b o e)⟩
theorem keeps_keep {s s' : Shared} (a : Keeps s s') : Keep s.heap s'.heap := by
  obtain ⟨h, t, rfl, k⟩ := a; exact k


/-- the run's fixed parts -/
structure Cx where
  prog : Program
  w : World
  mg : Str → Option Value
  mb : Str → Option Value
  X : Addr → Prop
abbrev Cx.M (c : Cx) : Model := model c.prog c.w
abbrev Cx.G (c : Cx) (h : Heap) : Prop := Gd c.w c.mg c.mb c.X h

/-- a tree that hands back a datum and turns nothing that stood -/
def Yields (c : Cx) (A : Around) (t : Sem Value) (s : Shared) (d : D) : Prop :=
  ∀ E : Value → Shared → Prop, wpAny (model c.prog c.w) A t (fun v s' => Keeps s s' ∧ Rep c.X s'.heap v d) E s
def YieldsB (c : Cx) (A : Around) (t : Sem Bool) (s : Shared) (b : Bool) : Prop :=
  ∀ E : Value → Shared → Prop, wpAny (model c.prog c.w) A t (fun r s' => Keeps s s' ∧ r = b) E s
def EvE (c : Cx) (A : Around) (env : Env) (μ : Sto) (e : Expr) (d : D) : Prop :=
  ∀ s : Shared, c.G s.heap → EnvOk c.X env s.heap μ → Yields c A (eval e env) s d
def EvT (c : Cx) (A : Around) (env : Env) (μ : Sto) (e : Expr) (b : Bool) : Prop :=
  ∀ s : Shared, c.G s.heap → EnvOk c.X env s.heap μ → YieldsB c A (isTrue e env (eval e env)) s b
/-- a callee -/
def FC (c : Cx) (A : Around) (f : Value) (ds : List D) (d : D) : Prop :=
  ∀ (s : Shared) (vs : List Value), c.G s.heap → RepAll c.X s.heap vs ds → Yields c A (call f vs) s d
/-- a list of arguments -/
def EvL (c : Cx) (A : Around) (env : Env) (μ : Sto) (es : List Expr) (ds : List D) : Prop :=
  ∀ (pos : Pos) (s : Shared) (E : Value → Shared → Prop), c.G s.heap → EnvOk c.X env s.heap μ →
    wpAny (model c.prog c.w) A (spliced (backTo pos (starEach es env))) (fun vs s' => Keeps s s' ∧ RepAll c.X s'.heap vs ds) E s
def BinC (c : Cx) (A : Around) (op : Operator) (a b d : D) : Prop :=
  ∀ (s : Shared) (va vb : Value), c.G s.heap → Rep c.X s.heap va a → Rep c.X s.heap vb b → Yields c A (binaryOp op va vb) s d
def InpC (c : Cx) (A : Around) (op : Operator) (a b d : D) : Prop :=
  ∀ (s : Shared) (va vb : Value), c.G s.heap → Rep c.X s.heap va a → Rep c.X s.heap vb b → Yields c A (inplaceOp op va vb) s d
def CmpC (c : Cx) (A : Around) (op : CmpOp) (a b : D) (r : Bool) : Prop :=
  ∀ (s : Shared) (va vb : Value), c.G s.heap → Rep c.X s.heap va a → Rep c.X s.heap vb b → Yields c A (compareOp op va vb) s (.bool r)
def TrC (c : Cx) (A : Around) (a : D) (r : Bool) : Prop :=
  ∀ (s : Shared) (va : Value), c.G s.heap → Rep c.X s.heap va a → YieldsB c A (truthy va) s r

section
variable {c : Cx} {A : Around} {env : Env} {μ : Sto}
theorem Yields.use {t : Sem Value} {s : Shared} {d : D} {E : Value → Shared → Prop} {Q : Value → Shared → Prop} (h : Yields c A t s d)
    (k : ∀ v s', Keeps s s' → Rep c.X s'.heap v d → Q v s') : wpAny (model c.prog c.w) A t Q E s :=
  wpAny_mono (h E) (fun v s' ⟨a, b⟩ => k v s' a b) fun _ _ e => e
theorem YieldsB.use {t : Sem Bool} {s : Shared} {b : Bool} {E : Value → Shared → Prop} {Q : Bool → Shared → Prop} (h : YieldsB c A t s b)
    (k : ∀ s', Keeps s s' → Q b s') : wpAny (model c.prog c.w) A t Q E s :=
  wpAny_mono (h E) (fun v s' ⟨a, e⟩ => by subst e; exact k s' a) fun _ _ e => e
/-- behind a step -/
theorem Yields.of {t : Sem Value} {s s' : Shared} {d : D} {E : Value → Shared → Prop} (k : Keeps s s') (h : Yields c A t s' d) : wpAny (model c.prog c.w) A t (fun v s'' => Keeps s s'' ∧ Rep c.X s''.heap v d) E s' :=
  h.use fun _ _ k' r => ⟨keeps_trans k k', r⟩
theorem YieldsB.of {t : Sem Bool} {s s' : Shared} {b : Bool} {E : Value → Shared → Prop} (k : Keeps s s') (h : YieldsB c A t s' b) : wpAny (model c.prog c.w) A t (fun v s'' => Keeps s s'' ∧ v = b) E s' :=
  h.use fun _ k' => ⟨keeps_trans k k', rfl⟩

theorem ev_local {x : Str} {pos : Pos} {d : D} (hl : env.kindOf x = some .local) (hx : μ.lookup x = some d) (hd : (x == ("__debug__" : Str)) = false := by decide) :
    EvE c A env μ (.Name x pos) d := fun s _ F E => by
  obtain ⟨m, hn, hv⟩ := F.ns
  obtain ⟨v, e, r⟩ := hv x d hx hl
  exact wpAny_Name (wpAny_loadName_local F.kind hl hn e ⟨keeps_refl s, r⟩) hd
theorem ev_cell {x : Str} {pos : Pos} {d : D} (hl : env.kindOf x = some .cell) (hx : μ.lookup x = some d) (hd : (x == ("__debug__" : Str)) = false := by decide) :
    EvE c A env μ (.Name x pos) d := fun s _ F E => by
  obtain ⟨c, v, hc, hv, r⟩ := F.cell x d hx (.inl hl)
  exact wpAny_Name (wpAny_loadName_cell F.kind hl hc hv ⟨keeps_refl s, r⟩) hd
theorem ev_global {x : Str} {pos : Pos} {v : Value} (hl : env.kindOf x = some .globalImplicit) (hx : nsIn (hd.heap_1 c.w.params) mainGlobals x = some (some v)) (hd : (x == ("__debug__" : Str)) = false := by decide) :
    EvE c A env μ (.Name x pos) (.val v) := fun s G F _ =>
  Calls.Name_function_global F.kind hl (Calls.loadGlobal_global (by rw [F.glob]; exact G.g) (mg_of G.k G.g hx) ⟨keeps_refl s, .val v⟩) hd
theorem ev_builtin {x : Str} {pos : Pos} {v : Value} (hl : env.kindOf x = some .globalImplicit) (hx : nsIn (hd.heap_1 c.w.params) mainGlobals x = some none) (hb : bootBuiltins x = some v) (hn : x ≠ "__name__") (hd : (x == ("__debug__" : Str)) = false := by decide) :
    EvE c A env μ (.Name x pos) (.val v) := fun s G F _ =>
  Calls.Name_function_global F.kind hl (Calls.loadGlobal_builtin (by rw [F.glob]; exact G.g) (mg_none_of G.k G.g hx) (by rw [F.blt]; exact G.b) ((G.bu x hn).trans hb) ⟨keeps_refl s, .val v⟩) hd
theorem ev_str {x : Str} {k : Nat} {pos : Pos} : EvE c A env μ (.Constant (.str x) k pos) (.str x) := fun s _ _ _ => Calls.Constant_str ⟨keeps_toks s _, .str x _⟩
theorem ev_int {i : Int} {k : Nat} {pos : Pos} : EvE c A env μ (.Constant (.int i) k pos) (.int i) := fun s _ _ _ => wpAny_Constant_int ⟨keeps_toks s _, .int i _⟩
theorem ev_bool {b : Bool} {k : Nat} {pos : Pos} : EvE c A env μ (.Constant (.bool b) k pos) (.bool b) := fun s _ _ _ => wpAny_pure ⟨keeps_refl s, .bool b⟩
theorem ev_none {k : Nat} {pos : Pos} : EvE c A env μ (.Constant .none k pos) .none := fun s _ _ _ => wpAny_pure ⟨keeps_refl s, .none⟩

theorem evl_nil : EvL c A env μ [] [] := fun _ s _ _ _ => Calls.spliced_nil ⟨keeps_refl s, .nil⟩
theorem evl_cons {e : Expr} {es : List Expr} {d : D} {ds : List D} (h : EvE c A env μ e d) (hs : EvL c A env μ es ds) (hst : ∀ rest, starEach (e :: rest) env = (false, eval e env) :: starEach rest env := by intro _; rfl) :
    EvL c A env μ (e :: es) (d :: ds) := fun pos s E G F => by
  rw [hst]
  show wpAny _ A (spliced ((false, _) :: backTo pos (starEach es env))) _ _ _
  refine Calls.spliced_cons ((h s G F).use fun v s₁ k₁ r₁ => ?_)
  refine wpAny_mono (hs pos s₁ E (G.up (keeps_keep k₁)) (F.up (keeps_keep k₁))) (fun vs s₂ ⟨k₂, r₂⟩ => ?_) fun _ _ e => e
  exact ⟨keeps_trans k₁ k₂, .cons (r₁.up (keeps_keep k₂).seq) r₂⟩

theorem keeps_push (s : Shared) (o : Obj) : Keeps s { s with heap := s.heap.push o } := ⟨_, s.toks, rfl, Keep.push _ _⟩
theorem yields_list {s : Shared} {vs : List Value} {ds : List D} (G : c.G s.heap) (r : RepAll c.X s.heap vs ds) (hsz : ds.length ≤ sizeLine) : Yields c A (newList vs) s (.list ds) := fun _ =>
  wpAny_newList ⟨keeps_push s _, .list (G.new (Nat.le_refl _)) ⟨_, Heap.get?_push_size _ rfl, rfl, _, rfl⟩ (r.up (Keep.push _ _).seq)⟩ (by rw [r.length]; exact hsz)
theorem yields_tuple {s : Shared} {vs : List Value} {ds : List D} (r : RepAll c.X s.heap vs ds) (hsz : ds.length ≤ sizeLine) : Yields c A (newTuple vs) s (.tuple ds) := fun _ =>
  wpAny_newTuple ⟨keeps_push s _, .tuple ⟨_, Heap.get?_push_size _ rfl, rfl, _, rfl⟩ (r.up (Keep.push _ _).seq)⟩ (by rw [r.length]; exact hsz)
theorem ev_list {es : List Expr} {pos : Pos} {ds : List D} (h : EvL c A env μ es ds) (hsz : ds.length ≤ sizeLine := by decide) : EvE c A env μ (.List es pos) (.list ds) := fun s G F E => by
  rw [arm_eval_List]
  refine wpAny_bind (wpAny_standAt (wpAny_bind (wpAny_mono (h pos s E G F) (fun vs s₁ ⟨k, r⟩ => ?_) fun _ _ e => e)))
  exact (yields_list (G.up (keeps_keep k)) r hsz).of k
theorem ev_tuple {es : List Expr} {n : Nat} {pos : Pos} {ds : List D} (h : EvL c A env μ es ds) (hsz : ds.length ≤ sizeLine := by decide) : EvE c A env μ (.Tuple es n pos) (.tuple ds) := fun s G F E => by
  rw [arm_eval_Tuple]
  refine wpAny_bind (wpAny_standAt (wpAny_bind (wpAny_mono (h pos s E G F) (fun vs s₁ ⟨k, r⟩ => ?_) fun _ _ e => e)))
  exact (yields_tuple r hsz).of k

theorem ev_bin {l r : Expr} {op : Operator} {pos : Pos} {a b d : D} (hl : EvE c A env μ l a) (hr : EvE c A env μ r b) (h : BinC c A op a b d) : EvE c A env μ (.BinOp l op r pos) d := fun s G F E => by
  refine wpAny_BinOp ((hl s G F).use fun va s₁ k₁ r₁ => (hr s₁ (G.up (keeps_keep k₁)) (F.up (keeps_keep k₁))).use fun vb s₂ k₂ r₂ => ?_)
  exact (h s₂ va vb (G.up (keeps_keep (keeps_trans k₁ k₂))) (r₁.up (keeps_keep k₂).seq) r₂).of (keeps_trans k₁ k₂)
theorem ev_cmp {l r : Expr} {op : CmpOp} {pos : Pos} {a b : D} {t : Bool} (hl : EvE c A env μ l a) (hr : EvE c A env μ r b) (h : CmpC c A op a b t) (hm : behindInMarks op r = false := by with_unfolding_all rfl) : EvE c A env μ (.Compare l [op] [r] pos) (.bool t) := fun s G F E => by
  refine wpAny_Compare1 ((hl s G F).use fun va s₁ k₁ r₁ => (hr s₁ (G.up (keeps_keep k₁)) (F.up (keeps_keep k₁))).use fun vb s₂ k₂ r₂ => ?_) hm
  exact (h s₂ va vb (G.up (keeps_keep (keeps_trans k₁ k₂))) (r₁.up (keeps_keep k₂).seq) r₂).of (keeps_trans k₁ k₂)
theorem evt_cmp {l r : Expr} {op : CmpOp} {pos : Pos} {a b : D} {t : Bool} (hl : EvE c A env μ l a) (hr : EvE c A env μ r b) (h : CmpC c A op a b t) (hm : behindInMarks op r = false := by with_unfolding_all rfl) : EvT c A env μ (.Compare l [op] [r] pos) t := fun s G F E => by
  refine wpAny_isTrue_Compare1 ((hl s G F).use fun va s₁ k₁ r₁ => (hr s₁ (G.up (keeps_keep k₁)) (F.up (keeps_keep k₁))).use fun vb s₂ k₂ r₂ => ?_) hm
  refine (h s₂ va vb (G.up (keeps_keep (keeps_trans k₁ k₂))) (r₁.up (keeps_keep k₂).seq) r₂).use fun v s₃ k₃ r₃ => ?_
  cases r₃
  exact wpAny_truthy_bool ⟨keeps_trans (keeps_trans k₁ k₂) k₃, rfl⟩
theorem evt_not {x : Expr} {pos : Pos} {b : Bool} (h : EvT c A env μ x b) : EvT c A env μ (.UnaryOp .Not x pos) (!b) := fun s G F E =>
  wpAny_isTrue_Not ((h s G F).use fun _ k => ⟨k, rfl⟩)
theorem evt_plain {e : Expr} {d : D} {b : Bool} (h : EvE c A env μ e d) (t : TrC c A d b) (he : isTrue e env (eval e env) = (do let v ← eval e env; standAt e.pos; holding [v] (truthy v)) := by rfl) : EvT c A env μ e b := fun s G F E => by
  rw [he]
  refine wpAny_bind ((h s G F).use fun v s₁ k r => wpAny_bind (wpAny_standAt (wpAny_holding ?_)))
  exact (t s₁ v (G.up (keeps_keep k)) r).of k
theorem evt_and1 {x y : Expr} {pos : Pos} (h : EvT c A env μ x false) : EvT c A env μ (.BoolOp .And [x, y] pos) false := fun s G F E => by
  refine wpAny_isTrue_BoolOp ?_
  rw [arm_allTrue_cons]
  exact wpAny_bind ((h s G F).use fun _ k => wpAny_pure ⟨k, rfl⟩)
theorem evt_and2 {x y : Expr} {pos : Pos} {b : Bool} (h : EvT c A env μ x true) (h' : EvT c A env μ y b) : EvT c A env μ (.BoolOp .And [x, y] pos) b := fun s G F E => by
  refine wpAny_isTrue_BoolOp ?_
  rw [arm_allTrue_cons]
  refine wpAny_bind ((h s G F).use fun s₁ k => ?_)
  show wpAny _ A (allTrue .And [y] env) _ _ _
  rw [arm_allTrue_cons]
  refine wpAny_bind ((h' s₁ (G.up (keeps_keep k)) (F.up (keeps_keep k))).use fun s₂ k₂ => ?_)
  cases b <;> exact wpAny_pure ⟨keeps_trans k k₂, rfl⟩
theorem evt_or1 {x y : Expr} {ys : List Expr} {pos : Pos} (h : EvT c A env μ x true) : EvT c A env μ (.BoolOp .Or (x :: y :: ys) pos) true := fun s G F E => by
  refine wpAny_isTrue_BoolOp ?_
  rw [arm_allTrue_cons]
  exact wpAny_bind ((h s G F).use fun _ k => wpAny_pure ⟨k, rfl⟩)
theorem evt_or2 {x y : Expr} {ys : List Expr} {pos : Pos} {b : Bool} (h : EvT c A env μ x false) (h' : EvT c A env μ (.BoolOp .Or (y :: ys) pos) b) : EvT c A env μ (.BoolOp .Or (x :: y :: ys) pos) b := fun s G F E => by
  refine wpAny_isTrue_BoolOp ?_
  rw [arm_allTrue_cons]
  refine wpAny_bind ((h s G F).use fun s₁ k => ?_)
  exact (h' s₁ (G.up (keeps_keep k)) (F.up (keeps_keep k))).of k
theorem evt_orl {x : Expr} {pos : Pos} {b : Bool} (h : EvT c A env μ x b) : EvT c A env μ (.BoolOp .Or [x] pos) b := fun s G F E => by
  refine wpAny_isTrue_BoolOp ?_
  rw [arm_allTrue_cons]
  refine wpAny_bind ((h s G F).use fun s₁ k => ?_)
  cases b <;> exact wpAny_pure ⟨k, rfl⟩
theorem ev_ife_t {t x y : Expr} {pos : Pos} {d : D} (h : EvT c A env μ t true) (hx : EvE c A env μ x d) : EvE c A env μ (.IfExp t x y pos) d := fun s G F E => by
  rw [arm_eval_IfExp]
  refine wpAny_bind ((h s G F).use fun s₁ k => ?_)
  exact (hx s₁ (G.up (keeps_keep k)) (F.up (keeps_keep k))).of k
theorem ev_ife_f {t x y : Expr} {pos : Pos} {d : D} (h : EvT c A env μ t false) (hx : EvE c A env μ y d) : EvE c A env μ (.IfExp t x y pos) d := fun s G F E => by
  rw [arm_eval_IfExp]
  refine wpAny_bind ((h s G F).use fun s₁ k => ?_)
  exact (hx s₁ (G.up (keeps_keep k)) (F.up (keeps_keep k))).of k
theorem ev_ife {t x y : Expr} {pos : Pos} {d : D} {b : Bool} (h : EvT c A env μ t b) (hx : b = true → EvE c A env μ x d) (hy : b = false → EvE c A env μ y d) : EvE c A env μ (.IfExp t x y pos) d := by
  cases b
  · exact ev_ife_f h (hy rfl)
  · exact ev_ife_t h (hx rfl)
/-- «a or b», a true -/
theorem ev_or_t {x y : Expr} {pos : Pos} {d : D} (h : EvE c A env μ x d) (t : TrC c A d true) : EvE c A env μ (.BoolOp .Or [x, y] pos) d := fun s G F E => by
  rw [arm_eval_BoolOp]
  show wpAny _ A (boolOp pos .Or [eval x env, eval y env]) _ _ _
  unfold boolOp
  refine wpAny_bind ((h s G F).use fun v s₁ k r => wpAny_bind (wpAny_standAt (wpAny_bind (wpAny_holding ?_))))
  exact (t s₁ v (G.up (keeps_keep k)) r).use fun s₂ k₂ => wpAny_pure ⟨keeps_trans k k₂, r.up (keeps_keep k₂).seq⟩
end
theorem RepAll.inv {X : Addr → Prop} {h : Heap} {vs : List Value} {d : D} {ds : List D} (r : RepAll X h vs (d :: ds)) : ∃ v vs', vs = v :: vs' ∧ Rep X h v d ∧ RepAll X h vs' ds := by
  cases r with | cons a b => exact ⟨_, _, rfl, a, b⟩
theorem RepAll.invN {X : Addr → Prop} {h : Heap} {vs : List Value} (r : RepAll X h vs []) : vs = [] := by cases r; rfl
theorem Rep.invS {X : Addr → Prop} {h : Heap} {v : Value} {x : Str} (r : Rep X h v (.str x)) : ∃ t, v = .str x t := by cases r; exact ⟨_, rfl⟩
theorem Rep.invI {X : Addr → Prop} {h : Heap} {v : Value} {x : Int} (r : Rep X h v (.int x)) : ∃ t, v = .int x t := by cases r; exact ⟨_, rfl⟩
theorem Rep.invB {X : Addr → Prop} {h : Heap} {v : Value} {x : Bool} (r : Rep X h v (.bool x)) : v = .bool x := by cases r; rfl
theorem Rep.invV {X : Addr → Prop} {h : Heap} {v u : Value} (r : Rep X h v (.val u)) : v = u := by cases r; rfl
theorem Rep.invL {X : Addr → Prop} {h : Heap} {v : Value} {ds : List D} (r : Rep X h v (.list ds)) : ∃ a vs, v = .ref a ∧ ¬ X a ∧ h.IsList a vs.toArray ∧ RepAll X h vs ds := by cases r with | list n a b => exact ⟨_, _, rfl, n, a, b⟩
theorem Rep.invT {X : Addr → Prop} {h : Heap} {v : Value} {ds : List D} (r : Rep X h v (.tuple ds)) : ∃ a vs, v = .ref a ∧ IsTup h a vs.toArray ∧ RepAll X h vs ds := by cases r with | tuple a b => exact ⟨_, _, rfl, a, b⟩
end Mine
end

section -- F2
open PySem PySem.W PyProof.Rows PySem.Builtin PySem.Builtin.Str
set_option Elab.async false
set_option maxRecDepth 100000
set_option linter.unusedVariables false
set_option autoImplicit false
namespace Mine

section
variable {c : Cx} {A : Around} {env : Env} {μ : Sto}

/-- the arguments of a call without stars -/
theorem evalArgs_L {f : Value} {es : List Expr} {ds : List D} {pos : Pos} {s : Shared} {E : Value → Shared → Prop} (h : EvL c A env μ es ds) (G : c.G s.heap) (F : EnvOk c.X env s.heap μ)
    (hp : (backTo pos (starEach es env)).any (·.1) = false) :
    wpAny (model c.prog c.w) A (evalArgs f true (backTo pos (starEach es env)) []) (fun a s' => a.kw = [] ∧ Keeps s s' ∧ RepAll c.X s'.heap a.pos ds) E s := by
  have h' := h pos s E G F
  cases hb : backTo pos (starEach es env) with
  | nil =>
    rw [hb] at h'
    unfold evalArgs
    show wpAny _ A (spliced [] >>= _) _ _ s
    refine wpAny_bind (wpAny_mono h' (fun vs s' hs => ?_) fun _ _ x => x)
    refine wpAny_bind (wpAny_pure (wpAny_holding ?_))
    exact wpAny_bind (wpAny_pure (wpAny_bind (wpAny_pure (wpAny_pure ⟨rfl, hs⟩))))
  | cons p rest =>
    obtain ⟨st, x⟩ := p
    rw [hb] at h' hp
    have : st = false := by
      cases st
      · rfl
      · simp at hp
    subst this
    exact Calls.evalArgs_plain (wpAny_mono h' (fun vs s' hs => ⟨rfl, hs⟩) fun _ _ x => x)

theorem callWith_B {id : String} {first : List Value} {es : List Expr} {ds0 ds : List D} {d : D} {pos : Pos} {s : Shared} (h : EvL c A env μ es ds) (hf : FC c A (.builtin id) (ds0 ++ ds) d) (G : c.G s.heap) (F : EnvOk c.X env s.heap μ) (r0 : RepAll c.X s.heap first ds0)
    (hp : (backTo pos (starEach es env)).any (·.1) = false) : Yields c A (callWith pos (.builtin id) first (backTo pos (starEach es env)) []) s d := fun E => by
  refine Calls.callWith_builtin hp (wpAny_mono (evalArgs_L h G F hp) (fun a s₁ ⟨e, k, r⟩ => ?_) fun _ _ x => x)
  rw [e]
  exact (hf s₁ _ (G.up (keeps_keep k)) ((r0.up (keeps_keep k).seq).append r)).of k
theorem callWith_T {T : String} {es : List Expr} {ds : List D} {d : D} {pos : Pos} {s : Shared} (h : EvL c A env μ es ds) (hf : FC c A (.type T) ds d) (G : c.G s.heap) (F : EnvOk c.X env s.heap μ)
    (hp : (backTo pos (starEach es env)).any (·.1) = false) : Yields c A (callWith pos (.type T) [] (backTo pos (starEach es env)) []) s d := fun E => by
  unfold callWith
  refine wpAny_bind (wpAny_holding (wpAny_mono (evalArgs_L h G F hp) (fun a s₁ ⟨e, k, r⟩ => wpAny_bind (wpAny_standAt ?_)) fun _ _ x => x))
  simp only [hp, List.any_nil, Bool.or_false]
  refine wpAny_bind (wpAny_pure ?_)
  rw [e]
  exact wpAny_bind ((hf s₁ _ (G.up (keeps_keep k)) r).use fun v s₂ k₂ r₂ => wpAny_bind (wpAny_holding (wpAny_point (wpAny_pure ⟨keeps_trans k k₂, r₂⟩))))
/-- a def of the text's -/
def FnK (c : Cx) (a : Addr) : Prop := ∃ o fd, (hd.heap_1 c.w.params).lookup a = some o ∧ o.data = .func fd
theorem callWith_F {a : Addr} {es : List Expr} {ds : List D} {d : D} {pos : Pos} {s : Shared} (h : EvL c A env μ es ds) (hf : FC c A (.ref a) ds d) (hk : FnK c a) (G : c.G s.heap) (F : EnvOk c.X env s.heap μ)
    (hp : (backTo pos (starEach es env)).any (·.1) = false) : Yields c A (callWith pos (.ref a) [] (backTo pos (starEach es env)) []) s d := fun E => by
  obtain ⟨o, fd, hl, hd⟩ := hk
  refine Calls.callWith_function (o := o) (fd := fd) (wpAny_mono (evalArgs_L h G F hp) (fun a s₁ ⟨e, k, r⟩ => ⟨⟨(G.up (keeps_keep k)).k _ _ hl, hd⟩, ?_⟩) fun _ _ x => x)
  rw [e]
  exact (hf s₁ _ (G.up (keeps_keep k)) r).of k

theorem ev_call_fn {x : Str} {p pos : Pos} {es : List Expr} {a : Addr} {ds : List D} {d : D} (hx : EvE c A env μ (.Name x p) (.val (.ref a))) (hk : FnK c a) (h : EvL c A env μ es ds) (hf : FC c A (.ref a) ds d)
    (hp : (backTo pos (starEach es env)).any (·.1) = false := by rfl) : EvE c A env μ (.Call (.Name x p) es [] pos) d := fun s G F E => by
  refine wpAny_Call_Name_kw ((hx s G F).use fun v s₁ k r => ?_)
  cases r
  exact (callWith_F h hf hk (G.up (keeps_keep k)) (F.up (keeps_keep k)) hp).of k
theorem ev_call_b {x : Str} {p pos : Pos} {es : List Expr} {id : String} {ds : List D} {d : D} (hx : EvE c A env μ (.Name x p) (.val (.builtin id))) (h : EvL c A env μ es ds) (hf : FC c A (.builtin id) ds d)
    (hp : (backTo pos (starEach es env)).any (·.1) = false := by rfl) : EvE c A env μ (.Call (.Name x p) es [] pos) d := fun s G F E => by
  refine wpAny_Call_Name_kw ((hx s G F).use fun v s₁ k r => ?_)
  cases r
  exact (callWith_B (ds0 := []) h hf (G.up (keeps_keep k)) (F.up (keeps_keep k)) .nil hp).of k
theorem ev_call_t {x : Str} {p pos : Pos} {es : List Expr} {T : String} {ds : List D} {d : D} (hx : EvE c A env μ (.Name x p) (.val (.type T))) (h : EvL c A env μ es ds) (hf : FC c A (.type T) ds d)
    (hp : (backTo pos (starEach es env)).any (·.1) = false := by rfl) : EvE c A env μ (.Call (.Name x p) es [] pos) d := fun s G F E => by
  refine wpAny_Call_Name_kw ((hx s G F).use fun v s₁ k r => ?_)
  cases r
  exact (callWith_T h hf (G.up (keeps_keep k)) (F.up (keeps_keep k)) hp).of k
/-- a method of a str's -/
theorem ev_smeth {o : Expr} {name : Str} {apos pos : Pos} {es : List Expr} {x : Str} {id : String} {ds : List D} {d : D} (ho : EvE c A env μ o (.str x)) (slot : Slot "str" name id)
    (ty : typeOf (.builtin id) = pure (.type "method_descriptor")) (hL : EvL c A env μ es ds) (hf : FC c A (.builtin id) (.str x :: ds) d)
    (hbase : attributeBase o name env (eval o env) = eval o env := by rfl)
    (hfew : ((backTo pos (starEach es env)).all (fun x => !x.1) && (backToKw pos (keywordEach [] env)).all (fun x => x.1.isSome)
      && decide (es.length + ([] : List Keyword).length + (if ([] : List Keyword).isEmpty then 0 else 1) < 30)) = true := by rfl)
    (hline : (apos.endLine == pos.line) = true := by rfl)
    (hp : (backTo pos (starEach es env)).any (·.1) = false := by rfl) :
    EvE c A env μ (.Call (.Attribute o name apos) es [] pos) d := fun s G F E => by
  refine wpAny_Call_method hbase hfew hline PySem.F.plainAttrs_str slot ty ((ho s G F).use fun v s₁ k r => ?_)
  cases r with
  | str _ t => exact ⟨typeIs_str _ _ _, (fun _ e => nomatch e), (callWith_B (ds0 := [.str x]) hL hf (G.up (keeps_keep k)) (F.up (keeps_keep k)) (.cons (.str x t) .nil) hp).of k⟩

/-! the built-ins -/
theorem keptByPush_keeps (s₀ : Shared) : KeptByPush (Keeps s₀) := fun s ob k h => by
  obtain ⟨h', t, rfl, k'⟩ := h
  exact ⟨_, _, rfl, fun b o e => Heap.get?_push_of_some _ (k' b o e)⟩
theorem fc_startswith {x y : Str} : FC c A (.builtin "str.startswith") [.str x, .str y] (.bool (Txt.startswith x y)) := fun s vs _ r _ => by
  obtain ⟨v, vs, rfl, r1, r⟩ := r.inv
  obtain ⟨v', vs, rfl, r2, r⟩ := r.inv
  obtain rfl := r.invN
  obtain ⟨t, rfl⟩ := r1.invS
  obtain ⟨u, rfl⟩ := r2.invS
  exact SC.startswith ⟨keeps_refl s, .bool _⟩
theorem fc_endswith {x y : Str} : FC c A (.builtin "str.endswith") [.str x, .str y] (.bool (Txt.endswith x y)) := fun s vs _ r _ => by
  obtain ⟨v, vs, rfl, r1, r⟩ := r.inv
  obtain ⟨v', vs, rfl, r2, r⟩ := r.inv
  obtain rfl := r.invN
  obtain ⟨t, rfl⟩ := r1.invS
  obtain ⟨u, rfl⟩ := r2.invS
  exact SC.endswith ⟨keeps_refl s, .bool _⟩
theorem fc_rfind {x y : Str} : FC c A (.builtin "str.rfind") [.str x, .str y] (.int (Txt.rfind x y)) := fun s vs _ r _ => by
  obtain ⟨v, vs, rfl, r1, r⟩ := r.inv
  obtain ⟨v', vs, rfl, r2, r⟩ := r.inv
  obtain rfl := r.invN
  obtain ⟨t, rfl⟩ := r1.invS
  obtain ⟨u, rfl⟩ := r2.invS
  exact SC.rfind ⟨keeps_toks s _, .int _ _⟩
theorem fc_rstrip {x y : Str} (hsz : x.length ≤ sizeLine) : FC c A (.builtin "str.rstrip") [.str x, .str y] (.str (Txt.rstripChars x y)) := fun s vs _ r _ => by
  obtain ⟨v, vs, rfl, r1, r⟩ := r.inv
  obtain ⟨v', vs, rfl, r2, r⟩ := r.inv
  obtain rfl := r.invN
  obtain ⟨t, rfl⟩ := r1.invS
  obtain ⟨u, rfl⟩ := r2.invS
  exact SC.rstripChars (fun t' k => ⟨keeps_toks s _, .str _ _⟩) hsz
theorem fc_lower {x : Str} (hfit : tooLong (Txt.lower x).length = false) : FC c A (.builtin "str.lower") [.str x] (.str (Txt.lower x)) := fun s vs _ r _ => by
  obtain ⟨v, vs, rfl, r1, r⟩ := r.inv
  obtain rfl := r.invN
  obtain ⟨t, rfl⟩ := r1.invS
  exact SC.lower hfit ⟨keeps_toks s _, .str _ _⟩
theorem fc_upper {x : Str} (hfit : tooLong (Txt.upper x).length = false) : FC c A (.builtin "str.upper") [.str x] (.str (Txt.upper x)) := fun s vs _ r _ => by
  obtain ⟨v, vs, rfl, r1, r⟩ := r.inv
  obtain rfl := r.invN
  obtain ⟨t, rfl⟩ := r1.invS
  exact SC.upper hfit ⟨keeps_toks s _, .str _ _⟩
theorem fc_capitalize {x : Str} (hfit : tooLong (Txt.capitalized x).length = false) : FC c A (.builtin "str.capitalize") [.str x] (.str (Txt.capitalize x)) := fun s vs _ r _ => by
  obtain ⟨v, vs, rfl, r1, r⟩ := r.inv
  obtain rfl := r.invN
  obtain ⟨t, rfl⟩ := r1.invS
  exact SC.capitalize hfit fun t' k => ⟨keeps_toks s _, .str _ _⟩

theorem repAll_strs {X : Addr → Prop} {h : Heap} : ∀ (l : List (Str × Tok)), RepAll X h (strValues l) (l.map fun p => .str p.1)
  | [] => .nil
  | (x, t) :: r => .cons (.str x t) (repAll_strs r)
theorem strs_of_repAll {X : Addr → Prop} {h : Heap} : ∀ {vs : List Value} {xs : List Str}, RepAll X h vs (xs.map .str) → ∃ l : List (Str × Tok), vs = strValues l ∧ l.map (·.1) = xs
  | vs, [], r => ⟨[], r.invN, rfl⟩
  | vs, x :: xs, r => by
    obtain ⟨v, vs', e0, r1, ra⟩ := r.inv
    obtain ⟨t, rfl⟩ := r1.invS
    obtain ⟨l, e1, e2⟩ := strs_of_repAll ra
    rw [e0]
    exact ⟨(x, t) :: l, by rw [e1]; rfl, by rw [List.map_cons, e2]⟩
theorem fc_split {x y : Str} (hy : (y.length == 0) = false) (hsz : x.length ≤ sizeLine) (hsz2 : (partsBetween x (occurrences x y 0 x.length (x.length + 1)) y.length).length ≤ sizeLine) :
    FC c A (.builtin "str.split") [.str x, .str y] (.list ((Txt.split x y).map .str)) := fun s vs G r E => by
  obtain ⟨v, vs, rfl, r1, r⟩ := r.inv
  obtain ⟨v', vs, rfl, r2, r⟩ := r.inv
  obtain rfl := r.invN
  obtain ⟨t, rfl⟩ := r1.invS
  obtain ⟨u, rfl⟩ := r2.invS
  · skip
    have fin : ∀ (l : List (Str × Tok)) (k : Nat) (texts : List Str), l.map (·.1) = texts → Keeps s { s with heap := s.heap.push { cls := .type "list", data := .seq (strValues l).toArray }, toks := k } ∧ Rep c.X (s.heap.push { cls := .type "list", data := .seq (strValues l).toArray }) (.ref s.heap.objs.size) (.list (texts.map .str)) := fun l k texts e => by
      subst e
      refine ⟨⟨_, k, rfl, Keep.push _ _⟩, ?_⟩
      rw [List.map_map]
      exact .list (G.new (Nat.le_refl _)) ⟨_, Heap.get?_push_size _ rfl, rfl, _, rfl⟩ (repAll_strs l)
    cases h1 : (decide (x.length < y.length) || decide (strKind x < strKind y))
    · cases hf : (occurrences x y 0 x.length (x.length + 1)).isEmpty
      · have e : Txt.split x y = partsBetween x (occurrences x y 0 x.length (x.length + 1)) y.length := (if_neg (ne_true_of_eq_false h1)).trans (if_neg (ne_true_of_eq_false hf))
        refine call_meets F.slot_str_split (typeIs_str _ _ _) F.entry_str_split (F.args_str_split_2 _ _) (meets_str_split_sep x y t u h1 hy hf hsz hsz2) ?_
        show wants _ E _ { s with toks := _, heap := s.heap.push { cls := .type "list", data := .seq (strsFrom s.toks (partsBetween x (occurrences x y 0 x.length (x.length + 1)) y.length)).toArray } }
        rw [strsFrom_eq, e]
        exact fin (numbered s.toks _) _ _ (numbered_texts _ _)
      · have e : Txt.split x y = [x] := (if_neg (ne_true_of_eq_false h1)).trans (if_pos hf)
        rw [e]
        exact call_meets F.slot_str_split (typeIs_str _ _ _) F.entry_str_split (F.args_str_split_2 _ _) (meets_str_split_not_found x y t u h1 hy hf) (fin [(x, t)] s.toks _ rfl)
    · have e : Txt.split x y = [x] := if_pos h1
      rw [e]
      exact call_meets F.slot_str_split (typeIs_str _ _ _) F.entry_str_split (F.args_str_split_2 _ _) (meets_str_split_cannot_occur x y t u h1) (fin [(x, t)] s.toks _ rfl)
theorem fc_join {x : Str} {xs : List Str} (hok : JoinOk x xs = true) : FC c A (.builtin "str.join") [.str x, .list (xs.map .str)] (.str (Txt.join x xs)) := fun s vs _ r _ => by
  obtain ⟨v, vs, rfl, r1, r⟩ := r.inv
  obtain ⟨v', vs, rfl, r2, r⟩ := r.inv
  obtain rfl := r.invN
  obtain ⟨t, rfl⟩ := r1.invS
  obtain ⟨a, us, rfl, _, hl, ra⟩ := r2.invL
  · skip
    obtain ⟨l, rfl, e⟩ := strs_of_repAll ra
    exact SC.join hl e hok fun t' k => ⟨keeps_toks s _, .str _ _⟩

theorem bin_add_str {x y : Str} (hsz : x.length + y.length ≤ sizeLine) : BinC c A .Add (.str x) (.str y) (.str (x ++ y)) := fun s va vb _ ra rb _ => by
  cases ra; cases rb
  exact PyProof.Rows.add_str (fun t' tk => ⟨keeps_toks s _, .str _ _⟩) hsz
theorem inp_add_str {x y : Str} (hsz : x.length + y.length ≤ sizeLine) : InpC c A .Add (.str x) (.str y) (.str (x ++ y)) := fun s va vb _ ra rb _ => by
  cases ra; cases rb
  exact SB.iadd (fun t' tk => ⟨keeps_toks s _, .str _ _⟩) hsz
theorem cmp_eq_str {x y : Str} : CmpC c A .Eq (.str x) (.str y) (x == y) := fun s va vb _ ra rb _ => by
  cases ra; cases rb
  exact PyProof.Rows.eq_str ⟨keeps_refl s, .bool _⟩
theorem cmp_ne_str {x y : Str} : CmpC c A .NotEq (.str x) (.str y) (x != y) := fun s va vb _ ra rb _ => by
  cases ra; cases rb
  exact PyProof.Rows.ne_str ⟨keeps_refl s, .bool _⟩
theorem cmp_eq_int {x y : Int} : CmpC c A .Eq (.int x) (.int y) (x == y) := fun s va vb _ ra rb _ => by
  cases ra; cases rb
  exact eq_int ⟨keeps_refl s, .bool _⟩
theorem bin_add_int {x y : Int} : BinC c A .Add (.int x) (.int y) (.int (x + y)) := fun s va vb _ ra rb _ => by
  cases ra; cases rb
  exact add_int ⟨keeps_toks s _, .int _ _⟩
theorem tr_bool {b : Bool} : TrC c A (.bool b) b := fun s va _ ra _ => by
  cases ra
  exact wpAny_truthy_bool ⟨keeps_refl s, rfl⟩
theorem tr_str {x : Str} (hsz : x.length ≤ sizeLine) : TrC c A (.str x) ((x.length : Int) != 0) := fun s va _ ra _ => by
  cases ra
  exact P.truthy_str (by rw [sizeLine_eq] at hsz; omega) ⟨keeps_toks s _, rfl⟩
end
end Mine
end

section -- F3
open PySem PySem.W PyProof.Rows PySem.Builtin PySem.Builtin.Str
set_option Elab.async false
set_option maxRecDepth 100000
set_option linter.unusedVariables false
set_option autoImplicit false
namespace Mine

/-- all but frames and cells stays -/
def Kp (h h' : Heap) : Prop := ∀ b o, h.get? b = some o → (∀ es n, o.data ≠ .dict es n) → (∀ v, o.data ≠ .cell v) → h'.get? b = some o
theorem Kp.refl (h : Heap) : Kp h h := fun _ _ e _ _ => e
theorem Kp.trans {h h' h'' : Heap} (a : Kp h h') (b : Kp h' h'') : Kp h h'' := fun x o e n m => b x o (a x o e n m) n m
theorem Keep.kp {h h' : Heap} (a : Keep h h') : Kp h h' := fun x o e _ _ => a x o e
theorem Kp.seq {h h' : Heap} (a : Kp h h') : SeqKeep h h' := fun b o xs n e d => a b o e (fun _ _ q => by rw [d] at q; cases q) fun _ q => by rw [d] at q; cases q

structure FrOk (X : Addr → Prop) (base : Heap) (env : Env) (h : Heap) (μ : Sto) : Prop where
  ok : EnvOk X env h μ
  keep : Keep base h
  lo : base.objs.size ≤ env.locals
  clo : env.func.isSome = true → ∀ n c, (n, c) ∈ env.cells → base.objs.size ≤ c
  cex : env.func.isSome = true → ∀ n c, (n, c) ∈ env.cells → ∃ v, h.IsCell c v
  cap : env.func.isSome = true → env.cells.Pairwise fun x y => x.2 ≠ y.2

theorem FrOk.up {X : Addr → Prop} {base : Heap} {env : Env} {h h' : Heap} {μ : Sto} (F : FrOk X base env h μ) (k : Keep h h') : FrOk X base env h' μ :=
  ⟨F.ok.up k, F.keep.trans k, F.lo, F.clo, fun q n c hm => let ⟨v, x⟩ := F.cex q n c hm; ⟨v, x.keeps k⟩, F.cap⟩
theorem FrOk.sub {X : Addr → Prop} {base : Heap} {env : Env} {h : Heap} {μ ν : Sto} (F : FrOk X base env h μ) (k : ∀ x d, ν.lookup x = some d → μ.lookup x = some d) : FrOk X base env h ν :=
  ⟨⟨F.ok.kind, F.ok.glob, F.ok.blt, let ⟨m, a, b⟩ := F.ok.ns; ⟨m, a, fun x d e l => b x d (k x d e) l⟩, fun x d e l => F.ok.cell x d (k x d e) l⟩, F.keep, F.lo, F.clo, F.cex, F.cap⟩

theorem lookup_cons_cases {x y : Str} {d e : D} {μ : Sto} (h : List.lookup y ((x, d) :: μ) = some e) : (y = x ∧ e = d) ∨ (y ≠ x ∧ μ.lookup y = some e) := by
  rw [List.lookup_cons] at h
  by_cases hy : y = x
  · subst hy
    simp at h
    exact .inl ⟨rfl, h.symm⟩
  · have : (y == x) = false := by simpa using hy
    rw [this] at h
    exact .inr ⟨hy, h⟩

/-- a name that may be stored -/
def CanSt (env : Env) (x : Str) : Prop := env.kindOf x = some .local ∨ (env.kindOf x = some .cell ∧ env.func.isSome = true ∧ (env.cells.lookup x).isSome = true)

theorem ns_ne_cell {h : Heap} {L a : Addr} {m} {v : Option Value} (hn : h.Ns L m) (hc : h.IsCell a v) : a ≠ L := by
  rintro rfl
  obtain ⟨o, es, ep, ho, hd, _⟩ := hn
  obtain ⟨o', ho', hd'⟩ := hc
  rw [ho] at ho'; cases ho'
  rw [hd] at hd'; cases hd'

section
variable {c : Cx} {A : Around} {env : Env} {μ : Sto} {base : Heap}

theorem ns_unique {h : Heap} {L : Addr} {m m' : Str → Option Value} (a : h.Ns L m) (b : h.Ns L m') : m = m' := by
  obtain ⟨oL, es, ep, hoL, hdL, _, hf⟩ := a
  obtain ⟨oL', es', ep', hoL', hdL', _, hf'⟩ := b
  rw [hoL] at hoL'; cases hoL'
  rw [hdL] at hdL'; cases hdL'
  funext x
  rw [← hf, ← hf']
theorem store_ok2 {x : Str} {v : Value} {d : D} {s : Shared} {E : Value → Shared → Prop} (F : FrOk c.X base env s.heap μ) (hx : CanSt env x) (r : Rep c.X s.heap v d) :
    wpAny (model c.prog c.w) A (storeName env x v) (fun _ s' => ∃ h' tk, s' = { s with heap := h', toks := tk } ∧ Kp s.heap h' ∧ FrOk c.X base env h' ((x, d) :: μ) ∧ (∀ b o, b ≠ env.locals → (env.kindOf x = some .local ∨ ∀ n, (n, b) ∉ env.cells) → s.heap.get? b = some o → h'.get? b = some o) ∧ (env.kindOf x = some .local → ∀ m, s.heap.Ns env.locals m → h'.Ns env.locals (fun z => if z = x then some v else m z))) E s := by
  obtain ⟨m, hn, hv⟩ := F.ok.ns
  obtain ⟨oL, esL, epL, hoL, hdL, hrestL⟩ := id hn
  rcases hx with hl | ⟨hl, hfu, hsome⟩
  · refine wpAny_storeName_local hl hn (fun h' hn' hs' => ?_) (by rw [F.ok.kind]; rfl)
    have hcl : ∀ c v, s.heap.IsCell c v → h'.IsCell c v := fun c v hc => hc.sameBut hs' (ns_ne_cell hn hc)
    have kp : Kp s.heap h' := fun b o e nd nc => by
      by_cases hb : b = env.locals
      · subst hb; rw [hoL] at e; cases e; exact absurd hdL (nd _ _)
      · exact (hs'.2 b hb).trans e
    refine ⟨h', _, rfl, kp, ⟨⟨F.ok.kind, F.ok.glob, F.ok.blt, ⟨_, hn', fun y e hy ly => ?_⟩, fun y e hy ly => ?_⟩, fun b o e => ?_, F.lo, F.clo, fun z n c hm => let ⟨v, q⟩ := F.cex z n c hm; ⟨v, hcl c v q⟩, F.cap⟩, fun b o hb _ e => (hs'.2 b hb).trans e, fun _ m' hm' => ns_unique hm' hn ▸ hn'⟩
    · rcases lookup_cons_cases hy with ⟨rfl, rfl⟩ | ⟨hne, hy'⟩
      · exact ⟨v, by simp, r.up kp.seq⟩
      · obtain ⟨u, a, q⟩ := hv y e hy' ly
        exact ⟨u, by simp [hne, a], q.up kp.seq⟩
    · rcases lookup_cons_cases hy with ⟨rfl, rfl⟩ | ⟨hne, hy'⟩
      · rw [hl] at ly; rcases ly with q | q <;> cases q
      · obtain ⟨c', u, a, b, q⟩ := F.ok.cell y e hy' ly
        exact ⟨c', u, a, hcl _ _ b, q.up kp.seq⟩
    · exact (hs'.2 b (Nat.ne_of_lt (Nat.lt_of_lt_of_le (Heap.lt_size e) F.lo))).trans (F.keep b o e)
  · obtain ⟨cx, hc⟩ := Option.isSome_iff_exists.mp hsome
    obtain ⟨v0, hv0⟩ := F.cex hfu x cx (mem_of_lookup hc)
    refine wpAny_storeName_cell F.ok.kind hl hc hv0 fun h' hc' hs' => ?_
    obtain ⟨oc, hoc, hdc⟩ := id hv0
    have hLc : env.locals ≠ cx := Ne.symm (ns_ne_cell hn hv0)
    have kp : Kp s.heap h' := fun b o e nd nc => by
      by_cases hb : b = cx
      · subst hb; rw [hoc] at e; cases e; exact absurd hdc (nc _)
      · exact (hs'.2 b hb).trans e
    refine ⟨h', _, rfl, kp, ⟨⟨F.ok.kind, F.ok.glob, F.ok.blt, ⟨m, hn.sameBut hs' hLc, fun y e hy ly => ?_⟩, fun y e hy ly => ?_⟩, fun b o e => ?_, F.lo, F.clo, fun z n c hm => ?_, F.cap⟩, fun b o _ hb e => (hs'.2 b fun q => hb.elim (fun z => by rw [hl] at z; cases z) fun z => z x (q ▸ mem_of_lookup hc)).trans e, fun z => by rw [hl] at z; cases z⟩
    · rcases lookup_cons_cases hy with ⟨rfl, rfl⟩ | ⟨hne, hy'⟩
      · rw [hl] at ly; cases ly
      · obtain ⟨u, a, q⟩ := hv y e hy' ly
        exact ⟨u, a, q.up kp.seq⟩
    · rcases lookup_cons_cases hy with ⟨rfl, rfl⟩ | ⟨hne, hy'⟩
      · exact ⟨cx, v, hc, hc', r.up kp.seq⟩
      · obtain ⟨c', u, a, b, q⟩ := F.ok.cell y e hy' ly
        refine ⟨c', u, a, b.sameBut hs' fun e' => hne (name_of_addr (F.cap hfu) (mem_of_lookup a) (e' ▸ mem_of_lookup hc)), q.up kp.seq⟩
    · exact (hs'.2 b (Nat.ne_of_lt (Nat.lt_of_lt_of_le (Heap.lt_size e) (F.clo hfu x cx (mem_of_lookup hc))))).trans (F.keep b o e)
    · obtain ⟨v, q⟩ := F.cex z n c hm
      by_cases hcc : c = cx
      · subst hcc; exact ⟨_, hc'⟩
      · exact ⟨v, q.sameBut hs' hcc⟩
theorem store_ok {x : Str} {v : Value} {d : D} {s : Shared} {E : Value → Shared → Prop} (F : FrOk c.X base env s.heap μ) (hx : CanSt env x) (r : Rep c.X s.heap v d) :
    wpAny (model c.prog c.w) A (storeName env x v) (fun _ s' => ∃ h' tk, s' = { s with heap := h', toks := tk } ∧ Kp s.heap h' ∧ FrOk c.X base env h' ((x, d) :: μ)) E s :=
  wpAny_mono (store_ok2 F hx r) (fun _ _ ⟨h', tk, a, b, e, _⟩ => ⟨h', tk, a, b, e⟩) fun _ _ e => e
theorem FrOk.butC {X : Addr → Prop} {C : Addr} {h h' : Heap} {m : Str → Option Value} (F : FrOk X base env h μ) (k : ∀ b o, b ≠ C → h.get? b = some o → h'.get? b = some o) (hn : h.Ns C m) (hL : env.locals ≠ C) (hb : base.get? C = none) : FrOk X base env h' μ := by
  obtain ⟨oC, es, ep, hoC, hdC, _⟩ := id hn
  have sk : SeqKeep h h' := fun b o xs n e d => k b o (by rintro rfl; rw [hoC] at e; cases e; rw [hdC] at d; cases d) e
  have ce : ∀ cc v, h.IsCell cc v → h'.IsCell cc v := fun cc v hc => let ⟨oc, e, d⟩ := hc; ⟨oc, k cc oc (ns_ne_cell hn hc) e, d⟩
  obtain ⟨mL, ⟨oL, esL, epL, hoL, hrL⟩, hv⟩ := F.ok.ns
  refine ⟨⟨F.ok.kind, F.ok.glob, F.ok.blt, ⟨mL, ⟨oL, esL, epL, k _ _ hL hoL, hrL⟩, fun x d e l => ?_⟩, fun x d e l => ?_⟩, fun b o e => ?_, F.lo, F.clo, fun z n cc hm => ?_, F.cap⟩
  · obtain ⟨v, a, r⟩ := hv x d e l
    exact ⟨v, a, r.up sk⟩
  · obtain ⟨cc, v, a, b, r⟩ := F.ok.cell x d e l
    exact ⟨cc, v, a, ce _ _ b, r.up sk⟩
  · exact k b o (by rintro rfl; rw [hb] at e; cases e) (F.keep b o e)
  · obtain ⟨v, q⟩ := F.cex z n cc hm
    exact ⟨v, ce _ _ q⟩
end

/-- how statements end -/
inductive Out where
  | next (μ : Sto)
  | ret (d : D)
  | brk (μ : Sto)
  | cont (μ : Sto)
def OutOk (X : Addr → Prop) (base : Heap) (env : Env) : Out → Flow → Heap → Prop
  | .next μ, f, h => f = .next ∧ FrOk X base env h μ
  | .ret d, f, h => ∃ v, f = .ret v ∧ Rep X h v d ∧ Keep base h
  | .brk μ, f, h => f = .brk ∧ FrOk X base env h μ
  | .cont μ, f, h => f = .cont ∧ FrOk X base env h μ
def Went (X : Addr → Prop) (base : Heap) (env : Env) (s : Shared) (o : Out) (f : Flow) (s' : Shared) : Prop := ∃ h' tk, s' = { s with heap := h', toks := tk } ∧ Kp s.heap h' ∧ OutOk X base env o f h'
theorem Went.of {X : Addr → Prop} {base : Heap} {env : Env} {s s' : Shared} {o : Out} {f : Flow} {s'' : Shared} (k : ∃ h' tk, s' = { s with heap := h', toks := tk } ∧ Kp s.heap h') (w : Went X base env s' o f s'') : Went X base env s o f s'' := by
  obtain ⟨h, t, rfl, k⟩ := k
  obtain ⟨h', t', rfl, k', q⟩ := w
  exact ⟨h', t', rfl, k.trans k', q⟩
theorem kp_of_keeps {s s' : Shared} (k : Keeps s s') : ∃ h' tk, s' = { s with heap := h', toks := tk } ∧ Kp s.heap h' := by
  obtain ⟨h, t, rfl, k⟩ := k
  exact ⟨h, t, rfl, Keep.kp k⟩

def ExS (c : Cx) (A : Around) (base : Heap) (env : Env) (μ : Sto) (ss : List Stmt) (o : Out) : Prop :=
  ∀ (s : Shared) (E : Value → Shared → Prop), c.G base → FrOk c.X base env s.heap μ → wpAny (model c.prog c.w) A (execs ss env) (Went c.X base env s o) E s
def Ex1 (c : Cx) (A : Around) (base : Heap) (env : Env) (μ : Sto) (st : Stmt) (o : Out) : Prop :=
  ∀ (s : Shared) (E : Value → Shared → Prop), c.G base → FrOk c.X base env s.heap μ → wpAny (model c.prog c.w) A (exec st env) (Went c.X base env s o) E s

section
variable {c : Cx} {A : Around} {env : Env} {μ ν : Sto} {base : Heap} {o : Out}
theorem exs_nil : ExS c A base env μ [] (.next μ) := fun s E G F => wpAny_execs_nil ⟨s.heap, s.toks, rfl, Kp.refl _, rfl, F⟩
theorem exs_cons {st : Stmt} {rest : List Stmt} (h : Ex1 c A base env μ st (.next ν)) (h' : ExS c A base env ν rest o) : ExS c A base env μ (st :: rest) o := fun s E G F => by
  refine wpAny_execs_cons (wpAny_mono (h s E G F) (fun f s₁ q => ?_) fun _ _ e => e)
  obtain ⟨h₁, t₁, rfl, k₁, rfl, F₁⟩ := q
  exact wpAny_mono (h' _ E G F₁) (fun f s₂ w => Went.of ⟨h₁, t₁, rfl, k₁⟩ w) fun _ _ e => e
theorem exs_ret {st : Stmt} {rest : List Stmt} {d : D} (h : Ex1 c A base env μ st (.ret d)) : ExS c A base env μ (st :: rest) (.ret d) := fun s E G F => by
  refine wpAny_execs_cons (wpAny_mono (h s E G F) (fun f s₁ q => ?_) fun _ _ e => e)
  obtain ⟨h₁, t₁, rfl, k₁, v, rfl, q⟩ := q
  exact ⟨h₁, t₁, rfl, k₁, v, rfl, q⟩
theorem exs_brk {st : Stmt} {rest : List Stmt} (h : Ex1 c A base env μ st (.brk ν)) : ExS c A base env μ (st :: rest) (.brk ν) := fun s E G F => by
  refine wpAny_execs_cons (wpAny_mono (h s E G F) (fun f s₁ q => ?_) fun _ _ e => e)
  obtain ⟨h₁, t₁, rfl, k₁, rfl, q⟩ := q
  exact ⟨h₁, t₁, rfl, k₁, rfl, q⟩
theorem exs_cont {st : Stmt} {rest : List Stmt} (h : Ex1 c A base env μ st (.cont ν)) : ExS c A base env μ (st :: rest) (.cont ν) := fun s E G F => by
  refine wpAny_execs_cons (wpAny_mono (h s E G F) (fun f s₁ q => ?_) fun _ _ e => e)
  obtain ⟨h₁, t₁, rfl, k₁, rfl, q⟩ := q
  exact ⟨h₁, t₁, rfl, k₁, rfl, q⟩
theorem ex1_ret {e : Expr} {pos : Pos} {d : D} (h : EvE c A env μ e d) : Ex1 c A base env μ (.Return (some e) pos) (.ret d) := fun s E G F => by
  refine wpAny_Return_some ((h s (G.up F.keep) F.ok).use fun v s₁ k r => ?_)
  obtain ⟨h₁, t₁, rfl, k₁⟩ := kp_of_keeps k
  exact ⟨h₁, t₁, rfl, k₁, v, rfl, r, (F.up (keeps_keep k)).keep⟩
theorem ex1_brk {pos : Pos} : Ex1 c A base env μ (.Break pos) (.brk μ) := fun s E G F => by
  rw [arm_exec_Break]
  exact wpAny_bind (wpAny_standAt (wpAny_pure ⟨s.heap, s.toks, rfl, Kp.refl _, rfl, F⟩))
theorem ex1_cont {pos : Pos} : Ex1 c A base env μ (.Continue pos) (.cont μ) := fun s E G F => by
  rw [arm_exec_Continue]
  exact wpAny_bind (wpAny_standAt (wpAny_pure ⟨s.heap, s.toks, rfl, Kp.refl _, rfl, F⟩))
theorem ex1_assign {x : Str} {p : Pos} {e : Expr} {pos : Pos} {d : D} (h : EvE c A env μ e d) (hx : CanSt env x) (hs : swapsWith e (some (.Name x p)) pos.line env = pure false := by rfl) :
    Ex1 c A base env μ (.Assign [.Name x p] e pos) (.next ((x, d) :: μ)) := fun s E G F => by
  refine wpAny_Assign_Name ((h s (G.up F.keep) F.ok).use fun v s₁ k r => ?_) hs
  refine wpAny_mono (store_ok (c := c) (F.up (keeps_keep k)) hx r) (fun _ s₂ q => ?_) fun _ _ e => e
  obtain ⟨h₂, t₂, rfl, k₂, F₂⟩ := q
  exact Went.of (kp_of_keeps k) ⟨h₂, t₂, rfl, k₂, rfl, F₂⟩
theorem ex1_aug {x : Str} {p : Pos} {op : Operator} {e : Expr} {pos : Pos} {d0 d1 d : D} (hl : env.kindOf x = some .local) (h0 : μ.lookup x = some d0) (h : EvE c A env μ e d1) (hi : InpC c A op d0 d1 d) :
    Ex1 c A base env μ (.AugAssign (.Name x p) op e pos) (.next ((x, d) :: μ)) := fun s E G F => by
  refine wpAny_AugAssign_Name ?_
  obtain ⟨m, hn, hv⟩ := F.ok.ns
  obtain ⟨v0, e0, r0⟩ := hv x d0 h0 hl
  refine wpAny_loadName_local F.ok.kind hl hn e0 ((h s (G.up F.keep) F.ok).use fun v s₁ k r => ?_)
  refine (hi s₁ v0 v ((G.up F.keep).up (keeps_keep k)) (r0.up (keeps_keep k).seq) r).use fun u s₂ k₂ r₂ => ?_
  have k12 := keeps_trans k k₂
  refine wpAny_mono (store_ok (c := c) (F.up (keeps_keep k12)) (.inl hl) r₂) (fun _ s₃ q => ?_) fun _ _ e => e
  obtain ⟨h₂, t₂, rfl, k₂, F₂⟩ := q
  exact Went.of (kp_of_keeps k12) ⟨h₂, t₂, rfl, k₂, rfl, F₂⟩
theorem ex1_if {t : Expr} {body orelse : List Stmt} {pos : Pos} {b : Bool} (h : EvT c A env μ t b) (hb : b = true → ExS c A base env μ body o) (he : b = false → ExS c A base env μ orelse o) : Ex1 c A base env μ (.If t body orelse pos) o := fun s E G F => by
  refine wpAny_If ((h s (G.up F.keep) F.ok).use fun s₁ k => ?_)
  have F₁ := F.up (keeps_keep k)
  cases b
  · exact wpAny_mono (he rfl s₁ E G F₁) (fun _ _ w => Went.of (kp_of_keeps k) w) fun _ _ e => e
  · exact wpAny_mono (hb rfl s₁ E G F₁) (fun _ _ w => Went.of (kp_of_keeps k) w) fun _ _ e => e
theorem ex1_sub {st : Stmt} (h : Ex1 c A base env ν st o) (k : ∀ x d, ν.lookup x = some d → μ.lookup x = some d) : Ex1 c A base env μ st o := fun s E G F => h s E G (F.sub k)
theorem exs_sub {ss : List Stmt} (h : ExS c A base env ν ss o) (k : ∀ x d, ν.lookup x = some d → μ.lookup x = some d) : ExS c A base env μ ss o := fun s E G F => h s E G (F.sub k)
theorem ex1_try {body orelse : List Stmt} {h₀ : ExceptHandler} {hs : List ExceptHandler} {pos : Pos} (h : ExS c A base env μ body o) (ho : ∀ d, o = .ret d ∨ (∃ ν, o = .next ν) → True) (he : orelse = []) :
    Ex1 c A base env μ (.Try body (h₀ :: hs) orelse [] pos) o := fun s E G F => by
  subst he
  refine wpAny_Try_except (wpAny_mono (h s _ G F) (fun f s₁ w => ?_) fun _ _ e => e)
  cases f with
  | next => exact wpAny_execs_nil w
  | ret v => exact w
  | brk => exact w
  | cont => exact w

/-! several names at once -/
theorem unpackItems_D {v : Value} {ds : List D} {n : Nat} {s : Shared} {E : Value → Shared → Prop} (hh : A.handled = none) (r : Rep c.X s.heap v (.list ds) ∨ Rep c.X s.heap v (.tuple ds)) (hn : n = ds.length) :
    wpAny (model c.prog c.w) A (unpackItems v n none) (fun vs s' => Keeps s s' ∧ RepAll c.X s'.heap vs ds) E s := by
  subst hn
  have tail : ∀ {vs : List Value} {h' : Heap}, RepAll c.X s.heap vs ds → Heap.ExtBut s.heap.objs.size s.heap h' → Keeps s { s with heap := h' } ∧ RepAll c.X h' vs ds := fun ra he => by
    have k : Keep s.heap _ := fun b o e => he b o (Nat.ne_of_lt (Heap.lt_size e)) e
    exact ⟨⟨_, s.toks, rfl, k⟩, ra.up k.seq⟩
  rcases r with r | r
  · cases r with
    | list _ hl ra =>
      have := kun_itemsOf (prog := c.prog) (w := c.w) (E := E) hh hl (Q := fun vs s' => Keeps s s' ∧ RepAll c.X s'.heap vs ds) fun h' he => by simpa using tail ra he
      rwa [List.size_toArray, ra.length] at this
  · cases r with
    | tuple hl ra =>
      have := unpackItems_tuple (prog := c.prog) (w := c.w) (E := E) hh hl (Q := fun vs s' => Keeps s s' ∧ RepAll c.X s'.heap vs ds) fun h' he => by simpa using tail ra he
      rwa [List.size_toArray, ra.length] at this

/-- names stored one behind another -/
theorem assignNames : ∀ (xs : List (Str × Pos)) (vs : List Value) (ds : List D) (μ : Sto) (s : Shared) (E : Value → Shared → Prop), (∀ p ∈ xs, CanSt env p.1) → xs.length = ds.length → FrOk c.X base env s.heap μ → RepAll c.X s.heap vs ds →
    wpAny (model c.prog c.w) A (assignInOrder ((assignEach (xs.map fun p => Expr.Name p.1 p.2) env).map (·.2)) vs) (fun _ s' => ∃ h' tk, s' = { s with heap := h', toks := tk } ∧ Kp s.heap h' ∧ FrOk c.X base env h' (((xs.map (·.1)).zip ds).reverse ++ μ)) E s
  | [], vs, ds, μ, s, E, _, hlen, F, r => by
    obtain rfl : ds = [] := List.length_eq_zero_iff.mp hlen.symm
    obtain rfl := r.invN
    exact wpAny_pure ⟨s.heap, s.toks, rfl, Kp.refl _, F⟩
  | p0 :: xs, vs, ds, μ, s, E, hx, hlen, F, r => by
    obtain ⟨x, p⟩ := p0
    obtain ⟨d, ds, rfl⟩ := List.exists_cons_of_length_pos (l := ds) (by rw [← hlen]; exact Nat.succ_pos _)
    obtain ⟨v, vs, rfl, r, ra⟩ := r.inv
    show wpAny _ A (do holding vs (assign (.Name x p) env v); assignInOrder ((assignEach (xs.map fun p => Expr.Name p.1 p.2) env).map (·.2)) vs) _ E s
    refine wpAny_bind (wpAny_holding (PyProof.Rows.assign_Name (wpAny_mono (store_ok (c := c) F (hx _ List.mem_cons_self) r) (fun _ s₁ q => ?_) fun _ _ e => e)))
    obtain ⟨h₁, t₁, rfl, k₁, F₁⟩ := q
    refine wpAny_mono (assignNames xs vs ds ((x, d) :: μ) _ E (fun p hp => hx p (List.mem_cons_of_mem _ hp)) (by simpa using hlen) F₁ (ra.up k₁.seq)) (fun _ s₂ q => ?_) fun _ _ e => e
    obtain ⟨h₂, t₂, rfl, k₂, F₂⟩ := q
    exact ⟨h₂, t₂, rfl, k₁.trans k₂, by simpa using F₂⟩

theorem assign_tuple_D {xs : List (Str × Pos)} {n : Nat} {tp : Pos} {v : Value} {ds : List D} {s : Shared} {E : Value → Shared → Prop} (hh : A.handled = none) (F : FrOk c.X base env s.heap μ) (r : Rep c.X s.heap v (.list ds) ∨ Rep c.X s.heap v (.tuple ds))
    (hx : ∀ p ∈ xs, CanSt env p.1) (hlen : xs.length = ds.length) :
    wpAny (model c.prog c.w) A (assign (.Tuple (xs.map fun p => Expr.Name p.1 p.2) n tp) env v) (fun _ s' => ∃ h' tk, s' = { s with heap := h', toks := tk } ∧ Kp s.heap h' ∧ FrOk c.X base env h' (((xs.map (·.1)).zip ds).reverse ++ μ)) E s := by
  rw [arm_assign_Tuple]
  refine wpAny_bind (wpAny_standAt ?_)
  have e1 : ∀ ys : List (Str × Pos), (assignEach (ys.map fun p => Expr.Name p.1 p.2) env).length = ys.length := by
    intro ys
    induction ys with
    | nil => rfl
    | cons y ys ih => show (assignEach (ys.map fun p => Expr.Name p.1 p.2) env).length + 1 = _; rw [ih, List.length_cons]
  have e2 : ∀ ys : List (Str × Pos), (assignEach (ys.map fun p => Expr.Name p.1 p.2) env).findIdx? (·.1) = none := by
    intro ys
    induction ys with
    | nil => rfl
    | cons y ys ih =>
      show List.findIdx? _ ((false, assign (Expr.Name y.1 y.2) env) :: assignEach (ys.map fun p => Expr.Name p.1 p.2) env) = none
      rw [List.findIdx?_cons, ih]
      simp
  unfold unpack
  rw [e1, e2]
  refine wpAny_bind (wpAny_holding (wpAny_mono (unpackItems_D (c := c) hh r hlen) (fun vs s₁ q => ?_) fun _ _ e => e))
  obtain ⟨k, ra⟩ := q
  refine wpAny_mono (assignNames (c := c) xs vs ds μ s₁ E hx hlen (F.up (keeps_keep k)) ra) (fun _ s₂ q => ?_) fun _ _ e => e
  obtain ⟨h₁, t₁, rfl, k₁⟩ := kp_of_keeps k
  obtain ⟨h₂, t₂, rfl, k₂, F₂⟩ := q
  exact ⟨h₂, t₂, rfl, k₁.trans k₂, F₂⟩
theorem ex1_unpack {xs : List (Str × Pos)} {n : Nat} {tp : Pos} {e : Expr} {pos : Pos} {d : D} {ds : List D} (hh : A.handled = none) (h : EvE c A env μ e d) (hd : d = .list ds ∨ d = .tuple ds) (hx : ∀ p ∈ xs, CanSt env p.1) (hlen : xs.length = ds.length)
    (hs : swapsWithSole [.Tuple (xs.map fun p => Expr.Name p.1 p.2) n tp] e pos.line env = pure false := by rfl)
    (hw : swappedStores [.Tuple (xs.map fun p => Expr.Name p.1 p.2) n tp] e env = pure none := by rfl) :
    Ex1 c A base env μ (.Assign [.Tuple (xs.map fun p => Expr.Name p.1 p.2) n tp] e pos) (.next (((xs.map (·.1)).zip ds).reverse ++ μ)) := fun s E G F => by
  refine Assign_Tuple ((h s (G.up F.keep) F.ok).use fun v s₁ k r => ?_) hs hw
  refine wpAny_mono (assign_tuple_D (c := c) hh (F.up (keeps_keep k)) (by rcases hd with rfl | rfl; exact .inl r; exact .inr r) hx hlen) (fun _ s₂ q => ?_) fun _ _ e => e
  obtain ⟨h₂, t₂, rfl, k₂, F₂⟩ := q
  exact Went.of (kp_of_keeps k) ⟨h₂, t₂, rfl, k₂, rfl, F₂⟩
end
end Mine
end

section -- F4
open PySem PySem.W PyProof.Rows PySem.Builtin PySem.Builtin.Str
set_option Elab.async false
set_option maxRecDepth 100000
set_option linter.unusedVariables false
set_option autoImplicit false
namespace Mine

/-- how the parameters are bound -/
def BindC (c : Cx) (A : Around) (fd : FuncData) (ds : List D) (xs : List Str) (es : List D) : Prop :=
  ∀ (s : Shared) (vs : List Value) (E : Value → Shared → Prop), c.G s.heap → RepAll c.X s.heap vs ds →
    wpAny (model c.prog c.w) A (bindArgs fd ⟨vs, []⟩) (fun binds s₁ => Keeps s s₁ ∧ ∃ ws, binds = xs.zip ws ∧ RepAll c.X s₁.heap ws es) E s

theorem bindL_rep {X : Addr → Prop} {h : Heap} {kindOf : Str → Option NameKind} : ∀ (xs : List Str) (ws : List Value) (es : List D) (μ : Sto) (m : Str → Option Value), xs.length = es.length → RepAll X h ws es →
    (∀ x d, μ.lookup x = some d → kindOf x = some .local → ∃ v, m x = some v ∧ Rep X h v d) →
    ∀ x d, ((xs.zip es).reverse ++ μ).lookup x = some d → kindOf x = some .local → ∃ v, bindL kindOf (xs.zip ws) m x = some v ∧ Rep X h v d
  | [], _, [], μ, m, _, .nil, hm => hm
  | y :: xs, _, e :: es, μ, m, hl, .cons (v := v) (vs := ws) r ra, hm => fun x d hx hk => by
    refine bindL_rep xs ws es ((y, e) :: μ) _ (by simpa using hl) ra (fun x' d' h' k' => ?_) x d (by simpa using hx) hk
    rcases lookup_cons_cases h' with ⟨rfl, rfl⟩ | ⟨hne, h''⟩
    · rw [if_pos k']; exact ⟨v, by simp, r⟩
    · obtain ⟨u, a, q⟩ := hm x' d' h'' k'
      refine ⟨u, ?_, q⟩
      split
      · simp [hne, a]
      · exact a
theorem bindC_rep {X : Addr → Prop} {h : Heap} {kindOf : Str → Option NameKind} : ∀ (xs : List Str) (ws : List Value) (es : List D) (μ : Sto) (m : Str → Option Value), xs.length = es.length → RepAll X h ws es →
    (∀ x d, μ.lookup x = some d → kindOf x ≠ some .local → ∃ v, m x = some v ∧ Rep X h v d) →
    ∀ x d, ((xs.zip es).reverse ++ μ).lookup x = some d → kindOf x ≠ some .local → ∃ v, bindC kindOf (xs.zip ws) m x = some v ∧ Rep X h v d
  | [], _, [], μ, m, _, .nil, hm => hm
  | y :: xs, _, e :: es, μ, m, hl, .cons (v := v) (vs := ws) r ra, hm => fun x d hx hk => by
    refine bindC_rep xs ws es ((y, e) :: μ) _ (by simpa using hl) ra (fun x' d' h' k' => ?_) x d (by simpa using hx) hk
    rcases lookup_cons_cases h' with ⟨rfl, rfl⟩ | ⟨hne, h''⟩
    · rw [if_neg k']; exact ⟨v, by simp, r⟩
    · obtain ⟨u, a, q⟩ := hm x' d' h'' k'
      refine ⟨u, ?_, q⟩
      split
      · exact a
      · simp [hne, a]

theorem cellsFrom_names : ∀ (names : List (Str × NameKind)) (n k : Nat) (acc acc' : List (Str × Addr)), acc.map (·.1) = acc'.map (·.1) → (cellsFrom n names acc).map (·.1) = (cellsFrom k names acc').map (·.1)
  | [], _, _, _, _, e => e
  | (y, q) :: r, n, k, acc, acc', e => by
    unfold cellsFrom
    split
    · exact cellsFrom_names r _ _ _ _ (by simp [e])
    · exact cellsFrom_names r _ _ _ _ e
theorem lookup_of_mem : ∀ {l : List (Str × Addr)} {n : Str} {c : Addr}, (l.map (·.1)).Nodup → (n, c) ∈ l → l.lookup n = some c
  | (k, v) :: r, n, c, nd, h => by
    rw [List.map_cons, List.nodup_cons] at nd
    rcases List.mem_cons.mp h with e | h'
    · cases e; simp
    · have : (n == k) = false := by
        have : n ≠ k := by
          rintro rfl
          exact nd.1 (List.mem_map.mpr ⟨(n, c), h', rfl⟩)
        simpa using this
      rw [List.lookup_cons, this]
      exact lookup_of_mem nd.2 h'

section
variable {c : Cx} {A : Around} {env : Env} {μ : Sto} {base : Heap} {o : Out}

theorem inCall_fr {s s' : Shared} {env : Env} {xs : List Str} {ws : List Value} {es : List D} (hk : env.scope.kind = .function) (hg : env.globals = mainGlobals) (hb : env.builtins = builtinsNs) (hl : xs.length = es.length)
    (r : RepAll c.X s.heap ws es) (hnd : (env.cells.map (·.1)).Nodup) (hcell : ∀ x ∈ xs, env.kindOf x ≠ some .local → (env.cells.lookup x).isSome = true)
    (x : InCallC s env.locals (bindL env.kindOf (xs.zip ws) fun _ => none) env.cells (bindC env.kindOf (xs.zip ws) fun _ => none) s') : FrOk c.X s.heap env s'.heap (xs.zip es).reverse := by
  have ra : RepAll c.X s'.heap ws es := r.up (Keep.seq x.toInCall.keep)
  have hlo := x.toInCall.fresh
  refine ⟨⟨hk, hg, hb, ⟨_, x.toInCall.ns, fun y d hy ly => ?_⟩, fun y d hy ly => ?_⟩, x.toInCall.keep, hlo, fun _ n c hm => Nat.le_of_lt (Nat.lt_of_le_of_lt hlo (x.above n c hm)), fun _ n c hm => ?_, fun _ => x.apart⟩
  · exact bindL_rep xs ws es [] _ hl ra (fun _ _ e => by simp at e) y d (by simpa using hy) ly
  · have nl : env.kindOf y ≠ some .local := by rcases ly with q | q <;> rw [q] <;> decide
    obtain ⟨v, a, q⟩ := bindC_rep (kindOf := env.kindOf) xs ws es [] (fun _ => none) hl ra (fun _ _ e => by simp at e) y d (by simpa using hy) nl
    have hmem : y ∈ xs := by
      have := mem_of_lookup hy
      rw [List.mem_reverse] at this
      exact (List.of_mem_zip this).1
    obtain ⟨cx, hc⟩ := Option.isSome_iff_exists.mp (hcell y hmem nl)
    exact ⟨cx, v, hc, a ▸ x.cell y cx hc, q⟩
  · exact ⟨_, x.cell n c (lookup_of_mem hnd hm)⟩


/-- a def of the text's, by its body -/
theorem fc_def {a : Addr} {ob : Obj} {fd : FuncData} {body : List Stmt} {ds : List D} {d : D} {xs : List Str} {es : List D}
    (hl : (hd.heap_1 c.w.params).lookup a = some ob) (hdat : ob.data = .func fd) (hbody : fd.body = .stmts body) (hcode : codeIn (hd.heap_1 c.w.params) fd.code fd.qualname = true)
    (hbind : BindC c A.in1 fd ds xs es) (hlen : xs.length = es.length)
    (hkind : ∀ x ∈ xs, fd.scope.names.lookup x = some .local ∨ (fd.scope.names.lookup x = some .cell ∧ ((cellsFrom 0 fd.scope.names []).map (·.1)).contains x = true))
    (hnd : ((cellsFrom 0 fd.scope.names []).map (·.1)).Nodup)
    (hroom : A.depth < recursionLimit)
    (h : ∀ base, ExS c (A.deeper (callEnvC fd base.objs.size a)) base (callEnvC fd base.objs.size a) (xs.zip es).reverse body (.ret d))
    (hclo : fd.closure = [] := by rfl) (hg : fd.globals = mainGlobals := by rfl) (hb : fd.builtins = builtinsNs := by rfl)
    (hco : fd.scope.isCoroutine = false := by rfl) (hgen : fd.scope.isGenerator = false := by rfl) (hk : fd.scope.kind = .function := by rfl) : FC c A (.ref a) ds d := fun s vs G r E => by
  refine wpAny_call (codeAny_call_function hroom (G.k _ _ hl) hdat hco hgen hbody (codeRec_of G.k hcode) (wpAny_mono (hbind s vs _ G r) (fun binds s₁ q => ?_) fun _ _ e => e))
  obtain ⟨k, ws, rfl, ra⟩ := q
  rw [hclo]
  have hsome : ∀ n x, ((cellsFrom 0 fd.scope.names []).map (·.1)).contains x = true → ((cellsFrom n fd.scope.names []).lookup x).isSome = true := fun n x hx => by
    rw [cellsFrom_names _ 0 n [] [] rfl] at hx hnd
    have hm : x ∈ (cellsFrom n fd.scope.names []).map (·.1) := by simpa using hx
    obtain ⟨⟨y, c'⟩, hm', rfl⟩ := List.mem_map.mp hm
    rw [lookup_of_mem hnd hm']; rfl
  refine wpAny_newFunctionEnv_cells hk (fun x hx => ?_) fun env he s' x => ?_
  · have hx' : x.1 ∈ xs := (List.of_mem_zip (show (x.1, x.2) ∈ xs.zip ws from hx)).1
    rcases hkind x.1 hx' with q | ⟨q, q'⟩
    · exact .inl q
    · exact .inr ⟨q, hsome _ _ q'⟩
  · have he' : env = callEnvC fd s₁.heap.objs.size a := he
    subst he'
    have F : FrOk c.X s₁.heap (callEnvC fd s₁.heap.objs.size a) s'.heap (xs.zip es).reverse := inCall_fr hk hg hb hlen ra (by show ((cellsFrom _ fd.scope.names []).map (·.1)).Nodup; rw [← cellsFrom_names _ 0 _ [] [] rfl]; exact hnd) (fun x hx nl => by
      rcases hkind x hx with q | ⟨_, q'⟩
      · exact absurd q nl
      · exact hsome _ _ q') x
    refine ⟨(G.up (keeps_keep k)).nolimit.keeps F.keep, codeAny_func (wpAny_mono (h s₁.heap s' _ (G.up (keeps_keep k)) F) (fun f s₂ q => ?_) fun _ _ e => e)⟩
    obtain ⟨h₂, t₂, rfl, _, v, rfl, rv, kb⟩ := q
    obtain ⟨h₁, t₁, rfl⟩ := x.toInCall.same
    exact ⟨keeps_trans k ⟨h₂, t₂, rfl, kb⟩, rv⟩

/-- plain parameters -/
theorem bindC_plain {fd : FuncData} {ds : List D} {xs : List Str} (h : ∀ vs : List Value, vs.length = ds.length → bindArgs fd ⟨vs, []⟩ = pure (xs.zip vs)) : BindC c A fd ds xs ds := fun s vs E G r => by
  rw [h vs r.length]
  exact wpAny_pure ⟨keeps_refl s, vs, rfl, r⟩
end
end Mine
end

section -- P0
open PySem PySem.W PyProof.Rows PySem.Builtin PySem.Builtin.Str
set_option Elab.async false
set_option maxRecDepth 100000
set_option linter.unusedVariables false
set_option autoImplicit false
namespace Mine

theorem ns_capwords (P : Params) : nsIn (hd.heap_1 P) mainGlobals "capwords" = some (some (.ref 29)) := by kernel_rfl
theorem fnk_capwords {c : Cx} : FnK c 29 := ⟨_, _, rfl, rfl⟩
theorem ns_fspath (P : Params) : nsIn (hd.heap_1 P) mainGlobals "fspath" = some (some (.ref 102)) := by kernel_rfl
theorem fnk_fspath {c : Cx} : FnK c 102 := ⟨_, _, rfl, rfl⟩
theorem ns_get_sep (P : Params) : nsIn (hd.heap_1 P) mainGlobals "_get_sep" = some (some (.ref 116)) := by kernel_rfl
theorem fnk_get_sep {c : Cx} : FnK c 116 := ⟨_, _, rfl, rfl⟩
theorem ns_join (P : Params) : nsIn (hd.heap_1 P) mainGlobals "join" = some (some (.ref 123)) := by kernel_rfl
theorem fnk_join {c : Cx} : FnK c 123 := ⟨_, _, rfl, rfl⟩
theorem ns_splitroot (P : Params) : nsIn (hd.heap_1 P) mainGlobals "splitroot" = some (some (.ref 130)) := by kernel_rfl
theorem fnk_splitroot {c : Cx} : FnK c 130 := ⟨_, _, rfl, rfl⟩
theorem ns_basename (P : Params) : nsIn (hd.heap_1 P) mainGlobals "basename" = some (some (.ref 137)) := by kernel_rfl
theorem fnk_basename {c : Cx} : FnK c 137 := ⟨_, _, rfl, rfl⟩
theorem ns_dirname (P : Params) : nsIn (hd.heap_1 P) mainGlobals "dirname" = some (some (.ref 144)) := by kernel_rfl
theorem fnk_dirname {c : Cx} : FnK c 144 := ⟨_, _, rfl, rfl⟩
theorem ns_normpath (P : Params) : nsIn (hd.heap_1 P) mainGlobals "normpath" = some (some (.ref 151)) := by kernel_rfl
theorem fnk_normpath {c : Cx} : FnK c 151 := ⟨_, _, rfl, rfl⟩
theorem ns_commonpath (P : Params) : nsIn (hd.heap_1 P) mainGlobals "commonpath" = some (some (.ref 156)) := by kernel_rfl
theorem fnk_commonpath {c : Cx} : FnK c 156 := ⟨_, _, rfl, rfl⟩
theorem ns_law_path (P : Params) : nsIn (hd.heap_1 P) mainGlobals "_law_path" = some (some (.ref 161)) := by kernel_rfl
theorem fnk_law_path {c : Cx} : FnK c 161 := ⟨_, _, rfl, rfl⟩
theorem ns_law_kept (P : Params) : nsIn (hd.heap_1 P) mainGlobals "_law_kept" = some (some (.ref 166)) := by kernel_rfl
theorem fnk_law_kept {c : Cx} : FnK c 166 := ⟨_, _, rfl, rfl⟩
theorem ns_law_below (P : Params) : nsIn (hd.heap_1 P) mainGlobals "_law_below" = some (some (.ref 173)) := by kernel_rfl
theorem fnk_law_below {c : Cx} : FnK c 173 := ⟨_, _, rfl, rfl⟩
theorem ns_law_done (P : Params) : nsIn (hd.heap_1 P) mainGlobals "_law_done" = some (some (.ref 178)) := by kernel_rfl
theorem fnk_law_done {c : Cx} : FnK c 178 := ⟨_, _, rfl, rfl⟩
theorem ns_law_way (P : Params) : nsIn (hd.heap_1 P) mainGlobals "_law_way" = some (some (.ref 185)) := by kernel_rfl
theorem fnk_law_way {c : Cx} : FnK c 185 := ⟨_, _, rfl, rfl⟩
theorem ns_law_low (P : Params) : nsIn (hd.heap_1 P) mainGlobals "_law_low" = some (some (.ref 190)) := by kernel_rfl
theorem fnk_law_low {c : Cx} : FnK c 190 := ⟨_, _, rfl, rfl⟩
theorem ns_law_told (P : Params) : nsIn (hd.heap_1 P) mainGlobals "_law_told" = some (some (.ref 195)) := by kernel_rfl
theorem fnk_law_told {c : Cx} : FnK c 195 := ⟨_, _, rfl, rfl⟩
theorem ns_law_spelled (P : Params) : nsIn (hd.heap_1 P) mainGlobals "_law_spelled" = some (some (.ref 200)) := by kernel_rfl
theorem fnk_law_spelled {c : Cx} : FnK c 200 := ⟨_, _, rfl, rfl⟩
theorem ns_law_agree (P : Params) : nsIn (hd.heap_1 P) mainGlobals "_law_agree" = some (some (.ref 205)) := by kernel_rfl
theorem fnk_law_agree {c : Cx} : FnK c 205 := ⟨_, _, rfl, rfl⟩
theorem ns_law (P : Params) : nsIn (hd.heap_1 P) mainGlobals "law" = some (some (.ref 210)) := by kernel_rfl
theorem fnk_law {c : Cx} : FnK c 210 := ⟨_, _, rfl, rfl⟩
theorem nb_map (P : Params) : nsIn (hd.heap_1 P) mainGlobals "map" = some none := by kernel_rfl
theorem bb_map : bootBuiltins "map" = some (.type "map") := by decide +kernel
theorem nb_str (P : Params) : nsIn (hd.heap_1 P) mainGlobals "str" = some none := by kernel_rfl
theorem bb_str : bootBuiltins "str" = some (.type "str") := by decide +kernel
theorem nb_type (P : Params) : nsIn (hd.heap_1 P) mainGlobals "type" = some none := by kernel_rfl
theorem bb_type : bootBuiltins "type" = some (.type "type") := by decide +kernel
theorem nb_bytes (P : Params) : nsIn (hd.heap_1 P) mainGlobals "bytes" = some none := by kernel_rfl
theorem bb_bytes : bootBuiltins "bytes" = some (.type "bytes") := by decide +kernel
theorem nb_issubclass (P : Params) : nsIn (hd.heap_1 P) mainGlobals "issubclass" = some none := by kernel_rfl
theorem bb_issubclass : bootBuiltins "issubclass" = some (.builtin "issubclass") := by decide +kernel
theorem nb_isinstance (P : Params) : nsIn (hd.heap_1 P) mainGlobals "isinstance" = some none := by kernel_rfl
theorem bb_isinstance : bootBuiltins "isinstance" = some (.builtin "isinstance") := by decide +kernel
theorem nb_len (P : Params) : nsIn (hd.heap_1 P) mainGlobals "len" = some none := by kernel_rfl
theorem bb_len : bootBuiltins "len" = some (.builtin "len") := by decide +kernel
theorem nb_tuple (P : Params) : nsIn (hd.heap_1 P) mainGlobals "tuple" = some none := by kernel_rfl
theorem bb_tuple : bootBuiltins "tuple" = some (.type "tuple") := by decide +kernel
theorem nb_min (P : Params) : nsIn (hd.heap_1 P) mainGlobals "min" = some none := by kernel_rfl
theorem bb_min : bootBuiltins "min" = some (.builtin "min") := by decide +kernel
theorem nb_max (P : Params) : nsIn (hd.heap_1 P) mainGlobals "max" = some none := by kernel_rfl
theorem bb_max : bootBuiltins "max" = some (.builtin "max") := by decide +kernel
theorem nb_enumerate (P : Params) : nsIn (hd.heap_1 P) mainGlobals "enumerate" = some none := by kernel_rfl
theorem bb_enumerate : bootBuiltins "enumerate" = some (.type "enumerate") := by decide +kernel
theorem nb_sorted (P : Params) : nsIn (hd.heap_1 P) mainGlobals "sorted" = some none := by kernel_rfl
theorem bb_sorted : bootBuiltins "sorted" = some (.builtin "sorted") := by decide +kernel
theorem nb_range (P : Params) : nsIn (hd.heap_1 P) mainGlobals "range" = some none := by kernel_rfl
theorem bb_range : bootBuiltins "range" = some (.type "range") := by decide +kernel
end Mine
end

section -- P1
open PySem PySem.W PyProof.Rows PySem.Builtin PySem.Builtin.Str
set_option Elab.async false
set_option maxRecDepth 100000
set_option linter.unusedVariables false
set_option autoImplicit false
namespace Mine

/-- room for n more calls -/
structure Okay (n : Nat) (A : Around) : Prop where
  handled : A.handled = none
  depth : A.depth + n < recursionLimit
  units : A.units + 20 * n + 20 < cLine
theorem Okay.deeper {n : Nat} {A : Around} (h : Okay (n + 1) A) (env : Env) : Okay n (A.deeper env) :=
  ⟨h.handled, by have := h.depth; show A.depth + 1 + n < _; omega, by have := h.units; show A.units + 3 + 20 * n + 20 < _; omega⟩
theorem Okay.in1 {n : Nat} {A : Around} (h : Okay (n + 1) A) : Okay n A.in1 :=
  ⟨h.handled, by have := h.depth; show A.depth + n < _; omega, by have := h.units; show A.units + 1 + 20 * n + 20 < _; omega⟩
theorem Okay.le {n m : Nat} {A : Around} (h : Okay n A) (k : m ≤ n) : Okay m A :=
  ⟨h.handled, by have := h.depth; omega, by have := h.units; omega⟩
theorem Okay.room {n : Nat} {A : Around} (h : Okay n A) : A.depth < recursionLimit := by have := h.depth; omega


section
variable {c : Cx} {A : Around} {env : Env} {μ : Sto} {base : Heap} {o : Out}

theorem fc_isi_bytes {x : Str} : FC c A (.builtin "isinstance") [.str x, .val (.type "bytes")] (.bool false) := fun s vs _ r _ => by
  obtain ⟨v, vs, rfl, r1, r⟩ := r.inv
  obtain ⟨u, vs, rfl, r2, r⟩ := r.inv
  obtain rfl := r.invN
  obtain ⟨t, rfl⟩ := r1.invS
  obtain rfl := r2.invV
  exact IsiPair.str_bytes ⟨keeps_toks s _, .bool _⟩

theorem fc_type_str {x : Str} : FC c A (.type "type") [.str x] (.val (.type "str")) := fun s vs _ r _ => by
  obtain ⟨v, vs, rfl, r1, r⟩ := r.inv
  obtain rfl := r.invN
  obtain ⟨t, rfl⟩ := r1.invS
  refine wpAny_call (codeAny_of_tree ?_)
  show wpAny _ _ (callAny (.type "type") ⟨[.str x t], []⟩) _ _ _
  simp only [callAny]
  refine wpAny_pure ⟨Code.quiet_builtin _ (by decide +kernel), codeAny_builtin entry_type_call ?_⟩
  unfold Builtin.«type.__call__»
  dsimp only
  unfold shownTypeOf
  repeat (first | wp_step)
  exact ⟨keeps_refl s, .val _⟩

theorem typeOf_type_str : typeOf (.type "str") = pure (.type "type") := by with_unfolding_all rfl
theorem sub_str_str : isSubtype (.type "str") (.type "str") = pure true := by rw [isSubtype_type]; kernel_rfl
theorem kind_issubclass_nested : builtinKind "issubclass.nested" = none := by decide +kernel
theorem plain_issubclass_nested : plainId "issubclass.nested" = true := by decide +kernel
theorem args_issubclass_nested_3 (a b c : Value) : argsOk "issubclass.nested" ⟨[a, b, c], []⟩ := by unfold argsOk; kernel_rfl
theorem issub_str_str {dep : Int} {tk : Tok} {s : Shared} {Q : Fin → Shared → Prop} {E : Value → Shared → Prop} (hq : Q (.done (.ret (.bool true))) s) :
    wpAny (model c.prog c.w) A (Builtin.«issubclass.nested» ⟨[.type "str", .type "str", .int dep tk], []⟩) Q E s := by
  have hm := typeOf_type_str
  have hself := sub_str_str
  repeat (any_goals (first | assumption | (rw [hself]) | wp_step))
theorem fc_issubclass : FC c A (.builtin "issubclass") [.val (.type "str"), .tuple [.val (.type "str"), .val (.type "bytes")]] (.bool true) := fun s vs _ r E => by
  obtain ⟨v, vs, rfl, r1, r⟩ := r.inv
  obtain ⟨u, vs, rfl, r2, r⟩ := r.inv
  obtain rfl := r.invN
  obtain rfl := r1.invV
  obtain ⟨tp, us, rfl, ht, ra⟩ := r2.invT
  obtain ⟨u1, us, rfl, q1, ra⟩ := ra.inv
  obtain ⟨u2, us, rfl, q2, ra⟩ := ra.inv
  obtain rfl := ra.invN
  obtain rfl := q1.invV
  obtain rfl := q2.invV
  refine call_issubclass (S := fun A R s' => IsTup s'.heap tp #[.type "str", .type "bytes"] ∧ R (.ok (.ret (.bool true))) s') (fun prog w A R s' hs => issubclass_outer ?_) ⟨ht, ⟨keeps_refl s, .bool _⟩⟩
  obtain ⟨ht, hq⟩ := hs
  obtain ⟨ob, ho, hcl, n, hda⟩ := id ht
  have hT2 : s'.TypeIs (.ref tp) "tuple" := ht.typeIs
  have f1 := PySem.F.isi_sub_tuple
  obtain ⟨h, g, d, t, os⟩ := s'
  repeat (first | assumption | (refine wpAny_seqItems ho hda ?_) | ((fail_if_success (with_reducible show wpAny _ _ (Array.forIn'.loop _ _ _ _ _) _ _ _)); wp_step))
  refine wpAny_arrayLoop ?_
  simp only [Option.getD_some]
  rw [List.forIn_cons]
  refine wpAny_bind (wpAny_bind (call_function_meets kind_issubclass_nested plain_issubclass_nested PySem.F.entry_issubclass_nested (args_issubclass_nested_3 _ _ _) (S := fun _ R s => R (.ok (.ret (.bool true))) s) (fun prog w A R s hs => issub_str_str (c := ⟨prog, w, c.mg, c.mb, c.X⟩) hs) ?_))
  show wpAny _ _ (truthy (.bool true) >>= _) _ _ _
  refine wpAny_bind (m := truthy (.bool true)) (wpAny_pure ?_)
  repeat (first | assumption | wp_step)

theorem kOf {env : Env} {S : Scope} {x : Str} {k : NameKind} (hs : env.scope = S) (e : S.names.lookup x = some k) : env.kindOf x = some k := by rw [Env.kindOf, hs]; exact e
theorem canL {env : Env} {S : Scope} {x : Str} (hs : env.scope = S) (e : S.names.lookup x = some .local) : CanSt env x := .inl (kOf hs e)
theorem canC {env : Env} {S : Scope} {x : Str} {cs : List (Str × Addr)} (hs : env.scope = S) (hc : env.cells = cs) (hf : env.func.isSome = true) (e : S.names.lookup x = some .cell) (e' : (cs.lookup x).isSome = true) : CanSt env x := .inr ⟨kOf hs e, hf, by rw [hc]; exact e'⟩
/-- a def of the text's, its frame left open -/
theorem fc_open {n : Nat} {a : Addr} {ob : Obj} {fd : FuncData} {body : List Stmt} {ds : List D} {d : D} {xs : List Str} {es : List D} (hA : Okay (n + 1) A)
    (hl : (hd.heap_1 c.w.params).lookup a = some ob) (hdat : ob.data = .func fd) (hbody : fd.body = .stmts body) (hcode : codeIn (hd.heap_1 c.w.params) fd.code fd.qualname = true)
    (hbind : BindC c A.in1 fd ds xs es) (hlen : xs.length = es.length)
    (hkind : ∀ x ∈ xs, fd.scope.names.lookup x = some .local ∨ (fd.scope.names.lookup x = some .cell ∧ ((cellsFrom 0 fd.scope.names []).map (·.1)).contains x = true))
    (hnd : ((cellsFrom 0 fd.scope.names []).map (·.1)).Nodup)
    (h : ∀ (base : Heap) (env : Env) (A' : Around), Okay n A' → env.scope = fd.scope → env.cells = cellsFrom (env.locals + 1) fd.scope.names [] → env.func.isSome = true → ExS c A' base env (xs.zip es).reverse body (.ret d))
    (hclo : fd.closure = [] := by rfl) (hg : fd.globals = mainGlobals := by rfl) (hb : fd.builtins = builtinsNs := by rfl)
    (hco : fd.scope.isCoroutine = false := by rfl) (hgen : fd.scope.isGenerator = false := by rfl) (hk : fd.scope.kind = .function := by rfl) : FC c A (.ref a) ds d :=
  fc_def hl hdat hbody hcode hbind hlen hkind hnd hA.room (fun base => h base _ _ (hA.deeper _) rfl rfl rfl) hclo hg hb hco hgen hk
end
end Mine
end

section -- P2
open PySem PySem.W PyProof.Rows PySem.Builtin PySem.Builtin.Str
set_option Elab.async false
set_option maxRecDepth 100000
set_option linter.unusedVariables false
set_option autoImplicit false
namespace Mine
local macro_rules | `(tactic| walk_at "ev") => `(tactic| first
  | with_reducible exact ev_str
  | with_reducible exact ev_int
  | with_reducible exact ev_bool
  | with_reducible exact ev_none
  | ((with_reducible refine ev_local (kOf (by assumption) ?_) ?_) <;> rfl)
  | ((with_reducible refine ev_cell (kOf (by assumption) ?_) ?_) <;> rfl))
section
variable {c : Cx} {A : Around} {env : Env} {μ : Sto} {base : Heap} {o : Out}
theorem fc_get_sep {x : Str} (hA : Okay 1 A) : FC c A (.ref 116) [.str x] (.str "/") := by
  refine fc_open (xs := ["path"]) hA rfl rfl rfl (by kernel_rfl) (bindC_plain ?_) rfl (by decide +kernel) (by decide +kernel) ?_
  · intro vs h
    match vs, h with
    | [a], _ => rfl
  · intro base env A' hA' hs hc hf
    refine exs_ret (ex1_if (b := false) ?_ (fun h => nomatch h) fun _ => exs_ret (ex1_ret ev_str))
    refine evt_plain (ev_call_b (ev_builtin (kOf hs rfl) (nb_isinstance _) bb_isinstance (by decide)) (evl_cons (by walk_at "ev") (evl_cons (ev_builtin (kOf hs rfl) (nb_bytes _) bb_bytes (by decide)) evl_nil)) fc_isi_bytes) tr_bool
theorem fc_fspath {x : Str} (hA : Okay 1 A) : FC c A (.ref 102) [.str x] (.str x) := by
  refine fc_open (xs := ["path"]) hA rfl rfl rfl (by kernel_rfl) (bindC_plain ?_) rfl (by decide +kernel) (by decide +kernel) ?_
  · intro vs h
    match vs, h with
    | [a], _ => rfl
  · intro base env A' hA' hs hc hf
    refine exs_cons (ex1_assign (ev_call_t (ev_builtin (kOf hs rfl) (nb_type _) bb_type (by decide)) (evl_cons (by walk_at "ev") evl_nil) fc_type_str) (canL hs rfl)) ?_
    refine exs_ret (ex1_if (b := true) ?_ (fun _ => exs_ret (ex1_ret (by walk_at "ev"))) (fun h => nomatch h))
    refine evt_plain (ev_call_b (ev_builtin (kOf hs rfl) (nb_issubclass _) bb_issubclass (by decide)) (evl_cons (by walk_at "ev") (evl_cons (ev_tuple (evl_cons (ev_builtin (kOf hs rfl) (nb_str _) bb_str (by decide)) (evl_cons (ev_builtin (kOf hs rfl) (nb_bytes _) bb_bytes (by decide)) evl_nil))) evl_nil)) fc_issubclass) tr_bool
end
end Mine
end

section -- F5
open PySem PySem.W PyProof.Rows PySem.Builtin PySem.Builtin.Str
set_option Elab.async false
set_option maxRecDepth 100000
set_option linter.unusedVariables false
set_option autoImplicit false
namespace Mine

/-- the iterators that hand out a list's or a tuple's items -/
inductive SeqSt (I ax : Addr) (vs : List Value) (i : Nat) (h : Heap) : Prop
  | list : h.IsListIter I ax i → h.IsList ax vs.toArray → SeqSt I ax vs i h
  | tuple : h.IsTupleIter I ax i → h.IsTuple ax vs.toArray → SeqSt I ax vs i h

def ownedNames : List String := ["enumerate", "zip", "dict_itemiterator", "dict_reverseitemiterator", "odict_iterator", "itertools.zip_longest", "itertools.pairwise"]
theorem SeqSt.obj {I ax : Addr} {vs : List Value} {i : Nat} {h : Heap} (x : SeqSt I ax vs i h) : ∃ o us T, h.get? I = some o ∧ o.data = .fields us ∧ o.cls = .type T ∧ ownedNames.contains T = false := by
  cases x with
  | list a b => obtain ⟨o, ho, hc, hd⟩ := a; exact ⟨o, _, _, ho, hd, hc, by decide +kernel⟩
  | tuple a b => obtain ⟨o, ho, hc, hd⟩ := a; exact ⟨o, _, _, ho, hd, hc, by decide +kernel⟩
theorem SeqSt.kp {I ax : Addr} {vs : List Value} {i : Nat} {h h' : Heap} (x : SeqSt I ax vs i h) (k : Kp h h') : SeqSt I ax vs i h' := by
  cases x with
  | list a b =>
    obtain ⟨o, ho, hc, hd⟩ := a
    exact .list ⟨o, k I o ho (fun _ _ q => by rw [hd] at q; cases q) (fun _ q => by rw [hd] at q; cases q), hc, hd⟩ (isList_seqKeep k.seq b)
  | tuple a b =>
    obtain ⟨o, ho, hc, hd⟩ := a
    obtain ⟨o', ho', hc', n', hd'⟩ := b
    exact .tuple ⟨o, k I o ho (fun _ _ q => by rw [hd] at q; cases q) (fun _ q => by rw [hd] at q; cases q), hc, hd⟩ ⟨o', k.seq _ _ _ _ ho' hd', hc', n', hd'⟩
/-- what may change at a step of the iterator -/
def ButI (I : Addr) (h h' : Heap) : Prop := ∀ b o, b ≠ I → h.get? b = some o → h'.get? b = some o

section
variable {c : Cx} {A : Around} {env : Env} {μ : Sto} {base : Heap} {o : Out}

theorem seq_item {I ax : Addr} {vs : List Value} {i : Nat} {v : Value} {s : Shared} {Q : Option Value → Shared → Prop} {E : Value → Shared → Prop} (hne : ax ≠ I) (hh : A.handled = none) (st : SeqSt I ax vs i s.heap) (hv : vs[i]? = some v)
    (hQ : ∀ h' tk, SeqSt I ax vs (i + 1) h' → ButI I s.heap h' → Q (some v) { s with heap := h', toks := tk }) : wpAny (model c.prog c.w) A (pyNext (.ref I)) Q E s := by
  have hi : i < vs.toArray.size := by simpa using (List.getElem?_eq_some_iff.mp hv).1
  have hv' : vs.toArray[i]? = some v := by simpa using hv
  cases st with
  | list a b =>
    refine (Walks.list (prog := c.prog) (w := c.w) hh I ax hne vs.toArray).item i s Q E hi ⟨a, b⟩ fun u h' tk hp st' hk => ?_
    rw [hv'] at hp; cases hp
    exact hQ h' tk (.list st'.1 st'.2) fun b o hb e => hk b o (by simpa using hb) e
  | tuple a b =>
    refine (Walks.tuple (prog := c.prog) (w := c.w) hh I ax hne vs.toArray).item i s Q E hi ⟨a, b⟩ fun u h' tk hp st' hk => ?_
    rw [hv'] at hp; cases hp
    exact hQ h' tk (.tuple st'.1 st'.2) fun b o hb e => hk b o (by simpa using hb) e
theorem seq_done {I ax : Addr} {vs : List Value} {s : Shared} {Q : Option Value → Shared → Prop} {E : Value → Shared → Prop} (hne : ax ≠ I) (hh : A.handled = none) (st : SeqSt I ax vs vs.length s.heap)
    (hQ : ∀ h' tk, ButI I s.heap h' → Q none { s with heap := h', toks := tk }) : wpAny (model c.prog c.w) A (pyNext (.ref I)) Q E s := by
  have e : vs.length = vs.toArray.size := by simp
  rw [e] at st
  cases st with
  | list a b => exact (Walks.list (prog := c.prog) (w := c.w) hh I ax hne vs.toArray).done s Q E ⟨a, b⟩ fun h' tk hk => hQ h' tk fun b o hb e => hk b o (by simpa using hb) e
  | tuple a b => exact (Walks.tuple (prog := c.prog) (w := c.w) hh I ax hne vs.toArray).done s Q E ⟨a, b⟩ fun h' tk hk => hQ h' tk fun b o hb e => hk b o (by simpa using hb) e
theorem seq_self {I ax : Addr} {vs : List Value} {i : Nat} {s : Shared} {Q : Value → Shared → Prop} {E : Value → Shared → Prop} (st : SeqSt I ax vs i s.heap) (h : Q (.ref I) s) : wpAny (model c.prog c.w) A (pyIter (.ref I)) Q E s := by
  cases st with
  | list a b => exact wpAny_pyIter_listiter a h
  | tuple a b => exact wpAny_pyIter_tupleiter a h
/-- iter() of a list or a tuple -/
theorem seq_iter {v : Value} {ds : List D} {s : Shared} {Q : Value → Shared → Prop} {E : Value → Shared → Prop} (r : Rep c.X s.heap v (.list ds) ∨ Rep c.X s.heap v (.tuple ds))
    (hQ : ∀ (ax : Addr) (vs : List Value) (ob : Obj), v = .ref ax → RepAll c.X s.heap vs ds → ax ≠ s.heap.objs.size → SeqSt s.heap.objs.size ax vs 0 (s.heap.push ob) → Q (.ref s.heap.objs.size) { s with heap := s.heap.push ob }) : wpAny (model c.prog c.w) A (pyIter v) Q E s := by
  rcases r with r | r
  · obtain ⟨a, vs, rfl, _, hl, ra⟩ := r.invL
    have hne : a ≠ s.heap.objs.size := by obtain ⟨ob, ho, _⟩ := hl; exact Nat.ne_of_lt (Heap.lt_size ho)
    exact wpAny_pyIter_list hl (hQ a vs _ rfl ra hne (.list ⟨_, Heap.get?_push_size _ rfl, rfl, rfl⟩ (hl.push _)))
  · obtain ⟨a, vs, rfl, hl, ra⟩ := r.invT
    have hne : a ≠ s.heap.objs.size := by obtain ⟨ob, ho, _⟩ := hl; exact Nat.ne_of_lt (Heap.lt_size ho)
    exact wpAny_pyIter_tuple hl (hQ a vs _ rfl ra hne (.tuple ⟨_, Heap.get?_push_size _ rfl, rfl, rfl⟩ (hl.push _)))

theorem ButI.seq {I : Addr} {h h' : Heap} (k : ButI I h h') {ob : Obj} {us : Array Value} (ho : h.get? I = some ob) (hd : ob.data = .fields us) : SeqKeep h h' := fun b o xs n e d => by
  by_cases hb : b = I
  · subst hb; rw [ho] at e; cases e; rw [hd] at d; cases d
  · exact k b o hb e
theorem FrOk.butI {I : Addr} {h h' : Heap} (F : FrOk c.X base env h μ) (k : ButI I h h') {ob : Obj} {us : Array Value} (ho : h.get? I = some ob) (hd : ob.data = .fields us) (hb : base.get? I = none) : FrOk c.X base env h' μ := by
  have sk := k.seq ho hd
  have ce : ∀ cc v, h.IsCell cc v → h'.IsCell cc v := fun cc v ⟨oc, e, d⟩ => ⟨oc, k cc oc (by rintro rfl; rw [ho] at e; cases e; rw [hd] at d; cases d) e, d⟩
  obtain ⟨m, hn, hv⟩ := F.ok.ns
  obtain ⟨oL, es, ep, hoL, hdL, hr⟩ := id hn
  have hLI : env.locals ≠ I := by rintro e; rw [e, ho] at hoL; cases hoL; rw [hd] at hdL; cases hdL
  refine ⟨⟨F.ok.kind, F.ok.glob, F.ok.blt, ⟨m, ⟨oL, es, ep, k _ _ hLI hoL, hdL, hr⟩, fun x d e l => ?_⟩, fun x d e l => ?_⟩, fun b o e => ?_, F.lo, F.clo, fun z n cc hm => ?_, F.cap⟩
  · obtain ⟨v, a, r⟩ := hv x d e l
    exact ⟨v, a, r.up sk⟩
  · obtain ⟨cc, v, a, b, r⟩ := F.ok.cell x d e l
    exact ⟨cc, v, a, ce _ _ b, r.up sk⟩
  · exact k b o (by rintro rfl; rw [hb] at e; cases e) (F.keep b o e)
  · obtain ⟨v, q⟩ := F.cex z n cc hm
    exact ⟨v, ce _ _ q⟩

/-- a loop's or a comprehension's target -/
def Asg (c : Cx) (A : Around) (env : Env) (t : Expr) (e : D) (f : Sto) : Prop :=
  ∀ (base : Heap) (μ : Sto) (s : Shared) (v : Value) (E : Value → Shared → Prop), FrOk c.X base env s.heap μ → Rep c.X s.heap v e →
    wpAny (model c.prog c.w) A (assign t env v) (fun _ s' => ∃ h' tk, s' = { s with heap := h', toks := tk } ∧ Kp s.heap h' ∧ FrOk c.X base env h' (f ++ μ)) E s
theorem asg_name {x : Str} {p : Pos} {e : D} (hx : CanSt env x) : Asg c A env (.Name x p) e [(x, e)] := fun base μ s v E F r =>
  PyProof.Rows.assign_Name (store_ok (c := c) F hx r)
theorem asg_tuple {xs : List (Str × Pos)} {n : Nat} {tp : Pos} {d : D} {ds : List D} (hh : A.handled = none) (hd : d = .list ds ∨ d = .tuple ds) (hx : ∀ p ∈ xs, CanSt env p.1) (hlen : xs.length = ds.length) :
    Asg c A env (.Tuple (xs.map fun p => Expr.Name p.1 p.2) n tp) d ((xs.map (·.1)).zip ds).reverse := fun base μ s v E F r =>
  assign_tuple_D (c := c) hh F (by rcases hd with rfl | rfl; exact .inl r; exact .inr r) hx hlen

theorem letOwned_ok {target : Expr} {I : Addr} {v : Value} {ob : Obj} {us : Array Value} {T : String} {s : Shared} {Q : Unit → Shared → Prop} {E : Value → Shared → Prop} (ho : s.heap.get? I = some ob) (hd : ob.data = .fields us) (hc : ob.cls = .type T) (hT : ownedNames.contains T = false) (h : Q () s) :
    wpAny (model c.prog c.w) A (letOwnedTupleGo target (.ref I) v) Q E s := by
  have hT' : (["enumerate", "zip", "dict_itemiterator", "dict_reverseitemiterator", "odict_iterator", "itertools.zip_longest", "itertools.pairwise"].contains T) = false := hT
  unfold letOwnedTupleGo
  cases target <;> first
    | exact wpAny_pure h
    | (cases v <;> first
        | exact wpAny_pure h
        | (refine wpAny_bind (wpAny_load ho ?_)
           rw [hc, hd]
           simp only [hT', Bool.false_and, Bool.false_eq_true, if_false]
           exact wpAny_pure h))

/-- for over a list or a tuple -/
theorem for_seq {target iter : Expr} {body : List Stmt} {pos : Pos} {d : D} {ds : List D} (f : D → Sto) (J : Nat → Sto) (hh : A.handled = none) (hi : EvE c A env μ iter d) (hd : d = .list ds ∨ d = .tuple ds)
    (ht : ∀ e ∈ ds, Asg c A env target e (f e)) (h0 : ∀ x d, (J 0).lookup x = some d → μ.lookup x = some d)
    (turn : ∀ i e, ds[i]? = some e → ∃ ν, (ExS c A base env (f e ++ J i) body (.next ν) ∨ ExS c A base env (f e ++ J i) body (.cont ν)) ∧ ∀ x d, (J (i + 1)).lookup x = some d → ν.lookup x = some d)
    (hs : ∀ x, foldedSetIterable iter env x = pure x := by intro _; rfl) : Ex1 c A base env μ (.For target iter body [] pos) (.next (J ds.length)) := fun s E G F => by
  refine wpAny_For ((hi s (G.up F.keep) F.ok).use fun v s₁ k₁ r₁ => ?_) hs
  have F₁ : FrOk c.X base env s₁.heap (J 0) := (F.up (keeps_keep k₁)).sub h0
  refine seq_iter (by rcases hd with rfl | rfl; exact .inl r₁; exact .inr r₁) fun ax vs ob _ ra hne st₀ => ?_
  have hbI : base.get? s₁.heap.objs.size = none := by
    cases e : base.get? s₁.heap.objs.size with
    | none => rfl
    | some ob' => exact absurd (Heap.lt_size (F₁.keep _ _ e)) (Nat.lt_irrefl _)
  have F₂ := F₁.up (Keep.push s₁.heap ob)
  generalize hI : s₁.heap.objs.size = I at *
  have hlen := ra.length
  refine codeAny_loop' rfl (fun n s' => ∃ i h tk, s' = { s₁ with heap := h, toks := tk } ∧ n = ds.length + 1 - i ∧ i ≤ ds.length ∧ SeqSt I ax vs i h ∧ Kp s₁.heap h ∧ FrOk c.X base env h (J i)) ?_ (ds.length + 1)
    ⟨0, _, s₁.toks, rfl, rfl, Nat.zero_le _, st₀, (Keep.push s₁.heap ob).kp, F₂⟩
  rintro n s' ⟨i, h, tk, rfl, rfl, hle, st, kp, Fi⟩
  show wpAny _ _ ((forTurn target (.ref I) body [] env).onRaise (fun x => do noteFrame x env; theTreesLotGoes x)) _ _ _
  refine wpAny_noted ?_
  obtain ⟨oI, us, T, hoI, hdI, hcI, hTI⟩ := st.obj
  have back : ∀ h', ButI I h h' → Kp s₁.heap h' := fun h' kb b ob' e nd nc => kb b ob' (by rintro rfl; exact absurd (Heap.lt_size e) (hI ▸ Nat.lt_irrefl _)) (kp b ob' e nd nc)
  simp only [forTurn]
  refine wpAny_bind (wpAny_standAt (wpAny_bind (wpAny_onRaise ?_)))
  by_cases hi' : i < ds.length
  · have hv : i < vs.length := by omega
    obtain ⟨e, he, re⟩ := ra.getV (k := i) (v := vs[i]) (List.getElem?_eq_getElem hv)
    refine seq_item (c := c) hne hh st (List.getElem?_eq_getElem hv) fun h₂ t₂ st₂ kb₂ => ?_
    have F₃ : FrOk c.X base env h₂ (J i) := Fi.butI kb₂ hoI hdI hbI
    have rv : Rep c.X h₂ vs[i] e := re.up (back h₂ kb₂).seq
    obtain ⟨oI', us', T', hoI', hdI', hcI', hTI'⟩ := st₂.obj
    refine wpAny_bind (letOwned_ok (c := c) hoI' hdI' hcI' hTI' (wpAny_bind (wpAny_mono (ht e (List.mem_of_getElem? he) base (J i) _ _ _ F₃ rv) (fun _ s₄ q => ?_) fun _ _ e => e)))
    obtain ⟨h₄, t₄, rfl, k₄, F₄⟩ := q
    obtain ⟨ν, hb, hsub⟩ := turn i e he
    have fin : ∀ (fl : Flow) s₅, (fl = .next ∨ fl = .cont) → (∃ h' tk, s₅ = { s₁ with heap := h', toks := tk } ∧ Kp h₄ h' ∧ FrOk c.X base env h' ν) → ∃ m, m < ds.length + 1 - i ∧ ∃ i h tk, s₅ = { s₁ with heap := h, toks := tk } ∧ m = ds.length + 1 - i ∧ i ≤ ds.length ∧ SeqSt I ax vs i h ∧ Kp s₁.heap h ∧ FrOk c.X base env h (J i) := by
      rintro fl s₅ - ⟨h₅, t₅, rfl, k₅, F₅⟩
      exact ⟨ds.length + 1 - (i + 1), by omega, i + 1, h₅, t₅, rfl, rfl, hi', (st₂.kp k₄).kp k₅, ((back h₂ kb₂).trans k₄).trans k₅, F₅.sub hsub⟩
    rcases hb with hb | hb
    · refine wpAny_bind (wpAny_mono (hb _ _ G F₄) (fun fl s₅ q => ?_) fun _ _ e => e)
      obtain ⟨h₅, t₅, rfl, k₅, rfl, F₅⟩ := q
      exact wpAny_pure (.inl ⟨rfl, fin .next _ (.inl rfl) ⟨h₅, t₅, rfl, k₅, F₅⟩⟩)
    · refine wpAny_bind (wpAny_mono (hb _ _ G F₄) (fun fl s₅ q => ?_) fun _ _ e => e)
      obtain ⟨h₅, t₅, rfl, k₅, rfl, F₅⟩ := q
      exact wpAny_pure (.inl ⟨rfl, fin .cont _ (.inr rfl) ⟨h₅, t₅, rfl, k₅, F₅⟩⟩)
  · have hie : i = ds.length := by omega
    subst hie
    rw [← hlen] at st
    refine seq_done (c := c) hne hh st fun h₂ t₂ kb₂ => ?_
    have F₃ : FrOk c.X base env h₂ (J ds.length) := Fi.butI kb₂ hoI hdI hbI
    refine wpAny_pure (.inr ⟨rfl, codeAny_block (wpAny_execs_nil ?_)⟩)
    exact Went.of (kp_of_keeps k₁) ⟨h₂, t₂, rfl, back h₂ kb₂, rfl, F₃⟩
end
end Mine
end

section -- F6
open PySem PySem.W PyProof.Rows PySem.Builtin PySem.Builtin.Str
set_option Elab.async false
set_option maxRecDepth 100000
set_option linter.unusedVariables false
set_option autoImplicit false
namespace Mine

def relabelS (scope S : Scope) : Scope :=
  { scope with names := scope.names.map fun (n, k) => if (k == .free && S.kind == .function && S.names.lookup n == some .cell) then (n, .cell) else (n, k) }
theorem relabel_eq (scope : Scope) (env : Env) : relabel scope env = relabelS scope env.scope := rfl

def clOf (cells : List (Str × Addr)) : List (Str × NameKind) → List (Str × Addr) → List (Str × Addr)
  | [], acc => acc
  | (n, k) :: r, acc => if k == .free then clOf cells r ((n, (cells.lookup n).getD 0) :: acc) else clOf cells r acc
theorem clOf_all {cells : List (Str × Addr)} : ∀ (names : List (Str × NameKind)) (acc : List (Str × Addr)), (∀ p ∈ acc, p.2 = (cells.lookup p.1).getD 0) → ∀ p ∈ clOf cells names acc, p.2 = (cells.lookup p.1).getD 0
  | [], _, h => h
  | (n, k) :: r, acc, h => by
    unfold clOf
    split
    · refine clOf_all r _ fun p hp => ?_
      rcases List.mem_cons.mp hp with rfl | hp
      · rfl
      · exact h p hp
    · exact clOf_all r acc h
theorem clOf_sub {cells : List (Str × Addr)} : ∀ (names : List (Str × NameKind)) (acc : List (Str × Addr)), ∀ p ∈ acc, p ∈ clOf cells names acc
  | [], _, _, h => h
  | (n, k) :: r, acc, p, h => by
    unfold clOf
    split
    · exact clOf_sub r _ p (List.mem_cons_of_mem _ h)
    · exact clOf_sub r acc p h
theorem clOf_mem {cells : List (Str × Addr)} {x : Str} : ∀ (names : List (Str × NameKind)) (acc : List (Str × Addr)), (x, NameKind.free) ∈ names → (x, (cells.lookup x).getD 0) ∈ clOf cells names acc
  | (n, k) :: r, acc, h => by
    unfold clOf
    rcases List.mem_cons.mp h with e | h
    · cases e
      rw [if_pos (by rfl)]
      exact clOf_sub r _ _ List.mem_cons_self
    · split
      · exact clOf_mem r _ h
      · exact clOf_mem r acc h
theorem lookup_isSome_of_mem {x : Str} {a : Addr} : ∀ {l : List (Str × Addr)}, (x, a) ∈ l → ∃ b, l.lookup x = some b
  | (k, v) :: r, h => by
    rw [List.lookup_cons]
    cases hb : x == k with
    | true => exact ⟨v, rfl⟩
    | false =>
      rcases List.mem_cons.mp h with e | h
      · cases e; simp at hb
      · exact lookup_isSome_of_mem h
theorem clOf_lookup {cells : List (Str × Addr)} {x : Str} {a : Addr} {names : List (Str × NameKind)} (hf : (x, NameKind.free) ∈ names) (hc : cells.lookup x = some a) : (clOf cells names []).lookup x = some a := by
  obtain ⟨b, hb⟩ := lookup_isSome_of_mem (clOf_mem names [] hf)
  have := clOf_all names [] (fun _ h => nomatch h) _ (mem_of_lookup hb)
  rw [hb]
  have e : b = (cells.lookup x).getD 0 := this
  rw [hc] at e
  rw [e]; rfl
theorem closureFor_cl {scope : Scope} {env : Env} (h : ∀ n, (n, NameKind.free) ∈ scope.names → (env.cells.lookup n).isSome = true) : closureFor scope env = pure (clOf env.cells scope.names []) := by
  have key : ∀ (names : List (Str × NameKind)) (acc : List (Str × Addr)), (∀ n, (n, NameKind.free) ∈ names → (env.cells.lookup n).isSome = true) →
      (forIn names acc fun (x : Str × NameKind) (r : List (Str × Addr)) => (if (x.2 == NameKind.free) = true then (do let a ← cellOf env x.1; pure (ForInStep.yield ((x.1, a) :: r))) else pure (ForInStep.yield r) : Sem (ForInStep (List (Str × Addr))))) = pure (clOf env.cells names acc) := by
    intro names
    induction names with
    | nil => intro acc _; rfl
    | cons p r ih =>
      intro acc hn
      obtain ⟨n, k⟩ := p
      rw [List.forIn_cons]
      unfold clOf
      have hr : ∀ n, (n, NameKind.free) ∈ r → (env.cells.lookup n).isSome = true := fun n hm => hn n (List.mem_cons_of_mem _ hm)
      by_cases hk : (k == NameKind.free) = true
      · have hk' : k = .free := by simpa using hk
        subst hk'
        obtain ⟨a, ha⟩ := Option.isSome_iff_exists.mp (hn n List.mem_cons_self)
        have e : cellOf env n = pure a := by unfold cellOf; rw [ha]
        simp only [hk, if_true, e, ha, Option.getD_some]
        exact ih _ hr
      · simp only [hk, if_false]
        exact ih _ hr
  unfold closureFor
  exact (congrArg (fun t => t >>= fun r => pure r) (key scope.names [] h)).trans rfl

/-- an iterator as a comprehension wants it: h₁ is the heap before it was made -/
structure Itr (c : Cx) (A : Around) (I : Addr) (ds : List D) (h₁ : Heap) (St : Nat → Heap → Prop) : Prop where
  item : ∀ i e (s : Shared) (Q : Option Value → Shared → Prop) (E : Value → Shared → Prop), ds[i]? = some e → St i s.heap → Keep h₁ s.heap →
    (∀ v h' tk, St (i + 1) h' → ButI I s.heap h' → (∀ X', (∀ a, X' a → c.X a ∨ h₁.get? a = none) → Rep X' h' v e) → Q (some v) { s with heap := h', toks := tk }) → wpAny (model c.prog c.w) A (pyNext (.ref I)) Q E s
  done : ∀ (s : Shared) (Q : Option Value → Shared → Prop) (E : Value → Shared → Prop), St ds.length s.heap → Keep h₁ s.heap → (∀ h' tk, ButI I s.heap h' → Q none { s with heap := h', toks := tk }) → wpAny (model c.prog c.w) A (pyNext (.ref I)) Q E s
  self : ∀ i (s : Shared) (Q : Value → Shared → Prop) (E : Value → Shared → Prop), St i s.heap → Q (.ref I) s → wpAny (model c.prog c.w) A (pyIter (.ref I)) Q E s
  obj : ∀ i h, St i h → ∃ o us T, h.get? I = some o ∧ o.data = .fields us ∧ o.cls = .type T ∧ ownedNames.contains T = false
  mono : ∀ i h h', St i h → Keep h₁ h' → (∀ o, h.get? I = some o → h'.get? I = some o) → St i h'
  fresh : h₁.get? I = none

/-- the ways to walk something -/
def Its (c : Cx) (A : Around) (s₁ : Shared) (v : Value) (ds : List D) : Prop :=
  ∀ (Q : Value → Shared → Prop) (E : Value → Shared → Prop), (∀ ob St, Itr c A s₁.heap.objs.size ds s₁.heap St → St 0 (s₁.heap.push ob) → Q (.ref s₁.heap.objs.size) { s₁ with heap := s₁.heap.push ob }) → wpAny (model c.prog c.w) A (pyIter v) Q E s₁

mutual
theorem Rep.upBut {X : Addr → Prop} {h h' : Heap} {a₀ : Addr} (hX : X a₀) (hl : ∀ o, h.get? a₀ = some o → o.cls = .type "list") (k : ∀ b o, b ≠ a₀ → h.get? b = some o → h'.get? b = some o) : ∀ {v : Value} {d : D}, Rep X h v d → Rep X h' v d
  | _, _, .none => .none
  | _, _, .bool b => .bool b
  | _, _, .int i t => .int i t
  | _, _, .str x t => .str x t
  | _, _, .list n a r => .list n (let ⟨o, e, q⟩ := a; ⟨o, k _ o (fun z => n (z ▸ hX)) e, q⟩) (RepAll.upBut hX hl k r)
  | _, _, .tuple a r => .tuple (let ⟨o, e, q⟩ := a; ⟨o, k _ o (fun z => by subst z; have := hl o e; rw [q.1] at this; exact absurd this (by decide)) e, q⟩) (RepAll.upBut hX hl k r)
  | _, _, .val v => .val v
theorem RepAll.upBut {X : Addr → Prop} {h h' : Heap} {a₀ : Addr} (hX : X a₀) (hl : ∀ o, h.get? a₀ = some o → o.cls = .type "list") (k : ∀ b o, b ≠ a₀ → h.get? b = some o → h'.get? b = some o) : ∀ {vs : List Value} {ds : List D}, RepAll X h vs ds → RepAll X h' vs ds
  | _, _, .nil => .nil
  | _, _, .cons a r => .cons (Rep.upBut hX hl k a) (RepAll.upBut hX hl k r)
end

section
variable {c : Cx} {A : Around} {env : Env} {μ : Sto} {base : Heap} {o : Out}

theorem its_list {s₁ : Shared} {v : Value} {ds : List D} (hh : A.handled = none) (r : Rep c.X s₁.heap v (.list ds)) : Its c A s₁ v ds := fun Q E hQ => by
  obtain ⟨ax, vs, rfl, _, hl, ra⟩ := r.invL
  have hne : ax ≠ s₁.heap.objs.size := by obtain ⟨ob, ho, _⟩ := hl; exact Nat.ne_of_lt (Heap.lt_size ho)
  have hlen := ra.length
  refine wpAny_pyIter_list hl (hQ _ (fun i h => h.IsListIter s₁.heap.objs.size ax i ∧ h.IsList ax vs.toArray) ?_ ⟨⟨_, Heap.get?_push_size _ rfl, rfl, rfl⟩, hl.push _⟩)
  refine ⟨fun i e s Q E he st hk hq => ?_, fun s Q E st hk hq => ?_, fun i s Q E st h => wpAny_pyIter_listiter st.1 h, fun i h st => (SeqSt.list st.1 st.2).obj, fun i h h' st hk hI => ?_, Heap.get?_none_of_le (Nat.le_refl _)⟩
  · obtain ⟨u, hu, ru⟩ := ra.get he
    have hi : i < vs.toArray.size := by simpa using (List.getElem?_eq_some_iff.mp hu).1
    refine (Walks.list (prog := c.prog) (w := c.w) hh _ ax hne vs.toArray).item i s Q E hi st fun u' h' tk hp st' hk' => ?_
    have hu' : vs.toArray[i]? = some u := by simpa using hu
    rw [hu'] at hp; cases hp
    have kb : ButI s₁.heap.objs.size s.heap h' := fun b o hb e => hk' b o (by simpa using hb) e
    have sk : SeqKeep s₁.heap h' := fun b o xs n e d => kb b o (by rintro rfl; exact absurd (Heap.lt_size e) (Nat.lt_irrefl _)) (hk b o e)
    exact hq u h' tk st' kb fun X' hX => (ru.off hX).up sk
  · have e : ds.length = vs.toArray.size := by simp [hlen]
    rw [e] at st
    exact (Walks.list (prog := c.prog) (w := c.w) hh _ ax hne vs.toArray).done s Q E st fun h' tk hk' => hq h' tk fun b o hb e => hk' b o (by simpa using hb) e
  · obtain ⟨⟨oI, e, q⟩, _⟩ := st
    exact ⟨⟨oI, hI oI e, q⟩, isList_seqKeep (Keep.seq hk) hl⟩
theorem its_tuple {s₁ : Shared} {v : Value} {ds : List D} (hh : A.handled = none) (r : Rep c.X s₁.heap v (.tuple ds)) : Its c A s₁ v ds := fun Q E hQ => by
  obtain ⟨ax, vs, rfl, hl, ra⟩ := r.invT
  have hne : ax ≠ s₁.heap.objs.size := by obtain ⟨ob, ho, _⟩ := hl; exact Nat.ne_of_lt (Heap.lt_size ho)
  have hlen := ra.length
  refine wpAny_pyIter_tuple hl (hQ _ (fun i h => h.IsTupleIter s₁.heap.objs.size ax i ∧ h.IsTuple ax vs.toArray) ?_ ⟨⟨_, Heap.get?_push_size _ rfl, rfl, rfl⟩, hl.push _⟩)
  refine ⟨fun i e s Q E he st hk hq => ?_, fun s Q E st hk hq => ?_, fun i s Q E st h => wpAny_pyIter_tupleiter st.1 h, fun i h st => (SeqSt.tuple st.1 st.2).obj, fun i h h' st hk hI => ?_, Heap.get?_none_of_le (Nat.le_refl _)⟩
  · obtain ⟨u, hu, ru⟩ := ra.get he
    have hi : i < vs.toArray.size := by simpa using (List.getElem?_eq_some_iff.mp hu).1
    refine (Walks.tuple (prog := c.prog) (w := c.w) hh _ ax hne vs.toArray).item i s Q E hi st fun u' h' tk hp st' hk' => ?_
    have hu' : vs.toArray[i]? = some u := by simpa using hu
    rw [hu'] at hp; cases hp
    have kb : ButI s₁.heap.objs.size s.heap h' := fun b o hb e => hk' b o (by simpa using hb) e
    have sk : SeqKeep s₁.heap h' := fun b o xs n e d => kb b o (by rintro rfl; exact absurd (Heap.lt_size e) (Nat.lt_irrefl _)) (hk b o e)
    exact hq u h' tk st' kb fun X' hX => (ru.off hX).up sk
  · have e : ds.length = vs.toArray.size := by simp [hlen]
    rw [e] at st
    exact (Walks.tuple (prog := c.prog) (w := c.w) hh _ ax hne vs.toArray).done s Q E st fun h' tk hk' => hq h' tk fun b o hb e => hk' b o (by simpa using hb) e
  · obtain ⟨⟨oI, e, q⟩, _⟩ := st
    exact ⟨⟨oI, hI oI e, q⟩, isTup_seqKeep (Keep.seq hk) hl⟩

/-- c, keeping off one list more -/
abbrev Cx.off (c : Cx) (a : Addr) : Cx := { c with X := fun b => c.X b ∨ b = a }

/-- the tests of a clause -/
def EvIfs (c : Cx) (A : Around) (env : Env) (μ : Sto) (ifs : List Expr) (b : Bool) : Prop := (ifs = [] ∧ b = true) ∨ ∃ t, ifs = [t] ∧ EvT c A env μ t b

/-- what the element's and the tests' names are -/
structure CompEnv (c : Cx) (env cenv : Env) (scope : Scope) : Prop where
  sc : cenv.scope = relabelS scope env.scope
  cells : cenv.cells = clOf env.cells scope.names []
  func : cenv.func = none
  glob : cenv.globals = env.globals
  blt : cenv.builtins = env.builtins

theorem comp_core {elt target iter : Expr} {ifs : List Expr} {scope : Scope} {pos : Pos} {ds : List D} {f : D → Sto} {ν : Sto} {p : D → Bool} {g : D → D} {s₁ : Shared} {ob : Obj} {St : Nat → Heap → Prop} {E : Value → Shared → Prop} {RR : Value → Addr → Result → Shared → Prop}
    (W : Itr c A s₁.heap.objs.size ds s₁.heap St) (st₀ : St 0 (s₁.heap.push ob)) (G : c.G s₁.heap) (F : EnvOk c.X env s₁.heap μ) (hds : ds.length ≤ sizeLine)
    (hν : ∀ x d, ν.lookup x = some d → μ.lookup x = some d ∧ (x, NameKind.free) ∈ scope.names ∧ (env.kindOf x = some .cell ∨ env.kindOf x = some .free) ∧ (relabelS scope env.scope).names.lookup x = some .cell)
    (hcell : ∀ y ∈ scope.names, y.2 ≠ .cell) (hkind : scope.kind = .function)
    (ht : ∀ (a : Addr) cenv, CompEnv c env cenv scope → ∀ e ∈ ds, Asg (c.off a) A cenv target e (f e))
    (hb : ∀ (a : Addr) cenv, CompEnv c env cenv scope → ∀ e ∈ ds, EvIfs (c.off a) A cenv (f e ++ ν) ifs (p e) ∧ (p e = true → EvE (c.off a) A cenv (f e ++ ν) elt (g e)))
    (hRR : ∀ D C h' tk m', s₁.heap.get? D = none → s₁.heap.get? C = none → h'.Ns C m' → Keep s₁.heap h' → Rep c.X h' (.ref D) (.list ((ds.filter p).map g)) → RR (.ref D) C (.ok .next) { s₁ with heap := h', toks := tk }) :
    wpAny (model c.prog c.w) A (newList []) (fun acc s₃ => wpAny (model c.prog c.w) A (newFunctionEnv scope env.globals (clOf env.cells scope.names []) [] env.qual none .none (some env)) (fun cenv s₄ =>
      codeAny (model c.prog c.w) A (.compStart (.ListComp elt [⟨target, iter, ifs, 0⟩] scope pos) 0 (.ref s₁.heap.objs.size) acc { cenv with scope := relabel scope env }) (RR acc cenv.locals) s₄) E s₃) E { s₁ with heap := s₁.heap.push ob } := by
  refine wpAny_newObj_type (wpAny_newFunctionEnv hcell (by intro y hy; simp at hy) (fun h₁ hns₁ hsb₁ => ?_) hkind)
  dsimp only at hns₁ hsb₁ ⊢
  generalize hI : s₁.heap.objs.size = I at *
  have hDe : (s₁.heap.push ob).objs.size = I + 1 := by rw [Heap.size_push, hI]
  rw [hDe]
  generalize hH2 : (s₁.heap.push ob).push { cls := .type "list", dict := none, data := .seq ([] : List Value).toArray } = H2 at hns₁ hsb₁ ⊢
  have hC : H2.objs.size = I + 2 := by rw [← hH2, Heap.size_push, hDe]
  rw [hC] at hns₁ hsb₁ ⊢
  have old : Keep s₁.heap h₁ := fun b o e => by
    have hb := ltN (Heap.lt_size e)
    exact hsb₁.extBut b o (neN (by omega)) (Heap.get?_push_of_some _ (hH2 ▸ Heap.get?_push_of_some _ (Heap.get?_push_of_some _ e)))
  have fresh : ∀ a, I ≤ a → s₁.heap.get? a = none := fun a ha => Heap.get?_none_of_le (hI ▸ ha)
  have hIo : ∀ o, (s₁.heap.push ob).get? I = some o → h₁.get? I = some o := fun o e => hsb₁.extBut I o (neN (by omega)) (Heap.get?_push_of_some _ (hH2 ▸ Heap.get?_push_of_some _ e))
  have hD₁ : h₁.IsList (I + 1) #[] := ⟨_, hsb₁.extBut (I + 1) _ (neN (by omega)) (Heap.get?_push_of_some _ (hH2 ▸ hDe ▸ Heap.get?_push_size _ rfl)), rfl, _, rfl⟩
  have st₁ : St 0 h₁ := W.mono 0 _ _ st₀ old hIo
  have CE : CompEnv c env (compEnvC scope (clOf env.cells scope.names []) (I + 2) env) scope := ⟨rfl, rfl, rfl, rfl, rfl⟩
  have offOk : ∀ a, (c.off (I + 1)).X a → c.X a ∨ s₁.heap.get? a = none := fun a q => q.imp id fun e => by rw [e]; exact fresh _ (by omega)
  -- the frame at any heap that keeps the old
  have frame : ∀ h m, Keep s₁.heap h → h.Ns (I + 2) m → FrOk (c.off (I + 1)).X s₁.heap (compEnvC scope (clOf env.cells scope.names []) (I + 2) env) h ν := fun h m hk hn => by
    refine ⟨⟨hkind, F.glob, F.blt, ⟨m, hn, fun x d e l => ?_⟩, fun x d e l => ?_⟩, hk, by show s₁.heap.objs.size ≤ I + 2; omega, (fun q => nomatch q), (fun q => nomatch q), (fun q => nomatch q)⟩
    · have := (hν x d e).2.2.2
      rw [show Env.kindOf (compEnvC scope (clOf env.cells scope.names []) (I + 2) env) x = (relabelS scope env.scope).names.lookup x from rfl, this] at l
      cases l
    · obtain ⟨e1, e2, e3, _⟩ := hν x d e
      obtain ⟨cc, v, a, b, r⟩ := F.cell x d e1 e3
      exact ⟨cc, v, clOf_lookup e2 a, b.keeps hk, (r.off offOk).up (Keep.seq hk)⟩
  have Gof : ∀ h ys, Keep s₁.heap h → h.IsList (I + 1) ys → (c.off (I + 1)).G h := fun h ys hk hl => by
    have G' := Gd.up G hk
    exact ⟨G'.k, G'.g, G'.b, G'.nolimit, G'.bu, fun a q => q.elim (G'.x a) fun e => by obtain ⟨o, ho, _⟩ := hl; exact ⟨o, e ▸ ho⟩⟩
  have loop : ∀ s₃ : Shared, s₃ = { s₁ with heap := h₁, toks := s₁.toks + ([] : List (Str × Value)).length } →
      codeAny (model c.prog c.w) A (.compLoop (.ListComp elt [⟨target, iter, ifs, 0⟩] scope pos) 0 (.ref I) (.ref (I + 1)) (compEnvC scope (clOf env.cells scope.names []) (I + 2) env)) (RR (.ref (I + 1)) (I + 2)) s₃ := by
    rintro s₃ rfl
    refine codeAny_loop rfl (fun k s' => ∃ i h tk m ys, s' = { s₁ with heap := h, toks := tk } ∧ k = ds.length + 1 - i ∧ i ≤ ds.length ∧ St i h ∧ Keep s₁.heap h ∧ h.Ns (I + 2) m ∧ h.IsList (I + 1) ys ∧ ys.size ≤ i ∧ RepAll (c.off (I + 1)).X h ys.toList (((ds.take i).filter p).map g)) ?_ (ds.length + 1)
      ⟨0, h₁, _, _, #[], rfl, rfl, Nat.zero_le _, st₁, old, hns₁, hD₁, Nat.le_refl _, .nil⟩
    rintro k s' ⟨i, h, tk, m, ys, rfl, rfl, hle, st, hk, hn, hl, hys, ra⟩
    show wpAny _ A ((compTurn (.ListComp elt [⟨target, iter, ifs, 0⟩] scope pos) 0 (.ref I) (.ref (I + 1)) _).onRaise (fun x => do noteFrame x _; theTreesLotGoes x)) _ _ _
    refine wpAny_noted ?_
    rw [compTurn_list]
    obtain ⟨oI, us, T, hoI, hdI, hcI, hTI⟩ := W.obj i h st
    have keepB : ∀ h', ButI I h h' → Keep s₁.heap h' := fun h' kb b o e => kb b o (neN (by have := ltN (Heap.lt_size e); omega)) (hk b o e)
    refine wpAny_bind (wpAny_standAt (wpAny_bind ?_))
    by_cases hi' : i < ds.length
    · have he : ds[i]? = some ds[i] := List.getElem?_eq_getElem hi'
      refine W.item i ds[i] _ _ _ he st hk fun v h₂ t₂ st₂ kb₂ rv => ?_
      obtain ⟨oI', us', T', hoI', hdI', hcI', hTI'⟩ := W.obj _ h₂ st₂
      have hk₂ := keepB h₂ kb₂
      have sk₂ : SeqKeep h h₂ := kb₂.seq hoI hdI
      have hn₂ : h₂.Ns (I + 2) m := hn.extBut (fun b o hb e => kb₂ b o hb e) (neN (by omega))
      have hl₂ := isList_seqKeep sk₂ hl
      have hmem : ds[i] ∈ ds := List.getElem_mem hi'
      refine wpAny_bind (letOwned_ok (c := c) hoI' hdI' hcI' hTI' ?_)
      refine wpAny_bind (wpAny_mono (ht (I + 1) _ CE _ hmem s₁.heap ν _ _ _ (frame h₂ m hk₂ hn₂) (rv _ offOk)) (fun _ s₄ q => ?_) fun _ _ e => e)
      obtain ⟨h₃, t₃, rfl, kp₃, F₃⟩ := q
      obtain ⟨m₃, hn₃, _⟩ := F₃.ok.ns
      have hI₃ : ∀ o, h₂.get? I = some o → h₃.get? I = some o := fun o e => kp₃ I o e (fun _ _ q => by rw [hoI'] at e; cases e; rw [hdI'] at q; cases q) (fun _ q => by rw [hoI'] at e; cases e; rw [hdI'] at q; cases q)
      have st₃ := W.mono _ _ h₃ st₂ F₃.keep hI₃
      have hl₃ := isList_seqKeep kp₃.seq hl₂
      have ra₃ := (ra.up sk₂).up kp₃.seq
      obtain ⟨hifs, helt⟩ := hb (I + 1) _ CE _ hmem
      have etake : ds.take (i + 1) = ds.take i ++ [ds[i]] := by rw [List.take_add_one, he]; rfl
      -- behind the tests
      have after : ∀ h₄ t₄, Keep h₃ h₄ → wpAny (model c.prog c.w) A (if p ds[i] = true then ((do let x ← eval elt (compEnvC scope (clOf env.cells scope.names []) (I + 2) env); let _ ← call (.builtin "list.append") [.ref (I + 1), x]; pure ()) >>= fun _ => again (.compLoop (.ListComp elt [⟨target, iter, ifs, 0⟩] scope pos) 0 (.ref I) (.ref (I + 1)) (compEnvC scope (clOf env.cells scope.names []) (I + 2) env))) else again (.compLoop (.ListComp elt [⟨target, iter, ifs, 0⟩] scope pos) 0 (.ref I) (.ref (I + 1)) (compEnvC scope (clOf env.cells scope.names []) (I + 2) env))) (fun fin s' => match fin with
            | .done f => RR (.ref (I + 1)) (I + 2) (.ok f) s'
            | .again c' => c' = .compLoop (.ListComp elt [⟨target, iter, ifs, 0⟩] scope pos) 0 (.ref I) (.ref (I + 1)) (compEnvC scope (clOf env.cells scope.names []) (I + 2) env) ∧ ∃ m, m < ds.length + 1 - i ∧ ∃ i h tk m_1 ys, s' = { s₁ with heap := h, toks := tk } ∧ m = ds.length + 1 - i ∧ i ≤ ds.length ∧ St i h ∧ Keep s₁.heap h ∧ h.Ns (I + 2) m_1 ∧ h.IsList (I + 1) ys ∧ ys.size ≤ i ∧ RepAll (c.off (I + 1)).X h ys.toList (((ds.take i).filter p).map g)) (notedBy (model c.prog c.w) A (compEnvC scope (clOf env.cells scope.names []) (I + 2) env) fun e s' => RR (.ref (I + 1)) (I + 2) (.error e) s') { s₁ with heap := h₄, toks := t₄ } := fun h₄ t₄ k₄ => by
        have F₄ := F₃.up k₄
        have st₄ := W.mono _ _ h₄ st₃ F₄.keep fun o e => k₄ _ _ e
        have hl₄ := isList_seqKeep k₄.seq hl₃
        have ra₄ := ra₃.up k₄.seq
        cases hp : p ds[i] with
        | false =>
          rw [if_neg (by decide)]
          refine wpAny_pure ⟨rfl, ds.length + 1 - (i + 1), by omega, i + 1, h₄, t₄, m₃, ys, rfl, rfl, hi', st₄, F₄.keep, hn₃.keeps k₄, hl₄, by omega, ?_⟩
          rw [etake, List.filter_append]
          simpa [hp] using ra₄
        | true =>
          rw [if_pos rfl]
          refine wpAny_bind (wpAny_bind ((helt hp _ (Gof h₄ ys F₄.keep hl₄) F₄.ok).use fun y s₅ k₅ ry => ?_))
          obtain ⟨h₅, t₅, rfl, k₅⟩ := k₅
          have hl₅ := isList_seqKeep (Keep.seq k₅) hl₄
          have F₅ := F₄.up k₅
          refine wpAny_bind (wpAny_list_append (hsz := by omega) hl₅ fun h₆ hl₆ hs₆ => ?_)
          have hX : (c.off (I + 1)).X (I + 1) := .inr rfl
          have hlc : ∀ o, h₅.get? (I + 1) = some o → o.cls = .type "list" := fun o e => by obtain ⟨o', e', q, _⟩ := hl₅; rw [e'] at e; cases e; exact q
          have kb₆ : ∀ b o, b ≠ I + 1 → h₅.get? b = some o → h₆.get? b = some o := fun b o hb e => hs₆.extBut b o hb e
          have k6 : Keep s₁.heap h₆ := fun b o e => kb₆ b o (neN (by have := ltN (Heap.lt_size e); omega)) (F₅.keep b o e)
          have st₆ := W.mono _ _ h₆ (W.mono _ _ h₅ st₄ F₅.keep fun o e => k₅ _ _ e) k6 fun o e => kb₆ I o (neN (by omega)) e
          refine wpAny_pure (wpAny_pure ⟨rfl, ds.length + 1 - (i + 1), by omega, i + 1, h₆, t₅, m₃, ys.push y, rfl, rfl, hi', st₆, k6, ((hn₃.keeps k₄).keeps k₅).extBut (fun b o hb e => kb₆ b o hb e) (by show (I + 2 : Nat) ≠ I + 1; omega), hl₆, by simp; omega, ?_⟩)
          rw [etake, List.filter_append, List.map_append, Array.toList_push]
          have r1 : RepAll (c.off (I + 1)).X h₆ ys.toList (((ds.take i).filter p).map g) := (ra₄.up (Keep.seq k₅)).upBut hX hlc kb₆
          have r2 : RepAll (c.off (I + 1)).X h₆ [y] [g ds[i]] := .cons (ry.upBut hX hlc kb₆) .nil
          simpa [hp] using r1.append r2
      rcases hifs with ⟨rfl, hpt⟩ | ⟨tt, rfl, htt⟩
      · have := after h₃ t₃ (Keep.refl _)
        rw [hpt] at this
        refine wpAny_bind (wpAny_tests_nil ?_)
        exact this
      · refine wpAny_bind (wpAny_tests_one ((htt _ (Gof h₃ ys F₃.keep hl₃) F₃.ok).use fun s₅ k₅ => ?_))
        obtain ⟨h₄, t₄, rfl, k₄⟩ := k₅
        exact after h₄ t₄ k₄
    · have hie : i = ds.length := by omega
      subst hie
      refine W.done _ _ _ st hk fun h₂ t₂ kb₂ => ?_
      refine wpAny_pure ?_
      have sk₂ : SeqKeep h h₂ := kb₂.seq hoI hdI
      refine hRR (I + 1) (I + 2) h₂ t₂ m (fresh _ (by omega)) (fresh _ (by omega)) (hn.extBut (fun b o hb e => kb₂ b o hb e) (neN (by omega))) (keepB h₂ kb₂) ?_
      rw [List.take_length] at ra
      refine .list (G.new (by omega)) (isList_seqKeep sk₂ (by simpa using hl)) ((ra.up sk₂).off fun a q => .inl (.inl q))
  exact codeAny_compStart_list (loop _ rfl) (W.self 0 _ _ _ st₁ (loop _ rfl))
end
end Mine
namespace Mine
section
variable {c : Cx} {A : Around} {env : Env} {μ : Sto} {base : Heap} {o : Out}

/-- what a comprehension asks -/
structure CompOk (c : Cx) (A : Around) (env : Env) (μ : Sto) (elt target iter : Expr) (ifs : List Expr) (scope : Scope) (ds : List D) (f : D → Sto) (ν : Sto) (p : D → Bool) (g : D → D) : Prop where
  size : ds.length ≤ sizeLine
  seen : ∀ x d, ν.lookup x = some d → μ.lookup x = some d ∧ (x, NameKind.free) ∈ scope.names ∧ (env.kindOf x = some .cell ∨ env.kindOf x = some .free) ∧ (relabelS scope env.scope).names.lookup x = some .cell
  free : ∀ n, (n, NameKind.free) ∈ scope.names → (env.cells.lookup n).isSome = true
  nocell : ∀ y ∈ scope.names, y.2 ≠ .cell
  kind : scope.kind = .function
  names : ∀ y ∈ scope.names, y.2 = .local → scope.names.lookup y.1 = some .local
  target : ∀ (a : Addr) cenv, CompEnv c env cenv scope → ∀ e ∈ ds, Asg (c.off a) A cenv target e (f e)
  body : ∀ (a : Addr) cenv, CompEnv c env cenv scope → ∀ e ∈ ds, EvIfs (c.off a) A cenv (f e ++ ν) ifs (p e) ∧ (p e = true → EvE (c.off a) A cenv (f e ++ ν) elt (g e))

theorem ev_comp {elt target iter : Expr} {ifs : List Expr} {scope : Scope} {pos : Pos} {d0 : D} {ds : List D} {f : D → Sto} {ν : Sto} {p : D → Bool} {g : D → D} (hi : EvE c A env μ iter d0) (hIts : ∀ s v, c.G s.heap → Rep c.X s.heap v d0 → Its c A s v ds)
    (h : CompOk c A env μ elt target iter ifs scope ds f ν p g) (hs : ∀ x, foldedSetIterable iter env x = pure x := by intro _; rfl) :
    EvE c A env μ (.ListComp elt [⟨target, iter, ifs, 0⟩] scope pos) (.list ((ds.filter p).map g)) := fun s G F E => by
  rw [eval_ListComp]
  refine wpAny_comprehension_free (use := none) rfl hs (closureFor_cl h.free) h.kind h.names ((hi s G F).use fun v s₁ k₁ r₁ => ?_)
  have G₁ := Gd.up G (keeps_keep k₁)
  have F₁ := F.up (keeps_keep k₁)
  refine hIts s₁ v G₁ r₁ _ _ fun ob St W st₀ => ?_
  refine comp_core (RR := fun acc C => compPost (model c.prog c.w) A E none (fun v s' => Keeps s s' ∧ Rep c.X s'.heap v (.list ((ds.filter p).map g))) acc C) W st₀ G₁ F₁ h.size h.seen h.nocell h.kind h.target h.body ?_
  intro D C h' tk m' hD hC hn hk r
  refine ⟨m', hn, fun h'' hs'' => ?_⟩
  obtain ⟨oC, es, ep, hoC, hdC, _⟩ := hn
  have sk : SeqKeep h' h'' := fun b o xs n e d => hs''.extBut b o (by rintro rfl; rw [hoC] at e; cases e; rw [hdC] at d; cases d) e
  have k2 : Keep s₁.heap h'' := fun b o e => hs''.extBut b o (by rintro rfl; rw [hC] at e; cases e) (hk b o e)
  exact ⟨keeps_trans k₁ ⟨h'', tk, rfl, k2⟩, r.up sk⟩

theorem swaps_true {elt : Expr} {gens : List Comprehension} {scope : Scope} {pos py : Pos} {y : Str} {l : Nat} (hk : env.scope.kind = .function) (hy : env.kindOf y = some .local) (hl : (py.line == pos.line) = true)
    (hn : (scope.names.any fun (n, k) => n == y && (k == .local || k == .cell)) = false) : swapsWith (.ListComp elt gens scope pos) (some (.Name y py)) l env = pure true := by
  unfold swapsWith
  simp only [Env.blockKind, hk, hy, hn]
  show pure (_ && (py.line == pos.line) && _) = pure true
  rw [hl]; rfl
theorem swaps_false {elt : Expr} {gens : List Comprehension} {scope : Scope} {pos py : Pos} {y : Str} {l : Nat} (hk : env.scope.kind = .function) (hy : env.kindOf y = some .cell) : swapsWith (.ListComp elt gens scope pos) (some (.Name y py)) l env = pure false := by
  unfold swapsWith
  simp only [Env.blockKind, hk, hy]
  rfl

theorem ex1_assign_comp {y : Str} {py spos : Pos} {elt target iter : Expr} {ifs : List Expr} {scope : Scope} {pos : Pos} {d0 : D} {ds : List D} {f : D → Sto} {ν : Sto} {p : D → Bool} {g : D → D} (hi : EvE c A env μ iter d0) (hIts : ∀ s v, c.G s.heap → Rep c.X s.heap v d0 → Its c A s v ds)
    (h : CompOk c A env μ elt target iter ifs scope ds f ν p g) (hsw : swapsWith (.ListComp elt [⟨target, iter, ifs, 0⟩] scope pos) (some (.Name y py)) spos.line env = pure true) (hy : env.kindOf y = some .local) (hs : ∀ x, foldedSetIterable iter env x = pure x := by intro _; rfl) :
    Ex1 c A base env μ (.Assign [.Name y py] (.ListComp elt [⟨target, iter, ifs, 0⟩] scope pos) spos) (.next ((y, .list ((ds.filter p).map g)) :: μ)) := fun s E G F => by
  rw [exec_Assign_Name_used _ _ _ _ hsw]
  refine wpAny_bind (wpAny_standAt (wpAny_bind ?_))
  show wpAny _ A (do let _ ← comprehension (.ListComp elt [⟨target, iter, ifs, 0⟩] scope pos) scope env _ (newList []) false (eval iter env) (some (assign (.Name y py) env))) _ _ s
  refine wpAny_bind (wpAny_mono (wpAny_comprehension_free (use := some (assign (.Name y py) env)) (Q := fun _ s' => Went c.X base env s (.next ((y, .list ((ds.filter p).map g)) :: μ)) .next s') rfl hs (closureFor_cl h.free) h.kind h.names
    ((hi s (G.up F.keep) F.ok).use fun v s₁ k₁ r₁ => ?_)) (fun _ s' hq => wpAny_pure (wpAny_pure hq)) fun _ _ e => e)
  have F₁ := F.up (keeps_keep k₁)
  have G₁ := Gd.up G F₁.keep
  refine hIts s₁ v G₁ r₁ _ _ fun ob St W st₀ => ?_
  refine comp_core (RR := fun acc C => compPost (model c.prog c.w) A E (some (assign (.Name y py) env)) (fun _ s' => Went c.X base env s (.next ((y, .list ((ds.filter p).map g)) :: μ)) .next s') acc C) W st₀ G₁ F₁.ok h.size h.seen h.nocell h.kind h.target h.body ?_
  intro D C h' tk m' hD hC hn hk r
  show wpAny _ A (assign (.Name y py) env (.ref D)) _ _ _
  refine PyProof.Rows.assign_Name (wpAny_mono (store_ok2 (c := c) (F₁.up hk) (.inl hy) r) (fun _ s₂ q => ?_) fun _ _ e => e)
  obtain ⟨h₂, t₂, rfl, k₂, F₂, kb, _⟩ := q
  have hLC : env.locals ≠ C := by
    obtain ⟨m, ⟨oL, _, _, hoL, _⟩, _⟩ := F₁.ok.ns
    rintro e; rw [e, hC] at hoL; cases hoL
  have hn₂ : h₂.Ns C m' := by
    obtain ⟨oC, es, ep, hoC, q⟩ := hn
    exact ⟨oC, es, ep, kb C oC (Ne.symm hLC) (.inl hy) hoC, q⟩
  refine ⟨m', hn₂, fun h₃ hs₃ => ?_⟩
  have hbC : base.get? C = none := by
    cases e : base.get? C with
    | none => rfl
    | some ob' => have := F₁.keep _ _ e; rw [hC] at this; cases this
  have kp : Kp s₁.heap h₃ := fun b o e nd nc => hs₃.extBut b o (by rintro rfl; rw [hC] at e; cases e) (k₂ b o (hk b o e) nd nc)
  exact Went.of (kp_of_keeps k₁) ⟨h₃, t₂, rfl, kp, rfl, F₂.butC (fun b o hb e => hs₃.extBut b o hb e) hn₂ hLC hbC⟩
end
end Mine
end

section -- F7
open PySem PySem.W PyProof.Rows PySem.Builtin PySem.Builtin.Str
set_option Elab.async false
set_option maxRecDepth 100000
set_option linter.unusedVariables false
set_option autoImplicit false
namespace Mine
section
variable {c : Cx} {A : Around} {env : Env} {μ : Sto} {base : Heap} {o : Out}

/-! items -/
theorem ev_item {value slice : Expr} {pos : Pos} {ds : List D} {i : Int} {d : D} (hv : EvE c A env μ value (.list ds)) (hi : EvE c A env μ slice (.int i)) (h0 : 0 ≤ i) (hf : i < 2 ^ 63) (hx : ds[i.toNat]? = some d)
    (hs : ∀ a u, subscripted slice false (.ref a) (.int i u) = operate [.ref a, .int i u] (getItem (.ref a) (.int i u)) := by intro _ _; with_unfolding_all rfl) : EvE c A env μ (.Subscript value slice pos) d := fun s G F E => by
  refine Subscript_ ((hv s G F).use fun v s₁ k₁ r₁ => (hi s₁ (G.up (keeps_keep k₁)) (F.up (keeps_keep k₁))).use fun u s₂ k₂ r₂ => ?_)
  obtain ⟨t, rfl⟩ := r₂.invI
  obtain ⟨a, vs, rfl, _, hl, ra⟩ := (r₁.up (keeps_keep k₂).seq).invL
  obtain ⟨x, hx', rx⟩ := ra.get hx
  exact tail_any hl.typeIs slot_list_getitem.lookup (wpAny_getItem_list hl h0 hf (by simpa using hx') ⟨keeps_trans k₁ k₂, rx⟩) (hs _ _)
theorem ev_itemT {value slice : Expr} {pos : Pos} {ds : List D} {i : Int} {d : D} (hv : EvE c A env μ value (.tuple ds)) (hi : EvE c A env μ slice (.int i)) (h0 : 0 ≤ i) (hf : i < 2 ^ 63) (hx : ds[i.toNat]? = some d)
    (hs : ∀ a u, subscripted slice false (.ref a) (.int i u) = operate [.ref a, .int i u] (getItem (.ref a) (.int i u)) := by intro _ _; with_unfolding_all rfl) : EvE c A env μ (.Subscript value slice pos) d := fun s G F E => by
  refine Subscript_ ((hv s G F).use fun v s₁ k₁ r₁ => (hi s₁ (G.up (keeps_keep k₁)) (F.up (keeps_keep k₁))).use fun u s₂ k₂ r₂ => ?_)
  obtain ⟨t, rfl⟩ := r₂.invI
  obtain ⟨a, vs, rfl, hl, ra⟩ := (r₁.up (keeps_keep k₂).seq).invT
  obtain ⟨x, hx', rx⟩ := ra.get hx
  have hlt : i.toNat < vs.length := (List.getElem?_eq_some_iff.mp hx').1
  exact item_tupleT hl (by omega) hf (j := i.toNat) (by unfold seqIndex?; simp; omega) hx' ⟨keeps_trans k₁ k₂, rx⟩ (hs _ _)
/-- the last item of a list -/
theorem ev_itemL {value slice : Expr} {pos : Pos} {ds : List D} {d : D} (hv : EvE c A env μ value (.list ds)) (hi : EvE c A env μ slice (.int (-1))) (hx : ds[ds.length - 1]? = some d)
    (hs : ∀ a u, subscripted slice false (.ref a) (.int (-1) u) = operate [.ref a, .int (-1) u] (getItem (.ref a) (.int (-1) u)) := by intro _ _; with_unfolding_all rfl) : EvE c A env μ (.Subscript value slice pos) d := fun s G F E => by
  refine Subscript_ ((hv s G F).use fun v s₁ k₁ r₁ => (hi s₁ (G.up (keeps_keep k₁)) (F.up (keeps_keep k₁))).use fun u s₂ k₂ r₂ => ?_)
  obtain ⟨t, rfl⟩ := r₂.invI
  obtain ⟨a, vs, rfl, _, hl, ra⟩ := (r₁.up (keeps_keep k₂).seq).invL
  obtain ⟨x, hx', rx⟩ := ra.get hx
  have hlt : ds.length - 1 < vs.length := (List.getElem?_eq_some_iff.mp hx').1
  have hlen := ra.length
  refine tail_any hl.typeIs slot_list_getitem.lookup (wpAny_getItem_list_neg hl (by decide) (by simp; omega) (by decide) ?_ ⟨keeps_trans k₁ k₂, rx⟩) (hs _ _)
  · have : ((-1 : Int) + (vs.toArray.size : Nat)).toNat = ds.length - 1 := by simp; omega
    rw [this]; simpa using hx'
theorem ev_neg1 {p q : Pos} {k : Nat} : EvE c A env μ (.UnaryOp .USub (.Constant (.int 1) k p) q) (.int (-1)) := fun s G F E =>
  UnaryOp_ (wpAny_Constant_int (PyProof.Rows.neg_int ⟨keeps_toks s _, .int _ _⟩))

/-! slices -/
/-- a bound -/
inductive EvP (c : Cx) (A : Around) (env : Env) (μ : Sto) : Option Expr → Option Int → Prop
  | none : EvP c A env μ .none .none
  | some {e : Expr} {i : Int} : EvE c A env μ e (.int i) → EvP c A env μ (.some e) (.some i)
theorem evp_run {l : Option Expr} {lo : Option Int} (h : EvP c A env μ l lo) {s : Shared} {E : Value → Shared → Prop} (G : c.G s.heap) (F : EnvOk c.X env s.heap μ) :
    wpAny (model c.prog c.w) A (valueOrNone (evalOpt l env)) (fun v s' => Keeps s s' ∧ IsPart v lo) E s := by
  cases h with
  | none => exact wpAny_pure ⟨keeps_refl s, .none⟩
  | some h => exact (h s G F).use fun v s' k r => by obtain ⟨t, rfl⟩ := r.invI; exact ⟨k, .int _ _⟩
theorem ev_slice_any {value : Expr} {l u : Option Expr} {p pos : Pos} {d d' : D} {lo hi : Option Int} (hv : EvE c A env μ value d) (hl : EvP c A env μ l lo) (hu : EvP c A env μ u hi)
    (h : ∀ (s : Shared) (v vl vu : Value), c.G s.heap → Rep c.X s.heap v d → IsPart vl lo → IsPart vu hi →
      ∀ E, wpAny (model c.prog c.w) A (subscriptTail value (.Slice l u none p) v (.ref s.heap.objs.size)) (fun r s' => Keeps s s' ∧ Rep c.X s'.heap r d') E { s with heap := s.heap.push { cls := .type "slice", data := .fields #[vl, vu, .none] } }) :
    EvE c A env μ (.Subscript value (.Slice l u none p) pos) d' := fun s G F E => by
  refine Subscript_ ((hv s G F).use fun v s₁ k₁ r₁ => ?_)
  have G₁ := Gd.up G (keeps_keep k₁)
  have F₁ := F.up (keeps_keep k₁)
  rw [arm_eval_Slice]
  refine wpAny_bind (wpAny_mono (evp_run (c := c) hl G₁ F₁) (fun vl s₂ q => ?_) fun _ _ e => e)
  obtain ⟨k₂, pl⟩ := q
  refine wpAny_bind (wpAny_holding (wpAny_mono (evp_run (c := c) hu (Gd.up G₁ (keeps_keep k₂)) (F₁.up (keeps_keep k₂))) (fun vu s₃ q => ?_) fun _ _ e => e))
  obtain ⟨k₃, pu⟩ := q
  refine wpAny_bind (wpAny_holding (wpAny_pure ?_))
  have k13 := keeps_trans k₁ (keeps_trans k₂ k₃)
  refine wpAny_newObj_type ?_
  refine wpAny_mono (h s₃ v vl vu (Gd.up G (keeps_keep k13)) (r₁.up (keeps_keep (keeps_trans k₂ k₃)).seq) pl pu E) (fun r s₄ q => ⟨keeps_trans k13 q.1, q.2⟩) fun _ _ e => e
theorem keptH_keep (h : Heap) : KeptH (Keep h) := fun h' ob k b o e => Heap.get?_push_of_some _ (k b o e)
theorem tail_item {value slice : Expr} {v i : Value} {ops : List Value} {Q : Value → Shared → Prop} {E : Value → Shared → Prop} {s : Shared} (h : ItemOn (model c.prog c.w) A E v i Q s) (hs : subscripted slice false v i = operate ops (getItem v i)) :
    wpAny (model c.prog c.w) A (subscriptTail value slice v i) Q E s := by
  obtain ⟨T, id, hl, hT, hg⟩ := h
  exact tail_any hT hl hg hs
theorem ev_slice_str {value : Expr} {l u : Option Expr} {p pos : Pos} {x : Str} {lo hi : Option Int} (hv : EvE c A env μ value (.str x)) (hl : EvP c A env μ l lo) (hu : EvP c A env μ u hi) (hsz : x.length ≤ sizeLine) :
    EvE c A env μ (.Subscript value (.Slice l u none p) pos) (.str (Txt.slice x lo hi)) := by
  refine ev_slice_any hv hl hu fun s v vl vu G r pl pu E => ?_
  obtain ⟨t, rfl⟩ := r.invS
  cases pl with
  | none => cases pu with
    | none => exact tail_item (SBH.sliceItem_nn (keptH_keep s.heap) (Keep.refl _) (fun h' t' k q => ⟨⟨h', k, rfl, q⟩, .str _ _⟩) hsz) (by with_unfolding_all rfl)
    | int j uj => exact tail_item (SBH.sliceItem_ns (keptH_keep s.heap) (Keep.refl _) (fun h' t' k q => ⟨⟨h', k, rfl, q⟩, .str _ _⟩) hsz) (by with_unfolding_all rfl)
  | int i ui => cases pu with
    | none => exact tail_item (SBH.sliceItem_sn (keptH_keep s.heap) (Keep.refl _) (fun h' t' k q => ⟨⟨h', k, rfl, q⟩, .str _ _⟩) hsz) (by with_unfolding_all rfl)
    | int j uj => exact tail_item (SBH.sliceItem_ss (keptH_keep s.heap) (Keep.refl _) (fun h' t' k q => ⟨⟨h', k, rfl, q⟩, .str _ _⟩) hsz) (by with_unfolding_all rfl)
/-- a list's slice, by what it picks -/
theorem ev_slice_list {value : Expr} {l u : Option Expr} {p pos : Pos} {ds es : List D} {lo hi : Option Int} (hv : EvE c A env μ value (.list ds)) (hl : EvP c A env μ l lo) (hu : EvP c A env μ u hi) (hsz : ds.length ≤ sizeLine)
    (hpick : ∀ (X : Addr → Prop) (h : Heap) (vs : List Value), RepAll X h vs ds → RepAll X h (slicePick vs.toArray lo hi none).toList es) :
    EvE c A env μ (.Subscript value (.Slice l u none p) pos) (.list es) := by
  refine ev_slice_any hv hl hu fun s v vl vu G r pl pu E => ?_
  obtain ⟨a, vs, rfl, _, hli, ra⟩ := r.invL
  refine tail_any (Heap.IsList.typeIs (s := { s with heap := s.heap.push { cls := .type "slice", data := .fields #[vl, vu, .none] } }) (hli.push _)) list_getitem_lookup
    (wpAny_getItem_list_slice (hli.push _) (Heap.IsSliceOf.new ..) pl pu .none (by simp) ?_ (by simpa [ra.length] using hsz)) (by with_unfolding_all rfl)
  have k2 : Keep s.heap ((s.heap.push { cls := .type "slice", data := .fields #[vl, vu, .none] }).push { cls := .type "list", data := .seq (slicePick vs.toArray lo hi none) }) := fun b o e => Heap.get?_push_of_some _ (Heap.get?_push_of_some _ e)
  refine ⟨⟨_, s.toks, rfl, k2⟩, ?_⟩
  have hr := (hpick c.X s.heap vs ra).up k2.seq
  refine .list (G.new ?_) (vs := (slicePick vs.toArray lo hi none).toList) ⟨_, Heap.get?_push_size _ rfl, rfl, 0, by simp⟩ hr
  show s.heap.objs.size ≤ (s.heap.push _).objs.size
  rw [Heap.size_push]; omega
theorem pick_from {ds : List D} {i : Int} (h0 : 0 ≤ i) (X : Addr → Prop) (h : Heap) (vs : List Value) (r : RepAll X h vs ds) : RepAll X h (slicePick vs.toArray (some i) none none).toList (ds.drop i.toNat) := by
  obtain ⟨n, rfl⟩ := Int.eq_ofNat_of_zero_le h0
  rw [slicePick_from']
  simpa using r.drop n
theorem pick_upto {ds : List D} {i : Int} (h0 : 0 ≤ i) (X : Addr → Prop) (h : Heap) (vs : List Value) (r : RepAll X h vs ds) : RepAll X h (slicePick vs.toArray none (some i) none).toList (ds.take i.toNat) := by
  obtain ⟨n, rfl⟩ := Int.eq_ofNat_of_zero_le h0
  rw [slicePick_upto']
  simpa using r.take n
theorem pick_butLast {ds : List D} (X : Addr → Prop) (h : Heap) (vs : List Value) (r : RepAll X h vs ds) : RepAll X h (slicePick vs.toArray none (some (-1)) none).toList ds.dropLast := by
  have := slicePick_butLast vs.toArray 1 (Nat.le_refl _)
  rw [show (-((1 : Nat) : Int)) = -1 from rfl] at this
  rw [this, List.dropLast_eq_take, ← r.length]
  simpa using r.take (vs.length - 1)
theorem pick_last {ds : List D} (X : Addr → Prop) (h : Heap) (vs : List Value) (r : RepAll X h vs ds) : RepAll X h (slicePick vs.toArray (some (-1)) none none).toList (ds.drop (ds.length - 1)) := by
  have := slicePick_last vs.toArray 1 (Nat.le_refl _)
  rw [show (-((1 : Nat) : Int)) = -1 from rfl] at this
  rw [this, ← r.length]
  simpa using r.drop (vs.length - 1)

/-! + of lists, ints -/
theorem bin_add_list {ds es : List D} (hsz : ds.length + es.length ≤ sizeLine) : BinC c A .Add (.list ds) (.list es) (.list (ds ++ es)) := fun s va vb G ra rb E => by
  obtain ⟨a, vs, rfl, _, hl, r1⟩ := ra.invL
  obtain ⟨b, ws, rfl, _, hb, r2⟩ := rb.invL
  obtain ⟨⟨cls, dd, data, sl⟩, ho, hc, n, hd⟩ := id hl
  obtain ⟨⟨cls2, dd2, data2, sl2⟩, ho2, hc2, n2, hd2⟩ := id hb
  simp only at hc hd hc2 hd2
  subst hc hd hc2 hd2
  refine concat_meets ⟨_, ho, rfl⟩ ⟨_, ho2, rfl⟩ noFill_list_add seq_list_add PySem.F.slot_list_add PySem.F.entry_list_add (PySem.F.args_list_add_2 _ _) (list_addW a b vs.toArray ws.toArray n n2 dd dd2 sl sl2 (by simpa [r1.length, r2.length] using hsz)) ⟨ho, ho2, ?_⟩
  refine ⟨keeps_push s _, .list (vs := vs ++ ws) (G.new (Nat.le_refl _)) ⟨_, Heap.get?_push_size _ rfl, rfl, 0, by simp⟩ ?_⟩
  exact (r1.append r2).up (Keep.push _ _).seq
theorem bin_floordiv {x y : Int} (hy : y ≠ 0) (hp : divisionGoesByPylong x y = false) : BinC c A .FloorDiv (.int x) (.int y) (.int (x.fdiv y)) := fun s va vb G ra rb E => by
  obtain ⟨t, rfl⟩ := ra.invI
  obtain ⟨u, rfl⟩ := rb.invI
  exact floordiv_int hy ⟨keeps_toks s _, .int _ _⟩ (.inl hp)
theorem bin_mod {x y : Int} (hy : y ≠ 0) : BinC c A .Mod (.int x) (.int y) (.int (x.fmod y)) := fun s va vb G ra rb E => by
  obtain ⟨t, rfl⟩ := ra.invI
  obtain ⟨u, rfl⟩ := rb.invI
  exact mod_int' hy ⟨keeps_toks s _, .int _ _⟩
theorem bin_pow {x y : Int} (h0 : 0 ≤ y) (h1 : y ≤ 1000000) (hx : x.natAbs < 2 ^ 64) : BinC c A .Pow (.int x) (.int y) (.int (x ^ y.toNat)) := fun s va vb G ra rb E => by
  obtain ⟨t, rfl⟩ := ra.invI
  obtain ⟨u, rfl⟩ := rb.invI
  exact pow_int_small h0 h1 hx ⟨keeps_toks s _, .int _ _⟩
theorem bin_mul_str {x : Str} {n : Int} (hok : MulOk x n) : BinC c A .Mult (.str x) (.int n) (.str (Txt.mul x n)) := fun s va vb G ra rb E => by
  obtain ⟨t, rfl⟩ := ra.invS
  obtain ⟨u, rfl⟩ := rb.invI
  exact SB.mul hok fun t' k => ⟨keeps_toks s _, .str _ _⟩
end
end Mine
end

section -- F8
open PySem PySem.W PyProof.Rows PySem.Builtin PySem.Builtin.Str
set_option Elab.async false
set_option maxRecDepth 100000
set_option linter.unusedVariables false
set_option autoImplicit false
namespace Mine
/-- a list of texts; a list of such -/
abbrev dS (xs : List Str) : D := .list (xs.map .str)
abbrev dSS (xs : List (List Str)) : D := .list (xs.map dS)
abbrev pS (xs : List Str) : PyData := .list (xs.map .str)
abbrev pSS (xs : List (List Str)) : PyData := .list (xs.map pS)

theorem readsAll_S {X : Addr → Prop} {h : Heap} : ∀ {vs : List Value} {xs : List Str}, RepAll X h vs (xs.map .str) → ∃ as, ReadsAll h vs (xs.map .str) as
  | vs, [], r => by obtain rfl := r.invN; exact ⟨[], .nil⟩
  | vs, x :: xs, r => by
    obtain ⟨v, vs', e0, r1, ra⟩ := r.inv
    obtain ⟨t, rfl⟩ := r1.invS
    obtain ⟨as, q⟩ := readsAll_S ra
    rw [e0]
    exact ⟨_, .cons (.str x t) q⟩
theorem reads_S {X : Addr → Prop} {h : Heap} {v : Value} {xs : List Str} (r : Rep X h v (dS xs)) : ∃ as, Reads h v (pS xs) as := by
  obtain ⟨a, vs, rfl, _, ⟨o, ho, hc, n, hd⟩, ra⟩ := r.invL
  obtain ⟨as, q⟩ := readsAll_S ra
  exact ⟨_, .list ho hc hd q⟩
theorem readsAll_SS {X : Addr → Prop} {h : Heap} : ∀ {vs : List Value} {xs : List (List Str)}, RepAll X h vs (xs.map dS) → ∃ as, ReadsAll h vs (xs.map pS) as
  | vs, [], r => by obtain rfl := r.invN; exact ⟨[], .nil⟩
  | _, x :: xs, .cons a r => let ⟨as, q⟩ := readsAll_SS r; let ⟨bs, p⟩ := reads_S a; ⟨_, .cons p q⟩
theorem reads_SS {X : Addr → Prop} {h : Heap} {v : Value} {xs : List (List Str)} (r : Rep X h v (dSS xs)) : ∃ as, Reads h v (pSS xs) as := by
  obtain ⟨a, vs, rfl, _, ⟨o, ho, hc, n, hd⟩, ra⟩ := r.invL
  obtain ⟨as, q⟩ := readsAll_SS ra
  exact ⟨_, .list ho hc hd q⟩
theorem lay_S : ∀ {xs : List Str}, (∀ x ∈ xs, PyData.strOk x = true) → PyData.canLayAll0 (xs.map .str) = true
  | [], _ => rfl
  | x :: xs, h => by
    show (PyData.strOk x && PyData.canLayAll0 (xs.map .str)) = true
    rw [h x List.mem_cons_self, lay_S fun y hy => h y (List.mem_cons_of_mem _ hy)]; rfl
theorem lay_SS : ∀ {xs : List (List Str)}, (∀ x ∈ xs, ∀ y ∈ x, PyData.strOk y = true) → PyData.canLayAll0 (xs.map pS) = true
  | [], _ => rfl
  | x :: xs, h => by
    show (PyData.canLayAll0 (x.map .str) && PyData.canLayAll0 (xs.map pS)) = true
    rw [lay_S (h x List.mem_cons_self), lay_SS fun y hy => h y (List.mem_cons_of_mem _ hy)]; rfl
theorem depth_S : ∀ (xs : List Str), PyData.depthAll (xs.map .str) = 0
  | [] => rfl
  | x :: xs => by show max 0 (PyData.depthAll (xs.map .str)) = 0; rw [depth_S xs]; rfl
theorem depth_SS : ∀ (xs : List (List Str)), PyData.depthAll (xs.map pS) ≤ 1
  | [] => by decide
  | x :: xs => by
    show max (PyData.depthAll (x.map .str) + 1) (PyData.depthAll (xs.map pS)) ≤ 1
    rw [depth_S x]; have := depth_SS xs; omega
theorem eqv_S : ∀ (xs ys : List Str), PyData.eqvAll (xs.map .str) (ys.map .str) = decide (xs = ys)
  | [], [] => by simp [PyData.eqvAll]
  | [], y :: ys => by simp [PyData.eqvAll]
  | x :: xs, [] => by simp [PyData.eqvAll]
  | x :: xs, y :: ys => by
    have := eqv_S xs ys
    simp only [List.map_cons, PyData.eqvAll, PyData.eqv, this, List.cons.injEq]
    rw [Bool.eq_iff_iff]; simp
theorem eqv_SS : ∀ (xs ys : List (List Str)), PyData.eqvAll (xs.map pS) (ys.map pS) = decide (xs = ys)
  | [], [] => by simp [PyData.eqvAll]
  | [], y :: ys => by simp [PyData.eqvAll]
  | x :: xs, [] => by simp [PyData.eqvAll]
  | x :: xs, y :: ys => by
    have := eqv_SS xs ys
    simp only [List.map_cons, PyData.eqvAll, PyData.eqv, this, List.cons.injEq, eqv_S]
    rw [Bool.eq_iff_iff]; simp
section
variable {c : Cx} {A : Around} {env : Env} {μ : Sto} {base : Heap} {o : Out}
theorem cmp_eq_S {xs ys : List Str} (hu : A.units + 8 < cLine) (hx : ∀ x ∈ xs, PyData.strOk x = true) (hy : ∀ x ∈ ys, PyData.strOk x = true) : CmpC c A .Eq (dS xs) (dS ys) (decide (xs = ys)) := fun s va vb G ra rb E => by
  obtain ⟨as, p⟩ := reads_S ra
  obtain ⟨bs, q⟩ := reads_S rb
  refine SeqAt.compareEq_reads p q (lay_S hx) (lay_S hy) ?_ ⟨keeps_refl s, ?_⟩
  · show A.units + min (PyData.depthAll (xs.map .str) + 1) (PyData.depthAll (ys.map .str) + 1) < cLine
    rw [depth_S, depth_S]; omega
  · rw [show PyData.eqv (pS xs) (pS ys) = PyData.eqvAll (xs.map .str) (ys.map .str) from by simp [PyData.eqv], eqv_S]
    exact .bool _
theorem cmp_ne_S {xs ys : List Str} (hu : A.units + 8 < cLine) (hx : ∀ x ∈ xs, PyData.strOk x = true) (hy : ∀ x ∈ ys, PyData.strOk x = true) : CmpC c A .NotEq (dS xs) (dS ys) (!decide (xs = ys)) := fun s va vb G ra rb E => by
  obtain ⟨as, p⟩ := reads_S ra
  obtain ⟨bs, q⟩ := reads_S rb
  refine SeqAt.compareNe_reads p q (lay_S hx) (lay_S hy) ?_ ⟨keeps_refl s, ?_⟩
  · show A.units + min (PyData.depthAll (xs.map .str) + 1) (PyData.depthAll (ys.map .str) + 1) < cLine
    rw [depth_S, depth_S]; omega
  · rw [show PyData.eqv (pS xs) (pS ys) = PyData.eqvAll (xs.map .str) (ys.map .str) from by simp [PyData.eqv], eqv_S]
    exact .bool _
theorem cmp_eq_SS {xs ys : List (List Str)} (hu : A.units + 8 < cLine) (hx : ∀ x ∈ xs, ∀ y ∈ x, PyData.strOk y = true) (hy : ∀ x ∈ ys, ∀ y ∈ x, PyData.strOk y = true) : CmpC c A .Eq (dSS xs) (dSS ys) (decide (xs = ys)) := fun s va vb G ra rb E => by
  obtain ⟨as, p⟩ := reads_SS ra
  obtain ⟨bs, q⟩ := reads_SS rb
  refine SeqAt.compareEq_reads p q (lay_SS hx) (lay_SS hy) ?_ ⟨keeps_refl s, ?_⟩
  · show A.units + min (PyData.depthAll (xs.map pS) + 1) (PyData.depthAll (ys.map pS) + 1) < cLine
    have := depth_SS xs; omega
  · rw [show PyData.eqv (pSS xs) (pSS ys) = PyData.eqvAll (xs.map pS) (ys.map pS) from by simp [PyData.eqv], eqv_SS]
    exact .bool _
theorem cmp_ne_SS {xs ys : List (List Str)} (hu : A.units + 8 < cLine) (hx : ∀ x ∈ xs, ∀ y ∈ x, PyData.strOk y = true) (hy : ∀ x ∈ ys, ∀ y ∈ x, PyData.strOk y = true) : CmpC c A .NotEq (dSS xs) (dSS ys) (!decide (xs = ys)) := fun s va vb G ra rb E => by
  obtain ⟨as, p⟩ := reads_SS ra
  obtain ⟨bs, q⟩ := reads_SS rb
  refine SeqAt.compareNe_reads p q (lay_SS hx) (lay_SS hy) ?_ ⟨keeps_refl s, ?_⟩
  · show A.units + min (PyData.depthAll (xs.map pS) + 1) (PyData.depthAll (ys.map pS) + 1) < cLine
    have := depth_SS xs; omega
  · rw [show PyData.eqv (pSS xs) (pSS ys) = PyData.eqvAll (xs.map pS) (ys.map pS) from by simp [PyData.eqv], eqv_SS]
    exact .bool _

/-! short words for a def's walk -/
theorem lv {S : Scope} {x : Str} {pos : Pos} {d : D} (hs : env.scope = S) (e : S.names.lookup x = some .local) (hx : μ.lookup x = some d) (hd : (x == ("__debug__" : Str)) = false := by decide) : EvE c A env μ (.Name x pos) d := ev_local (kOf hs e) hx hd
theorem cv {S : Scope} {x : Str} {pos : Pos} {d : D} (hs : env.scope = S) (e : S.names.lookup x = some .cell) (hx : μ.lookup x = some d) (hd : (x == ("__debug__" : Str)) = false := by decide) : EvE c A env μ (.Name x pos) d := ev_cell (kOf hs e) hx hd
theorem gf {S : Scope} {x : Str} {p pos : Pos} {es : List Expr} {a : Addr} {ds : List D} {d : D} (hs : env.scope = S) (e : S.names.lookup x = some .globalImplicit) (hx : nsIn (hd.heap_1 c.w.params) mainGlobals x = some (some (.ref a))) (hk : FnK c a) (h : EvL c A env μ es ds) (hf : FC c A (.ref a) ds d)
    (hd : (x == ("__debug__" : Str)) = false := by decide) (hp : (backTo pos (starEach es env)).any (·.1) = false := by rfl) : EvE c A env μ (.Call (.Name x p) es [] pos) d := ev_call_fn (ev_global (kOf hs e) hx hd) hk h hf hp
theorem bv {S : Scope} {x : Str} {pos : Pos} {v : Value} (hs : env.scope = S) (e : S.names.lookup x = some .globalImplicit) (hx : nsIn (hd.heap_1 c.w.params) mainGlobals x = some none) (hb : bootBuiltins x = some v) (hn : x ≠ "__name__" := by decide) (hd : (x == ("__debug__" : Str)) = false := by decide) :
    EvE c A env μ (.Name x pos) (.val v) := ev_builtin (kOf hs e) hx hb hn hd
theorem evl1 {e : Expr} {d : D} (h : EvE c A env μ e d) (hst : ∀ rest, starEach (e :: rest) env = (false, eval e env) :: starEach rest env := by intro _; rfl) : EvL c A env μ [e] [d] := evl_cons h evl_nil hst
theorem evl2 {e e' : Expr} {d d' : D} (h : EvE c A env μ e d) (h' : EvE c A env μ e' d') (hst : ∀ rest, starEach (e :: rest) env = (false, eval e env) :: starEach rest env := by intro _; rfl) (hst' : ∀ rest, starEach (e' :: rest) env = (false, eval e' env) :: starEach rest env := by intro _; rfl) : EvL c A env μ [e, e'] [d, d'] := evl_cons h (evl_cons h' evl_nil hst') hst
theorem sub_nil {ν : Sto} : ∀ x d, ([] : Sto).lookup x = some d → ν.lookup x = some d := fun _ _ h => by simp at h
theorem sub_cons {J ν : Sto} {y : Str} {e : D} (h : ν.lookup y = some e) (hr : ∀ x d, J.lookup x = some d → ν.lookup x = some d) : ∀ x d, ((y, e) :: J).lookup x = some d → ν.lookup x = some d := fun x d hx => by
  rcases lookup_cons_cases hx with ⟨rfl, rfl⟩ | ⟨_, hx'⟩
  · exact h
  · exact hr x d hx'
theorem sub_refl (ν : Sto) : ∀ x d, ν.lookup x = some d → ν.lookup x = some d := fun _ _ h => h
theorem evt_or {x y : Expr} {pos : Pos} {b b' : Bool} (h : EvT c A env μ x b) (h' : EvT c A env μ y b') : EvT c A env μ (.BoolOp .Or [x, y] pos) (b || b') := by
  cases b
  · exact evt_or2 h (evt_orl h')
  · exact evt_or1 h
theorem evt_and {x y : Expr} {pos : Pos} {b b' : Bool} (h : EvT c A env μ x b) (h' : EvT c A env μ y b') : EvT c A env μ (.BoolOp .And [x, y] pos) (b && b') := by
  cases b
  · exact evt_and1 h
  · exact evt_and2 h h'
/-- an if whose test is known -/
theorem ift {t : Expr} {body orelse : List Stmt} {pos : Pos} {b : Bool} (h : EvT c A env μ t b) (e : b = true) (hb : ExS c A base env μ body o) : Ex1 c A base env μ (.If t body orelse pos) o := ex1_if h (fun _ => hb) (fun q => by rw [e] at q; cases q)
theorem iff' {t : Expr} {body orelse : List Stmt} {pos : Pos} {b : Bool} (h : EvT c A env μ t b) (e : b = false) (hb : ExS c A base env μ orelse o) : Ex1 c A base env μ (.If t body orelse pos) o := ex1_if h (fun q => by rw [e] at q; cases q) (fun _ => hb)
end
end Mine
end

section -- P3
open PySem PySem.W PyProof.Rows PySem.Builtin PySem.Builtin.Str
set_option Elab.async false
set_option maxRecDepth 100000
set_option linter.unusedVariables false
set_option autoImplicit false
namespace Mine
local macro_rules | `(tactic| walk_at "ev") => `(tactic| first
  | with_reducible exact ev_str
  | with_reducible exact ev_int
  | with_reducible exact ev_bool
  | with_reducible exact ev_none
  | with_reducible exact ev_neg1
  | ((with_reducible refine ev_local (kOf (by assumption) ?_) ?_) <;> rfl)
  | ((with_reducible refine ev_cell (kOf (by assumption) ?_) ?_) <;> rfl))
section
variable {c : Cx} {A : Around} {env : Env} {μ : Sto} {base : Heap} {o : Out}
theorem fc_len_str {x : Str} (hsz : x.length ≤ sizeLine) : FC c A (.builtin "len") [.str x] (.int x.length) := fun s vs G r E => by
  obtain ⟨v, vs, rfl, r1, r⟩ := r.inv
  obtain rfl := r.invN
  obtain ⟨t, rfl⟩ := r1.invS
  exact P.len_str (by rw [sizeLine_eq] at hsz; omega) ⟨keeps_toks s _, .int _ _⟩
theorem fc_len_list {ds : List D} (hsz : ds.length ≤ sizeLine) : FC c A (.builtin "len") [.list ds] (.int ds.length) := fun s vs G r E => by
  obtain ⟨v, vs, rfl, r1, r⟩ := r.inv
  obtain rfl := r.invN
  obtain ⟨a, us, rfl, _, hl, ra⟩ := r1.invL
  have e : us.toArray.size = ds.length := by simp [ra.length]
  have h := Calls.call_len_list (prog := c.prog) (w := c.w) (A := A) (E := E) (Q := fun v s' => Keeps s s' ∧ Rep c.X s'.heap v (.int ds.length)) hl (by rw [e]; rw [sizeLine_eq] at hsz; omega) (by rw [e]; exact ⟨keeps_toks s _, .int _ _⟩)
  exact h

/-- basename -/
theorem fc_basename {x : Str} (hA : Okay 2 A) (hx : x.length ≤ sizeLine) : FC c A (.ref 137) [.str x] (.str (Txt.slice x (some (Txt.rfind x "/" + 1)) none)) := by
  refine fc_open (xs := ["p"]) hA rfl rfl rfl (by kernel_rfl) (bindC_plain ?_) rfl (by decide +kernel) (by decide +kernel) ?_
  · intro vs h
    match vs, h with
    | [a], _ => rfl
  · intro base env A' hA' hs hc hf
    refine exs_cons (ex1_assign (ev_call_fn (ev_global (kOf hs rfl) (ns_fspath _)) fnk_fspath (evl_cons (by walk_at "ev") evl_nil) (fc_fspath hA')) (canL hs rfl)) ?_
    refine exs_cons (ex1_assign (ev_call_fn (ev_global (kOf hs rfl) (ns_get_sep _)) fnk_get_sep (evl_cons (by walk_at "ev") evl_nil) (fc_get_sep hA')) (canL hs rfl)) ?_
    refine exs_cons (ex1_assign (ev_bin (ev_smeth (by walk_at "ev") F.slot_str_rfind F.type_str_rfind (evl_cons (by walk_at "ev") evl_nil) fc_rfind) (by walk_at "ev") bin_add_int) (canL hs rfl)) ?_
    exact exs_ret (ex1_ret (ev_slice_str (by walk_at "ev") (.some (by walk_at "ev")) .none hx))

theorem mulOk_slash {n : Nat} (h : n ≤ sizeLine) : MulOk "/" (n : Int) := by
  rw [sizeLine_eq] at h
  have h1 : (Str.ofString "/").length = 1 := by decide +kernel
  refine ⟨?_, fun h2 _ => ?_, fun h2 _ => ?_⟩
  · simp; omega
  · rw [h1]
    have : (1 : Int) ≤ (2 ^ 63 - 1) / (n : Int) := by
      rw [Int.le_ediv_iff_mul_le (by omega)]; omega
    intro q
    have q' : (1 : Int) > (2 ^ 63 - 1) / (n : Int) := q
    omega
  · rw [h1]
    simp [tooLong, sizeLine]; omega
/-- what dirname gives -/
def pdirname (x : Str) : Str :=
  if ((((Txt.slice x none (some (Txt.rfind x "/" + 1))).length : Int) != 0) && (Txt.slice x none (some (Txt.rfind x "/" + 1)) != Txt.mul "/" ((Txt.slice x none (some (Txt.rfind x "/" + 1))).length : Int))) = true
  then Txt.rstripChars (Txt.slice x none (some (Txt.rfind x "/" + 1))) "/" else Txt.slice x none (some (Txt.rfind x "/" + 1))
theorem fc_dirname {x : Str} (hA : Okay 2 A) (hx : x.length ≤ sizeLine) : FC c A (.ref 144) [.str x] (.str (pdirname x)) := by
  refine fc_open (xs := ["p"]) hA rfl rfl rfl (by kernel_rfl) (bindC_plain ?_) rfl (by decide +kernel) (by decide +kernel) ?_
  · intro vs h
    match vs, h with
    | [a], _ => rfl
  · intro base env A' hA' hs hc hf
    have hsl : (Txt.slice x none (some (Txt.rfind x "/" + 1))).length ≤ sizeLine := Nat.le_trans (Txt.slice_le _ _ _) hx
    refine exs_cons (ex1_assign (ev_call_fn (ev_global (kOf hs rfl) (ns_fspath _)) fnk_fspath (evl_cons (by walk_at "ev") evl_nil) (fc_fspath hA')) (canL hs rfl)) ?_
    refine exs_cons (ex1_assign (ev_call_fn (ev_global (kOf hs rfl) (ns_get_sep _)) fnk_get_sep (evl_cons (by walk_at "ev") evl_nil) (fc_get_sep hA')) (canL hs rfl)) ?_
    refine exs_cons (ex1_assign (ev_bin (ev_smeth (by walk_at "ev") F.slot_str_rfind F.type_str_rfind (evl_cons (by walk_at "ev") evl_nil) fc_rfind) (by walk_at "ev") bin_add_int) (canL hs rfl)) ?_
    refine exs_cons (ex1_assign (ev_slice_str (by walk_at "ev") .none (.some (by walk_at "ev")) hx) (canL hs rfl)) ?_
    unfold pdirname
    split
    · rename_i hcond
      refine exs_cons (ex1_if (b := true) (hcond ▸ ?_) (fun _ => exs_cons (ex1_assign (ev_smeth (by walk_at "ev") F.slot_str_rstrip F.type_str_rstrip (evl_cons (by walk_at "ev") evl_nil) (fc_rstrip hsl)) (canL hs rfl)) exs_nil) (fun h => nomatch h)) (exs_ret (ex1_ret (by walk_at "ev")))
      refine evt_and (evt_plain (by walk_at "ev") (tr_str hsl)) (evt_cmp (by walk_at "ev") (ev_bin (by walk_at "ev") (ev_call_b (ev_builtin (kOf hs rfl) (nb_len _) bb_len (by decide)) (evl_cons (by walk_at "ev") evl_nil) (fc_len_str hsl)) (bin_mul_str (mulOk_slash hsl))) cmp_ne_str)
    · rename_i hcond
      refine exs_cons (ex1_if (b := false) ((Bool.eq_false_iff.mpr hcond) ▸ ?_) (fun h => nomatch h) (fun _ => exs_nil)) (exs_ret (ex1_ret (by walk_at "ev")))
      refine evt_and (evt_plain (by walk_at "ev") (tr_str hsl)) (evt_cmp (by walk_at "ev") (ev_bin (by walk_at "ev") (ev_call_b (ev_builtin (kOf hs rfl) (nb_len _) bb_len (by decide)) (evl_cons (by walk_at "ev") evl_nil) (fc_len_str hsl)) (bin_mul_str (mulOk_slash hsl))) cmp_ne_str)

/-- what join gives -/
def pjoin (a b : Str) : Str := if (Txt.startswith b "/" || !((a.length : Int) != 0)) = true then b else if Txt.endswith a "/" = true then a ++ b else a ++ ("/" ++ b)
theorem bindC_join {fd : FuncData} {a b : Str} (h : ∀ v u : Value, bindArgs fd ⟨[v, u], []⟩ = (do let t ← newTuple [u]; pure [("a", v), ("p", t)])) : BindC c A fd [.str a, .str b] ["a", "p"] [.str a, .tuple [.str b]] := fun s vs E G r => by
  obtain ⟨v, vs, rfl, r1, r⟩ := r.inv
  obtain ⟨u, vs, rfl, r2, r⟩ := r.inv
  obtain rfl := r.invN
  rw [h]
  refine wpAny_bind ((yields_tuple (c := c) (ds := [.str b]) (.cons r2 .nil) (by show 1 ≤ sizeLine; decide)).use fun t s₁ k₁ r₁ => wpAny_pure ⟨k₁, [v, t], rfl, .cons (r1.up (keeps_keep k₁).seq) (.cons r₁ .nil)⟩)
theorem fc_join2 {a b : Str} (hA : Okay 2 A) (ha : a.length ≤ sizeLine) (hab : a.length + b.length + 1 ≤ sizeLine) : FC c A (.ref 123) [.str a, .str b] (.str (pjoin a b)) := by
  refine fc_open (xs := ["a", "p"]) hA rfl rfl rfl (by kernel_rfl) (bindC_join ?_) rfl (by decide +kernel) (by decide +kernel) ?_
  · intro v u
    rfl
  · intro base env A' hA' hs hc hf
    refine exs_cons (ex1_assign (ev_call_fn (ev_global (kOf hs rfl) (ns_fspath _)) fnk_fspath (evl_cons (by walk_at "ev") evl_nil) (fc_fspath hA')) (canL hs rfl)) ?_
    refine exs_cons (ex1_assign (ev_call_fn (ev_global (kOf hs rfl) (ns_get_sep _)) fnk_get_sep (evl_cons (by walk_at "ev") evl_nil) (fc_get_sep hA')) (canL hs rfl)) ?_
    refine exs_cons (ex1_assign (lv hs rfl rfl) (canL hs rfl)) ?_
    refine exs_cons (ν := [("path", .str (pjoin a b))]) (ex1_try (exs_cons (for_seq (ds := [.str b]) (fun e => [("b", e)]) (fun i => if i = 0 then [("sep", .str "/"), ("path", .str a)] else [("path", .str (pjoin a b))]) hA'.handled (lv hs rfl rfl) (.inr rfl) (fun e _ => asg_name (canL hs rfl)) (sub_cons rfl (sub_cons rfl sub_nil)) ?_) exs_nil) (fun _ _ => trivial) rfl) (exs_ret (ex1_ret (lv hs rfl rfl)))
    intro i e he
    match i, he with
    | 0, he =>
      cases he
      have hb1 : b.length ≤ sizeLine := by omega
      refine ⟨("path", .str (pjoin a b)) :: ("b", .str b) :: ("b", .str b) :: [("sep", .str "/"), ("path", .str a)], .inl ?_, sub_cons rfl sub_nil⟩
      refine exs_cons (ex1_assign (gf hs rfl (ns_fspath _) fnk_fspath (evl1 (lv hs rfl rfl)) (fc_fspath hA')) (canL hs rfl)) (exs_cons ?_ exs_nil)
      refine ex1_if (evt_or (evt_plain (ev_smeth (lv hs rfl rfl) F.slot_str_startswith F.type_str_startswith (evl1 (lv hs rfl rfl)) fc_startswith) tr_bool) (evt_not (evt_plain (lv hs rfl rfl) (tr_str ha)))) (fun h1 => ?_) fun h1 => exs_cons (ex1_if (evt_plain (ev_smeth (lv hs rfl rfl) F.slot_str_endswith F.type_str_endswith (evl1 (lv hs rfl rfl)) fc_endswith) tr_bool) (fun h2 => ?_) fun h2 => ?_) exs_nil
      · rw [show pjoin a b = b from if_pos h1]
        exact exs_cons (ex1_assign (lv hs rfl rfl) (canL hs rfl)) exs_nil
      · rw [show pjoin a b = a ++ b from (if_neg (by rw [h1]; decide)).trans (if_pos h2)]
        exact exs_cons (ex1_aug (kOf hs rfl) rfl (lv hs rfl rfl) (inp_add_str (by omega))) exs_nil
      · rw [show pjoin a b = a ++ ("/" ++ b) from (if_neg (by rw [h1]; decide)).trans (if_neg (by rw [h2]; decide))]
        have hl : (Str.ofString "/").length = 1 := by decide +kernel
        exact exs_cons (ex1_aug (kOf hs rfl) rfl (ev_bin (lv hs rfl rfl) (lv hs rfl rfl) (bin_add_str (by omega))) (inp_add_str (by rw [Str.length_append]; omega))) exs_nil
/-- splitroot, of a text that begins with one slash -/
theorem fc_splitroot {x : Str} (hA : Okay 2 A) (hx : x.length ≤ sizeLine) (h1 : Txt.slice x none (some 1) = "/") (h2 : Txt.slice x (some 1) (some 2) ≠ "/") : FC c A (.ref 130) [.str x] (.tuple [.str "", .str "/", .str (Txt.slice x (some 1) none)]) := by
  refine fc_open (xs := ["p"]) hA rfl rfl rfl (by kernel_rfl) (bindC_plain ?_) rfl (by decide +kernel) (by decide +kernel) ?_
  · intro vs h
    match vs, h with
    | [a], _ => rfl
  · intro base env A' hA' hs hc hf
    refine exs_cons (ex1_assign (gf hs rfl (ns_fspath _) fnk_fspath (evl1 (lv hs rfl rfl)) (fc_fspath hA')) (canL hs rfl)) ?_
    refine exs_cons (iff' (evt_plain (ev_call_b (bv hs rfl (nb_isinstance _) bb_isinstance) (evl2 (lv hs rfl rfl) (bv hs rfl (nb_bytes _) bb_bytes)) fc_isi_bytes) tr_bool) rfl (exs_cons (ex1_assign ev_str (canL hs rfl)) (exs_cons (ex1_assign ev_str (canL hs rfl)) exs_nil))) ?_
    refine exs_ret (iff' (evt_cmp (ev_slice_str (lv hs rfl rfl) .none (.some ev_int) hx) (lv hs rfl rfl) cmp_ne_str) (by rw [h1]; decide +kernel) (exs_ret (ift (evt_or (evt_cmp (ev_slice_str (lv hs rfl rfl) (.some ev_int) (.some ev_int) hx) (lv hs rfl rfl) cmp_ne_str) (evt_cmp (ev_slice_str (lv hs rfl rfl) (.some ev_int) (.some ev_int) hx) (lv hs rfl rfl) cmp_eq_str)) ?_ (exs_ret (ex1_ret (ev_tuple (evl_cons (lv hs rfl rfl) (evl2 (lv hs rfl rfl) (ev_slice_str (lv hs rfl rfl) (.some ev_int) .none hx))) (by show 3 ≤ sizeLine; decide)))))))
    simp [h2]
end
end Mine
end

section -- N1
open PySem PySem.W PyProof.Rows PySem.Builtin PySem.Builtin.Str
set_option Elab.async false
set_option maxRecDepth 100000
set_option linter.unusedVariables false
set_option autoImplicit false
namespace Mine

/-- data that need no heap -/
def HF : D → Prop
  | .list _ | .tuple _ => False
  | _ => True
theorem Rep.hf {X : Addr → Prop} {h h' : Heap} {v : Value} {d : D} (hd : HF d) (r : Rep X h v d) : Rep X h' v d := by
  cases r with
  | none => exact .none
  | bool b => exact .bool b
  | int i t => exact .int i t
  | str x t => exact .str x t
  | list => exact hd.elim
  | tuple => exact hd.elim
  | val v => exact .val v
theorem SeqSt.at {I ax : Addr} {vs : List Value} {i : Nat} {h h' : Heap} (x : SeqSt I ax vs i h) (kI : ∀ o, h.get? I = some o → h'.get? I = some o) (ka : ∀ o, h.get? ax = some o → h'.get? ax = some o) : SeqSt I ax vs i h' := by
  cases x with
  | list a b => obtain ⟨o, ho, q⟩ := a; obtain ⟨o', ho', q'⟩ := b; exact .list ⟨o, kI o ho, q⟩ ⟨o', ka o' ho', q'⟩
  | tuple a b => obtain ⟨o, ho, q⟩ := a; obtain ⟨o', ho', q'⟩ := b; exact .tuple ⟨o, kI o ho, q⟩ ⟨o', ka o' ho', q'⟩

/-- a list of texts, as it lies -/
def TextsAt (h : Heap) (N : Addr) (xs : List Str) : Prop := ∃ ws : List (Str × Tok), ws.map (·.1) = xs ∧ h.PlainList N (strValues ws).toArray
section
variable {c : Cx} {A : Around} {env : Env} {μ : Sto} {base : Heap} {o : Out}
theorem TextsAt.rep {X : Addr → Prop} {h : Heap} {N : Addr} {xs : List Str} (x : TextsAt h N xs) (hX : ¬ X N) : Rep X h (.ref N) (dS xs) := by
  obtain ⟨ws, rfl, hp⟩ := x
  have := repAll_strs (X := X) (h := h) ws
  rw [dS, List.map_map]
  exact .list hX hp.isList this
theorem TextsAt.at {h h' : Heap} {N : Addr} {xs : List Str} (x : TextsAt h N xs) (k : ∀ o, h.get? N = some o → h'.get? N = some o) : TextsAt h' N xs := by
  obtain ⟨ws, e, n, q⟩ := x
  exact ⟨ws, e, n, k _ q⟩

/-- the frame, when the list at N has turned -/
theorem FrOk.turned {h h' : Heap} {N : Addr} {y : Str} {xs xs' : List Str} {m : Str → Option Value} (F : FrOk c.X base env h ((y, dS xs) :: μ)) (hμ : ∀ x d, μ.lookup x = some d → HF d) (hy : env.kindOf y = some .local)
    (hn : h.Ns env.locals m) (hm : m y = some (.ref N)) (hN : TextsAt h N xs) (hX : ¬ c.X N) (hb : base.get? N = none) (k : ∀ b o, b ≠ N → h.get? b = some o → h'.get? b = some o) (hN' : TextsAt h' N xs') : FrOk c.X base env h' ((y, dS xs') :: μ) ∧ h'.Ns env.locals m := by
  obtain ⟨ws, _, n, hoN⟩ := hN
  have hLN : env.locals ≠ N := by
    rintro e
    obtain ⟨oL, es, ep, hoL, hdL, _⟩ := hn
    rw [e, hoN] at hoL; cases hoL; cases hdL
  have hn' : h'.Ns env.locals m := by obtain ⟨oL, es, ep, hoL, q⟩ := hn; exact ⟨oL, es, ep, k _ _ hLN hoL, q⟩
  have ce : ∀ cc v, h.IsCell cc v → h'.IsCell cc v := fun cc v hc => by
    obtain ⟨oc, e, d⟩ := hc
    exact ⟨oc, k cc oc (by rintro rfl; rw [hoN] at e; cases e; cases d) e, d⟩
  obtain ⟨m0, hn0, hv0⟩ := F.ok.ns
  have em : m0 = m := by
    obtain ⟨oL, es, ep, hoL, hdL, _, hf⟩ := hn0
    obtain ⟨oL', es', ep', hoL', hdL', _, hf'⟩ := hn
    rw [hoL] at hoL'; cases hoL'
    rw [hdL] at hdL'; cases hdL'
    funext x
    rw [← hf, ← hf']
  subst em
  refine ⟨⟨⟨F.ok.kind, F.ok.glob, F.ok.blt, ⟨m0, hn', fun x d e l => ?_⟩, fun x d e l => ?_⟩, fun b o e => k b o (by rintro rfl; rw [hb] at e; cases e) (F.keep b o e), F.lo, F.clo, fun z n cc hm => let ⟨v, q⟩ := F.cex z n cc hm; ⟨v, ce _ _ q⟩, F.cap⟩, hn'⟩
  · rcases lookup_cons_cases e with ⟨rfl, rfl⟩ | ⟨hne, e'⟩
    · exact ⟨_, hm, hN'.rep hX⟩
    · obtain ⟨v, a, r⟩ := hv0 x d (by rw [List.lookup_cons]; have : (x == y) = false := by simpa using hne
                                      rw [this]; exact e') l
      exact ⟨v, a, r.hf (hμ x d e')⟩
  · rcases lookup_cons_cases e with ⟨rfl, rfl⟩ | ⟨hne, e'⟩
    · rw [hy] at l; rcases l with q | q <;> cases q
    · obtain ⟨cc, v, a, b, r⟩ := F.ok.cell x d (by rw [List.lookup_cons]; have : (x == y) = false := by simpa using hne
                                                   rw [this]; exact e') l
      exact ⟨cc, v, a, ce _ _ b, r.hf (hμ x d e')⟩

theorem append_stmt {y cn : Str} {q1 q2 q3 q4 q5 : Pos} {N : Addr} {xs : List Str} {w : Str} {m : Str → Option Value} {s : Shared} {E : Value → Shared → Prop} (F : FrOk c.X base env s.heap μ) (hy : env.kindOf y = some .local) (hc : env.kindOf cn = some .local) (hw : μ.lookup cn = some (.str w))
    (hn : s.heap.Ns env.locals m) (hm : m y = some (.ref N)) (hN : TextsAt s.heap N xs) (hsz : xs.length ≤ sizeLine) (hline : (q2.endLine == q4.line) = true) (hd : (y == ("__debug__" : Str)) = false) (hd' : (cn == ("__debug__" : Str)) = false) :
    wpAny (model c.prog c.w) A (exec (.Expr (.Call (.Attribute (.Name y q1) "append" q2) [.Name cn q3] [] q4) q5) env) (fun f s' => f = .next ∧ ∃ h' tk, s' = { s with heap := h', toks := tk } ∧ (∀ b o, b ≠ N → s.heap.get? b = some o → h'.get? b = some o) ∧ TextsAt h' N (xs ++ [w])) E s := by
  obtain ⟨ws, rfl, hp⟩ := hN
  refine wpAny_Expr ?_ (by unfold interactive; rw [F.ok.kind]; rfl)
  refine wpAny_Call_method rfl rfl hline PySem.F.plainAttrs_list PySem.F.slot_list_append PySem.F.type_list_append ?_
  refine wpAny_Name (wpAny_loadName_local F.ok.kind hy hn hm ⟨hp.isList.typeIs, fun a e => ?_, ?_⟩) hd
  · cases e; obtain ⟨n, q⟩ := hp; exact ⟨_, q, rfl⟩
  · refine Calls.callWith_builtin rfl (Calls.evalArgs_plain (Calls.spliced_cons ?_))
    obtain ⟨m0, hn0, hv0⟩ := F.ok.ns
    obtain ⟨v, e, r⟩ := hv0 cn _ hw hc
    obtain ⟨t, rfl⟩ := r.invS
    refine wpAny_Name (wpAny_loadName_local F.ok.kind hc hn0 e (Calls.spliced_nil ?_)) hd'
    refine wpAny_list_append_plain hp (fun h' hp' hs' => ?_) (by simpa [strValues] using hsz)
    refine ⟨rfl, h', s.toks, rfl, fun b o hb e => hs'.extBut b o hb e, ws ++ [(w, t)], by simp, ?_⟩
    have : (strValues ws).toArray.push (.str w t) = (strValues (ws ++ [(w, t)])).toArray := by simp [strValues]
    rw [← this]; exact hp'
theorem pop_stmt {y : Str} {q1 q2 q4 q5 : Pos} {N : Addr} {xs : List Str} {m : Str → Option Value} {s : Shared} {E : Value → Shared → Prop} (F : FrOk c.X base env s.heap μ) (hy : env.kindOf y = some .local)
    (hn : s.heap.Ns env.locals m) (hm : m y = some (.ref N)) (hN : TextsAt s.heap N xs) (hne : xs ≠ []) (hsz : xs.length ≤ sizeLine) (hline : (q2.endLine == q4.line) = true) (hd : (y == ("__debug__" : Str)) = false) :
    wpAny (model c.prog c.w) A (exec (.Expr (.Call (.Attribute (.Name y q1) "pop" q2) [] [] q4) q5) env) (fun f s' => f = .next ∧ ∃ h' tk, s' = { s with heap := h', toks := tk } ∧ (∀ b o, b ≠ N → s.heap.get? b = some o → h'.get? b = some o) ∧ TextsAt h' N xs.dropLast) E s := by
  obtain ⟨ws, rfl, hp⟩ := hN
  obtain ⟨n, ho⟩ := id hp
  refine wpAny_Expr ?_ (by unfold interactive; rw [F.ok.kind]; rfl)
  refine wpAny_Call_method rfl rfl hline PySem.F.plainAttrs_list PySem.F.slot_list_pop PySem.F.type_list_pop ?_
  refine wpAny_Name (wpAny_loadName_local F.ok.kind hy hn hm ⟨hp.isList.typeIs, fun a e => ?_, ?_⟩) hd
  · cases e; exact ⟨_, ho, rfl⟩
  · have hws : ws ≠ [] := by rintro rfl; exact hne rfl
    obtain ⟨p, y, rfl⟩ : ∃ p y, ws = p ++ [y] := ⟨ws.dropLast, ws.getLast hws, (List.dropLast_concat_getLast hws).symm⟩
    have es : strValues (p ++ [y]) = strValues p ++ [.str y.1 y.2] := by simp [strValues]
    have hk : (strValues p ++ [Value.str y.1 y.2]).toArray.size - 1 = (strValues p).length := by rw [List.size_toArray, List.length_append]; rfl
    rw [es] at ho
    have hsz' : (strValues p ++ [Value.str y.1 y.2]).toArray.size ≤ sizeLine := by simpa [strValues] using hsz
    refine Calls.callWith_builtin rfl (PySem.evalArgs_none ?_)
    refine call_meets PySem.F.slot_list_pop hp.isList.typeIs PySem.F.entry_list_pop (PySem.F.args_list_pop_1 _) (MeetsSeq.list_pop_last N _ n (.str y.1 y.2) (by rw [hk]; simp) hsz') ⟨ho, ?_⟩
    refine ⟨rfl, _, s.toks, rfl, fun b o hb e => (Heap.get?_update_ne _ _ _ _ hb).trans e, p, by simp, ?_⟩
    have q := PySem.IsL.update ho (fun xs => xs.eraseIdxIfInBounds ((strValues p ++ [Value.str y.1 y.2]).toArray.size - 1))
    rw [show (strValues p ++ [Value.str y.1 y.2]).toArray.eraseIdxIfInBounds ((strValues p ++ [Value.str y.1 y.2]).toArray.size - 1) = (strValues p).toArray from by rw [hk, kl_erase, List.append_nil]] at q
    exact ⟨_, q⟩

/-- one turn of the walk over a path's pieces -/
def nstep (b1 : Str → Bool) (b2 : Str → List Str → Bool) (acc : List Str) (w : Str) : List Str :=
  if b1 w = true then acc else if b2 w acc = true then acc ++ [w] else acc.dropLast
theorem nstep_len (b1 : Str → Bool) (b2 : Str → List Str → Bool) (acc : List Str) (w : Str) : (nstep b1 b2 acc w).length ≤ acc.length + 1 := by
  unfold nstep
  split
  · omega
  · split
    · simp
    · simp; omega
theorem nfold_len (b1 : Str → Bool) (b2 : Str → List Str → Bool) : ∀ (ws acc : List Str), (ws.foldl (nstep b1 b2) acc).length ≤ acc.length + ws.length
  | [], acc => by simp
  | w :: ws, acc => by
    have h1 := nfold_len b1 b2 ws (nstep b1 b2 acc w)
    have h2 := nstep_len b1 b2 acc w
    simp only [List.foldl_cons, List.length_cons]; omega

/-- the state of the loop -/
structure NSt (c : Cx) (base : Heap) (env : Env) (y : Str) (μ0 : Sto) (N : Addr) (h : Heap) (acc : List Str) : Prop where
  fr : FrOk c.X base env h ((y, dS acc) :: μ0)
  ns : ∃ m, h.Ns env.locals m ∧ m y = some (.ref N)
  at_ : TextsAt h N acc
theorem NSt.keep {y : Str} {μ0 : Sto} {N : Addr} {h h' : Heap} {acc : List Str} (x : NSt c base env y μ0 N h acc) (k : Keep h h') : NSt c base env y μ0 N h' acc :=
  ⟨x.fr.up k, let ⟨m, a, b⟩ := x.ns; ⟨m, a.keeps k, b⟩, x.at_.at fun o e => k _ _ e⟩

theorem tr_list {ds : List D} (hsz : ds.length ≤ sizeLine) : TrC c A (.list ds) (decide (0 < ds.length)) := fun s va G r E => by
  obtain ⟨a, vs, rfl, _, hl, ra⟩ := r.invL
  have e : vs.toArray.size = ds.length := by simp [ra.length]
  refine wpAny_truthy_list hl (by rw [e]; rw [sizeLine_eq] at hsz; omega) ?_
  refine ⟨keeps_toks s _, ?_⟩
  have e' : vs.length = ds.length := ra.length
  cases vs <;> cases ds <;> simp at e' ⊢
theorem norm_body {y cn : Str} {pc p1 p2 q1 q2 q3 q4 q5 q6 q7 q8 q9 q10 q11 : Pos} {t1 t2 : Expr} {μ0 : Sto} {b1 : Str → Bool} {b2 : Str → List Str → Bool} {N : Addr} {w : Str} {acc : List Str} {s : Shared} {E : Value → Shared → Prop} (G : c.G base)
    (hy : env.kindOf y = some .local) (hc : env.kindOf cn = some .local) (hd : (y == ("__debug__" : Str)) = false) (hd' : (cn == ("__debug__" : Str)) = false) (hcn : μ0.lookup cn = some (.str w)) (hcy : (cn == y) = false)
    (hX : ¬ c.X N) (hb : base.get? N = none) (hμ0 : ∀ x d, μ0.lookup x = some d → HF d) (hsz : acc.length < sizeLine)
    (T1 : EvT c A env ((y, dS acc) :: μ0) t1 (b1 w)) (T2 : EvT c A env ((y, dS acc) :: μ0) t2 (b2 w acc)) (hl1 : (q2.endLine == q4.line) = true) (hl2 : (q8.endLine == q9.line) = true) (st : NSt c base env y μ0 N s.heap acc) :
    wpAny (model c.prog c.w) A (execs [.If t1 [.Continue pc] [] p1, .If t2 [.Expr (.Call (.Attribute (.Name y q1) "append" q2) [.Name cn q3] [] q4) q5] [.If (.Name y q6) [.Expr (.Call (.Attribute (.Name y q7) "pop" q8) [] [] q9) q10] [] q11] p2] env)
      (fun f s' => (f = .next ∨ f = .cont) ∧ ∃ h' tk, s' = { s with heap := h', toks := tk } ∧ (∀ b o, b ≠ N → s.heap.get? b = some o → h'.get? b = some o) ∧ NSt c base env y μ0 N h' (nstep b1 b2 acc w)) E s := by
  refine wpAny_execs_cons (wpAny_If ((T1 s (G.up st.fr.keep) st.fr.ok).use fun s₁ k₁ => ?_))
  obtain ⟨h₁, t₁, rfl, k₁⟩ := k₁
  have st₁ := st.keep k₁
  have fin : ∀ (acc' : List Str) h₂ h' t', Keep h₁ h₂ → (∀ b o, b ≠ N → h₂.get? b = some o → h'.get? b = some o) → TextsAt h' N acc' → nstep b1 b2 acc w = acc' →
      ∃ h'' tk, ({ s with heap := h', toks := t' } : Shared) = { s with heap := h'', toks := tk } ∧ (∀ b o, b ≠ N → s.heap.get? b = some o → h''.get? b = some o) ∧ NSt c base env y μ0 N h'' (nstep b1 b2 acc w) := fun acc' h₂ h' t' k₂ kb ha e => by
    have st₂ := st₁.keep k₂
    obtain ⟨m, hn, hm⟩ := st₂.ns
    obtain ⟨F', hn'⟩ := st₂.fr.turned hμ0 hy hn hm st₂.at_ hX hb kb ha
    rw [e]
    exact ⟨h', t', rfl, fun b o hbN eo => kb b o hbN (k₂ b o (k₁ b o eo)), F', ⟨m, hn', hm⟩, ha⟩
  cases hb1 : b1 w with
  | true =>
    refine wpAny_execs_cons ?_
    rw [arm_exec_Continue]
    refine wpAny_bind (wpAny_standAt (wpAny_pure ⟨.inr rfl, ?_⟩))
    exact fin acc h₁ h₁ t₁ (Keep.refl _) (fun _ _ _ e => e) st₁.at_ (if_pos hb1)
  | false =>
    refine wpAny_execs_nil (wpAny_execs_cons (wpAny_If ((T2 _ (G.up st₁.fr.keep) st₁.fr.ok).use fun s₂ k₂ => ?_)))
    obtain ⟨h₂, t₂, rfl, k₂⟩ := k₂
    have st₂ := st₁.keep k₂
    obtain ⟨m, hn, hm⟩ := st₂.ns
    have hcn' : List.lookup cn ((y, dS acc) :: μ0) = some (.str w) := by rw [List.lookup_cons, hcy]; exact hcn
    cases hb2 : b2 w acc with
    | true =>
      refine wpAny_execs_cons (wpAny_mono (append_stmt (c := c) st₂.fr hy hc hcn' hn hm st₂.at_ (Nat.le_of_lt hsz) hl1 hd hd') (fun f s₃ q => ?_) fun _ _ e => e)
      obtain ⟨rfl, h₃, t₃, rfl, kb, ha⟩ := q
      refine wpAny_execs_nil (wpAny_execs_nil ⟨.inl rfl, ?_⟩)
      exact fin _ h₂ h₃ t₃ k₂ kb ha ((if_neg (by rw [hb1]; decide)).trans (if_pos hb2))
    | false =>
      have en : nstep b1 b2 acc w = acc.dropLast := (if_neg (by rw [hb1]; decide)).trans (if_neg (by rw [hb2]; decide))
      refine wpAny_execs_cons (wpAny_If ?_)
      have TY : EvT c A env ((y, dS acc) :: μ0) (.Name y q6) (decide (0 < acc.length)) := by
        have := tr_list (c := c) (A := A) (ds := acc.map D.str) (by simpa using Nat.le_of_lt hsz)
        rw [List.length_map] at this
        exact evt_plain (ev_local hy (by simp) hd) this
      refine (TY _ (G.up st₂.fr.keep) st₂.fr.ok).use fun s₃ k₃ => ?_
      obtain ⟨h₃, t₃, rfl, k₃⟩ := k₃
      have st₃ := st₂.keep k₃
      obtain ⟨m₃, hn₃, hm₃⟩ := st₃.ns
      cases acc with
      | nil =>
        refine wpAny_execs_nil (wpAny_execs_nil (wpAny_execs_nil ⟨.inl rfl, ?_⟩))
        exact fin [] h₃ h₃ t₃ (Keep.trans k₂ k₃) (fun _ _ _ e => e) st₃.at_ en
      | cons a0 acc0 =>
        refine wpAny_execs_cons (wpAny_mono (pop_stmt (c := c) st₃.fr hy hn₃ hm₃ st₃.at_ (by simp) (Nat.le_of_lt hsz) hl2 hd) (fun f s₄ q => ?_) fun _ _ e => e)
        obtain ⟨rfl, h₄, t₄, rfl, kb, ha⟩ := q
        refine wpAny_execs_nil (wpAny_execs_nil (wpAny_execs_nil ⟨.inl rfl, ?_⟩))
        exact fin _ h₃ h₄ t₄ (Keep.trans k₂ k₃) kb ha en

theorem norm_block {y cn : Str} {py pl pa pt pf pc p1 p2 q1 q2 q3 q4 q5 q6 q7 q8 q9 q10 q11 : Pos} {iter t1 t2 : Expr} {rest : List Stmt} {xs : List Str} {μ0 : Sto} (b1 : Str → Bool) (b2 : Str → List Str → Bool) (hh : A.handled = none) (hsz : xs.length < sizeLine)
    (hy : env.kindOf y = some .local) (hc : env.kindOf cn = some .local) (hd : (y == ("__debug__" : Str)) = false) (hd' : (cn == ("__debug__" : Str)) = false) (hcy : (cn == y) = false)
    (hi : ∀ N, EvE (c.off N) A env μ iter (dS xs)) (h0 : ∀ x d, μ0.lookup x = some d → μ.lookup x = some d) (hμ0 : ∀ x d, μ0.lookup x = some d → HF d) (hμy : μ.lookup y = none) (hμc : μ.lookup cn = none)
    (T1 : ∀ w acc, w ∈ xs → EvT c A env ((y, dS acc) :: (cn, .str w) :: μ0) t1 (b1 w)) (T2 : ∀ w acc, w ∈ xs → acc.length < sizeLine → EvT c A env ((y, dS acc) :: (cn, .str w) :: μ0) t2 (b2 w acc)) (hl1 : (q2.endLine == q4.line) = true) (hl2 : (q8.endLine == q9.line) = true)
    (hrest : ExS c A base env ((y, dS (xs.foldl (nstep b1 b2) [])) :: μ0) rest o) (hs : ∀ x, foldedSetIterable iter env x = pure x := by intro _; rfl) :
    ExS c A base env μ (.Assign [.Name y py] (.List [] pl) pa :: .For (.Name cn pt) iter [.If t1 [.Continue pc] [] p1, .If t2 [.Expr (.Call (.Attribute (.Name y q1) "append" q2) [.Name cn q3] [] q4) q5] [.If (.Name y q6) [.Expr (.Call (.Attribute (.Name y q7) "pop" q8) [] [] q9) q10] [] q11] p2] [] pf :: rest) o := fun s E G F => by
  refine wpAny_execs_cons (wpAny_Assign_Name ?_ rfl)
  rw [arm_eval_List]
  refine wpAny_bind (wpAny_standAt (wpAny_bind (Calls.spliced_nil (wpAny_newList ?_ (by show 0 ≤ sizeLine; omega)))))
  generalize hN : s.heap.objs.size = N
  have F₀ : FrOk c.X base env (s.heap.push { cls := .type "list", data := .seq ([] : List Value).toArray }) μ := F.up (Keep.push _ _)
  have hX : ¬ c.X N := (Gd.up G F.keep).new (by omega)
  have hbN : base.get? N = none := by
    cases e : base.get? N with
    | none => rfl
    | some ob => exact absurd (Heap.lt_size (F.keep _ _ e)) (by rw [hN]; exact Nat.lt_irrefl _)
  have hat₀ : TextsAt (s.heap.push { cls := .type "list", data := .seq ([] : List Value).toArray }) N [] := ⟨[], rfl, 0, hN ▸ Heap.get?_push_size _ rfl⟩
  obtain ⟨m₀, hn₀, _⟩ := F₀.ok.ns
  refine wpAny_mono (store_ok2 (c := c) F₀ (.inl hy) (hat₀.rep hX)) (fun _ s₁ q => ?_) fun _ _ e => e
  obtain ⟨h₁, t₁, rfl, kp₁, F₁, kb₁, hns⟩ := q
  have hn₁ := hns hy m₀ hn₀
  have keep₁ : ∀ b ob, b ≠ env.locals → (s.heap.push { cls := .type "list", data := .seq ([] : List Value).toArray }).get? b = some ob → h₁.get? b = some ob := fun b ob hb e => kb₁ b ob hb (.inl hy) e
  have hNL : N ≠ env.locals := by
    rintro e
    obtain ⟨m, ⟨oL, es, ep, hoL, hdL, _⟩, _⟩ := F₀.ok.ns
    have e0 : (s.heap.push { cls := .type "list", data := .seq ([] : List Value).toArray }).get? N = _ := hN ▸ Heap.get?_push_size _ rfl
    rw [← e, e0] at hoL; cases hoL; cases hdL
  have hat₁ := hat₀.at fun ob e => keep₁ N ob hNL e
  have KPs : Kp s.heap h₁ := (Keep.kp (Keep.push _ _)).trans kp₁
  -- the frame, kept off N
  have offN : ∀ a, (c.off N).X a → c.X a ∨ s.heap.get? a = none := fun a q => q.imp id fun e => by rw [e, ← hN]; exact Heap.get?_none_of_le (Nat.le_refl _)
  have Eoff : EnvOk (c.off N).X env h₁ μ := by
    obtain ⟨m, hn, hv⟩ := F.ok.ns
    have hm : m = m₀ := ns_unique (hn.keeps (Keep.push _ _)) hn₀
    subst hm
    refine ⟨F.ok.kind, F.ok.glob, F.ok.blt, ⟨_, hn₁, fun x d e l => ?_⟩, fun x d e l => ?_⟩
    · obtain ⟨v, a, r⟩ := hv x d e l
      have hxy : x ≠ y := by rintro rfl; rw [hμy] at e; cases e
      exact ⟨v, by simp [hxy, a], (r.off offN).up KPs.seq⟩
    · obtain ⟨cc, v, a, b, r⟩ := F.ok.cell x d e l
      have hcl : cc ≠ env.locals := ns_ne_cell hn b
      obtain ⟨oc, eo, ed⟩ := b
      exact ⟨cc, v, a, ⟨oc, keep₁ cc oc hcl (Heap.get?_push_of_some _ eo), ed⟩, (r.off offN).up KPs.seq⟩
  have Goff : (c.off N).G h₁ := by
    have G₁ := Gd.up G F₁.keep
    obtain ⟨ws, _, n, hoN⟩ := hat₁
    exact ⟨G₁.k, G₁.g, G₁.b, G₁.nolimit, G₁.bu, fun a q => q.elim (G₁.x a) fun e => ⟨_, e ▸ hoN⟩⟩
  -- the loop
  refine wpAny_execs_cons (wpAny_For ((hi N _ Goff Eoff).use fun v s₂ k₂ r₂ => ?_) hs)
  obtain ⟨h₂, t₂, rfl, k₂⟩ := k₂
  refine seq_iter (c := c.off N) (.inl r₂) fun ax vs ob ev ra hne st₀ => ?_
  have haxN : ax ≠ N := by
    obtain ⟨a', vs', ev', hXa, _⟩ := r₂.invL
    rw [ev'] at ev; cases ev
    exact fun e => hXa (.inr e)
  dsimp only at hne st₀ ra ⊢
  have hIN : h₂.objs.size ≠ N := by
    obtain ⟨ws, _, n, hoN⟩ := hat₁
    exact fun e => absurd (Heap.lt_size (k₂ _ _ hoN)) (e ▸ Nat.lt_irrefl _)
  have hbI : base.get? h₂.objs.size = none := by
    cases e : base.get? h₂.objs.size with
    | none => rfl
    | some ob' => exact absurd (Heap.lt_size (k₂ _ _ (F₁.keep _ _ e))) (Nat.lt_irrefl _)
  generalize hI : h₂.objs.size = I at *
  have hlen : vs.length = xs.length := by rw [ra.length, List.length_map]
  have NS₀ : NSt c base env y μ0 N (h₂.push ob) [] := by
    have : NSt c base env y μ0 N h₁ [] := ⟨F₁.sub fun x d e => by
      rcases lookup_cons_cases e with ⟨rfl, rfl⟩ | ⟨hxy, e'⟩
      · simp
      · rw [List.lookup_cons, show (x == y) = false by simpa using hxy]; exact h0 x d e', ⟨_, hn₁, by simp⟩, hat₁⟩
    exact this.keep (Keep.trans k₂ (Keep.push _ _))
  refine codeAny_loop' rfl (fun n s' => ∃ i h tk, s' = { s with heap := h, toks := tk } ∧ n = xs.length + 1 - i ∧ i ≤ xs.length ∧ SeqSt I ax vs i h ∧ (∀ b ob, b ≠ N → b ≠ I → h₂.get? b = some ob → (∀ es n, ob.data ≠ .dict es n) → (∀ v, ob.data ≠ .cell v) → h.get? b = some ob) ∧ NSt c base env y μ0 N h ((xs.take i).foldl (nstep b1 b2) [])) ?_ (xs.length + 1)
    ⟨0, _, _, rfl, rfl, Nat.zero_le _, st₀, fun b ob' _ _ e _ _ => Heap.get?_push_of_some _ e, NS₀⟩
  rintro n s' ⟨i, h, tk, rfl, rfl, hle, st, kp, NS⟩
  show wpAny _ _ ((forTurn (.Name cn pt) (.ref I) _ [] env).onRaise (fun x => do noteFrame x env; theTreesLotGoes x)) _ _ _
  refine wpAny_noted ?_
  obtain ⟨oI, us, T, hoI, hdI, hcI, hTI⟩ := st.obj
  simp only [forTurn]
  refine wpAny_bind (wpAny_standAt (wpAny_bind (wpAny_onRaise ?_)))
  have butI : ∀ h', ButI I h h' → NSt c base env y μ0 N h' ((xs.take i).foldl (nstep b1 b2) []) := fun h' kb => by
    obtain ⟨m, hn, hm⟩ := NS.ns
    refine ⟨NS.fr.butI kb hoI hdI hbI, ⟨m, ?_, hm⟩, NS.at_.at fun ob e => kb N ob (Ne.symm hIN) e⟩
    obtain ⟨oL, es, ep, hoL, hdL, q⟩ := hn
    exact ⟨oL, es, ep, kb _ _ (by rintro e; rw [e, hoI] at hoL; cases hoL; rw [hdI] at hdL; cases hdL) hoL, hdL, q⟩
  by_cases hi' : i < xs.length
  · have hv : i < vs.length := by omega
    obtain ⟨e, he, re⟩ := ra.getV (k := i) (v := vs[i]) (List.getElem?_eq_getElem hv)
    have hxi : xs[i]? = some xs[i] := List.getElem?_eq_getElem hi'
    have ee : e = .str xs[i] := by
      rw [List.getElem?_map, hxi] at he
      exact (Option.some.inj he).symm
    subst ee
    refine seq_item (c := c) hne hh st (List.getElem?_eq_getElem hv) fun h₃ t₃ st₃ kb₃ => ?_
    have NS₃ := butI h₃ kb₃
    obtain ⟨oI', us', T', hoI', hdI', hcI', hTI'⟩ := st₃.obj
    refine wpAny_bind (letOwned_ok (c := c) hoI' hdI' hcI' hTI' (wpAny_bind ?_))
    obtain ⟨m₃, hn₃, hm₃⟩ := NS₃.ns
    refine PyProof.Rows.assign_Name (wpAny_mono (store_ok2 (c := c) NS₃.fr (.inl hc) (Rep.hf (h := h₂) (d := .str xs[i]) (show HF (.str xs[i]) from trivial) (re.off fun a q => .inl (.inl q)))) (fun _ s₄ q => ?_) fun _ _ e => e)
    obtain ⟨h₄, t₄, rfl, kp₄, F₄, kb₄, hns₄⟩ := q
    have NS₄ : NSt c base env y ((cn, .str xs[i]) :: μ0) N h₄ ((xs.take i).foldl (nstep b1 b2) []) := by
      refine ⟨F₄.sub fun x d e => ?_, ⟨_, hns₄ hc m₃ hn₃, ?_⟩, NS₃.at_.at fun ob e => kb₄ N ob (by intro q; exact hNL q) (.inl hc) e⟩
      · rcases lookup_cons_cases e with ⟨rfl, rfl⟩ | ⟨hxy, e'⟩
        · rw [List.lookup_cons, show (x == cn) = false by simpa using fun q : x = cn => by subst q; simp at hcy]; simp
        · rcases lookup_cons_cases e' with ⟨rfl, rfl⟩ | ⟨hxc, e''⟩
          · simp
          · rw [List.lookup_cons, show (x == cn) = false by simpa using hxc, List.lookup_cons, show (x == y) = false by simpa using hxy]; exact e''
      · have : y ≠ cn := by rintro rfl; simp at hcy
        simp [this, hm₃]
    have hal : ((xs.take i).foldl (nstep b1 b2) []).length < sizeLine := by
      have := nfold_len b1 b2 (xs.take i) []
      simp at this
      omega
    have hmem : xs[i] ∈ xs := List.getElem_mem hi'
    have hI₄ : ∀ ob', h₃.get? I = some ob' → h₄.get? I = some ob' := fun ob' e => kp₄ I ob' e (fun _ _ q => by rw [hoI'] at e; cases e; rw [hdI'] at q; cases q) (fun _ q => by rw [hoI'] at e; cases e; rw [hdI'] at q; cases q)
    have st₄ := st₃.kp kp₄
    have etake : xs.take (i + 1) = xs.take i ++ [xs[i]] := by rw [List.take_add_one, hxi]; rfl
    refine wpAny_bind (wpAny_mono (norm_body (c := c) (b1 := b1) (b2 := b2) G hy hc hd hd' (by simp) hcy hX hbN (fun x d e => ?_) hal (T1 _ _ hmem) (T2 _ _ hmem hal) hl1 hl2 NS₄) (fun f s₅ q => ?_) fun _ _ e => e)
    · rcases lookup_cons_cases e with ⟨rfl, rfl⟩ | ⟨_, e'⟩
      · trivial
      · exact hμ0 x d e'
    obtain ⟨hf, h₅, t₅, rfl, kb₅, NS₅⟩ := q
    have again' : ∃ m, m < xs.length + 1 - i ∧ ∃ i h tk, ({ s with heap := h₅, toks := t₅ } : Shared) = { s with heap := h, toks := tk } ∧ m = xs.length + 1 - i ∧ i ≤ xs.length ∧ SeqSt I ax vs i h ∧ (∀ b ob, b ≠ N → b ≠ I → h₂.get? b = some ob → (∀ es n, ob.data ≠ .dict es n) → (∀ v, ob.data ≠ .cell v) → h.get? b = some ob) ∧ NSt c base env y μ0 N h ((xs.take i).foldl (nstep b1 b2) []) := by
      refine ⟨xs.length + 1 - (i + 1), by omega, i + 1, h₅, t₅, rfl, rfl, hi', st₄.at (fun ob' e => kb₅ I ob' hIN e) (fun ob' e => kb₅ ax ob' haxN e), fun b ob' hbN' hbI' e nd nc => kb₅ b ob' hbN' (kp₄ b ob' (kb₃ b ob' hbI' (kp b ob' hbN' hbI' e nd nc)) nd nc), ?_⟩
      rw [etake, List.foldl_append]
      refine ⟨NS₅.fr.sub fun x d e => ?_, NS₅.ns, NS₅.at_⟩
      rcases lookup_cons_cases e with ⟨rfl, rfl⟩ | ⟨hxy, e'⟩
      · simp
      · have hxc : x ≠ cn := by rintro rfl; have := h0 _ _ e'; rw [hμc] at this; cases this
        rw [List.lookup_cons, show (x == y) = false by simpa using hxy, List.lookup_cons, show (x == cn) = false by simpa using hxc]; exact e'
    rcases hf with rfl | rfl
    · exact wpAny_pure (.inl ⟨rfl, again'⟩)
    · exact wpAny_pure (.inl ⟨rfl, again'⟩)
  · have hie : i = xs.length := by omega
    subst hie
    rw [← hlen] at st
    refine seq_done (c := c) hne hh st fun h₃ t₃ kb₃ => ?_
    have NS₃ := butI h₃ kb₃
    rw [List.take_length] at NS₃
    refine wpAny_pure (.inr ⟨rfl, codeAny_block (wpAny_execs_nil ?_)⟩)
    refine wpAny_mono (hrest _ _ G NS₃.fr) (fun f s₄ q => ?_) fun _ _ e => e
    refine Went.of ⟨h₃, t₃, rfl, fun b ob' e nd nc => ?_⟩ q
    have hbs := ltN (Heap.lt_size e)
    have hNI := ltN (by obtain ⟨ws, _, n, hoN⟩ := hat₁; exact Heap.lt_size (k₂ _ _ hoN))
    exact kb₃ b ob' (neN (by omega)) (kp b ob' (neN (by omega)) (neN (by omega)) (k₂ b ob' (KPs b ob' e nd nc)) nd nc)
end
end Mine
end

section -- L0
open PySem PyProof.Rows PySem.Builtin PySem.Builtin.Str
set_option Elab.async false
set_option linter.unusedVariables false
set_option autoImplicit false
namespace Mine
/-- the slash -/
abbrev sl : Str := "/"
theorem sl_eq : sl = ⟨#[47]⟩ := by decide +kernel
theorem sl_len : sl.length = 1 := by decide +kernel
theorem sl_cps : sl.cps.toList = [47] := by decide +kernel
/-- the signs -/
abbrev cs (x : Str) : List Nat := x.cps.toList
theorem cs_inj {x y : Str} (h : cs x = cs y) : x = y := by
  cases x; cases y
  simp only [cs, Str.mk.injEq] at *
  exact Array.toList_inj.mp h
theorem cs_append (x y : Str) : cs (x ++ y) = cs x ++ cs y := by simp [cs, Str.cps_append]
theorem cs_len (x : Str) : (cs x).length = x.length := by simp [cs, Str.length]
theorem join_nil : Str.join sl [] = Str.empty := rfl
theorem join_one (x : Str) : Str.join sl [x] = x := rfl
theorem join_cons (x y : Str) (r : List Str) : Str.join sl (x :: y :: r) = x ++ sl ++ Str.join sl (y :: r) := rfl
theorem join_len : ∀ (ws : List Str), ws ≠ [] → (Str.join sl ws).length + 1 = (ws.map (·.length)).sum + ws.length
  | [x], _ => by simp [join_one]
  | x :: y :: r, _ => by
    have := join_len (y :: r) (by simp)
    rw [join_cons, Str.length_append, Str.length_append, sl_len]
    simp only [List.map_cons, List.sum_cons, List.length_cons] at *
    omega
/-- no slash within -/
abbrev NoSl (x : Str) : Prop := 47 ∉ cs x
/-- a cut at the first slash is the only one -/
theorem cut_unique : ∀ {a b r t : List Nat}, 47 ∉ a → 47 ∉ b → a ++ 47 :: r = b ++ 47 :: t → a = b ∧ r = t
  | [], [], r, t, _, _, h => by simp at h; exact ⟨rfl, h⟩
  | [], b :: bs, r, t, _, hb, h => by
    simp at h
    exact absurd (h.1 ▸ List.mem_cons_self) hb
  | a :: as, [], r, t, ha, _, h => by
    simp at h
    exact absurd (h.1 ▸ List.mem_cons_self) ha
  | a :: as, b :: bs, r, t, ha, hb, h => by
    simp only [List.cons_append, List.cons.injEq] at h
    obtain ⟨h1, h2⟩ := cut_unique (fun q => ha (List.mem_cons_of_mem _ q)) (fun q => hb (List.mem_cons_of_mem _ q)) h.2
    exact ⟨by rw [h.1, h1], h2⟩
theorem join_inj : ∀ {us ws : List Str}, us ≠ [] → ws ≠ [] → (∀ u ∈ us, NoSl u) → (∀ w ∈ ws, NoSl w) → Str.join sl us = Str.join sl ws → us = ws
  | [u], [w], _, _, _, _, h => by rw [join_one, join_one] at h; rw [h]
  | [u], w :: w' :: ws, _, _, hu, _, h => by
    rw [join_one, join_cons] at h
    have : 47 ∈ cs u := by rw [h, cs_append, cs_append]; simp [sl_cps]
    exact absurd this (hu u List.mem_cons_self)
  | u :: u' :: us, [w], _, _, _, hw, h => by
    rw [join_one, join_cons] at h
    have : 47 ∈ cs w := by rw [← h, cs_append, cs_append]; simp [sl_cps]
    exact absurd this (hw w List.mem_cons_self)
  | u :: u' :: us, w :: w' :: ws, _, _, hu, hw, h => by
    rw [join_cons, join_cons] at h
    have h' := congrArg cs h
    rw [cs_append, cs_append, cs_append, cs_append] at h'
    have e : cs sl = [47] := sl_cps
    rw [e] at h'
    simp only [List.append_assoc, List.singleton_append] at h'
    obtain ⟨h1, h2⟩ := cut_unique (hu u List.mem_cons_self) (hw w List.mem_cons_self) h'
    rw [cs_inj h1, join_inj (by simp) (by simp) (fun x hx => hu x (List.mem_cons_of_mem _ hx)) (fun x hx => hw x (List.mem_cons_of_mem _ hx)) (cs_inj h2)]
theorem split_ne (x : Str) : Txt.split x sl ≠ [] := fun h => by
  have := split_pos x sl
  rw [h] at this; simp at this
theorem split_noSl (x : Str) : ∀ w ∈ Txt.split x sl, NoSl w := fun w hw => by
  rw [sl_eq] at hw
  exact StrLaws.split_free x 47 w hw
theorem split_join {ws : List Str} (hne : ws ≠ []) (hw : ∀ w ∈ ws, NoSl w) : Txt.split (Str.join sl ws) sl = ws :=
  join_inj (split_ne _) hne (split_noSl _) hw (StrLaws.join_split _ _)
theorem join_split (x : Str) : Str.join sl (Txt.split x sl) = x := StrLaws.join_split _ _
theorem split_len (x : Str) : ((Txt.split x sl).map (·.length)).sum + (Txt.split x sl).length = x.length + 1 := by
  rw [← join_len _ (split_ne x), join_split]
theorem parts_len (x : Str) : (partsBetween x (occurrences x sl 0 x.length (x.length + 1)) sl.length).length ≤ x.length + 1 := by
  have h := StrLaws.glued_between_self x sl (x.length + 1)
  rw [StrLaws.glued_eq_join] at h
  have hne : partsBetween x (occurrences x sl 0 x.length (x.length + 1)) sl.length ≠ [] := fun q => by
    have := len_partsBetween x (occurrences x sl 0 x.length (x.length + 1)) sl.length
    rw [q] at this; simp at this
  have := join_len _ hne
  rw [h] at this
  omega
theorem txt_join (ws : List Str) : Txt.join sl ws = Str.join sl ws := StrLaws.glued_eq_join _ _
theorem join_append : ∀ (us ws : List Str), us ≠ [] → ws ≠ [] → Str.join sl (us ++ ws) = Str.join sl us ++ sl ++ Str.join sl ws
  | [u], w :: ws, _, _ => by rw [List.singleton_append, join_cons, join_one]
  | u :: u' :: us, ws, _, hw => by
    have := join_append (u' :: us) ws (by simp) hw
    rw [List.cons_append, List.cons_append, join_cons, ← List.cons_append, this, join_cons]
    simp only [Str.append_assoc]
theorem split_append (x y : Str) : Txt.split (x ++ sl ++ y) sl = Txt.split x sl ++ Txt.split y sl := by
  have e : x ++ sl ++ y = Str.join sl (Txt.split x sl ++ Txt.split y sl) := by rw [join_append _ _ (split_ne x) (split_ne y), join_split, join_split]
  rw [e, split_join (by simp [split_ne x])]
  intro w hw
  rcases List.mem_append.mp hw with h | h
  · exact split_noSl x w h
  · exact split_noSl y w h
end Mine
end

section -- P4
open PySem PySem.W PyProof.Rows PySem.Builtin PySem.Builtin.Str
set_option Elab.async false
set_option maxRecDepth 100000
set_option linter.unusedVariables false
set_option autoImplicit false
namespace Mine
section
variable {c : Cx} {A : Around} {env : Env} {μ : Sto} {base : Heap} {o : Out}

theorem fc_split' {x : Str} (hsz : x.length < sizeLine) : FC c A (.builtin "str.split") [.str x, .str "/"] (dS (Txt.split x "/")) :=
  fc_split (by decide +kernel) (Nat.le_of_lt hsz) (Nat.le_trans (parts_len x) (by omega))
theorem joinOk_sl {ws : List Str} (h : (ws.map (·.length)).sum + ws.length ≤ sizeLine) : JoinOk "/" ws = true := by
  refine joinOk_of ?_
  rw [show (Str.ofString "/").length = 1 from by decide +kernel]
  rw [sizeLine_eq] at h; omega
theorem fc_join' {ws : List Str} (h : (ws.map (·.length)).sum + ws.length ≤ sizeLine) : FC c A (.builtin "str.join") [.str "/", dS ws] (.str (Str.join sl ws)) := by
  have := fc_join (c := c) (A := A) (joinOk_sl h)
  rwa [txt_join] at this

/-- a piece that is nothing -/
def skips (w : Str) : Bool := (!((w.length : Int) != 0)) || (w == ".")
/-- a piece that is kept -/
def stays (w : Str) (acc : List Str) : Bool := (w != "..") || (acc.getLast? == some "..")
/-- what normpath makes of the pieces -/
def npieces (ws : List Str) : List Str := ws.foldl (nstep skips stays) []
theorem nfold_sum (b1 : Str → Bool) (b2 : Str → List Str → Bool) : ∀ (ws acc : List Str), ((ws.foldl (nstep b1 b2) acc).map (·.length)).sum ≤ (acc.map (·.length)).sum + (ws.map (·.length)).sum
  | [], acc => by simp
  | w :: ws, acc => by
    have h1 := nfold_sum b1 b2 ws (nstep b1 b2 acc w)
    have h2 : ((nstep b1 b2 acc w).map (·.length)).sum ≤ (acc.map (·.length)).sum + w.length := by
      unfold nstep
      split
      · omega
      · split
        · simp
        · have : (acc.dropLast.map (·.length)).sum ≤ (acc.map (·.length)).sum := by
            rcases List.eq_nil_or_concat acc with rfl | ⟨l, a, rfl⟩
            · simp
            · simp
          omega
    simp only [List.foldl_cons, List.map_cons, List.sum_cons]; omega

theorem canAll_nil : ∀ p ∈ ([] : List (Str × Pos)), CanSt env p.1 := fun _ h => nomatch h
theorem canAll_cons {x : Str} {q : Pos} {xs : List (Str × Pos)} (h : CanSt env x) (hr : ∀ p ∈ xs, CanSt env p.1) : ∀ p ∈ (x, q) :: xs, CanSt env p.1 := fun p hp => by
  rcases List.mem_cons.mp hp with rfl | hp
  · exact h
  · exact hr p hp
theorem evt_or3 {x y z : Expr} {pos : Pos} {b b' b'' : Bool} (h : EvT c A env μ x b) (h' : b = false → EvT c A env μ y b') (h'' : b = false → b' = false → EvT c A env μ z b'') : EvT c A env μ (.BoolOp .Or [x, y, z] pos) (b || (b' || b'')) := by
  cases b
  · cases b'
    · exact evt_or2 h (evt_or2 (h' rfl) (evt_orl (h'' rfl rfl)))
    · exact evt_or2 h (evt_or1 (h' rfl))
  · exact evt_or1 h
theorem evt_eq {e : Expr} {b b' : Bool} (h : EvT c A env μ e b) (q : b = b') : EvT c A env μ e b' := q ▸ h
theorem hf_nil : ∀ x d, ([] : Sto).lookup x = some d → HF d := fun _ _ h => by simp at h
theorem hf_cons {y : Str} {e : D} {ν : Sto} (h : HF e) (hr : ∀ x d, ν.lookup x = some d → HF d) : ∀ x d, ((y, e) :: ν).lookup x = some d → HF d := fun x d hx => by
  rcases lookup_cons_cases hx with ⟨rfl, rfl⟩ | ⟨_, hx'⟩
  · exact h
  · exact hr x d hx'
theorem len_le_sum {w : Str} : ∀ {ws : List Str}, w ∈ ws → w.length ≤ (ws.map (·.length)).sum
  | a :: ws, h => by
    rcases List.mem_cons.mp h with rfl | h
    · simp
    · have := len_le_sum h
      simp only [List.map_cons, List.sum_cons]; omega
theorem join_len_le (ws : List Str) : (Str.join sl ws).length ≤ (ws.map (·.length)).sum + ws.length := by
  cases ws with
  | nil => exact Nat.zero_le _
  | cons a r => have := join_len (a :: r) (by simp); omega
theorem fc_normpath {x : Str} (hA : Okay 3 A) (hx : x.length + 2 ≤ sizeLine) (h1 : Txt.slice x none (some 1) = "/") (h2 : Txt.slice x (some 1) (some 2) ≠ "/") :
    FC c A (.ref 151) [.str x] (.str ("/" ++ Str.join sl (npieces (Txt.split (Txt.slice x (some 1) none) "/")))) := by
  refine fc_open (xs := ["path"]) hA rfl rfl rfl (by kernel_rfl) (bindC_plain ?_) rfl (by decide +kernel) (by decide +kernel) ?_
  · intro vs h
    match vs, h with
    | [a], _ => rfl
  · intro base env A' hA' hs hc hf
    have hxl : x.length ≤ sizeLine := by omega
    have hy : (Txt.slice x (some 1) none).length < sizeLine := Nat.lt_of_le_of_lt (Txt.slice_le _ _ _) (by omega)
    have hl1 : (Str.ofString "/").length = 1 := by decide +kernel
    have hxn : x.length ≠ 0 := fun q => by
      have := Txt.slice_le x none (some 1)
      rw [h1, hl1, q] at this; omega
    have hsum := split_len (Txt.slice x (some 1) none)
    generalize hxs : Txt.split (Txt.slice x (some 1) none) "/" = xs at hsum ⊢
    have hns := nfold_sum skips stays xs []
    have hnl := nfold_len skips stays xs []
    have hnp : ((npieces xs).map (·.length)).sum + (npieces xs).length ≤ x.length + 1 := by
      have := Txt.slice_le x (some 1) none
      unfold npieces
      simp at hns hnl
      omega
    have hxsl : (xs.map (·.length)).sum + xs.length < sizeLine := by
      have := Txt.slice_le x (some 1) none
      omega
    refine exs_cons (ex1_assign (gf hs rfl (ns_fspath _) fnk_fspath (evl1 (lv hs rfl rfl)) (fc_fspath (hA'.le (by decide)))) (canL hs rfl)) ?_
    refine exs_cons (iff' (evt_plain (ev_call_b (bv hs rfl (nb_isinstance _) bb_isinstance) (evl2 (lv hs rfl rfl) (bv hs rfl (nb_bytes _) bb_bytes)) fc_isi_bytes) tr_bool) rfl (exs_cons (ex1_assign ev_str (canL hs rfl)) (exs_cons (ex1_assign ev_str (canL hs rfl)) (exs_cons (ex1_assign ev_str (canL hs rfl)) exs_nil)))) ?_
    refine exs_cons (iff' (evt_not (evt_plain (lv hs rfl rfl) (tr_str hxl))) (by simp; omega) exs_nil) ?_
    refine exs_cons (ex1_unpack (xs := [("_", _), ("initial_slashes", _), ("path", _)]) hA'.handled (gf hs rfl (ns_splitroot _) fnk_splitroot (evl1 (lv hs rfl rfl)) (fc_splitroot hA' hxl h1 h2)) (.inr rfl) ?_ rfl) ?_
    · exact canAll_cons (canL hs rfl) (canAll_cons (canL hs rfl) (canAll_cons (canL hs rfl) canAll_nil))
    have hsp : FC c A' (.builtin "str.split") [.str (Txt.slice x (some 1) none), .str "/"] (dS xs) := hxs ▸ fc_split' hy
    refine exs_cons (ex1_assign (ev_smeth (lv hs rfl rfl) F.slot_str_split F.type_str_split (evl1 (lv hs rfl rfl)) hsp) (canL hs rfl)) ?_
    refine norm_block (xs := xs) (μ0 := [("initial_slashes", .str "/"), ("sep", .str "/"), ("dot", .str "."), ("dotdot", .str "..")]) skips stays hA'.handled ?_ (kOf hs rfl) (kOf hs rfl) (by decide +kernel) (by decide +kernel) (by decide +kernel) (fun N => lv hs rfl rfl) (sub_cons rfl (sub_cons rfl (sub_cons rfl (sub_cons rfl sub_nil)))) ?_ rfl rfl ?_ ?_ rfl rfl ?_
    · omega
    · exact hf_cons trivial (hf_cons trivial (hf_cons trivial (hf_cons trivial hf_nil)))
    · intro w acc hw
      have := len_le_sum hw
      exact evt_or (evt_not (evt_plain (lv hs rfl rfl) (tr_str (by omega)))) (evt_cmp (lv hs rfl rfl) (lv hs rfl rfl) cmp_eq_str)
    · intro w acc hw hacc
      have e0 : stays w acc = ((w != "..") || (false || (acc.getLast? == some ".."))) := by simp [stays]
      rw [e0]
      refine evt_or3 (evt_cmp (lv hs rfl rfl) (lv hs rfl rfl) cmp_ne_str) (fun _ => evt_and1 ?_) fun _ _ => ?_
      · exact evt_eq (evt_not (evt_plain (lv hs rfl rfl) (tr_str (x := "/") (by rw [hl1]; decide)))) (by rw [hl1]; rfl)
      · cases acc with
        | nil => exact evt_and1 (evt_plain (lv hs rfl rfl) (tr_list (by simp)))
        | cons a r =>
          have e1 : ((a :: r).getLast? == some "..") = ((a :: r).getLast (by simp) == "..") := by rw [List.getLast?_eq_some_getLast (by simp)]; rfl
          rw [e1]
          have htr := tr_list (c := c) (A := A') (ds := (a :: r).map D.str) (by simpa using Nat.le_of_lt hacc)
          rw [List.length_map, show decide (0 < (a :: r).length) = true from by simp] at htr
          refine evt_and2 (evt_plain (lv hs rfl rfl) htr) (evt_cmp (ev_itemL (lv hs rfl rfl) ev_neg1 (d := .str ((a :: r).getLast (by simp))) ?_) (lv hs rfl rfl) cmp_eq_str)
          rw [List.getElem?_map, List.length_map, List.getLast_eq_getElem, List.getElem?_eq_getElem (by simp)]
          rfl
    · refine exs_cons (ex1_assign (lv hs rfl rfl) (canL hs rfl)) ?_
      have hj : FC c A' (.builtin "str.join") [.str "/", dS (npieces xs)] (.str (Str.join sl (npieces xs))) := fc_join' (by omega)
      have hjl := join_len_le (npieces xs)
      refine exs_cons (ex1_assign (ev_bin (lv hs rfl rfl) (ev_smeth (lv hs rfl rfl) F.slot_str_join F.type_str_join (evl1 (lv hs rfl rfl)) hj) (bin_add_str (by omega))) (canL hs rfl)) ?_
      have tr : TrC c A' (.str ("/" ++ Str.join sl (npieces xs))) true := by
        have := tr_str (c := c) (A := A') (x := "/" ++ Str.join sl (npieces xs)) (by rw [Str.length_append]; omega)
        rwa [show (((Str.ofString "/" ++ Str.join sl (npieces xs)).length : Int) != 0) = true from by rw [Str.length_append, hl1]; simp; omega] at this
      exact exs_ret (ex1_ret (ev_or_t (lv hs rfl rfl) tr))
end
end Mine
end

section -- M0
open PySem PySem.W PyProof.Rows PySem.Builtin PySem.Builtin.Str
set_option Elab.async false
set_option maxRecDepth 100000
set_option linter.unusedVariables false
set_option autoImplicit false
namespace Mine
theorem map_entry_iter : entryFor table "map.__iter__" = some Builtin.«dict_keyiterator.__iter__» :=
  entryFor_alias (id' := "dict_keyiterator.__iter__") (by kernel_rfl) (by first | rfl | decide +kernel | (unfold String.splitOn; simp +decide [String.splitOnAux])) (by decide +kernel) (by kernel_rfl)
theorem map_entry_next : entryFor table "map.__next__" = some Builtin.«map.__next__» := entryFor_of_tree (by kernel_rfl)
theorem map_entry_new : entryFor table "map.__new__" = some Builtin.«map.__new__» := entryFor_of_tree (by kernel_rfl)
theorem map_mro : mroOf (.type "map") = pure [.type "map", .type "object"] := by rw [mroOf_type]; kernel_rfl
theorem map_lookup_new : typeLookup (.type "map") "__new__" = pure (some (.builtin "map.__new__")) := by rw [typeLookup_type, builtinLookup_eq_fast]; kernel_rfl
theorem map_slot_init : Slot "map" "__init__" "object.__init__" :=
  .of (owner := "object") (n := "__init__") (by rw [typeLookup_type, builtinLookup_eq_fast]; kernel_rfl) (by decide +kernel) (by decide +kernel) (by decide +kernel)
    (by first | exact .inl (by decide +kernel) | exact .inr (by decide +kernel)) (by rw [isSubtype_type]; kernel_rfl)
theorem map_slot_iter : Slot "map" "__iter__" "map.__iter__" :=
  .of (owner := "map") (n := "__iter__") (by rw [typeLookup_type, builtinLookup_eq_fast]; kernel_rfl) (by decide +kernel) (by decide +kernel) (by decide +kernel)
    (by first | exact .inl (by decide +kernel) | exact .inr (by decide +kernel)) (by rw [isSubtype_type]; kernel_rfl)
theorem map_slot_next : Slot "map" "__next__" "map.__next__" :=
  .of (owner := "map") (n := "__next__") (by rw [typeLookup_type, builtinLookup_eq_fast]; kernel_rfl) (by decide +kernel) (by decide +kernel) (by decide +kernel)
    (by first | exact .inl (by decide +kernel) | exact .inr (by decide +kernel)) (by rw [isSubtype_type]; kernel_rfl)
theorem map_owner : Manifest.owners.lookup (String.ofList ['p', 'a', 'm'].reverse) = some Manifest.sig_map := by kernel_rfl
theorem map_args_iter (a : Value) : argsOk "map.__iter__" ⟨[a], []⟩ := by
  unfold argsOk; rw [signature?_of (id := "map.__iter__") (n := ['_', '_', 'r', 'e', 't', 'i', '_', '_']) (o := ['p', 'a', 'm']) (by kernel_rfl) map_owner]; kernel_rfl
theorem map_args_next (a : Value) : argsOk "map.__next__" ⟨[a], []⟩ := by
  unfold argsOk; rw [signature?_of (id := "map.__next__") (n := ['_', '_', 't', 'x', 'e', 'n', '_', '_']) (o := ['p', 'a', 'm']) (by kernel_rfl) map_owner]; kernel_rfl
theorem map_sub : isSubtype (.type "map") (.type "map") = pure true := by rw [isSubtype_type]; kernel_rfl
theorem map_no_len : typeLookup (.type "map") "__len__" = pure none := by rw [typeLookup_type, builtinLookup_eq_fast]; kernel_rfl
theorem map_no_hint : typeLookup (.type "map") "__length_hint__" = pure none := by rw [typeLookup_type, builtinLookup_eq_fast]; kernel_rfl
theorem map_called : TypeCalled "map" "map.__new__" "object.__init__" :=
  ⟨by decide +kernel, by decide +kernel, ⟨_, _, map_mro⟩, madeBy_type map_mro map_lookup_new (by decide +kernel), by decide +kernel, by rw [isSubtype_type]; kernel_rfl, map_slot_init⟩
theorem map_typeCall (a b : Value) : checkTypeCall "map" ⟨[a, b], []⟩ = pure () := by kernel_rfl
theorem map_newCall (a b : Value) : checkBuiltinCall "map.__new__" ⟨[.type "map", a, b], []⟩ = pure () := by kernel_rfl
theorem init_args3 (a b d : Value) : argsOk "object.__init__" ⟨[a, b, d], []⟩ := by unfold argsOk; kernel_rfl

open AutoSeq1 (wpAny_loadPart')
theorem meets_map_new (f : Value) (l : Addr) (items : Array Value) :
    Meets (Builtin.«map.__new__» ⟨[.type "map", f, .ref l], []⟩) (fun _ R s => s.heap.IsList l items ∧
      R (.ok (.ret (.ref (s.heap.objs.size + 2))))
        { s with heap := ((s.heap.push { cls := .type "list_iterator", data := .fields #[.ref l, .int 0 0] }).push { cls := .type "tuple", data := .seq #[.ref s.heap.objs.size] }).push { cls := .type "map", data := .fields #[.ref (s.heap.objs.size + 1), f] } }) :=
  .of_wp fun prog w A R s h => by
    obtain ⟨hp, g, d, tk, os⟩ := s; obtain ⟨hl, h⟩ := h
    have hsub := map_sub
    wp_walk using wpAny_pyIter_list hl
    refine ⟨_, rfl, ?_⟩
    have e : ∀ ob, (hp.push ob).objs.size = hp.objs.size + 1 := fun ob => Heap.size_push ..
    simp only [Heap.size_push, List.headD_cons] at h ⊢
    exact h

/-- a map object over a list -/
structure MapAt (h : Heap) (I : Addr) (f : Value) (tp it ax : Addr) (vs : List Value) (i : Nat) : Prop where
  obj : h.get? I = some { cls := .type "map", data := .fields #[.ref tp, f] }
  tup : h.get? tp = some { cls := .type "tuple", data := .seq #[.ref it] }
  iter : h.IsListIter it ax i
  lst : h.IsList ax vs.toArray
section
variable {c : Cx} {A : Around} {env : Env} {μ : Sto} {base : Heap} {o : Out}
theorem call_map {f : Value} {l : Addr} {vs : List Value} {s : Shared} {Q : Value → Shared → Prop} {E : Value → Shared → Prop} (hl : s.heap.IsList l vs.toArray)
    (h : ∀ h', MapAt h' (s.heap.objs.size + 2) f (s.heap.objs.size + 1) s.heap.objs.size l vs 0 → h'.objs.size = s.heap.objs.size + 3 → Keep s.heap h' → Q (.ref (s.heap.objs.size + 2)) { s with heap := h' }) :
    wpAny (model c.prog c.w) A (call (.type "map") [f, .ref l]) Q E s := by
  refine callType_new map_called (by decide) (map_typeCall _ _) (map_newCall _ _) (fun obj => init_args3 obj _ _) map_entry_new (meets_map_new f l vs.toArray) ⟨hl, ?_⟩
  have z1 : (s.heap.push { cls := .type "list_iterator", data := .fields #[.ref l, .int 0 0] }).objs.size = s.heap.objs.size + 1 := Heap.size_push ..
  have z2 : ((s.heap.push { cls := .type "list_iterator", data := .fields #[.ref l, .int 0 0] }).push { cls := .type "tuple", data := .seq #[.ref s.heap.objs.size] }).objs.size = s.heap.objs.size + 2 := by rw [Heap.size_push, z1]
  have o3 := Heap.get?_push_size ((s.heap.push { cls := .type "list_iterator", data := .fields #[.ref l, .int 0 0] }).push { cls := .type "tuple", data := .seq #[.ref s.heap.objs.size] }) (o := { cls := .type "map", data := .fields #[.ref (s.heap.objs.size + 1), f] }) rfl
  have o2 := Heap.get?_push_size (s.heap.push { cls := .type "list_iterator", data := .fields #[.ref l, .int 0 0] }) (o := { cls := .type "tuple", data := .seq #[.ref s.heap.objs.size] }) rfl
  have o1 := Heap.get?_push_size s.heap (o := { cls := .type "list_iterator", data := .fields #[.ref l, .int 0 0] }) rfl
  rw [z2] at o3
  rw [z1] at o2
  exact ⟨⟨_, o3, rfl⟩, h _ ⟨o3, Heap.get?_push_of_some _ o2, ⟨_, Heap.get?_push_of_some _ (Heap.get?_push_of_some _ o1), rfl, rfl⟩, ((hl.push _).push _).push _⟩ (by rw [Heap.size_push, z2]) fun b o x => Heap.get?_push_of_some _ (Heap.get?_push_of_some _ (Heap.get?_push_of_some _ x))⟩

theorem map_self {f : Value} {I tp it ax : Addr} {vs : List Value} {i : Nat} {s : Shared} {Q : Value → Shared → Prop} {E : Value → Shared → Prop} (m : MapAt s.heap I f tp it ax vs i) (h : Q (.ref I) s) : wpAny (model c.prog c.w) A (pyIter (.ref I)) Q E s := by
  have hT : s.TypeIs (.ref I) "map" := ⟨_, m.obj, rfl⟩
  refine wpAny_pyIter_slot hT map_slot_iter (wpAny_call_entry map_slot_iter hT map_entry_iter ?_ (map_args_iter _))
  show wpAny _ _ (ret (.ref I)) _ _ s
  exact wpAny_pure ⟨_, rfl, "map", _, hT, map_slot_next.lookup, h⟩

theorem map_item {f : Value} {I tp it ax : Addr} {vs : List Value} {i : Nat} {x : Value} {s : Shared} {Q : Option Value → Shared → Prop} {E : Value → Shared → Prop} (m : MapAt s.heap I f tp it ax vs i) (hx : vs[i]? = some x) (hIi : I ≠ it)
    (h : ∀ h' E', Heap.SameBut it s.heap h' → h'.IsListIter it ax (i + 1) → wpAny (model c.prog c.w) A.in1 (call f [x]) (fun v s' => Q (some v) s') E' { s with heap := h' }) : wpAny (model c.prog c.w) A (pyNext (.ref I)) Q E s := by
  have hT : s.TypeIs (.ref I) "map" := ⟨_, m.obj, rfl⟩
  unfold pyNext
  refine wpAny_bind (wpAny_attempt (wpAny_callSpecial?_slot (name := Str.ofString "__next__") hT map_slot_next
    (wpAny_call_entry map_slot_next hT map_entry_next ?_ (map_args_next _))))
  have hx' : vs.toArray[i]? = some x := by simpa using hx
  show wpAny _ _ (field (.ref I) 0 >>= _) _ _ _
  refine wpAny_bind (wpAny_field m.obj rfl (x := .ref tp) rfl ?_)
  show wpAny _ _ (seqItems? (.ref tp) >>= _) _ _ s
  refine wpAny_bind (wpAny_seqItems m.tup rfl ?_)
  show wpAny _ _ (forIn #[Value.ref it] #[] _ >>= _) _ _ _
  rw [← Array.forIn_toList]
  simp only [List.forIn_cons, List.forIn_nil]
  refine wpAny_bind (wpAny_bind (wpAny_bind (wpAny_holding (wpAny_nextOf_list_item m.iter m.lst hx' fun h' hi' hs' => ?_))))
  refine wpAny_pure (wpAny_pure ?_)
  have ho' := (hs'.2 I hIi).trans m.obj
  show wpAny _ _ (field (.ref I) 1 >>= _) _ _ _
  refine wpAny_bind (wpAny_field ho' rfl (x := f) rfl ?_)
  refine wpAny_bind (wpAny_holding (wpAny_mono (h h' _ hs' hi') (fun v s' q => ?_) fun _ _ e => e))
  exact wpAny_bind (wpAny_letGo (wpAny_pure ⟨_, rfl, wpAny_pure q⟩))

theorem map_done {f : Value} {I tp it ax : Addr} {vs : List Value} {i : Nat} {s : Shared} {Q : Option Value → Shared → Prop} {E : Value → Shared → Prop} (hh : A.handled = none) (m : MapAt s.heap I f tp it ax vs i) (hx : vs[i]? = none)
    (h : ∀ h', Heap.ExtBut it s.heap h' → Q none { s with heap := h' }) : wpAny (model c.prog c.w) A (pyNext (.ref I)) Q E s := by
  have hT : s.TypeIs (.ref I) "map" := ⟨_, m.obj, rfl⟩
  unfold pyNext
  refine wpAny_bind (wpAny_attempt (wpAny_callSpecial?_slot (name := Str.ofString "__next__") hT map_slot_next
    (wpAny_call_entry map_slot_next hT map_entry_next ?_ (map_args_next _))))
  have hx' : vs.toArray[i]? = none := by simpa using hx
  show wpAny _ _ (field (.ref I) 0 >>= _) _ _ _
  refine wpAny_bind (wpAny_field m.obj rfl (x := .ref tp) rfl ?_)
  show wpAny _ _ (seqItems? (.ref tp) >>= _) _ _ s
  refine wpAny_bind (wpAny_seqItems m.tup rfl ?_)
  show wpAny _ _ (forIn #[Value.ref it] #[] _ >>= _) _ _ _
  rw [← Array.forIn_toList]
  simp only [List.forIn_cons, List.forIn_nil]
  refine wpAny_bind (wpAny_bind (wpAny_bind (wpAny_holding (wpAny_nextOf_list_end hh m.iter m.lst hx' fun h' x he' hx' => ?_))))
  obtain ⟨o, ho, hc⟩ := hx'
  refine wpAny_bind (wpAny_isInstance (T := "StopIteration") (b := true) ⟨o, ho, hc⟩ isSubtype_stop ?_)
  exact wpAny_pure (h _ he')

theorem MapAt.keep {f : Value} {I tp it ax : Addr} {vs : List Value} {i : Nat} {h h' : Heap} (m : MapAt h I f tp it ax vs i) (k : ∀ b o, b = I ∨ b = tp ∨ b = it ∨ b = ax → h.get? b = some o → h'.get? b = some o) : MapAt h' I f tp it ax vs i := by
  obtain ⟨a, b, ⟨oi, hoi, qi⟩, ⟨ol, hol, ql⟩⟩ := m
  exact ⟨k _ _ (.inl rfl) a, k _ _ (.inr (.inl rfl)) b, ⟨oi, k _ _ (.inr (.inr (.inl rfl))) hoi, qi⟩, ⟨ol, k _ _ (.inr (.inr (.inr rfl))) hol, ql⟩⟩

/-- the map object hands out texts -/
theorem map_walks {f : Value} {I tp it ax : Addr} {vs : List Value} {h₀ : Heap} {N : Nat} (g : Nat → Str) (hh : A.handled = none) (hIt : I ≠ it) (hpt : tp ≠ it) (hat : ax ≠ it) (hlt : I < N ∧ tp < N ∧ it < N ∧ ax < N) (h0 : h₀.objs.size ≤ it) (hN : it < N) (hG : c.G h₀)
    (hf : ∀ i x (s : Shared), vs[i]? = some x → c.G s.heap → Keep h₀ s.heap → Yields c A.in1 (call f [x]) s (.str (g i))) :
    WalksS c.prog c.w A I (List.range N) [it] (fun a b => b = a) vs.length (fun i v => ∃ t, v = .str (g i) t) (fun i s => MapAt s.heap I f tp it ax vs i ∧ Keep h₀ s.heap) where
  sub := fun b hb => by simp at hb; subst hb; exact List.mem_range.mpr hN
  grefl := fun _ => rfl
  gtrans := fun _ _ _ a b => b.trans a
  frame := fun i s h' tk st _ k => ⟨st.1.keep fun b o hb e => k b (List.mem_range.mpr (by rcases hb with rfl | rfl | rfl | rfl; exact hlt.1; exact hlt.2.1; exact hlt.2.2.1; exact hlt.2.2.2)) o e, fun b o e => k b (List.mem_range.mpr (Nat.lt_trans (Nat.lt_of_lt_of_le (Heap.lt_size e) h0) hN)) o (st.2 b o e)⟩
  item := fun i s Q E hi st hQ => by
    have hv := List.getElem?_eq_getElem hi
    refine wpAny_with_toks (Nat.le_refl s.toks) (map_item (c := c) st.1 hv hIt fun h' E' hs hit => ?_)
    have k1 : Keep h₀ h' := fun b o e => hs.extBut b o (Nat.ne_of_lt (Nat.lt_of_lt_of_le (Heap.lt_size e) h0)) (st.2 b o e)
    refine (hf i _ { s with heap := h' } hv (hG.up k1) k1).use fun v s' k r => ?_
    obtain ⟨h₂, t₂, rfl, k2⟩ := k
    obtain ⟨t, rfl⟩ := r.invS
    have m' : MapAt h' I f tp it ax vs (i + 1) := ⟨hs.extBut _ _ hIt st.1.obj, hs.extBut _ _ hpt st.1.tup, hit, st.1.lst.extBut hs.extBut hat⟩
    intro htk
    refine hQ _ _ ⟨t, rfl⟩ ⟨m'.keep fun b o _ e => k2 b o e, fun b o e => k2 b o (k1 b o e)⟩ ⟨fun b o hb e => k2 b o (hs.extBut b o (by simpa using hb) e), rfl, rfl, rfl, htk⟩
  done := fun s Q E st hQ => by
    refine map_done (c := c) hh st.1 (List.getElem?_eq_none (Nat.le_refl _)) fun h' he => ?_
    exact hQ _ ⟨fun b o hb e => he b o (by simpa using hb) e, rfl, rfl, rfl, Nat.le_refl _⟩
  self := fun i s Q E st hQ => map_self (c := c) st.1 hQ
end
end Mine
end

section -- M1
open PySem PySem.W PyProof.Rows PySem.Builtin PySem.Builtin.Str
set_option Elab.async false
set_option maxRecDepth 100000
set_option linter.unusedVariables false
set_option autoImplicit false
namespace Mine
section
variable {prog : Program} {w : World} {A : Around} {E : Value → Shared → Prop} {s : Shared} {I : Addr} {fp wr : List Addr} {G : Array GenState → Array GenState → Prop} {n : Nat} {P : Nat → Value → Prop} {St : Nat → Shared → Prop}
/-- a map object's items -/
theorem collect_map {Q : List Value → Shared → Prop} (W : WalksS prog w A.in1 I fp wr G n P St) (hT : ∀ i s, St i s → s.TypeIs (.ref I) "map") (hst : St 0 s) (hfp : ∀ b ∈ fp, b < s.heap.objs.size) (hI : I ∈ fp)
    (hQ : ∀ s' acc, Moved wr G s s' → ItemsOf P acc n → Q acc.toList s') (hn : n ≤ sizeLine) : wpAny (model prog w) A (collect (.ref I)) Q E s := by
  have hnew : s.heap.objs.size ∉ fp := fun hm => Nat.lt_irrefl _ (hfp _ hm)
  have hne : s.heap.objs.size ≠ I := fun e => hnew (e ▸ hI)
  unfold collect
  refine wpAny_bind (wpAny_runValue (codeAny_builtin F.entry_proto_collect ?_))
  rw [Around.under_plainId F.plain_proto_collect _]
  show wpAny _ A.in1 (newList [] >>= fun l => again (.builtin "list.__iadd__" ⟨[l, .ref I], []⟩)) _ _ s
  refine wpAny_bind (wpAny_newObj_type ?_)
  refine wpAny_pure ⟨plainId_quiet F.plain_list_iadd _, codeAny_builtin F.entry_list_iadd ?_⟩
  rw [Around.under_plainId F.plain_list_iadd _]
  generalize hob : ({ cls := .type "list", data := .seq ([] : List Value).toArray } : Obj) = ob
  have hst₁ := W.frame 0 s (s.heap.push ob) s.toks hst (Nat.le_refl _) fun b _ o e => Heap.get?_push_of_some _ e
  have hS₁ : (s.heap.push ob).get? s.heap.objs.size = some ob := Heap.get?_push_size _ (by rw [← hob]; rfl)
  show wpAny _ A.in1 (Builtin.List.listExtendWith (.ref s.heap.objs.size) (.ref I) (.ref s.heap.objs.size)) _ _ _
  unfold Builtin.List.listExtendWith
  refine wpAny_bind (wpAny_typeOf (hT 0 _ hst₁) ?_)
  have h1 : Builtin.List.listSameRef (.ref s.heap.objs.size) (.ref I) = false := by simp [Builtin.List.listSameRef, hne]
  rw [if_neg (by rw [h1]; decide)]
  refine wpAny_bind (W.self 0 _ _ _ hst₁ ?_)
  refine wpAny_bind (wpAny_holding ?_)
  unfold Builtin.List.listLengthHint
  refine wpAny_bind (wpAny_specialOf (hT 0 _ hst₁) map_no_len ?_)
  show wpAny _ A.in1 (specialOf (Value.ref I) (Str.ofString "__length_hint__") >>= _) _ _ _
  refine wpAny_bind (wpAny_specialOf (hT 0 _ hst₁) map_no_hint ?_)
  refine wpAny_pure ?_
  show wpAny _ A.in1 (rule "list.extend.makes-room" >>= fun _ => Builtin.List.listTouch (.ref s.heap.objs.size) >>= fun _ =>
    again (.builtin "list.extend.loop" ⟨[.ref s.heap.objs.size, .ref I, .ref s.heap.objs.size], []⟩)) _ _ _
  refine wpAny_bind (wpAny_rule (wpAny_bind ?_))
  show wpAny _ A.in1 (updateSeq s.heap.objs.size (·.push .none) >>= fun _ => updateSeq s.heap.objs.size (·.pop)) _ _ _
  subst hob
  refine wpAny_bind (wpAny_updateSeq hS₁ rfl ?_)
  have hS₂ := Heap.get?_update_self (Obj.mapSeq (·.push Value.none)) hS₁ rfl
  refine wpAny_updateSeq hS₂ rfl ?_
  have hS₃ := Heap.get?_update_self (Obj.mapSeq (·.pop)) hS₂ rfl
  have oth : ∀ b o, b ≠ s.heap.objs.size → (s.heap.push { cls := .type "list", data := .seq ([] : List Value).toArray }).get? b = some o →
      (((s.heap.push { cls := .type "list", data := .seq ([] : List Value).toArray }).update s.heap.objs.size (Obj.mapSeq (·.push Value.none))).update s.heap.objs.size (Obj.mapSeq (·.pop))).get? b = some o := fun b o hb e => by
    rw [Heap.get?_update_other _ _ (Ne.symm hb), Heap.get?_update_other _ _ (Ne.symm hb)]; exact e
  refine wpAny_pure ⟨plainId_quiet F.plain_extend_loop _, codeAny_extend_loopS W hn _ hnew _ n 0 _ _ _ rfl (Nat.zero_le _)
    (W.frame 0 ({ s with heap := s.heap.push { cls := .type "list", data := .seq ([] : List Value).toArray } } : Shared) _ s.toks hst₁ (Nat.le_refl _) fun b hb o e => oth b o (fun h => hnew (h ▸ hb)) e) hS₃ (ItemsOf.nil P) fun s' acc' c' hm hS' hacc => ?_⟩
  show wpAny _ A (load s.heap.objs.size >>= _) _ _ s'
  refine wpAny_bind (wpAny_load hS' (wpAny_pure (hQ s' acc' (Moved.drop_new (o := { cls := .type "list", data := .seq ([] : List Value).toArray }) (tk := s.toks) (Moved.trans W.gtrans ((Moved.refl W.grefl).then_heap (Nat.le_refl _) fun b o hb e => oth b o (fun h => hb (h ▸ List.mem_cons_self)) e) hm) (Nat.le_refl _)) hacc)))

theorem join_map {x : Str} {t : Tok} {Q : Value → Shared → Prop} (W : WalksS prog w A.in1.in1 I fp wr G n P St) (hT : ∀ i s, St i s → s.TypeIs (.ref I) "map") (hst : St 0 s) (hfp : ∀ b ∈ fp, b < s.heap.objs.size) (hI : I ∈ fp)
    (hstr : ∀ i v, P i v → ∃ y u, v = Value.str y u)
    (hq : ∀ s' (l : List (Str × Tok)), Moved wr G s s' → ItemsOf P (strValues l).toArray n → JoinOk x (l.map (·.1)) = true ∧ ∀ t' k, Q (.str (Txt.join x (l.map (·.1))) t') { s' with toks := k })
    (hsz : n ≤ sizeLine) : wpAny (model prog w) A (call (.builtin "str.join") [.str x t, .ref I]) Q E s := by
  refine wpAny_call (codeAny_call_builtin F.slot_str_join.plain F.entry_str_join (F.slot_str_join.check _ _ _ _ _ _ _ _ (typeIs_str _ _ _) (F.args_str_join_2 _ _) ?_))
  rw [join_tree_other]
  refine wpAny_bind (wpAny_typeOf (hT 0 s hst) ?_)
  show wpAny _ A.in1 ((pyIter (.ref I)).tryCatch _ >>= fun it => collect it >>= fun items => joinTail x items) _ _ s
  refine wpAny_bind (wpAny_tryCatch (W.of_in1.self 0 s _ _ hst ?_))
  refine wpAny_bind (collect_map W hT hst hfp hI (fun s' acc hm hacc => ?_) hsz)
  obtain ⟨l, hl⟩ := exists_strValues acc.toList fun v hv => by
    obtain ⟨j, hj, rfl⟩ := Array.mem_iff_getElem.mp (Array.mem_toList_iff.mp hv)
    exact hstr j _ (hacc.2 j _ (Array.getElem?_eq_getElem hj))
  rw [← hl]
  obtain ⟨hok, hpost⟩ := hq s' l hm (by rw [hl]; simpa using hacc)
  unfold JoinOk at hok
  rw [Bool.not_eq_true'] at hok
  have g : Gives (joinTail x (strValues l)) (joinMade x l) := by
    have g0 := gives_joinTail x l hok
    rcases l with _ | ⟨_, _ | _⟩
    · exact g0
    · exact g0
    · exact g0
  exact g prog w A (wants Q E) s' (post_join l ⟨joinFit_length hok, hpost⟩)

theorem tuple_map {Q : Value → Shared → Prop} (W : WalksS prog w A.in1.in1.in1 I fp wr G n P St) (hT : ∀ i s, St i s → s.TypeIs (.ref I) "map") (hst : St 0 s) (hfp : ∀ b ∈ fp, b < s.heap.objs.size) (hI : I ∈ fp)
    (hQ : ∀ s' acc, Moved wr G s s' → ItemsOf P acc n → Q (.ref s'.heap.objs.size) { s' with heap := s'.heap.push { cls := .type "tuple", data := .seq acc } }) (hsz : n ≤ sizeLine) :
    wpAny (model prog w) A (call (.type "tuple") [.ref I]) Q E s := by
  have new : codeAny (model prog w) A.in1 (.call (.builtin "tuple.__new__") ⟨[.type "tuple", .ref I], []⟩) (wants (fun obj s₁ => s₁.TypeIs obj "tuple" ∧ Q obj s₁) E) s := by
    refine codeAny_of_tree ?_
    show wpAny _ A.in1.in1 (do checkBuiltinCall "tuple.__new__" ⟨[.type "tuple", .ref I], []⟩; again (.builtin "tuple.__new__" ⟨[.type "tuple", .ref I], []⟩)) _ _ s
    refine wpAny_bind (wpAny_of_eq (F.newCall_tuple_1 _) (wpAny_pure ⟨plainId_quiet F.plain_tuple_new _, codeAny_builtin F.entry_tuple_new ?_⟩))
    rw [Around.under_plainId F.plain_tuple_new _]
    have hsub := sub_tuple_self
    have hinit := init_tuple_lookup
    have hmh := madeHere_tuple
    have hTI := hT 0 s hst
    wp_walk using wpAny_typeOf hTI, collect_map (hn := hsz) W hT hst hfp hI
    intro s' acc hm hacc
    show wpAny _ _ (Builtin.Tuple.tupleExact acc.toList.toArray >>= fun v => ret v) _ _ _
    unfold Builtin.Tuple.tupleExact
    have e : acc.toList.toArray = acc := by simp
    rw [e]
    exact wpAny_bind (wpAny_newObj_type (wpAny_pure ⟨⟨_, Heap.get?_push_size _ rfl, rfl⟩, hQ s' acc hm hacc⟩) (by show acc.size ≤ sizeLine; rw [hacc.1]; exact hsz))
  refine callType_codes (Q₁ := fun obj s₁ => s₁.TypeIs obj "tuple" ∧ Q obj s₁) F.called_tuple (F.typeCall_tuple_1 _) F.entry_object_init new fun obj s₁ h₁ => ?_
  exact ⟨h₁.1, F.args_object_init_2 obj _, object_init_meets F.called_tuple.init.lookup F.called_tuple.made (by decide) prog w A.in1 _ s₁ ⟨h₁.1, rfl, h₁.2⟩⟩
end
end Mine
end

section -- M2
open PySem PySem.W PyProof.Rows PySem.Builtin PySem.Builtin.Str
set_option Elab.async false
set_option maxRecDepth 100000
set_option linter.unusedVariables false
set_option autoImplicit false
namespace Mine
section
variable {c : Cx} {A : Around} {env : Env} {μ : Sto} {base : Heap} {o : Out}

theorem evalArgs1 {f : Value} {e : Expr} {pos : Pos} {s : Shared} {P E : Value → Shared → Prop} (h : wpAny (model c.prog c.w) A (eval e env) P E s) (hst : ∀ rest, starEach (e :: rest) env = (false, eval e env) :: starEach rest env) :
    wpAny (model c.prog c.w) A (evalArgs f true (backTo pos (starEach [e] env)) []) (fun a s' => ∃ v, a.pos = [v] ∧ a.kw = [] ∧ P v s') E s := by
  rw [hst]
  show wpAny _ A (evalArgs f true ((false, _) :: backTo pos (starEach [] env)) []) _ _ _
  refine Calls.evalArgs_plain (Calls.spliced_cons (wpAny_mono h (fun v s' hP => ?_) fun _ _ x => x))
  show wpAny _ A (spliced []) _ _ _
  exact Calls.spliced_nil ⟨v, rfl, rfl, hP⟩

/-- a map object over texts was made -/
def MapSt (c : Cx) (f : Value) (xs : List Str) (s : Shared) (v : Value) (s' : Shared) : Prop :=
  ∃ s₀ ax vs, Keeps s s₀ ∧ RepAll c.X s₀.heap vs (xs.map .str) ∧ v = .ref (s₀.heap.objs.size + 2) ∧ ax < s₀.heap.objs.size ∧ ∃ h', s' = { s₀ with heap := h' } ∧ MapAt h' (s₀.heap.objs.size + 2) f (s₀.heap.objs.size + 1) s₀.heap.objs.size ax vs 0 ∧ h'.objs.size = s₀.heap.objs.size + 3 ∧ Keep s₀.heap h'
def EvMap (c : Cx) (A : Around) (env : Env) (μ : Sto) (e : Expr) (f : Value) (xs : List Str) : Prop :=
  ∀ (s : Shared) (E : Value → Shared → Prop), c.G s.heap → EnvOk c.X env s.heap μ → wpAny (model c.prog c.w) A (eval e env) (MapSt c f xs s) E s

theorem ev_map {x : Str} {p pos : Pos} {es : List Expr} {f : Value} {xs : List Str} (hx : EvE c A env μ (.Name x p) (.val (.type "map"))) (h : EvL c A env μ es [.val f, dS xs])
    (hp : (backTo pos (starEach es env)).any (·.1) = false := by rfl) : EvMap c A env μ (.Call (.Name x p) es [] pos) f xs := fun s E G F => by
  refine wpAny_Call_Name_kw ((hx s G F).use fun v s₁ k r => ?_)
  cases r
  refine PySem.callWith_type hp (wpAny_mono (evalArgs_L h (G.up (keeps_keep k)) (F.up (keeps_keep k)) hp) (fun a s₂ q => ?_) fun _ _ e => e)
  obtain ⟨hkw, k₂, ra⟩ := q
  obtain ⟨v1, vs1, e1, r1, ra⟩ := ra.inv
  obtain ⟨v2, vs2, rfl, r2, ra⟩ := ra.inv
  obtain rfl := ra.invN
  obtain rfl := r1.invV
  obtain ⟨ax, vs, rfl, _, hl, rv⟩ := r2.invL
  rw [hkw, e1]
  have hax : ax < s₂.heap.objs.size := by obtain ⟨o, ho, _⟩ := hl; exact Heap.lt_size ho
  exact call_map (c := c) hl fun h' m hz hk => ⟨s₂, ax, vs, keeps_trans k k₂, rv, rfl, hax, h', rfl, m, hz, hk⟩

/-- what the map object hands out -/
theorem mapSt_walks {f : Value} {xs : List Str} {fn : Str → Str} {s s' : Shared} {v : Value} (A : Around) (hh : A.handled = none) (G : c.G s.heap) (hf : ∀ x ∈ xs, FC c A.in1 f [.str x] (.str (fn x))) (m : MapSt c f xs s v s') :
    ∃ (I it : Addr) (fp : List Addr) (St : Nat → Shared → Prop), v = .ref I ∧ WalksS c.prog c.w A I fp [it] (fun a b => b = a) xs.length (fun i v => ∃ t, v = .str (((xs.map fn)[i]?).getD "") t) St ∧ (∀ i s, St i s → s.TypeIs (.ref I) "map") ∧ St 0 s' ∧ (∀ b ∈ fp, b < s'.heap.objs.size) ∧ I ∈ fp ∧
      ∀ s'', Moved [it] (fun a b => b = a) s' s'' → Keeps s s'' := by
  obtain ⟨s₀, ax, vs, k, ra, rfl, hax, h', rfl, m, hz, hk⟩ := m
  have hlen : vs.length = xs.length := by rw [ra.length, List.length_map]
  generalize hI : s₀.heap.objs.size = it at *
  have hfn : ∀ i x (s₁ : Shared), vs[i]? = some x → c.G s₁.heap → Keep s₀.heap s₁.heap → Yields c A.in1 (call f [x]) s₁ (.str (((xs.map fn)[i]?).getD "")) := fun i x s₁ hx G₁ k₁ => by
    obtain ⟨d, hd, rd⟩ := ra.getV hx
    rw [List.getElem?_map] at hd
    obtain ⟨y, hy, rfl⟩ := Option.map_eq_some_iff.mp hd
    have := hf y (List.mem_of_getElem? hy) s₁ [x] G₁ (.cons (rd.up (Keep.seq k₁)) .nil)
    rw [List.getElem?_map, hy]
    exact this
  have W := map_walks (c := c) (A := A) (f := f) (I := it + 2) (tp := it + 1) (ax := ax) (vs := vs) (h₀ := s₀.heap) (N := it + 3) (fun i => ((xs.map fn)[i]?).getD "") hh (show (it + 2 : Nat) ≠ it by omega) (show (it + 1 : Nat) ≠ it by omega) (Nat.ne_of_lt hax)
    ⟨show (it + 2 : Nat) < it + 3 by omega, show (it + 1 : Nat) < it + 3 by omega, show (it : Nat) < it + 3 by omega, Nat.lt_trans hax (show (it : Nat) < it + 3 by omega)⟩ (Nat.le_of_eq hI) (show (it : Nat) < it + 3 by omega) (G.up (keeps_keep k)) hfn
  rw [hlen] at W
  refine ⟨it + 2, it, List.range (it + 3), _, rfl, W, fun i s₁ st => ⟨_, st.1.obj, rfl⟩, ⟨m, hk⟩, fun b hb => ?_, List.mem_range.mpr (show (it + 2 : Nat) < it + 3 by omega), fun s'' mv => ?_⟩
  · show b < h'.objs.size
    rw [hz]; exact List.mem_range.mp hb
  · obtain ⟨h₀, t₀, rfl, k⟩ := k
    obtain ⟨mh, mg, md, mo, mt⟩ := mv
    obtain ⟨h2, g2, d2, t2, o2⟩ := s''
    simp only at mg md mo hI hk
    subst mg md mo
    refine ⟨h2, t2, rfl, fun b o e => mh b o ?_ (hk b o (k b o e))⟩
    have := Heap.lt_size (k b o e)
    rw [hI] at this
    simpa using Nat.ne_of_lt this

theorem items_texts {ys : List Str} {l : List (Str × Tok)} (h : ItemsOf (fun i v => ∃ t, v = Value.str ((ys[i]?).getD "") t) (strValues l).toArray ys.length) : l.map (·.1) = ys := by
  obtain ⟨h1, h2⟩ := h
  have hl : l.length = ys.length := by simpa [strValues] using h1
  refine List.ext_getElem (by simpa using hl) fun i hi hi' => ?_
  have hi2 : i < l.length := by simpa using hi
  obtain ⟨t, e⟩ := h2 i (.str l[i].1 l[i].2) (by simp [strValues, hi2])
  injection e with e1 e2
  rw [List.getElem_map, e1, List.getElem?_eq_getElem hi']; rfl

/-- sep.join(map(..)) -/
theorem ev_join_map {o : Expr} {e : Expr} {apos pos : Pos} {x : Str} {f : Value} {xs : List Str} {fn : Str → Str} {n : Nat} (hA : Okay (n + 4) A) (ho : EvE c A env μ o (.str x)) (he : EvMap c A env μ e f xs) (hf : ∀ A', Okay n A' → ∀ x ∈ xs, FC c A' f [.str x] (.str (fn x))) (hok : JoinOk x (xs.map fn) = true) (hsz : xs.length ≤ sizeLine)
    (hst : ∀ rest, starEach (e :: rest) env = (false, eval e env) :: starEach rest env := by intro _; rfl)
    (hbase : attributeBase o "join" env (eval o env) = eval o env := by rfl)
    (hfew : ((backTo pos (starEach [e] env)).all (fun x => !x.1) && (backToKw pos (keywordEach [] env)).all (fun x => x.1.isSome)
      && decide ([e].length + ([] : List Keyword).length + (if ([] : List Keyword).isEmpty then 0 else 1) < 30)) = true := by rfl)
    (hline : (apos.endLine == pos.line) = true := by rfl)
    (hp : (backTo pos (starEach [e] env)).any (·.1) = false := by rfl) :
    EvE c A env μ (.Call (.Attribute o "join" apos) [e] [] pos) (.str (Txt.join x (xs.map fn))) := fun s G F E => by
  refine wpAny_Call_method hbase hfew hline PySem.F.plainAttrs_str PySem.F.slot_str_join PySem.F.type_str_join ((ho s G F).use fun v s₁ k r => ?_)
  obtain ⟨t, rfl⟩ := r.invS
  refine ⟨typeIs_str _ _ _, (fun _ e => nomatch e), ?_⟩
  have G₁ := Gd.up G (keeps_keep k)
  refine Calls.callWith_builtin hp (wpAny_mono (evalArgs1 (c := c) (he s₁ _ G₁ (F.up (keeps_keep k))) hst) (fun a s₂ q => ?_) fun _ _ x => x)
  obtain ⟨v, ea, ek, m⟩ := q
  rw [ea, ek]
  have hA2 : Okay (n + 1) A.in1.in1.in1 := (((hA : Okay (n + 3 + 1) A).in1 : Okay (n + 2 + 1) A.in1).in1 : Okay (n + 1 + 1) A.in1.in1).in1
  obtain ⟨I, it, fp, St, rfl, W, hT, h0, hfp, hI, hk⟩ := mapSt_walks (c := c) (fn := fn) A.in1.in1 hA.handled G₁ (hf _ (hA2.le (by omega))) m
  refine join_map W hT h0 hfp hI (fun i v hv => by obtain ⟨t, rfl⟩ := hv; exact ⟨_, _, rfl⟩) (fun s₃ l hm hi => ?_) hsz
  have el := items_texts (ys := xs.map fn) (by rw [List.length_map]; exact hi)
  rw [el]
  refine ⟨hok, fun t' kk => ⟨keeps_trans k (keeps_trans (hk _ hm) (keeps_toks _ _)), .str _ _⟩⟩

/-- tuple(map(..)) -/
theorem ev_tuple_map {y : Str} {p : Pos} {e : Expr} {pos : Pos} {f : Value} {xs : List Str} {fn : Str → Str} {n : Nat} (hA : Okay (n + 4) A) (ho : EvE c A env μ (.Name y p) (.val (.type "tuple"))) (he : EvMap c A env μ e f xs) (hf : ∀ A', Okay n A' → ∀ x ∈ xs, FC c A' f [.str x] (.str (fn x))) (hsz : xs.length ≤ sizeLine)
    (hst : ∀ rest, starEach (e :: rest) env = (false, eval e env) :: starEach rest env := by intro _; rfl)
    (hp : (backTo pos (starEach [e] env)).any (·.1) = false := by rfl) :
    EvE c A env μ (.Call (.Name y p) [e] [] pos) (.tuple ((xs.map fn).map .str)) := fun s G F E => by
  refine wpAny_Call_Name_kw ((ho s G F).use fun v s₁ k r => ?_)
  cases r
  have G₁ := Gd.up G (keeps_keep k)
  refine PySem.callWith_type hp (wpAny_mono (evalArgs1 (c := c) (he s₁ _ G₁ (F.up (keeps_keep k))) hst) (fun a s₂ q => ?_) fun _ _ x => x)
  obtain ⟨v, ea, ek, m⟩ := q
  rw [ea, ek]
  have hA2 : Okay n A.in1.in1.in1.in1 := ((((hA : Okay (n + 3 + 1) A).in1 : Okay (n + 2 + 1) A.in1).in1 : Okay (n + 1 + 1) A.in1.in1).in1 : Okay (n + 1) A.in1.in1.in1).in1
  obtain ⟨I, it, fp, St, rfl, W, hT, h0, hfp, hI, hk⟩ := mapSt_walks (c := c) (fn := fn) A.in1.in1.in1 hA.handled G₁ (hf _ hA2) m
  refine tuple_map W hT h0 hfp hI (fun s₃ acc hm hi => ?_) hsz
  obtain ⟨l, hl⟩ := exists_strValues acc.toList fun v hv => by
    obtain ⟨j, hj, rfl⟩ := Array.mem_iff_getElem.mp (Array.mem_toList_iff.mp hv)
    obtain ⟨t, e⟩ := hi.2 j _ (Array.getElem?_eq_getElem hj)
    exact ⟨_, _, e⟩
  have hacc : acc = (strValues l).toArray := by rw [hl]
  subst hacc
  have el := items_texts (ys := xs.map fn) (by rw [List.length_map]; exact hi)
  have kk := keeps_trans k (hk _ hm)
  obtain ⟨h₃, t₃, rfl, k₃⟩ := kk
  refine ⟨⟨_, _, rfl, fun b o e => Heap.get?_push_of_some _ (k₃ b o e)⟩, ?_⟩
  rw [← el, List.map_map]
  exact .tuple ⟨_, Heap.get?_push_size _ rfl, rfl, 0, rfl⟩ (repAll_strs l)
end
end Mine
end

section -- C1
open PySem PySem.W PyProof.Rows PySem.Builtin PySem.Builtin.Str
set_option Elab.async false
set_option maxRecDepth 100000
set_option linter.unusedVariables false
set_option autoImplicit false
namespace Mine
section
variable {c : Cx} {A : Around} {env : Env} {μ : Sto} {base : Heap} {o : Out}
theorem str_stub : Manifest.isStub "str" = false := by decide +kernel
theorem find_capitalize (K : Frag) : findCls K (.type "str") (.type "type") "capitalize" = some (.val (.builtin "str.capitalize")) := by
  show findCls [] (.type "str") (.type "type") "capitalize" = some (.val (.builtin "str.capitalize"))
  kernel_rfl
theorem ev_capitalize {p pos : Pos} {S : Scope} (hs : env.scope = S) (e : S.names.lookup (Str.ofString "str") = some .globalImplicit) : EvE c A env μ (.Attribute (.Name "str" p) "capitalize" pos) (.val (.builtin "str.capitalize")) := fun s G F E => by
  refine Attribute_name ((bv (c := c) hs e (nb_str _) bb_str (by decide) (by decide) s G F).use fun v s₁ k r => ?_)
  cases r
  have X := (Gd.up G (keeps_keep k)).k
  have hstub : opaqueClassAbove (.type "str") = pure none := by unfold opaqueClassAbove; dsimp only; rw [str_stub]; rfl
  have L0 : Looks (model c.prog c.w) s₁.heap (typeOf (.type "str")) (.type "type") := Looks.of_pure typeOf_type_str
  have LO : Looks (model c.prog c.w) s₁.heap (opaqueClassAbove (.type "str")) none := Looks.of_pure hstub
  have hg : findIn (hd.heap_1 c.w.params) (.type "type") "__getattribute__" = some (some (.builtin "type.__getattribute__")) := type_tga
  refine cls_open X LO L0 hg (looks_hook X (r := none) (by rfl)) (by show subIn _ _ _ = _; rfl) (find_capitalize _) (wpAny_pure ?_)
  show wpAny _ _ (handedOut (.builtin "str.capitalize")) _ _ _
  rw [handedOut_of (by decide +kernel)]
  exact wpAny_pure ⟨keeps_trans k (keeps_toks _ _), .val _⟩
theorem fc_capwords {x : Str} (hA : Okay 6 A) (hx : x.length < sizeLine) (hfit : ∀ w ∈ Txt.split x "/", tooLong (Txt.capitalized w).length = false) (hok : JoinOk "/" ((Txt.split x "/").map Txt.capitalize) = true) :
    FC c A (.ref 29) [.str x, .str "/"] (.str (Txt.join "/" ((Txt.split x "/").map Txt.capitalize))) := by
  refine fc_open (n := 5) (xs := ["s", "sep"]) hA rfl rfl rfl (by kernel_rfl) (es := [.str x, .str "/"]) ?_ rfl (by decide +kernel) (by decide +kernel) ?_
  · intro s vs E G r
    obtain ⟨v1, vs1, rfl, r1, ra⟩ := r.inv
    obtain ⟨v2, vs2, rfl, r2, ra⟩ := ra.inv
    obtain rfl := ra.invN
    exact BindsTo.of_defaults (binds := [("s", v1), ("sep", v2)]) rfl (G.k 22 _ rfl) rfl rfl rfl _ _ _ _ ⟨keeps_refl s, [v1, v2], rfl, r⟩
  · intro base env A' hA' hs hc hf
    have hl1 : (Str.ofString "/").length = 1 := by decide +kernel
    have hsp := fc_split' (c := c) (A := A') hx
    have tr : TrC c A' (.str "/") true := by
      have := tr_str (c := c) (A := A') (x := "/") (by rw [hl1]; decide)
      rwa [show (((Str.ofString "/").length : Int) != 0) = true from by rw [hl1]; rfl] at this
    have hxl := parts_len x
    refine exs_ret (ex1_ret (ev_join_map (n := 1) hA' (ev_or_t (lv hs rfl rfl) tr) (ev_map (bv hs rfl (nb_map _) bb_map) (evl2 (ev_capitalize hs rfl) (ev_smeth (lv hs rfl rfl) F.slot_str_split F.type_str_split (evl1 (lv hs rfl rfl)) hsp))) (fun A'' _ w hw => fc_capitalize (hfit w hw)) hok ?_))
    have := split_len x
    show (Txt.split x sl).length ≤ sizeLine
    omega
end
end Mine
end

section -- S1
open PySem PySem.W PyProof.Rows PySem.Builtin PySem.Builtin.Str
set_option Elab.async false
set_option maxRecDepth 100000
set_option linter.unusedVariables false
set_option autoImplicit false
namespace Mine
open AutoSeq1 (wpAny_loadPart')
def sLt (x y : Str) : Bool := decide (x.cps.toList < y.cps.toList)
/-- lists of texts by their order -/
def lexLt : List Str → List Str → Bool
  | [], [] => false
  | [], _ :: _ => true
  | _ :: _, [] => false
  | x :: xs, y :: ys => if x = y then lexLt xs ys else sLt x y
abbrev lobj (dd : Option Addr) (sl : Array (Option Value)) (items : Array Value) (n : Nat) : Obj := { cls := .type "list", dict := dd, data := .seq items n, slots := sl }

theorem lt_loop (a b : Addr) (l m : List (Str × Tok)) (dd dd2 : Option Addr) (sl sl2 : Array (Option Value)) (n n2 : Nat) (k : Nat) :
    ∀ i : Nat, l.length - i = k → i ≤ l.length → i ≤ m.length → Meets (Builtin.«list.__eq__.loop» ⟨[.ref a, .ref b, rawInt i, rawInt 0], []⟩)
      (fun _ R s => s.heap.get? a = some (lobj dd sl (strValues l).toArray n) ∧ s.heap.get? b = some (lobj dd2 sl2 (strValues m).toArray n2) ∧
        R (.ok (.ret (.bool (lexLt ((l.drop i).map (·.1)) ((m.drop i).map (·.1)))))) s) := by
  have hsz : ∀ l : List (Str × Tok), (strValues l).length = l.length := fun l => by simp [strValues]
  have hget : ∀ (l : List (Str × Tok)) (i : Nat) (h : i < l.length), (strValues l).toArray[((i : Nat) : Int).toNat]? = some (.str (l[i]'h).1 (l[i]'h).2) := fun l i h => by simp [strValues, h]
  have hnone : ∀ (l : List (Str × Tok)) (i : Nat), l.length ≤ i → (strValues l).toArray[((i : Nat) : Int).toNat]? = none := fun l i h => by simp [strValues, h]
  have hdrop : ∀ (l : List (Str × Tok)) (i : Nat) (h : i < l.length), (l.drop i).map (·.1) = l[i].1 :: (l.drop (i + 1)).map (·.1) := fun l i h => by rw [List.drop_eq_getElem_cons h, List.map_cons]
  have hdrop0 : ∀ (l : List (Str × Tok)) (i : Nat), l.length ≤ i → (l.drop i).map (·.1) = [] := fun l i h => by rw [List.drop_eq_nil_of_le h]; rfl
  induction k with
  | zero =>
    intro i hk hi hi2 prog w A R s h
    obtain ⟨hp, g, d, tk, os⟩ := s; obtain ⟨ha, hb, h⟩ := h
    have e1 := hnone l i (by omega)
    rw [hdrop0 l i (by omega)] at h
    wp_walk using wpAny_loadPart' ha, wpAny_loadPart' hb
    rw [e1]
    wp_walk using wpAny_loadPart' ha, wpAny_loadPart' hb
    show R (.ok (.ret (.bool (decide ((strValues l).toArray.size < (strValues m).toArray.size))))) _
    have : decide ((strValues l).toArray.size < (strValues m).toArray.size) = lexLt [] ((m.drop i).map (·.1)) := by
      simp only [List.size_toArray, hsz]
      by_cases hm : i < m.length
      · rw [hdrop m i hm]; simp [lexLt]; omega
      · rw [hdrop0 m i (by omega)]; simp [lexLt]; omega
    rw [this]
    exact h
  | succ k ih =>
    intro i hk hi hi2 prog w A R s h
    obtain ⟨hp, g, d, tk, os⟩ := s; obtain ⟨ha, hb, h⟩ := h
    have hlt : i < l.length := by omega
    have e1 := hget l i hlt
    rw [hdrop l i hlt] at h
    wp_walk using wpAny_loadPart' ha, wpAny_loadPart' hb
    by_cases hm : i < m.length
    · have e2 := hget m i hm
      rw [hdrop m i hm] at h
      have hc : ((i : Int) + 1) = ((i + 1 : Nat) : Int) := by push_cast; rfl
      rw [e1, e2]
      refine wpAny_bind (eqGives_str _ _ _ _ prog w _ _ _ _ ?_)
      by_cases hxy : l[i].1 = m[i].1
      · rw [show (l[i].1 == m[i].1) = true from by simpa using hxy]
        have hl : lexLt (l[i].1 :: (l.drop (i + 1)).map (·.1)) (m[i].1 :: (m.drop (i + 1)).map (·.1)) = lexLt ((l.drop (i + 1)).map (·.1)) ((m.drop (i + 1)).map (·.1)) := by
          rw [lexLt, if_pos hxy]
        rw [hl] at h
        wp_walk
        rw [hc]
        exact ⟨plainId_quiet MeetsSeq3.plain_eq_loop _, codeAny_builtin MeetsSeq3.entry_eq_loop (by
          rw [Around.under_plainId MeetsSeq3.plain_eq_loop _]
          exact ih (i + 1) (by omega) (by omega) (by omega) prog w A R _ ⟨ha, hb, h⟩)⟩
      · rw [show (l[i].1 == m[i].1) = false from by simpa using hxy]
        have hl : lexLt (l[i].1 :: (l.drop (i + 1)).map (·.1)) (m[i].1 :: (m.drop (i + 1)).map (·.1)) = sLt l[i].1 m[i].1 := by
          rw [lexLt, if_neg hxy]
        rw [hl] at h
        wp_walk using wpAny_loadPart' ha, wpAny_loadPart' hb
        rw [e1, e2]
        refine wpAny_bind (P.lt_str (Q := fun v s' => _) ?_)
        exact wpAny_pure h
    · have e2 := hnone m i (by omega)
      rw [hdrop0 m i (by omega)] at h
      rw [e1, e2]
      wp_walk using wpAny_loadPart' ha, wpAny_loadPart' hb
      show R (.ok (.ret (.bool (decide ((strValues l).toArray.size < (strValues m).toArray.size))))) _
      have : decide ((strValues l).toArray.size < (strValues m).toArray.size) = lexLt (l[i].1 :: (l.drop (i + 1)).map (·.1)) [] := by
        simp only [List.size_toArray, hsz, lexLt]
        simp; omega
      rw [this]
      exact h
theorem gt_loop (a b : Addr) (l m : List (Str × Tok)) (dd dd2 : Option Addr) (sl sl2 : Array (Option Value)) (n n2 : Nat) (k : Nat) :
    ∀ i : Nat, l.length - i = k → i ≤ l.length → i ≤ m.length → Meets (Builtin.«list.__eq__.loop» ⟨[.ref a, .ref b, rawInt i, rawInt 4], []⟩)
      (fun _ R s => s.heap.get? a = some (lobj dd sl (strValues l).toArray n) ∧ s.heap.get? b = some (lobj dd2 sl2 (strValues m).toArray n2) ∧
        R (.ok (.ret (.bool (lexLt ((m.drop i).map (·.1)) ((l.drop i).map (·.1)))))) s) := by
  have hsz : ∀ l : List (Str × Tok), (strValues l).length = l.length := fun l => by simp [strValues]
  have hget : ∀ (l : List (Str × Tok)) (i : Nat) (h : i < l.length), (strValues l).toArray[((i : Nat) : Int).toNat]? = some (.str (l[i]'h).1 (l[i]'h).2) := fun l i h => by simp [strValues, h]
  have hnone : ∀ (l : List (Str × Tok)) (i : Nat), l.length ≤ i → (strValues l).toArray[((i : Nat) : Int).toNat]? = none := fun l i h => by simp [strValues, h]
  have hdrop : ∀ (l : List (Str × Tok)) (i : Nat) (h : i < l.length), (l.drop i).map (·.1) = l[i].1 :: (l.drop (i + 1)).map (·.1) := fun l i h => by rw [List.drop_eq_getElem_cons h, List.map_cons]
  have hdrop0 : ∀ (l : List (Str × Tok)) (i : Nat), l.length ≤ i → (l.drop i).map (·.1) = [] := fun l i h => by rw [List.drop_eq_nil_of_le h]; rfl
  induction k with
  | zero =>
    intro i hk hi hi2 prog w A R s h
    obtain ⟨hp, g, d, tk, os⟩ := s; obtain ⟨ha, hb, h⟩ := h
    have e1 := hnone l i (by omega)
    rw [hdrop0 l i (by omega)] at h
    wp_walk using wpAny_loadPart' ha, wpAny_loadPart' hb
    rw [e1]
    wp_walk using wpAny_loadPart' ha, wpAny_loadPart' hb
    show R (.ok (.ret (.bool (decide ((strValues l).toArray.size > (strValues m).toArray.size))))) _
    have : decide ((strValues l).toArray.size > (strValues m).toArray.size) = lexLt ((m.drop i).map (·.1)) [] := by
      simp only [List.size_toArray, hsz]
      by_cases hm : i < m.length
      · rw [hdrop m i hm]; simp [lexLt]; omega
      · rw [hdrop0 m i (by omega)]; simp [lexLt]; omega
    rw [this]
    exact h
  | succ k ih =>
    intro i hk hi hi2 prog w A R s h
    obtain ⟨hp, g, d, tk, os⟩ := s; obtain ⟨ha, hb, h⟩ := h
    have hlt : i < l.length := by omega
    have e1 := hget l i hlt
    rw [hdrop l i hlt] at h
    wp_walk using wpAny_loadPart' ha, wpAny_loadPart' hb
    by_cases hm : i < m.length
    · have e2 := hget m i hm
      rw [hdrop m i hm] at h
      have hc : ((i : Int) + 1) = ((i + 1 : Nat) : Int) := by push_cast; rfl
      rw [e1, e2]
      refine wpAny_bind (eqGives_str _ _ _ _ prog w _ _ _ _ ?_)
      by_cases hxy : l[i].1 = m[i].1
      · rw [show (l[i].1 == m[i].1) = true from by simpa using hxy]
        have hl : lexLt (m[i].1 :: (m.drop (i + 1)).map (·.1)) (l[i].1 :: (l.drop (i + 1)).map (·.1)) = lexLt ((m.drop (i + 1)).map (·.1)) ((l.drop (i + 1)).map (·.1)) := by
          rw [lexLt, if_pos hxy.symm]
        rw [hl] at h
        wp_walk
        rw [hc]
        exact ⟨plainId_quiet MeetsSeq3.plain_eq_loop _, codeAny_builtin MeetsSeq3.entry_eq_loop (by
          rw [Around.under_plainId MeetsSeq3.plain_eq_loop _]
          exact ih (i + 1) (by omega) (by omega) (by omega) prog w A R _ ⟨ha, hb, h⟩)⟩
      · rw [show (l[i].1 == m[i].1) = false from by simpa using hxy]
        have hl : lexLt (m[i].1 :: (m.drop (i + 1)).map (·.1)) (l[i].1 :: (l.drop (i + 1)).map (·.1)) = sLt m[i].1 l[i].1 := by
          rw [lexLt, if_neg (Ne.symm hxy)]
        rw [hl] at h
        wp_walk using wpAny_loadPart' ha, wpAny_loadPart' hb
        rw [e1, e2]
        refine wpAny_bind (P.gt_str (Q := fun v s' => _) ?_)
        exact wpAny_pure h
    · have e2 := hnone m i (by omega)
      rw [hdrop0 m i (by omega)] at h
      rw [e1, e2]
      wp_walk using wpAny_loadPart' ha, wpAny_loadPart' hb
      show R (.ok (.ret (.bool (decide ((strValues l).toArray.size > (strValues m).toArray.size))))) _
      have : decide ((strValues l).toArray.size > (strValues m).toArray.size) = lexLt [] (l[i].1 :: (l.drop (i + 1)).map (·.1)) := by
        simp only [List.size_toArray, hsz, lexLt]
        simp; omega
      rw [this]
      exact h

theorem list_lt_meets (a b : Addr) (l m : List (Str × Tok)) (dd dd2 : Option Addr) (sl sl2 : Array (Option Value)) (n n2 : Nat) : Meets (Builtin.«list.__lt__» ⟨[.ref a, .ref b], []⟩)
      (fun _ R s => s.heap.get? a = some (lobj dd sl (strValues l).toArray n) ∧ s.heap.get? b = some (lobj dd2 sl2 (strValues m).toArray n2) ∧ R (.ok (.ret (.bool (lexLt (l.map (·.1)) (m.map (·.1)))))) s) := by
  intro prog w A R s h
  obtain ⟨hp, g, d, tk, os⟩ := s; obtain ⟨ha, hb, h⟩ := h
  have f3 := AutoSeq1.sub_list_list
  wp_walk using wpAny_loadPart' ha, wpAny_loadPart' hb
  exact ⟨plainId_quiet MeetsSeq3.plain_eq_loop _, codeAny_builtin MeetsSeq3.entry_eq_loop (by
    rw [Around.under_plainId MeetsSeq3.plain_eq_loop _]
    exact lt_loop a b l m dd dd2 sl sl2 n n2 _ 0 rfl (Nat.zero_le _) (Nat.zero_le _) prog w A R _ ⟨ha, hb, by simpa using h⟩)⟩
theorem list_gt_meets (a b : Addr) (l m : List (Str × Tok)) (dd dd2 : Option Addr) (sl sl2 : Array (Option Value)) (n n2 : Nat) : Meets (Builtin.«list.__gt__» ⟨[.ref a, .ref b], []⟩)
      (fun _ R s => s.heap.get? a = some (lobj dd sl (strValues l).toArray n) ∧ s.heap.get? b = some (lobj dd2 sl2 (strValues m).toArray n2) ∧ R (.ok (.ret (.bool (lexLt (m.map (·.1)) (l.map (·.1)))))) s) := by
  intro prog w A R s h
  obtain ⟨hp, g, d, tk, os⟩ := s; obtain ⟨ha, hb, h⟩ := h
  have f3 := AutoSeq1.sub_list_list
  wp_walk using wpAny_loadPart' ha, wpAny_loadPart' hb
  exact ⟨plainId_quiet MeetsSeq3.plain_eq_loop _, codeAny_builtin MeetsSeq3.entry_eq_loop (by
    rw [Around.under_plainId MeetsSeq3.plain_eq_loop _]
    exact gt_loop a b l m dd dd2 sl sl2 n n2 _ 0 rfl (Nat.zero_le _) (Nat.zero_le _) prog w A R _ ⟨ha, hb, by simpa using h⟩)⟩

section
variable {c : Cx} {A : Around}
theorem call_list_lt {s : Shared} {va vb : Value} {xs ys : List Str} {Q E : Value → Shared → Prop} (ra : Rep c.X s.heap va (.list (xs.map .str))) (rb : Rep c.X s.heap vb (.list (ys.map .str))) (h : Q (.bool (lexLt xs ys)) s) :
    wpAny (model c.prog c.w) A (call (.builtin "list.__lt__") [va, vb]) Q E s ∧ s.TypeIs va "list" ∧ s.TypeIs vb "list" := by
  obtain ⟨a, vs, rfl, _, hl, r1⟩ := ra.invL
  obtain ⟨b, ws, rfl, _, hb, r2⟩ := rb.invL
  obtain ⟨l, rfl, rfl⟩ := strs_of_repAll r1
  obtain ⟨m, rfl, rfl⟩ := strs_of_repAll r2
  have ta := hl.typeIs (s := s)
  have tb := hb.typeIs (s := s)
  obtain ⟨⟨cls, dd, data, sl⟩, ho, hc, n, hd⟩ := id hl
  obtain ⟨⟨cls2, dd2, data2, sl2⟩, ho2, hc2, n2, hd2⟩ := id hb
  simp only at hc hd hc2 hd2
  subst hc hd hc2 hd2
  exact ⟨call_meets PySem.F.slot_list_lt ta PySem.F.entry_list_lt (PySem.F.args_list_lt_2 _ _) (list_lt_meets a b l m dd dd2 sl sl2 n n2) ⟨ho, ho2, h⟩, ta, tb⟩
theorem call_list_gt {s : Shared} {va vb : Value} {xs ys : List Str} {Q E : Value → Shared → Prop} (ra : Rep c.X s.heap va (.list (xs.map .str))) (rb : Rep c.X s.heap vb (.list (ys.map .str))) (h : Q (.bool (lexLt ys xs)) s) :
    wpAny (model c.prog c.w) A (call (.builtin "list.__gt__") [va, vb]) Q E s ∧ s.TypeIs va "list" ∧ s.TypeIs vb "list" := by
  obtain ⟨a, vs, rfl, _, hl, r1⟩ := ra.invL
  obtain ⟨b, ws, rfl, _, hb, r2⟩ := rb.invL
  obtain ⟨l, rfl, rfl⟩ := strs_of_repAll r1
  obtain ⟨m, rfl, rfl⟩ := strs_of_repAll r2
  have ta := hl.typeIs (s := s)
  have tb := hb.typeIs (s := s)
  obtain ⟨⟨cls, dd, data, sl⟩, ho, hc, n, hd⟩ := id hl
  obtain ⟨⟨cls2, dd2, data2, sl2⟩, ho2, hc2, n2, hd2⟩ := id hb
  simp only at hc hd hc2 hd2
  subst hc hd hc2 hd2
  exact ⟨call_meets PySem.F.slot_list_gt ta PySem.F.entry_list_gt (PySem.F.args_list_gt_2 _ _) (list_gt_meets a b l m dd dd2 sl sl2 n n2) ⟨ho, ho2, h⟩, ta, tb⟩
theorem cmp_lt_S {xs ys : List Str} (hu : A.units < cLine) : CmpC c A .Lt (.list (xs.map .str)) (.list (ys.map .str)) (lexLt xs ys) := fun s va vb _ ra rb E => by
  obtain ⟨h, ta, tb⟩ := call_list_lt (A := A) (E := E) (Q := fun v s' => v ≠ .notImplemented ∧ Keeps s s' ∧ Rep c.X s'.heap v (.bool (lexLt xs ys))) ra rb ⟨(fun e => nomatch e), keeps_refl s, .bool _⟩
  exact wpAny_richCompare_same_room (op := .Lt) ta tb PySem.F.slot_list_lt h hu
theorem cmp_gt_S {xs ys : List Str} (hu : A.units < cLine) : CmpC c A .Gt (.list (xs.map .str)) (.list (ys.map .str)) (lexLt ys xs) := fun s va vb _ ra rb E => by
  obtain ⟨h, ta, tb⟩ := call_list_gt (A := A) (E := E) (Q := fun v s' => v ≠ .notImplemented ∧ Keeps s s' ∧ Rep c.X s'.heap v (.bool (lexLt ys xs))) ra rb ⟨(fun e => nomatch e), keeps_refl s, .bool _⟩
  exact wpAny_richCompare_same_room (op := .Gt) ta tb PySem.F.slot_list_gt h hu
end
end Mine
end

section -- S2
open PySem PySem.W PyProof.Rows PySem.Builtin PySem.Builtin.Str
set_option Elab.async false
set_option maxRecDepth 100000
set_option linter.unusedVariables false
set_option autoImplicit false
namespace Mine
theorem SeqSt.mono {I ax : Addr} {vs : List Value} {i : Nat} {h h' : Heap} (x : SeqSt I ax vs i h) (k : ∀ b o, b = I ∨ b = ax → h.get? b = some o → h'.get? b = some o) : SeqSt I ax vs i h' := by
  cases x with
  | list a b =>
    obtain ⟨o, ho, q⟩ := a
    obtain ⟨o', ho', q'⟩ := b
    exact .list ⟨o, k _ _ (.inl rfl) ho, q⟩ ⟨o', k _ _ (.inr rfl) ho', q'⟩
  | tuple a b =>
    obtain ⟨o, ho, q⟩ := a
    obtain ⟨o', ho', q'⟩ := b
    exact .tuple ⟨o, k _ _ (.inl rfl) ho, q⟩ ⟨o', k _ _ (.inr rfl) ho', q'⟩
section
variable {c : Cx} {A : Around} {env : Env} {μ : Sto} {base : Heap} {o : Out}

theorem fc_min2 {dx dy : D} {b : Bool} (hh : A.handled = none) (hcmp : CmpC c A.in1 .Lt dy dx b) : FC c A (.builtin "min") [.list [dx, dy]] (if b = true then dy else dx) := fun s vs G r E => by
  obtain ⟨v, vs, rfl, rl, r⟩ := r.inv
  obtain rfl := r.invN
  have hname : (toString "min" ++ toString ".loop" : String) = "min.loop" := by decide
  refine call_function_tree PySem.F.kind_min PySem.F.plain_min PySem.F.entry_min (PySem.F.args_min1 _) ?_
  show wpAny _ A.in1 (Builtin.Builtins.bindParams "min" ["key", "default"] 0 ⟨[], []⟩ >>= _) _ _ s
  refine wpAny_bind (wpAny_of_eq (show Builtin.Builtins.bindParams "min" ["key", "default"] 0 ⟨[], []⟩ = pure [none, none] from rfl) ?_)
  refine wpAny_bind (wpAny_pure (wpAny_bind (seq_iter (c := c) (.inl rl) fun ax ws ob _ ra hne st₀ => ?_)))
  obtain ⟨w1, ws, rfl, r1, ra⟩ := ra.inv
  obtain ⟨w2, ws, rfl, r2, ra⟩ := ra.inv
  obtain rfl := ra.invN
  refine wpAny_bind (wpAny_newObj_type ?_)
  rw [hname]
  have hz : (s.heap.push ob).objs.size = s.heap.objs.size + 1 := Heap.size_push ..
  have hax : ax < s.heap.objs.size := by
    rcases st₀ with ⟨_, h⟩ | ⟨_, h⟩
    · obtain ⟨o, ho, _⟩ := h
      have := Heap.lt_size ho
      rw [hz] at this
      exact Nat.lt_of_le_of_ne (Nat.le_of_lt_succ this) hne
    · obtain ⟨o, ho, _⟩ := h
      have := Heap.lt_size ho
      rw [hz] at this
      exact Nat.lt_of_le_of_ne (Nat.le_of_lt_succ this) hne
  have hlow : ∀ {b : Addr} {o : Obj}, s.heap.get? b = some o → b ≠ s.heap.objs.size ∧ b ≠ s.heap.objs.size + 1 := fun e => by
    have := Heap.lt_size e
    exact ⟨Nat.ne_of_lt this, Nat.ne_of_lt (Nat.lt_succ_of_lt this)⟩
  have hSI : (s.heap.objs.size + 1 : Nat) ≠ s.heap.objs.size := by omega
  have hSa : (s.heap.objs.size + 1 : Nat) ≠ ax := Nat.ne_of_gt (Nat.lt_succ_of_lt hax)
  show wpAny _ A.in1 (again (.builtin "min.loop" ⟨[.ref s.heap.objs.size, .none, .ref (s.heap.push ob).objs.size], []⟩)) _ _ _
  rw [hz]
  have hS : ((s.heap.push ob).push { cls := .type "list", data := .seq ([] : List Value).toArray }).get? (s.heap.objs.size + 1) = some { cls := .type "list", data := .seq ([] : List Value).toArray } := by
    rw [← hz]; exact Heap.get?_push_size _ rfl
  have k1 : Keep s.heap ((s.heap.push ob).push { cls := .type "list", data := .seq ([] : List Value).toArray }) := fun b o e => Heap.get?_push_of_some _ (Heap.get?_push_of_some _ e)
  have st₁ := st₀.mono (h' := (s.heap.push ob).push { cls := .type "list", data := .seq ([] : List Value).toArray }) fun b o _ e => Heap.get?_push_of_some _ e
  generalize (s.heap.push ob).push { cls := .type "list", data := .seq ([] : List Value).toArray } = h₁ at hS k1 st₁
  generalize hI : s.heap.objs.size = I at *
  generalize hSe : I + 1 = S at *
  refine wpAny_pure ⟨plainId_quiet PySem.F.plain_min_loop _, codeAny_builtin PySem.F.entry_min_loop ?_⟩
  rw [Around.under_plainId PySem.F.plain_min_loop _]
  -- the first
  show wpAny _ A.in1 (seqItems? (.ref S) >>= _) _ _ _
  refine wpAny_bind (wpAny_seqItems hS rfl ?_)
  show wpAny _ A.in1 (tryCatch (pyNext (.ref I)) _ >>= _) _ _ _
  refine wpAny_bind (wpAny_tryCatch (seq_item (c := c) (A := A.in1) hne hh st₁ rfl fun h₂ t₂ st₂ kb₂ => ?_))
  have hS₂ := kb₂ S _ hSI hS
  show wpAny _ A.in1 (updateSeq S (fun _ => #[w1, w1]) >>= _) _ _ _
  refine wpAny_bind (wpAny_updateSeq hS₂ rfl ?_)
  have hS₃ := Heap.get?_update_self (Obj.mapSeq fun _ => #[w1, w1]) hS₂ rfl
  have o₃ : ∀ b, b ≠ S → (h₂.update S (Obj.mapSeq fun _ => #[w1, w1])).get? b = h₂.get? b := fun b hb => Heap.get?_update_other _ _ (Ne.symm hb)
  have k₃ : Keep s.heap (h₂.update S (Obj.mapSeq fun _ => #[w1, w1])) := fun b o e => by
    rw [o₃ b (hlow e).2]; exact kb₂ b o (hlow e).1 (k1 b o e)
  have st₃ := st₂.mono (h' := h₂.update S (Obj.mapSeq fun _ => #[w1, w1])) fun b o hb e => by
    rw [o₃ b (by rcases hb with rfl | rfl; exact Ne.symm hSI; exact Ne.symm hSa)]; exact e
  rw [hname]
  show wpAny _ A.in1 (again _) _ _ { s with heap := h₂.update S (Obj.mapSeq fun _ => #[w1, w1]), toks := t₂ }
  generalize h₂.update S (Obj.mapSeq fun _ => #[w1, w1]) = h₃ at hS₃ k₃ st₃
  refine wpAny_pure ⟨plainId_quiet PySem.F.plain_min_loop _, codeAny_builtin PySem.F.entry_min_loop ?_⟩
  rw [Around.under_plainId PySem.F.plain_min_loop _]
  -- the second
  show wpAny _ A.in1 (seqItems? (.ref S) >>= _) _ _ _
  refine wpAny_bind (wpAny_seqItems hS₃ rfl ?_)
  show wpAny _ A.in1 (tryCatch (pyNext (.ref I)) _ >>= _) _ _ _
  refine wpAny_bind (wpAny_tryCatch (seq_item (c := c) (A := A.in1) hne hh st₃ rfl fun h₄ t₄ st₄ kb₄ => ?_))
  have hS₄ := kb₄ S _ hSI hS₃
  have k₄ : Keep s.heap h₄ := fun b o e => kb₄ b o (hlow e).1 (k₃ b o e)
  show wpAny _ A.in1 (tryCatch (holding [w2, w2] (richCompare .Lt w2 w1 >>= _)) _ >>= _) _ _ _
  refine wpAny_bind (wpAny_tryCatch (wpAny_holding (wpAny_bind ?_)))
  refine Yields.use (hcmp { s with heap := h₄, toks := t₄ } w2 w1 (Gd.up G k₄) (r2.up k₄.seq) (r1.up k₄.seq)) fun u s₅ k₅ r₅ => ?_
  obtain ⟨h₅, t₅, rfl, k₅⟩ := k₅
  obtain rfl := r₅.invB
  have hS₅ := k₅ _ _ hS₄
  have k₆ : Keep s.heap h₅ := fun b o e => k₅ b o (k₄ b o e)
  have st₅ := st₄.mono (h' := h₅) fun b o _ e => k₅ b o e
  refine wpAny_bind (wpAny_holding (wpAny_truthy_bool ?_))
  refine wpAny_bind (wpAny_letGo (wpAny_pure ?_))
  -- the end
  have fin : ∀ (h : Heap) (t : Nat) (w0 : Value) (n : Nat), Keep s.heap h → SeqSt I ax [w1, w2] 2 h → h.get? S = some { cls := .type "list", data := .seq #[w0, w0] n } → Rep c.X s.heap w0 (if b = true then dy else dx) →
      codeAny (model c.prog c.w) A (.builtin "min.loop" ⟨[.ref I, .none, .ref S], []⟩) (wants (fun v s' => Keeps s s' ∧ Rep c.X s'.heap v (if b = true then dy else dx)) E) { s with heap := h, toks := t } := fun h t w0 n kk st hSS rw0 => by
    refine codeAny_builtin PySem.F.entry_min_loop ?_
    rw [Around.under_plainId PySem.F.plain_min_loop _]
    show wpAny _ A.in1 (seqItems? (.ref S) >>= _) _ _ _
    refine wpAny_bind (wpAny_seqItems hSS rfl ?_)
    show wpAny _ A.in1 (tryCatch (pyNext (.ref I)) _ >>= _) _ _ _
    refine wpAny_bind (wpAny_tryCatch (seq_done (c := c) (A := A.in1) hne hh st fun h₇ t₇ kb₇ => ?_))
    have hS₇ := kb₇ S _ hSI hSS
    show wpAny _ A.in1 (updateSeq S (fun _ => #[]) >>= _) _ _ _
    refine wpAny_bind (wpAny_updateSeq hS₇ rfl (wpAny_bind (wpAny_letGo (wpAny_pure ?_))))
    have k₇ : Keep s.heap (h₇.update S (Obj.mapSeq fun _ => #[])) := fun b o e => by
      rw [Heap.get?_update_other _ _ (Ne.symm (hlow e).2)]; exact kb₇ b o (hlow e).1 (kk b o e)
    exact ⟨⟨_, t₇, rfl, k₇⟩, rw0.up k₇.seq⟩
  cases b with
  | true =>
    simp only [if_true]
    refine wpAny_bind (wpAny_updateSeq hS₅ rfl (wpAny_bind (wpAny_letGo ?_)))
    have hS₆ := Heap.get?_update_self (Obj.mapSeq fun _ => #[w2, w2]) hS₅ rfl
    have o₆ : ∀ b, b ≠ S → (h₅.update S (Obj.mapSeq fun _ => #[w2, w2])).get? b = h₅.get? b := fun b hb => Heap.get?_update_other _ _ (Ne.symm hb)
    rw [hname]
    refine wpAny_pure ⟨plainId_quiet PySem.F.plain_min_loop _, fin _ t₅ w2 _ (fun b o e => ?_) (st₅.mono fun b o hb e => ?_) hS₆ r2⟩
    · rw [o₆ b (hlow e).2]; exact k₆ b o e
    · rw [o₆ b (by rcases hb with rfl | rfl; exact Ne.symm hSI; exact Ne.symm hSa)]; exact e
  | false =>
    simp only [Bool.false_eq_true, if_false]
    refine wpAny_bind (wpAny_letGo ?_)
    rw [hname]
    exact wpAny_pure ⟨plainId_quiet PySem.F.plain_min_loop _, fin _ t₅ w1 _ k₆ st₅ hS₅ r1⟩

theorem fc_max2 {dx dy : D} {b : Bool} (hh : A.handled = none) (hcmp : CmpC c A.in1 .Gt dy dx b) : FC c A (.builtin "max") [.list [dx, dy]] (if b = true then dy else dx) := fun s vs G r E => by
  obtain ⟨v, vs, rfl, rl, r⟩ := r.inv
  obtain rfl := r.invN
  have hname : (toString "max" ++ toString ".loop" : String) = "max.loop" := by decide
  refine call_function_tree PySem.F.kind_max PySem.F.plain_max PySem.F.entry_max (PySem.F.args_max1 _) ?_
  show wpAny _ A.in1 (Builtin.Builtins.bindParams "max" ["key", "default"] 0 ⟨[], []⟩ >>= _) _ _ s
  refine wpAny_bind (wpAny_of_eq (show Builtin.Builtins.bindParams "max" ["key", "default"] 0 ⟨[], []⟩ = pure [none, none] from rfl) ?_)
  refine wpAny_bind (wpAny_pure (wpAny_bind (seq_iter (c := c) (.inl rl) fun ax ws ob _ ra hne st₀ => ?_)))
  obtain ⟨w1, ws, rfl, r1, ra⟩ := ra.inv
  obtain ⟨w2, ws, rfl, r2, ra⟩ := ra.inv
  obtain rfl := ra.invN
  refine wpAny_bind (wpAny_newObj_type ?_)
  rw [hname]
  have hz : (s.heap.push ob).objs.size = s.heap.objs.size + 1 := Heap.size_push ..
  have hax : ax < s.heap.objs.size := by
    rcases st₀ with ⟨_, h⟩ | ⟨_, h⟩
    · obtain ⟨o, ho, _⟩ := h
      have := Heap.lt_size ho
      rw [hz] at this
      exact Nat.lt_of_le_of_ne (Nat.le_of_lt_succ this) hne
    · obtain ⟨o, ho, _⟩ := h
      have := Heap.lt_size ho
      rw [hz] at this
      exact Nat.lt_of_le_of_ne (Nat.le_of_lt_succ this) hne
  have hlow : ∀ {b : Addr} {o : Obj}, s.heap.get? b = some o → b ≠ s.heap.objs.size ∧ b ≠ s.heap.objs.size + 1 := fun e => by
    have := Heap.lt_size e
    exact ⟨Nat.ne_of_lt this, Nat.ne_of_lt (Nat.lt_succ_of_lt this)⟩
  have hSI : (s.heap.objs.size + 1 : Nat) ≠ s.heap.objs.size := by omega
  have hSa : (s.heap.objs.size + 1 : Nat) ≠ ax := Nat.ne_of_gt (Nat.lt_succ_of_lt hax)
  show wpAny _ A.in1 (again (.builtin "max.loop" ⟨[.ref s.heap.objs.size, .none, .ref (s.heap.push ob).objs.size], []⟩)) _ _ _
  rw [hz]
  have hS : ((s.heap.push ob).push { cls := .type "list", data := .seq ([] : List Value).toArray }).get? (s.heap.objs.size + 1) = some { cls := .type "list", data := .seq ([] : List Value).toArray } := by
    rw [← hz]; exact Heap.get?_push_size _ rfl
  have k1 : Keep s.heap ((s.heap.push ob).push { cls := .type "list", data := .seq ([] : List Value).toArray }) := fun b o e => Heap.get?_push_of_some _ (Heap.get?_push_of_some _ e)
  have st₁ := st₀.mono (h' := (s.heap.push ob).push { cls := .type "list", data := .seq ([] : List Value).toArray }) fun b o _ e => Heap.get?_push_of_some _ e
  generalize (s.heap.push ob).push { cls := .type "list", data := .seq ([] : List Value).toArray } = h₁ at hS k1 st₁
  generalize hI : s.heap.objs.size = I at *
  generalize hSe : I + 1 = S at *
  refine wpAny_pure ⟨plainId_quiet PySem.F.plain_max_loop _, codeAny_builtin PySem.F.entry_max_loop ?_⟩
  rw [Around.under_plainId PySem.F.plain_max_loop _]
  -- the first
  show wpAny _ A.in1 (seqItems? (.ref S) >>= _) _ _ _
  refine wpAny_bind (wpAny_seqItems hS rfl ?_)
  show wpAny _ A.in1 (tryCatch (pyNext (.ref I)) _ >>= _) _ _ _
  refine wpAny_bind (wpAny_tryCatch (seq_item (c := c) (A := A.in1) hne hh st₁ rfl fun h₂ t₂ st₂ kb₂ => ?_))
  have hS₂ := kb₂ S _ hSI hS
  show wpAny _ A.in1 (updateSeq S (fun _ => #[w1, w1]) >>= _) _ _ _
  refine wpAny_bind (wpAny_updateSeq hS₂ rfl ?_)
  have hS₃ := Heap.get?_update_self (Obj.mapSeq fun _ => #[w1, w1]) hS₂ rfl
  have o₃ : ∀ b, b ≠ S → (h₂.update S (Obj.mapSeq fun _ => #[w1, w1])).get? b = h₂.get? b := fun b hb => Heap.get?_update_other _ _ (Ne.symm hb)
  have k₃ : Keep s.heap (h₂.update S (Obj.mapSeq fun _ => #[w1, w1])) := fun b o e => by
    rw [o₃ b (hlow e).2]; exact kb₂ b o (hlow e).1 (k1 b o e)
  have st₃ := st₂.mono (h' := h₂.update S (Obj.mapSeq fun _ => #[w1, w1])) fun b o hb e => by
    rw [o₃ b (by rcases hb with rfl | rfl; exact Ne.symm hSI; exact Ne.symm hSa)]; exact e
  rw [hname]
  show wpAny _ A.in1 (again _) _ _ { s with heap := h₂.update S (Obj.mapSeq fun _ => #[w1, w1]), toks := t₂ }
  generalize h₂.update S (Obj.mapSeq fun _ => #[w1, w1]) = h₃ at hS₃ k₃ st₃
  refine wpAny_pure ⟨plainId_quiet PySem.F.plain_max_loop _, codeAny_builtin PySem.F.entry_max_loop ?_⟩
  rw [Around.under_plainId PySem.F.plain_max_loop _]
  -- the second
  show wpAny _ A.in1 (seqItems? (.ref S) >>= _) _ _ _
  refine wpAny_bind (wpAny_seqItems hS₃ rfl ?_)
  show wpAny _ A.in1 (tryCatch (pyNext (.ref I)) _ >>= _) _ _ _
  refine wpAny_bind (wpAny_tryCatch (seq_item (c := c) (A := A.in1) hne hh st₃ rfl fun h₄ t₄ st₄ kb₄ => ?_))
  have hS₄ := kb₄ S _ hSI hS₃
  have k₄ : Keep s.heap h₄ := fun b o e => kb₄ b o (hlow e).1 (k₃ b o e)
  show wpAny _ A.in1 (tryCatch (holding [w2, w2] (richCompare .Gt w2 w1 >>= _)) _ >>= _) _ _ _
  refine wpAny_bind (wpAny_tryCatch (wpAny_holding (wpAny_bind ?_)))
  refine Yields.use (hcmp { s with heap := h₄, toks := t₄ } w2 w1 (Gd.up G k₄) (r2.up k₄.seq) (r1.up k₄.seq)) fun u s₅ k₅ r₅ => ?_
  obtain ⟨h₅, t₅, rfl, k₅⟩ := k₅
  obtain rfl := r₅.invB
  have hS₅ := k₅ _ _ hS₄
  have k₆ : Keep s.heap h₅ := fun b o e => k₅ b o (k₄ b o e)
  have st₅ := st₄.mono (h' := h₅) fun b o _ e => k₅ b o e
  refine wpAny_bind (wpAny_holding (wpAny_truthy_bool ?_))
  refine wpAny_bind (wpAny_letGo (wpAny_pure ?_))
  -- the end
  have fin : ∀ (h : Heap) (t : Nat) (w0 : Value) (n : Nat), Keep s.heap h → SeqSt I ax [w1, w2] 2 h → h.get? S = some { cls := .type "list", data := .seq #[w0, w0] n } → Rep c.X s.heap w0 (if b = true then dy else dx) →
      codeAny (model c.prog c.w) A (.builtin "max.loop" ⟨[.ref I, .none, .ref S], []⟩) (wants (fun v s' => Keeps s s' ∧ Rep c.X s'.heap v (if b = true then dy else dx)) E) { s with heap := h, toks := t } := fun h t w0 n kk st hSS rw0 => by
    refine codeAny_builtin PySem.F.entry_max_loop ?_
    rw [Around.under_plainId PySem.F.plain_max_loop _]
    show wpAny _ A.in1 (seqItems? (.ref S) >>= _) _ _ _
    refine wpAny_bind (wpAny_seqItems hSS rfl ?_)
    show wpAny _ A.in1 (tryCatch (pyNext (.ref I)) _ >>= _) _ _ _
    refine wpAny_bind (wpAny_tryCatch (seq_done (c := c) (A := A.in1) hne hh st fun h₇ t₇ kb₇ => ?_))
    have hS₇ := kb₇ S _ hSI hSS
    show wpAny _ A.in1 (updateSeq S (fun _ => #[]) >>= _) _ _ _
    refine wpAny_bind (wpAny_updateSeq hS₇ rfl (wpAny_bind (wpAny_letGo (wpAny_pure ?_))))
    have k₇ : Keep s.heap (h₇.update S (Obj.mapSeq fun _ => #[])) := fun b o e => by
      rw [Heap.get?_update_other _ _ (Ne.symm (hlow e).2)]; exact kb₇ b o (hlow e).1 (kk b o e)
    exact ⟨⟨_, t₇, rfl, k₇⟩, rw0.up k₇.seq⟩
  cases b with
  | true =>
    simp only [if_true]
    refine wpAny_bind (wpAny_updateSeq hS₅ rfl (wpAny_bind (wpAny_letGo ?_)))
    have hS₆ := Heap.get?_update_self (Obj.mapSeq fun _ => #[w2, w2]) hS₅ rfl
    have o₆ : ∀ b, b ≠ S → (h₅.update S (Obj.mapSeq fun _ => #[w2, w2])).get? b = h₅.get? b := fun b hb => Heap.get?_update_other _ _ (Ne.symm hb)
    rw [hname]
    refine wpAny_pure ⟨plainId_quiet PySem.F.plain_max_loop _, fin _ t₅ w2 _ (fun b o e => ?_) (st₅.mono fun b o hb e => ?_) hS₆ r2⟩
    · rw [o₆ b (hlow e).2]; exact k₆ b o e
    · rw [o₆ b (by rcases hb with rfl | rfl; exact Ne.symm hSI; exact Ne.symm hSa)]; exact e
  | false =>
    simp only [Bool.false_eq_true, if_false]
    refine wpAny_bind (wpAny_letGo ?_)
    rw [hname]
    exact wpAny_pure ⟨plainId_quiet PySem.F.plain_max_loop _, fin _ t₅ w1 _ k₆ st₅ hS₅ r1⟩
end
end Mine
end

section -- S3
open PySem PySem.W PyProof.Rows PySem.Builtin PySem.Builtin.Str
set_option Elab.async false
set_option maxRecDepth 100000
set_option linter.unusedVariables false
set_option autoImplicit false
namespace Mine
/-- a sort's questions, answered -/
def kRun {α : Type} (lt : Nat → Nat → Bool) : KasT α → α
  | .ret a => a
  | .ask i j k => kRun lt (k (lt i j))
/-- its questions are about the first n -/
def Asks {α : Type} (n : Nat) (V : α → Prop) : KasT α → Prop
  | .ret a => V a
  | .ask i j k => i < n ∧ j < n ∧ ∀ b, Asks n V (k b)
theorem Asks.bind {α β : Type} {n : Nat} {V : α → Prop} {W : β → Prop} {f : α → KasT β} (hf : ∀ a, V a → Asks n W (f a)) : ∀ (t : KasT α), Asks n V t → Asks n W (t.bind f)
  | .ret a, h => hf a h
  | .ask i j k, h => ⟨h.1, h.2.1, fun b => Asks.bind hf (k b) (h.2.2 b)⟩
theorem kasWp_run {α : Type} {n : Nat} {V : α → Prop} {lt : Nat → Nat → Bool} {cmp : Nat → Nat → (Bool → Shared → Prop) → Shared → Prop} (I : Shared → Prop) (hc : ∀ i j C s, i < n → j < n → I s → (∀ s', I s' → C (lt i j) s') → cmp i j C s) {Q : α → Shared → Prop} :
    ∀ (t : KasT α) (s : Shared), Asks n V t → I s → (∀ s', I s' → V (kRun lt t) → Q (kRun lt t) s') → t.kasWp cmp Q s
  | .ret a, s, h, hi, hq => hq s hi h
  | .ask i j k, s, h, hi, hq => hc i j _ s h.1 h.2.1 hi fun s' hi' => kasWp_run I hc (k (lt i j)) s' (h.2.2 _) hi' hq
abbrev PB (n : Nat) (p : Array Nat) : Prop := ∀ x ∈ p, x < n
theorem PB.get {n : Nat} {p : Array Nat} (h : PB n p) (h0 : 0 < n) (i : Nat) : p.getD i 0 < n := by
  unfold Array.getD
  split
  · exact h _ (Array.getElem_mem _)
  · exact h0
theorem PB.perm {n : Nat} {p q : Array Nat} (h : PB n p) (e : q.Perm p) : PB n q := fun x hx => h x (by
  have := e.toList.mem_iff (a := x)
  simpa using this.mp (by simpa using hx))
theorem PB.rev {n : Nat} {p : Array Nat} (h : PB n p) (i j : Nat) : PB n (kas_rev p i j) := h.perm (mirror_perm _ _ _ _)
theorem asks_asc {n : Nat} {p : Array Nat} (h : PB n p) (h0 : 0 < n) : ∀ (f m : Nat), Asks n (fun _ => True) (kas_asc p f m)
  | 0, _ => trivial
  | f + 1, m => ⟨h.get h0 _, h.get h0 _, fun b => by cases b; exact asks_asc h h0 f (m + 1); trivial⟩
theorem asks_desc {n : Nat} (h0 : 0 < n) : ∀ (f : Nat) (p : Array Nat) (m q : Nat), PB n p → Asks n (fun r => PB n r.1) (kas_desc f p m q)
  | 0, _, _, _, h => h
  | f + 1, p, m, q, h => by
    refine ⟨h.get h0 _, h.get h0 _, fun b => ?_⟩
    cases b
    · simp only [Bool.false_eq_true, if_false]
      refine ⟨h.get h0 _, h.get h0 _, fun d => ?_⟩
      cases d
      · simp only [Bool.false_eq_true, if_false]; exact asks_desc h0 f _ _ _ h
      · simp only [if_true]; exact h
    · simp only [if_true]
      split
      · exact asks_desc h0 f _ _ _ (h.rev _ _)
      · exact asks_desc h0 f _ _ _ h
theorem asks_tail3 {n : Nat} {p : Array Nat} (h : PB n p) (h0 : 0 < n) (m r : Nat) : Asks n (fun r => PB n r.2) (kas_tail3 m r p) := by
  refine Asks.bind (V := fun _ => True) (fun a _ => ?_) _ (asks_asc (h.rev _ _) h0 _ _)
  exact h.rev _ _
theorem asks_descPart {n : Nat} {p : Array Nat} (h : PB n p) (h0 : 0 < n) (m r : Nat) : Asks n (fun r => PB n r.2) (kas_descPart m r p) := by
  refine Asks.bind (fun a ha => ?_) _ (asks_desc h0 _ _ _ _ h)
  split
  · exact asks_tail3 (ha.rev _ _) h0 _ _
  · exact asks_tail3 ha h0 _ _
theorem asks_count {n : Nat} {p : Array Nat} (h : PB n p) (h0 : 0 < n) (r : Nat) : Asks n (fun r => PB n r.2) (kas_count r p) := by
  refine Asks.bind (fun a _ => ?_) _ (asks_asc h h0 _ _)
  split
  · exact h
  · split
    · refine ⟨h.get h0 _, h.get h0 _, fun b => ?_⟩
      cases b
      · simp only [Bool.false_eq_true, if_false]; exact asks_descPart (h.rev _ _) h0 _ _
      · simp only [if_true]; exact h
    · exact asks_descPart h h0 _ _
theorem asks_place {n : Nat} {p : Array Nat} (h : PB n p) (h0 : 0 < n) (k : Nat) : ∀ (f l r : Nat), Asks n (fun _ => True) (kas_place p k f l r)
  | 0, _, _ => trivial
  | f + 1, l, r => by
    unfold kas_place
    split
    · trivial
    · refine ⟨h.get h0 _, h.get h0 _, fun b => ?_⟩
      cases b
      · simp only [Bool.false_eq_true, if_false]; exact asks_place h h0 k f _ _
      · simp only [if_true]; exact asks_place h h0 k f _ _
theorem asks_bin {n : Nat} (h0 : 0 < n) : ∀ (f : Nat) (p : Array Nat) (k : Nat), PB n p → Asks n (fun p => PB n p) (kas_bin f p k)
  | 0, _, _, h => h
  | f + 1, p, k, h => Asks.bind (fun l _ => asks_bin h0 f _ _ (h.perm (bubble_perm _ _ _))) _ (asks_place h h0 k _ _ _)
theorem asks_sort {n : Nat} (h0 : 0 < n) : Asks n (fun p => PB n p) (kas_sort n) := by
  refine Asks.bind (fun a ha => ?_) _ (asks_count (p := List.toArray (List.range n)) (fun x hx => by simpa using hx) h0 n)
  split
  · exact asks_bin h0 _ _ _ ha
  · exact ha

/-- lists of texts in their order -/
def sortS (xs : List (List Str)) : List (List Str) :=
  if xs.length < 2 then xs else (kRun (fun i j => lexLt (xs.getD i []) (xs.getD j [])) (kas_sort xs.length)).toList.map fun i => xs.getD i []

section
variable {c : Cx} {A : Around}
theorem keyLt_S {s : Shared} {va vb : Value} {xs ys : List Str} {Q : Bool → Shared → Prop} {E : Value → Shared → Prop} (hu : A.units < cLine) (ra : Rep c.X s.heap va (dS xs)) (rb : Rep c.X s.heap vb (dS ys)) (h : Q (lexLt xs ys) s) :
    wpAny (model c.prog c.w) A (keyLt' oneType' va vb) Q E s := by
  rw [keyLt'_oneType, oneLt'_eq]
  simp only [if_true]
  have ta := (call_list_lt (c := c) (A := A) (E := E) (Q := fun _ _ => True) ra rb trivial).2.1
  refine wpAny_bind (wpAny_cRoomFor hu ?_)
  refine wpAny_bind (wpAny_callSpecialIfBound?_slot ta PySem.F.slot_list_lt (call_list_lt (c := c) ra rb ?_).1)
  exact wpAny_truthy_bool h
theorem RepAll.getD {X : Addr → Prop} {h : Heap} {vs : List Value} {xs : List (List Str)} (r : RepAll X h vs (xs.map dS)) {i : Nat} (hi : i < xs.length) : Rep X h (vs.getD i .none) (dS (xs.getD i [])) := by
  obtain ⟨v, e, q⟩ := r.get (k := i) (d := dS xs[i]) (by rw [List.getElem?_map, List.getElem?_eq_getElem hi]; rfl)
  rw [List.getD_eq_getElem?_getD, e, List.getD_eq_getElem?_getD, List.getElem?_eq_getElem hi]
  exact q
theorem RepAll.pick {X : Addr → Prop} {h : Heap} {vs : List Value} {xs : List (List Str)} (r : RepAll X h vs (xs.map dS)) : ∀ {p : List Nat}, (∀ i ∈ p, i < xs.length) → RepAll X h (p.map fun i => vs.getD i .none) ((p.map fun i => xs.getD i []).map dS)
  | [], _ => .nil
  | i :: p, hp => .cons (r.getD (hp i List.mem_cons_self)) (RepAll.pick r fun j hj => hp j (List.mem_cons_of_mem _ hj))
theorem looks_list {h : Heap} {a : Addr} {items : Array Value} (hl : h.IsList a items) : Looks (model c.prog c.w) h (typeOf (.ref a)) (.type "list") := fun A Q E s k q => by
  obtain ⟨o, ho, hc, _⟩ := hl
  exact wpAny_typeOf (T := "list") ⟨o, k _ _ ho, hc⟩ q

theorem fc_sorted {xs : List (List Str)} (hu : A.units + 8 < cLine) (h64 : xs.length < 64) : FC c A (.builtin "sorted") [dSS xs] (dSS (sortS xs)) := fun s vs G r E => by
  obtain ⟨v, vs, rfl, rl, r⟩ := r.inv
  obtain rfl := r.invN
  obtain ⟨l, vs, rfl, _, hl, ra⟩ := rl.invL
  have hlen : vs.length = xs.length := by rw [ra.length, List.length_map]
  refine Calls.call_function_entry kind_sorted plain_sorted entry_sorted (args_sorted1 _) ?_
  unfold Builtin.«sorted»
  refine wpAny_bind (m := checkCount "sorted" 1 1 _) (wpAny_pure ?_)
  refine wpAny_bind (collect_list hl ?_ (by rw [sizeLine_eq]; omega))
  refine wpAny_bind (wpAny_newList ?_ (by rw [sizeLine_eq]; omega))
  have hz : ((s.heap.push (seqObj "list" #[] 0)).update s.heap.objs.size (Obj.mapSeq (· ++ vs.toArray))).objs.size = s.heap.objs.size + 1 := by
    rw [Heap.size_update, size_push']
  show wpAny _ _ _ _ _ { s with heap := ((s.heap.push (seqObj "list" #[] 0)).update s.heap.objs.size (Obj.mapSeq (· ++ vs.toArray))).push (seqObj "list" vs.toArray 0) }
  have hoL := Heap.get?_push_size ((s.heap.push (seqObj "list" #[] 0)).update s.heap.objs.size (Obj.mapSeq (· ++ vs.toArray))) (o := seqObj "list" vs.toArray 0) rfl
  have k0 : Keep s.heap (((s.heap.push (seqObj "list" #[] 0)).update s.heap.objs.size (Obj.mapSeq (· ++ vs.toArray))).push (seqObj "list" vs.toArray 0)) := fun b o q => by
    refine Heap.get?_push_of_some _ ?_
    rw [Heap.get?_update_other _ _ (Ne.symm (Nat.ne_of_lt (Heap.lt_size q)))]
    exact Heap.get?_push_of_some _ q
  rw [hz] at hoL ⊢
  generalize ((s.heap.push (seqObj "list" #[] 0)).update s.heap.objs.size (Obj.mapSeq (· ++ vs.toArray))).push (seqObj "list" vs.toArray 0) = h₀ at hoL k0
  have hlow : ∀ {b : Addr} {o : Obj}, s.heap.get? b = some o → b ≠ s.heap.objs.size + 1 := fun e => Nat.ne_of_lt (Nat.lt_succ_of_lt (Heap.lt_size e))
  generalize s.heap.objs.size + 1 = D at hoL hlow
  refine wpAny_bind (wpAny_holding (wpAny_call_entry slot_list_sort ⟨_, hoL, rfl⟩ entry_list_sort ?_ (args_list_sort _)))
  rw [list_sort_plain]
  refine wpAny_bind (listItems_at hoL rfl ?_)
  refine wpAny_bind (listUpdate_at hoL rfl ?_ (by rw [List.size_toArray, sizeLine_eq]; omega) (Nat.zero_le _))
  obtain ⟨e1, ho1⟩ : ∃ e1, (h₀.update D (Obj.mapSeq fun _ => (#[] : Array Value))).get? D = some (seqObj "list" #[] e1) := ⟨_, get?_update_seq hoL fun _ => #[]⟩
  refine wpAny_bind (seqEpoch_at ho1 rfl ?_)
  refine wpAny_bind (wpAny_newTuple ?_ (by show vs.length ≤ _; rw [sizeLine_eq]; omega))
  refine wpAny_bind (wpAny_newList ?_ (Nat.zero_le _))
  refine wpAny_holding ?_
  have ho3 : (((h₀.update D (Obj.mapSeq fun _ => (#[] : Array Value))).push (seqObj "tuple" vs.toArray 0)).push (seqObj "list" #[] 0)).get? D = some (seqObj "list" #[] e1) := Heap.get?_push_of_some _ (Heap.get?_push_of_some _ ho1)
  have k3 : Keep s.heap (((h₀.update D (Obj.mapSeq fun _ => (#[] : Array Value))).push (seqObj "tuple" vs.toArray 0)).push (seqObj "list" #[] 0)) := fun b o e => by
    refine Heap.get?_push_of_some _ (Heap.get?_push_of_some _ ?_)
    rw [Heap.get?_update_other _ _ (Ne.symm (hlow e))]
    exact k0 b o e
  show wpAny _ _ _ _ _ { s with heap := ((h₀.update D (Obj.mapSeq fun _ => (#[] : Array Value))).push (seqObj "tuple" vs.toArray 0)).push (seqObj "list" #[] 0) }
  dsimp only
  generalize ((h₀.update D (Obj.mapSeq fun _ => (#[] : Array Value))).push (seqObj "tuple" vs.toArray 0)).push (seqObj "list" #[] 0) = h₃ at ho3 k3
  -- the end
  have fin : ∀ (h : Heap) (t : Nat) (out : List Value), Keep s.heap h → h.get? D = some (seqObj "list" #[] e1) → out.length < 64 → RepAll c.X s.heap out ((sortS xs).map dS) → ∀ E', wpAny (model c.prog c.w) A.in1.in1 (do
      let touched := (← seqEpoch D) != e1
      Builtin.List.listUpdate (.ref D) fun _ => out.toArray
      if touched then rule "list.sort.modified"; raiseError "ValueError" "list modified during sort"
      ret .none) (fun fin s' => ∃ v, fin = .done (.ret v) ∧ wpAny (model c.prog c.w) A.in1 (ret (.ref D)) (fun fin s' => ∃ v, fin = .done (.ret v) ∧ Keeps s s' ∧ Rep c.X s'.heap v (dSS (sortS xs))) E s') E' { s with heap := h, toks := t } := fun h t out kk hD ho rr E' => by
    refine wpAny_bind (seqEpoch_at hD rfl ?_)
    refine wpAny_bind (listUpdate_at hD rfl ?_ (Nat.zero_le _) (by rw [List.size_toArray, sizeLine_eq]; omega))
    simp only [bne_self_eq_false, Bool.false_eq_true, if_false]
    obtain ⟨c2, hc2⟩ : ∃ c2, (h.update D (Obj.mapSeq fun _ => out.toArray)).get? D = some (seqObj "list" out.toArray c2) := ⟨_, get?_update_seq hD fun _ => out.toArray⟩
    have kf : Keep s.heap (h.update D (Obj.mapSeq fun _ => out.toArray)) := fun b o e => by
      rw [Heap.get?_update_other _ _ (Ne.symm (hlow e))]
      exact kk b o e
    refine wpAny_pure ⟨_, rfl, wpAny_pure ⟨_, rfl, ⟨_, t, rfl, kf⟩, ?_⟩⟩
    refine .list (fun q => ?_) ⟨_, hc2, rfl, _, rfl⟩ (rr.up kf.seq)
    obtain ⟨o, ho⟩ := G.x D q
    exact hlow ho rfl
  by_cases h2 : vs.length < 2
  · have hn2 : vs.toArray.size < 2 := by rw [List.size_toArray]; omega
    rw [if_pos hn2, if_pos hn2]
    have es : sortS xs = xs := by unfold sortS; rw [if_pos (by omega)]
    refine wpAny_bind (wpAny_pure (wpAny_bind (m := StateT.run (pure ()) _) (wpAny_pure ?_)))
    have e0 : (arrOf (SortSt.mk' general' (vs.toArray.zip vs.toArray) #[] 7 none)).map (·.2) = vs.toArray := by
      show ((vs.toArray.zip vs.toArray).map (·.2)) = _
      rw [← Array.toList_inj]
      simp [List.map_snd_zip]
    dsimp only
    rw [e0]
    have := fin h₃ s.toks vs k3 ho3 (by omega) (by rw [es]; exact ra)
    exact this _
  · have hn2 : ¬ vs.toArray.size < 2 := by rw [List.size_toArray]; omega
    rw [if_neg hn2, if_neg hn2]
    have hT : ∀ v ∈ vs, Looks (model c.prog c.w) h₃ (typeOf v) (.type "list") := fun v hv => by
      obtain ⟨k, hk, e⟩ := List.getElem_of_mem hv
      obtain ⟨d, hd, rd⟩ := ra.getV (k := k) (v := v) (by rw [List.getElem?_eq_getElem hk, e])
      rw [List.getElem?_map] at hd
      obtain ⟨x, _, rfl⟩ := Option.map_eq_some_iff.mp hd
      obtain ⟨a, ws, rfl, _, hla, _⟩ := (rd.up k3.seq).invL
      exact looks_list hla
    refine wpAny_bind (kas_kind (s := { s with heap := h₃ }) (by omega) hT (by decide) (by decide) ?_)
    have est : SortSt.mk' oneType' (vs.toArray.zip vs.toArray) #[] 7 none = kas_st oneType' (pairsOf vs) (List.toArray (List.range vs.length)) := by
      have e := kas_range (pairsOf vs)
      rw [pairsOf_size] at e
      show SortSt.mk' oneType' (pairsOf vs) #[] 7 none = SortSt.mk' oneType' ((List.toArray (List.range vs.length)).map (kas_item (pairsOf vs))) #[] 7 none
      rw [e]
    have ask : (kas_sort vs.length).kasWp (kas_ask c.prog c.w A.in1.in1 oneType' vs) (fun p s' => p.toList.map (fun i => xs.getD i []) = sortS xs ∧ (∀ i ∈ p.toList, i < xs.length) ∧ ∃ h t, s' = { s with heap := h, toks := t } ∧ Keep s.heap h ∧ h.get? D = some (seqObj "list" #[] e1)) { s with heap := h₃ } := by
      refine kasWp_run (n := vs.length) (V := fun p => PB vs.length p) (lt := fun i j => lexLt (xs.getD i []) (xs.getD j [])) (fun s' => ∃ h t, s' = { s with heap := h, toks := t } ∧ Keep s.heap h ∧ h.get? D = some (seqObj "list" #[] e1)) ?_ _ _ (asks_sort (by omega)) ⟨h₃, s.toks, rfl, k3, ho3⟩ ?_
      · rintro i j C s' hi hj ⟨h, t, rfl, kk, hD⟩ hC
        have ru := ra.up kk.seq
        exact keyLt_S (c := c) (s := { s with heap := h, toks := t }) (by show A.units + 1 + 1 < _; omega) (ru.getD (by omega)) (ru.getD (by omega)) (hC _ ⟨h, t, rfl, kk, hD⟩)
      · rintro s' hs' hV
        refine ⟨?_, fun i hi => hlen ▸ hV i (by simpa using hi), hs'⟩
        unfold sortS
        rw [if_neg (by omega), hlen]
    rw [kas_ask_eq] at ask
    have run := kas_runs (E := fun e s' => E e s') (Q := fun _ st' s' => ∃ p : Array Nat, p.size = vs.length ∧ arrOf st' = p.map (kas_item (pairsOf vs)) ∧ failedOf st' = none ∧ p.toList.map (fun i => xs.getD i []) = sortS xs ∧ (∀ i ∈ p.toList, i < xs.length) ∧ ∃ h t, s' = { s with heap := h, toks := t } ∧ Keep s.heap h ∧ h.get? D = some (seqObj "list" #[] e1))
      (by omega) (by omega) (fun p' st' s' a1 a2 a3 a4 => ⟨p', a1, a2, a3, a4⟩) ask
    rw [← est] at run
    refine wpAny_bind (wpAny_mono run ?_ fun _ _ e => e)
    rintro ⟨⟨⟩, st'⟩ s' ⟨p, hp, har, hf, hsort, hin, h, t, rfl, kk, hD⟩
    dsimp only
    have hout : (arrOf st').map (·.2) = List.toArray (p.toList.map fun i => vs.getD i Value.none) := by
      apply Array.toList_inj.mp
      rw [har, Array.map_map, Array.toList_map]
      exact List.map_congr_left fun i _ => by show (kas_item (pairsOf vs) i).2 = _; rw [kas_item_eq]
    rw [hout, hf]
    exact fin h t _ kk hD (by rw [List.length_map, Array.length_toList]; omega) (hsort ▸ ra.pick hin) _
end
end Mine
end

section -- S4
open PySem PySem.W PyProof.Rows PySem.Builtin PySem.Builtin.Str
set_option Elab.async false
set_option maxRecDepth 100000
set_option linter.unusedVariables false
set_option autoImplicit false
namespace Mine
/-- the set of no, and of the one True -/
abbrev set0 (led : Bool) : Obj := { cls := .type "set", data := .set #[] 0 (.fresh 0 0 led) }
def tab1 (led : Bool) : SetTable := { mask := 7, place := #[1], dummies := #[], finger := 0, led := led, moves := 0, plain := true }
abbrev set1 (led : Bool) : Obj := { cls := .type "set", data := .set #[(1, .bool true)] 1 (tab1 led) }
theorem lay_one (led : Bool) : layNew (.fresh 0 0 led) #[] 1 (.bool true) = (#[(1, .bool true)], tab1 led, false, false) := by cases led <;> decide +kernel
theorem fits0 (led : Bool) : (SetTable.fresh 0 0 led).fits 0 = true := by cases led <;> decide +kernel
theorem fits1 (led : Bool) : (tab1 led).fits 1 = true := by cases led <;> decide +kernel
theorem full1 (led : Bool) : (tab1 led).tooFull = false := by cases led <;> decide +kernel
section
variable {prog : Program} {w : World} {A : Around} {E : Value → Shared → Prop} {s : Shared}
theorem typeIs_bool (s : Shared) (b : Bool) : s.TypeIs (.bool b) "bool" := rfl
theorem hash_true {Q : Int → Shared → Prop} (h : Q 1 { s with toks := s.toks + 1 }) : wpAny (model prog w) A (pyHash (.bool true)) Q E s := by
  unfold pyHash
  have hv : [Value.bool true].any Value.onHeap = false := rfl
  refine wpAny_bind ?_
  rw [cRoomFor, if_neg (by rw [hv]; exact Bool.false_ne_true)]; refine wpAny_pure ?_
  refine wpAny_bind (wpAny_specialOf (typeIs_bool s true) PySem.F.slot_bool_hash.lookup ?_)
  show wpAny _ _ (if (some (Value.builtin "int.__hash__") == some Value.none) = true then _ else _) Q E s
  rw [if_neg (by decide)]
  refine wpAny_bind (wpAny_specialOf (typeIs_bool s true) PySem.F.slot_bool_hash.lookup ?_)
  show wpAny _ _ (callSpecialIfBoundUnlessNone? (.bool true) "__hash__" _ >>= _) Q E s
  refine wpAny_bind (wpAny_callSpecialIfBoundUnlessNone?_slot (typeIs_bool s true) PySem.F.slot_bool_hash
    (wpAny_call_entry PySem.F.slot_bool_hash (typeIs_bool s true) entry_int_hash
      (show wpAny _ _ (do ret (← mkInt 1)) _ _ s from wpAny_ret_mkInt ?_) (args_int_hash _)))
  show wpAny _ _ (if (decide (-(2 : Int) ^ 63 ≤ 1) && decide ((1 : Int) < 2 ^ 63)) = true then _ else _) Q E _
  rw [if_pos (by decide)]
  exact wpAny_pure h
theorem eq_true_true {Q : Bool → Shared → Prop} (h : Q true s) : wpAny (model prog w) A (eqBool (.bool true) (.bool true)) Q E s := by
  unfold eqBool
  refine wpAny_holding ?_
  rw [if_pos (by decide)]
  exact wpAny_bind (wpAny_rule (wpAny_pure h))
theorem set_typeIs {a : Addr} {o : Obj} (ho : s.heap.get? a = some o) (hc : o.cls = .type "set") : s.TypeIs (.ref a) "set" := ⟨o, ho, hc⟩

theorem set_add_first {a : Addr} {led : Bool} {Q : Value → Shared → Prop} (ho : s.heap.get? a = some (set0 led))
    (h : ∀ h', Heap.SameBut a s.heap h' → h'.get? a = some (set1 led) → Q .none { s with heap := h', toks := s.toks + 1 }) : wpAny (model prog w) A (call (.builtin "set.add") [.ref a, .bool true]) Q E s := by
  refine wpAny_call_entry PySem.F.slot_set_add (set_typeIs ho rfl) PySem.F.entry_set_add ?_ (PySem.F.args_set_add_2 _ _)
  unfold Builtin.«set.add» Builtin.Frozenset.oneOther
  simp only [List.isEmpty_nil, bind_assoc]
  unfold Builtin.Frozenset.addrOf setAdd
  refine wpAny_bind (wpAny_pure ?_)
  refine wpAny_bind (wpAny_pure ?_)
  refine wpAny_bind (wpAny_holding (wpAny_bind (hash_true ?_)))
  unfold setAddHashed setAddHashedIn
  refine wpAny_holding (wpAny_bind (wpAny_setState_of (s := { s with toks := s.toks + 1 }) ho rfl (fits0 led) ?_))
  dsimp only
  rw [show byScan (.bool true) #[] = true from by decide +kernel]
  simp only [↓reduceIte]
  unfold setAddByScan
  refine wpAny_bind (wpAny_bind (wpAny_rule (wpAny_bind (m := setScan a (.bool true) 1 true #[]) (wpAny_pure ?_))))
  dsimp only
  rw [lay_one]
  dsimp only
  refine wpAny_bind (wpAny_pure (a := ()) ?_)
  rw [show (tab1 led).plain = true from rfl]
  simp only [↓reduceIte]
  refine wpAny_bind ?_
  rw [hashByValue_scannable 8 (by rfl)]
  refine wpAny_pure ?_
  simp only [show plainKind (.bool true) = true from by decide, ↓reduceIte]
  refine wpAny_bind (wpAny_storeSet_of ho rfl ?_ (by show 1 ≤ sizeLine; rw [sizeLine_eq]; decide))
  rw [full1]
  simp only [Bool.and_false, Bool.false_eq_true, if_false]
  refine wpAny_pure (wpAny_pure (wpAny_pure ⟨_, rfl, h _ (Heap.SameBut.update ..) ?_⟩))
  exact Heap.get?_update_self _ ho rfl
theorem set_add_again {a : Addr} {led : Bool} {Q : Value → Shared → Prop} (ho : s.heap.get? a = some (set1 led))
    (h : Q .none { s with toks := s.toks + 1 }) : wpAny (model prog w) A (call (.builtin "set.add") [.ref a, .bool true]) Q E s := by
  refine wpAny_call_entry PySem.F.slot_set_add (set_typeIs ho rfl) PySem.F.entry_set_add ?_ (PySem.F.args_set_add_2 _ _)
  unfold Builtin.«set.add» Builtin.Frozenset.oneOther
  simp only [List.isEmpty_nil, bind_assoc]
  unfold Builtin.Frozenset.addrOf setAdd
  refine wpAny_bind (wpAny_pure ?_)
  refine wpAny_bind (wpAny_pure ?_)
  refine wpAny_bind (wpAny_holding (wpAny_bind (hash_true ?_)))
  unfold setAddHashed setAddHashedIn
  refine wpAny_holding (wpAny_bind (wpAny_setState_of (s := { s with toks := s.toks + 1 }) ho rfl (fits1 led) ?_))
  dsimp only
  rw [show byScan (.bool true) #[(1, .bool true)] = true from by decide +kernel]
  simp only [↓reduceIte]
  unfold setAddByScan
  refine wpAny_bind (wpAny_bind (wpAny_rule (wpAny_bind ?_)))
  show wpAny _ _ (setScanFrom a (.bool true) 1 true [(1, .bool true)] 0) _ _ _
  unfold setScanFrom
  rw [if_pos (by decide)]
  unfold setEpoch
  refine wpAny_bind (wpAny_bind (wpAny_setState_of (s := { s with toks := s.toks + 1 }) ho rfl (fits1 led) (wpAny_pure ?_)))
  refine wpAny_bind (eq_true_true ?_)
  rw [if_pos (by decide)]
  exact wpAny_pure (wpAny_pure (wpAny_pure (wpAny_pure ⟨_, rfl, h⟩)))

theorem seti_entry_iter : entryFor table "set.__iter__" = some Builtin.«frozenset.__iter__» :=
  entryFor_alias (id' := "frozenset.__iter__") (by kernel_rfl) (by first | rfl | decide +kernel | (unfold String.splitOn; simp +decide [String.splitOnAux])) (by decide +kernel) (by kernel_rfl)
theorem seti_entry_next : entryFor table "set_iterator.__next__" = some Builtin.«set_iterator.__next__» := entryFor_of_tree (by kernel_rfl)
theorem seti_slot_next : PySem.Slot "set_iterator" "__next__" "set_iterator.__next__" :=
  .of (owner := "set_iterator") (n := "__next__") (by rw [typeLookup_type, builtinLookup_eq_fast]; kernel_rfl) (by decide +kernel) (by decide +kernel) (by decide +kernel)
    (by first | exact .inl (by decide +kernel) | exact .inr (by decide +kernel)) (by rw [isSubtype_type]; kernel_rfl)
theorem seti_args_next (a : Value) : argsOk "set_iterator.__next__" ⟨[a], []⟩ := by unfold argsOk; kernel_rfl
abbrev seti (a : Addr) (x i : Int) : Obj := { cls := .type "set_iterator", data := .fields #[rawInt x, rawInt i, .ref a, rawInt 1, rawInt 1] }
theorem iter_set1 {a : Addr} {led : Bool} {Q : Value → Shared → Prop} (ho : s.heap.get? a = some (set1 led)) (h : Q (.ref s.heap.objs.size) { s with heap := s.heap.push (seti a 0 0) }) : wpAny (model prog w) A (pyIter (.ref a)) Q E s := by
  have hT := set_typeIs (s := s) ho rfl
  refine wpAny_pyIter_slot hT PySem.F.slot_set_iter (wpAny_call_entry PySem.F.slot_set_iter hT seti_entry_iter ?_ (PySem.F.args_set_iter_1 _))
  show wpAny _ _ (Builtin.Frozenset.sizeOf a >>= _) _ _ s
  unfold Builtin.Frozenset.sizeOf setEntries
  refine wpAny_bind (wpAny_bind (wpAny_bind (wpAny_setState_of ho rfl (fits1 led) (wpAny_pure (wpAny_pure ?_)))))
  unfold setDrawn setsByText
  refine wpAny_bind (wpAny_bind (wpAny_setState_of ho rfl (fits1 led) (wpAny_bind (wpAny_bind (wpAny_askSetting (wpAny_pure ?_))))))
  refine wpAny_of_eq (a := false) (by show pure (_ && false) = pure false; rw [Bool.and_false]) ?_
  dsimp only
  rw [if_neg (by decide)]
  unfold setEpoch
  refine wpAny_bind (wpAny_pure (wpAny_bind (wpAny_bind (wpAny_setState_of ho rfl (fits1 led) (wpAny_pure ?_)))))
  unfold newFields
  refine wpAny_bind (wpAny_newObj_type (wpAny_pure ⟨_, rfl, "set_iterator", _, ⟨_, Heap.get?_push_size _ rfl, rfl⟩, seti_slot_next.lookup, h⟩))

theorem pick_one (f : Nat → Nat) (e : Int × Value) : pickOrder f #[e] = #[e] := by
  show pickOrder.go f 1 0 [e] #[] = #[e]
  unfold pickOrder.go
  rw [show f 0 % [e].length = 0 from Nat.mod_one _]
  rfl
theorem setNext_one {a : Addr} {led : Bool} {slot given : Nat} {r : Option (Value × Nat)} {Q : Option (Value × Nat) → Shared → Prop} (hled : led = !(w.params.followText "set-order")) (ho : s.heap.get? a = some (set1 led))
    (h1 : led = true → r = (match (#[(1, Value.bool true)] : Array (Int × Value))[SetTable.below #[1] slot]?, (#[1] : Array Nat)[SetTable.below #[1] slot]? with | some (_, x), some j => some (x, j + 1) | _, _ => none))
    (h2 : led = false → r = ((#[(1, Value.bool true)] : Array (Int × Value))[given]?).map fun e => (e.2, slot)) (h : Q r s) : wpAny (model prog w) A (setNext a slot given 1) Q E s := by
  unfold setNext
  refine wpAny_bind (wpAny_setState_of ho rfl (fits1 led) ?_)
  unfold setsByText
  refine wpAny_bind (wpAny_bind (wpAny_askSetting (wpAny_pure ?_)))
  show wpAny _ _ (if w.params.followText "set-order" = true then _ else _) _ _ _
  cases hb : w.params.followText "set-order" with
  | true =>
    rw [hb] at hled
    have hl : led = false := hled
    rw [if_pos rfl, if_neg (by decide)]
    unfold setWalk setsByText
    refine wpAny_bind (wpAny_bind (wpAny_setState_of ho rfl (fits1 led) (wpAny_bind (wpAny_bind (wpAny_askSetting (wpAny_pure ?_))))))
    show wpAny _ _ (if w.params.followText "set-order" = true then _ else _) _ _ _
    rw [hb, if_pos rfl]
    refine wpAny_bind (wpAny_askSetting (wpAny_pure ?_))
    rw [pick_one, ← h2 hl]
    exact wpAny_pure h
  | false =>
    rw [hb] at hled
    have hl : led = true := hled
    subst hl
    rw [if_neg (by decide), if_neg (by decide)]
    refine wpAny_bind (wpAny_of_eq (a := ()) rfl ?_)
    have := h1 rfl
    rw [this] at h
    exact wpAny_pure h
theorem next_set1 {a I : Addr} {led : Bool} {Q : Option Value → Shared → Prop} (hled : led = !(w.params.followText "set-order")) (ho : s.heap.get? a = some (set1 led)) (hI : s.heap.get? I = some (seti a 0 0))
    (h : ∀ h', Heap.SameBut I s.heap h' → (∃ x, h'.get? I = some (seti a x 1) ∧ (led = true → x = 2)) → Q (some (.bool true)) { s with heap := h' }) : wpAny (model prog w) A (pyNext (.ref I)) Q E s := by
  have hT : s.TypeIs (.ref I) "set_iterator" := ⟨_, hI, rfl⟩
  unfold pyNext
  refine wpAny_bind (wpAny_attempt (wpAny_callSpecial?_slot (name := Str.ofString "__next__") hT seti_slot_next
    (wpAny_call_entry seti_slot_next hT seti_entry_next ?_ (seti_args_next _))))
  show wpAny _ _ (fieldsOf (.ref I) >>= _) _ _ s
  refine wpAny_bind (wpAny_fieldsOf hI rfl ?_)
  dsimp only
  show wpAny _ _ (setEntries a >>= _) _ _ s
  refine wpAny_bind (wpAny_setEntries_of ho rfl (fits1 led) ?_)
  rw [if_neg (by decide)]
  show wpAny _ _ (setNext a 0 0 1 >>= _) _ _ _
  refine wpAny_bind (setNext_one (r := some (.bool true, if led = true then 2 else 0)) hled ho (fun e => by subst e; decide +kernel) (fun e => by subst e; decide +kernel) ?_)
  show wpAny _ _ (setField (.ref I) 0 (rawInt (if led = true then 2 else 0 : Nat)) >>= _) _ _ _
  refine wpAny_bind (wpAny_setField_rec hI (by simp) fun h₂ he₂ hs₂ => ?_)
  refine wpAny_bind (wpAny_setField_rec he₂ (by simp) fun h₃ he₃ hs₃ => ?_)
  exact wpAny_pure ⟨_, rfl, wpAny_pure (h h₃ (hs₂.trans hs₃) ⟨_, he₃, fun e => by subst e; rfl⟩)⟩
theorem end_set1 {a I : Addr} {led : Bool} {x : Int} {Q : Option Value → Shared → Prop} (hh : A.handled = none) (hled : led = !(w.params.followText "set-order")) (ho : s.heap.get? a = some (set1 led)) (hI : s.heap.get? I = some (seti a x 1)) (hx : led = true → x = 2)
    (h : ∀ h', Heap.ExtBut I s.heap h' → Q none { s with heap := h' }) : wpAny (model prog w) A (pyNext (.ref I)) Q E s := by
  have hT : s.TypeIs (.ref I) "set_iterator" := ⟨_, hI, rfl⟩
  unfold pyNext
  refine wpAny_bind (wpAny_attempt (wpAny_callSpecial?_slot (name := Str.ofString "__next__") hT seti_slot_next
    (wpAny_call_entry seti_slot_next hT seti_entry_next ?_ (seti_args_next _))))
  show wpAny _ _ (fieldsOf (.ref I) >>= _) _ _ s
  refine wpAny_bind (wpAny_fieldsOf hI rfl ?_)
  show wpAny _ _ (setEntries a >>= _) _ _ s
  refine wpAny_bind (wpAny_setEntries_of ho rfl (fits1 led) ?_)
  rw [if_neg (by decide)]
  show wpAny _ _ (setNext a x.toNat 1 1 >>= _) _ _ _
  refine wpAny_bind (setNext_one (r := none) hled ho (fun e => by rw [hx e]; decide +kernel) (fun e => by simp) ?_)
  show wpAny _ _ (setField (.ref I) 2 .none >>= _) _ _ _
  refine wpAny_bind (wpAny_setField_rec hI (by simp) fun h₂ he₂ hs₂ => ?_)
  show wpAny _ _ (newExc (.type "StopIteration") [] >>= _) _ _ _
  refine wpAny_bind ?_
  simp only [newExc, newTuple]
  refine wpAny_bind (wpAny_newObj_type ?_ (by size_fits))
  refine wpAny_bind (m := firstArgMember _ _) (wpAny_of_eq (a := Value.none) (by first | rfl | (simp only [firstArgMember]; rfl)) ?_)
  refine wpAny_newObj_type ?_ (by size_fits)
  simp only [raiseNew]
  refine wpAny_bind (wpAny_handled ?_)
  rw [show A.in1.handled = none from hh]
  refine wpAny_bind (wpAny_pure (wpAny_throw ?_))
  refine wpAny_bind (wpAny_isInstance (T := "StopIteration") (b := true) ⟨_, Heap.get?_push_size _ rfl, rfl⟩ isSubtype_stop ?_)
  exact wpAny_pure (h _ ((hs₂.extBut.push _).push _))
/-- one name for a set of one -/
theorem unpack_set1 {a : Addr} {led : Bool} {Q : List Value → Shared → Prop} (hh : A.handled = none) (hled : led = !(w.params.followText "set-order")) (ho : s.heap.get? a = some (set1 led))
    (hQ : ∀ h', Heap.ExtBut s.heap.objs.size s.heap h' → Q [.bool true] { s with heap := h' }) : wpAny (model prog w) A (unpackItems (.ref a) 1 none) Q E s := by
  have hT := set_typeIs (s := s) ho rfl
  have hne : a ≠ s.heap.objs.size := Nat.ne_of_lt (Heap.lt_size ho)
  unfold unpackItems notIterableAtAll
  refine wpAny_bind (wpAny_bind (wpAny_specialOf hT PySem.F.slot_set_iter.lookup (wpAny_pure ?_)))
  simp only [Bool.false_eq_true, if_false]
  refine wpAny_bind (wpAny_holding (iter_set1 ho ?_))
  unfold draw
  refine wpAny_bind (wpAny_holding (wpAny_bind (next_set1 hled (Heap.get?_push_of_some _ ho) (Heap.get?_push_size _ rfl) fun h₁ hs₁ hx => ?_)))
  obtain ⟨x, hI, hx⟩ := hx
  unfold draw
  refine wpAny_bind (wpAny_holding (wpAny_pure (wpAny_pure ?_)))
  rw [if_neg (by decide)]
  refine wpAny_bind (wpAny_holding (end_set1 hh hled (hs₁.extBut _ _ hne (Heap.get?_push_of_some _ ho)) hI hx fun h₂ he₂ => ?_))
  simp only [Option.isSome_none, Bool.false_eq_true, if_false]
  exact wpAny_pure (hQ h₂ fun b o hb e => he₂ b o hb (hs₁.extBut b o hb (Heap.get?_push_of_some _ e)))
end
end Mine
end

section -- S5
open PySem PySem.W PyProof.Rows PySem.Builtin PySem.Builtin.Str
set_option Elab.async false
set_option maxRecDepth 100000
set_option linter.unusedVariables false
set_option autoImplicit false
namespace Mine
theorem compTurn_set (elt target iter : Expr) (scope : Scope) (pos : Pos) (it acc : Value) (env : Env) :
    compTurn (.SetComp elt [⟨target, iter, [], 0⟩] scope pos) 0 it acc env = (do
      standAt iter.pos
      match ← pyNext it with
      | none => pure (.done .next)
      | some v =>
        letOwnedTupleGo target it v
        assign target env v
        (do let x ← eval elt env; standAt elt.pos; let _ ← call (.builtin "set.add") [acc, x])
        again (.compLoop (.SetComp elt [⟨target, iter, [], 0⟩] scope pos) 0 it acc env)) := by rfl
section
variable {c : Cx} {A : Around} {env : Env} {μ : Sto} {base : Heap} {o : Out}
theorem compStart_set {elt target iter scope pos it acc} {R : Result → Shared → Prop} {s : Shared}
    (h0 : codeAny (model c.prog c.w) A (.compLoop (.SetComp elt [⟨target, iter, [], 0⟩] scope pos) 0 it acc env) R s)
    (h : wpAny (model c.prog c.w) A (pyIter it) (fun it' s' => codeAny (model c.prog c.w) A (.compLoop (.SetComp elt [⟨target, iter, [], 0⟩] scope pos) 0 it' acc env) R s')
      (notedBy (model c.prog c.w) A env fun x s' => R (.error x) s') s) :
    codeAny (model c.prog c.w) A (.compStart (.SetComp elt [⟨target, iter, [], 0⟩] scope pos) 0 it acc env) R s := by
  refine codeAny_of_tree ?_
  show wpAny _ _ ((compStart (.SetComp elt [⟨target, iter, [], 0⟩] scope pos) 0 it acc env).onRaise (fun x => do noteFrame x env; standAt theWindowsPlace)) _ _ s
  refine wpAny_notedAt ?_
  unfold compStart
  show wpAny _ _ (ask >>= _) _ _ s
  refine wpAny_bind (wpAny_askSetting (wpAny_ite ?_))
  split
  · exact wpAny_pure (And.intro rfl h0)
  · refine wpAny_bind (wpAny_rule ?_)
    show wpAny _ _ (standAt iter.pos >>= _) _ _ s
    exact wpAny_bind (wpAny_standAt (wpAny_bind (wpAny_mono h (fun it' s' h' => wpAny_pure (And.intro rfl h')) fun _ _ x => x)))
theorem comp_core_set {elt target iter : Expr} {scope : Scope} {pos : Pos} {ds : List D} {f : D → Sto} {ν : Sto} {s₁ : Shared} {ob : Obj} {St : Nat → Heap → Prop} {E : Value → Shared → Prop} {RR : Value → Addr → Result → Shared → Prop}
    (W : Itr c A s₁.heap.objs.size ds s₁.heap St) (st₀ : St 0 (s₁.heap.push ob)) (G : c.G s₁.heap) (F : EnvOk c.X env s₁.heap μ) (hne : 0 < ds.length)
    (hν : ∀ x d, ν.lookup x = some d → μ.lookup x = some d ∧ (x, NameKind.free) ∈ scope.names ∧ (env.kindOf x = some .cell ∨ env.kindOf x = some .free) ∧ (relabelS scope env.scope).names.lookup x = some .cell)
    (hcell : ∀ y ∈ scope.names, y.2 ≠ .cell) (hkind : scope.kind = .function)
    (ht : ∀ cenv, CompEnv c env cenv scope → ∀ e ∈ ds, Asg c A cenv target e (f e))
    (hb : ∀ cenv, CompEnv c env cenv scope → ∀ e ∈ ds, EvE c A cenv (f e ++ ν) elt (.bool true))
    (hRR : ∀ D C h' tk m', s₁.heap.get? D = none → s₁.heap.get? C = none → h'.Ns C m' → Keep s₁.heap h' → h'.get? D = some (set1 (!(c.w.params.followText "set-order"))) → RR (.ref D) C (.ok .next) { s₁ with heap := h', toks := tk }) :
    wpAny (model c.prog c.w) A (newSet (.type "set")) (fun acc s₃ => wpAny (model c.prog c.w) A (newFunctionEnv scope env.globals (clOf env.cells scope.names []) [] env.qual none .none (some env)) (fun cenv s₄ =>
      codeAny (model c.prog c.w) A (.compStart (.SetComp elt [⟨target, iter, [], 0⟩] scope pos) 0 (.ref s₁.heap.objs.size) acc { cenv with scope := relabel scope env }) (RR acc cenv.locals) s₄) E s₃) E { s₁ with heap := s₁.heap.push ob } := by
  unfold newSet setsByText
  refine wpAny_bind (wpAny_bind (wpAny_askSetting (wpAny_pure ?_)))
  show wpAny _ _ (newObj (.type "set") (.set #[] 0 (.fresh 0 0 (!(c.w.params.followText "set-order"))))) _ _ _
  refine wpAny_newObj_type (wpAny_newFunctionEnv hcell (by intro y hy; simp at hy) (fun h₁ hns₁ hsb₁ => ?_) hkind)
  dsimp only at hns₁ hsb₁ ⊢
  generalize hled : (!(c.w.params.followText "set-order")) = led at *
  generalize hI : s₁.heap.objs.size = I at *
  have hDe : (s₁.heap.push ob).objs.size = I + 1 := by rw [Heap.size_push, hI]
  rw [hDe]
  generalize hH2 : (s₁.heap.push ob).push { cls := .type "set", dict := none, data := .set #[] 0 (.fresh 0 0 led) } = H2 at hns₁ hsb₁ ⊢
  have hC : H2.objs.size = I + 2 := by rw [← hH2, Heap.size_push, hDe]
  rw [hC] at hns₁ hsb₁ ⊢
  have old : Keep s₁.heap h₁ := fun b o e => by
    have hb := ltN (Heap.lt_size e)
    exact hsb₁.extBut b o (neN (by omega)) (Heap.get?_push_of_some _ (hH2 ▸ Heap.get?_push_of_some _ (Heap.get?_push_of_some _ e)))
  have fresh : ∀ a, I ≤ a → s₁.heap.get? a = none := fun a ha => Heap.get?_none_of_le (hI ▸ ha)
  have hIo : ∀ o, (s₁.heap.push ob).get? I = some o → h₁.get? I = some o := fun o e => hsb₁.extBut I o (neN (by omega)) (Heap.get?_push_of_some _ (hH2 ▸ Heap.get?_push_of_some _ e))
  have hD₁ : h₁.get? (I + 1) = some (set0 led) := hsb₁.extBut (I + 1) _ (neN (by omega)) (Heap.get?_push_of_some _ (hH2 ▸ hDe ▸ Heap.get?_push_size _ rfl))
  have st₁ : St 0 h₁ := W.mono 0 _ _ st₀ old hIo
  have CE : CompEnv c env (compEnvC scope (clOf env.cells scope.names []) (I + 2) env) scope := ⟨rfl, rfl, rfl, rfl, rfl⟩
  have frame : ∀ h m, Keep s₁.heap h → h.Ns (I + 2) m → FrOk c.X s₁.heap (compEnvC scope (clOf env.cells scope.names []) (I + 2) env) h ν := fun h m hk hn => by
    refine ⟨⟨hkind, F.glob, F.blt, ⟨m, hn, fun x d e l => ?_⟩, fun x d e l => ?_⟩, hk, by show s₁.heap.objs.size ≤ I + 2; omega, (fun q => nomatch q), (fun q => nomatch q), (fun q => nomatch q)⟩
    · have := (hν x d e).2.2.2
      rw [show Env.kindOf (compEnvC scope (clOf env.cells scope.names []) (I + 2) env) x = (relabelS scope env.scope).names.lookup x from rfl, this] at l
      cases l
    · obtain ⟨e1, e2, e3, _⟩ := hν x d e
      obtain ⟨cc, v, a, b, r⟩ := F.cell x d e1 e3
      exact ⟨cc, v, clOf_lookup e2 a, b.keeps hk, r.up (Keep.seq hk)⟩
  have loop : ∀ s₃ : Shared, s₃ = { s₁ with heap := h₁, toks := s₁.toks + ([] : List (Str × Value)).length } →
      codeAny (model c.prog c.w) A (.compLoop (.SetComp elt [⟨target, iter, [], 0⟩] scope pos) 0 (.ref I) (.ref (I + 1)) (compEnvC scope (clOf env.cells scope.names []) (I + 2) env)) (RR (.ref (I + 1)) (I + 2)) s₃ := by
    rintro s₃ rfl
    refine codeAny_loop rfl (fun k s' => ∃ i h tk m, s' = { s₁ with heap := h, toks := tk } ∧ k = ds.length + 1 - i ∧ i ≤ ds.length ∧ St i h ∧ Keep s₁.heap h ∧ h.Ns (I + 2) m ∧ h.get? (I + 1) = some (if i = 0 then set0 led else set1 led)) ?_ (ds.length + 1)
      ⟨0, h₁, _, _, rfl, rfl, Nat.zero_le _, st₁, old, hns₁, hD₁⟩
    rintro k s' ⟨i, h, tk, m, rfl, rfl, hle, st, hk, hn, hl⟩
    show wpAny _ A ((compTurn (.SetComp elt [⟨target, iter, [], 0⟩] scope pos) 0 (.ref I) (.ref (I + 1)) _).onRaise (fun x => do noteFrame x _; theTreesLotGoes x)) _ _ _
    refine wpAny_noted ?_
    rw [compTurn_set]
    obtain ⟨oI, us, T, hoI, hdI, hcI, hTI⟩ := W.obj i h st
    have keepB : ∀ h', ButI I h h' → Keep s₁.heap h' := fun h' kb b o e => kb b o (neN (by have := ltN (Heap.lt_size e); omega)) (hk b o e)
    refine wpAny_bind (wpAny_standAt (wpAny_bind ?_))
    by_cases hi' : i < ds.length
    · have he : ds[i]? = some ds[i] := List.getElem?_eq_getElem hi'
      refine W.item i ds[i] _ _ _ he st hk fun v h₂ t₂ st₂ kb₂ rv => ?_
      obtain ⟨oI', us', T', hoI', hdI', hcI', hTI'⟩ := W.obj _ h₂ st₂
      have hk₂ := keepB h₂ kb₂
      have hn₂ : h₂.Ns (I + 2) m := hn.extBut (fun b o hb e => kb₂ b o hb e) (neN (by omega))
      have hl₂ := kb₂ (I + 1) _ (neN (by omega)) hl
      have hmem : ds[i] ∈ ds := List.getElem_mem hi'
      refine wpAny_bind (letOwned_ok (c := c) hoI' hdI' hcI' hTI' ?_)
      refine wpAny_bind (wpAny_mono (ht _ CE _ hmem s₁.heap ν _ _ _ (frame h₂ m hk₂ hn₂) (rv _ fun a q => .inl q)) (fun _ s₄ q => ?_) fun _ _ e => e)
      obtain ⟨h₃, t₃, rfl, kp₃, F₃⟩ := q
      obtain ⟨m₃, hn₃, _⟩ := F₃.ok.ns
      have hI₃ : ∀ o, h₂.get? I = some o → h₃.get? I = some o := fun o e => kp₃ I o e (fun _ _ q => by rw [hoI'] at e; cases e; rw [hdI'] at q; cases q) (fun _ q => by rw [hoI'] at e; cases e; rw [hdI'] at q; cases q)
      have st₃ := W.mono _ _ h₃ st₂ F₃.keep hI₃
      have hl₃ := kp₃ (I + 1) _ hl₂ (by intro _ _; split <;> simp) (by intro _; split <;> simp)
      refine wpAny_bind (wpAny_bind ((hb _ CE _ hmem _ (Gd.up G F₃.keep) F₃.ok).use fun y s₅ k₅ ry => wpAny_bind (wpAny_standAt ?_)))
      obtain ⟨h₅, t₅, rfl, k₅⟩ := k₅
      obtain rfl := ry.invB
      have F₅ := F₃.up k₅
      have hl₅ := k₅ _ _ hl₃
      have st₅ := W.mono _ _ h₅ st₃ F₅.keep fun o e => k₅ _ _ e
      have fin : ∀ h₆ t₆, Heap.SameBut (I + 1) h₅ h₆ → h₆.get? (I + 1) = some (set1 led) → ∃ m, m < ds.length + 1 - i ∧ ∃ i h tk m_1, ({ s₁ with heap := h₆, toks := t₆ } : Shared) = { s₁ with heap := h, toks := tk } ∧ m = ds.length + 1 - i ∧ i ≤ ds.length ∧ St i h ∧ Keep s₁.heap h ∧ h.Ns (I + 2) m_1 ∧ h.get? (I + 1) = some (if i = 0 then set0 led else set1 led) := fun h₆ t₆ sb hD => by
        have k6 : Keep s₁.heap h₆ := fun b o e => sb.extBut b o (neN (by have := ltN (Heap.lt_size e); omega)) (F₅.keep b o e)
        refine ⟨ds.length + 1 - (i + 1), by omega, i + 1, h₆, t₆, m₃, rfl, rfl, hi', W.mono _ _ h₆ st₅ k6 fun o e => sb.extBut I o (neN (by omega)) e, k6, (hn₃.keeps k₅).extBut (fun b o hb e => sb.extBut b o hb e) (by show (I + 2 : Nat) ≠ I + 1; omega), ?_⟩
        rw [if_neg (by omega)]; exact hD
      by_cases hi0 : i = 0
      · rw [if_pos hi0] at hl₅
        exact wpAny_bind (set_add_first hl₅ fun h₆ sb hD => wpAny_pure (wpAny_pure ⟨rfl, fin h₆ _ sb hD⟩))
      · rw [if_neg hi0] at hl₅
        exact wpAny_bind (set_add_again hl₅ (wpAny_pure (wpAny_pure ⟨rfl, fin h₅ _ (Heap.SameBut.refl _ _) hl₅⟩)))
    · have hie : i = ds.length := by omega
      subst hie
      refine W.done _ _ _ st hk fun h₂ t₂ kb₂ => wpAny_pure ?_
      refine hRR (I + 1) (I + 2) h₂ t₂ m (fresh _ (by omega)) (fresh _ (by omega)) (hn.extBut (fun b o hb e => kb₂ b o hb e) (neN (by omega))) (keepB h₂ kb₂) ?_
      rw [if_neg (by omega)] at hl
      exact kb₂ (I + 1) _ (neN (by omega)) hl
  exact compStart_set (loop _ rfl) (W.self 0 _ _ _ st₁ (loop _ rfl))

/-- what a set comprehension of Trues asks -/
structure SetOk (c : Cx) (A : Around) (env : Env) (μ : Sto) (elt target : Expr) (scope : Scope) (ds : List D) (f : D → Sto) (ν : Sto) : Prop where
  nonempty : 0 < ds.length
  seen : ∀ x d, ν.lookup x = some d → μ.lookup x = some d ∧ (x, NameKind.free) ∈ scope.names ∧ (env.kindOf x = some .cell ∨ env.kindOf x = some .free) ∧ (relabelS scope env.scope).names.lookup x = some .cell
  free : ∀ n, (n, NameKind.free) ∈ scope.names → (env.cells.lookup n).isSome = true
  nocell : ∀ y ∈ scope.names, y.2 ≠ .cell
  kind : scope.kind = .function
  names : ∀ y ∈ scope.names, y.2 = .local → scope.names.lookup y.1 = some .local
  target : ∀ cenv, CompEnv c env cenv scope → ∀ e ∈ ds, Asg c A cenv target e (f e)
  body : ∀ cenv, CompEnv c env cenv scope → ∀ e ∈ ds, EvE c A cenv (f e ++ ν) elt (.bool true)

theorem ex1_setcomp {y : Str} {py tp spos : Pos} {n : Nat} {elt target iter : Expr} {scope : Scope} {pos : Pos} {d0 : D} {ds : List D} {f : D → Sto} {ν : Sto} (hh : A.handled = none) (hi : EvE c A env μ iter d0) (hIts : ∀ s v, c.G s.heap → Rep c.X s.heap v d0 → Its c A s v ds)
    (h : SetOk c A env μ elt target scope ds f ν) (hy : CanSt env y) (hs : ∀ x, foldedSetIterable iter env x = pure x := by intro _; rfl)
    (hsw : swapsWithSole [.Tuple [.Name y py] n tp] (.SetComp elt [⟨target, iter, [], 0⟩] scope pos) spos.line env = pure false := by rfl)
    (hst : swappedStores [.Tuple [.Name y py] n tp] (.SetComp elt [⟨target, iter, [], 0⟩] scope pos) env = pure none := by rfl) :
    Ex1 c A base env μ (.Assign [.Tuple [.Name y py] n tp] (.SetComp elt [⟨target, iter, [], 0⟩] scope pos) spos) (.next ((y, .bool true) :: μ)) := fun s E G F => by
  refine Assign_Tuple ?_ hsw hst
  rw [arm_eval_SetComp]
  refine wpAny_comprehension_free (use := none) rfl hs (closureFor_cl h.free) h.kind h.names ((hi s (G.up F.keep) F.ok).use fun v s₁ k₁ r₁ => ?_)
  have F₁ := F.up (keeps_keep k₁)
  have G₁ := Gd.up G F₁.keep
  refine hIts s₁ v G₁ r₁ _ _ fun ob St W st₀ => ?_
  refine comp_core_set (RR := fun acc C => compPost (model c.prog c.w) A E none (fun v s₁ => wpAny (model c.prog c.w) A (assign (.Tuple [.Name y py] n tp) env v) (fun _ s₂ => Went c.X base env s (.next ((y, .bool true) :: μ)) .next s₂) E s₁) acc C) W st₀ G₁ F₁.ok h.nonempty h.seen h.nocell h.kind h.target h.body ?_
  intro D C h' tk m' hD hC hn hk hset
  refine ⟨m', hn, fun h'' hs'' => ?_⟩
  have hDC : D ≠ C := by
    rintro rfl
    obtain ⟨oC, es, ep, hoC, hdC, _⟩ := hn
    rw [hset] at hoC; cases hoC; cases hdC
  have k2 : Keep s₁.heap h'' := fun b o e => hs''.extBut b o (by rintro rfl; rw [hC] at e; cases e) (hk b o e)
  have hset' := hs''.extBut D _ hDC hset
  show wpAny _ A (assign (.Tuple [.Name y py] n tp) env (.ref D)) _ _ _
  rw [arm_assign_Tuple]
  refine wpAny_bind (wpAny_standAt ?_)
  show wpAny _ A (unpack (.ref D) [(false, assign (.Name y py) env)]) _ _ _
  unfold unpack
  refine wpAny_bind (wpAny_holding (unpack_set1 hh rfl hset' fun h₃ he₃ => ?_))
  have k3 : Keep s₁.heap h₃ := fun b o e => he₃ b o (Nat.ne_of_lt (Heap.lt_size (k2 b o e))) (k2 b o e)
  have F₃ := F₁.up k3
  show wpAny _ A (do holding [] (assign (.Name y py) env (.bool true)); assignInOrder [] []) _ _ _
  refine wpAny_bind (wpAny_holding (PyProof.Rows.assign_Name (wpAny_mono (store_ok (c := c) F₃ hy (.bool true)) (fun _ s₄ q => ?_) fun _ _ e => e)))
  obtain ⟨h₄, t₄, rfl, k₄, F₄⟩ := q
  exact wpAny_pure (Went.of (kp_of_keeps k₁) ⟨h₄, t₄, rfl, (Keep.kp k3).trans k₄, rfl, F₄⟩)
end
end Mine
end

section -- S6
open PySem PySem.W PyProof.Rows PySem.Builtin PySem.Builtin.Str
set_option Elab.async false
set_option maxRecDepth 100000
set_option linter.unusedVariables false
set_option autoImplicit false
namespace Mine
open AutoSeq1 (wpAny_loadPart')
theorem meets_enum_new (l : Addr) (items : Array Value) :
    Meets (Builtin.«enumerate.__new__» ⟨[.type "enumerate", .ref l], []⟩) (fun _ R s => s.heap.IsList l items ∧
      R (.ok (.ret (.ref (s.heap.push { cls := .type "list_iterator", data := .fields #[.ref l, .int 0 0] }).objs.size)))
        { s with heap := (s.heap.push { cls := .type "list_iterator", data := .fields #[.ref l, .int 0 0] }).push { cls := .type "enumerate", data := .fields #[.none, .bool false, .ref s.heap.objs.size, rawInt 0, .none, .none] } }) :=
  .of_wp fun prog w A R s h => by
    obtain ⟨hp, g, d, tk, os⟩ := s; obtain ⟨hL, h⟩ := h
    have hsub := sub_enumerate
    obtain ⟨ol, hol, hcl, nl, hdl⟩ := id hL
    wp_walk using wpAny_loadPart' hol
    refine wpAny_stack_any fun st => wpAny_pure ?_
    split
    · rename_i c _ _ _ _ _
      cases (c == Value.type "enumerate")
      · wp_walk using wpAny_loadPart' hol, wpAny_pyIter_list hL
        exact ⟨_, rfl, h⟩
      · wp_walk using wpAny_loadPart' hol, wpAny_pyIter_list hL
        exact ⟨_, rfl, h⟩
    · wp_walk using wpAny_loadPart' hol, wpAny_pyIter_list hL
      exact ⟨_, rfl, h⟩
section
variable {c : Cx} {A : Around} {env : Env} {μ : Sto} {base : Heap} {o : Out}
theorem call_enum {l : Addr} {items : Array Value} {s : Shared} {Q : Value → Shared → Prop} {E : Value → Shared → Prop} (hl : s.heap.IsList l items)
    (h : ∀ h', IsEnum h' (s.heap.objs.size + 1) s.heap.objs.size 0 .none → h'.IsListIter s.heap.objs.size l 0 → Keep s.heap h' → Q (.ref (s.heap.objs.size + 1)) { s with heap := h' }) :
    wpAny (model c.prog c.w) A (call (.type "enumerate") [.ref l]) Q E s := by
  refine callType_new PySem.F.called_enumerate (by decide) (PySem.F.typeCall_enumerate_1 _) (PySem.F.newCall_enumerate_1 _) (fun obj => PySem.F.args_object_init_2 obj _) PySem.F.entry_enumerate_new (meets_enum_new l items) ⟨hl, ?_⟩
  have hz : (s.heap.push { cls := .type "list_iterator", data := .fields #[.ref l, .int 0 0] }).objs.size = s.heap.objs.size + 1 := Heap.size_push ..
  have he := Heap.get?_push_size (s.heap.push { cls := .type "list_iterator", data := .fields #[.ref l, .int 0 0] })
      (o := { cls := .type "enumerate", data := .fields #[.none, .bool false, .ref s.heap.objs.size, rawInt 0, .none, .none] }) rfl
  show _ ∧ _
  rw [hz] at he ⊢
  exact ⟨⟨_, he, rfl⟩, h _ he ⟨_, Heap.get?_push_of_some _ (Heap.get?_push_size _ rfl), rfl, rfl⟩ fun b o x => Heap.get?_push_of_some _ (Heap.get?_push_of_some _ x)⟩

theorem FrOk.butP {P : Addr → Prop} {h h' : Heap} (F : FrOk c.X base env h μ) (k : ∀ b o, ¬ P b → h.get? b = some o → h'.get? b = some o) (hP : ∀ b, P b → ∃ ob us, h.get? b = some ob ∧ ob.data = .fields us) (hb : ∀ b, P b → base.get? b = none) : FrOk c.X base env h' μ := by
  have sk : SeqKeep h h' := fun b o xs n e d => k b o (fun q => by obtain ⟨ob, us, e', d'⟩ := hP b q; rw [e'] at e; cases e; rw [d'] at d; cases d) e
  have ce : ∀ cc v, h.IsCell cc v → h'.IsCell cc v := fun cc v ⟨oc, e, d⟩ => ⟨oc, k cc oc (fun q => by obtain ⟨ob, us, e', d'⟩ := hP cc q; rw [e'] at e; cases e; rw [d'] at d; cases d) e, d⟩
  obtain ⟨m, hn, hv⟩ := F.ok.ns
  obtain ⟨oL, es, ep, hoL, hdL, hr⟩ := id hn
  refine ⟨⟨F.ok.kind, F.ok.glob, F.ok.blt, ⟨m, ⟨oL, es, ep, k _ _ (fun q => by obtain ⟨ob, us, e', d'⟩ := hP _ q; rw [e'] at hoL; cases hoL; rw [d'] at hdL; cases hdL) hoL, hdL, hr⟩, fun x d e l => ?_⟩, fun x d e l => ?_⟩, fun b o e => ?_, F.lo, F.clo, fun z n cc hm => ?_, F.cap⟩
  · obtain ⟨v, a, r⟩ := hv x d e l
    exact ⟨v, a, r.up sk⟩
  · obtain ⟨cc, v, a, b, r⟩ := F.ok.cell x d e l
    exact ⟨cc, v, a, ce _ _ b, r.up sk⟩
  · exact k b o (fun q => by rw [hb b q] at e; cases e) (F.keep b o e)
  · obtain ⟨v, q⟩ := F.cex z n cc hm
    exact ⟨v, ce _ _ q⟩
theorem Kp.fld {h h' : Heap} (k : Kp h h') {b : Addr} {o : Obj} {us : Array Value} (e : h.get? b = some o) (d : o.data = .fields us) : h'.get? b = some o :=
  k b o e (fun _ _ q => by rw [d] at q; cases q) (fun _ q => by rw [d] at q; cases q)

/-- for over enumerate of a list, with break -/
theorem for_enum {xi xv en : Str} {pi pv tp p1 p2 pos : Pos} {n : Nat} {ex : Expr} {body : List Stmt} {ds : List D} (J : Nat → Sto) (R : Nat → Prop) (νf : Sto) (hh : A.handled = none) (hen : EvE c A env μ (.Name en p1) (.val (.type "enumerate"))) (hxs : EvE c A env μ ex (.list ds))
    (hxi : CanSt env xi) (hxv : CanSt env xv) (h0 : ∀ x d, (J 0).lookup x = some d → μ.lookup x = some d) (hR0 : R 0)
    (turn : ∀ i e, R i → ds[i]? = some e → (∃ ν, ExS c A base env ((xv, e) :: (xi, .int i) :: J i) body (.next ν) ∧ (∀ x d, (J (i + 1)).lookup x = some d → ν.lookup x = some d) ∧ R (i + 1)) ∨
      (∃ ν, ExS c A base env ((xv, e) :: (xi, .int i) :: J i) body (.brk ν) ∧ ∀ x d, νf.lookup x = some d → ν.lookup x = some d))
    (hend : R ds.length → ∀ x d, νf.lookup x = some d → (J ds.length).lookup x = some d)
    (hst : ∀ rest, starEach (ex :: rest) env = (false, eval ex env) :: starEach rest env := by intro _; rfl)
    (hp : (backTo p2 (starEach [ex] env)).any (·.1) = false := by rfl)
    (hs : ∀ x, foldedSetIterable (.Call (.Name en p1) [ex] [] p2) env x = pure x := by intro _; rfl) :
    Ex1 c A base env μ (.For (.Tuple [.Name xi pi, .Name xv pv] n tp) (.Call (.Name en p1) [ex] [] p2) body [] pos) (.next νf) := fun s E G F => by
  refine wpAny_For ?_ hs
  refine wpAny_Call_Name_kw ((hen s (G.up F.keep) F.ok).use fun v s₀ k₀ r₀ => ?_)
  cases r₀
  have F₀ := F.up (keeps_keep k₀)
  refine PySem.callWith_type hp (wpAny_mono (evalArgs_L (evl1 hxs hst) (G.up F₀.keep) F₀.ok hp) (fun a s₁ q => ?_) fun _ _ e => e)
  obtain ⟨hkw, k₁, ra⟩ := q
  obtain ⟨v1, vs1, e1, r1, ra⟩ := ra.inv
  obtain rfl := ra.invN
  rw [hkw, e1]
  obtain ⟨l, vs, rfl, _, hl, rv⟩ := r1.invL
  have F₁ := F₀.up (keeps_keep k₁)
  have k01 := keeps_trans k₀ k₁
  refine call_enum (c := c) hl fun h₂ he₂ hit₂ hk₂ => ?_
  refine wpAny_pyIter_enum he₂ ?_
  have hlen := rv.length
  have hll : l < s₁.heap.objs.size := by obtain ⟨o, ho, _⟩ := hl; exact Heap.lt_size ho
  have hF₂ : FrOk c.X base env h₂ (J 0) := (F₁.up hk₂).sub h0
  have hlow : ∀ {b : Addr} {o : Obj}, s₁.heap.get? b = some o → b ≠ s₁.heap.objs.size ∧ b ≠ s₁.heap.objs.size + 1 := fun e => by
    have := Heap.lt_size e
    exact ⟨Nat.ne_of_lt this, Nat.ne_of_lt (Nat.lt_succ_of_lt this)⟩
  have hlow' := fun {b : Addr} {o : Obj} (e : base.get? b = some o) => hlow (F₁.keep b o e)
  have hei : (s₁.heap.objs.size + 1 : Nat) ≠ s₁.heap.objs.size := by omega
  have hle : l ≠ s₁.heap.objs.size + 1 := Nat.ne_of_lt (Nat.lt_succ_of_lt hll)
  have hli : l ≠ s₁.heap.objs.size := Nat.ne_of_lt hll
  generalize s₁.heap.objs.size = it at *
  generalize hee : it + 1 = e at *
  have hbP : ∀ b, (b = e ∨ b = it) → base.get? b = none := fun b hb => by
    cases q : base.get? b with
    | none => rfl
    | some ob' => rcases hb with rfl | rfl; exact absurd rfl (hlow' q).2; exact absurd rfl (hlow' q).1
  refine codeAny_loop' rfl (fun k s' => ∃ i h tk old, s' = { s₁ with heap := h, toks := tk } ∧ k = ds.length + 1 - i ∧ i ≤ ds.length ∧ R i ∧ IsEnum h e it ((i : Nat) : Int) old ∧ h.IsListIter it l i ∧ Kp s₁.heap h ∧ FrOk c.X base env h (J i)) ?_ (ds.length + 1)
    ⟨0, h₂, s₁.toks, _, rfl, rfl, Nat.zero_le _, hR0, he₂, hit₂, Keep.kp hk₂, hF₂⟩
  rintro k s' ⟨i, H, tk, old, rfl, rfl, hile, hRi, he, hit, kp, Fi⟩
  show wpAny _ _ ((forTurn (.Tuple [.Name xi pi, .Name xv pv] n tp) (.ref e) body [] env).onRaise (fun x => do noteFrame x env; theTreesLotGoes x)) _ _ _
  refine wpAny_noted ?_
  have hlH : H.IsList l vs.toArray := isList_seqKeep kp.seq hl
  have hPf : ∀ b, (b = e ∨ b = it) → ∃ ob us, H.get? b = some ob ∧ ob.data = .fields us := fun b hb => by
    rcases hb with rfl | rfl
    · exact ⟨_, _, he, rfl⟩
    · obtain ⟨oi, hoi, _, hdi⟩ := hit; exact ⟨oi, _, hoi, hdi⟩
  simp only [forTurn]
  refine wpAny_bind (wpAny_standAt (wpAny_bind (wpAny_onRaise ?_)))
  by_cases hi' : i < ds.length
  · have hv : i < vs.length := by omega
    obtain ⟨d, hd, rd⟩ := rv.getV (k := i) (v := vs[i]) (List.getElem?_eq_getElem hv)
    refine wpAny_pyNext_enum_item he hit hlH (x := vs[i]) (by simp [hv]) hei fun h₃ heo hit₃ ht₃ hz₃ hk₃ => ?_
    have F₃ : FrOk c.X base env h₃ (J i) := Fi.butP (P := fun b => b = e ∨ b = it) (fun b o nb x => hk₃ b o (fun q => nb (.inl q)) (fun q => nb (.inr q)) x) hPf hbP
    have kp₃ : Kp s₁.heap h₃ := fun b o x nd nc => hk₃ b o (hlow x).2 (hlow x).1 (kp b o x nd nc)
    refine wpAny_bind (wpAny_letOwnedTupleGo_enum heo fun h₄ he₄ hs₄ => ?_)
    have hs₄' : ∀ b o, b ≠ e → h₃.get? b = some o → h₄.get? b = some o := fun b o hb x => Heap.SameBut.extBut hs₄ b o hb x
    have F₄ : FrOk c.X base env h₄ (J i) := F₃.butP (P := fun b => b = e) (fun b o nb x => hs₄' b o nb x) (fun b hb => by subst hb; exact ⟨_, _, heo, rfl⟩) fun b hb => hbP b (.inl hb)
    have kp₄ : Kp s₁.heap h₄ := fun b o x nd nc => hs₄' b o (hlow x).2 (kp₃ b o x nd nc)
    have hHe : H.objs.size ≠ e := Nat.ne_of_gt (Heap.lt_size he)
    have ht₄ := hs₄' _ _ hHe ht₃
    have hit₄ : h₄.IsListIter it l (i + 1) := by
      obtain ⟨oi, hoi, q⟩ := hit₃
      exact ⟨oi, hs₄' _ _ (Ne.symm hei) hoi, q⟩
    have rt : Rep c.X h₄ (.ref H.objs.size) (.tuple [.int i, d]) := .tuple (vs := [.int i tk, vs[i]]) ⟨_, ht₄, rfl, 0, rfl⟩ (.cons (.int _ _) (.cons (rd.up kp₄.seq) .nil))
    refine wpAny_bind (wpAny_mono (assign_tuple_D (c := c) (xs := [(xi, pi), (xv, pv)]) hh F₄ (.inr rt) (fun p hp => ?_) rfl) (fun _ s₅ q => ?_) fun _ _ e => e)
    · simp only [List.mem_cons, List.not_mem_nil, or_false] at hp
      rcases hp with rfl | rfl
      · exact hxi
      · exact hxv
    obtain ⟨h₅, t₅, rfl, k₅, F₅⟩ := q
    have F₅' : FrOk c.X base env h₅ ((xv, d) :: (xi, .int i) :: J i) := F₅
    have kp₅ : Kp s₁.heap h₅ := kp₄.trans k₅
    rcases turn i d hRi hd with ⟨ν, hb, hsub, hR⟩ | ⟨ν, hb, hsub⟩
    · refine wpAny_bind (wpAny_mono (hb _ _ G F₅') (fun fl s₆ q => ?_) fun _ _ e => e)
      obtain ⟨h₆, t₆, rfl, k₆, rfl, F₆⟩ := q
      refine wpAny_pure (.inl ⟨rfl, ds.length + 1 - (i + 1), by omega, i + 1, h₆, t₆, vs[i], rfl, rfl, hi', hR, ?_, ?_, kp₅.trans k₆, F₆.sub hsub⟩)
      · have := k₆.fld (k₅.fld he₄ rfl) rfl
        rw [show ((i + 1 : Nat) : Int) = (i : Int) + 1 from by push_cast; rfl]
        exact this
      · obtain ⟨oi, hoi, hci, hdi⟩ := hit₄
        exact ⟨oi, k₆.fld (k₅.fld hoi hdi) hdi, hci, hdi⟩
    · refine wpAny_bind (wpAny_mono (hb _ _ G F₅') (fun fl s₆ q => ?_) fun _ _ e => e)
      obtain ⟨h₆, t₆, rfl, k₆, rfl, F₆⟩ := q
      exact wpAny_pure (Went.of (kp_of_keeps k01) ⟨h₆, t₆, rfl, kp₅.trans k₆, rfl, F₆.sub hsub⟩)
  · have hie : i = ds.length := by omega
    subst hie
    refine wpAny_pyNext_enum_end hh he hit hlH (by simp [hlen]) fun h₃ he₃ => ?_
    have F₃ : FrOk c.X base env h₃ (J ds.length) := Fi.butP (P := fun b => b = it) (fun b o nb x => he₃ b o nb x) (fun b hb => hPf b (.inr hb)) fun b hb => hbP b (.inr hb)
    have kp₃ : Kp s₁.heap h₃ := fun b o x nd nc => he₃ b o (hlow x).1 (kp b o x nd nc)
    refine wpAny_pure (.inr ⟨rfl, codeAny_block (wpAny_execs_nil ?_)⟩)
    exact Went.of (kp_of_keeps k01) ⟨h₃, tk, rfl, kp₃, rfl, F₃.sub (hend hRi)⟩
end
end Mine
end

section -- L1
open PySem PyProof.Rows PySem.Builtin PySem.Builtin.Str
set_option Elab.async false
set_option linter.unusedVariables false
set_option autoImplicit false
namespace Mine
/-- the names in front that both have -/
def lcp : List Str → List Str → List Str
  | x :: xs, y :: ys => if x = y then x :: lcp xs ys else []
  | _, _ => []
theorem lcp_comm : ∀ xs ys : List Str, lcp xs ys = lcp ys xs
  | [], [] => rfl
  | [], _ :: _ => rfl
  | _ :: _, [] => rfl
  | x :: xs, y :: ys => by
    unfold lcp
    by_cases h : x = y
    · subst h; simp [lcp_comm xs ys]
    · rw [if_neg h, if_neg (Ne.symm h)]
theorem lcp_self : ∀ xs : List Str, lcp xs xs = xs
  | [] => rfl
  | x :: xs => by unfold lcp; rw [if_pos rfl, lcp_self xs]
theorem lcp_cut : ∀ {xs ys : List Str} {i : Nat} {x y : Str}, xs.take i = ys.take i → xs[i]? = some x → ys[i]? = some y → x ≠ y → lcp xs ys = xs.take i
  | [], _, _, _, _, _, h, _, _ => by simp at h
  | _ :: _, [], _, _, _, _, _, h, _ => by simp at h
  | a :: xs, b :: ys, 0, x, y, _, hx, hy, hne => by
    simp at hx hy
    subst hx hy
    unfold lcp
    rw [if_neg hne]; rfl
  | a :: xs, b :: ys, i + 1, x, y, ht, hx, hy, hne => by
    simp at ht hx hy
    unfold lcp
    rw [if_pos ht.1, lcp_cut ht.2 hx hy hne]; rfl
theorem lcp_all : ∀ {xs ys : List Str}, xs.take xs.length = ys.take xs.length → lcp xs ys = xs
  | [], _, _ => by cases ‹List Str› <;> rfl
  | a :: xs, [], h => by simp at h
  | a :: xs, b :: ys, h => by
    simp at h
    unfold lcp
    rw [if_pos h.1, lcp_all (by simpa using h.2)]
theorem sLt_irrefl (x : Str) : sLt x x = false := by unfold sLt; simp
theorem sLt_asymm {x y : Str} (h : sLt x y = true) : sLt y x = false := by
  unfold sLt at *
  simp only [decide_eq_true_eq, decide_eq_false_iff_not] at *
  exact List.lt_asymm h
theorem sLt_total {x y : Str} (h : sLt x y = false) (h' : sLt y x = false) : x = y := by
  unfold sLt at *
  simp only [decide_eq_false_iff_not] at *
  have := List.le_antisymm h' h
  cases x; cases y
  simp only [Str.mk.injEq]
  exact Array.toList_inj.mp this
theorem lexLt_irrefl : ∀ xs : List Str, lexLt xs xs = false
  | [] => rfl
  | x :: xs => by unfold lexLt; rw [if_pos rfl, lexLt_irrefl xs]
theorem lexLt_asymm : ∀ {xs ys : List Str}, lexLt xs ys = true → lexLt ys xs = false
  | [], [], h => by simp [lexLt] at h
  | [], _ :: _, _ => rfl
  | _ :: _, [], h => by simp [lexLt] at h
  | x :: xs, y :: ys, h => by
    unfold lexLt at h ⊢
    by_cases e : x = y
    · rw [if_pos e] at h; rw [if_pos e.symm]; exact lexLt_asymm h
    · rw [if_neg e] at h; rw [if_neg (Ne.symm e)]; exact sLt_asymm h
theorem lexLt_total : ∀ {xs ys : List Str}, lexLt xs ys = false → lexLt ys xs = false → xs = ys
  | [], [], _, _ => rfl
  | [], _ :: _, h, _ => by simp [lexLt] at h
  | _ :: _, [], _, h => by simp [lexLt] at h
  | x :: xs, y :: ys, h, h' => by
    unfold lexLt at h h'
    by_cases e : x = y
    · rw [if_pos e] at h; rw [if_pos e.symm] at h'; rw [e, lexLt_total h h']
    · rw [if_neg e] at h; rw [if_neg (Ne.symm e)] at h'; exact absurd (sLt_total h h') e
theorem lex_len : ∀ {xs ys : List Str} {i : Nat}, lexLt ys xs = false → xs.take i = ys.take i → i < xs.length → i < ys.length
  | [], _, _, _, _, h => by simp at h
  | a :: xs, [], _, h, _, _ => by simp [lexLt] at h
  | a :: xs, b :: ys, 0, _, _, _ => by simp
  | a :: xs, b :: ys, i + 1, h, ht, hi => by
    simp at ht hi
    unfold lexLt at h
    rw [if_pos ht.1.symm] at h
    have := lex_len h ht.2 hi
    simp; omega
/-- the lesser and the greater of two -/
theorem minmax {xs ys s1 s2 : List Str} (h1 : s1 = if lexLt ys xs = true then ys else xs) (h2 : s2 = if lexLt xs ys = true then ys else xs) : lexLt s2 s1 = false ∧ lcp s1 s2 = lcp xs ys := by
  subst h1 h2
  cases hb : lexLt ys xs with
  | true =>
    have := lexLt_asymm hb
    rw [this]
    exact ⟨this, lcp_comm _ _⟩
  | false =>
    cases hc : lexLt xs ys with
    | true => exact ⟨hb, rfl⟩
    | false =>
      have := lexLt_total hc hb
      subst this
      exact ⟨hc, rfl⟩
end Mine
end

section -- P5
open PySem PySem.W PyProof.Rows PySem.Builtin PySem.Builtin.Str
set_option Elab.async false
set_option maxRecDepth 100000
set_option linter.unusedVariables false
set_option autoImplicit false
namespace Mine
/-- the names of a path -/
def keeps1 (w : Str) : Bool := ((w.length : Int) != 0) && (w != ".")
def comps (x : Str) : List Str := (Txt.split x "/").filter keeps1
section
variable {c : Cx} {A : Around} {env : Env} {μ : Sto} {base : Heap} {o : Out}
theorem seen_nil {scope : Scope} : ∀ x d, ([] : Sto).lookup x = some d → μ.lookup x = some d ∧ (x, NameKind.free) ∈ scope.names ∧ (env.kindOf x = some .cell ∨ env.kindOf x = some .free) ∧ (relabelS scope env.scope).names.lookup x = some .cell := fun _ _ h => by simp at h
theorem seen_one {scope : Scope} {y : Str} {e : D} (h1 : μ.lookup y = some e) (h2 : (y, NameKind.free) ∈ scope.names) (h3 : env.kindOf y = some .cell ∨ env.kindOf y = some .free) (h4 : (relabelS scope env.scope).names.lookup y = some .cell) :
    ∀ x d, ([(y, e)] : Sto).lookup x = some d → μ.lookup x = some d ∧ (x, NameKind.free) ∈ scope.names ∧ (env.kindOf x = some .cell ∨ env.kindOf x = some .free) ∧ (relabelS scope env.scope).names.lookup x = some .cell := fun x d h => by
  rcases lookup_cons_cases h with ⟨rfl, rfl⟩ | ⟨_, h'⟩
  · exact ⟨h1, h2, h3, h4⟩
  · simp at h'
theorem free_all {names : List (Str × NameKind)} {cs : List (Str × Addr)} (h : names.all (fun p => p.2 != .free || (cs.lookup p.1).isSome) = true) : ∀ n, (n, NameKind.free) ∈ names → (cs.lookup n).isSome = true := fun n hn => by
  have := List.all_eq_true.mp h _ hn
  simpa using this
theorem mem2 {P : D → Prop} {a b : D} (ha : P a) (hb : P b) : ∀ e ∈ [a, b], P e := fun e he => by
  simp only [List.mem_cons, List.not_mem_nil, or_false] at he
  rcases he with rfl | rfl
  · exact ha
  · exact hb
theorem ex1_to {st : Stmt} {μ' : Sto} {z : Str} {d d' : D} (h : Ex1 c A base env μ st (.next ((z, d) :: μ'))) (e : d = d') : Ex1 c A base env μ st (.next ((z, d') :: μ')) := e ▸ h
theorem ev_to {e : Expr} {d d' : D} (h : EvE c A env μ e d) (q : d = d') : EvE c A env μ e d' := q ▸ h
def pk : D → Bool
  | .str w => keeps1 w
  | _ => false
theorem filter_pk (X : List Str) : (((X.map D.str).filter pk).map fun d => d) = (X.filter keeps1).map .str := by
  rw [List.filter_map, List.map_id']
  rfl
theorem lcp_sum : ∀ xs ys : List Str, ((lcp xs ys).map (·.length)).sum + (lcp xs ys).length ≤ (xs.map (·.length)).sum + xs.length
  | [], _ => by simp [lcp]
  | _ :: _, [] => by simp [lcp]
  | x :: xs, y :: ys => by
    unfold lcp
    split
    · have := lcp_sum xs ys
      simp only [List.map_cons, List.sum_cons, List.length_cons]; omega
    · simp
theorem tr_tuple2 {a b : D} : TrC c A (.tuple [a, b]) true := fun s va _ ra E => by
  obtain ⟨t, vs, rfl, ht, r⟩ := ra.invT
  obtain ⟨v1, vs, rfl, _, r⟩ := r.inv
  refine truthy_tuple ht (by have := r.length; simp at this ⊢; omega) ⟨keeps_toks s _, by simp⟩
theorem fc_commonpath {x y : Str} (hA : Okay 8 A) (hx : x.length + 1 < sizeLine) (hy : y.length + 1 < sizeLine) (h1 : Txt.startswith x "/" = true) (h2 : Txt.startswith y "/" = true) :
    FC c A (.ref 156) [.list [.str x, .str y]] (.str ("/" ++ Str.join sl (lcp (comps x) (comps y)))) := by
  refine fc_open (xs := ["paths"]) hA rfl rfl rfl (by kernel_rfl) (bindC_plain ?_) rfl (by decide +kernel) (by decide +kernel) ?_
  · intro vs h
    match vs, h with
    | [a], _ => rfl
  · intro base env A' hA' hs hc hf
    refine exs_cons (ex1_assign (ev_tuple_map (n := 2) (xs := [x, y]) (fn := fun z => z) (hA'.le (by decide)) (bv hs rfl (nb_tuple _) bb_tuple) (ev_map (bv hs rfl (nb_map _) bb_map) (evl2 (ev_global (kOf hs rfl) (ns_fspath _)) (lv hs rfl rfl))) (fun A'' hA'' w hw => fc_fspath (hA''.le (by decide))) (by show 2 ≤ sizeLine; rw [sizeLine_eq]; decide)) (canL hs rfl)) ?_
    refine exs_cons (iff' (evt_not (evt_plain (lv hs rfl rfl) tr_tuple2)) rfl exs_nil) ?_
    refine exs_cons (iff' (evt_plain (ev_call_b (bv hs rfl (nb_isinstance _) bb_isinstance) (evl2 (ev_itemT (lv hs rfl rfl) ev_int (by decide) (by decide) rfl) (bv hs rfl (nb_bytes _) bb_bytes)) fc_isi_bytes) tr_bool) rfl (exs_cons (ex1_assign ev_str (canC hs hc hf rfl rfl)) (exs_cons (ex1_assign ev_str (canC hs hc hf rfl rfl)) exs_nil))) ?_
    refine exs_ret (ex1_try ?_ (fun _ _ => trivial) rfl)
    have hk : env.scope.kind = .function := by rw [hs]
    -- the pieces
    refine exs_cons (ex1_assign_comp (ds := [.str x, .str y]) (f := fun e => [("path", e)]) (ν := [("sep", .str "/")]) (p := fun _ => true) (g := fun d => match d with | .str z => dS (Txt.split z "/") | d => d) (lv hs rfl rfl) (fun s v _ r => its_tuple hA'.handled r)
      ⟨by show 2 ≤ sizeLine; rw [sizeLine_eq]; decide, seen_one rfl (by decide +kernel) (.inl (kOf hs rfl)) (by rw [hs]; rfl), ?_, by decide +kernel, rfl, by decide +kernel, ?_, ?_⟩ (swaps_true hk (kOf hs rfl) rfl rfl) (kOf hs rfl)) ?_
    · rw [hc]; exact free_all rfl
    · intro a cenv CE e _
      have hsc := CE.sc
      rw [hs] at hsc
      exact asg_name (canL hsc rfl)
    · intro a cenv CE
      have hsc := CE.sc
      rw [hs] at hsc
      refine mem2 ⟨.inl ⟨rfl, rfl⟩, fun _ => ?_⟩ ⟨.inl ⟨rfl, rfl⟩, fun _ => ?_⟩
      · exact ev_smeth (lv hsc rfl rfl) F.slot_str_split F.type_str_split (evl1 (cv hsc rfl rfl)) (fc_split' (by omega))
      · exact ev_smeth (lv hsc rfl rfl) F.slot_str_split F.type_str_split (evl1 (cv hsc rfl rfl)) (fc_split' (by omega))
    -- both begin with the slash
    refine exs_cons (ex1_try (exs_cons (ex1_setcomp (ds := [.str x, .str y]) (f := fun e => [("p", e)]) (ν := [("sep", .str "/")]) hA'.handled (lv hs rfl rfl) (fun s v _ r => its_tuple hA'.handled r)
      ⟨Nat.succ_pos _, seen_one rfl (by decide +kernel) (.inl (kOf hs rfl)) (by rw [hs]; rfl), ?_, by decide +kernel, rfl, by decide +kernel, ?_, ?_⟩ (canL hs rfl)) exs_nil) (fun _ _ => trivial) rfl) ?_
    · rw [hc]; exact free_all rfl
    · intro cenv CE e _
      have hsc := CE.sc
      rw [hs] at hsc
      exact asg_name (canL hsc rfl)
    · intro cenv CE
      have hsc := CE.sc
      rw [hs] at hsc
      have q1 := fc_startswith (c := c) (A := A') (x := x) (y := "/")
      have q2 := fc_startswith (c := c) (A := A') (x := y) (y := "/")
      rw [h1] at q1
      rw [h2] at q2
      refine mem2 ?_ ?_
      · exact ev_smeth (lv hsc rfl rfl) F.slot_str_startswith F.type_str_startswith (evl1 (cv hsc rfl rfl)) q1
      · exact ev_smeth (lv hsc rfl rfl) F.slot_str_startswith F.type_str_startswith (evl1 (cv hsc rfl rfl)) q2
    -- the names
    have hX := split_len x
    have hY := split_len y
    refine exs_cons (ex1_to (d' := dSS [comps x, comps y]) (ex1_assign_comp (ds := [dS (Txt.split x "/"), dS (Txt.split y "/")]) (f := fun e => [("s", e)]) (ν := [("curdir", .str ".")]) (p := fun _ => true) (g := fun d => match d with | .list l => .list ((l.filter pk).map fun d => d) | d => d) (lv hs rfl rfl) (fun s v _ r => its_list hA'.handled r)
      ⟨by show 2 ≤ sizeLine; rw [sizeLine_eq]; decide, seen_one rfl (by decide +kernel) (.inl (kOf hs rfl)) (by rw [hs]; rfl), ?_, by decide +kernel, rfl, by decide +kernel, ?_, ?_⟩ (swaps_true hk (kOf hs rfl) rfl rfl) (kOf hs rfl)) ?_) ?_
    · rw [hc]; exact free_all rfl
    · intro a cenv CE e _
      have hsc := CE.sc
      rw [hs] at hsc
      exact asg_name (canL hsc rfl)
    · intro a cenv CE
      have hsc := CE.sc
      rw [hs] at hsc
      have hcc := CE.cells
      rw [hc] at hcc
      have lw : ∀ (z : Str), z.length + 1 < sizeLine → ∀ w ∈ Txt.split z "/", w.length ≤ sizeLine := fun z hz w hw => by
        have := len_le_sum hw
        have := split_len z
        show w.length ≤ sizeLine
        have e : Txt.split z "/" = Txt.split z sl := rfl
        rw [e] at *
        omega
      refine mem2 ⟨.inl ⟨rfl, rfl⟩, fun _ => ?_⟩ ⟨.inl ⟨rfl, rfl⟩, fun _ => ?_⟩
      · refine ev_comp (ds := (Txt.split x "/").map .str) (f := fun e => [("c", e)]) (ν := [("curdir", .str ".")]) (p := pk) (g := fun d => d) (lv hsc rfl rfl) (fun s v _ r => its_list hA'.handled r)
          ⟨by rw [List.length_map]; show (Txt.split x sl).length ≤ sizeLine; omega, seen_one rfl (by decide +kernel) (.inl (kOf hsc rfl)) (by rw [hsc]; rfl), ?_, by decide +kernel, rfl, by decide +kernel, ?_, ?_⟩
        · rw [hcc]; exact free_all rfl
        · intro a' cenv' CE' e _
          have hsc' := CE'.sc
          rw [hsc] at hsc'
          exact asg_name (canL hsc' rfl)
        · intro a' cenv' CE' e he
          have hsc' := CE'.sc
          rw [hsc] at hsc'
          obtain ⟨w, hwZ, rfl⟩ := List.mem_map.mp he
          exact ⟨.inr ⟨_, rfl, evt_and (evt_plain (lv hsc' rfl rfl) (tr_str (lw x hx w hwZ))) (evt_cmp (lv hsc' rfl rfl) (cv hsc' rfl rfl) cmp_ne_str)⟩, fun _ => lv hsc' rfl rfl⟩
      · refine ev_comp (ds := (Txt.split y "/").map .str) (f := fun e => [("c", e)]) (ν := [("curdir", .str ".")]) (p := pk) (g := fun d => d) (lv hsc rfl rfl) (fun s v _ r => its_list hA'.handled r)
          ⟨by rw [List.length_map]; show (Txt.split y sl).length ≤ sizeLine; omega, seen_one rfl (by decide +kernel) (.inl (kOf hsc rfl)) (by rw [hsc]; rfl), ?_, by decide +kernel, rfl, by decide +kernel, ?_, ?_⟩
        · rw [hcc]; exact free_all rfl
        · intro a' cenv' CE' e _
          have hsc' := CE'.sc
          rw [hsc] at hsc'
          exact asg_name (canL hsc' rfl)
        · intro a' cenv' CE' e he
          have hsc' := CE'.sc
          rw [hsc] at hsc'
          obtain ⟨w, hwZ, rfl⟩ := List.mem_map.mp he
          exact ⟨.inr ⟨_, rfl, evt_and (evt_plain (lv hsc' rfl rfl) (tr_str (lw y hy w hwZ))) (evt_cmp (lv hsc' rfl rfl) (cv hsc' rfl rfl) cmp_ne_str)⟩, fun _ => lv hsc' rfl rfl⟩
    · show D.list [.list ((((Txt.split x "/").map D.str).filter pk).map fun d => d), .list ((((Txt.split y "/").map D.str).filter pk).map fun d => d)] = _
      rw [filter_pk, filter_pk]; rfl
    -- the lesser and the greater
    have hu : A'.in1.units < cLine := by have := hA'.units; show A'.units + 1 < cLine; omega
    have hcx : ∀ z : Str, z.length + 1 < sizeLine → (comps z).length ≤ z.length + 1 ∧ ((comps z).map (·.length)).sum + (comps z).length ≤ z.length + 1 := fun z hz => by
      have h1 := split_len z
      have h2 : ∀ l : List Str, ((l.filter keeps1).map (·.length)).sum + (l.filter keeps1).length ≤ (l.map (·.length)).sum + l.length := fun l => by
        induction l with
        | nil => simp
        | cons w l ih =>
          rw [List.filter_cons]
          split
          · simp only [List.map_cons, List.sum_cons, List.length_cons]; omega
          · simp only [List.map_cons, List.sum_cons, List.length_cons]; omega
      have h3 := h2 (Txt.split z sl)
      have e : comps z = (Txt.split z sl).filter keeps1 := rfl
      rw [e]
      omega
    generalize hs1 : (if lexLt (comps y) (comps x) = true then comps y else comps x) = s1
    generalize hs2 : (if lexLt (comps x) (comps y) = true then comps y else comps x) = s2
    obtain ⟨hle, hlcp⟩ := minmax hs1.symm hs2.symm
    refine exs_cons (ex1_to (d' := dS s1) (ex1_assign (ev_call_b (bv hs rfl (nb_min _) bb_min) (evl1 (lv hs rfl rfl)) (fc_min2 (dx := dS (comps x)) (dy := dS (comps y)) hA'.handled (cmp_lt_S hu))) (canL hs rfl)) (by rw [← hs1]; split <;> rfl)) ?_
    refine exs_cons (ex1_to (d' := dS s2) (ex1_assign (ev_call_b (bv hs rfl (nb_max _) bb_max) (evl1 (lv hs rfl rfl)) (fc_max2 (dx := dS (comps x)) (dy := dS (comps y)) hA'.handled (cmp_gt_S hu))) (canL hs rfl)) (by rw [← hs2]; split <;> rfl)) ?_
    have hl1 : s1.length < sizeLine ∧ (s1.map (·.length)).sum + s1.length < sizeLine := by
      have hx' := hcx x hx
      have hy' := hcx y hy
      rw [← hs1]; split <;> omega
    refine exs_cons (ex1_assign (lv hs rfl rfl) (canL hs rfl)) ?_
    -- the loop
    refine exs_cons (for_enum (ds := s1.map .str) (fun _ => [("common", dS s1), ("s1", dS s1), ("s2", dS s2), ("isabs", .bool true), ("sep", .str "/")]) (fun i => s1.take i = s2.take i) [("common", dS (lcp (comps x) (comps y))), ("isabs", .bool true), ("sep", .str "/")] hA'.handled (bv hs rfl (nb_enumerate _) bb_enumerate) (lv hs rfl rfl) (canL hs rfl) (canL hs rfl)
      (sub_cons rfl (sub_cons rfl (sub_cons rfl (sub_cons rfl (sub_cons rfl sub_nil))))) rfl ?_ ?_) ?_
    · intro i e hR he
      rw [List.getElem?_map] at he
      obtain ⟨w, hw, rfl⟩ := Option.map_eq_some_iff.mp he
      have hi1 : i < s1.length := (List.getElem?_eq_some_iff.mp hw).1
      have hi2 : i < s2.length := lex_len hle hR hi1
      have hv : s2[i]? = some s2[i] := List.getElem?_eq_getElem hi2
      have hi63 : (i : Int) < 2 ^ 63 := by have := hl1.1; rw [sizeLine_eq] at this; omega
      have test := fun (ν : Sto) (h1 : ν.lookup (Str.ofString "c") = some (.str w)) (h2 : ν.lookup (Str.ofString "s2") = some (dS s2)) (h3 : ν.lookup (Str.ofString "i") = some (.int i)) (p1 p2 p3 p4 p5 : Pos) =>
        (evt_cmp (c := c) (A := A') (pos := p5) (lv (pos := p1) hs rfl h1) (ev_item (pos := p4) (lv (pos := p2) hs rfl h2) (lv (pos := p3) hs rfl h3) (Int.natCast_nonneg i) hi63 (d := .str s2[i]) (by rw [Int.toNat_natCast, List.getElem?_map, hv]; rfl)) cmp_ne_str)
      by_cases hwv : w = s2[i]
      · refine .inl ⟨_, exs_cons (iff' (test _ rfl rfl rfl _ _ _ _ _) (by simp [hwv]) exs_nil) exs_nil, sub_cons rfl (sub_cons rfl (sub_cons rfl (sub_cons rfl (sub_cons rfl sub_nil)))), ?_⟩
        rw [List.take_add_one, List.take_add_one, hR, hw, hv, hwv]
      · refine .inr ⟨_, exs_brk (ift (test _ rfl rfl rfl _ _ _ _ _) (by simp [hwv]) (exs_cons (ex1_to (d' := dS (lcp (comps x) (comps y))) (ex1_assign (ev_slice_list (lv hs rfl rfl) .none (.some (lv hs rfl rfl)) (by rw [List.length_map]; omega) (pick_upto (Int.natCast_nonneg i))) (canL hs rfl)) ?_) (exs_brk ex1_brk))), sub_cons rfl (sub_cons rfl (sub_cons rfl sub_nil))⟩
        rw [← hlcp, lcp_cut hR hw hv hwv, Int.toNat_natCast, ← List.map_take]
    · intro hR
      rw [List.length_map] at hR
      rw [← hlcp, lcp_all hR]
      exact sub_cons rfl (sub_cons rfl (sub_cons rfl sub_nil))
    have hls := lcp_sum (comps x) (comps y)
    have hxx := hcx x hx
    have hjl := join_len_le (lcp (comps x) (comps y))
    have hl1' : (Str.ofString "/").length = 1 := by decide +kernel
    refine exs_cons (ex1_assign (ev_ife_t (evt_plain (lv hs rfl rfl) tr_bool) (cv hs rfl rfl)) (canL hs rfl)) ?_
    exact exs_ret (ex1_ret (ev_bin (lv hs rfl rfl) (ev_smeth (cv hs rfl rfl) F.slot_str_join F.type_str_join (evl1 (lv hs rfl rfl)) (fc_join' (by omega))) (bin_add_str (by omega))))
end
end Mine
end

section -- P6
open PySem PySem.W PyProof.Rows PySem.Builtin PySem.Builtin.Str
set_option Elab.async false
set_option maxRecDepth 100000
set_option linter.unusedVariables false
set_option autoImplicit false
namespace Mine
/-- a book: for each folder its key and how it is spelled -/
abbrev dBk (b : List (Str × Str)) : D := .list (b.map fun p => dS [p.1, p.2])
def fst' : D → Str
  | .list (.str a :: _) => a
  | _ => ""
def snd' : D → D
  | .list [_, b] => b
  | d => d
def kept (b : List (Str × Str)) (key : Str) : List Str := (b.filter fun p => p.1 == key).map (·.2)
def below (top key : Str) : Bool := ("/" ++ Str.join sl (lcp (comps top) (comps key))) == top
section
variable {c : Cx} {A : Around} {env : Env} {μ : Sto} {base : Heap} {o : Out}
theorem fc_below {x y : Str} (hA : Okay 9 A) (hx : x.length + 1 < sizeLine) (hy : y.length + 1 < sizeLine) (h1 : Txt.startswith x "/" = true) (h2 : Txt.startswith y "/" = true) :
    FC c A (.ref 173) [.str x, .str y] (.bool (below x y)) := by
  refine fc_open (xs := ["top", "key"]) hA rfl rfl rfl (by kernel_rfl) (bindC_plain ?_) rfl (by decide +kernel) (by decide +kernel) ?_
  · intro vs h
    match vs, h with
    | [a, b], _ => rfl
  · intro base env A' hA' hs hc hf
    exact exs_ret (ex1_ret (ev_cmp (gf hs rfl (ns_commonpath _) fnk_commonpath (evl1 (ev_list (evl2 (lv hs rfl rfl) (lv hs rfl rfl)) (by show 2 ≤ sizeLine; rw [sizeLine_eq]; decide))) (fc_commonpath hA' hx hy h1 h2)) (lv hs rfl rfl) cmp_eq_str))
theorem kept_eq (b : List (Str × Str)) (key : Str) : ((((b.map fun p => dS [p.1, p.2]).filter fun d => fst' d == key).map snd')) = (kept b key).map .str := by
  unfold kept
  rw [List.filter_map, List.map_map, List.map_map]
  rfl
theorem fc_kept {b : List (Str × Str)} {key : Str} (hA : Okay 1 A) (hb : b.length ≤ sizeLine) : FC c A (.ref 166) [dBk b, .str key] (dS (kept b key)) := by
  refine fc_open (xs := ["book", "key"]) hA rfl rfl rfl (by kernel_rfl) (bindC_plain ?_) rfl (by decide +kernel) (by decide +kernel) ?_
  · intro vs h
    match vs, h with
    | [a, b], _ => rfl
  · intro base env A' hA' hs hc hf
    refine exs_ret (ex1_ret (ev_to (ev_comp (ds := b.map fun p => dS [p.1, p.2]) (f := fun d => [("spelled", snd' d), ("one", .str (fst' d))]) (ν := [("key", .str key)]) (p := fun d => fst' d == key) (g := snd') (lv hs rfl rfl) (fun s v _ r => its_list hA'.handled r)
      ⟨by rw [List.length_map]; exact hb, seen_one rfl (by decide +kernel) (.inl (kOf hs rfl)) (by rw [hs]; rfl), ?_, by decide +kernel, rfl, by decide +kernel, ?_, ?_⟩) (by rw [kept_eq])))
    · rw [hc]; exact free_all rfl
    · intro a cenv CE e he
      have hsc := CE.sc
      rw [hs] at hsc
      obtain ⟨p, _, rfl⟩ := List.mem_map.mp he
      exact asg_tuple (xs := [("one", _), ("spelled", _)]) (ds := [.str p.1, .str p.2]) hA'.handled (.inl rfl) (canAll_cons (canL hsc rfl) (canAll_cons (canL hsc rfl) canAll_nil)) rfl
    · intro a cenv CE e he
      have hsc := CE.sc
      rw [hs] at hsc
      obtain ⟨p, _, rfl⟩ := List.mem_map.mp he
      exact ⟨.inr ⟨_, rfl, evt_cmp (lv hsc rfl rfl) (cv hsc rfl rfl) cmp_eq_str⟩, fun _ => lv hsc rfl rfl⟩
end
end Mine
end

section -- P7
open PySem PySem.W PyProof.Rows PySem.Builtin PySem.Builtin.Str
set_option Elab.async false
set_option maxRecDepth 100000
set_option linter.unusedVariables false
set_option autoImplicit false
namespace Mine
def mapS (f : Str → Str) : D → D
  | .str w => .str (f w)
  | d => d
theorem mapS_eq (f : Str → Str) (l : List Str) : (((l.map D.str).filter fun _ => true).map (mapS f)) = (l.map f).map .str := by
  rw [List.filter_eq_self.mpr (by simp), List.map_map, List.map_map]
  rfl
def capS (w : Str) : Str := Txt.upper (Txt.slice w none (some 1)) ++ Txt.lower (Txt.slice w (some 1) none)
/-- one piece of a path -/
def wstep (way : List Str) (piece : Str) : List Str :=
  if piece = ".." then way.dropLast else if piece ≠ "" ∧ piece ≠ "." then way ++ [piece] else way
def wayOf (here : List Str) (path : Str) : List Str := (Txt.split path "/").foldl wstep (if Txt.slice path none (some 1) = "/" then [] else here)
theorem wstep_len (way : List Str) (p : Str) : (wstep way p).length ≤ way.length + 1 := by
  unfold wstep
  split
  · simp; omega
  · split <;> simp
theorem wfold_len : ∀ (ps : List Str) (way : List Str), (ps.foldl wstep way).length ≤ way.length + ps.length
  | [], _ => by simp
  | p :: ps, way => by
    have := wfold_len ps (wstep way p)
    have := wstep_len way p
    simp only [List.foldl_cons, List.length_cons]; omega
section
variable {c : Cx} {A : Around} {env : Env} {μ : Sto} {base : Heap} {o : Out}
theorem fc_low {way : List Str} (hA : Okay 1 A) (hw : way.length ≤ sizeLine) (hfit : ∀ w ∈ way, tooLong (Txt.lower w).length = false) : FC c A (.ref 190) [dS way] (dS (way.map Txt.lower)) := by
  refine fc_open (xs := ["way"]) hA rfl rfl rfl (by kernel_rfl) (bindC_plain ?_) rfl (by decide +kernel) (by decide +kernel) ?_
  · intro vs h
    match vs, h with
    | [a], _ => rfl
  · intro base env A' hA' hs hc hf
    refine exs_ret (ex1_ret (ev_to (ev_comp (ds := way.map .str) (f := fun d => [("name", d)]) (ν := []) (p := fun _ => true) (g := mapS Txt.lower) (lv hs rfl rfl) (fun s v _ r => its_list hA'.handled r)
      ⟨by rw [List.length_map]; exact hw, seen_nil, ?_, by decide +kernel, rfl, by decide +kernel, ?_, ?_⟩) (by rw [mapS_eq])))
    · rw [hc]; exact free_all rfl
    · intro a cenv CE e he
      have hsc := CE.sc
      rw [hs] at hsc
      exact asg_name (canL hsc rfl)
    · intro a cenv CE e he
      have hsc := CE.sc
      rw [hs] at hsc
      obtain ⟨w, hw, rfl⟩ := List.mem_map.mp he
      exact ⟨.inl ⟨rfl, rfl⟩, fun _ => ev_smeth (lv hsc rfl rfl) F.slot_str_lower F.type_str_lower evl_nil (fc_lower (hfit w hw))⟩
theorem fc_way {here : List Str} {path : Str} (hA : Okay 1 A) (hh : here.length + path.length + 1 ≤ sizeLine) : FC c A (.ref 185) [dS here, .str path] (dS (wayOf here path)) := by
  refine fc_open (xs := ["here", "path"]) hA rfl rfl rfl (by kernel_rfl) (bindC_plain ?_) rfl (by decide +kernel) (by decide +kernel) ?_
  · intro vs h
    match vs, h with
    | [a, b], _ => rfl
  · intro base env A' hA' hs hc hf
    have hpl := split_len path
    have hpl' : (Txt.split path "/").length ≤ path.length + 1 := by show (Txt.split path sl).length ≤ _; omega
    have hps : path.length < sizeLine := by
      rcases Nat.eq_or_lt_of_le (show path.length + 1 ≤ sizeLine by omega) with h | h <;> omega
    generalize hw0 : (if Txt.slice path none (some 1) = "/" then [] else here) = w0
    have hw0l : w0.length ≤ here.length := by rw [← hw0]; split <;> simp
    refine exs_cons (ex1_assign (d := dS w0) (ev_ife (evt_cmp (ev_slice_str (lv hs rfl rfl) .none (.some ev_int) (by omega)) ev_str cmp_eq_str) (fun h => ?_) (fun h => ?_)) (canL hs rfl)) ?_
    · have : Txt.slice path none (some 1) = "/" := by simpa using h
      rw [if_pos this] at hw0
      subst hw0
      exact ev_list evl_nil (Nat.zero_le _)
    · have : ¬ Txt.slice path none (some 1) = "/" := by simpa using h
      rw [if_neg this] at hw0
      subst hw0
      exact lv hs rfl rfl
    generalize hps2 : Txt.split path "/" = ps at hpl'
    refine exs_cons (for_seq (ds := ps.map .str) (fun e => [("piece", e)]) (fun i => [("way", dS ((ps.take i).foldl wstep w0))]) hA'.handled (ev_smeth (lv hs rfl rfl) F.slot_str_split F.type_str_split (evl1 ev_str) (hps2 ▸ fc_split' hps)) (.inl rfl) (fun e _ => asg_name (canL hs rfl)) (sub_cons rfl sub_nil) ?_) ?_
    · intro i e he
      rw [List.getElem?_map] at he
      obtain ⟨w, hw, rfl⟩ := Option.map_eq_some_iff.mp he
      have etake : ps.take (i + 1) = ps.take i ++ [w] := by rw [List.take_add_one, hw]; rfl
      have hl := wfold_len (ps.take i) w0
      have hl2 : (ps.take i).length ≤ ps.length := by rw [List.length_take]; omega
      have hil : i < ps.length := (List.getElem?_eq_some_iff.mp hw).1
      have hl3 : (ps.take i).length = i := by rw [List.length_take]; omega
      simp only [etake, List.foldl_append, List.foldl_cons, List.foldl_nil]
      generalize hW : (ps.take i).foldl wstep w0 = W at hl ⊢
      by_cases h1 : w = ".."
      · refine ⟨_, .inl (exs_cons (ift (evt_cmp (lv hs rfl rfl) ev_str cmp_eq_str) (by simp [h1]) (exs_cons (ex1_to (d' := dS (wstep W w)) (ex1_assign (ev_slice_list (lv hs rfl rfl) .none (.some ev_neg1) (by rw [List.length_map]; omega) pick_butLast) (canL hs rfl)) ?_) exs_nil)) exs_nil), sub_cons rfl sub_nil⟩
        unfold wstep
        rw [if_pos h1, ← List.map_dropLast]
      · have hw1 : wstep W w = if w ≠ "" ∧ w ≠ "." then W ++ [w] else W := by unfold wstep; rw [if_neg h1]
        by_cases h2 : w ≠ "" ∧ w ≠ "."
        · refine ⟨_, .inl (exs_cons (iff' (evt_cmp (lv hs rfl rfl) ev_str cmp_eq_str) (by simpa using h1) (exs_cons (ift (evt_and (evt_cmp (lv hs rfl rfl) ev_str cmp_ne_str) (evt_cmp (lv hs rfl rfl) ev_str cmp_ne_str)) (by simpa using h2) (exs_cons (ex1_to (d' := dS (wstep W w)) (ex1_assign (ev_bin (lv hs rfl rfl) (ev_list (evl1 (lv hs rfl rfl)) (by show 1 ≤ sizeLine; omega)) (bin_add_list (by rw [List.length_map]; show W.length + 1 ≤ sizeLine; omega))) (canL hs rfl)) ?_) exs_nil)) exs_nil)) exs_nil), sub_cons rfl sub_nil⟩
          rw [hw1, if_pos h2, dS, List.map_append]; rfl
        · refine ⟨_, .inl (exs_cons (iff' (evt_cmp (lv hs rfl rfl) ev_str cmp_eq_str) (by simpa using h1) (exs_cons (iff' (evt_and (evt_cmp (lv hs rfl rfl) ev_str cmp_ne_str) (evt_cmp (lv hs rfl rfl) ev_str cmp_ne_str)) (by rw [← Bool.not_eq_true]; simpa using h2) exs_nil) exs_nil)) exs_nil), ?_⟩
          rw [hw1, if_neg h2]
          exact sub_cons rfl sub_nil
    · have e : (List.map D.str ps).length = ps.length := List.length_map ..
      rw [e, List.take_length]
      have e2 : wayOf here path = ps.foldl wstep w0 := by unfold wayOf; rw [hps2, hw0]
      rw [e2]
      exact exs_ret (ex1_ret (lv hs rfl rfl))
set_option maxHeartbeats 2000000 in
theorem fc_spelled {way : List Str} (hA : Okay 1 A) (hw : way.length ≤ sizeLine) (hlen : ∀ w ∈ way, w.length ≤ sizeLine) (hfit : ∀ w ∈ way, tooLong (Txt.upper (Txt.slice w none (some 1))).length = false ∧ tooLong (Txt.lower (Txt.slice w (some 1) none)).length = false ∧ (Txt.upper (Txt.slice w none (some 1))).length + (Txt.lower (Txt.slice w (some 1) none)).length ≤ sizeLine)
    (h1 : ((way.map capS).map (·.length)).sum + way.length + 1 ≤ sizeLine) (h2 : (way.map (·.length)).sum + way.length + 1 ≤ sizeLine) :
    FC c A (.ref 200) [dS way] (dS ["/" ++ Str.join sl (way.map capS), "/" ++ Str.join sl way]) := by
  refine fc_open (xs := ["way"]) hA rfl rfl rfl (by kernel_rfl) (bindC_plain ?_) rfl (by decide +kernel) (by decide +kernel) ?_
  · intro vs h
    match vs, h with
    | [a], _ => rfl
  · intro base env A' hA' hs hc hf
    have hk : env.scope.kind = .function := by rw [hs]
    have hl1' : (Str.ofString "/").length = 1 := by decide +kernel
    refine exs_cons (ex1_to (d' := dS (way.map capS)) (ex1_assign_comp (ds := way.map .str) (f := fun d => [("name", d)]) (ν := []) (p := fun _ => true) (g := mapS capS) (lv hs rfl rfl) (fun s v _ r => its_list hA'.handled r)
      ⟨by rw [List.length_map]; exact hw, seen_nil, ?_, by decide +kernel, rfl, by decide +kernel, ?_, ?_⟩ (swaps_true hk (kOf hs rfl) rfl rfl) (kOf hs rfl)) (by rw [mapS_eq])) ?_
    · rw [hc]; exact free_all rfl
    · intro a cenv CE e he
      have hsc := CE.sc
      rw [hs] at hsc
      exact asg_name (canL hsc rfl)
    · intro a cenv CE e he
      have hsc := CE.sc
      rw [hs] at hsc
      obtain ⟨w, hw, rfl⟩ := List.mem_map.mp he
      obtain ⟨f1, f2, f3⟩ := hfit w hw
      refine ⟨.inl ⟨rfl, rfl⟩, fun _ => ?_⟩
      show EvE (c.off a) A' cenv _ _ (.str (Txt.upper (Txt.slice w none (some 1)) ++ Txt.lower (Txt.slice w (some 1) none)))
      refine ev_bin (a := .str (Txt.upper (Txt.slice w none (some 1)))) (b := .str (Txt.lower (Txt.slice w (some 1) none))) ?_ ?_ (bin_add_str f3)
      · refine ev_smeth (x := Txt.slice w none (some 1)) ?_ F.slot_str_upper F.type_str_upper evl_nil (fc_upper f1)
        exact ev_slice_str (lv hsc rfl rfl) .none (.some ev_int) (hlen w hw)
      · refine ev_smeth (x := Txt.slice w (some 1) none) ?_ F.slot_str_lower F.type_str_lower evl_nil (fc_lower f2)
        exact ev_slice_str (lv hsc rfl rfl) (.some ev_int) .none (hlen w hw)
    have j1 := join_len_le (way.map capS)
    have j2 := join_len_le way
    rw [List.length_map] at j1
    have k1 : ((way.map capS).map (·.length)).sum + (way.map capS).length ≤ sizeLine := by rw [List.length_map]; omega
    have k2 : (way.map (·.length)).sum + way.length ≤ sizeLine := by omega
    have b1 : (Str.ofString "/").length + (Str.join sl (way.map capS)).length ≤ sizeLine := by rw [hl1']; omega
    have b2 : (Str.ofString "/").length + (Str.join sl way).length ≤ sizeLine := by rw [hl1']; omega
    refine exs_ret (ex1_ret (ev_list (ds := [.str ("/" ++ Str.join sl (way.map capS)), .str ("/" ++ Str.join sl way)]) (evl2 ?_ ?_) (by show 2 ≤ sizeLine; rw [sizeLine_eq]; decide)))
    · exact ev_bin ev_str (ev_smeth ev_str F.slot_str_join F.type_str_join (evl1 (lv hs rfl rfl)) (fc_join' k1)) (bin_add_str b1)
    · exact ev_bin ev_str (ev_smeth ev_str F.slot_str_join F.type_str_join (evl1 (lv hs rfl rfl)) (fc_join' k2)) (bin_add_str b2)
end
end Mine
end

section -- P8
open PySem PySem.W PyProof.Rows PySem.Builtin PySem.Builtin.Str
set_option Elab.async false
set_option maxRecDepth 100000
set_option linter.unusedVariables false
set_option autoImplicit false
namespace Mine
section
variable {c : Cx} {A : Around} {env : Env} {μ : Sto} {base : Heap} {o : Out}
/-- an iterable -/
def EvI (c : Cx) (A : Around) (env : Env) (μ : Sto) (e : Expr) (ds : List D) : Prop :=
  ∀ (s : Shared) (E : Value → Shared → Prop), c.G s.heap → EnvOk c.X env s.heap μ → wpAny (model c.prog c.w) A (eval e env) (fun v s₁ => Keeps s s₁ ∧ Its c A s₁ v ds) E s
theorem ev_compI {elt target iter : Expr} {ifs : List Expr} {scope : Scope} {pos : Pos} {ds : List D} {f : D → Sto} {ν : Sto} {p : D → Bool} {g : D → D} (hi : EvI c A env μ iter ds)
    (h : CompOk c A env μ elt target iter ifs scope ds f ν p g) (hs : ∀ x, foldedSetIterable iter env x = pure x := by intro _; rfl) :
    EvE c A env μ (.ListComp elt [⟨target, iter, ifs, 0⟩] scope pos) (.list ((ds.filter p).map g)) := fun s G F E => by
  rw [eval_ListComp]
  refine wpAny_comprehension_free (use := none) rfl hs (closureFor_cl h.free) h.kind h.names (wpAny_mono (hi s _ G F) (fun v s₁ q => ?_) fun _ _ e => e)
  obtain ⟨k₁, hIts⟩ := q
  have G₁ := Gd.up G (keeps_keep k₁)
  have F₁ := F.up (keeps_keep k₁)
  refine hIts _ _ fun ob St W st₀ => ?_
  refine comp_core (RR := fun acc C => compPost (model c.prog c.w) A E none (fun v s' => Keeps s s' ∧ Rep c.X s'.heap v (.list ((ds.filter p).map g))) acc C) W st₀ G₁ F₁ h.size h.seen h.nocell h.kind h.target h.body ?_
  intro D C h' tk m' hD hC hn hk r
  refine ⟨m', hn, fun h'' hs'' => ?_⟩
  obtain ⟨oC, es, ep, hoC, hdC, _⟩ := hn
  have sk : SeqKeep h' h'' := fun b o xs n e d => hs''.extBut b o (by rintro rfl; rw [hoC] at e; cases e; rw [hdC] at d; cases d) e
  have k2 : Keep s₁.heap h'' := fun b o e => hs''.extBut b o (by rintro rfl; rw [hC] at e; cases e) (hk b o e)
  exact ⟨keeps_trans k₁ ⟨h'', tk, rfl, k2⟩, r.up sk⟩
/-- range(n) -/
theorem evi_range {x : Str} {p pos : Pos} {e : Expr} {n : Nat} (hh : A.handled = none) (hn : n ≤ 1000) (hx : EvE c A env μ (.Name x p) (.val (.type "range"))) (he : EvE c A env μ e (.int n))
    (hst : ∀ rest, starEach (e :: rest) env = (false, eval e env) :: starEach rest env := by intro _; rfl)
    (hp : (backTo pos (starEach [e] env)).any (·.1) = false := by rfl) : EvI c A env μ (.Call (.Name x p) [e] [] pos) ((List.range n).map fun i => .int (i : Nat)) := fun s E G F => by
  refine wpAny_Call_Name_kw ((hx s G F).use fun v s₁ k r => ?_)
  cases r
  refine PySem.callWith_type hp (wpAny_mono (evalArgs_L (evl1 he hst) (G.up (keeps_keep k)) (F.up (keeps_keep k)) hp) (fun a s₂ q => ?_) fun _ _ e => e)
  obtain ⟨hkw, k₂, ra⟩ := q
  obtain ⟨v1, vs1, e1, r1, ra⟩ := ra.inv
  obtain rfl := ra.invN
  rw [hkw, e1]
  obtain ⟨t, rfl⟩ := r1.invI
  refine call_range_1 ⟨keeps_trans (keeps_trans k k₂) ⟨_, _, rfl, Keep.push _ _⟩, ?_⟩
  intro Q E' hQ
  have hsz : Builtin.Range.rangeSize 0 n 1 = n := by
    unfold Builtin.Range.rangeSize
    rw [if_pos (by decide)]
    split
    · simp
    · omega
  have hsm : Builtin.Range.small 0 n 1 = true := by
    unfold Builtin.Range.small
    rw [hsz]
    unfold Builtin.Range.rangeFitsLong
    simp; omega
  generalize hH : s₂.heap.push { cls := .type "range", data := .fields #[.int 0 s₂.toks, .int n t, .int 1 (s₂.toks + 1)] } = H
  have hr : IsRange H s₂.heap.objs.size 0 n 1 s₂.toks t (s₂.toks + 1) := hH ▸ IsRange.new _ _ _ _ _ _ _
  rw [hH] at hQ
  have W := Walks.range (prog := c.prog) (w := c.w) (A := A) hh H.objs.size 0 1 n
  refine wpAny_pyIter_range (s := { s₂ with heap := H, toks := s₂.toks + 1 + 1 }) hr hsm (hQ _ (fun i h => IsRangeIter h H.objs.size (0 + (i : Nat) * 1) ((n : Int) - (i : Nat)) 1) ?_ ?_)
  · refine ⟨fun i e s Q E he st hk hq => ?_, fun s Q E st hk hq => ?_, fun i s Q E st h => wpAny_pyIter_rangeiter st h, fun i h st => ⟨_, _, _, st, rfl, rfl, by decide +kernel⟩, fun i h h' st hk hI => hI _ st, Heap.get?_none_of_le (Nat.le_refl _)⟩
    · rw [List.getElem?_map] at he
      obtain ⟨j, hj, rfl⟩ := Option.map_eq_some_iff.mp he
      obtain ⟨hj1, hj2⟩ := List.getElem?_eq_some_iff.mp hj
      rw [List.getElem_range] at hj2
      subst hj2
      refine W.item i s Q E (by simpa using hj1) st fun u h' tk hp st' hk' => ?_
      obtain ⟨tt, rfl⟩ := hp
      refine hq _ h' tk st' (fun b o hb e => hk' b o (by simpa using hb) e) fun X' _ => ?_
      have : (0 + (i : Int) * 1) = (i : Int) := by omega
      rw [this]
      exact .int _ _
    · rw [List.length_map, List.length_range] at st
      exact W.done s Q E st fun h' tk hk' => hq h' tk fun b o hb e => hk' b o (by simpa using hb) e
  · have := Heap.get?_push_size H (o := { cls := .type "range_iterator", data := .fields #[rawInt 0, rawInt (Builtin.Range.rangeSize 0 n 1), rawInt 1] }) rfl
    rw [hsz] at this ⊢
    simpa using this
end
end Mine
end

section -- L2
open PySem PySem.W PyProof.Rows PySem.Builtin PySem.Builtin.Str
set_option Elab.async false
set_option linter.unusedVariables false
set_option autoImplicit false
namespace Mine
theorem csl : cs sl = [47] := sl_cps
theorem str_len_cs (x : Str) : x.length = (cs x).length := (cs_len x).symm
theorem cs_nil {x : Str} (h : cs x = []) : x = "" := cs_inj h
theorem slice_to {x : Str} {n : Nat} (h : n ≤ x.length) : Txt.slice x none (some (n : Int)) = ⟨((cs x).take n).toArray⟩ := by
  have := beq_iff_eq.mp (slice_closes_toL (x := x) (j := (n : Int)) (by omega) (by omega))
  rw [this]
  have e : ((n : Int) - 0).toNat = n := by omega
  rw [e]; rfl
theorem slice_from {x : Str} {n : Nat} (h : n ≤ x.length) : Txt.slice x (some (n : Int)) none = ⟨((cs x).drop n).toArray⟩ := by
  have := slice_from_eq (x := x) (i := (n : Int)) (b := (x.length : Int)) (by omega) (by omega) rfl
  rw [this]
  have e : ((x.length : Int) - (n : Int)).toNat = x.length - n := by omega
  have e2 : ((n : Int)).toNat = n := by omega
  rw [e, e2, List.take_of_length_le]
  rw [List.length_drop]
  have := cs_len x
  show (cs x).length - n ≤ _
  omega
theorem slice_mid {x : Str} {a b : Nat} (h : a ≤ b) (hb : b ≤ x.length) : Txt.slice x (some (a : Int)) (some (b : Int)) = ⟨(((cs x).drop a).take (b - a)).toArray⟩ := by
  have := beq_iff_eq.mp (slice_closesL (x := x) (i := (a : Int)) (j := (b : Int)) (by omega) (by omega) (by omega))
  rw [this]
  have e : ((b : Int) - (a : Int)).toNat = b - a := by omega
  have e2 : ((a : Int)).toNat = a := by omega
  rw [e, e2]
theorem mk_cs {x : Str} {l : List Nat} (h : l = cs x) : (⟨l.toArray⟩ : Str) = x := cs_inj (by rw [← h])
theorem slice_app_from (a b : Str) : Txt.slice (a ++ b) (some (a.length : Int)) none = b := by
  rw [slice_from (by rw [Str.length_append]; omega)]
  refine mk_cs ?_
  rw [cs_append, str_len_cs, List.drop_left]
theorem slice_app_to (a b : Str) : Txt.slice (a ++ b) none (some (a.length : Int)) = a := by
  rw [slice_to (by rw [Str.length_append]; omega)]
  refine mk_cs ?_
  rw [cs_append, str_len_cs, List.take_left]
/-- a text that begins with the slash -/
theorem slice1_iff (p : Str) : Txt.slice p none (some 1) = "/" ↔ ∃ q, p = sl ++ q := by
  constructor
  · intro h
    by_cases hp : p.length = 0
    · have e : p = "" := cs_nil (by rw [← List.length_eq_zero_iff, cs_len, hp])
      rw [e] at h
      exact absurd h (by decide +kernel)
    · rw [show (1 : Int) = ((1 : Nat) : Int) from rfl, slice_to (by omega)] at h
      have h' : (cs p).take 1 = [47] := by
        have := congrArg cs h
        rw [show cs (Str.ofString "/") = [47] from csl] at this
        simpa [cs] using this
      refine ⟨⟨((cs p).drop 1).toArray⟩, cs_inj ?_⟩
      rw [cs_append, csl, ← h']
      exact (List.take_append_drop 1 (cs p)).symm
  · rintro ⟨q, rfl⟩
    have := slice_app_to sl q
    rwa [sl_len] at this
theorem slice1_drop (q : Str) : Txt.slice (sl ++ q) (some 1) none = q := by
  have := slice_app_from sl q
  rwa [sl_len] at this
theorem sw_iff (p : Str) : Txt.startswith p "/" = true ↔ ∃ q, p = sl ++ q := by
  constructor
  · intro h
    unfold Txt.startswith at h
    rw [Bool.and_eq_true, StrLaws.subAt_eq] at h
    obtain ⟨h1, h2⟩ := h
    have hl : (Str.ofString "/").length = 1 := sl_len
    have h' : (cs p).take 1 = [47] := by
      have := eq_of_beq h2
      rw [hl, List.drop_zero, show (Str.ofString "/").cps.toList = [47] from csl] at this
      exact this
    refine ⟨⟨((cs p).drop 1).toArray⟩, cs_inj ?_⟩
    rw [cs_append, csl, ← h']
    exact (List.take_append_drop 1 (cs p)).symm
  · rintro ⟨q, rfl⟩
    unfold Txt.startswith
    rw [Bool.and_eq_true, StrLaws.subAt_eq]
    have hl : (Str.ofString "/").length = 1 := sl_len
    refine ⟨decide_eq_true (by rw [Str.length_append]; show 0 + 1 ≤ 1 + _; omega), ?_⟩
    rw [hl, List.drop_zero, show (Str.ofString "/").cps.toList = [47] from csl, show (sl ++ q).cps.toList = cs (sl ++ q) from rfl, cs_append, csl]
    simp
theorem ew_sl (a : Str) : Txt.endswith (a ++ sl) "/" = true := by
  unfold Txt.endswith
  rw [Bool.and_eq_true, StrLaws.subAt_eq]
  have hl : (Str.ofString "/").length = 1 := sl_len
  refine ⟨decide_eq_true (by rw [Str.length_append]; show 0 + 1 ≤ _ + 1; omega), ?_⟩
  rw [hl, show (Str.ofString "/").cps.toList = [47] from csl, show (a ++ sl).cps.toList = cs (a ++ sl) from rfl, cs_append, csl, Str.length_append, sl_len, Nat.add_sub_cancel, str_len_cs, List.drop_left]
  simp
theorem ew_not {a : Str} {c : Nat} (w : Str) (h : cs a = cs w ++ [c]) (hc : c ≠ 47) : Txt.endswith a "/" = false := by
  rw [← Bool.not_eq_true]
  intro q
  unfold Txt.endswith at q
  rw [Bool.and_eq_true, StrLaws.subAt_eq] at q
  have hl : (Str.ofString "/").length = 1 := sl_len
  have q2 := eq_of_beq q.2
  rw [hl, show (Str.ofString "/").cps.toList = [47] from csl, show a.cps.toList = cs a from rfl, str_len_cs, h, List.length_append, List.length_singleton, Nat.add_sub_cancel, List.drop_left] at q2
  simp at q2
  exact hc q2
theorem at_one (x : Str) (i : Nat) : StrLaws.At x sl x.length i ↔ (cs x)[i]? = some 47 := by
  unfold StrLaws.At
  rw [sl_eq]
  exact StrLaws.subAt_one x 47 i
theorem rfind_last (a w : Str) (hw : NoSl w) : Txt.rfind (a ++ sl ++ w) "/" = (a.length : Int) := by
  unfold Txt.rfind
  have hat : StrLaws.At (a ++ sl ++ w) sl (a ++ sl ++ w).length a.length := by
    rw [at_one, cs_append, cs_append, csl, List.append_assoc, List.getElem?_append_right (by rw [cs_len]; omega), cs_len]
    simp
  have hno : ∀ k, a.length < k → ¬ StrLaws.At (a ++ sl ++ w) sl (a ++ sl ++ w).length k := by
    intro k hk h
    rw [at_one, cs_append, cs_append, csl, List.append_assoc, List.getElem?_append_right (by rw [cs_len]; omega), cs_len, List.getElem?_append_right (by simp; omega)] at h
    exact hw (List.mem_of_getElem? h)
  rcases StrLaws.last_spec (a ++ sl ++ w) sl with ⟨_, h2⟩ | ⟨i, h1, h2, h3⟩
  · exact absurd hat (h2 _)
  · have e : i = a.length := by
      rcases Nat.lt_trichotomy i a.length with h | h | h
      · exact absurd hat (h3 _ h)
      · exact h
      · exact absurd h2 (hno _ h)
    have h1' : lastOccurrence (a ++ sl ++ w) (Str.ofString "/") 0 (a ++ sl ++ w).length = some i := h1
    rw [h1', e]
theorem base_eq (a w : Str) (hw : NoSl w) : Txt.slice (a ++ sl ++ w) (some (Txt.rfind (a ++ sl ++ w) "/" + 1)) none = w := by
  rw [rfind_last a w hw]
  have := slice_app_from (a ++ sl) w
  rw [Str.length_append, sl_len] at this
  simpa using this
theorem head_eq (a w : Str) (hw : NoSl w) : Txt.slice (a ++ sl ++ w) none (some (Txt.rfind (a ++ sl ++ w) "/" + 1)) = a ++ sl := by
  rw [rfind_last a w hw]
  have := slice_app_to (a ++ sl) w
  rw [Str.length_append, sl_len] at this
  simpa using this
theorem rstrip_one {a : Str} {l : List Nat} {c : Nat} (h : cs a = l ++ [c]) (hc : c ≠ 47) : Txt.rstripChars (a ++ sl) "/" = a := by
  unfold Txt.rstripChars
  rw [PyProof.Rows.stripBy_eq]
  refine cs_inj ?_
  show (strSub _ _ _).cps.toList = _
  have hs : (Str.ofString "/").cps = #[47] := congrArg Str.cps sl_eq
  rw [StrLaws.strSub_toList, hs]
  have e0 : stripLo (Array.contains #[47]) false (a ++ sl) = 0 := rfl
  have e1 : stripHi (Array.contains #[47]) true (a ++ sl) 0 = a.length := by
    unfold stripHi
    rw [if_pos rfl, List.drop_zero, show (a ++ sl).cps.toList = cs (a ++ sl) from rfl, cs_append, csl, h]
    have : List.takeWhile (Array.contains #[47]) (l ++ [c] ++ [47]).reverse = [47] := by
      simp [hc]
    rw [this, Str.length_append, sl_len]
    simp
  rw [e0, e1, List.drop_zero, Nat.sub_zero, show (a ++ sl).cps.toList = cs (a ++ sl) from rfl, cs_append, str_len_cs, List.take_left]
theorem cs_mul (n : Nat) (hn : 1 ≤ n) : cs (Txt.mul "/" (n : Int)) = List.replicate n 47 := by
  unfold Txt.mul
  rw [if_neg (by omega)]
  split
  · rename_i h
    have hl : (Str.ofString "/").length = 1 := sl_len
    rw [hl] at h
    have : n = 1 := by
      have : ((n : Int) == 1) = true := by simpa using h
      have := eq_of_beq this
      omega
    subst this
    exact csl
  · have e : ((n : Int)).toNat = n := by omega
    rw [e]
    have hs : (Str.ofString "/").cps = #[47] := congrArg Str.cps sl_eq
    rw [hs]
    show (List.foldl (fun (x1 x2 : Array Nat) => x1 ++ x2) #[] (List.replicate n #[47])).toList = _
    have key : ∀ (k : Nat) (acc : Array Nat), (List.foldl (fun (x1 x2 : Array Nat) => x1 ++ x2) acc (List.replicate k #[47])).toList = acc.toList ++ List.replicate k 47 := by
      intro k
      induction k with
      | zero => intro acc; simp
      | succ k ih =>
        intro acc
        rw [List.replicate_succ, List.foldl_cons, ih]
        simp [List.replicate_succ]
    rw [key]
    simp
end Mine
end

section -- L3
open PySem PySem.W PyProof.Rows PySem.Builtin PySem.Builtin.Str
set_option Elab.async false
set_option linter.unusedVariables false
set_option autoImplicit false
namespace Mine
/-! the names -/
def NM : List Str := ["a", "A", "bC", "bc", "Bc", "BC", "d.e", "D.E", "d.E", "aB", "ab", "AB", "Ab", "c"]
abbrev cap (w : Str) : Str := Txt.capitalize w
abbrev low (w : Str) : Str := Txt.lower w
/-- a list of names -/
def Nms (ws : List Str) : Prop := ∀ w ∈ ws, w ∈ NM
def nsl (w : Str) : Bool := !(cs w).contains 47
/-- what holds of each name -/
def nameOk (w : Str) : Bool := nsl w && (w.length != 0) && decide (w.length ≤ 3) && (w != ".") && (w != "..") &&
  nsl (cap w) && ((cap w).length == w.length) && (cap w != ".") && (cap w != "..") && (low w).length == w.length && decide ((Txt.capitalized w).length ≤ 3) &&
  decide ((Txt.upper (Txt.slice w none (some 1))).length ≤ 3) && decide ((Txt.lower (Txt.slice w (some 1) none)).length ≤ 3) &&
  (Txt.upper (Txt.slice w none (some 1)) ++ Txt.lower (Txt.slice w (some 1) none) == cap w)
theorem names_ok : NM.all nameOk = true := by decide +kernel
theorem pairs_ok : NM.all (fun u => NM.all fun v => (cap u == cap v) == (low u == low v)) = true := by decide +kernel
theorem nm_ok {w : Str} (h : w ∈ NM) : nameOk w = true := List.all_eq_true.mp names_ok w h
structure NmOk (w : Str) : Prop where
  nsl : NoSl w
  pos : w.length ≠ 0
  len : w.length ≤ 3
  dot : w ≠ "."
  dots : w ≠ ".."
  cnsl : NoSl (cap w)
  clen : (cap w).length = w.length
  cdot : cap w ≠ "."
  cdots : cap w ≠ ".."
  llen : (low w).length = w.length
  clen' : (Txt.capitalized w).length ≤ 3
  ulen : (Txt.upper (Txt.slice w none (some 1))).length ≤ 3
  tlen : (Txt.lower (Txt.slice w (some 1) none)).length ≤ 3
  spell : Txt.upper (Txt.slice w none (some 1)) ++ Txt.lower (Txt.slice w (some 1) none) = cap w
theorem nmOk {w : Str} (h : w ∈ NM) : NmOk w := by
  have := nm_ok h
  unfold nameOk nsl at this
  simp only [Bool.and_eq_true, decide_eq_true_eq, bne_iff_ne, beq_iff_eq, Bool.not_eq_true', ne_eq] at this
  obtain ⟨⟨⟨⟨⟨⟨⟨⟨⟨⟨⟨⟨⟨h1, h2⟩, h3⟩, h4⟩, h5⟩, h6⟩, h7⟩, h8⟩, h9⟩, h10⟩, h11⟩, h12⟩, h13⟩, h14⟩ := this
  exact ⟨fun q => by simp at h1; exact h1 (by simpa using q), h2, h3, h4, h5, fun q => by simp at h6; exact h6 (by simpa using q), h7, h8, h9, h10, h11, h12, h13, h14⟩
theorem cap_low {u v : Str} (hu : u ∈ NM) (hv : v ∈ NM) : cap u = cap v ↔ low u = low v := by
  have := List.all_eq_true.mp (List.all_eq_true.mp pairs_ok u hu) v hv
  rw [beq_iff_eq, Bool.eq_iff_iff, beq_iff_eq, beq_iff_eq] at this
  exact this
theorem caps_lows : ∀ {us vs : List Str}, Nms us → Nms vs → (us.map cap = vs.map cap ↔ us.map low = vs.map low)
  | [], [], _, _ => by simp
  | [], _ :: _, _, _ => by simp
  | _ :: _, [], _, _ => by simp
  | u :: us, v :: vs, hu, hv => by
    have h1 := cap_low (hu u List.mem_cons_self) (hv v List.mem_cons_self)
    have h2 := caps_lows (us := us) (vs := vs) (fun w h => hu w (List.mem_cons_of_mem _ h)) (fun w h => hv w (List.mem_cons_of_mem _ h))
    simp only [List.map_cons, List.cons.injEq, h1, h2]

/-! a path of names -/
def abs (ws : List Str) : Str := "/" ++ Str.join sl ws
def tl : List Str → Str
  | [] => Str.empty
  | w :: ws => sl ++ w ++ tl ws
theorem app_empty (x : Str) : x ++ Str.empty = x := cs_inj (by rw [cs_append]; simp [Str.empty, cs])
theorem empty_app' (x : Str) : Str.empty ++ x = x := cs_inj (by rw [cs_append]; simp [Str.empty, cs])
theorem tl_append : ∀ us ws : List Str, tl (us ++ ws) = tl us ++ tl ws
  | [], ws => (empty_app' _).symm
  | u :: us, ws => by rw [List.cons_append, tl, tl, tl_append us ws]; simp only [Str.append_assoc]
theorem tl_join : ∀ ws : List Str, ws ≠ [] → tl ws = sl ++ Str.join sl ws
  | [w], _ => by rw [tl, tl, join_one, app_empty]
  | w :: v :: ws, _ => by rw [tl, tl_join (v :: ws) (by simp), join_cons, Str.append_assoc, Str.append_assoc]
theorem abs_nil : abs [] = "/" := app_empty _
theorem abs_tl {ws : List Str} (h : ws ≠ []) : abs ws = tl ws := (tl_join ws h).symm
theorem abs_app {us : List Str} (ws : List Str) (h : us ≠ []) : abs (us ++ ws) = abs us ++ tl ws := by
  rw [abs_tl h, abs_tl (by simp [h]), tl_append]
theorem tl_len : ∀ us : List Str, (tl us).length = (us.map (·.length)).sum + us.length
  | [] => rfl
  | u :: us => by
    rw [tl, Str.length_append, Str.length_append, sl_len, tl_len us]
    simp only [List.map_cons, List.sum_cons, List.length_cons]; omega
theorem abs_len (us : List Str) : (abs us).length ≤ (us.map (·.length)).sum + us.length + 1 := by
  cases us with
  | nil => rw [abs_nil]; decide +kernel
  | cons u us => rw [abs_tl (by simp), tl_len]; omega
theorem sum_le {ws : List Str} (h : ∀ w ∈ ws, w.length ≤ 3) : (ws.map (·.length)).sum ≤ 3 * ws.length := by
  induction ws with
  | nil => simp
  | cons w ws ih =>
    have h1 := h w List.mem_cons_self
    have h2 := ih fun v hv => h v (List.mem_cons_of_mem _ hv)
    simp only [List.map_cons, List.sum_cons, List.length_cons]; omega
theorem capsum {ws : List Str} (h : Nms ws) : ((ws.map cap).map (·.length)).sum = (ws.map (·.length)).sum := by
  rw [List.map_map]
  congr 1
  exact List.map_congr_left fun w hw => (nmOk (h w hw)).clen
theorem nms_sum {ws : List Str} (h : Nms ws) : (ws.map (·.length)).sum ≤ 3 * ws.length := sum_le fun w hw => (nmOk (h w hw)).len
theorem abs_len4 {ws : List Str} (h : Nms ws) : (abs ws).length ≤ 4 * ws.length + 1 := by
  have := abs_len ws
  have := nms_sum h
  omega
theorem abscap_len {ws : List Str} (h : Nms ws) : (abs (ws.map cap)).length = (abs ws).length := by
  cases ws with
  | nil => rfl
  | cons w ws =>
    rw [abs_tl (by simp), abs_tl (by simp), tl_len, tl_len, capsum h, List.length_map]
theorem abs_split {ws : List Str} (h : ∀ w ∈ ws, NoSl w) : Txt.split (abs ws) sl = ("" : Str) :: (if ws = [] then [("" : Str)] else ws) := by
  have e : abs ws = "" ++ sl ++ Str.join sl ws := by
    rw [show ("" : Str) = Str.empty from rfl, empty_app']; rfl
  rw [e, split_append]
  have e0 : Txt.split "" sl = [("" : Str)] := by decide +kernel
  rw [e0]
  by_cases hw : ws = []
  · subst hw
    rw [if_pos rfl]
    exact congrArg (fun l => [Str.ofString ""] ++ l) e0
  · rw [if_neg hw, split_join hw h]; rfl
theorem abs_inj {us ws : List Str} (hu : ∀ w ∈ us, NoSl w ∧ w.length ≠ 0) (hw : ∀ w ∈ ws, NoSl w ∧ w.length ≠ 0) : abs us = abs ws ↔ us = ws := by
  refine ⟨fun h => ?_, fun h => h ▸ rfl⟩
  have h' := congrArg (fun x => Txt.split x sl) h
  simp only [abs_split fun w h => (hu w h).1, abs_split fun w h => (hw w h).1, List.cons.injEq, true_and] at h'
  have z : (Str.ofString "").length = 0 := by decide +kernel
  split at h' <;> split at h'
  · simp [*]
  · rename_i h1 h2
    exact absurd z ((hw _ (h' ▸ List.mem_cons_self)).2)
  · rename_i h1 h2
    exact absurd z ((hu _ (h'.symm ▸ List.mem_cons_self)).2)
  · exact h'
theorem nms_ok {us : List Str} (h : Nms us) : ∀ w ∈ us, NoSl w ∧ w.length ≠ 0 := fun w hw => ⟨(nmOk (h w hw)).nsl, (nmOk (h w hw)).pos⟩
theorem caps_ok {us : List Str} (h : Nms us) : ∀ w ∈ us.map cap, NoSl w ∧ w.length ≠ 0 := fun w hw => by
  obtain ⟨v, hv, rfl⟩ := List.mem_map.mp hw
  exact ⟨(nmOk (h v hv)).cnsl, by rw [(nmOk (h v hv)).clen]; exact (nmOk (h v hv)).pos⟩
theorem abscap_inj {us ws : List Str} (hu : Nms us) (hw : Nms ws) : abs (us.map cap) = abs (ws.map cap) ↔ us.map low = ws.map low :=
  (abs_inj (caps_ok hu) (caps_ok hw)).trans (caps_lows hu hw)
/-- the last name's last sign -/
theorem last_sign {w : Str} (h : NoSl w) (hp : w.length ≠ 0) : ∃ l c, cs w = l ++ [c] ∧ c ≠ 47 := by
  have hne : cs w ≠ [] := fun e => hp (by rw [str_len_cs, e]; rfl)
  refine ⟨(cs w).dropLast, (cs w).getLast hne, (List.dropLast_concat_getLast hne).symm, fun e => h ?_⟩
  rw [← e]; exact List.getLast_mem hne
theorem abs_last {ws : List Str} (hw : ∀ w ∈ ws, NoSl w ∧ w.length ≠ 0) (hne : ws ≠ []) : ∃ l c, cs (abs ws) = l ++ [c] ∧ c ≠ 47 := by
  obtain ⟨us, w, rfl⟩ : ∃ us w, ws = us ++ [w] := ⟨ws.dropLast, ws.getLast hne, (List.dropLast_concat_getLast hne).symm⟩
  obtain ⟨l, c, e, hc⟩ := last_sign (hw w (by simp)).1 (hw w (by simp)).2
  refine ⟨cs (tl us) ++ 47 :: l, c, ?_, hc⟩
  rw [abs_tl hne, tl_append, tl, tl, app_empty, cs_append, cs_append, csl, e]
  simp
end Mine
end

section -- L4
open PySem PySem.W PyProof.Rows PySem.Builtin PySem.Builtin.Str
set_option Elab.async false
set_option linter.unusedVariables false
set_option autoImplicit false
namespace Mine
theorem noSl_no {w : Str} (h : NoSl w) : Txt.startswith w "/" = false := by
  rw [← Bool.not_eq_true, sw_iff]
  rintro ⟨q, rfl⟩
  exact h (by rw [cs_append, csl]; simp)
theorem caps_join {ws : List Str} (h : ∀ w ∈ ws, NoSl w) : Txt.join "/" ((Txt.split (abs ws) "/").map Txt.capitalize) = abs (ws.map cap) := by
  show Txt.join sl ((Txt.split (abs ws) sl).map Txt.capitalize) = _
  have e0 : Txt.capitalize "" = "" := by decide +kernel
  rw [abs_split h, txt_join]
  by_cases hw : ws = []
  · subst hw
    rw [if_pos rfl]
    show Str.join sl [Txt.capitalize "", Txt.capitalize ""] = _
    rw [e0]
    decide +kernel
  · rw [if_neg hw]
    obtain ⟨w, r, rfl⟩ := List.exists_cons_of_ne_nil hw
    rw [List.map_cons, List.map_cons, join_cons, e0, show ("" : Str) = Str.empty from rfl, empty_app']
    rfl
theorem abs_snoc (us : List Str) (w : Str) : abs (us ++ [w]) = tl us ++ sl ++ w := by
  rw [abs_tl (by simp), tl_append, tl, tl, app_empty, Str.append_assoc]
theorem base_abs (us : List Str) {w : Str} (h : NoSl w) : Txt.slice (abs (us ++ [w])) (some (Txt.rfind (abs (us ++ [w])) "/" + 1)) none = w := by
  rw [abs_snoc]; exact base_eq _ _ h
theorem dir_nil : pdirname (abs []) = abs [] := by decide +kernel
theorem dir_snoc {us : List Str} {w : Str} (h : NoSl w) (hu : ∀ w ∈ us, NoSl w ∧ w.length ≠ 0) : pdirname (abs (us ++ [w])) = abs us := by
  unfold pdirname
  rw [abs_snoc, head_eq _ _ h]
  by_cases he : us = []
  · subst he
    have e : tl [] ++ sl = sl := empty_app' sl
    rw [e]
    decide +kernel
  · obtain ⟨l, c, e, hc⟩ := abs_last hu he
    rw [abs_tl he] at e
    rw [if_pos, abs_tl he]
    · exact rstrip_one e hc
    · rw [Bool.and_eq_true, Str.length_append, sl_len]
      refine ⟨by simp; omega, ?_⟩
      rw [bne_iff_ne]
      intro q
      have q' := congrArg cs q
      rw [cs_mul _ (by omega), cs_append, e, csl] at q'
      have : c ∈ List.replicate ((tl us).length + 1) 47 := q' ▸ (by simp)
      exact hc (List.eq_of_mem_replicate this)
theorem dir_abs {ws : List Str} (hw : ∀ w ∈ ws, NoSl w ∧ w.length ≠ 0) : pdirname (abs ws) = abs ws.dropLast := by
  rcases List.eq_nil_or_concat ws with rfl | ⟨us, w, rfl⟩
  · exact dir_nil
  · rw [List.concat_eq_append] at *
    rw [List.dropLast_concat]
    exact dir_snoc (hw w (by simp)).1 fun v hv => hw v (by simp [hv])
theorem abs_pos (us : List Str) : (((abs us).length : Int) != 0) = true := by
  have : (abs us).length = 1 + (Str.join sl us).length := by
    unfold abs; rw [Str.length_append, show (Str.ofString "/").length = 1 from sl_len]
  simp; omega
/-- what join gives behind a path of names -/
theorem pjoin_abs {us : List Str} {p : Str} (hu : ∀ w ∈ us, NoSl w ∧ w.length ≠ 0) (hp : Txt.startswith p "/" = false) : pjoin (abs us) p = tl us ++ sl ++ p := by
  unfold pjoin
  rw [if_neg (by rw [hp, abs_pos]; decide)]
  by_cases he : us = []
  · subst he
    rw [if_pos (by rw [abs_nil]; decide +kernel), abs_nil, tl, empty_app']
  · obtain ⟨l, c, e, hc⟩ := abs_last hu he
    rw [if_neg, abs_tl he, Str.append_assoc]
    rw [ew_not (a := abs us) (w := ⟨l.toArray⟩) (by rw [e]) hc]
    decide
theorem pjoin_name {us : List Str} {w : Str} (hu : ∀ w ∈ us, NoSl w ∧ w.length ≠ 0) (hw : NoSl w) : pjoin (abs us) w = abs (us ++ [w]) := by
  rw [pjoin_abs hu (noSl_no hw), abs_snoc]
theorem comps_abs {ws : List Str} (hw : ∀ w ∈ ws, NoSl w ∧ w.length ≠ 0) (hd : ∀ w ∈ ws, w ≠ ".") : comps (abs ws) = ws := by
  unfold comps
  show (Txt.split (abs ws) sl).filter keeps1 = ws
  have e0 : keeps1 "" = false := by decide +kernel
  rw [abs_split fun w h => (hw w h).1, List.filter_cons_of_neg (by rw [e0]; decide)]
  split
  · rename_i h; subst h
    rw [List.filter_cons_of_neg (by rw [e0]; decide)]; rfl
  · rw [List.filter_eq_self]
    intro w h
    unfold keeps1
    simp [(hw w h).2, hd w h]
theorem lcp_take : ∀ {us ws : List Str}, lcp us ws = us ↔ ws.take us.length = us
  | [], ws => by simp [lcp]
  | u :: us, [] => by simp [lcp]
  | u :: us, w :: ws => by
    unfold lcp
    by_cases h : u = w
    · subst h
      simp only [if_pos, List.cons.injEq, true_and, List.length_cons, List.take_succ_cons]
      exact lcp_take
    · rw [if_neg h]
      simp [Ne.symm h]
theorem lcp_mem : ∀ {us ws : List Str}, ∀ w ∈ lcp us ws, w ∈ us
  | [], ws, w, h => by simp [lcp] at h
  | u :: us, [], w, h => by simp [lcp] at h
  | u :: us, v :: ws, w, h => by
    unfold lcp at h
    split at h
    · rcases List.mem_cons.mp h with rfl | h
      · exact List.mem_cons_self
      · exact List.mem_cons_of_mem _ (lcp_mem w h)
    · simp at h
/-- names as they stand in paths -/
def Plain (ws : List Str) : Prop := (∀ w ∈ ws, NoSl w ∧ w.length ≠ 0) ∧ ∀ w ∈ ws, w ≠ "."
theorem below_abs {us ws : List Str} (hu : Plain us) (hw : Plain ws) : below (abs us) (abs ws) = decide (ws.take us.length = us) := by
  unfold below
  rw [comps_abs hu.1 hu.2, comps_abs hw.1 hw.2]
  show (abs (lcp us ws) == abs us) = _
  rw [Bool.eq_iff_iff, beq_iff_eq, decide_eq_true_eq, abs_inj (fun w h => hu.1 w (lcp_mem w h)) hu.1]
  exact lcp_take
theorem plain_nms {ws : List Str} (h : Nms ws) : Plain ws := ⟨nms_ok h, fun w hw => (nmOk (h w hw)).dot⟩
theorem plain_caps {ws : List Str} (h : Nms ws) : Plain (ws.map cap) := ⟨caps_ok h, fun w hw => by
  obtain ⟨v, hv, rfl⟩ := List.mem_map.mp hw
  exact (nmOk (h v hv)).cdot⟩
theorem nms_take {ws : List Str} (h : Nms ws) (n : Nat) : Nms (ws.take n) := fun w hw => h w (List.mem_of_mem_take hw)
theorem nms_drop {ws : List Str} (h : Nms ws) (n : Nat) : Nms (ws.drop n) := fun w hw => h w (List.mem_of_mem_drop hw)
theorem nms_init {ws : List Str} (h : Nms ws) : Nms ws.dropLast := fun w hw => h w ((List.dropLast_sublist ws).subset hw)
theorem nms_app {us ws : List Str} (h : Nms us) (k : Nms ws) : Nms (us ++ ws) := fun w hw => (List.mem_append.mp hw).elim (h w) (k w)
theorem nms_nil : Nms [] := fun _ h => nomatch h
/-- us in front, whatever the letters' size -/
def under (us ws : List Str) : Bool := decide ((ws.map low).take us.length = us.map low)
theorem under_caps {us ws : List Str} (hu : Nms us) (hw : Nms ws) : (ws.map cap).take us.length = us.map cap ↔ (ws.map low).take us.length = us.map low := by
  rw [← List.map_take, ← List.map_take]
  exact caps_lows (nms_take hw _) hu
theorem below_caps {us ws : List Str} (hu : Nms us) (hw : Nms ws) : below (abs (us.map cap)) (abs (ws.map cap)) = under us ws := by
  rw [below_abs (plain_caps hu) (plain_caps hw), List.length_map]
  unfold under
  rw [decide_eq_decide]
  exact under_caps hu hw
/-- the part behind the names in front -/
theorem cut_at {ws : List Str} {n L : Nat} (hn : ws.take n ≠ []) (hL : L = ((ws.take n).map (·.length)).sum + (ws.take n).length) : Txt.slice (abs ws) (some (L : Int)) none = tl (ws.drop n) := by
  have e : abs ws = tl (ws.take n) ++ tl (ws.drop n) := by
    rw [← tl_append, List.take_append_drop, abs_tl]
    rintro rfl
    simp at hn
  rw [hL, ← tl_len, e]
  exact slice_app_from _ _
theorem lows_lens {us : List Str} (h : Nms us) : us.map (·.length) = (us.map low).map (·.length) := by
  rw [List.map_map]
  exact List.map_congr_left fun w hw => (nmOk (h w hw)).llen.symm
theorem under_lens {us ws : List Str} (hu : Nms us) (hw : Nms ws) (h : under us ws = true) : (ws.take us.length).map (·.length) = us.map (·.length) := by
  have := of_decide_eq_true h
  rw [lows_lens hu, lows_lens (nms_take hw _), List.map_take, this]
theorem under_ne {us ws : List Str} (hu : Nms us) (hw : Nms ws) (h : under us ws = true) (hne : us ≠ []) : ws.take us.length ≠ [] := fun e => by
  have := under_lens hu hw h
  rw [e] at this
  exact hne (by simpa using this.symm)
theorem oldlen {us : List Str} (hu : Nms us) (hne : us ≠ []) : (abs (us.map cap)).length = (us.map (·.length)).sum + us.length := by
  rw [abscap_len hu, abs_tl hne, tl_len]
theorem cut_rest {us ws : List Str} (hu : Nms us) (hw : Nms ws) (h : under us ws = true) (hne : us ≠ []) : Txt.slice (abs ws) (some ((abs (us.map cap)).length : Int)) none = tl (ws.drop us.length) := by
  have e := under_lens hu hw h
  have el := congrArg List.length e
  rw [List.length_map, List.length_map] at el
  refine cut_at (under_ne hu hw h hne) ?_
  rw [oldlen hu hne, e, el]
theorem cut_key {us ws : List Str} (hu : Nms us) (hw : Nms ws) (h : under us ws = true) (hne : us ≠ []) : Txt.slice (abs (ws.map cap)) (some ((abs (us.map cap)).length : Int)) none = tl ((ws.drop us.length).map cap) := by
  have e := under_lens hu hw h
  have el := congrArg List.length e
  rw [List.length_map, List.length_map] at el
  rw [List.map_drop]
  refine cut_at ?_ ?_
  · rw [← List.map_take]
    intro q
    exact under_ne hu hw h hne (by simpa using q)
  · rw [oldlen hu hne, ← List.map_take, capsum (nms_take hw _), List.length_map, e, el]
end Mine
end

section -- L5
open PySem PySem.W PyProof.Rows PySem.Builtin PySem.Builtin.Str
set_option Elab.async false
set_option linter.unusedVariables false
set_option autoImplicit false
namespace Mine
/-- a piece of a path -/
def Pc (w : Str) : Prop := w = "" ∨ w = "." ∨ w = ".." ∨ w ∈ NM
structure GoodP (p : Str) : Prop where
  pcs : ∀ w ∈ Txt.split p "/", Pc w
  two : ∀ q, p ≠ sl ++ (sl ++ q)
  len : p.length ≤ 40
theorem len0_iff (w : Str) : w.length = 0 ↔ w = "" :=
  ⟨fun h => cs_nil (by rw [← List.length_eq_zero_iff, cs_len, h]), fun h => h ▸ (by decide +kernel)⟩
theorem skips_iff (w : Str) : skips w = true ↔ w = "" ∨ w = "." := by
  unfold skips
  rw [Bool.or_eq_true, beq_iff_eq, ← len0_iff]
  simp
theorem nm_no {w : Str} (h : w ∈ NM) : w ≠ "" ∧ w ≠ "." ∧ w ≠ ".." := ⟨fun e => (nmOk h).pos ((len0_iff w).mpr e), (nmOk h).dot, (nmOk h).dots⟩
theorem wstep_nms {acc : List Str} {w : Str} (ha : Nms acc) (hw : Pc w) : Nms (wstep acc w) := by
  unfold wstep
  split
  · exact nms_init ha
  · rename_i h1
    split
    · rename_i h2
      refine nms_app ha fun v hv => ?_
      rcases hw with h | h | h | h
      · exact absurd h h2.1
      · exact absurd h h2.2
      · exact absurd h h1
      · rw [List.mem_singleton] at hv; exact hv ▸ h
    · exact ha
theorem nstep_eq {acc : List Str} {w : Str} (ha : Nms acc) (hw : Pc w) : nstep skips stays acc w = wstep acc w := by
  unfold nstep wstep
  by_cases hs : w = "" ∨ w = "."
  · have hd : w ≠ ".." := by rcases hs with rfl | rfl <;> decide +kernel
    rw [if_pos ((skips_iff w).mpr hs), if_neg hd, if_neg (by rcases hs with rfl | rfl <;> simp)]
  · rw [if_neg (by rw [skips_iff]; exact hs)]
    rw [not_or] at hs
    by_cases hd : w = ".."
    · rw [if_pos hd, if_neg]
      unfold stays
      rw [Bool.or_eq_true, not_or]
      refine ⟨by simp [hd], fun h => ?_⟩
      have h' : acc.getLast? = some ".." := by simpa using h
      exact (nm_no (ha _ (List.mem_of_getLast? h'))).2.2 rfl
    · rw [if_neg hd, if_pos hs, if_pos]
      unfold stays
      simp [hd]
theorem nfold_eq : ∀ {ws acc : List Str}, Nms acc → (∀ w ∈ ws, Pc w) → ws.foldl (nstep skips stays) acc = ws.foldl wstep acc ∧ Nms (ws.foldl wstep acc)
  | [], acc, ha, _ => ⟨rfl, ha⟩
  | w :: ws, acc, ha, hw => by
    rw [List.foldl_cons, List.foldl_cons, nstep_eq ha (hw w List.mem_cons_self)]
    exact nfold_eq (wstep_nms ha (hw w List.mem_cons_self)) fun v hv => hw v (List.mem_cons_of_mem _ hv)
theorem wfold_names : ∀ {ws acc : List Str}, Nms ws → ws.foldl wstep acc = acc ++ ws
  | [], acc, _ => by simp
  | w :: ws, acc, h => by
    obtain ⟨h1, h2, h3⟩ := nm_no (h w List.mem_cons_self)
    rw [List.foldl_cons, show wstep acc w = acc ++ [w] from (if_neg h3).trans (if_pos ⟨h1, h2⟩), wfold_names (fun v hv => h v (List.mem_cons_of_mem _ hv))]
    simp
theorem wayOf_nms {here : List Str} {p : Str} (hh : Nms here) (hp : GoodP p) : Nms (wayOf here p) := by
  unfold wayOf
  refine (nfold_eq ?_ hp.pcs).2
  split
  · exact nms_nil
  · exact hh
theorem pc_names {ws : List Str} (h : Nms ws) : ∀ w ∈ ws, Pc w := fun w hw => .inr (.inr (.inr (h w hw)))
theorem sw_slice (p : Str) : Txt.startswith p "/" = true ↔ Txt.slice p none (some 1) = "/" := (sw_iff p).trans (slice1_iff p).symm
theorem norm_abs {here : List Str} {p : Str} (hh : Nms here) (hp : GoodP p) :
    ∃ q, pjoin (abs here) p = sl ++ q ∧ (∀ r, q ≠ sl ++ r) ∧ npieces (Txt.split q "/") = wayOf here p := by
  by_cases hs : Txt.startswith p "/" = true
  · obtain ⟨q, rfl⟩ := (sw_iff p).mp hs
    have e : Txt.split (sl ++ q) sl = ("" : Str) :: Txt.split q sl := by
      have := split_append "" q
      rw [show ("" : Str) = Str.empty from rfl, empty_app'] at this
      rw [this]
      exact congrArg (· ++ Txt.split q sl) (by decide +kernel : Txt.split Str.empty sl = [("" : Str)])
    have hpc : ∀ w ∈ Txt.split q sl, Pc w := fun w hw => hp.pcs w (by show w ∈ Txt.split (sl ++ q) sl; rw [e]; exact List.mem_cons_of_mem _ hw)
    refine ⟨q, ?_, fun r hr => hp.two r (by rw [hr]), ?_⟩
    · unfold pjoin
      rw [if_pos (by rw [hs]; rfl)]
    · unfold npieces wayOf
      rw [if_pos ((sw_slice _).mp hs)]
      show (Txt.split q sl).foldl _ [] = (Txt.split (sl ++ q) sl).foldl wstep []
      rw [e, List.foldl_cons, show wstep [] "" = [] from by decide +kernel]
      exact (nfold_eq nms_nil hpc).1
  · have hs' : Txt.startswith p "/" = false := by simpa using hs
    have hw : wayOf here p = (Txt.split p sl).foldl wstep here := by
      unfold wayOf
      rw [if_neg (fun h => hs ((sw_slice p).mpr h))]
    rw [pjoin_abs (nms_ok hh) hs', hw]
    by_cases he : here = []
    · subst he
      refine ⟨p, by rw [tl, empty_app'], fun r hr => hs ((sw_iff p).mpr ⟨r, hr⟩), ?_⟩
      exact (nfold_eq nms_nil hp.pcs).1
    · refine ⟨Str.join sl here ++ sl ++ p, by rw [tl_join _ he, Str.append_assoc, Str.append_assoc, Str.append_assoc], ?_, ?_⟩
      · obtain ⟨w, ws, rfl⟩ := List.exists_cons_of_ne_nil he
        intro r hr
        have h0 := nms_ok hh w List.mem_cons_self
        have hc : cs (Str.join sl (w :: ws) ++ sl ++ p) = 47 :: cs r := by rw [hr, cs_append, csl]; rfl
        have hj : ∃ l, cs (Str.join sl (w :: ws)) = cs w ++ l := by
          cases ws with
          | nil => exact ⟨[], by rw [join_one, List.append_nil]⟩
          | cons v vs => exact ⟨47 :: cs (Str.join sl (v :: vs)), by rw [join_cons, cs_append, cs_append, csl]; simp⟩
        obtain ⟨l, hl⟩ := hj
        rw [cs_append, cs_append, hl] at hc
        have hw0 : cs w ≠ [] := fun e => h0.2 (by rw [str_len_cs, e]; rfl)
        obtain ⟨c, t, e⟩ := List.exists_cons_of_ne_nil hw0
        rw [e] at hc
        simp only [List.cons_append, List.cons.injEq] at hc
        exact h0.1 (by rw [e, hc.1]; exact List.mem_cons_self)
      · have e : Txt.split (Str.join sl here ++ sl ++ p) sl = here ++ Txt.split p sl := by rw [split_append, split_join he fun w hw => (nms_ok hh w hw).1]
        show npieces (Txt.split (Str.join sl here ++ sl ++ p) sl) = _
        unfold npieces
        rw [e, List.foldl_append, (nfold_eq nms_nil (pc_names hh)).1, wfold_names hh, List.nil_append]
        exact (nfold_eq hh hp.pcs).1

/-! what the kept list of ways does -/
abbrev St := List Str × List (List Str)
def keptW (ways : List (List Str)) (k : List Str) : List (List Str) := ways.filter fun o => decide (o.map low = k.map low)
def lastOf (ws : List Str) : List Str := ws.drop (ws.length - 1)
def toldW (st : St) (kind : Int) (way goal : List Str) : St :=
  if kind = 0 then ((keptW st.2 way).headD st.1, st.2) else
  if kind = 1 then (if keptW st.2 way ≠ [] ∨ keptW st.2 way.dropLast = [] then st else (st.1, st.2 ++ [(keptW st.2 way.dropLast).headD [] ++ lastOf way])) else
  if keptW st.2 way = [] ∨ way = [] ∨ (kind = 3 ∧ under way st.1 = true) then st else
  if kind = 3 then (st.1, st.2.filter fun o => !under way o) else
  if goal = [] ∨ keptW st.2 goal.dropLast = [] ∨ (goal.map low ≠ way.map low ∧ (keptW st.2 goal ≠ [] ∨ under way goal = true)) then st else
  (if under way st.1 = true then (keptW st.2 goal.dropLast).headD [] ++ lastOf goal ++ st.1.drop way.length else st.1,
   st.2.map fun o => if under way o = true then (keptW st.2 goal.dropLast).headD [] ++ lastOf goal ++ o.drop way.length else o)
def told (st : St) (kind : Int) (one two : Str) : St := toldW st kind (wayOf st.1 one) (wayOf st.1 two)
structure Inv (n m : Nat) (st : St) : Prop where
  here : Nms st.1
  ways : ∀ w ∈ st.2, Nms w
  hlen : st.1.length ≤ n
  wlen : ∀ w ∈ st.2, w.length ≤ n
  len : st.2.length ≤ m
theorem Inv.le {n m n' m' : Nat} {st : St} (h : Inv n m st) (hn : n ≤ n') (hm : m ≤ m') : Inv n' m' st :=
  ⟨h.here, h.ways, Nat.le_trans h.hlen hn, fun w hw => Nat.le_trans (h.wlen w hw) hn, Nat.le_trans h.len hm⟩
theorem headD_cases {α : Type} (l : List α) (d : α) : l.headD d = d ∨ l.headD d ∈ l := by cases l <;> simp
theorem kept_sub {ways : List (List Str)} {k w : List Str} (h : w ∈ keptW ways k) : w ∈ ways := (List.mem_filter.mp h).1
theorem lastOf_len (ws : List Str) : (lastOf ws).length ≤ 1 := by unfold lastOf; rw [List.length_drop]; omega
theorem nms_lastOf {ws : List Str} (h : Nms ws) : Nms (lastOf ws) := nms_drop h _
theorem head_inv {n m : Nat} {st : St} (h : Inv n m st) (k : List Str) : Nms ((keptW st.2 k).headD []) ∧ ((keptW st.2 k).headD []).length ≤ n := by
  rcases headD_cases (keptW st.2 k) [] with e | e
  · rw [e]; exact ⟨nms_nil, Nat.zero_le _⟩
  · exact ⟨h.ways _ (kept_sub e), h.wlen _ (kept_sub e)⟩
theorem told_inv {n m : Nat} {st : St} {kind : Int} {way goal : List Str} (h : Inv n m st) (hw : Nms way) (hg : Nms goal) : Inv (2 * n + 1) (m + 1) (toldW st kind way goal) := by
  have h' : Inv (2 * n + 1) (m + 1) st := h.le (by omega) (by omega)
  unfold toldW
  split
  · refine ⟨?_, h'.ways, ?_, h'.wlen, h'.len⟩
    · rcases headD_cases (keptW st.2 way) st.1 with e | e
      · show Nms ((keptW st.2 way).headD st.1)
        rw [e]; exact h.here
      · exact h.ways _ (kept_sub e)
    · rcases headD_cases (keptW st.2 way) st.1 with e | e
      · show ((keptW st.2 way).headD st.1).length ≤ _
        rw [e]; exact h'.hlen
      · exact h'.wlen _ (kept_sub e)
  split
  · split
    · exact h'
    · obtain ⟨a1, a2⟩ := head_inv h way.dropLast
      have a3 := lastOf_len way
      refine ⟨h'.here, fun w hm => ?_, h'.hlen, fun w hm => ?_, ?_⟩
      · rcases List.mem_append.mp hm with hm | hm
        · exact h'.ways w hm
        · rw [List.mem_singleton] at hm
          rw [hm]; exact nms_app a1 (nms_lastOf hw)
      · rcases List.mem_append.mp hm with hm | hm
        · exact h'.wlen w hm
        · rw [List.mem_singleton] at hm
          rw [hm, List.length_append]; omega
      · have := h.len
        simp; omega
  split
  · exact h'
  split
  · exact ⟨h'.here, fun w hm => h'.ways w (List.mem_filter.mp hm).1, h'.hlen, fun w hm => h'.wlen w (List.mem_filter.mp hm).1, Nat.le_trans (List.length_filter_le _ _) h'.len⟩
  split
  · exact h'
  · obtain ⟨a1, a2⟩ := head_inv h goal.dropLast
    have a3 := lastOf_len goal
    have hn : ∀ o : List Str, Nms o → o.length ≤ n → Nms ((keptW st.2 goal.dropLast).headD [] ++ lastOf goal ++ o.drop way.length) ∧ ((keptW st.2 goal.dropLast).headD [] ++ lastOf goal ++ o.drop way.length).length ≤ 2 * n + 1 := fun o h1 h2 =>
      ⟨nms_app (nms_app a1 (nms_lastOf hg)) (nms_drop h1 _), by rw [List.length_append, List.length_append, List.length_drop]; omega⟩
    refine ⟨?_, fun w hm => ?_, ?_, fun w hm => ?_, by simpa using h'.len⟩
    · show Nms (if _ then _ else _)
      split
      · exact (hn _ h.here h.hlen).1
      · exact h.here
    · obtain ⟨o, ho, rfl⟩ := List.mem_map.mp hm
      split
      · exact (hn _ (h.ways o ho) (h.wlen o ho)).1
      · exact h.ways o ho
    · show List.length (if _ then _ else _) ≤ _
      split
      · exact (hn _ h.here h.hlen).2
      · exact h'.hlen
    · obtain ⟨o, ho, rfl⟩ := List.mem_map.mp hm
      split
      · exact (hn _ (h.ways o ho) (h.wlen o ho)).2
      · exact h'.wlen o ho
end Mine
end

section -- P9
open PySem PySem.W PyProof.Rows PySem.Builtin PySem.Builtin.Str
set_option Elab.async false
set_option maxRecDepth 100000
set_option linter.unusedVariables false
set_option autoImplicit false
namespace Mine
/-- the book of the ways -/
def bookOf (ways : List (List Str)) : List (Str × Str) := ways.map fun w => (abs (w.map cap), abs w)
abbrev dB (ways : List (List Str)) : D := dBk (bookOf ways)
abbrev Sm (ws : List Str) : Prop := ws.length ≤ 200000
theorem notLong {n : Nat} (h : n ≤ 100) : tooLong n = false := by
  unfold tooLong; rw [sizeLine_eq]; simp; omega
theorem kept_book {ways : List (List Str)} {k : List Str} (hw : ∀ w ∈ ways, Nms w) (hk : Nms k) : kept (bookOf ways) (abs (k.map cap)) = (keptW ways k).map abs := by
  unfold kept bookOf keptW
  rw [List.filter_map, List.map_map]
  have e : ways.filter ((fun (p : Str × Str) => p.1 == abs (k.map cap)) ∘ fun w => (abs (w.map cap), abs w)) = ways.filter fun o => decide (o.map low = k.map low) := by
    refine List.filter_congr fun w hm => ?_
    show (abs (w.map cap) == abs (k.map cap)) = _
    rw [Bool.eq_iff_iff, beq_iff_eq, decide_eq_true_eq]
    exact abscap_inj (hw w hm) hk
  rw [e]
  rfl
section
variable {c : Cx} {A : Around} {env : Env} {μ : Sto} {base : Heap} {o : Out}
theorem sm_len {ws : List Str} (h : Nms ws) (hs : Sm ws) : (abs ws).length ≤ 800001 := by
  have := abs_len4 h
  omega
theorem fc_cap {ws : List Str} (hA : Okay 6 A) (h : Nms ws) (hs : Sm ws) : FC c A (.ref 29) [.str (abs ws), .str "/"] (.str (abs (ws.map cap))) := by
  rw [← caps_join fun w hw => (nms_ok h w hw).1]
  have hsp := abs_split fun w hw => (nms_ok h w hw).1
  have hsm := sm_len h hs
  have hall : ∀ w ∈ Txt.split (abs ws) "/", (Txt.capitalized w).length ≤ 3 ∧ (Txt.capitalize w).length ≤ 3 := by
    show ∀ w ∈ Txt.split (abs ws) sl, _
    rw [hsp]
    intro w hw
    have e0 : (Txt.capitalized "").length ≤ 3 ∧ (Txt.capitalize "").length ≤ 3 := by decide +kernel
    rcases List.mem_cons.mp hw with rfl | hw
    · exact e0
    · split at hw
      · rw [List.mem_singleton] at hw; subst hw; exact e0
      · exact ⟨(nmOk (h w hw)).clen', by have := (nmOk (h w hw)).clen; have := (nmOk (h w hw)).len; show (cap w).length ≤ 3; omega⟩
  have hcount : (Txt.split (abs ws) "/").length ≤ ws.length + 2 := by
    show (Txt.split (abs ws) sl).length ≤ _
    rw [hsp]
    split <;> simp
  refine fc_capwords hA (by rw [sizeLine_eq]; omega) (fun w hw => notLong (by have := (hall w hw).1; omega)) (joinOk_sl ?_)
  have := sum_le (ws := (Txt.split (abs ws) "/").map Txt.capitalize) (fun v hv => by
    obtain ⟨w, hw, rfl⟩ := List.mem_map.mp hv
    exact (hall w hw).2)
  rw [List.length_map] at this ⊢
  rw [sizeLine_eq]; omega
theorem fc_dir {ws : List Str} (hA : Okay 2 A) (h : Nms ws) (hs : Sm ws) : FC c A (.ref 144) [.str (abs ws)] (.str (abs ws.dropLast)) := by
  rw [← dir_abs (nms_ok h)]
  exact fc_dirname hA (by have := sm_len h hs; rw [sizeLine_eq]; omega)
theorem snoc_of {ws : List Str} (h : ws ≠ []) : ∃ us w, ws = us ++ [w] ∧ ws.dropLast = us ∧ lastOf ws = [w] := by
  rcases List.eq_nil_or_concat ws with rfl | ⟨us, w, rfl⟩
  · exact absurd rfl h
  · refine ⟨us, w, by rw [List.concat_eq_append], by simp, ?_⟩
    unfold lastOf
    rw [List.concat_eq_append, List.length_append, List.length_singleton, Nat.add_sub_cancel, List.drop_left]
theorem fc_base {us : List Str} {w : Str} (hA : Okay 2 A) (h : Nms (us ++ [w])) (hs : Sm (us ++ [w])) : FC c A (.ref 137) [.str (abs (us ++ [w]))] (.str w) := by
  have := fc_basename (c := c) (x := abs (us ++ [w])) hA (by have := sm_len h hs; rw [sizeLine_eq]; omega)
  rwa [base_abs us (nms_ok h w (by simp)).1] at this
theorem fc_joinN {us : List Str} {w : Str} (hA : Okay 2 A) (h : Nms us) (hw : w ∈ NM) (hs : Sm us) : FC c A (.ref 123) [.str (abs us), .str w] (.str (abs (us ++ [w]))) := by
  rw [← pjoin_name (nms_ok h) (nmOk hw).nsl]
  have := sm_len h hs
  have := (nmOk hw).len
  exact fc_join2 hA (by rw [sizeLine_eq]; omega) (by rw [sizeLine_eq]; omega)
theorem fc_joinP {us : List Str} {p : Str} (hA : Okay 2 A) (h : Nms us) (hp : GoodP p) (hs : Sm us) : FC c A (.ref 123) [.str (abs us), .str p] (.str (pjoin (abs us) p)) := by
  have := sm_len h hs
  have := hp.len
  exact fc_join2 hA (by rw [sizeLine_eq]; omega) (by rw [sizeLine_eq]; omega)
theorem pjoin_len (a b : Str) : (pjoin a b).length ≤ a.length + b.length + 1 := by
  unfold pjoin
  split
  · omega
  · split
    · rw [Str.length_append]; omega
    · rw [Str.length_append, Str.length_append, show (Str.ofString "/").length = 1 from sl_len]; omega
theorem fc_normP {us : List Str} {p : Str} (hA : Okay 3 A) (h : Nms us) (hp : GoodP p) (hs : Sm us) : FC c A (.ref 151) [.str (pjoin (abs us) p)] (.str (abs (wayOf us p))) := by
  obtain ⟨q, e1, e2, e3⟩ := norm_abs h hp
  have hl := pjoin_len (abs us) p
  have := sm_len h hs
  have := hp.len
  have h1 : Txt.slice (pjoin (abs us) p) none (some 1) = "/" := (slice1_iff _).mpr ⟨q, e1⟩
  have h2 : Txt.slice (pjoin (abs us) p) (some 1) (some 2) ≠ "/" := by
    rw [e1]
    intro hc
    by_cases hq : q.length = 0
    · have : q = Str.empty := (len0_iff q).mp hq
      subst this
      rw [app_empty] at hc
      exact absurd hc (by decide +kernel)
    · have e := slice_mid (x := sl ++ q) (a := 1) (b := 2) (by decide) (by rw [Str.length_append, sl_len]; omega)
      have hc' : Txt.slice (sl ++ q) (some ((1 : Nat) : Int)) (some ((2 : Nat) : Int)) = "/" := hc
      rw [e, cs_append, csl] at hc'
      have h3 : (cs q).take 1 = [47] := by
        have := congrArg cs hc'
        rw [show cs (Str.ofString "/") = [47] from csl] at this
        simpa [cs] using this
      refine e2 ⟨((cs q).drop 1).toArray⟩ (cs_inj ?_)
      rw [cs_append, csl, ← h3]
      exact (List.take_append_drop 1 (cs q)).symm
  have h0 := fc_normpath (c := c) hA (x := pjoin (abs us) p) (by rw [sizeLine_eq]; omega) h1 h2
  rw [e1, slice1_drop, e3, ← e1] at h0
  exact h0
theorem fc_keptW {ways : List (List Str)} {k : List Str} (hA : Okay 1 A) (hw : ∀ w ∈ ways, Nms w) (hk : Nms k) (hl : ways.length ≤ 1000) : FC c A (.ref 166) [dB ways, .str (abs (k.map cap))] (dS ((keptW ways k).map abs)) := by
  rw [← kept_book hw hk]
  exact fc_kept hA (by unfold bookOf; rw [List.length_map, sizeLine_eq]; omega)
theorem sw_abs (ws : List Str) : Txt.startswith (abs ws) "/" = true := (sw_iff _).mpr ⟨_, rfl⟩
theorem fc_belowW {us ws : List Str} (hA : Okay 9 A) (hu : Nms us) (hw : Nms ws) (hs : Sm us) (hs' : Sm ws) : FC c A (.ref 173) [.str (abs (us.map cap)), .str (abs (ws.map cap))] (.bool (under us ws)) := by
  rw [← below_caps hu hw]
  have h1 := sm_len hu hs
  have h2 := sm_len hw hs'
  refine fc_below hA ?_ ?_ (sw_abs _) (sw_abs _)
  · rw [abscap_len hu, sizeLine_eq]; omega
  · rw [abscap_len hw, sizeLine_eq]; omega
end
end Mine
end

section -- P10
open PySem PySem.W PyProof.Rows PySem.Builtin PySem.Builtin.Str
set_option Elab.async false
set_option maxRecDepth 100000
set_option linter.unusedVariables false
set_option autoImplicit false
namespace Mine
section
variable {c : Cx} {A : Around} {env : Env} {μ : Sto} {base : Heap} {o : Out}
/-- two names, one of them a cell: no swap -/
theorem swapped_none {x y : Str} {px py tp vp : Pos} {k k' : Nat} {e1 e2 : Expr} (hy : env.kindOf y = some .cell) : swappedStores [.Tuple [.Name x px, .Name y py] k tp] (.Tuple [e1, e2] k' vp) env = pure none := by
  unfold swappedStores
  have hn : ∀ line : Nat, ([Expr.Name x px, Expr.Name y py].filterMap fun
    | .Name nm pos => if env.kindOf nm == some .local && pos.line == line then some nm else none
    | _ => none).length ≠ 2 := by
    intro line
    have h2 : (env.kindOf y == some NameKind.local) = false := by rw [hy]; rfl
    simp only [List.filterMap_cons, List.filterMap_nil, h2, Bool.false_and]
    split <;> simp
  dsimp only
  split
  · rfl
  split
  · rfl
  rename_i a1 a2
  simp only [List.length_cons, List.length_nil] at *
  rw [if_pos]
  · have := hn (Option.map (fun x => x.pos.line) [Expr.Name x px, Expr.Name y py].head?|>.getD 0)
    simp only [Bool.or_eq_true, bne_iff_ne]
    exact .inl this
theorem swapped_none' {x y : Str} {px py tp vp : Pos} {k k' : Nat} {e1 e2 : Expr} (hy : env.kindOf x = some .cell) : swappedStores [.Tuple [.Name x px, .Name y py] k tp] (.Tuple [e1, e2] k' vp) env = pure none := by
  unfold swappedStores
  have hn : ∀ line : Nat, ([Expr.Name x px, Expr.Name y py].filterMap fun
    | .Name nm pos => if env.kindOf nm == some .local && pos.line == line then some nm else none
    | _ => none).length ≠ 2 := by
    intro line
    have h2 : (env.kindOf x == some NameKind.local) = false := by rw [hy]; rfl
    simp only [List.filterMap_cons, List.filterMap_nil, h2, Bool.false_and, Bool.false_eq_true, if_false]
    split <;> simp
  dsimp only
  split
  · rfl
  split
  · rfl
  rename_i a1 a2
  simp only [List.length_cons, List.length_nil] at *
  rw [if_pos]
  · have := hn (Option.map (fun x => x.pos.line) [Expr.Name x px, Expr.Name y py].head?|>.getD 0)
    simp only [Bool.or_eq_true, bne_iff_ne]
    exact .inl this
theorem seen_cons {scope : Scope} {y : Str} {e : D} {ν : Sto} (h1 : μ.lookup y = some e) (h2 : (y, NameKind.free) ∈ scope.names) (h3 : env.kindOf y = some .cell ∨ env.kindOf y = some .free) (h4 : (relabelS scope env.scope).names.lookup y = some .cell)
    (hr : ∀ x d, ν.lookup x = some d → μ.lookup x = some d ∧ (x, NameKind.free) ∈ scope.names ∧ (env.kindOf x = some .cell ∨ env.kindOf x = some .free) ∧ (relabelS scope env.scope).names.lookup x = some .cell) :
    ∀ x d, ((y, e) :: ν).lookup x = some d → μ.lookup x = some d ∧ (x, NameKind.free) ∈ scope.names ∧ (env.kindOf x = some .cell ∨ env.kindOf x = some .free) ∧ (relabelS scope env.scope).names.lookup x = some .cell := fun x d h => by
  rcases lookup_cons_cases h with ⟨rfl, rfl⟩ | ⟨_, h'⟩
  · exact ⟨h1, h2, h3, h4⟩
  · exact hr x d h'
end
theorem sok_iff (x : Str) : PyData.strOk x = true ↔ ∀ n ∈ cs x, n < 0x110000 := by
  unfold PyData.strOk
  rw [Array.all_eq_true']
  simp [cs]
theorem sok_app {x y : Str} (hx : PyData.strOk x = true) (hy : PyData.strOk y = true) : PyData.strOk (x ++ y) = true := by
  rw [sok_iff] at *
  intro n hn
  rw [cs_append] at hn
  exact (List.mem_append.mp hn).elim (hx n) (hy n)
theorem sok_sl : PyData.strOk sl = true := by decide +kernel
theorem sok_nm : NM.all (fun w => PyData.strOk w && PyData.strOk (cap w) && PyData.strOk (low w)) = true := by decide +kernel
theorem sok_name {w : Str} (h : w ∈ NM) : PyData.strOk w = true ∧ PyData.strOk (cap w) = true ∧ PyData.strOk (low w) = true := by
  have := List.all_eq_true.mp sok_nm w h
  simp only [Bool.and_eq_true] at this
  exact ⟨this.1.1, this.1.2, this.2⟩
theorem sok_tl : ∀ {ws : List Str}, (∀ w ∈ ws, PyData.strOk w = true) → PyData.strOk (tl ws) = true
  | [], _ => by decide +kernel
  | w :: ws, h => sok_app (sok_app sok_sl (h w List.mem_cons_self)) (sok_tl fun v hv => h v (List.mem_cons_of_mem _ hv))
theorem sok_abs {ws : List Str} (h : ∀ w ∈ ws, PyData.strOk w = true) : PyData.strOk (abs ws) = true := by
  by_cases he : ws = []
  · subst he; rw [abs_nil]; exact sok_sl
  · rw [abs_tl he]; exact sok_tl h
theorem sok_absN {ws : List Str} (h : Nms ws) : PyData.strOk (abs ws) = true ∧ PyData.strOk (abs (ws.map cap)) = true :=
  ⟨sok_abs fun w hw => (sok_name (h w hw)).1, sok_abs fun w hw => by obtain ⟨v, hv, rfl⟩ := List.mem_map.mp hw; exact (sok_name (h v hv)).2.1⟩
theorem sok_kept {ways : List (List Str)} {k : List Str} (h : ∀ w ∈ ways, Nms w) : ∀ x ∈ (keptW ways k).map abs, PyData.strOk x = true := fun x hx => by
  obtain ⟨w, hw, rfl⟩ := List.mem_map.mp hx
  exact (sok_absN (h w (kept_sub hw))).1
theorem sok_nil : ∀ x ∈ ([] : List Str), PyData.strOk x = true := fun _ h => nomatch h
theorem head_get {α β : Type} {f : α → β} {l : List α} {d : α} (h : l ≠ []) : (l.map f)[0]? = some (f (l.headD d)) := by
  cases l with
  | nil => exact absurd rfl h
  | cons a r => rfl
theorem abs_root {ws : List Str} (h : Plain ws) : abs ws = "/" ↔ ws = [] := by
  rw [← abs_nil]
  exact abs_inj h.1 fun _ h => nomatch h
/-! the kept list's step, kind by kind -/
theorem told0 {st : St} {w g : List Str} : toldW st 0 w g = ((keptW st.2 w).headD st.1, st.2) := if_pos rfl
theorem told1a {st : St} {w g : List Str} (h : keptW st.2 w ≠ [] ∨ keptW st.2 w.dropLast = []) : toldW st 1 w g = st := (if_neg (by decide)).trans ((if_pos rfl).trans (if_pos h))
theorem told1b {st : St} {w g : List Str} (h : ¬(keptW st.2 w ≠ [] ∨ keptW st.2 w.dropLast = [])) : toldW st 1 w g = (st.1, st.2 ++ [(keptW st.2 w.dropLast).headD [] ++ lastOf w]) := (if_neg (by decide)).trans ((if_pos rfl).trans (if_neg h))
theorem told3a {st : St} {w g : List Str} (h : keptW st.2 w = [] ∨ w = [] ∨ under w st.1 = true) : toldW st 3 w g = st := (if_neg (by decide)).trans ((if_neg (by decide)).trans (if_pos (h.imp id (Or.imp id fun q => ⟨rfl, q⟩))))
theorem told3b {st : St} {w g : List Str} (h : ¬(keptW st.2 w = [] ∨ w = [] ∨ under w st.1 = true)) : toldW st 3 w g = (st.1, st.2.filter fun o => !under w o) :=
  (if_neg (by decide)).trans ((if_neg (by decide)).trans ((if_neg (fun q => h (q.imp id (Or.imp id fun q => q.2)))).trans (if_pos rfl)))
theorem told2a {st : St} {w g : List Str} (h : keptW st.2 w = [] ∨ w = []) : toldW st 2 w g = st := (if_neg (by decide)).trans ((if_neg (by decide)).trans (if_pos (h.elim .inl fun q => .inr (.inl q))))
/-- why a move is not -/
def stays2 (st : St) (w g : List Str) : Prop := g = [] ∨ keptW st.2 g.dropLast = [] ∨ (g.map low ≠ w.map low ∧ (keptW st.2 g ≠ [] ∨ under w g = true))
theorem told2n {st : St} {w : List Str} (h : ¬(keptW st.2 w = [] ∨ w = [])) : ¬(keptW st.2 w = [] ∨ w = [] ∨ ((2 : Int) = 3 ∧ under w st.1 = true)) := by
  rw [← or_assoc]
  exact fun q => q.elim h fun q => absurd q.1 (by decide)
theorem told2b {st : St} {w g : List Str} (h : ¬(keptW st.2 w = [] ∨ w = [])) (h' : stays2 st w g) : toldW st 2 w g = st :=
  (if_neg (by decide)).trans ((if_neg (by decide)).trans ((if_neg (told2n h)).trans ((if_neg (by decide)).trans (if_pos h'))))
theorem told2c {st : St} {w g : List Str} (h : ¬(keptW st.2 w = [] ∨ w = [])) (h' : ¬stays2 st w g) : toldW st 2 w g =
    (if under w st.1 = true then (keptW st.2 g.dropLast).headD [] ++ lastOf g ++ st.1.drop w.length else st.1,
      st.2.map fun o => if under w o = true then (keptW st.2 g.dropLast).headD [] ++ lastOf g ++ o.drop w.length else o) :=
  (if_neg (by decide)).trans ((if_neg (by decide)).trans ((if_neg (told2n h)).trans ((if_neg (by decide)).trans (if_neg h'))))
theorem kept_low {ways : List (List Str)} {k w : List Str} (h : w ∈ keptW ways k) : w.map low = k.map low := of_decide_eq_true (List.mem_filter.mp h).2
theorem headD_mem {α : Type} {l : List α} {d : α} (h : l ≠ []) : l.headD d ∈ l := by
  cases l with
  | nil => exact absurd rfl h
  | cons a r => exact List.mem_cons_self
end Mine
end

section -- P11
open PySem PySem.W PyProof.Rows PySem.Builtin PySem.Builtin.Str
set_option Elab.async false
set_option maxRecDepth 100000
set_option linter.unusedVariables false
set_option autoImplicit false
namespace Mine
abbrev dSt (st : St) : D := .list [.str (abs st.1), dB st.2]
theorem dB_cons (ways : List (List Str)) (w : List Str) : dB (ways ++ [w]) = .list (((bookOf ways).map fun p => dS [p.1, p.2]) ++ [dS [abs (w.map cap), abs w]]) := by
  simp [bookOf]
theorem wayOf_sm {here : List Str} {p : Str} {n : Nat} (h : here.length ≤ n) (hn : n ≤ 100000) (hp : GoodP p) : Sm (wayOf here p) := by
  unfold wayOf
  have h1 := wfold_len (Txt.split p "/") (if Txt.slice p none (some 1) = "/" then [] else here)
  have h2 : (if Txt.slice p none (some 1) = "/" then [] else here).length ≤ here.length := by split <;> simp
  have h3 := split_len p
  have h4 : (Txt.split p "/").length ≤ p.length + 1 := by show (Txt.split p sl).length ≤ _; omega
  have h5 := hp.len
  show _ ≤ 200000
  omega
/-- the book without what lies below -/
theorem book_rest {ways : List (List Str)} {W : List Str} (hw : ∀ w ∈ ways, Nms w) (hW : Nms W) :
    (((bookOf ways).map fun p => dS [p.1, p.2]).filter fun d => !below (abs (W.map cap)) (fst' d)).map (fun d => d) = (bookOf (ways.filter fun o => !under W o)).map fun p => dS [p.1, p.2] := by
  rw [List.map_id']
  unfold bookOf
  rw [List.map_map, List.map_map, List.filter_map]
  congr 1
  refine List.filter_congr fun w hm => ?_
  show (!below (abs (W.map cap)) (abs (w.map cap))) = _
  rw [below_caps hW (hw w hm)]
section
variable {c : Cx} {A : Around} {env : Env} {μ : Sto} {base : Heap} {o : Out}
theorem fc_done1 {n : Nat} {here : List Str} {ways : List (List Str)} {kind : Int} {one two : Str} (hA : Okay 10 A) (h : Inv n 900 (here, ways)) (hn : n ≤ 100000) (h1 : GoodP one) (h2 : GoodP two) (hk : kind = 0 ∨ kind = 1 ∨ kind = 3) :
    FC c A (.ref 178) [dSt (here, ways), .int kind, .str one, .str two] (dSt (told (here, ways) kind one two)) := by
  have hh : Nms here := h.here
  have hww : ∀ w ∈ ways, Nms w := h.ways
  have hhs : Sm here := Nat.le_trans h.hlen (by omega)
  have hwl : ways.length ≤ 900 := h.len
  have hws : ∀ w ∈ ways, Sm w := fun w hm => Nat.le_trans (h.wlen w hm) (by omega)
  have hWn := wayOf_nms hh h1
  have hWs := wayOf_sm h.hlen hn h1
  have f2 := fun (A : Around) (hA : Okay 3 A) => fc_normP (c := c) hA hh h1 hhs
  have htold : told (here, ways) kind one two = toldW (here, ways) kind (wayOf here one) (wayOf here two) := rfl
  rw [htold]
  generalize wayOf here two = G
  generalize wayOf here one = W at *
  have hbl : ((bookOf ways).map fun p => dS [p.1, p.2]).length ≤ 900 := by unfold bookOf; rw [List.length_map, List.length_map]; exact hwl
  refine fc_open (xs := ["state", "kind", "one", "two"]) hA rfl rfl rfl (by kernel_rfl) (bindC_plain ?_) rfl (by decide +kernel) (by decide +kernel) ?_
  · intro vs h
    match vs, h with
    | [a, b, c, d], _ => rfl
  · intro base env A' hA' hs hc hf
    have hu : A'.units + 8 < cLine := by have := hA'.units; omega
    have hwl' : ways.length ≤ 1000 := by omega
    have two : 2 ≤ sizeLine := by rw [sizeLine_eq]; decide
    have one1 : 1 ≤ sizeLine := by rw [sizeLine_eq]; decide
    refine exs_cons (ex1_unpack (xs := [("here", _), ("book", _)]) hA'.handled (lv hs rfl rfl) (.inl rfl) (canAll_cons (canL hs rfl) (canAll_cons (canL hs rfl) canAll_nil)) rfl) ?_
    refine exs_cons (ex1_assign (gf hs rfl (ns_normpath _) fnk_normpath (evl1 (gf hs rfl (ns_join _) fnk_join (evl2 (lv hs rfl rfl) (lv hs rfl rfl)) (fc_joinP (hA'.le (by decide)) hh h1 hhs))) (f2 A' (hA'.le (by decide)))) (canL hs rfl)) ?_
    refine exs_cons (ex1_assign (gf hs rfl (ns_capwords _) fnk_capwords (evl2 (lv hs rfl rfl) ev_str) (fc_cap (hA'.le (by decide)) hWn hWs)) (canC hs hc hf rfl rfl)) ?_
    refine exs_cons (ex1_assign (gf hs rfl (ns_law_kept _) fnk_law_kept (evl2 (lv hs rfl rfl) (cv hs rfl rfl)) (fc_keptW (hA'.le (by decide)) hww hWn hwl')) (canL hs rfl)) ?_
    have hkn := sok_kept (k := W) hww
    rcases hk with rfl | rfl | rfl
    · refine exs_ret (ift (evt_cmp (lv hs rfl rfl) ev_int cmp_eq_int) rfl (exs_ret (ex1_ret ?_)))
      rw [told0]
      refine ev_list (evl2 (d := .str (abs ((keptW ways W).headD here))) (ev_ife (evt_cmp (lv hs rfl rfl) (ev_list evl_nil) (cmp_ne_S (ys := []) hu hkn sok_nil)) (fun q => ?_) (fun q => ?_)) (lv hs rfl rfl)) two
      · have hne : keptW ways W ≠ [] := by simpa using q
        refine ev_item (lv hs rfl rfl) ev_int (by decide) (by decide) ?_
        rw [List.map_map]
        exact head_get (f := D.str ∘ abs) hne
      · have hne : keptW ways W = [] := by simpa using q
        rw [hne]
        exact lv hs rfl rfl
    · refine exs_cons (iff' (evt_cmp (lv hs rfl rfl) ev_int cmp_eq_int) rfl exs_nil) ?_
      have hWi := nms_init hWn
      have hWis : Sm W.dropLast := by show W.dropLast.length ≤ _; rw [List.length_dropLast]; have : W.length ≤ 200000 := hWs; omega
      refine exs_ret (ift (evt_cmp (lv hs rfl rfl) ev_int cmp_eq_int) rfl ?_)
      refine exs_cons (ex1_assign (gf hs rfl (ns_law_kept _) fnk_law_kept (evl2 (lv hs rfl rfl) (gf hs rfl (ns_capwords _) fnk_capwords (evl2 (gf hs rfl (ns_dirname _) fnk_dirname (evl1 (lv hs rfl rfl)) (fc_dir (hA'.le (by decide)) hWn hWs)) ev_str) (fc_cap (hA'.le (by decide)) hWi hWis))) (fc_keptW (hA'.le (by decide)) hww hWi hwl')) (canL hs rfl)) ?_
      have hkn2 := sok_kept (k := W.dropLast) hww
      have test := fun (μ : Sto) (p1 p2 p3 p4 p5 p6 p7 : Pos) (q1 : μ.lookup ("kept" : Str) = some (dS ((keptW ways W).map abs))) (q2 : μ.lookup ("above" : Str) = some (dS ((keptW ways W.dropLast).map abs))) =>
        evt_or (c := c) (A := A') (env := env) (pos := p7) (evt_cmp (pos := p3) (lv (pos := p1) hs rfl q1) (ev_list (pos := p2) evl_nil) (cmp_ne_S (ys := []) hu hkn sok_nil)) (evt_cmp (pos := p6) (lv (pos := p4) hs rfl q2) (ev_list (pos := p5) evl_nil) (cmp_eq_S (ys := []) hu hkn2 sok_nil))
      by_cases hcond : keptW ways W ≠ [] ∨ keptW ways W.dropLast = []
      · rw [told1a (st := (here, ways)) hcond]
        refine exs_ret (ift (test _ _ _ _ _ _ _ _ rfl rfl) (by simpa using hcond) (exs_ret (ex1_ret (lv hs rfl rfl))))
      · rw [told1b (st := (here, ways)) hcond]
        refine exs_cons (iff' (test _ _ _ _ _ _ _ _ rfl rfl) (by rw [← Bool.not_eq_true]; simpa using hcond) exs_nil) ?_
        rw [not_or] at hcond
        obtain ⟨hc1, hc2⟩ := hcond
        have hWne : W ≠ [] := by
          rintro rfl
          exact hc2 (by simpa using hc1)
        obtain ⟨us, w, e, ei, el⟩ := snoc_of hWne
        have hm := headD_mem (d := ([] : List Str)) hc2
        have hmem := kept_sub hm
        generalize hK : (keptW ways W.dropLast).headD [] = K at hm hmem ⊢
        have hKn := hww K hmem
        have hKs := hws K hmem
        have hKc : (K ++ lastOf W).map cap = W.map cap := by
          have q := (caps_lows hKn hWi).mpr (kept_low hm)
          rw [List.map_append, q, ei, el, e, List.map_append]
        have hwm : w ∈ NM := hWn w (by rw [e]; simp)
        show ExS c A' base env _ _ (.ret (.list [.str (abs here), dB (ways ++ [K ++ lastOf W])]))
        rw [dB_cons, hKc, el]
        refine exs_ret (ex1_ret (ev_list (evl2 (lv hs rfl rfl) (ev_bin (lv hs rfl rfl) (ev_list (evl1 (ev_list (evl2 (cv hs rfl rfl) (gf hs rfl (ns_join _) fnk_join (evl2 (ev_item (lv hs rfl rfl) ev_int (by decide) (by decide) (d := .str (abs K)) ?_) (gf hs rfl (ns_basename _) fnk_basename (evl1 (lv hs rfl rfl)) (d := .str w) ?_)) (fc_joinN (hA'.le (by decide)) hKn hwm hKs))) two)) one1) (bin_add_list ?_))) two))
        · rw [List.map_map, ← hK]
          exact head_get (f := D.str ∘ abs) hc2
        · rw [e]
          exact fc_base (hA'.le (by decide)) (e ▸ hWn) (e ▸ hWs)
        · show (List.map (fun p => dS [p.1, p.2]) (bookOf ways)).length + 1 ≤ sizeLine
          rw [sizeLine_eq]; omega
    · refine exs_cons (iff' (evt_cmp (lv hs rfl rfl) ev_int cmp_eq_int) rfl exs_nil) ?_
      refine exs_cons (iff' (evt_cmp (lv hs rfl rfl) ev_int cmp_eq_int) rfl exs_nil) ?_
      have test := fun (μ : Sto) (p1 p2 p3 p4 p5 p6 p7 : Pos) (k : Nat) (q1 : μ.lookup ("kept" : Str) = some (dS ((keptW ways W).map abs))) (q2 : μ.lookup ("old" : Str) = some (.str (abs (W.map cap)))) =>
        evt_or (c := c) (A := A') (env := env) (pos := p7) (evt_cmp (pos := p3) (lv (pos := p1) hs rfl q1) (ev_list (pos := p2) evl_nil) (cmp_eq_S (ys := []) hu hkn sok_nil)) (evt_cmp (pos := p6) (cv (pos := p4) hs rfl q2) (ev_str (x := "/") (k := k) (pos := p5)) cmp_eq_str)
      have hroot : (abs (W.map cap) == "/") = decide (W = []) := by
        rw [Bool.eq_iff_iff, beq_iff_eq, decide_eq_true_eq, abs_root (plain_caps hWn), List.map_eq_nil_iff]
      by_cases hcond : keptW ways W = [] ∨ W = []
      · rw [told3a (st := (here, ways)) (hcond.imp id .inl)]
        refine exs_ret (ift (test _ _ _ _ _ _ _ _ _ rfl rfl) (by rw [hroot]; simpa using hcond) (exs_ret (ex1_ret (lv hs rfl rfl))))
      · refine exs_cons (iff' (test _ _ _ _ _ _ _ _ _ rfl rfl) (by rw [hroot, ← Bool.not_eq_true]; simpa using hcond) exs_nil) ?_
        have hol : (abs (W.map cap)).length ≤ sizeLine := by
          have := sm_len hWn hWs
          rw [abscap_len hWn, sizeLine_eq]; omega
        refine exs_cons (ex1_unpack (xs := [("stands", _), ("size", _)]) hA'.handled (ev_tuple (evl2 (gf hs rfl (ns_law_below _) fnk_law_below (evl2 (cv hs rfl rfl) (gf hs rfl (ns_capwords _) fnk_capwords (evl2 (lv hs rfl rfl) ev_str) (fc_cap (hA'.le (by decide)) hh hhs))) (fc_belowW hA' hWn hh hWs hhs)) (ev_call_b (bv hs rfl (nb_len _) bb_len) (evl1 (cv hs rfl rfl)) (fc_len_str hol))) two) (.inr rfl) (canAll_cons (canL hs rfl) (canAll_cons (canC hs hc hf rfl rfl) canAll_nil)) rfl rfl (swapped_none (kOf hs rfl))) ?_
        refine exs_ret (ift (evt_cmp (lv hs rfl rfl) ev_int cmp_eq_int) rfl (exs_ret (ex1_ret ?_)))
        refine ev_ife (evt_plain (lv hs rfl rfl) tr_bool) (fun q => ?_) (fun q => ?_)
        · rw [told3a (st := (here, ways)) (.inr (.inr q))]
          exact lv hs rfl rfl
        · rw [told3b (st := (here, ways)) (by rw [← or_assoc]; exact fun z => z.elim hcond fun z => by rw [q] at z; cases z)]
          refine ev_list (evl2 (lv hs rfl rfl) (d' := dB (ways.filter fun o => !under W o)) ?_) two
          refine ev_to (ev_comp (ds := (bookOf ways).map fun p => dS [p.1, p.2]) (f := fun d => [("pair", d)]) (ν := [("old", .str (abs (W.map cap)))]) (p := fun d => !below (abs (W.map cap)) (fst' d)) (g := fun d => d) (lv hs rfl rfl) (fun s v _ r => its_list hA'.handled r)
            ⟨by rw [sizeLine_eq]; omega, seen_cons rfl (by decide +kernel) (.inl (kOf hs rfl)) (by rw [hs]; rfl) seen_nil, ?_, by decide +kernel, rfl, by decide +kernel, ?_, ?_⟩) (congrArg D.list (book_rest hww hWn))
          · rw [hc]; exact free_all rfl
          · intro a cenv CE e he
            have hsc := CE.sc
            rw [hs] at hsc
            exact asg_name (canL hsc rfl)
          · intro a cenv CE e he
            have hsc := CE.sc
            rw [hs] at hsc
            obtain ⟨p, hp, rfl⟩ := List.mem_map.mp he
            obtain ⟨w, hw, rfl⟩ := List.mem_map.mp hp
            refine ⟨.inr ⟨_, rfl, evt_not (evt_plain (gf hsc rfl (ns_law_below _) fnk_law_below (evl2 (cv hsc rfl rfl) (ev_item (lv hsc rfl rfl) ev_int (by decide) (by decide) rfl)) ?_) tr_bool)⟩, fun _ => lv hsc rfl rfl⟩
            show FC (c.off a) A' (.ref 173) [.str (abs (W.map cap)), .str (abs (w.map cap))] (.bool (below (abs (W.map cap)) (abs (w.map cap))))
            rw [below_caps hWn (hww w hw)]
            exact fc_belowW hA' hWn (hww w hw) hWs (hws w hw)
end
end Mine
end

section -- P12
open PySem PySem.W PyProof.Rows PySem.Builtin PySem.Builtin.Str
set_option Elab.async false
set_option maxRecDepth 100000
set_option linter.unusedVariables false
set_option autoImplicit false
namespace Mine
theorem stays2_iff {here : List Str} {ways : List (List Str)} {W G : List Str} (hW : W ≠ []) :
    stays2 (here, ways) W G ↔ keptW ways G.dropLast = [] ∨ (G.map low ≠ W.map low ∧ (keptW ways G ≠ [] ∨ under W G = true)) := by
  unfold stays2
  refine ⟨fun h => ?_, fun h => .inr h⟩
  rcases h with rfl | h
  · by_cases hk : keptW ways ([] : List Str).dropLast = []
    · exact .inl hk
    · refine .inr ⟨?_, .inl hk⟩
      rw [List.map_nil]
      intro q
      exact hW (List.map_eq_nil_iff.mp q.symm)
  · exact h
def sndS : D → Str
  | .list [_, .str b] => b
  | _ => ""
def gMove (OLD NEW TEXT : Str) (L : Int) (d : D) : D :=
  if below OLD (fst' d) = true then dS [NEW ++ Txt.slice (fst' d) (some L) none, TEXT ++ Txt.slice (sndS d) (some L) none] else d
theorem book_moved {ways : List (List Str)} {W T : List Str} {NEW : Str} (hw : ∀ w ∈ ways, Nms w) (hW : Nms W) (hWne : W ≠ []) (hTne : T ≠ []) (hNEW : NEW = abs (T.map cap)) :
    (((bookOf ways).map fun p => dS [p.1, p.2]).filter fun _ => true).map (gMove (abs (W.map cap)) NEW (abs T) ((abs (W.map cap)).length : Nat)) =
      (bookOf (ways.map fun o => if under W o = true then T ++ o.drop W.length else o)).map fun p => dS [p.1, p.2] := by
  rw [List.filter_eq_self.mpr (by simp)]
  unfold bookOf
  rw [List.map_map, List.map_map, List.map_map, List.map_map]
  refine List.map_congr_left fun w hm => ?_
  show gMove _ _ _ _ (dS [abs (w.map cap), abs w]) = dS [abs ((if under W w = true then T ++ w.drop W.length else w).map cap), abs (if under W w = true then T ++ w.drop W.length else w)]
  unfold gMove
  show (if below (abs (W.map cap)) (abs (w.map cap)) = true then dS [NEW ++ Txt.slice (abs (w.map cap)) _ none, abs T ++ Txt.slice (abs w) _ none] else _) = _
  rw [below_caps hW (hw w hm)]
  by_cases hu : under W w = true
  · rw [if_pos hu, if_pos hu, cut_key hW (hw w hm) hu hWne, cut_rest hW (hw w hm) hu hWne, ← abs_app _ hTne, List.map_append, hNEW, ← abs_app _ (by simpa using hTne)]
  · rw [if_neg hu, if_neg hu]
section
variable {c : Cx} {A : Around} {env : Env} {μ : Sto} {base : Heap} {o : Out}
set_option maxHeartbeats 1000000 in
theorem fc_done2 {n : Nat} {here : List Str} {ways : List (List Str)} {one two : Str} (hA : Okay 10 A) (h : Inv n 900 (here, ways)) (hn : n ≤ 100000) (h1 : GoodP one) (h2 : GoodP two) :
    FC c A (.ref 178) [dSt (here, ways), .int 2, .str one, .str two] (dSt (told (here, ways) 2 one two)) := by
  have hh : Nms here := h.here
  have hww : ∀ w ∈ ways, Nms w := h.ways
  have hhs : Sm here := Nat.le_trans h.hlen (by omega)
  have hwl : ways.length ≤ 900 := h.len
  have hws : ∀ w ∈ ways, Sm w := fun w hm => Nat.le_trans (h.wlen w hm) (by omega)
  have hWn := wayOf_nms hh h1
  have hWs := wayOf_sm h.hlen hn h1
  have hGn := wayOf_nms hh h2
  have hGs := wayOf_sm h.hlen hn h2
  have f2 := fun (A : Around) (hA : Okay 3 A) => fc_normP (c := c) hA hh h1 hhs
  have f3 := fun (A : Around) (hA : Okay 3 A) => fc_normP (c := c) hA hh h2 hhs
  have htold : told (here, ways) 2 one two = toldW (here, ways) 2 (wayOf here one) (wayOf here two) := rfl
  rw [htold]
  generalize wayOf here two = G at *
  generalize wayOf here one = W at *
  have hbl : ((bookOf ways).map fun p => dS [p.1, p.2]).length ≤ 900 := by unfold bookOf; rw [List.length_map, List.length_map]; exact hwl
  refine fc_open (xs := ["state", "kind", "one", "two"]) hA rfl rfl rfl (by kernel_rfl) (bindC_plain ?_) rfl (by decide +kernel) (by decide +kernel) ?_
  · intro vs h
    match vs, h with
    | [a, b, c, d], _ => rfl
  · intro base env A' hA' hs hc hf
    have hu : A'.units + 8 < cLine := by have := hA'.units; omega
    have hk : env.scope.kind = .function := by rw [hs]
    have hwl' : ways.length ≤ 1000 := by omega
    have two : 2 ≤ sizeLine := by rw [sizeLine_eq]; decide
    have one1 : 1 ≤ sizeLine := by rw [sizeLine_eq]; decide
    have hkn := sok_kept (k := W) hww
    have hkg := sok_kept (k := G) hww
    have hki := sok_kept (k := G.dropLast) hww
    have hGi := nms_init hGn
    have hGis : Sm G.dropLast := by show G.dropLast.length ≤ _; rw [List.length_dropLast]; have : G.length ≤ 200000 := hGs; omega
    refine exs_cons (ex1_unpack (xs := [("here", _), ("book", _)]) hA'.handled (lv hs rfl rfl) (.inl rfl) (canAll_cons (canL hs rfl) (canAll_cons (canL hs rfl) canAll_nil)) rfl) ?_
    refine exs_cons (ex1_assign (gf hs rfl (ns_normpath _) fnk_normpath (evl1 (gf hs rfl (ns_join _) fnk_join (evl2 (lv hs rfl rfl) (lv hs rfl rfl)) (fc_joinP (hA'.le (by decide)) hh h1 hhs))) (f2 A' (hA'.le (by decide)))) (canL hs rfl)) ?_
    refine exs_cons (ex1_assign (gf hs rfl (ns_capwords _) fnk_capwords (evl2 (lv hs rfl rfl) ev_str) (fc_cap (hA'.le (by decide)) hWn hWs)) (canC hs hc hf rfl rfl)) ?_
    refine exs_cons (ex1_assign (gf hs rfl (ns_law_kept _) fnk_law_kept (evl2 (lv hs rfl rfl) (cv hs rfl rfl)) (fc_keptW (hA'.le (by decide)) hww hWn hwl')) (canL hs rfl)) ?_
    refine exs_cons (iff' (evt_cmp (lv hs rfl rfl) ev_int cmp_eq_int) rfl exs_nil) ?_
    refine exs_cons (iff' (evt_cmp (lv hs rfl rfl) ev_int cmp_eq_int) rfl exs_nil) ?_
    have test := fun (μ : Sto) (p1 p2 p3 p4 p5 p6 p7 : Pos) (k : Nat) (q1 : μ.lookup ("kept" : Str) = some (dS ((keptW ways W).map abs))) (q2 : μ.lookup ("old" : Str) = some (.str (abs (W.map cap)))) =>
      evt_or (c := c) (A := A') (env := env) (pos := p7) (evt_cmp (pos := p3) (lv (pos := p1) hs rfl q1) (ev_list (pos := p2) evl_nil) (cmp_eq_S (ys := []) hu hkn sok_nil)) (evt_cmp (pos := p6) (cv (pos := p4) hs rfl q2) (ev_str (x := "/") (k := k) (pos := p5)) cmp_eq_str)
    have hroot : (abs (W.map cap) == "/") = decide (W = []) := by
      rw [Bool.eq_iff_iff, beq_iff_eq, decide_eq_true_eq, abs_root (plain_caps hWn), List.map_eq_nil_iff]
    by_cases hcond : keptW ways W = [] ∨ W = []
    · rw [told2a (st := (here, ways)) hcond]
      exact exs_ret (ift (test _ _ _ _ _ _ _ _ _ rfl rfl) (by rw [hroot]; simpa using hcond) (exs_ret (ex1_ret (lv hs rfl rfl))))
    refine exs_cons (iff' (test _ _ _ _ _ _ _ _ _ rfl rfl) (by rw [hroot, ← Bool.not_eq_true]; simpa using hcond) exs_nil) ?_
    have hWne : W ≠ [] := fun q => hcond (.inr q)
    have hol : (abs (W.map cap)).length ≤ sizeLine := by
      have := sm_len hWn hWs
      rw [abscap_len hWn, sizeLine_eq]; omega
    refine exs_cons (ex1_unpack (xs := [("stands", _), ("size", _)]) hA'.handled (ev_tuple (evl2 (gf hs rfl (ns_law_below _) fnk_law_below (evl2 (cv hs rfl rfl) (gf hs rfl (ns_capwords _) fnk_capwords (evl2 (lv hs rfl rfl) ev_str) (fc_cap (hA'.le (by decide)) hh hhs))) (fc_belowW hA' hWn hh hWs hhs)) (ev_call_b (bv hs rfl (nb_len _) bb_len) (evl1 (cv hs rfl rfl)) (fc_len_str hol))) two) (.inr rfl) (canAll_cons (canL hs rfl) (canAll_cons (canC hs hc hf rfl rfl) canAll_nil)) rfl rfl (swapped_none (kOf hs rfl))) ?_
    refine exs_cons (iff' (evt_cmp (lv hs rfl rfl) ev_int cmp_eq_int) rfl exs_nil) ?_
    refine exs_cons (ex1_assign (gf hs rfl (ns_normpath _) fnk_normpath (evl1 (gf hs rfl (ns_join _) fnk_join (evl2 (lv hs rfl rfl) (lv hs rfl rfl)) (fc_joinP (hA'.le (by decide)) hh h2 hhs))) (f3 A' (hA'.le (by decide)))) (canL hs rfl)) ?_
    refine exs_cons (ex1_unpack (xs := [("new", _), ("above", _)]) hA'.handled (ev_tuple (evl2 (gf hs rfl (ns_capwords _) fnk_capwords (evl2 (lv hs rfl rfl) ev_str) (fc_cap (hA'.le (by decide)) hGn hGs)) (gf hs rfl (ns_law_kept _) fnk_law_kept (evl2 (lv hs rfl rfl) (gf hs rfl (ns_capwords _) fnk_capwords (evl2 (gf hs rfl (ns_dirname _) fnk_dirname (evl1 (lv hs rfl rfl)) (fc_dir (hA'.le (by decide)) hGn hGs)) ev_str) (fc_cap (hA'.le (by decide)) hGi hGis))) (fc_keptW (hA'.le (by decide)) hww hGi hwl'))) two) (.inr rfl) (canAll_cons (canC hs hc hf rfl rfl) (canAll_cons (canL hs rfl) canAll_nil)) rfl rfl (swapped_none' (kOf hs rfl))) ?_
    have hNO : (abs (G.map cap) == abs (W.map cap)) = decide (G.map low = W.map low) := by
      rw [Bool.eq_iff_iff, beq_iff_eq, decide_eq_true_eq, abscap_inj hGn hWn]
    have hb : (decide ((keptW ways G.dropLast).map abs = []) || ((abs (G.map cap) != abs (W.map cap)) && (!decide ((keptW ways G).map abs = []) || under W G))) = true ↔ stays2 (here, ways) W G := by
      rw [stays2_iff hWne, bne, hNO]
      simp
    by_cases hst : stays2 (here, ways) W G
    · rw [told2b (st := (here, ways)) hcond hst]
      exact exs_ret (ift (evt_or (evt_cmp (lv hs rfl rfl) (ev_list evl_nil) (cmp_eq_S (ys := []) hu hki sok_nil)) (evt_and (evt_cmp (cv hs rfl rfl) (cv hs rfl rfl) cmp_ne_str) (evt_or (evt_cmp (gf hs rfl (ns_law_kept _) fnk_law_kept (evl2 (lv hs rfl rfl) (cv hs rfl rfl)) (fc_keptW (hA'.le (by decide)) hww hGn hwl')) (ev_list evl_nil) (cmp_ne_S (ys := []) hu hkg sok_nil)) (evt_plain (gf hs rfl (ns_law_below _) fnk_law_below (evl2 (cv hs rfl rfl) (cv hs rfl rfl)) (fc_belowW hA' hWn hGn hWs hGs)) tr_bool)))) (hb.mpr hst) (exs_ret (ex1_ret (lv hs rfl rfl))))
    refine exs_cons (iff' (evt_or (evt_cmp (lv hs rfl rfl) (ev_list evl_nil) (cmp_eq_S (ys := []) hu hki sok_nil)) (evt_and (evt_cmp (cv hs rfl rfl) (cv hs rfl rfl) cmp_ne_str) (evt_or (evt_cmp (gf hs rfl (ns_law_kept _) fnk_law_kept (evl2 (lv hs rfl rfl) (cv hs rfl rfl)) (fc_keptW (hA'.le (by decide)) hww hGn hwl')) (ev_list evl_nil) (cmp_ne_S (ys := []) hu hkg sok_nil)) (evt_plain (gf hs rfl (ns_law_below _) fnk_law_below (evl2 (cv hs rfl rfl) (cv hs rfl rfl)) (fc_belowW hA' hWn hGn hWs hGs)) tr_bool)))) (by rw [← Bool.not_eq_true]; exact fun q => hst (hb.mp q)) exs_nil) ?_
    rw [told2c (st := (here, ways)) hcond hst]
    have hGne : G ≠ [] := fun q => hst (.inl q)
    have hAb : keptW ways G.dropLast ≠ [] := fun q => hst (.inr (.inl q))
    obtain ⟨us, w, e, ei, el⟩ := snoc_of hGne
    have hm := headD_mem (d := ([] : List Str)) hAb
    have hmem := kept_sub hm
    show ExS c A' base env _ _ (.ret (.list [.str (abs (if under W here = true then (keptW ways G.dropLast).headD [] ++ lastOf G ++ here.drop W.length else here)),
      dB (ways.map fun o => if under W o = true then (keptW ways G.dropLast).headD [] ++ lastOf G ++ o.drop W.length else o)]))
    generalize hK : (keptW ways G.dropLast).headD [] = K at hm hmem ⊢
    have hKn := hww K hmem
    have hKs := hws K hmem
    have hwm : w ∈ NM := hGn w (by rw [e]; simp)
    rw [el]
    have hNEW : abs (G.map cap) = abs ((K ++ [w]).map cap) := by
      have q := (caps_lows hKn hGi).mpr (kept_low hm)
      rw [List.map_append, q, ei, e, List.map_append]
    have hTne : K ++ [w] ≠ [] := by simp
    refine exs_cons (ex1_assign (gf hs rfl (ns_join _) fnk_join (evl2 (ev_item (lv hs rfl rfl) ev_int (by decide) (by decide) (d := .str (abs K)) ?_) (gf hs rfl (ns_basename _) fnk_basename (evl1 (lv hs rfl rfl)) (d := .str w) ?_)) (fc_joinN (hA'.le (by decide)) hKn hwm hKs)) (canC hs hc hf rfl rfl)) ?_
    · rw [List.map_map, ← hK]
      exact head_get (f := D.str ∘ abs) hAb
    · rw [e]
      exact fc_base (hA'.le (by decide)) (e ▸ hGn) (e ▸ hGs)
    generalize hT : K ++ [w] = T at hNEW hTne ⊢
    have hTl : (abs T).length ≤ 1000000 := by
      have hTn : Nms T := by rw [← hT]; exact nms_app hKn fun v hv => by rw [List.mem_singleton] at hv; exact hv ▸ hwm
      have := abs_len4 hTn
      have e1 : T.length = K.length + 1 := by rw [← hT]; simp
      have : K.length ≤ 200000 := hKs
      omega
    have hNl : (abs (G.map cap)).length ≤ 1000000 := by
      have := sm_len hGn hGs
      rw [abscap_len hGn]; omega
    refine exs_cons (ex1_to (d' := dB (ways.map fun o => if under W o = true then T ++ o.drop W.length else o)) (ex1_assign_comp (ds := (bookOf ways).map fun p => dS [p.1, p.2]) (f := fun d => [("rest", .str (sndS d)), ("key", .str (fst' d))])
      (ν := [("new", .str (abs (G.map cap))), ("old", .str (abs (W.map cap))), ("size", .int ((abs (W.map cap)).length : Nat)), ("text", .str (abs T))]) (p := fun _ => true) (g := gMove (abs (W.map cap)) (abs (G.map cap)) (abs T) ((abs (W.map cap)).length : Nat)) (lv hs rfl rfl) (fun s v _ r => its_list hA'.handled r)
      ⟨by rw [sizeLine_eq]; omega, seen_cons rfl (by decide +kernel) (.inl (kOf hs rfl)) (by rw [hs]; rfl) (seen_cons rfl (by decide +kernel) (.inl (kOf hs rfl)) (by rw [hs]; rfl) (seen_cons rfl (by decide +kernel) (.inl (kOf hs rfl)) (by rw [hs]; rfl) (seen_cons rfl (by decide +kernel) (.inl (kOf hs rfl)) (by rw [hs]; rfl) seen_nil))), ?_, by decide +kernel, rfl, by decide +kernel, ?_, ?_⟩ (swaps_true hk (kOf hs rfl) rfl rfl) (kOf hs rfl)) (congrArg D.list (book_moved hww hWn hWne hTne hNEW))) ?_
    · rw [hc]; exact free_all rfl
    · intro a cenv CE e he
      have hsc := CE.sc
      rw [hs] at hsc
      obtain ⟨p, _, rfl⟩ := List.mem_map.mp he
      exact asg_tuple (xs := [("key", _), ("rest", _)]) (ds := [.str p.1, .str p.2]) hA'.handled (.inl rfl) (canAll_cons (canL hsc rfl) (canAll_cons (canL hsc rfl) canAll_nil)) rfl
    · intro a cenv CE e he
      have hsc := CE.sc
      rw [hs] at hsc
      obtain ⟨p, hp, rfl⟩ := List.mem_map.mp he
      obtain ⟨v, hv, rfl⟩ := List.mem_map.mp hp
      refine ⟨.inl ⟨rfl, rfl⟩, fun _ => ?_⟩
      have hvn := hww v hv
      have hvs := hws v hv
      have l1 := sm_len hvn hvs
      have l2 : (abs (v.map cap)).length ≤ 800001 := by rw [abscap_len hvn]; exact l1
      have k1 : (abs (v.map cap)).length ≤ sizeLine := by rw [sizeLine_eq]; omega
      have k2 : (abs v).length ≤ sizeLine := by rw [sizeLine_eq]; omega
      have hbel : FC (c.off a) A' (.ref 173) [.str (abs (W.map cap)), .str (abs (v.map cap))] (.bool (below (abs (W.map cap)) (abs (v.map cap)))) := by
        rw [below_caps hWn hvn]
        exact fc_belowW hA' hWn hvn hWs hvs
      show EvE (c.off a) A' cenv _ _ (if below (abs (W.map cap)) (abs (v.map cap)) = true then dS [abs (G.map cap) ++ Txt.slice (abs (v.map cap)) (some ((abs (W.map cap)).length : Nat)) none, abs T ++ Txt.slice (abs v) (some ((abs (W.map cap)).length : Nat)) none] else dS [abs (v.map cap), abs v])
      refine ev_ife (evt_plain (gf hsc rfl (ns_law_below _) fnk_law_below (evl2 (cv hsc rfl rfl) (lv hsc rfl rfl)) hbel) tr_bool) (fun q => ?_) (fun q => ?_)
      · rw [if_pos q]
        refine ev_list (evl2 (d := .str (abs (G.map cap) ++ Txt.slice (abs (v.map cap)) (some ((abs (W.map cap)).length : Nat)) none)) (d' := .str (abs T ++ Txt.slice (abs v) (some ((abs (W.map cap)).length : Nat)) none)) ?_ ?_) two
        · refine ev_bin (cv hsc rfl rfl) (ev_slice_str (lv hsc rfl rfl) (.some (cv hsc rfl rfl)) .none k1) (bin_add_str ?_)
          have := Txt.slice_le (abs (v.map cap)) (some ((abs (W.map cap)).length : Int)) none
          show (abs (G.map cap)).length + (Txt.slice (abs (v.map cap)) (some ((abs (W.map cap)).length : Int)) none).length ≤ _
          rw [sizeLine_eq]; omega
        · refine ev_bin (cv hsc rfl rfl) (ev_slice_str (lv hsc rfl rfl) (.some (cv hsc rfl rfl)) .none k2) (bin_add_str ?_)
          have := Txt.slice_le (abs v) (some ((abs (W.map cap)).length : Int)) none
          show (abs T).length + (Txt.slice (abs v) (some ((abs (W.map cap)).length : Int)) none).length ≤ _
          rw [sizeLine_eq]; omega
      · rw [if_neg (by rw [q]; decide)]
        exact ev_list (evl2 (lv hsc rfl rfl) (lv hsc rfl rfl)) two
    have hl := sm_len hh hhs
    refine exs_ret (ex1_ret (ev_list (evl2 (ev_ife (evt_plain (lv hs rfl rfl) tr_bool) (fun q => ?_) (fun q => ?_)) (lv hs rfl rfl)) two))
    · have q' : under W here = true := q
      rw [if_pos q', abs_app _ hTne, ← cut_rest hWn hh q' hWne]
      refine ev_bin (cv hs rfl rfl) (ev_slice_str (lv hs rfl rfl) (.some (cv hs rfl rfl)) .none (by show (abs here).length ≤ _; rw [sizeLine_eq]; omega)) (bin_add_str ?_)
      have := Txt.slice_le (abs here) (some ((abs (W.map cap)).length : Int)) none
      show (abs T).length + (Txt.slice (abs here) (some ((abs (W.map cap)).length : Int)) none).length ≤ _
      rw [sizeLine_eq]; omega
    · have q' : ¬ under W here = true := by rw [show under W here = false from q]; decide
      rw [if_neg q']
      exact lv hs rfl rfl
end
end Mine
end

section -- P13
open PySem PySem.W PyProof.Rows PySem.Builtin PySem.Builtin.Str
set_option Elab.async false
set_option maxRecDepth 100000
set_option linter.unusedVariables false
set_option autoImplicit false
namespace Mine
abbrev dT (st : St) : D := .list [dS st.1, dSS st.2]
def strsOf : D → List Str
  | .list l => l.map fun | .str x => x | _ => ""
  | _ => []
theorem strsOf_dS (ws : List Str) : strsOf (dS ws) = ws := by
  show (ws.map D.str).map _ = ws
  rw [List.map_map]
  exact List.map_id ws
def pKept (k : List Str) (d : D) : Bool := decide ((strsOf d).map low = k)
theorem filter_kept (ways : List (List Str)) (k : List Str) : (((ways.map dS).filter (pKept (k.map low))).map fun d => d) = (keptW ways k).map dS := by
  rw [List.map_id', List.filter_map]
  unfold keptW
  congr 1
  refine List.filter_congr fun w _ => ?_
  show decide ((strsOf (dS w)).map low = k.map low) = _
  rw [strsOf_dS]
def pUnder (k : List Str) (n : Nat) (d : D) : Bool := decide (((strsOf d).map low).take n = k)
theorem filter_under (ways : List (List Str)) (W : List Str) : (((ways.map dS).filter fun d => !pUnder (W.map low) W.length d).map fun d => d) = (ways.filter fun o => !under W o).map dS := by
  rw [List.map_id', List.filter_map]
  congr 1
  refine List.filter_congr fun w _ => ?_
  show (!decide (((strsOf (dS w)).map low).take _ = _)) = _
  rw [strsOf_dS]
  rfl
theorem sok_lows {ws : List Str} (h : Nms ws) : ∀ x ∈ ws.map low, PyData.strOk x = true := fun x hx => by
  obtain ⟨v, hv, rfl⟩ := List.mem_map.mp hx
  exact (sok_name (h v hv)).2.2
theorem sok_take {ws : List Str} {n : Nat} (h : ∀ x ∈ ws, PyData.strOk x = true) : ∀ x ∈ ws.take n, PyData.strOk x = true := fun x hx => h x (List.mem_of_mem_take hx)
theorem sok_nms {ws : List Str} (h : Nms ws) : ∀ x ∈ ws, PyData.strOk x = true := fun x hx => (sok_name (h x hx)).1
theorem sok_ways {ways : List (List Str)} (h : ∀ w ∈ ways, Nms w) (k : List Str) : ∀ x ∈ keptW ways k, ∀ y ∈ x, PyData.strOk y = true := fun x hx => sok_nms (h x (kept_sub hx))
theorem sok_nil2 : ∀ x ∈ ([] : List (List Str)), ∀ y ∈ x, PyData.strOk y = true := fun _ h => nomatch h
section
variable {c : Cx} {A : Around} {env : Env} {μ : Sto} {base : Heap} {o : Out}
theorem fc_lowN {ws : List Str} (hA : Okay 1 A) (h : Nms ws) (hs : Sm ws) : FC c A (.ref 190) [dS ws] (dS (ws.map low)) :=
  fc_low hA (by rw [sizeLine_eq]; have : ws.length ≤ 200000 := hs; omega) fun w hw => notLong (by
    have := (nmOk (h w hw)).llen
    have := (nmOk (h w hw)).len
    show (low w).length ≤ 100
    omega)
theorem fc_wayN {here : List Str} {p : Str} (hA : Okay 1 A) (hs : Sm here) (hp : GoodP p) : FC c A (.ref 185) [dS here, .str p] (dS (wayOf here p)) :=
  fc_way hA (by rw [sizeLine_eq]; have : here.length ≤ 200000 := hs; have := hp.len; omega)
theorem ev_takeS {value : Expr} {u : Expr} {p pos : Pos} {xs : List Str} {n : Nat} (hv : EvE c A env μ value (dS xs)) (hu : EvE c A env μ u (.int (n : Nat))) (hs : Sm xs) :
    EvE c A env μ (.Subscript value (.Slice none (some u) none p) pos) (dS (xs.take n)) :=
  ev_to (ev_slice_list hv .none (.some hu) (by rw [List.length_map, sizeLine_eq]; have : xs.length ≤ 200000 := hs; omega) (pick_upto (Int.natCast_nonneg n))) (by rw [Int.toNat_natCast, ← List.map_take])
theorem ev_dropS {value : Expr} {u : Expr} {p pos : Pos} {xs : List Str} {n : Nat} (hv : EvE c A env μ value (dS xs)) (hu : EvE c A env μ u (.int (n : Nat))) (hs : Sm xs) :
    EvE c A env μ (.Subscript value (.Slice (some u) none none p) pos) (dS (xs.drop n)) :=
  ev_to (ev_slice_list hv (.some hu) .none (by rw [List.length_map, sizeLine_eq]; have : xs.length ≤ 200000 := hs; omega) (pick_from (Int.natCast_nonneg n))) (by rw [Int.toNat_natCast, ← List.map_drop])
theorem ev_initS {value : Expr} {p p1 p2 pos : Pos} {k : Nat} {xs : List Str} (hv : EvE c A env μ value (dS xs)) (hs : Sm xs) :
    EvE c A env μ (.Subscript value (.Slice none (some (.UnaryOp .USub (.Constant (.int 1) k p1) p2)) none p) pos) (dS xs.dropLast) :=
  ev_to (ev_slice_list hv .none (.some ev_neg1) (by rw [List.length_map, sizeLine_eq]; have : xs.length ≤ 200000 := hs; omega) pick_butLast) (by rw [← List.map_dropLast])
theorem ev_lastS {value : Expr} {p p1 p2 pos : Pos} {k : Nat} {xs : List Str} (hv : EvE c A env μ value (dS xs)) (hs : Sm xs) :
    EvE c A env μ (.Subscript value (.Slice (some (.UnaryOp .USub (.Constant (.int 1) k p1) p2)) none none p) pos) (dS (lastOf xs)) :=
  ev_to (ev_slice_list hv (.some ev_neg1) .none (by rw [List.length_map, sizeLine_eq]; have : xs.length ≤ 200000 := hs; omega) pick_last) (by rw [List.length_map, ← List.map_drop]; rfl)
theorem ev_addS {l r : Expr} {pos : Pos} {xs ys : List Str} (hl : EvE c A env μ l (dS xs)) (hr : EvE c A env μ r (dS ys)) (h : xs.length + ys.length ≤ 1000000) : EvE c A env μ (.BinOp l .Add r pos) (dS (xs ++ ys)) :=
  ev_to (ev_bin hl hr (bin_add_list (by rw [List.length_map, List.length_map, sizeLine_eq]; omega))) (by rw [← List.map_append])

/-- the ways that have the names of one -/
theorem told_comp {elt target iter : Expr} {ifs : List Expr} {scope : Scope} {pos : Pos} {ways : List (List Str)} {k : List Str} {ν : Sto} (hh : A.handled = none) (hl : ways.length ≤ 1000) (hi : EvE c A env μ iter (dSS ways))
    (seen : ∀ x d, ν.lookup x = some d → μ.lookup x = some d ∧ (x, NameKind.free) ∈ scope.names ∧ (env.kindOf x = some .cell ∨ env.kindOf x = some .free) ∧ (relabelS scope env.scope).names.lookup x = some .cell)
    (free : ∀ n, (n, NameKind.free) ∈ scope.names → (env.cells.lookup n).isSome = true) (nocell : ∀ y ∈ scope.names, y.2 ≠ .cell) (kind : scope.kind = .function) (names : ∀ y ∈ scope.names, y.2 = .local → scope.names.lookup y.1 = some .local)
    (target' : ∀ (a : Addr) cenv, CompEnv c env cenv scope → ∀ w ∈ ways, Asg (c.off a) A cenv target (dS w) [("other", dS w)])
    (body : ∀ (a : Addr) cenv, CompEnv c env cenv scope → ∀ w ∈ ways, EvIfs (c.off a) A cenv (("other", dS w) :: ν) ifs (decide (w.map low = k.map low)) ∧ EvE (c.off a) A cenv (("other", dS w) :: ν) elt (dS w))
    (hs : ∀ x, foldedSetIterable iter env x = pure x := by intro _; rfl) : EvE c A env μ (.ListComp elt [⟨target, iter, ifs, 0⟩] scope pos) (dSS (keptW ways k)) := by
  refine ev_to (ev_comp (ds := ways.map dS) (f := fun d => [("other", d)]) (ν := ν) (p := pKept (k.map low)) (g := fun d => d) hi (fun s v _ r => its_list hh r) ⟨by rw [List.length_map, sizeLine_eq]; omega, seen, free, nocell, kind, names, ?_, ?_⟩ hs) (congrArg D.list (filter_kept ways k))
  · intro a cenv CE e he
    obtain ⟨w, hw, rfl⟩ := List.mem_map.mp he
    exact target' a cenv CE w hw
  · intro a cenv CE e he
    obtain ⟨w, hw, rfl⟩ := List.mem_map.mp he
    have e1 : pKept (k.map low) (dS w) = decide (w.map low = k.map low) := by unfold pKept; rw [strsOf_dS]
    rw [e1]
    exact ⟨(body a cenv CE w hw).1, fun _ => (body a cenv CE w hw).2⟩
/-- the same, stored -/
theorem told_comp1 {y : Str} {py spos : Pos} {elt target iter : Expr} {ifs : List Expr} {scope : Scope} {pos : Pos} {ways : List (List Str)} {k : List Str} {ν : Sto} (hh : A.handled = none) (hl : ways.length ≤ 1000) (hi : EvE c A env μ iter (dSS ways))
    (hsw : swapsWith (.ListComp elt [⟨target, iter, ifs, 0⟩] scope pos) (some (.Name y py)) spos.line env = pure true) (hy : env.kindOf y = some .local)
    (seen : ∀ x d, ν.lookup x = some d → μ.lookup x = some d ∧ (x, NameKind.free) ∈ scope.names ∧ (env.kindOf x = some .cell ∨ env.kindOf x = some .free) ∧ (relabelS scope env.scope).names.lookup x = some .cell)
    (free : ∀ n, (n, NameKind.free) ∈ scope.names → (env.cells.lookup n).isSome = true) (nocell : ∀ y ∈ scope.names, y.2 ≠ .cell) (kind : scope.kind = .function) (names : ∀ y ∈ scope.names, y.2 = .local → scope.names.lookup y.1 = some .local)
    (target' : ∀ (a : Addr) cenv, CompEnv c env cenv scope → ∀ w ∈ ways, Asg (c.off a) A cenv target (dS w) [("other", dS w)])
    (body : ∀ (a : Addr) cenv, CompEnv c env cenv scope → ∀ w ∈ ways, EvIfs (c.off a) A cenv (("other", dS w) :: ν) ifs (decide (w.map low = k.map low)) ∧ EvE (c.off a) A cenv (("other", dS w) :: ν) elt (dS w))
    (hs : ∀ x, foldedSetIterable iter env x = pure x := by intro _; rfl) : Ex1 c A base env μ (.Assign [.Name y py] (.ListComp elt [⟨target, iter, ifs, 0⟩] scope pos) spos) (.next ((y, dSS (keptW ways k)) :: μ)) := by
  refine ex1_to (ex1_assign_comp (ds := ways.map dS) (f := fun d => [("other", d)]) (ν := ν) (p := pKept (k.map low)) (g := fun d => d) hi (fun s v _ r => its_list hh r) ⟨by rw [List.length_map, sizeLine_eq]; omega, seen, free, nocell, kind, names, ?_, ?_⟩ hsw hy hs) (congrArg D.list (filter_kept ways k))
  · intro a cenv CE e he
    obtain ⟨w, hw, rfl⟩ := List.mem_map.mp he
    exact target' a cenv CE w hw
  · intro a cenv CE e he
    obtain ⟨w, hw, rfl⟩ := List.mem_map.mp he
    have e1 : pKept (k.map low) (dS w) = decide (w.map low = k.map low) := by unfold pKept; rw [strsOf_dS]
    rw [e1]
    exact ⟨(body a cenv CE w hw).1, fun _ => (body a cenv CE w hw).2⟩
end
end Mine
end

section -- P14
open PySem PySem.W PyProof.Rows PySem.Builtin PySem.Builtin.Str
set_option Elab.async false
set_option maxRecDepth 100000
set_option linter.unusedVariables false
set_option autoImplicit false
namespace Mine
section
variable {c : Cx} {A : Around} {env : Env} {μ : Sto} {base : Heap} {o : Out}
theorem fc_told_0 {n : Nat} {here : List Str} {ways : List (List Str)} {one two : Str} (hA : Okay 2 A) (h : Inv n 900 (here, ways)) (hn : n ≤ 100000) (h1 : GoodP one) (h2 : GoodP two) :
    FC c A (.ref 195) [dT (here, ways), .int 0, .str one, .str two] (dT (told (here, ways) 0 one two)) := by
  have hh : Nms here := h.here
  have hww : ∀ w ∈ ways, Nms w := h.ways
  have hhs : Sm here := Nat.le_trans h.hlen (by omega)
  have hwl : ways.length ≤ 900 := h.len
  have hws : ∀ w ∈ ways, Sm w := fun w hm => Nat.le_trans (h.wlen w hm) (by omega)
  have hWn := wayOf_nms hh h1
  have hWs := wayOf_sm h.hlen hn h1
  have hGn := wayOf_nms hh h2
  have hGs := wayOf_sm h.hlen hn h2
  have f2 := fun (A : Around) (hA : Okay 1 A) => fc_wayN (c := c) hA hhs h1
  have f3 := fun (A : Around) (hA : Okay 1 A) => fc_wayN (c := c) hA hhs h2
  have htold : told (here, ways) 0 one two = toldW (here, ways) 0 (wayOf here one) (wayOf here two) := rfl
  rw [htold]
  generalize wayOf here two = G at *
  generalize wayOf here one = W at *
  refine fc_open (xs := ["state", "kind", "one", "two"]) hA rfl rfl rfl (by kernel_rfl) (bindC_plain ?_) rfl (by decide +kernel) (by decide +kernel) ?_
  · intro vs h
    match vs, h with
    | [a, b, c, d], _ => rfl
  · intro base env A' hA' hs hc hf
    have hu : A'.units + 8 < cLine := by have := hA'.units; omega
    have hk : env.scope.kind = .function := by rw [hs]
    have hwl' : ways.length ≤ 1000 := by omega
    have two : 2 ≤ sizeLine := by rw [sizeLine_eq]; decide
    have one1 : 1 ≤ sizeLine := by rw [sizeLine_eq]; decide
    have hkn := sok_ways hww W
    have hWl : W.length ≤ 200000 := hWs
    have hGl : G.length ≤ 200000 := hGs
    have hWi := nms_init hWn
    have hWis : Sm W.dropLast := by show W.dropLast.length ≤ _; rw [List.length_dropLast]; omega
    have hGi := nms_init hGn
    have hGis : Sm G.dropLast := by show G.dropLast.length ≤ _; rw [List.length_dropLast]; omega
    refine exs_cons (ex1_unpack (xs := [("here", _), ("ways", _)]) hA'.handled (lv hs rfl rfl) (.inl rfl) (canAll_cons (canL hs rfl) (canAll_cons (canL hs rfl) canAll_nil)) rfl) ?_
    refine exs_cons (ex1_unpack (xs := [("way", _), ("goal", _)]) hA'.handled (ev_tuple (evl2 (gf hs rfl (ns_law_way _) fnk_law_way (evl2 (lv hs rfl rfl) (lv hs rfl rfl)) (f2 A' hA')) (gf hs rfl (ns_law_way _) fnk_law_way (evl2 (lv hs rfl rfl) (lv hs rfl rfl)) (f3 A' hA'))) two) (.inr rfl) (canAll_cons (canL hs rfl) (canAll_cons (canC hs hc hf rfl rfl) canAll_nil)) rfl rfl (swapped_none (kOf hs rfl))) ?_
    refine exs_cons (ex1_unpack (xs := [("low", _), ("size", _)]) hA'.handled (ds := [dS (W.map low), .int (W.length : Nat)]) (ev_tuple (evl2 (gf hs rfl (ns_law_low _) fnk_law_low (evl1 (lv hs rfl rfl)) (fc_lowN hA' hWn hWs)) (ev_to (ev_call_b (bv hs rfl (nb_len _) bb_len) (evl1 (lv hs rfl rfl)) (fc_len_list (ds := W.map .str) (by rw [List.length_map, sizeLine_eq]; omega))) (by rw [List.length_map]))) two) (.inr rfl) (canAll_cons (canC hs hc hf rfl rfl) (canAll_cons (canC hs hc hf rfl rfl) canAll_nil)) rfl rfl (swapped_none (kOf hs rfl))) ?_
    refine exs_cons (told_comp1 (k := W) (ν := [("low", dS (W.map low))]) hA'.handled hwl' (lv hs rfl rfl) (swaps_true hk (kOf hs rfl) rfl rfl) (kOf hs rfl) (seen_cons rfl (by decide +kernel) (.inl (kOf hs rfl)) (by rw [hs]; rfl) seen_nil) (by rw [hc]; exact free_all rfl) (by decide +kernel) rfl (by decide +kernel) (fun a cenv CE w hw => by
      have hsc := CE.sc
      rw [hs] at hsc
      exact asg_name (canL hsc rfl)) (fun a cenv CE w hw => by
      have hsc := CE.sc
      rw [hs] at hsc
      exact ⟨.inr ⟨_, rfl, evt_cmp (gf hsc rfl (ns_law_low _) fnk_law_low (evl1 (lv hsc rfl rfl)) (fc_lowN hA' (hww w hw) (hws w hw))) (cv hsc rfl rfl) (cmp_eq_S hu (sok_lows (hww w hw)) (sok_lows hWn))⟩, lv hsc rfl rfl⟩)) ?_
    refine exs_ret (ift (evt_cmp (lv hs rfl rfl) ev_int cmp_eq_int) rfl (exs_ret (ex1_ret ?_)))
    rw [told0]
    refine ev_list (evl2 (d := dS ((keptW ways W).headD here)) (ev_ife (evt_cmp (lv hs rfl rfl) (ev_list evl_nil) (cmp_ne_SS (ys := []) hu hkn sok_nil2)) (fun q => ?_) (fun q => ?_)) (lv hs rfl rfl)) two
    · have hne : keptW ways W ≠ [] := by simpa using q
      exact ev_item (lv hs rfl rfl) ev_int (by decide) (by decide) (head_get (f := dS) hne)
    · have hne : keptW ways W = [] := by simpa using q
      rw [hne]
      exact lv hs rfl rfl
theorem fc_told_1 {n : Nat} {here : List Str} {ways : List (List Str)} {one two : Str} (hA : Okay 2 A) (h : Inv n 900 (here, ways)) (hn : n ≤ 100000) (h1 : GoodP one) (h2 : GoodP two) :
    FC c A (.ref 195) [dT (here, ways), .int 1, .str one, .str two] (dT (told (here, ways) 1 one two)) := by
  have hh : Nms here := h.here
  have hww : ∀ w ∈ ways, Nms w := h.ways
  have hhs : Sm here := Nat.le_trans h.hlen (by omega)
  have hwl : ways.length ≤ 900 := h.len
  have hws : ∀ w ∈ ways, Sm w := fun w hm => Nat.le_trans (h.wlen w hm) (by omega)
  have hWn := wayOf_nms hh h1
  have hWs := wayOf_sm h.hlen hn h1
  have hGn := wayOf_nms hh h2
  have hGs := wayOf_sm h.hlen hn h2
  have f2 := fun (A : Around) (hA : Okay 1 A) => fc_wayN (c := c) hA hhs h1
  have f3 := fun (A : Around) (hA : Okay 1 A) => fc_wayN (c := c) hA hhs h2
  have htold : told (here, ways) 1 one two = toldW (here, ways) 1 (wayOf here one) (wayOf here two) := rfl
  rw [htold]
  generalize wayOf here two = G at *
  generalize wayOf here one = W at *
  refine fc_open (xs := ["state", "kind", "one", "two"]) hA rfl rfl rfl (by kernel_rfl) (bindC_plain ?_) rfl (by decide +kernel) (by decide +kernel) ?_
  · intro vs h
    match vs, h with
    | [a, b, c, d], _ => rfl
  · intro base env A' hA' hs hc hf
    have hu : A'.units + 8 < cLine := by have := hA'.units; omega
    have hk : env.scope.kind = .function := by rw [hs]
    have hwl' : ways.length ≤ 1000 := by omega
    have two : 2 ≤ sizeLine := by rw [sizeLine_eq]; decide
    have one1 : 1 ≤ sizeLine := by rw [sizeLine_eq]; decide
    have hkn := sok_ways hww W
    have hWl : W.length ≤ 200000 := hWs
    have hGl : G.length ≤ 200000 := hGs
    have hWi := nms_init hWn
    have hWis : Sm W.dropLast := by show W.dropLast.length ≤ _; rw [List.length_dropLast]; omega
    have hGi := nms_init hGn
    have hGis : Sm G.dropLast := by show G.dropLast.length ≤ _; rw [List.length_dropLast]; omega
    refine exs_cons (ex1_unpack (xs := [("here", _), ("ways", _)]) hA'.handled (lv hs rfl rfl) (.inl rfl) (canAll_cons (canL hs rfl) (canAll_cons (canL hs rfl) canAll_nil)) rfl) ?_
    refine exs_cons (ex1_unpack (xs := [("way", _), ("goal", _)]) hA'.handled (ev_tuple (evl2 (gf hs rfl (ns_law_way _) fnk_law_way (evl2 (lv hs rfl rfl) (lv hs rfl rfl)) (f2 A' hA')) (gf hs rfl (ns_law_way _) fnk_law_way (evl2 (lv hs rfl rfl) (lv hs rfl rfl)) (f3 A' hA'))) two) (.inr rfl) (canAll_cons (canL hs rfl) (canAll_cons (canC hs hc hf rfl rfl) canAll_nil)) rfl rfl (swapped_none (kOf hs rfl))) ?_
    refine exs_cons (ex1_unpack (xs := [("low", _), ("size", _)]) hA'.handled (ds := [dS (W.map low), .int (W.length : Nat)]) (ev_tuple (evl2 (gf hs rfl (ns_law_low _) fnk_law_low (evl1 (lv hs rfl rfl)) (fc_lowN hA' hWn hWs)) (ev_to (ev_call_b (bv hs rfl (nb_len _) bb_len) (evl1 (lv hs rfl rfl)) (fc_len_list (ds := W.map .str) (by rw [List.length_map, sizeLine_eq]; omega))) (by rw [List.length_map]))) two) (.inr rfl) (canAll_cons (canC hs hc hf rfl rfl) (canAll_cons (canC hs hc hf rfl rfl) canAll_nil)) rfl rfl (swapped_none (kOf hs rfl))) ?_
    refine exs_cons (told_comp1 (k := W) (ν := [("low", dS (W.map low))]) hA'.handled hwl' (lv hs rfl rfl) (swaps_true hk (kOf hs rfl) rfl rfl) (kOf hs rfl) (seen_cons rfl (by decide +kernel) (.inl (kOf hs rfl)) (by rw [hs]; rfl) seen_nil) (by rw [hc]; exact free_all rfl) (by decide +kernel) rfl (by decide +kernel) (fun a cenv CE w hw => by
      have hsc := CE.sc
      rw [hs] at hsc
      exact asg_name (canL hsc rfl)) (fun a cenv CE w hw => by
      have hsc := CE.sc
      rw [hs] at hsc
      exact ⟨.inr ⟨_, rfl, evt_cmp (gf hsc rfl (ns_law_low _) fnk_law_low (evl1 (lv hsc rfl rfl)) (fc_lowN hA' (hww w hw) (hws w hw))) (cv hsc rfl rfl) (cmp_eq_S hu (sok_lows (hww w hw)) (sok_lows hWn))⟩, lv hsc rfl rfl⟩)) ?_
    refine exs_cons (iff' (evt_cmp (lv hs rfl rfl) ev_int cmp_eq_int) rfl exs_nil) ?_
    refine exs_cons (ex1_assign (d := dS W.dropLast) (ev_ife_f (evt_eq (evt_cmp (lv hs rfl rfl) ev_int cmp_eq_int) rfl) (ev_initS (lv hs rfl rfl) hWs)) (canC hs hc hf rfl rfl)) ?_
    refine exs_cons (ex1_assign (told_comp (k := W.dropLast) (ν := [("top", dS W.dropLast)]) hA'.handled hwl' (lv hs rfl rfl) (seen_cons rfl (by decide +kernel) (.inl (kOf hs rfl)) (by rw [hs]; rfl) seen_nil) (by rw [hc]; exact free_all rfl) (by decide +kernel) rfl (by decide +kernel) (fun a cenv CE w hw => by
      have hsc := CE.sc
      rw [hs] at hsc
      exact asg_name (canL hsc rfl)) (fun a cenv CE w hw => by
      have hsc := CE.sc
      rw [hs] at hsc
      exact ⟨.inr ⟨_, rfl, evt_cmp (gf hsc rfl (ns_law_low _) fnk_law_low (evl1 (lv hsc rfl rfl)) (fc_lowN hA' (hww w hw) (hws w hw))) (gf hsc rfl (ns_law_low _) fnk_law_low (evl1 (cv hsc rfl rfl)) (fc_lowN hA' hWi hWis)) (cmp_eq_S hu (sok_lows (hww w hw)) (sok_lows hWi))⟩, lv hsc rfl rfl⟩)) (canC hs hc hf rfl rfl) (swaps_false hk (kOf hs rfl))) ?_
    have hki := sok_ways hww W.dropLast
    refine exs_ret (ift (evt_cmp (lv hs rfl rfl) ev_int cmp_eq_int) rfl (exs_ret (ex1_ret ?_)))
    refine ev_ife (evt_or (evt_cmp (lv hs rfl rfl) (ev_list evl_nil) (cmp_ne_SS (ys := []) hu hkn sok_nil2)) (evt_cmp (cv hs rfl rfl) (ev_list evl_nil) (cmp_eq_SS (ys := []) hu hki sok_nil2))) (fun q => ?_) (fun q => ?_)
    · rw [told1a (st := (here, ways)) (by simpa using q)]
      exact lv hs rfl rfl
    · have hcond : ¬(keptW ways W ≠ [] ∨ keptW ways W.dropLast = []) := by rw [← Bool.not_eq_true] at q; simpa using q
      rw [told1b (st := (here, ways)) hcond]
      rw [not_or] at hcond
      have hm := headD_mem (d := ([] : List Str)) hcond.2
      have hmem := kept_sub hm
      have hKs := hws _ hmem
      have hKl : ((keptW ways W.dropLast).headD []).length ≤ 200000 := hKs
      have hll := lastOf_len W
      refine ev_list (evl2 (lv hs rfl rfl) (d' := dSS (ways ++ [(keptW ways W.dropLast).headD [] ++ lastOf W])) ?_) two
      refine ev_to (ev_bin (lv hs rfl rfl) (ev_list (evl1 (ev_addS (xs := (keptW ways W.dropLast).headD []) (ev_item (cv hs rfl rfl) ev_int (by decide) (by decide) (head_get (f := dS) hcond.2)) (ev_lastS (lv hs rfl rfl) hWs) (by omega))) one1) (bin_add_list ?_)) (by rw [dSS, List.map_append]; rfl)
      show (ways.map dS).length + 1 ≤ sizeLine
      rw [List.length_map, sizeLine_eq]; omega
theorem fc_told_3 {n : Nat} {here : List Str} {ways : List (List Str)} {one two : Str} (hA : Okay 2 A) (h : Inv n 900 (here, ways)) (hn : n ≤ 100000) (h1 : GoodP one) (h2 : GoodP two) :
    FC c A (.ref 195) [dT (here, ways), .int 3, .str one, .str two] (dT (told (here, ways) 3 one two)) := by
  have hh : Nms here := h.here
  have hww : ∀ w ∈ ways, Nms w := h.ways
  have hhs : Sm here := Nat.le_trans h.hlen (by omega)
  have hwl : ways.length ≤ 900 := h.len
  have hws : ∀ w ∈ ways, Sm w := fun w hm => Nat.le_trans (h.wlen w hm) (by omega)
  have hWn := wayOf_nms hh h1
  have hWs := wayOf_sm h.hlen hn h1
  have hGn := wayOf_nms hh h2
  have hGs := wayOf_sm h.hlen hn h2
  have f2 := fun (A : Around) (hA : Okay 1 A) => fc_wayN (c := c) hA hhs h1
  have f3 := fun (A : Around) (hA : Okay 1 A) => fc_wayN (c := c) hA hhs h2
  have htold : told (here, ways) 3 one two = toldW (here, ways) 3 (wayOf here one) (wayOf here two) := rfl
  rw [htold]
  generalize wayOf here two = G at *
  generalize wayOf here one = W at *
  refine fc_open (xs := ["state", "kind", "one", "two"]) hA rfl rfl rfl (by kernel_rfl) (bindC_plain ?_) rfl (by decide +kernel) (by decide +kernel) ?_
  · intro vs h
    match vs, h with
    | [a, b, c, d], _ => rfl
  · intro base env A' hA' hs hc hf
    have hu : A'.units + 8 < cLine := by have := hA'.units; omega
    have hk : env.scope.kind = .function := by rw [hs]
    have hwl' : ways.length ≤ 1000 := by omega
    have two : 2 ≤ sizeLine := by rw [sizeLine_eq]; decide
    have one1 : 1 ≤ sizeLine := by rw [sizeLine_eq]; decide
    have hkn := sok_ways hww W
    have hWl : W.length ≤ 200000 := hWs
    have hGl : G.length ≤ 200000 := hGs
    have hWi := nms_init hWn
    have hWis : Sm W.dropLast := by show W.dropLast.length ≤ _; rw [List.length_dropLast]; omega
    have hGi := nms_init hGn
    have hGis : Sm G.dropLast := by show G.dropLast.length ≤ _; rw [List.length_dropLast]; omega
    refine exs_cons (ex1_unpack (xs := [("here", _), ("ways", _)]) hA'.handled (lv hs rfl rfl) (.inl rfl) (canAll_cons (canL hs rfl) (canAll_cons (canL hs rfl) canAll_nil)) rfl) ?_
    refine exs_cons (ex1_unpack (xs := [("way", _), ("goal", _)]) hA'.handled (ev_tuple (evl2 (gf hs rfl (ns_law_way _) fnk_law_way (evl2 (lv hs rfl rfl) (lv hs rfl rfl)) (f2 A' hA')) (gf hs rfl (ns_law_way _) fnk_law_way (evl2 (lv hs rfl rfl) (lv hs rfl rfl)) (f3 A' hA'))) two) (.inr rfl) (canAll_cons (canL hs rfl) (canAll_cons (canC hs hc hf rfl rfl) canAll_nil)) rfl rfl (swapped_none (kOf hs rfl))) ?_
    refine exs_cons (ex1_unpack (xs := [("low", _), ("size", _)]) hA'.handled (ds := [dS (W.map low), .int (W.length : Nat)]) (ev_tuple (evl2 (gf hs rfl (ns_law_low _) fnk_law_low (evl1 (lv hs rfl rfl)) (fc_lowN hA' hWn hWs)) (ev_to (ev_call_b (bv hs rfl (nb_len _) bb_len) (evl1 (lv hs rfl rfl)) (fc_len_list (ds := W.map .str) (by rw [List.length_map, sizeLine_eq]; omega))) (by rw [List.length_map]))) two) (.inr rfl) (canAll_cons (canC hs hc hf rfl rfl) (canAll_cons (canC hs hc hf rfl rfl) canAll_nil)) rfl rfl (swapped_none (kOf hs rfl))) ?_
    refine exs_cons (told_comp1 (k := W) (ν := [("low", dS (W.map low))]) hA'.handled hwl' (lv hs rfl rfl) (swaps_true hk (kOf hs rfl) rfl rfl) (kOf hs rfl) (seen_cons rfl (by decide +kernel) (.inl (kOf hs rfl)) (by rw [hs]; rfl) seen_nil) (by rw [hc]; exact free_all rfl) (by decide +kernel) rfl (by decide +kernel) (fun a cenv CE w hw => by
      have hsc := CE.sc
      rw [hs] at hsc
      exact asg_name (canL hsc rfl)) (fun a cenv CE w hw => by
      have hsc := CE.sc
      rw [hs] at hsc
      exact ⟨.inr ⟨_, rfl, evt_cmp (gf hsc rfl (ns_law_low _) fnk_law_low (evl1 (lv hsc rfl rfl)) (fc_lowN hA' (hww w hw) (hws w hw))) (cv hsc rfl rfl) (cmp_eq_S hu (sok_lows (hww w hw)) (sok_lows hWn))⟩, lv hsc rfl rfl⟩)) ?_
    refine exs_cons (iff' (evt_cmp (lv hs rfl rfl) ev_int cmp_eq_int) rfl exs_nil) ?_
    refine exs_cons (ex1_assign (d := dS W.dropLast) (ev_ife_f (evt_eq (evt_cmp (lv hs rfl rfl) ev_int cmp_eq_int) rfl) (ev_initS (lv hs rfl rfl) hWs)) (canC hs hc hf rfl rfl)) ?_
    refine exs_cons (ex1_assign (told_comp (k := W.dropLast) (ν := [("top", dS W.dropLast)]) hA'.handled hwl' (lv hs rfl rfl) (seen_cons rfl (by decide +kernel) (.inl (kOf hs rfl)) (by rw [hs]; rfl) seen_nil) (by rw [hc]; exact free_all rfl) (by decide +kernel) rfl (by decide +kernel) (fun a cenv CE w hw => by
      have hsc := CE.sc
      rw [hs] at hsc
      exact asg_name (canL hsc rfl)) (fun a cenv CE w hw => by
      have hsc := CE.sc
      rw [hs] at hsc
      exact ⟨.inr ⟨_, rfl, evt_cmp (gf hsc rfl (ns_law_low _) fnk_law_low (evl1 (lv hsc rfl rfl)) (fc_lowN hA' (hww w hw) (hws w hw))) (gf hsc rfl (ns_law_low _) fnk_law_low (evl1 (cv hsc rfl rfl)) (fc_lowN hA' hWi hWis)) (cmp_eq_S hu (sok_lows (hww w hw)) (sok_lows hWi))⟩, lv hsc rfl rfl⟩)) (canC hs hc hf rfl rfl) (swaps_false hk (kOf hs rfl))) ?_
    refine exs_cons (iff' (evt_cmp (lv hs rfl rfl) ev_int cmp_eq_int) rfl exs_nil) ?_
    have hund : ∀ w : List Str, decide ((w.map low).take W.length = W.map low) = under W w := fun _ => rfl
    refine exs_cons (ex1_assign (d := .bool (under W here)) (ev_cmp (ev_takeS (xs := here.map low) (gf hs rfl (ns_law_low _) fnk_law_low (evl1 (lv hs rfl rfl)) (fc_lowN hA' hh hhs)) (cv hs rfl rfl) (by show (here.map low).length ≤ _; rw [List.length_map]; exact hhs)) (cv hs rfl rfl) (cmp_eq_S hu (sok_take (sok_lows hh)) (sok_lows hWn))) (canL hs rfl)) ?_
    by_cases hcond : keptW ways W = [] ∨ W = [] ∨ under W here = true
    · rw [told3a (st := (here, ways)) hcond]
      exact exs_ret (ift (evt_or3 (evt_cmp (lv hs rfl rfl) (ev_list evl_nil) (cmp_eq_SS (ys := []) hu hkn sok_nil2)) (fun _ => evt_cmp (lv hs rfl rfl) (ev_list evl_nil) (cmp_eq_S (ys := []) hu (sok_nms hWn) sok_nil)) (fun _ _ => evt_and (evt_cmp (lv hs rfl rfl) ev_int cmp_eq_int) (evt_plain (lv hs rfl rfl) tr_bool))) (by simpa using hcond) (exs_ret (ex1_ret (lv hs rfl rfl))))
    · refine exs_cons (iff' (evt_or3 (evt_cmp (lv hs rfl rfl) (ev_list evl_nil) (cmp_eq_SS (ys := []) hu hkn sok_nil2)) (fun _ => evt_cmp (lv hs rfl rfl) (ev_list evl_nil) (cmp_eq_S (ys := []) hu (sok_nms hWn) sok_nil)) (fun _ _ => evt_and (evt_cmp (lv hs rfl rfl) ev_int cmp_eq_int) (evt_plain (lv hs rfl rfl) tr_bool))) (by rw [← Bool.not_eq_true]; simpa using hcond) exs_nil) ?_
      rw [told3b (st := (here, ways)) hcond]
      refine exs_ret (ift (evt_cmp (lv hs rfl rfl) ev_int cmp_eq_int) rfl (exs_ret (ex1_ret ?_)))
      refine ev_list (evl2 (lv hs rfl rfl) (d' := dSS (ways.filter fun o => !under W o)) ?_) two
      refine ev_to (ev_comp (ds := ways.map dS) (f := fun d => [("other", d)]) (ν := [("low", dS (W.map low)), ("size", .int (W.length : Nat))]) (p := fun d => !pUnder (W.map low) W.length d) (g := fun d => d) (lv hs rfl rfl) (fun s v _ r => its_list hA'.handled r)
        ⟨by rw [List.length_map, sizeLine_eq]; omega, seen_cons rfl (by decide +kernel) (.inl (kOf hs rfl)) (by rw [hs]; rfl) (seen_cons rfl (by decide +kernel) (.inl (kOf hs rfl)) (by rw [hs]; rfl) seen_nil), ?_, by decide +kernel, rfl, by decide +kernel, ?_, ?_⟩) (congrArg D.list (filter_under ways W))
      · rw [hc]; exact free_all rfl
      · intro a cenv CE e he
        have hsc := CE.sc
        rw [hs] at hsc
        exact asg_name (canL hsc rfl)
      · intro a cenv CE e he
        have hsc := CE.sc
        rw [hs] at hsc
        obtain ⟨w, hw, rfl⟩ := List.mem_map.mp he
        have e1 : (!pUnder (W.map low) W.length (dS w)) = !decide ((w.map low).take W.length = W.map low) := by unfold pUnder; rw [strsOf_dS]
        refine ⟨?_, fun _ => lv hsc rfl rfl⟩
        rw [e1]
        exact .inr ⟨_, rfl, evt_cmp (ev_takeS (xs := w.map low) (gf hsc rfl (ns_law_low _) fnk_law_low (evl1 (lv hsc rfl rfl)) (fc_lowN hA' (hww w hw) (hws w hw))) (cv hsc rfl rfl) (by show (w.map low).length ≤ _; rw [List.length_map]; exact hws w hw)) (cv hsc rfl rfl) (cmp_ne_S hu (sok_take (sok_lows (hww w hw))) (sok_lows hWn))⟩
set_option maxHeartbeats 1000000 in
theorem fc_told_2 {n : Nat} {here : List Str} {ways : List (List Str)} {one two : Str} (hA : Okay 2 A) (h : Inv n 900 (here, ways)) (hn : n ≤ 100000) (h1 : GoodP one) (h2 : GoodP two) :
    FC c A (.ref 195) [dT (here, ways), .int 2, .str one, .str two] (dT (told (here, ways) 2 one two)) := by
  have hh : Nms here := h.here
  have hww : ∀ w ∈ ways, Nms w := h.ways
  have hhs : Sm here := Nat.le_trans h.hlen (by omega)
  have hwl : ways.length ≤ 900 := h.len
  have hws : ∀ w ∈ ways, Sm w := fun w hm => Nat.le_trans (h.wlen w hm) (by omega)
  have hWn := wayOf_nms hh h1
  have hWs := wayOf_sm h.hlen hn h1
  have hGn := wayOf_nms hh h2
  have hGs := wayOf_sm h.hlen hn h2
  have f2 := fun (A : Around) (hA : Okay 1 A) => fc_wayN (c := c) hA hhs h1
  have f3 := fun (A : Around) (hA : Okay 1 A) => fc_wayN (c := c) hA hhs h2
  have htold : told (here, ways) 2 one two = toldW (here, ways) 2 (wayOf here one) (wayOf here two) := rfl
  rw [htold]
  generalize wayOf here two = G at *
  generalize wayOf here one = W at *
  refine fc_open (xs := ["state", "kind", "one", "two"]) hA rfl rfl rfl (by kernel_rfl) (bindC_plain ?_) rfl (by decide +kernel) (by decide +kernel) ?_
  · intro vs h
    match vs, h with
    | [a, b, c, d], _ => rfl
  · intro base env A' hA' hs hc hf
    have hu : A'.units + 8 < cLine := by have := hA'.units; omega
    have hk : env.scope.kind = .function := by rw [hs]
    have hwl' : ways.length ≤ 1000 := by omega
    have two : 2 ≤ sizeLine := by rw [sizeLine_eq]; decide
    have one1 : 1 ≤ sizeLine := by rw [sizeLine_eq]; decide
    have hkn := sok_ways hww W
    have hWl : W.length ≤ 200000 := hWs
    have hGl : G.length ≤ 200000 := hGs
    have hWi := nms_init hWn
    have hWis : Sm W.dropLast := by show W.dropLast.length ≤ _; rw [List.length_dropLast]; omega
    have hGi := nms_init hGn
    have hGis : Sm G.dropLast := by show G.dropLast.length ≤ _; rw [List.length_dropLast]; omega
    refine exs_cons (ex1_unpack (xs := [("here", _), ("ways", _)]) hA'.handled (lv hs rfl rfl) (.inl rfl) (canAll_cons (canL hs rfl) (canAll_cons (canL hs rfl) canAll_nil)) rfl) ?_
    refine exs_cons (ex1_unpack (xs := [("way", _), ("goal", _)]) hA'.handled (ev_tuple (evl2 (gf hs rfl (ns_law_way _) fnk_law_way (evl2 (lv hs rfl rfl) (lv hs rfl rfl)) (f2 A' hA')) (gf hs rfl (ns_law_way _) fnk_law_way (evl2 (lv hs rfl rfl) (lv hs rfl rfl)) (f3 A' hA'))) two) (.inr rfl) (canAll_cons (canL hs rfl) (canAll_cons (canC hs hc hf rfl rfl) canAll_nil)) rfl rfl (swapped_none (kOf hs rfl))) ?_
    refine exs_cons (ex1_unpack (xs := [("low", _), ("size", _)]) hA'.handled (ds := [dS (W.map low), .int (W.length : Nat)]) (ev_tuple (evl2 (gf hs rfl (ns_law_low _) fnk_law_low (evl1 (lv hs rfl rfl)) (fc_lowN hA' hWn hWs)) (ev_to (ev_call_b (bv hs rfl (nb_len _) bb_len) (evl1 (lv hs rfl rfl)) (fc_len_list (ds := W.map .str) (by rw [List.length_map, sizeLine_eq]; omega))) (by rw [List.length_map]))) two) (.inr rfl) (canAll_cons (canC hs hc hf rfl rfl) (canAll_cons (canC hs hc hf rfl rfl) canAll_nil)) rfl rfl (swapped_none (kOf hs rfl))) ?_
    refine exs_cons (told_comp1 (k := W) (ν := [("low", dS (W.map low))]) hA'.handled hwl' (lv hs rfl rfl) (swaps_true hk (kOf hs rfl) rfl rfl) (kOf hs rfl) (seen_cons rfl (by decide +kernel) (.inl (kOf hs rfl)) (by rw [hs]; rfl) seen_nil) (by rw [hc]; exact free_all rfl) (by decide +kernel) rfl (by decide +kernel) (fun a cenv CE w hw => by
      have hsc := CE.sc
      rw [hs] at hsc
      exact asg_name (canL hsc rfl)) (fun a cenv CE w hw => by
      have hsc := CE.sc
      rw [hs] at hsc
      exact ⟨.inr ⟨_, rfl, evt_cmp (gf hsc rfl (ns_law_low _) fnk_law_low (evl1 (lv hsc rfl rfl)) (fc_lowN hA' (hww w hw) (hws w hw))) (cv hsc rfl rfl) (cmp_eq_S hu (sok_lows (hww w hw)) (sok_lows hWn))⟩, lv hsc rfl rfl⟩)) ?_
    refine exs_cons (iff' (evt_cmp (lv hs rfl rfl) ev_int cmp_eq_int) rfl exs_nil) ?_
    refine exs_cons (ex1_assign (d := dS G.dropLast) (ev_ife_t (evt_eq (evt_cmp (lv hs rfl rfl) ev_int cmp_eq_int) rfl) (ev_initS (cv hs rfl rfl) hGs)) (canC hs hc hf rfl rfl)) ?_
    refine exs_cons (ex1_assign (told_comp (k := G.dropLast) (ν := [("top", dS G.dropLast)]) hA'.handled hwl' (lv hs rfl rfl) (seen_cons rfl (by decide +kernel) (.inl (kOf hs rfl)) (by rw [hs]; rfl) seen_nil) (by rw [hc]; exact free_all rfl) (by decide +kernel) rfl (by decide +kernel) (fun a cenv CE w hw => by
      have hsc := CE.sc
      rw [hs] at hsc
      exact asg_name (canL hsc rfl)) (fun a cenv CE w hw => by
      have hsc := CE.sc
      rw [hs] at hsc
      exact ⟨.inr ⟨_, rfl, evt_cmp (gf hsc rfl (ns_law_low _) fnk_law_low (evl1 (lv hsc rfl rfl)) (fc_lowN hA' (hww w hw) (hws w hw))) (gf hsc rfl (ns_law_low _) fnk_law_low (evl1 (cv hsc rfl rfl)) (fc_lowN hA' hGi hGis)) (cmp_eq_S hu (sok_lows (hww w hw)) (sok_lows hGi))⟩, lv hsc rfl rfl⟩)) (canC hs hc hf rfl rfl) (swaps_false hk (kOf hs rfl))) ?_
    have hki := sok_ways hww G.dropLast
    have hkg := sok_ways hww G
    refine exs_cons (iff' (evt_cmp (lv hs rfl rfl) ev_int cmp_eq_int) rfl exs_nil) ?_
    have hund : ∀ w : List Str, decide ((w.map low).take W.length = W.map low) = under W w := fun _ => rfl
    refine exs_cons (ex1_assign (d := .bool (under W here)) (ev_cmp (ev_takeS (xs := here.map low) (gf hs rfl (ns_law_low _) fnk_law_low (evl1 (lv hs rfl rfl)) (fc_lowN hA' hh hhs)) (cv hs rfl rfl) (by show (here.map low).length ≤ _; rw [List.length_map]; exact hhs)) (cv hs rfl rfl) (cmp_eq_S hu (sok_take (sok_lows hh)) (sok_lows hWn))) (canL hs rfl)) ?_
    by_cases hcond : keptW ways W = [] ∨ W = []
    · rw [told2a (st := (here, ways)) hcond]
      exact exs_ret (ift (evt_or3 (evt_cmp (lv hs rfl rfl) (ev_list evl_nil) (cmp_eq_SS (ys := []) hu hkn sok_nil2)) (fun _ => evt_cmp (lv hs rfl rfl) (ev_list evl_nil) (cmp_eq_S (ys := []) hu (sok_nms hWn) sok_nil)) (fun _ _ => evt_and (evt_cmp (lv hs rfl rfl) ev_int cmp_eq_int) (evt_plain (lv hs rfl rfl) tr_bool))) (by rw [show ((2 : Int) == 3) = false from rfl, Bool.false_and, Bool.or_false]; simpa using hcond) (exs_ret (ex1_ret (lv hs rfl rfl))))
    refine exs_cons (iff' (evt_or3 (evt_cmp (lv hs rfl rfl) (ev_list evl_nil) (cmp_eq_SS (ys := []) hu hkn sok_nil2)) (fun _ => evt_cmp (lv hs rfl rfl) (ev_list evl_nil) (cmp_eq_S (ys := []) hu (sok_nms hWn) sok_nil)) (fun _ _ => evt_and (evt_cmp (lv hs rfl rfl) ev_int cmp_eq_int) (evt_plain (lv hs rfl rfl) tr_bool))) (by rw [show ((2 : Int) == 3) = false from rfl, Bool.false_and, Bool.or_false, ← Bool.not_eq_true]; simpa using hcond) exs_nil) ?_
    refine exs_cons (iff' (evt_cmp (lv hs rfl rfl) ev_int cmp_eq_int) rfl exs_nil) ?_
    refine exs_cons (ex1_assign (gf hs rfl (ns_law_low _) fnk_law_low (evl1 (cv hs rfl rfl)) (fc_lowN hA' hGn hGs)) (canC hs hc hf rfl rfl)) ?_
    refine exs_cons (told_comp1 (k := G) (ν := [("last", dS (G.map low))]) hA'.handled hwl' (lv hs rfl rfl) (swaps_true hk (kOf hs rfl) rfl rfl) (kOf hs rfl) (seen_cons rfl (by decide +kernel) (.inl (kOf hs rfl)) (by rw [hs]; rfl) seen_nil) (by rw [hc]; exact free_all rfl) (by decide +kernel) rfl (by decide +kernel) (fun a cenv CE w hw => by
      have hsc := CE.sc
      rw [hs] at hsc
      exact asg_name (canL hsc rfl)) (fun a cenv CE w hw => by
      have hsc := CE.sc
      rw [hs] at hsc
      exact ⟨.inr ⟨_, rfl, evt_cmp (gf hsc rfl (ns_law_low _) fnk_law_low (evl1 (lv hsc rfl rfl)) (fc_lowN hA' (hww w hw) (hws w hw))) (cv hsc rfl rfl) (cmp_eq_S hu (sok_lows (hww w hw)) (sok_lows hGn))⟩, lv hsc rfl rfl⟩)) ?_
    have hb : (decide (G = []) || (decide (keptW ways G.dropLast = []) || ((!decide (G.map low = W.map low)) && ((!decide (keptW ways G = [])) || decide ((G.map low).take W.length = W.map low))))) = true ↔ stays2 (here, ways) W G := by
      unfold stays2 under
      simp
    by_cases hst : stays2 (here, ways) W G
    · rw [told2b (st := (here, ways)) hcond hst]
      exact exs_ret (ift (evt_or3 (evt_cmp (cv hs rfl rfl) (ev_list evl_nil) (cmp_eq_S (ys := []) hu (sok_nms hGn) sok_nil)) (fun _ => evt_cmp (cv hs rfl rfl) (ev_list evl_nil) (cmp_eq_SS (ys := []) hu hki sok_nil2)) (fun _ _ => evt_and (evt_cmp (cv hs rfl rfl) (cv hs rfl rfl) (cmp_ne_S hu (sok_lows hGn) (sok_lows hWn))) (evt_or (evt_cmp (lv hs rfl rfl) (ev_list evl_nil) (cmp_ne_SS (ys := []) hu hkg sok_nil2)) (evt_cmp (ev_takeS (xs := G.map low) (cv hs rfl rfl) (cv hs rfl rfl) (by show (G.map low).length ≤ _; rw [List.length_map]; exact hGs)) (cv hs rfl rfl) (cmp_eq_S hu (sok_take (sok_lows hGn)) (sok_lows hWn)))))) (hb.mpr hst) (exs_ret (ex1_ret (lv hs rfl rfl))))
    refine exs_cons (iff' (evt_or3 (evt_cmp (cv hs rfl rfl) (ev_list evl_nil) (cmp_eq_S (ys := []) hu (sok_nms hGn) sok_nil)) (fun _ => evt_cmp (cv hs rfl rfl) (ev_list evl_nil) (cmp_eq_SS (ys := []) hu hki sok_nil2)) (fun _ _ => evt_and (evt_cmp (cv hs rfl rfl) (cv hs rfl rfl) (cmp_ne_S hu (sok_lows hGn) (sok_lows hWn))) (evt_or (evt_cmp (lv hs rfl rfl) (ev_list evl_nil) (cmp_ne_SS (ys := []) hu hkg sok_nil2)) (evt_cmp (ev_takeS (xs := G.map low) (cv hs rfl rfl) (cv hs rfl rfl) (by show (G.map low).length ≤ _; rw [List.length_map]; exact hGs)) (cv hs rfl rfl) (cmp_eq_S hu (sok_take (sok_lows hGn)) (sok_lows hWn)))))) (by rw [← Bool.not_eq_true]; exact fun q => hst (hb.mp q)) exs_nil) ?_
    rw [told2c (st := (here, ways)) hcond hst]
    have hAb : keptW ways G.dropLast ≠ [] := fun q => hst (.inr (.inl q))
    have hm := headD_mem (d := ([] : List Str)) hAb
    have hmem := kept_sub hm
    have hKs := hws _ hmem
    have hKl : ((keptW ways G.dropLast).headD []).length ≤ 200000 := hKs
    have hll := lastOf_len G
    have hdl : ∀ w : List Str, Sm w → ((keptW ways G.dropLast).headD [] ++ lastOf G).length + (w.drop W.length).length ≤ 1000000 := fun w hw => by
      rw [List.length_append, List.length_drop]
      have : w.length ≤ 200000 := hw
      omega
    refine exs_cons (ex1_to (d' := dSS (ways.map fun o => if under W o = true then (keptW ways G.dropLast).headD [] ++ lastOf G ++ o.drop W.length else o)) (ex1_assign_comp (ds := ways.map dS) (f := fun d => [("other", d)])
      (ν := [("above", dSS (keptW ways G.dropLast)), ("goal", dS G), ("low", dS (W.map low)), ("size", .int (W.length : Nat))]) (p := fun _ => true) (g := fun d => dS (if under W (strsOf d) = true then (keptW ways G.dropLast).headD [] ++ lastOf G ++ (strsOf d).drop W.length else strsOf d)) (lv hs rfl rfl) (fun s v _ r => its_list hA'.handled r)
      ⟨by rw [List.length_map, sizeLine_eq]; omega, seen_cons rfl (by decide +kernel) (.inl (kOf hs rfl)) (by rw [hs]; rfl) (seen_cons rfl (by decide +kernel) (.inl (kOf hs rfl)) (by rw [hs]; rfl) (seen_cons rfl (by decide +kernel) (.inl (kOf hs rfl)) (by rw [hs]; rfl) (seen_cons rfl (by decide +kernel) (.inl (kOf hs rfl)) (by rw [hs]; rfl) seen_nil))), ?_, by decide +kernel, rfl, by decide +kernel, ?_, ?_⟩ (swaps_true hk (kOf hs rfl) rfl rfl) (kOf hs rfl)) ?_) ?_
    · rw [hc]; exact free_all rfl
    · intro a cenv CE e he
      have hsc := CE.sc
      rw [hs] at hsc
      exact asg_name (canL hsc rfl)
    · intro a cenv CE e he
      have hsc := CE.sc
      rw [hs] at hsc
      obtain ⟨w, hw, rfl⟩ := List.mem_map.mp he
      refine ⟨.inl ⟨rfl, rfl⟩, fun _ => ?_⟩
      rw [strsOf_dS]
      refine ev_ife (evt_cmp (ev_takeS (xs := w.map low) (gf hsc rfl (ns_law_low _) fnk_law_low (evl1 (lv hsc rfl rfl)) (fc_lowN hA' (hww w hw) (hws w hw))) (cv hsc rfl rfl) (by show (w.map low).length ≤ _; rw [List.length_map]; exact hws w hw)) (cv hsc rfl rfl) (cmp_eq_S hu (sok_take (sok_lows (hww w hw))) (sok_lows hWn))) (fun q => ?_) (fun q => ?_)
      · have q' : under W w = true := q
        rw [if_pos q']
        exact ev_addS (xs := (keptW ways G.dropLast).headD [] ++ lastOf G) (ev_addS (xs := (keptW ways G.dropLast).headD []) (ev_item (cv hsc rfl rfl) ev_int (by decide) (by decide) (head_get (f := dS) hAb)) (ev_lastS (cv hsc rfl rfl) hGs) (by omega)) (ev_dropS (lv hsc rfl rfl) (cv hsc rfl rfl) (hws w hw)) (hdl w (hws w hw))
      · have q' : ¬ under W w = true := by rw [show under W w = false from q]; decide
        rw [if_neg q']
        exact lv hsc rfl rfl
    · refine congrArg D.list ?_
      rw [List.filter_eq_self.mpr (by simp), List.map_map, List.map_map]
      refine List.map_congr_left fun w _ => ?_
      show dS (if under W (strsOf (dS w)) = true then _ ++ (strsOf (dS w)).drop _ else strsOf (dS w)) = _
      rw [strsOf_dS]
      rfl
    refine exs_ret (ex1_ret (ev_list (evl2 (d := dS (if under W here = true then (keptW ways G.dropLast).headD [] ++ lastOf G ++ here.drop W.length else here)) (ev_ife (evt_plain (lv hs rfl rfl) tr_bool) (fun q => ?_) (fun q => ?_)) (lv hs rfl rfl)) two))
    · have q' : under W here = true := q
      rw [if_pos q']
      exact ev_addS (xs := (keptW ways G.dropLast).headD [] ++ lastOf G) (ev_addS (xs := (keptW ways G.dropLast).headD []) (ev_item (cv hs rfl rfl) ev_int (by decide) (by decide) (head_get (f := dS) hAb)) (ev_lastS (cv hs rfl rfl) hGs) (by omega)) (ev_dropS (lv hs rfl rfl) (cv hs rfl rfl) hhs) (hdl here hhs)
    · have q' : ¬ under W here = true := by rw [show under W here = false from q]; decide
      rw [if_neg q']
      exact lv hs rfl rfl
theorem fc_told {n : Nat} {st : St} {kind : Int} {one two : Str} (hA : Okay 2 A) (h : Inv n 900 st) (hn : n ≤ 100000) (h1 : GoodP one) (h2 : GoodP two) (hk : kind = 0 ∨ kind = 1 ∨ kind = 2 ∨ kind = 3) :
    FC c A (.ref 195) [dT st, .int kind, .str one, .str two] (dT (told st kind one two)) := by
  rcases hk with rfl | rfl | rfl | rfl
  · exact fc_told_0 hA h hn h1 h2
  · exact fc_told_1 hA h hn h1 h2
  · exact fc_told_2 hA h hn h1 h2
  · exact fc_told_3 hA h hn h1 h2
theorem fc_done {n : Nat} {st : St} {kind : Int} {one two : Str} (hA : Okay 10 A) (h : Inv n 900 st) (hn : n ≤ 100000) (h1 : GoodP one) (h2 : GoodP two) (hk : kind = 0 ∨ kind = 1 ∨ kind = 2 ∨ kind = 3) :
    FC c A (.ref 178) [dSt st, .int kind, .str one, .str two] (dSt (told st kind one two)) := by
  rcases hk with rfl | rfl | rfl | rfl
  · exact fc_done1 hA h hn h1 h2 (.inl rfl)
  · exact fc_done1 hA h hn h1 h2 (.inr (.inl rfl))
  · exact fc_done2 hA h hn h1 h2
  · exact fc_done1 hA h hn h1 h2 (.inr (.inr rfl))
end
end Mine
end

section -- P15
open PySem PySem.W PyProof.Rows PySem.Builtin PySem.Builtin.Str
set_option Elab.async false
set_option maxRecDepth 100000
set_option linter.unusedVariables false
set_option autoImplicit false
namespace Mine
def PCS : List Str := ["..", ".", "/a", "a", "A", "/bC", "bc", "Bc", "bC", "BC", "d.e", "D.E", "d.E", "a/", "Bc/..", ".."]
def pcB (w : Str) : Bool := w == "" || w == "." || w == ".." || NM.contains w
def goodB (p : Str) : Bool := (Txt.split p "/").all pcB && ((cs p).take 2 != [47, 47]) && decide (p.length ≤ 40)
/-- a piece that paths are drawn from -/
def headB (w : Str) : Bool := (Txt.split w "/").all pcB && decide (w.length ≤ 6) && ((cs w).length != 0) && (((cs w).head? != some 47) || ((cs w)[1]?.isSome && (cs w)[1]? != some 47))
theorem pcB_pc {w : Str} (h : pcB w = true) : Pc w := by
  unfold pcB at h
  simp only [Bool.or_eq_true, beq_iff_eq] at h
  rcases h with ((h | h) | h) | h
  · exact .inl h
  · exact .inr (.inl h)
  · exact .inr (.inr (.inl h))
  · exact .inr (.inr (.inr (by simpa using h)))
theorem good_of {p : Str} (h : goodB p = true) : GoodP p := by
  unfold goodB at h
  simp only [Bool.and_eq_true, decide_eq_true_eq, bne_iff_ne] at h
  obtain ⟨⟨h1, h2⟩, h3⟩ := h
  refine ⟨fun w hw => pcB_pc (List.all_eq_true.mp h1 w hw), fun q hq => h2 ?_, h3⟩
  rw [hq, cs_append, cs_append, csl]
  simp
theorem pcs_heads : PCS.all headB = true := by decide +kernel
theorem join_pcs : ∀ {ws : List Str}, ws ≠ [] → (∀ w ∈ ws, w ∈ PCS) → ∀ v ∈ Txt.split (Str.join sl ws) sl, Pc v
  | [w], _, h, v, hv => by
    have h1 := List.all_eq_true.mp pcs_heads w (h w List.mem_cons_self)
    unfold headB at h1
    simp only [Bool.and_eq_true] at h1
    exact pcB_pc (List.all_eq_true.mp h1.1.1.1 v (by rw [join_one] at hv; exact hv))
  | w :: u :: ws, _, h, v, hv => by
    have h1 := List.all_eq_true.mp pcs_heads w (h w List.mem_cons_self)
    unfold headB at h1
    simp only [Bool.and_eq_true] at h1
    rw [join_cons, split_append] at hv
    rcases List.mem_append.mp hv with hv | hv
    · exact pcB_pc (List.all_eq_true.mp h1.1.1.1 v hv)
    · exact join_pcs (by simp) (fun x hx => h x (List.mem_cons_of_mem _ hx)) v hv
theorem pcs_len {ws : List Str} (h : ∀ w ∈ ws, w ∈ PCS) : (ws.map (·.length)).sum ≤ 6 * ws.length := by
  induction ws with
  | nil => simp
  | cons w ws ih =>
    have h1 := List.all_eq_true.mp pcs_heads w (h w List.mem_cons_self)
    unfold headB at h1
    simp only [Bool.and_eq_true, decide_eq_true_eq] at h1
    have := ih fun x hx => h x (List.mem_cons_of_mem _ hx)
    simp only [List.map_cons, List.sum_cons, List.length_cons]
    omega
theorem good_join {ws : List Str} (hne : ws ≠ []) (h3 : ws.length ≤ 3) (h : ∀ w ∈ ws, w ∈ PCS) : GoodP (Str.join sl ws) := by
  refine ⟨join_pcs hne h, fun q hq => ?_, ?_⟩
  · obtain ⟨w, r, rfl⟩ := List.exists_cons_of_ne_nil hne
    have h1 := List.all_eq_true.mp pcs_heads w (h w List.mem_cons_self)
    unfold headB at h1
    simp only [Bool.and_eq_true, Bool.or_eq_true, bne_iff_ne] at h1
    obtain ⟨⟨_, h1⟩, h2⟩ := h1
    have hj : ∃ l, cs (Str.join sl (w :: r)) = cs w ++ l := by
      cases r with
      | nil => exact ⟨[], by rw [join_one, List.append_nil]⟩
      | cons v vs => exact ⟨47 :: cs (Str.join sl (v :: vs)), by rw [join_cons, cs_append, cs_append, csl]; simp⟩
    obtain ⟨l, hl⟩ := hj
    have hc : cs w ++ l = 47 :: 47 :: cs q := by rw [← hl, hq, cs_append, cs_append, csl]; rfl
    rcases hcw : cs w with _ | ⟨c, t⟩
    · rw [hcw] at h1; exact h1 rfl
    · rw [hcw, List.cons_append, List.cons.injEq] at hc
      rw [hcw] at h2
      rcases h2 with h2 | h2
      · exact h2 (by rw [hc.1]; rfl)
      · rcases t with _ | ⟨d, t⟩
        · exact absurd h2.1 (by simp)
        · have := hc.2
          rw [List.cons_append, List.cons.injEq] at this
          exact h2.2 (by rw [this.1]; rfl)
  · have := join_len_le ws
    have := pcs_len h
    omega
def pieceAt (m : Int) (k : Nat) : Str := PCS.getD (((m.fdiv 3).fdiv (16 ^ k)).fmod 16).toNat ""
def lawPath (m : Int) : Str := Str.join sl ((List.range (1 + (m.fmod 3).toNat)).map (pieceAt m))
theorem mod16 (x : Int) : 0 ≤ x.fmod 16 ∧ x.fmod 16 < 16 := ⟨Int.fmod_nonneg_of_pos x (by decide), Int.fmod_lt_of_pos x (by decide)⟩
theorem pcs_at {i : Int} (h0 : 0 ≤ i) (h1 : i < 16) : PCS[i.toNat]? = some (PCS.getD i.toNat "") := by
  have hl : PCS.length = 16 := by decide +kernel
  rw [List.getD_eq_getElem?_getD, List.getElem?_eq_getElem (by omega)]
  rfl
theorem piece_mem (m : Int) (k : Nat) : pieceAt m k ∈ PCS := by
  obtain ⟨h0, h1⟩ := mod16 ((m.fdiv 3).fdiv (16 ^ k))
  exact List.mem_of_getElem? (pcs_at h0 h1)
theorem good_path (m : Int) : GoodP (lawPath m) := by
  have h0 : 0 ≤ m.fmod 3 := Int.fmod_nonneg_of_pos m (by decide)
  have h1 : m.fmod 3 < 3 := Int.fmod_lt_of_pos m (by decide)
  refine good_join ?_ ?_ fun w hw => ?_
  · intro q
    have := congrArg List.length q
    simp at this
  · rw [List.length_map, List.length_range]; omega
  · obtain ⟨k, _, rfl⟩ := List.mem_map.mp hw
    exact piece_mem m k
theorem noPylong {x y : Int} (h : y.natAbs < 2 ^ 200) (hy : y ≠ 0) : divisionGoesByPylong x y = false := by
  unfold divisionGoesByPylong
  have : y.natAbs.log2 < 200 := (Nat.log2_lt (by omega)).mpr h
  have e : (y == 0) = false := by simpa using hy
  simp only [e]
  have : ¬ (y.natAbs.log2 / 30 + 1 > 300) := by omega
  simp [this]
def gPiece (m : Int) : D → D
  | .int i => .str (pieceAt m i.toNat)
  | d => d
section
variable {c : Cx} {A : Around} {env : Env} {μ : Sto} {base : Heap} {o : Out}
set_option maxHeartbeats 400000 in
theorem fc_path {m : Int} (hA : Okay 1 A) : FC c A (.ref 161) [.int m] (.str (lawPath m)) := by
  refine fc_open (xs := ["m"]) hA rfl rfl rfl (by kernel_rfl) (bindC_plain ?_) rfl (by decide +kernel) (by decide +kernel) ?_
  · intro vs h
    match vs, h with
    | [a], _ => rfl
  · intro base env A' hA' hs hc hf
    have h0 : 0 ≤ m.fmod 3 := Int.fmod_nonneg_of_pos m (by decide)
    have h1 : m.fmod 3 < 3 := Int.fmod_lt_of_pos m (by decide)
    have s16 : (PCS.map D.str).length ≤ sizeLine := by rw [List.length_map, show PCS.length = 16 from by decide +kernel, sizeLine_eq]; decide
    refine exs_cons (ν := ("pieces", dS PCS) :: [("m", .int m)]) ?_ ?_
    · refine ex1_assign ?_ ?_ ?_
      · refine ev_list ?_ ?_
        · unfold PCS
          iterate 16 (refine evl_cons ?_ ?_ ?_; exact ev_str; rotate_left; (intro _; rfl))
          exact evl_nil
        · exact s16
      · exact canC hs hc hf rfl rfl
      · rfl
    have hn3 : 1 + (m.fmod 3).toNat ≤ 3 := by omega
    have hlen : ((List.range (1 + (m.fmod 3).toNat)).map (pieceAt m)).length ≤ 3 := by rw [List.length_map, List.length_range]; exact hn3
    have hsum := pcs_len (ws := (List.range (1 + (m.fmod 3).toNat)).map (pieceAt m)) fun w hw => by
      obtain ⟨k, _, rfl⟩ := List.mem_map.mp hw
      exact piece_mem m k
    refine exs_ret (ex1_ret (ev_smeth ev_str F.slot_str_join F.type_str_join (evl1 (d := dS ((List.range (1 + (m.fmod 3).toNat)).map (pieceAt m))) ?_) (fc_join' (by rw [sizeLine_eq]; omega))))
    refine ev_to (ev_compI (ds := (List.range (1 + (m.fmod 3).toNat)).map fun i => D.int (i : Nat)) (f := fun d => [("k", d)]) (ν := [("m", .int m), ("pieces", dS PCS)]) (p := fun _ => true) (g := gPiece m)
      (evi_range hA'.handled (by omega) (bv hs rfl (nb_range _) bb_range) (ev_to (ev_bin ev_int (ev_bin (cv hs rfl rfl) ev_int (bin_mod (by decide))) bin_add_int) ?_))
      ⟨by rw [List.length_map, List.length_range, sizeLine_eq]; omega, seen_cons rfl (by decide +kernel) (.inl (kOf hs rfl)) (by rw [hs]; rfl) (seen_cons rfl (by decide +kernel) (.inl (kOf hs rfl)) (by rw [hs]; rfl) seen_nil), ?_, by decide +kernel, rfl, by decide +kernel, ?_, ?_⟩) ?_
    · congr 1
      omega
    · rw [hc]; exact free_all rfl
    · intro a cenv CE e he
      have hsc := CE.sc
      rw [hs] at hsc
      exact asg_name (canL hsc rfl)
    · intro a cenv CE e he
      have hsc := CE.sc
      rw [hs] at hsc
      obtain ⟨k, hk, rfl⟩ := List.mem_map.mp he
      have hk3 : k < 3 := by
        have := List.mem_range.mp hk
        omega
      refine ⟨.inl ⟨rfl, rfl⟩, fun _ => ?_⟩
      obtain ⟨h2, h3⟩ := mod16 ((m.fdiv 3).fdiv (16 ^ k))
      have hp : (16 : Int) ^ k ≠ 0 := by
        match k, hk3 with
        | 0, _ => decide
        | 1, _ => decide
        | 2, _ => decide
      have hp2 : ((16 : Int) ^ k).natAbs < 2 ^ 200 := by
        match k, hk3 with
        | 0, _ => decide
        | 1, _ => decide
        | 2, _ => decide
      refine ev_item (i := ((m.fdiv 3).fdiv (16 ^ k)).fmod 16) (cv hsc rfl rfl) (ev_bin (a := .int ((m.fdiv 3).fdiv (16 ^ k))) (ev_bin (a := .int (m.fdiv 3)) (b := .int (16 ^ k)) (ev_bin (cv hsc rfl rfl) ev_int (bin_floordiv (by decide) (noPylong (by decide) (by decide)))) (ev_bin ev_int (lv hsc rfl rfl) ?_) (bin_floordiv hp (noPylong hp2 hp))) ev_int (bin_mod (by decide))) h2 (by omega) ?_
      · have := bin_pow (c := c.off a) (A := A') (x := 16) (y := (k : Nat)) (by omega) (by omega) (by decide)
        rwa [Int.toNat_natCast] at this
      · show (PCS.map D.str)[_]? = some (D.str (pieceAt m ((k : Nat) : Int).toNat))
        rw [List.getElem?_map, pcs_at h2 h3, Int.toNat_natCast]
        rfl
    · congr 1
      rw [List.filter_eq_self.mpr (by simp), List.map_map, List.map_map]
      exact List.map_congr_left fun k _ => by show D.str (pieceAt m ((k : Nat) : Int).toNat) = _; rw [Int.toNat_natCast]; rfl
end
end Mine
end

section -- P16
open PySem PySem.W PyProof.Rows PySem.Builtin PySem.Builtin.Str
set_option Elab.async false
set_option maxRecDepth 100000
set_option linter.unusedVariables false
set_option autoImplicit false
namespace Mine
/-! commands -/
structure Cmd where
  kind : Int
  one : Str
  two : Str
structure CmdOk (k : Cmd) : Prop where
  kind : k.kind = 0 ∨ k.kind = 1 ∨ k.kind = 2 ∨ k.kind = 3
  one : GoodP k.one
  two : GoodP k.two
abbrev dC (k : Cmd) : D := .list [.int k.kind, .str k.one, .str k.two]
def st0 : St := ([], [[]])
def steps (l : List Cmd) : St := l.foldl (fun st k => told st k.kind k.one k.two) st0
theorem steps_inv : ∀ (l : List Cmd) (n m : Nat) (st : St), (∀ k ∈ l, CmdOk k) → Inv n m st → Inv ((n + 1) * 2 ^ l.length - 1) (m + l.length) (l.foldl (fun st k => told st k.kind k.one k.two) st)
  | [], n, m, st, _, h => by simpa using h
  | k :: l, n, m, st, hk, h => by
    have h1 := hk k List.mem_cons_self
    have := steps_inv l (2 * n + 1) (m + 1) (told st k.kind k.one k.two) (fun x hx => hk x (List.mem_cons_of_mem _ hx)) (told_inv h (wayOf_nms h.here h1.one) (wayOf_nms h.here h1.two))
    rw [List.foldl_cons, List.length_cons]
    have e : (2 * n + 1 + 1) * 2 ^ l.length = (n + 1) * 2 ^ (l.length + 1) := by rw [Nat.pow_succ, Nat.mul_comm (2 ^ l.length) 2, ← Nat.mul_assoc]; congr 1; omega
    rw [e] at this
    exact this.le (Nat.le_refl _) (by omega)
theorem inv0 : Inv 0 1 st0 := ⟨nms_nil, fun w hw => by rw [List.mem_singleton.mp hw]; exact nms_nil, Nat.le_refl _, fun w hw => by rw [List.mem_singleton.mp hw]; exact Nat.le_refl _, Nat.le_refl _⟩
theorem steps_ok {l : List Cmd} (hk : ∀ k ∈ l, CmdOk k) (hl : l.length ≤ 15) : Inv 32767 16 (steps l) := by
  have := steps_inv l 0 1 st0 hk inv0
  refine this.le ?_ (by omega)
  have : 2 ^ l.length ≤ 2 ^ 15 := Nat.pow_le_pow_right (by decide) hl
  simp
  omega
/-- the texts of the ways -/
def texts (ways : List (List Str)) : List (List Str) := ways.map fun w => [abs (w.map cap), abs w]
theorem dB_texts (ways : List (List Str)) : dB ways = dSS (texts ways) := by
  unfold texts
  rw [dSS, List.map_map]
  show D.list ((bookOf ways).map _) = _
  unfold bookOf
  rw [List.map_map]
  rfl
theorem sok_texts {ways : List (List Str)} (h : ∀ w ∈ ways, Nms w) : ∀ x ∈ texts ways, ∀ y ∈ x, PyData.strOk y = true := fun x hx => by
  obtain ⟨w, hw, rfl⟩ := List.mem_map.mp hx
  have := sok_absN (h w hw)
  intro y hy
  simp only [List.mem_cons, List.not_mem_nil, or_false] at hy
  rcases hy with rfl | rfl
  · exact this.2
  · exact this.1
theorem sortS_mem {xs : List (List Str)} {P : List Str → Prop} (h : ∀ x ∈ xs, P x) (h0 : P []) : ∀ x ∈ sortS xs, P x := fun x hx => by
  unfold sortS at hx
  split at hx
  · exact h x hx
  · obtain ⟨i, _, rfl⟩ := List.mem_map.mp hx
    rw [List.getD_eq_getElem?_getD]
    cases e : xs[i]? with
    | none => exact h0
    | some y => exact h y (List.mem_of_getElem? e)
section
variable {c : Cx} {A : Around} {env : Env} {μ : Sto} {base : Heap} {o : Out}
theorem fc_spelledN {ws : List Str} (hA : Okay 1 A) (h : Nms ws) (hs : Sm ws) : FC c A (.ref 200) [dS ws] (dS [abs (ws.map cap), abs ws]) := by
  have e : ws.map capS = ws.map cap := List.map_congr_left fun w hw => (nmOk (h w hw)).spell
  have hl : ws.length ≤ 200000 := hs
  have h3 := nms_sum h
  have hc := capsum h
  have := fc_spelled (c := c) (A := A) (way := ws) hA (by rw [sizeLine_eq]; omega) (fun w hw => by have := (nmOk (h w hw)).len; rw [sizeLine_eq]; omega)
    (fun w hw => ⟨notLong (by have := (nmOk (h w hw)).ulen; omega), notLong (by have := (nmOk (h w hw)).tlen; omega), by have := (nmOk (h w hw)).ulen; have := (nmOk (h w hw)).tlen; rw [sizeLine_eq]; omega⟩)
    (by rw [e, hc, sizeLine_eq]; omega) (by rw [sizeLine_eq]; omega)
  rw [e] at this
  exact this
/-- two local names, swapped -/
theorem swapped_some {x y : Str} {px py tp vp : Pos} {k k' : Nat} {e1 e2 : Expr} (hkd : env.scope.kind = .function) (hx : env.kindOf x = some .local) (hy : env.kindOf y = some .local) (hl : (py.line == px.line) = true) (hne : (x == y) = false)
    (h1 : foldedForSure 8 e1 = false) (h2 : constantsAlone 8 e1 = false) (hst : ([e1, e2].any fun | .Starred .. => true | _ => false) = false) : swappedStores [.Tuple [.Name x px, .Name y py] k tp] (.Tuple [e1, e2] k' vp) env = pure (some [x, y]) := by
  have hb : (env.blockKind != ScopeKind.function) = false := by unfold Env.blockKind; rw [hkd]; rfl
  have hnm : ([Expr.Name x px, Expr.Name y py].filterMap fun
    | .Name nm pos => if env.kindOf nm == some .local && pos.line == px.line then some nm else none
    | _ => none) = [x, y] := by
    have h2 : (env.kindOf y == some NameKind.local) = true := by rw [hy]; rfl
    have h1 : (env.kindOf x == some NameKind.local) = true := by rw [hx]; rfl
    simp only [List.filterMap_cons, List.filterMap_nil, h1, h2, hl, beq_self_eq_true, Bool.and_self, if_true]
  have hd : ([x, y].eraseDups).length = 2 := by
    have hne' : (y == x) = false := by rw [← hne]; exact BEq.comm
    simp [List.eraseDups_cons, hne']
  have e : swappedStores [.Tuple [.Name x px, .Name y py] k tp] (.Tuple [e1, e2] k' vp) env =
    (if (!(2 == 2 || 2 == 3) || 2 != 2 || env.blockKind != .function) = true then pure none else
      if ([e1, e2].any fun | .Starred .. => true | _ => false) = true then pure none else
        let names := ([Expr.Name x px, Expr.Name y py].filterMap fun
          | .Name nm pos => if env.kindOf nm == some .local && pos.line == px.line then some nm else none
          | _ => none)
        if (names.length != 2 || names.eraseDups.length != names.length) = true then pure none else
          if [e1, e2].all (foldedForSure 8) = true then pure none else do
            if [e1, e2].all (constantsAlone 8) = true then unsupported "assign.tuple-of-constant-expressions:order-of-the-stores"
            return some names) := rfl
  rw [e, hb, hst]
  simp only [hnm]
  rw [if_neg (by decide), if_neg (by decide), if_neg (by rw [hd]; simp), if_neg (by simp [h1]), if_neg (by simp [h2])]
theorem ex1_swap {x y : Str} {px py tp pos : Pos} {k : Nat} {e : Expr} {d1 d2 : D} (hh : A.handled = none) (h : EvE c A env μ e (.tuple [d1, d2])) (hx : env.kindOf x = some .local) (hy : env.kindOf y = some .local)
    (hw : swappedStores [.Tuple [.Name x px, .Name y py] k tp] e env = pure (some [x, y]))
    (hs : swapsWithSole [.Tuple [.Name x px, .Name y py] k tp] e pos.line env = pure false := by rfl) :
    Ex1 c A base env μ (.Assign [.Tuple [.Name x px, .Name y py] k tp] e pos) (.next ((x, d1) :: (y, d2) :: μ)) := fun s E G F => by
  refine Assign_Tuple_swapped (names := [x, y]) ((h s (G.up F.keep) F.ok).use fun v s₁ k₁ r => ?_) hs hw
  refine wpAny_mono (unpackItems_D (c := c) (ds := [d1, d2]) hh (.inr r) rfl) (fun vs s₂ q => ?_) fun _ _ e => e
  obtain ⟨k₂, ra⟩ := q
  obtain ⟨v1, vs, rfl, r1, ra⟩ := ra.inv
  obtain ⟨v2, vs, rfl, r2, ra⟩ := ra.inv
  obtain rfl := ra.invN
  show wpAny _ A (do holding [v1] (bindName env y v2); assignInOrder [bindName env x] [v1]) _ _ _
  have k12 := keeps_trans k₁ k₂
  refine wpAny_bind (wpAny_holding (wpAny_bindName (wpAny_mono (store_ok (c := c) (F.up (keeps_keep k12)) (.inl hy) r2) (fun _ s₃ q => ?_) fun _ _ e => e)))
  obtain ⟨h₃, t₃, rfl, k₃, F₃⟩ := q
  show wpAny _ A (do holding [] (bindName env x v1); assignInOrder [] []) _ _ _
  refine wpAny_bind (wpAny_holding (wpAny_bindName (wpAny_mono (store_ok (c := c) F₃ (.inl hx) (r1.up k₃.seq)) (fun _ s₄ q => ?_) fun _ _ e => e)))
  obtain ⟨h₄, t₄, rfl, k₄, F₄⟩ := q
  refine wpAny_pure ?_
  exact Went.of (kp_of_keeps k12) ⟨h₄, t₄, rfl, k₃.trans k₄, rfl, F₄⟩
end
end Mine
end

section -- P17
open PySem PySem.W PyProof.Rows PySem.Builtin PySem.Builtin.Str
set_option Elab.async false
set_option maxRecDepth 100000
set_option linter.unusedVariables false
set_option autoImplicit false
namespace Mine
def c1 : D → D
  | .list [a, _, _] => a
  | d => d
def c2 : D → D
  | .list [_, a, _] => a
  | d => d
def c3 : D → D
  | .list [_, _, a] => a
  | d => d
theorem steps_take {l : List Cmd} {i : Nat} {k : Cmd} (h : l[i]? = some k) : steps (l.take (i + 1)) = told (steps (l.take i)) k.kind k.one k.two := by
  have e : l.take (i + 1) = l.take i ++ [k] := by rw [List.take_add_one, h]; rfl
  unfold steps
  rw [e, List.foldl_append]
  rfl
theorem dSt0 : dSt st0 = .list [.str "/", .list [.list [.str "/", .str "/"]]] := by
  show D.list [.str (abs []), .list [.list [.str (abs []), .str (abs [])]]] = _
  rw [abs_nil]
section
variable {c : Cx} {A : Around} {env : Env} {μ : Sto} {base : Heap} {o : Out}
theorem fc_agree {l : List Cmd} (hA : Okay 11 A) (hk : ∀ k ∈ l, CmdOk k) (hl : l.length ≤ 15) : FC c A (.ref 205) [.list (l.map dC)] (.bool true) := by
  refine fc_open (xs := ["commands"]) hA rfl rfl rfl (by kernel_rfl) (bindC_plain ?_) rfl (by decide +kernel) (by decide +kernel) ?_
  · intro vs h
    match vs, h with
    | [a], _ => rfl
  · intro base env A' hA' hs hc hf
    have hu : A'.units + 8 < cLine := by have := hA'.units; omega
    have hkd : env.scope.kind = .function := by rw [hs]
    have two : 2 ≤ sizeLine := by rw [sizeLine_eq]; decide
    have one1 : 1 ≤ sizeLine := by rw [sizeLine_eq]; decide
    refine exs_cons (ν := ("state", dSt st0) :: ("due", dT st0) :: ([Str.ofString "commands"].zip [D.list (List.map dC l)]).reverse) ?_ ?_
    · refine ex1_swap (x := "state") (y := "due") (d1 := dSt st0) (d2 := dT st0) ?_ ?_ ?_ ?_ ?_ ?_
      · exact hA'.handled
      · rw [dSt0]
        refine ev_tuple ?_ ?_
        rotate_left
        · exact two
        refine evl2 ?_ ?_ ?_ ?_
        · refine ev_list ?_ ?_
          rotate_left
          · exact two
          refine evl2 ?_ ?_ ?_ ?_
          · exact ev_str
          · refine ev_list ?_ ?_
            rotate_left
            · exact one1
            refine evl1 ?_ ?_
            · refine ev_list ?_ ?_
              rotate_left
              · exact two
              refine evl2 ?_ ?_ ?_ ?_
              · exact ev_str
              · exact ev_str
              · intro _; rfl
              · intro _; rfl
            · intro _; rfl
          · intro _; rfl
          · intro _; rfl
        · refine ev_list ?_ ?_
          rotate_left
          · exact two
          refine evl2 ?_ ?_ ?_ ?_
          · exact ev_list evl_nil
          · refine ev_list ?_ ?_
            rotate_left
            · exact one1
            refine evl1 ?_ ?_
            · exact ev_list evl_nil
            · intro _; rfl
          · intro _; rfl
          · intro _; rfl
        · intro _; rfl
        · intro _; rfl
      · exact kOf hs rfl
      · exact kOf hs rfl
      · exact swapped_some hkd (kOf hs rfl) (kOf hs rfl) (by decide) (by decide) rfl rfl rfl
      · rfl
    refine exs_cons (for_seq (ds := l.map dC) (fun d => [("two", c3 d), ("one", c2 d), ("kind", c1 d)]) (fun i => [("state", dSt (steps (l.take i))), ("due", dT (steps (l.take i)))]) hA'.handled (lv hs rfl rfl) (.inl rfl) ?_ (sub_cons rfl (sub_cons rfl sub_nil)) ?_) (exs_ret (ex1_ret ev_bool))
    · intro e he
      obtain ⟨k, _, rfl⟩ := List.mem_map.mp he
      exact asg_tuple (xs := [("kind", _), ("one", _), ("two", _)]) (ds := [.int k.kind, .str k.one, .str k.two]) hA'.handled (.inl rfl) (canAll_cons (canL hs rfl) (canAll_cons (canL hs rfl) (canAll_cons (canL hs rfl) canAll_nil))) rfl
    · intro i e he
      rw [List.getElem?_map] at he
      obtain ⟨k, hki, rfl⟩ := Option.map_eq_some_iff.mp he
      have hkk := hk k (List.mem_of_getElem? hki)
      have hi : i < l.length := (List.getElem?_eq_some_iff.mp hki).1
      have hS := steps_ok (l := l.take i) (fun x hx => hk x (List.mem_of_mem_take hx)) (by rw [List.length_take]; omega)
      have hS' := steps_ok (l := l.take (i + 1)) (fun x hx => hk x (List.mem_of_mem_take hx)) (by rw [List.length_take]; omega)
      have hst := steps_take hki
      generalize hT : steps (l.take (i + 1)) = T at *
      generalize steps (l.take i) = S at *
      have fd := fc_done (c := c) (A := A') (hA'.le (by decide)) (hS.le (Nat.le_refl _) (by decide)) (by decide) hkk.one hkk.two hkk.kind
      have ft := fc_told (c := c) (A := A') (hA'.le (by decide)) (hS.le (Nat.le_refl _) (by decide)) (by decide) hkk.one hkk.two hkk.kind
      rw [← hst] at fd ft
      have hTh : Sm T.1 := Nat.le_trans hS'.hlen (by decide)
      have hTw : ∀ w ∈ T.2, Sm w := fun w hw => Nat.le_trans (hS'.wlen w hw) (by decide)
      refine ⟨_, .inl (exs_cons (ex1_swap (d1 := dSt T) (d2 := dT T) hA'.handled (ev_tuple (evl2 (gf hs rfl (ns_law_done _) fnk_law_done (evl_cons (lv hs rfl rfl) (evl_cons (lv hs rfl rfl) (evl2 (lv hs rfl rfl) (lv hs rfl rfl)))) fd) (gf hs rfl (ns_law_told _) fnk_law_told (evl_cons (lv hs rfl rfl) (evl_cons (lv hs rfl rfl) (evl2 (lv hs rfl rfl) (lv hs rfl rfl)))) ft)) two) (kOf hs rfl) (kOf hs rfl) (swapped_some hkd (kOf hs rfl) (kOf hs rfl) (by decide) (by decide) rfl rfl rfl)) (exs_cons (iff' (evt_or (evt_cmp (ev_item (lv hs rfl rfl) ev_int (by decide) (by decide) rfl) (ev_item (gf hs rfl (ns_law_spelled _) fnk_law_spelled (evl1 (ev_item (lv hs rfl rfl) ev_int (by decide) (by decide) rfl)) (fc_spelledN (hA'.le (by decide)) hS'.here hTh)) ev_int (by decide) (by decide) rfl) cmp_ne_str) (evt_cmp (a := dSS (sortS (texts T.2))) (b := dSS (sortS (texts T.2))) ?_ ?_ (cmp_ne_SS hu (sortS_mem (sok_texts hS'.ways) sok_nil) (sortS_mem (sok_texts hS'.ways) sok_nil)))) ?_ exs_nil) exs_nil)), sub_cons rfl (sub_cons rfl sub_nil)⟩
      · have h64 : (texts T.2).length < 64 := by
          have := hS'.len
          unfold texts; rw [List.length_map]; omega
        exact ev_call_b (bv hs rfl (nb_sorted _) bb_sorted) (evl1 (ev_to (ev_item (lv hs rfl rfl) ev_int (by decide) (by decide) rfl) (dB_texts T.2))) (fc_sorted hu h64)
      · have h64 : (texts T.2).length < 64 := by
          have := hS'.len
          unfold texts; rw [List.length_map]; omega
        refine ev_call_b (bv hs rfl (nb_sorted _) bb_sorted) (evl1 (d := dSS (texts T.2)) ?_) (fc_sorted hu h64)
        refine ev_to (ev_comp (ds := T.2.map dS) (f := fun d => [("way", d)]) (ν := []) (p := fun _ => true) (g := fun d => dS [abs ((strsOf d).map cap), abs (strsOf d)]) (ev_item (d := dSS T.2) (lv hs rfl rfl) ev_int (by decide) (by decide) rfl) (fun s v _ r => its_list hA'.handled r)
          ⟨by have := hS'.len; rw [List.length_map, sizeLine_eq]; omega, seen_nil, ?_, by decide +kernel, rfl, by decide +kernel, ?_, ?_⟩) ?_
        · rw [hc]; exact free_all rfl
        · intro a cenv CE e he
          have hsc := CE.sc
          rw [hs] at hsc
          exact asg_name (canL hsc rfl)
        · intro a cenv CE e he
          have hsc := CE.sc
          rw [hs] at hsc
          obtain ⟨w, hw, rfl⟩ := List.mem_map.mp he
          refine ⟨.inl ⟨rfl, rfl⟩, fun _ => ?_⟩
          rw [strsOf_dS]
          exact gf hsc rfl (ns_law_spelled _) fnk_law_spelled (evl1 (lv hsc rfl rfl)) (fc_spelledN (hA'.le (by decide)) (hS'.ways w hw) (hTw w hw))
        · refine congrArg D.list ?_
          unfold texts
          rw [List.filter_eq_self.mpr (by simp), List.map_map, List.map_map]
          refine List.map_congr_left fun w _ => ?_
          show dS [abs ((strsOf (dS w)).map cap), abs (strsOf (dS w))] = _
          rw [strsOf_dS]
          rfl
      · show (abs T.1 != abs T.1 || !decide (sortS (texts T.2) = sortS (texts T.2))) = false
        simp
end
end Mine
end

section -- P18
open PySem PySem.W PyProof.Rows PySem.Builtin PySem.Builtin.Str
set_option Elab.async false
set_option maxRecDepth 100000
set_option linter.unusedVariables false
set_option autoImplicit false
namespace Mine
def firstC : List Cmd := [⟨1, "a", ""⟩, ⟨1, "A/bC", ""⟩, ⟨0, "./a//BC", ""⟩, ⟨1, "../aB", ""⟩, ⟨2, "/A", "/ab"⟩]
def lastC : List Cmd := [⟨2, "/AB", "../../AB"⟩, ⟨2, "..", "c"⟩, ⟨3, "/aB", ""⟩, ⟨3, "../Ab/", ""⟩]
def drawnC (x : Int) : Cmd := ⟨x.fmod 4, lawPath (x.fdiv 4), lawPath ((x.fdiv 4).fdiv 12288)⟩
def cmdB (k : Cmd) : Bool := (k.kind == 0 || k.kind == 1 || k.kind == 2 || k.kind == 3) && goodB k.one && goodB k.two
theorem cmd_of {k : Cmd} (h : cmdB k = true) : CmdOk k := by
  unfold cmdB at h
  simp only [Bool.and_eq_true, Bool.or_eq_true, beq_iff_eq] at h
  obtain ⟨⟨h1, h2⟩, h3⟩ := h
  exact ⟨by rcases h1 with ((h | h) | h) | h <;> simp [h], good_of h2, good_of h3⟩
theorem fixed_ok : (firstC ++ lastC).all cmdB = true := by decide +kernel
theorem drawn_ok (x : Int) : CmdOk (drawnC x) := by
  refine ⟨?_, good_path _, good_path _⟩
  have h0 : 0 ≤ x.fmod 4 := Int.fmod_nonneg_of_pos x (by decide)
  have h1 : x.fmod 4 < 4 := Int.fmod_lt_of_pos x (by decide)
  show x.fmod 4 = 0 ∨ x.fmod 4 = 1 ∨ x.fmod 4 = 2 ∨ x.fmod 4 = 3
  omega
def cmds (xs : List Int) : List Cmd := firstC ++ lastC ++ (xs.take 6).map drawnC
theorem cmds_ok (xs : List Int) : ∀ k ∈ cmds xs, CmdOk k := fun k hk => by
  rcases List.mem_append.mp hk with h | h
  · exact cmd_of (List.all_eq_true.mp fixed_ok k h)
  · obtain ⟨x, _, rfl⟩ := List.mem_map.mp h
    exact drawn_ok x
theorem cmds_len (xs : List Int) : (cmds xs).length ≤ 15 := by
  unfold cmds
  rw [List.length_append, List.length_map, List.length_take, show (firstC ++ lastC).length = 9 from by decide +kernel]
  omega
def gDrawn : D → D
  | .int x => dC (drawnC x)
  | d => d
section
variable {c : Cx} {A : Around} {env : Env} {μ : Sto} {base : Heap} {o : Out}
theorem ev_cmd {k1 k2 k3 : Nat} {p1 p2 p3 pos : Pos} {i : Int} {x y : Str} : EvE c A env μ (.List [.Constant (.int i) k1 p1, .Constant (.str x) k2 p2, .Constant (.str y) k3 p3] pos) (dC ⟨i, x, y⟩) := by
  refine ev_list ?_ ?_
  · refine evl_cons ?_ ?_ ?_
    · exact ev_int
    · refine evl2 ?_ ?_ ?_ ?_
      · exact ev_str
      · exact ev_str
      · intro _; rfl
      · intro _; rfl
    · intro _; rfl
  · show 3 ≤ sizeLine
    rw [sizeLine_eq]; decide
theorem fc_law {xs : List Int} (hA : Okay 12 A) (hl : xs.length ≤ 63) : FC c A (.ref 210) [.list (xs.map .int)] (.bool true) := by
  refine fc_open (xs := ["script"]) hA rfl rfl rfl (by kernel_rfl) (bindC_plain ?_) rfl (by decide +kernel) (by decide +kernel) ?_
  · intro vs h
    match vs, h with
    | [a], _ => rfl
  · intro base env A' hA' hs hc hf
    have s5 : (firstC.map dC).length ≤ sizeLine := by rw [List.length_map, show firstC.length = 5 from by decide +kernel, sizeLine_eq]; decide
    have s4 : (lastC.map dC).length ≤ sizeLine := by rw [List.length_map, show lastC.length = 4 from by decide +kernel, sizeLine_eq]; decide
    have hk : env.scope.kind = .function := by rw [hs]
    refine exs_cons (ν := ("first", .list (firstC.map dC)) :: ([Str.ofString "script"].zip [D.list (xs.map .int)]).reverse) ?_ ?_
    · refine ex1_assign ?_ ?_ ?_
      · refine ev_list ?_ ?_
        · unfold firstC
          iterate 5 (refine evl_cons ?_ ?_ ?_; exact ev_cmd; rotate_left; (intro _; rfl))
          exact evl_nil
        · exact s5
      · exact canL hs rfl
      · rfl
    refine exs_cons (ν := ("last", .list (lastC.map dC)) :: ("first", .list (firstC.map dC)) :: ([Str.ofString "script"].zip [D.list (xs.map .int)]).reverse) ?_ ?_
    · refine ex1_assign ?_ ?_ ?_
      · refine ev_list ?_ ?_
        · unfold lastC
          iterate 4 (refine evl_cons ?_ ?_ ?_; exact ev_cmd; rotate_left; (intro _; rfl))
          exact evl_nil
        · exact s4
      · exact canL hs rfl
      · rfl
    have htl : (xs.take 6).length ≤ 6 := by rw [List.length_take]; omega
    refine exs_cons (ex1_to (d' := .list (((xs.take 6).map drawnC).map dC)) (ex1_assign_comp (d0 := .list ((xs.take 6).map .int)) (ds := (xs.take 6).map .int) (f := fun d => [("x", d)]) (ν := []) (p := fun _ => true) (g := gDrawn) ?_ (fun s v _ r => its_list hA'.handled r)
      ⟨by rw [List.length_map, sizeLine_eq]; omega, seen_nil, ?_, by decide +kernel, rfl, by decide +kernel, ?_, ?_⟩ (swaps_true hk (kOf hs rfl) rfl rfl) (kOf hs rfl)) ?_) ?_
    · refine ev_to (ev_slice_list (lv hs rfl rfl) .none (.some ev_int) ?_ (pick_upto (by decide))) ?_
      · rw [List.length_map, sizeLine_eq]; omega
      · rw [← List.map_take]; rfl
    · rw [hc]; exact free_all rfl
    · intro a cenv CE e he
      have hsc := CE.sc
      rw [hs] at hsc
      exact asg_name (canL hsc rfl)
    · intro a cenv CE e he
      have hsc := CE.sc
      rw [hs] at hsc
      obtain ⟨x, hx, rfl⟩ := List.mem_map.mp he
      refine ⟨.inl ⟨rfl, rfl⟩, fun _ => ?_⟩
      show EvE (c.off a) A' cenv _ _ (.list [.int (x.fmod 4), .str (lawPath (x.fdiv 4)), .str (lawPath ((x.fdiv 4).fdiv 12288))])
      refine ev_list ?_ ?_
      · refine evl_cons ?_ ?_ ?_
        · exact ev_bin (lv hsc rfl rfl) ev_int (bin_mod (by decide))
        · refine evl2 ?_ ?_ ?_ ?_
          · exact gf hsc rfl (ns_law_path _) fnk_law_path (evl1 (ev_bin (lv hsc rfl rfl) ev_int (bin_floordiv (by decide) (noPylong (by decide) (by decide))))) (fc_path (hA'.le (by decide)))
          · exact gf hsc rfl (ns_law_path _) fnk_law_path (evl1 (ev_bin (ev_bin (lv hsc rfl rfl) ev_int (bin_floordiv (by decide) (noPylong (by decide) (by decide)))) ev_int (bin_floordiv (by decide) (noPylong (by decide) (by decide))))) (fc_path (hA'.le (by decide)))
          · intro _; rfl
          · intro _; rfl
        · intro _; rfl
      · show 3 ≤ sizeLine
        rw [sizeLine_eq]; decide
    · refine congrArg D.list ?_
      rw [List.filter_eq_self.mpr (by simp), List.map_map, List.map_map]
      rfl
    have e9 : (firstC.map dC ++ lastC.map dC).length = 9 := by rw [← List.map_append, List.length_map]; decide +kernel
    have l5 : (firstC.map dC).length = 5 := by rw [List.length_map]; decide +kernel
    have l4 : (lastC.map dC).length = 4 := by rw [List.length_map]; decide +kernel
    have hall : firstC.map dC ++ lastC.map dC ++ ((xs.take 6).map drawnC).map dC = (cmds xs).map dC := by unfold cmds; rw [List.map_append, List.map_append]
    refine exs_ret (ex1_ret (gf hs rfl (ns_law_agree _) fnk_law_agree (evl1 (d := .list ((cmds xs).map dC)) ?_) (fc_agree hA' (cmds_ok xs) (cmds_len xs))))
    rw [← hall]
    refine ev_bin (ev_bin (lv hs rfl rfl) (lv hs rfl rfl) (bin_add_list ?_)) (lv hs rfl rfl) (bin_add_list ?_)
    · rw [l5, l4, sizeLine_eq]; decide
    · rw [e9, List.length_map, List.length_map, sizeLine_eq]; omega
end
end Mine
end

section -- P19
open PySem PySem.W PyProof.Rows PySem.Builtin PySem.Builtin.Str
set_option Elab.async false
set_option maxRecDepth 100000
set_option linter.unusedVariables false
set_option autoImplicit false
namespace Mine
theorem okay_caller : Okay 12 callerA := ⟨rfl, by decide +kernel, by decide +kernel⟩
theorem rep_ints {X : Addr → Prop} {h : Heap} : ∀ {vs : List Value} {ns : List Int}, IntsAre vs ns → RepAll X h vs (ns.map .int)
  | _, _, .nil => .nil
  | _, _, .cons n t r => .cons (.int n t) (rep_ints r)
theorem law_run {w : World} {s₁ : Shared} {mg mb : Str → Option Value} {fa L : Addr} {vs : List Value} {ns : List Int} {E : Value → Shared → Prop} {Q : Value → Shared → Prop}
    (KX : (hd.heap_1 w.params).In s₁.heap) (g : s₁.heap.Ns mainGlobals mg) (b : s₁.heap.Ns builtinsNs mb) (nl : s₁.heap.NoLimit) (bu : ∀ x : Str, x ≠ "__name__" → mb x = bootBuiltins x)
    (hmg : mg "law" = some (.ref fa)) (hL : s₁.heap.IsList L vs.toArray) (hI : IntsAre vs ns) (hn : ns.length ≤ 63)
    (hq : ∀ s', Keeps s₁ s' → Q (.bool true) s') : wpAny (model PySem.Challenge.pw_pd0050_01 w) callerA (call (.ref fa) [.ref L]) Q E s₁ := by
  have hfa : fa = 210 := by
    have := mg_of KX g (ns_law w.params)
    rw [hmg] at this
    cases this; rfl
  subst hfa
  have G : (⟨PySem.Challenge.pw_pd0050_01, w, mg, mb, fun _ => False⟩ : Cx).G s₁.heap := ⟨KX, g, b, nl, bu, fun _ h => h.elim⟩
  have := fc_law (c := ⟨PySem.Challenge.pw_pd0050_01, w, mg, mb, fun _ => False⟩) (A := callerA) (xs := ns) okay_caller hn s₁ [.ref L] G (.cons (.list (fun h => h) hL (rep_ints hI)) .nil)
  refine this.use fun v s' k r => ?_
  obtain rfl := r.invB
  exact hq s' k
theorem top : PySem.Challenge.rw_pd0050_01.Holds := hd (by
  intro w s₀ s₁ mg mb G Y fa o pm cd doc dV kV ho hd' hcd hD hmg hg args vals as hpre hlay hrd hwl hlo
  have KX := kIn_of Y
  refine Ground.open G ?_
  intro T B D TE TW
  clear ho hd' hcd hD
  wrow_args hpre hlay hrd hwl hlo
  rename_i ns _ _ _ _ _ _ _ L vs _ hL _ _ _ hI _ hlen _
  refine law_run (ns := ns) KX T.g T.b T.nolimit T.builtins hmg hL hI (by omega) fun s' k => ?_
  obtain ⟨h', t', rfl, hk⟩ := k
  refine GoodW.toG ⟨.inl ⟨.bool true, .bool true, [], rfl, fun _ => rfl, .bool true, ?_, fun _ => ⟨List.nodup_nil, fun _ h => nomatch h⟩⟩, hk, rfl, hg⟩
  wrow_post)
end Mine
end

theorem PySem.Challenge.cw_pd0050_01_holds : PySem.Challenge.rw_pd0050_01.Holds :=
  Mine.top
