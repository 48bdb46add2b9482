import PyProof.Rows.All
import Wide.All
import OpenK.AllK
import Wide.FinOn
import PySem.Challenge.RW_pw0003_01
set_option Elab.async false
set_option linter.all false

open PySem PySem.W PyProof.Rows PySem.Calls
namespace Mine

/-- intros, then the kernel's own look -/
def auK : Lean.Syntax := .node .none `Lean.Parser.Tactic.tacticSeq #[.node .none `Lean.Parser.Tactic.tacticSeq1Indented #[.node .none `null #[.node .none `Lean.Parser.Tactic.intros #[Lean.mkAtom "intros", .node .none `null #[]], Lean.mkAtom ";", .node .none `tacticKernel_rfl #[Lean.mkAtom "kernel_rfl"]]]]
theorem turn_lt {i n : Nat} (h : i < n) : n + 1 - (i + 1) < n + 1 - i := by lia
noncomputable abbrev Rho := List (Str × PyData)

/-- a bare reference, whatever lies there -/
noncomputable def rawD (a : Addr) : PyData := .dict [(.int (Int.ofNat a), .none)]
mutual
/-- the value bears the datum d, and nothing of it lies in X -/
inductive RX (X : Addr → Prop) (h : Heap) : Value → PyData → Prop
  | none : RX X h .none .none
  | bool (b) : RX X h (.bool b) (.bool b)
  | int (i t) : RX X h (.int i t) (.int i)
  | str (x t) : RX X h (.str x t) (.str x)
  | list {a vs ds} : h.PlainList a vs.toArray → ¬ X a → RXs X h vs ds → RX X h (.ref a) (.list ds)
  | tuple {a vs ds} : h.IsTuple a vs.toArray → ¬ X a → RXs X h vs ds → RX X h (.ref a) (.tuple ds)
  | raw (a : Addr) : RX X h (.ref a) (.dict [(.int (Int.ofNat a), .none)])
inductive RXs (X : Addr → Prop) (h : Heap) : List Value → List PyData → Prop
  | nil : RXs X h [] []
  | cons {v vs d ds} : RX X h v d → RXs X h vs ds → RXs X h (v :: vs) (d :: ds)
end
theorem RX.reads {X : Addr → Prop} {h : Heap} {v : Value} {d : PyData} (r : RX X h v d) : d.canLay0 = true → ∃ as, Reads h v d as :=
  RX.rec (motive_1 := fun v d _ => d.canLay0 = true → ∃ as, Reads h v d as) (motive_2 := fun vs ds _ => PyData.canLayAll0 ds = true → ∃ as, ReadsAll h vs ds as)
    (fun _ => ⟨_, .none⟩) (fun b _ => ⟨_, .bool b⟩) (fun i t _ => ⟨_, .int i t⟩) (fun x t _ => ⟨_, .str x t⟩)
    (fun hl _ _ rs hc => by obtain ⟨_, ho⟩ := hl; obtain ⟨as, r⟩ := rs (by simpa [PyData.canLay0] using hc); exact ⟨_, .list ho rfl rfl (by simpa using r)⟩)
    (fun hl _ _ rs hc => by obtain ⟨_, ho, hc', _, hd⟩ := hl; obtain ⟨as, r⟩ := rs (by simpa [PyData.canLay0] using hc); exact ⟨_, .tuple ho hc' hd (by simpa using r)⟩)
    (fun _ hc => by simp [PyData.canLay0] at hc)
    (fun _ => ⟨_, .nil⟩)
    (fun _ _ r rs hc => by
      simp [PyData.canLayAll0] at hc
      obtain ⟨as, a⟩ := r hc.1
      obtain ⟨bs, b⟩ := rs hc.2
      exact ⟨_, .cons a b⟩) r

def Keep (h h' : Heap) : Prop := ∀ b o, h.get? b = some o → h'.get? b = some o
theorem Keep.refl (h : Heap) : Keep h h := fun _ _ e => e
theorem Keep.trans {h h' h'' : Heap} (a : Keep h h') (b : Keep h' h'') : Keep h h'' := fun x o e => b x o (a x o e)
theorem Keep.push (h : Heap) (o : Obj) : Keep h (h.push o) := fun _ _ e => Heap.get?_push_of_some _ e

structure Ext (s s' : Shared) : Prop where
  keep : Keep s.heap s'.heap
  gens : s'.gens = s.gens
  os : s'.os = s.os
theorem Ext.refl (s : Shared) : Ext s s := ⟨Keep.refl _, rfl, rfl⟩
theorem Ext.trans {s s' s'' : Shared} (a : Ext s s') (b : Ext s' s'') : Ext s s'' := ⟨a.keep.trans b.keep, b.gens.trans a.gens, b.os.trans a.os⟩
theorem Ext.tok (s : Shared) {tk : Nat} : Ext s { s with toks := tk } := ⟨Keep.refl _, rfl, rfl⟩

noncomputable def Live (X : Addr → Prop) (h : Heap) : Prop := ∀ b, X b → ∃ o, h.get? b = some o
theorem Live.keep {X : Addr → Prop} {h h' : Heap} (x : Live X h) (k : Keep h h') : Live X h' := fun b hb => let ⟨o, e⟩ := x b hb; ⟨o, k _ _ e⟩
theorem Live.fresh {X : Addr → Prop} {h : Heap} (x : Live X h) {a : Addr} (e : h.get? a = none) : ¬ X a := fun hx => by obtain ⟨o, e'⟩ := x a hx; rw [e] at e'; cases e'
theorem get?_size_none (h : Heap) : h.get? h.objs.size = none := by
  cases e : h.get? h.objs.size with
  | none => rfl
  | some o => exact absurd (Heap.lt_size e) (Nat.lt_irrefl _)
theorem get?_ge_none (h : Heap) {a : Addr} (ha : h.objs.size ≤ a) : h.get? a = none := by
  cases e : h.get? a with
  | none => rfl
  | some o => exact absurd (Heap.lt_size e) (Nat.not_lt.mpr ha)
theorem Live.size {X : Addr → Prop} {h : Heap} (x : Live X h) : ¬ X h.objs.size := x.fresh (get?_size_none h)

/-- all but what X holds is kept -/
noncomputable def KeepX (X : Addr → Prop) (h h' : Heap) : Prop := ∀ b o, h.get? b = some o → ¬ X b → h'.get? b = some o
theorem KeepX.refl (X : Addr → Prop) (h : Heap) : KeepX X h h := fun _ _ e _ => e
theorem KeepX.trans {X : Addr → Prop} {h h' h'' : Heap} (a : KeepX X h h') (b : KeepX X h' h'') : KeepX X h h'' := fun x o e q => b x o (a x o e q) q
theorem Keep.x {h h' : Heap} (k : Keep h h') (X : Addr → Prop) : KeepX X h h' := fun b o e _ => k b o e
theorem KeepX.mono {X Y : Addr → Prop} {h h' : Heap} (a : KeepX X h h') (hs : ∀ b, X b → Y b) : KeepX Y h h' := fun b o e q => a b o e fun x => q (hs b x)
theorem IsTuple.at' {h h' : Heap} {a items} (x : h.IsTuple a items) (e : ∀ o, h.get? a = some o → h'.get? a = some o) : h'.IsTuple a items := let ⟨o, ho, r⟩ := x; ⟨o, e _ ho, r⟩
theorem RX.keepX {X : Addr → Prop} {h h' : Heap} (k : KeepX X h h') {v : Value} {d : PyData} (r : RX X h v d) : RX X h' v d :=
  RX.rec (motive_1 := fun v d _ => RX X h' v d) (motive_2 := fun vs ds _ => RXs X h' vs ds) .none .bool .int .str
    (fun hl hX _ rs => .list (hl.at fun o e => k _ _ e hX) hX rs) (fun hl hX _ rs => .tuple (IsTuple.at' hl fun o e => k _ _ e hX) hX rs) .raw .nil (fun _ _ r rs => .cons r rs) r
theorem RXs.keepX {X : Addr → Prop} {h h' : Heap} (k : KeepX X h h') {vs : List Value} {ds : List PyData} (r : RXs X h vs ds) : RXs X h' vs ds :=
  RXs.rec (motive_1 := fun v d _ => RX X h' v d) (motive_2 := fun vs ds _ => RXs X h' vs ds) .none .bool .int .str
    (fun hl hX _ rs => .list (hl.at fun o e => k _ _ e hX) hX rs) (fun hl hX _ rs => .tuple (IsTuple.at' hl fun o e => k _ _ e hX) hX rs) .raw .nil (fun _ _ r rs => .cons r rs) r
/-- X may grow by what does not stand yet -/
theorem RX.more {X Y : Addr → Prop} {h : Heap} (hs : ∀ b, Y b → X b ∨ h.get? b = Option.none) {v : Value} {d : PyData} (r : RX X h v d) : RX Y h v d :=
  RX.rec (motive_1 := fun v d _ => RX Y h v d) (motive_2 := fun vs ds _ => RXs Y h vs ds) .none .bool .int .str
    (fun hl hX _ rs => .list hl (fun y => (hs _ y).elim hX fun e => by obtain ⟨o, ho⟩ := hl; rw [e] at ho; cases ho) rs)
    (fun hl hX _ rs => .tuple hl (fun y => (hs _ y).elim hX fun e => by obtain ⟨o, ho, _⟩ := hl; rw [e] at ho; cases ho) rs) .raw .nil (fun _ _ r rs => .cons r rs) r
theorem RXs.more {X Y : Addr → Prop} {h : Heap} (hs : ∀ b, Y b → X b ∨ h.get? b = Option.none) {vs : List Value} {ds : List PyData} (r : RXs X h vs ds) : RXs Y h vs ds :=
  RXs.rec (motive_1 := fun v d _ => RX Y h v d) (motive_2 := fun vs ds _ => RXs Y h vs ds) .none .bool .int .str
    (fun hl hX _ rs => .list hl (fun y => (hs _ y).elim hX fun e => by obtain ⟨o, ho⟩ := hl; rw [e] at ho; cases ho) rs)
    (fun hl hX _ rs => .tuple hl (fun y => (hs _ y).elim hX fun e => by obtain ⟨o, ho, _⟩ := hl; rw [e] at ho; cases ho) rs) .raw .nil (fun _ _ r rs => .cons r rs) r
theorem RX.keep {X : Addr → Prop} {h h' : Heap} {v d} (r : RX X h v d) (k : Keep h h') : RX X h' v d := r.keepX (k.x X)
theorem RXs.keep {X : Addr → Prop} {h h' : Heap} {v d} (r : RXs X h v d) (k : Keep h h') : RXs X h' v d := r.keepX (k.x X)
theorem RX.weaken {X Y : Addr → Prop} {h : Heap} {v d} (r : RX X h v d) (hs : ∀ b, Y b → X b) : RX Y h v d := r.more fun b y => .inl (hs b y)
theorem RXs.weaken {X Y : Addr → Prop} {h : Heap} {v d} (r : RXs X h v d) (hs : ∀ b, Y b → X b) : RXs Y h v d := r.more fun b y => .inl (hs b y)
theorem RX.of_int {X : Addr → Prop} {h : Heap} {v i} (r : RX X h v (.int i)) : ∃ t, v = .int i t := by cases r; exact ⟨_, rfl⟩
theorem RX.of_str {X : Addr → Prop} {h : Heap} {v i} (r : RX X h v (.str i)) : ∃ t, v = .str i t := by cases r; exact ⟨_, rfl⟩
theorem RX.of_bool {X : Addr → Prop} {h : Heap} {v i} (r : RX X h v (.bool i)) : v = .bool i := by cases r; rfl
theorem RX.of_none {X : Addr → Prop} {h : Heap} {v} (r : RX X h v .none) : v = .none := by cases r; rfl
theorem RX.of_list {X : Addr → Prop} {h : Heap} {v ds} (r : RX X h v (.list ds)) : ∃ a vs, v = .ref a ∧ h.PlainList a vs.toArray ∧ RXs X h vs ds ∧ ¬ X a := by
  cases r with | list a b c => exact ⟨_, _, rfl, a, c, b⟩
theorem RX.of_tuple {X : Addr → Prop} {h : Heap} {v ds} (r : RX X h v (.tuple ds)) : ∃ a vs, v = .ref a ∧ h.IsTuple a vs.toArray ∧ RXs X h vs ds ∧ ¬ X a := by
  cases r with | tuple a b c => exact ⟨_, _, rfl, a, c, b⟩
theorem RX.of_raw {X : Addr → Prop} {h : Heap} {v a} (r : RX X h v (rawD a)) : v = .ref a := by
  unfold rawD at r
  generalize hd : PyData.dict [(.int (Int.ofNat a), .none)] = d at r
  cases r with
  | raw b => simp at hd; exact congrArg Value.ref (Int.ofNat.inj hd).symm
  | _ => cases hd
theorem RXs.of_cons {X : Addr → Prop} {h : Heap} {vs d ds} (r : RXs X h vs (d :: ds)) : ∃ v vs', vs = v :: vs' ∧ RX X h v d ∧ RXs X h vs' ds := by
  cases r with | cons a b => exact ⟨_, _, rfl, a, b⟩
theorem RXs.of_nil {X : Addr → Prop} {h : Heap} {vs} (r : RXs X h vs []) : vs = [] := by
  cases r; rfl
theorem RXs.length {X : Addr → Prop} {h : Heap} : ∀ {vs ds} (r : RXs X h vs ds), vs.length = ds.length
  | vs, [], r => by rw [r.of_nil]; rfl
  | vs, d :: ds, r => by
    obtain ⟨v, vs', rfl, _, rs⟩ := r.of_cons
    rw [List.length_cons, List.length_cons, RXs.length rs]
theorem RXs.get {X : Addr → Prop} {h : Heap} : ∀ {vs ds} (r : RXs X h vs ds) (i : Nat) (d : PyData), ds[i]? = some d → ∃ v, vs[i]? = some v ∧ RX X h v d
  | vs, [], _, i, d, e => by simp at e
  | vs, d₀ :: ds, r, i, d, e => by
    obtain ⟨v, vs', rfl, r1, rs⟩ := r.of_cons
    cases i with
    | zero => simp at e; subst e; exact ⟨v, rfl, r1⟩
    | succ i => simp at e; obtain ⟨u, h1, h2⟩ := RXs.get rs i d e; exact ⟨u, by simpa using h1, h2⟩
theorem RXs.append {X : Addr → Prop} {h : Heap} : ∀ {vs ds vs' ds'} (r : RXs X h vs ds) (r' : RXs X h vs' ds'), RXs X h (vs ++ vs') (ds ++ ds')
  | vs, [], vs', ds', r, r' => by obtain rfl := r.of_nil; exact r'
  | vs, d :: ds, vs', ds', r, r' => by
    obtain ⟨v, vs₁, rfl, r1, rs⟩ := r.of_cons
    exact RXs.cons r1 (RXs.append rs r')
end Mine

open PySem PySem.W PyProof.Rows PySem.Calls
namespace Mine

/-- what the text's top left, as far as it is used -/
structure GF (K : Frag) (h : Heap) : Prop where
  kin : K.In h
  b : ∃ mb, h.Ns builtinsNs mb ∧ ∀ x : Str, x ≠ "__name__" → mb x = bootBuiltins x
  g : ∃ mg, h.Ns mainGlobals mg
  lim : h.NoLimit
  dig : ∃ mc, h.Ns cStatics mc ∧ mc "sys.int_max_str_digits" = none
theorem GF.keep {K : Frag} {h h' : Heap} (x : GF K h) (k : Keep h h') : GF K h' where
  kin := x.kin.keeps k
  b := let ⟨mb, a, b⟩ := x.b; ⟨mb, a.keeps k, b⟩
  g := let ⟨mb, a⟩ := x.g; ⟨mb, a.keeps k⟩
  lim := x.lim.keeps k
  dig := let ⟨mb, a, b⟩ := x.dig; ⟨mb, a.keeps k, b⟩

/-- the top's part stands apart from X -/
noncomputable def GFX (K : Frag) (X : Addr → Prop) (h : Heap) : Prop := ∃ hb, GF K hb ∧ ∀ b o, hb.get? b = some o → h.get? b = some o ∧ ¬ X b
theorem GFX.gf {K : Frag} {X : Addr → Prop} {h : Heap} (x : GFX K X h) : GF K h := let ⟨_, g, k⟩ := x; g.keep fun b o e => (k b o e).1
theorem GFX.keep {K : Frag} {X : Addr → Prop} {h h' : Heap} (x : GFX K X h) (k : Keep h h') : GFX K X h' := let ⟨hb, g, q⟩ := x; ⟨hb, g, fun b o e => ⟨k _ _ (q b o e).1, (q b o e).2⟩⟩
theorem GFX.weaken {K : Frag} {X Y : Addr → Prop} {h : Heap} (x : GFX K X h) (hs : ∀ b, Y b → X b) : GFX K Y h := let ⟨hb, g, q⟩ := x; ⟨hb, g, fun b o e => ⟨(q b o e).1, fun y => (q b o e).2 (hs b y)⟩⟩
theorem GFX.more {K : Frag} {X Y : Addr → Prop} {h : Heap} (x : GFX K X h) (hs : ∀ b, Y b → X b ∨ h.get? b = none) : GFX K Y h := by
  obtain ⟨hb, g, q⟩ := x
  refine ⟨hb, g, fun b o e => ⟨(q b o e).1, fun y => ?_⟩⟩
  rcases hs b y with z | z
  · exact (q b o e).2 z
  · rw [(q b o e).1] at z; cases z

/-- room for n more frames -/
structure AOk (n : Nat) (A : Around) : Prop where
  hh : A.handled = none
  dep : A.depth + n < recursionLimit
  un : A.units + 16 * n + 200 < cLine
theorem AOk.mono {n m : Nat} {A : Around} (x : AOk n A) (h : m ≤ n) : AOk m A := ⟨x.hh, by have := x.dep; lia, by have := x.un; lia⟩

/-- where a name's value lies -/
noncomputable def At (env : Env) (m : Str → Option Value) (h : Heap) (x : Str) (v : Value) : Prop :=
  (env.kindOf x = some .local ∧ m x = some v) ∨ ((env.kindOf x = some .cell ∨ env.kindOf x = some .free) ∧ ∃ c, env.cells.lookup x = some c ∧ h.IsCell c (some v))
theorem At.keep {env : Env} {m : Str → Option Value} {h h' : Heap} {x : Str} {v : Value} (a : At env m h x v) (k : Keep h h') : At env m h' x v := by
  rcases a with a | ⟨a, c, b, d⟩
  · exact .inl a
  · exact .inr ⟨a, c, b, d.keeps k⟩

structure St (K : Frag) (env : Env) (X : Addr → Prop) (ρ : Rho) (s : Shared) : Prop where
  gf : GFX K X s.heap
  live : Live X s.heap
  vars : ∃ m, s.heap.Ns env.locals m ∧ ∀ x d, ρ.lookup x = some d → ∃ v, RX X s.heap v d ∧ At env m s.heap x v
  kind : env.scope.kind = .function
  glob : env.globals = mainGlobals
  blt : env.builtins = builtinsNs
  cells : ∀ x c, env.cells.lookup x = some c → ∃ o, s.heap.get? c = some o
theorem St.ext {K env X ρ s s'} (a : St K env X ρ s) (e : Ext s s') : St K env X ρ s' where
  gf := a.gf.keep e.keep
  live := a.live.keep e.keep
  vars := let ⟨m, n, f⟩ := a.vars; ⟨m, n.keeps e.keep, fun x d h => let ⟨v, r, q⟩ := f x d h; ⟨v, r.keep e.keep, q.keep e.keep⟩⟩
  kind := a.kind
  glob := a.glob
  blt := a.blt
  cells := fun x c h => let ⟨o, q⟩ := a.cells x c h; ⟨o, e.keep _ _ q⟩
theorem St.fewer {K env X ρ ρ' s} (a : St K env X ρ s) (h : ∀ x d, ρ'.lookup x = some d → ρ.lookup x = some d) : St K env X ρ' s where
  gf := a.gf
  live := a.live
  vars := let ⟨m, n, f⟩ := a.vars; ⟨m, n, fun x d e => f x d (h x d e)⟩
  kind := a.kind
  glob := a.glob
  blt := a.blt
  cells := a.cells

section
variable (prog : Program) (w : World) (K : Frag)

/-- the expression e gives d, whatever lies elsewhere; nothing that stood is changed -/
noncomputable def EV (n : Nat) (sc : Scope) (ρ : Rho) (e : Expr) (d : PyData) : Prop :=
  ∀ (A : Around) (env : Env) (X : Addr → Prop) (s : Shared), AOk n A → env.scope = sc → St K env X ρ s →
    wpAny (model prog w) A (eval e env) (fun v s' => Ext s s' ∧ RX X s'.heap v d) (fun _ _ => False) s
noncomputable def EVs (n : Nat) (sc : Scope) (ρ : Rho) (es : List Expr) (ds : List PyData) : Prop :=
  ∀ (A : Around) (env : Env) (X : Addr → Prop) (s : Shared) (pos : Pos), AOk n A → env.scope = sc → St K env X ρ s →
    wpAny (model prog w) A (spliced (backTo pos (starEach es env))) (fun vs s' => Ext s s' ∧ RXs X s'.heap vs ds) (fun _ _ => False) s
noncomputable def TE (n : Nat) (sc : Scope) (ρ : Rho) (e : Expr) (b : Bool) : Prop :=
  ∀ (A : Around) (env : Env) (X : Addr → Prop) (s : Shared), AOk n A → env.scope = sc → St K env X ρ s →
    wpAny (model prog w) A (isTrue e env (eval e env)) (fun v s' => Ext s s' ∧ v = b) (fun _ _ => False) s
/-- a comparison, a binary operation, a call, on data -/
noncomputable def CO (n : Nat) (op : CmpOp) (d₁ d₂ : PyData) (b : Bool) : Prop :=
  ∀ (A : Around) (X : Addr → Prop) (s : Shared) (v₁ v₂ : Value), AOk n A → GFX K X s.heap → Live X s.heap → RX X s.heap v₁ d₁ → RX X s.heap v₂ d₂ →
    wpAny (model prog w) A (compareOp op v₁ v₂) (fun v s' => Ext s s' ∧ v = .bool b) (fun _ _ => False) s
noncomputable def BO (n : Nat) (op : Operator) (d₁ d₂ d : PyData) : Prop :=
  ∀ (A : Around) (X : Addr → Prop) (s : Shared) (v₁ v₂ : Value), AOk n A → GFX K X s.heap → Live X s.heap → RX X s.heap v₁ d₁ → RX X s.heap v₂ d₂ →
    wpAny (model prog w) A (binaryOp op v₁ v₂) (fun v s' => Ext s s' ∧ RX X s'.heap v d) (fun _ _ => False) s
noncomputable def CA (n : Nat) (f : Value) (ds : List PyData) (d : PyData) : Prop :=
  ∀ (A : Around) (X : Addr → Prop) (s : Shared) (vs : List Value), AOk n A → GFX K X s.heap → Live X s.heap → RXs X s.heap vs ds →
    wpAny (model prog w) A (call f vs) (fun v s' => Ext s s' ∧ RX X s'.heap v d) (fun _ _ => False) s
end

variable {prog : Program} {w : World} {K : Frag} {n : Nat} {sc : Scope} {ρ : Rho}

theorem ev_name {x : Str} {pos : Pos} {d : PyData} (h : ρ.lookup x = some d) (hd : autoParam ((x == ("__debug__" : Str)) = false) auK)
    (hc : autoParam ((x == ("__classdict__" : Str)) = false) auK) : EV prog w K n sc ρ (.Name x pos) d := by
  intro A env X s hA hsc hS
  obtain ⟨m, hn, hv⟩ := hS.vars
  obtain ⟨v, r, hat⟩ := hv x d h
  refine wpAny_Name ?_ hd
  rcases hat with ⟨hk, hm⟩ | ⟨hk | hk, c, hl, hcell⟩
  · exact wpAny_loadName_local hS.kind hk hn hm ⟨Ext.refl _, r⟩
  · exact wpAny_loadName_cell hS.kind hk hl hcell ⟨Ext.refl _, r⟩
  · exact wpAny_loadName_free hS.kind hk hl hcell ⟨Ext.refl _, r⟩ hc
theorem ev_int {i : Int} {k : Nat} {pos : Pos} : EV prog w K n sc ρ (.Constant (.int i) k pos) (.int i) := fun A env X s hA hsc hS =>
  wpAny_Constant_int ⟨Ext.tok _, RX.int _ _⟩
theorem ev_str {i : Str} {k : Nat} {pos : Pos} : EV prog w K n sc ρ (.Constant (.str i) k pos) (.str i) := fun A env X s hA hsc hS =>
  wpAny_Constant_str ⟨Ext.tok _, RX.str _ _⟩
theorem ev_none {k : Nat} {pos : Pos} : EV prog w K n sc ρ (.Constant .none k pos) .none := fun A env X s hA hsc hS =>
  wpAny_Constant_none ⟨Ext.refl _, RX.none⟩
theorem evs_nil : EVs prog w K n sc ρ [] [] := fun A env X s pos hA hsc hS => args_nil ⟨Ext.refl _, RXs.nil⟩
theorem evs_cons {e : Expr} {es : List Expr} {d : PyData} {ds : List PyData} (h : EV prog w K n sc ρ e d) (hs : EVs prog w K n sc ρ es ds)
    (he : autoParam (∀ env, starEach (e :: es) env = (false, eval e env) :: starEach es env) auK) : EVs prog w K n sc ρ (e :: es) (d :: ds) := by
  intro A env X s pos hA hsc hS
  refine args_cons (wpAny_mono (h A env X s hA hsc hS) (fun v s₁ h₁ => ?_) fun _ _ x => x.elim) (he env)
  refine wpAny_mono (hs A env X s₁ pos hA hsc (hS.ext h₁.1)) (fun vs s₂ h₂ => ?_) fun _ _ x => x.elim
  exact ⟨h₁.1.trans h₂.1, RXs.cons (h₁.2.keep h₂.1.keep) h₂.2⟩
theorem ev_bin {l r : Expr} {op : Operator} {pos : Pos} {d₁ d₂ d : PyData} (hl : EV prog w K n sc ρ l d₁) (hr : EV prog w K n sc ρ r d₂) (h : BO prog w K n op d₁ d₂ d) :
    EV prog w K n sc ρ (.BinOp l op r pos) d := by
  intro A env X s hA hsc hS
  refine wpAny_BinOp (wpAny_mono (hl A env X s hA hsc hS) (fun v₁ s₁ h₁ => wpAny_mono (hr A env X s₁ hA hsc (hS.ext h₁.1)) (fun v₂ s₂ h₂ => ?_) fun _ _ x => x.elim) fun _ _ x => x.elim)
  have hS₂ := (hS.ext h₁.1).ext h₂.1
  exact wpAny_mono (h A X s₂ v₁ v₂ hA hS₂.gf hS₂.live (h₁.2.keep h₂.1.keep) h₂.2) (fun v s' h' => ⟨(h₁.1.trans h₂.1).trans h'.1, h'.2⟩) fun _ _ x => x.elim
theorem ev_cmp {l r : Expr} {op : CmpOp} {pos : Pos} {d₁ d₂ : PyData} {b : Bool} (hl : EV prog w K n sc ρ l d₁) (hr : EV prog w K n sc ρ r d₂) (h : CO prog w K n op d₁ d₂ b)
    (hm : behindInMarks op r = false := by rfl) : EV prog w K n sc ρ (.Compare l [op] [r] pos) (.bool b) := by
  intro A env X s hA hsc hS
  refine wpAny_Compare1 (wpAny_mono (hl A env X s hA hsc hS) (fun v₁ s₁ h₁ => wpAny_mono (hr A env X s₁ hA hsc (hS.ext h₁.1)) (fun v₂ s₂ h₂ => ?_) fun _ _ x => x.elim) fun _ _ x => x.elim) hm
  have hS₂ := (hS.ext h₁.1).ext h₂.1
  refine wpAny_mono (h A X s₂ v₁ v₂ hA hS₂.gf hS₂.live (h₁.2.keep h₂.1.keep) h₂.2) (fun v s' h' => ?_) fun _ _ x => x.elim
  obtain ⟨h', rfl⟩ := h'
  exact ⟨(h₁.1.trans h₂.1).trans h', RX.bool _⟩
theorem te_cmp {l r : Expr} {op : CmpOp} {pos : Pos} {d₁ d₂ : PyData} {b : Bool} (hl : EV prog w K n sc ρ l d₁) (hr : EV prog w K n sc ρ r d₂) (h : CO prog w K n op d₁ d₂ b)
    (hm : behindInMarks op r = false := by rfl) : TE prog w K n sc ρ (.Compare l [op] [r] pos) b := by
  intro A env X s hA hsc hS
  refine wpAny_isTrue_Compare1 (wpAny_mono (hl A env X s hA hsc hS) (fun v₁ s₁ h₁ => wpAny_mono (hr A env X s₁ hA hsc (hS.ext h₁.1)) (fun v₂ s₂ h₂ => ?_) fun _ _ x => x.elim) fun _ _ x => x.elim) hm
  have hS₂ := (hS.ext h₁.1).ext h₂.1
  refine wpAny_mono (h A X s₂ v₁ v₂ hA hS₂.gf hS₂.live (h₁.2.keep h₂.1.keep) h₂.2) (fun v s' h' => ?_) fun _ _ x => x.elim
  obtain ⟨h', rfl⟩ := h'
  exact wpAny_truthy_bool ⟨(h₁.1.trans h₂.1).trans h', rfl⟩
theorem te_or {x y : Expr} {pos : Pos} {b c : Bool} (hx : TE prog w K n sc ρ x b) (hy : b = false → TE prog w K n sc ρ y c) : TE prog w K n sc ρ (.BoolOp .Or [x, y] pos) (b || c) := by
  intro A env X s hA hsc hS
  refine wpAny_isTrue_BoolOp (wpAny_allTrue_Or_cons (wpAny_mono (hx A env X s hA hsc hS) (fun v₁ s₁ h₁ => ?_) fun _ _ x => x.elim))
  obtain ⟨e, rfl⟩ := h₁
  cases v₁ with
  | true => exact ⟨e, rfl⟩
  | false =>
    refine wpAny_allTrue_Or_cons (wpAny_mono (hy rfl A env X s₁ hA hsc (hS.ext e)) (fun v₂ s₂ h₂ => ?_) fun _ _ x => x.elim)
    obtain ⟨e₂, rfl⟩ := h₂
    cases v₂ with
    | true => exact ⟨e.trans e₂, rfl⟩
    | false => exact wpAny_allTrue_Or_nil ⟨e.trans e₂, rfl⟩
theorem ev_ifexp {t b o : Expr} {pos : Pos} {c : Bool} {d₁ d₂ : PyData} (ht : TE prog w K n sc ρ t c) (hb : c = true → EV prog w K n sc ρ b d₁) (ho : c = false → EV prog w K n sc ρ o d₂) :
    EV prog w K n sc ρ (.IfExp t b o pos) (if c then d₁ else d₂) := by
  intro A env X s hA hsc hS
  refine wpAny_IfExp (wpAny_mono (ht A env X s hA hsc hS) (fun v₁ s₁ h₁ => ?_) fun _ _ x => x.elim)
  obtain ⟨e, rfl⟩ := h₁
  cases v₁ with
  | true => exact wpAny_mono (hb rfl A env X s₁ hA hsc (hS.ext e)) (fun v s' h' => ⟨e.trans h'.1, h'.2⟩) fun _ _ x => x.elim
  | false => exact wpAny_mono (ho rfl A env X s₁ hA hsc (hS.ext e)) (fun v s' h' => ⟨e.trans h'.1, h'.2⟩) fun _ _ x => x.elim
theorem ev_list {es : List Expr} {pos : Pos} {ds : List PyData} (h : EVs prog w K n sc ρ es ds) (hz : ds.length ≤ sizeLine := by decide) : EV prog w K n sc ρ (.List es pos) (.list ds) := by
  intro A env X s hA hsc hS
  refine wpAny_List (wpAny_mono (h A env X s pos hA hsc hS) (fun vs s₁ h₁ => ?_) fun _ _ x => x.elim)
  refine ⟨by rw [h₁.2.length]; exact hz, h₁.1.trans ⟨Keep.push _ _, rfl, rfl⟩, ?_⟩
  exact RX.list ⟨_, Heap.get?_push_size _ rfl⟩ (hS.ext h₁.1).live.size (h₁.2.keep (Keep.push _ _))
theorem ev_tuple {es : List Expr} {k : Nat} {pos : Pos} {ds : List PyData} (h : EVs prog w K n sc ρ es ds) (hz : ds.length ≤ sizeLine := by decide) : EV prog w K n sc ρ (.Tuple es k pos) (.tuple ds) := by
  intro A env X s hA hsc hS
  refine wpAny_Tuple (wpAny_mono (h A env X s pos hA hsc hS) (fun vs s₁ h₁ => ?_) fun _ _ x => x.elim)
  refine ⟨by rw [h₁.2.length]; exact hz, h₁.1.trans ⟨Keep.push _ _, rfl, rfl⟩, ?_⟩
  exact RX.tuple ⟨_, Heap.get?_push_size _ rfl, rfl, _, rfl⟩ (hS.ext h₁.1).live.size (h₁.2.keep (Keep.push _ _))

/-- a global name: a builtin, or a thing of the text -/
theorem glob_builtin {A : Around} {env : Env} {X : Addr → Prop} {s : Shared} {x : Str} {pos : Pos} {v : Value} {Q : Value → Shared → Prop} {E : Value → Shared → Prop} (hS : St K env X ρ s) (hk : env.kindOf x = some .globalImplicit)
    (hmiss : nsIn K mainGlobals x = some none) (hb : bootBuiltins x = some v) (hd : (x == ("__debug__" : Str)) = false) (hn : x ≠ "__name__") (h : Q v s) :
    wpAny (model prog w) A (eval (.Name x pos) env) Q E s := by
  refine Name_function_global hS.kind hk ?_ hd
  unfold loadGlobal
  rw [hS.glob, hS.blt]
  refine wpAny_bind ((looks_nsIn hS.gf.gf.kin hmiss).here ?_)
  obtain ⟨mb, hN, hmb⟩ := hS.gf.gf.b
  refine wpAny_bind (wpAny_nsGet hN ?_)
  rw [hmb x hn, hb]
  exact wpAny_pure h
theorem glob_own {A : Around} {env : Env} {X : Addr → Prop} {s : Shared} {x : Str} {pos : Pos} {v : Value} {Q : Value → Shared → Prop} {E : Value → Shared → Prop} (hS : St K env X ρ s) (hk : env.kindOf x = some .globalImplicit)
    (hv : nsIn K mainGlobals x = some (some v)) (hd : (x == ("__debug__" : Str)) = false) (h : Q v s) :
    wpAny (model prog w) A (eval (.Name x pos) env) Q E s := by
  refine Name_function_global hS.kind hk ?_ hd
  unfold loadGlobal
  rw [hS.glob]
  refine wpAny_bind ((looks_nsIn hS.gf.gf.kin hv).here ?_)
  exact wpAny_pure h

theorem ev_call_builtin {x : Str} {id : String} {e : Expr} {es : List Expr} {p pos : Pos} {ds : List PyData} {d : PyData}
    (hk : sc.names.lookup x = some .globalImplicit) (hmiss : nsIn K mainGlobals x = some none) (hb : bootBuiltins x = some (.builtin id)) (hs : EVs prog w K n sc ρ (e :: es) ds)
    (h : CA prog w K n (.builtin id) ds d) (hd : autoParam ((x == ("__debug__" : Str)) = false) auK) (hn : x ≠ "__name__" := by decide +kernel)
    (he : autoParam (∀ env, starEach (e :: es) env = (false, eval e env) :: starEach es env) auK)
    (hplain : autoParam (∀ env, (backTo pos (starEach es env)).any (·.1) = false) auK) : EV prog w K n sc ρ (.Call (.Name x p) (e :: es) [] pos) d := by
  intro A env X s hA hsc hS
  subst hsc
  refine Call_ (glob_builtin hS hk hmiss hb hd hn ?_)
  refine callWith_builtin1 (wpAny_mono (hs A env X s pos hA rfl hS) (fun vs s₁ h₁ => ?_) fun _ _ x => x.elim) (he env) (hplain env)
  have hS₁ := hS.ext h₁.1
  exact wpAny_mono (h A X s₁ vs hA hS₁.gf hS₁.live h₁.2) (fun v s' h' => ⟨h₁.1.trans h'.1, h'.2⟩) fun _ _ x => x.elim
theorem ev_call_own {x : Str} {a : Addr} {o : Obj} {fd : FuncData} {e : Expr} {es : List Expr} {p pos : Pos} {ds : List PyData} {d : PyData}
    (hk : sc.names.lookup x = some .globalImplicit) (hv : nsIn K mainGlobals x = some (some (.ref a))) (ho : K.lookup a = some o) (hdat : o.data = .func fd) (hs : EVs prog w K n sc ρ (e :: es) ds)
    (h : CA prog w K n (.ref a) ds d) (hd : autoParam ((x == ("__debug__" : Str)) = false) auK)
    (he : autoParam (∀ env, starEach (e :: es) env = (false, eval e env) :: starEach es env) auK) : EV prog w K n sc ρ (.Call (.Name x p) (e :: es) [] pos) d := by
  intro A env X s hA hsc hS
  subst hsc
  refine Call_ (glob_own hS hk hv hd ?_)
  refine callWith_def hdat (wpAny_mono (hs A env X s pos hA rfl hS) (fun vs s₁ h₁ => ?_) fun _ _ x => x.elim) (he env)
  have hS₁ := hS.ext h₁.1
  exact ⟨hS₁.gf.gf.kin _ _ ho, wpAny_mono (h A X s₁ vs hA hS₁.gf hS₁.live h₁.2) (fun v s' h' => ⟨h₁.1.trans h'.1, h'.2⟩) fun _ _ x => x.elim⟩
end Mine

open PySem PySem.W PyProof.Rows PySem.Calls
namespace Mine

/-- the change that one frame may make to its own places -/
structure Fm (env : Env) (own : List Str) (Z X : Addr → Prop) (h : Heap) : Prop where
  loc : Z env.locals
  cel : ∀ x ∈ own, env.kindOf x = some .cell → ∃ c v, env.cells.lookup x = some c ∧ h.IsCell c v ∧ Z c
  apart : ∀ x ∈ own, env.kindOf x = some .cell → ∀ y c, env.cells.lookup x = some c → env.cells.lookup y = some c → y = x
  sub : ∀ b, Z b → X b
/-- a step of a frame: its own places may change, all else stays, what stood still stands -/
structure Mv (Z : Addr → Prop) (s s' : Shared) : Prop where
  keep : KeepX Z s.heap s'.heap
  stay : ∀ b o, s.heap.get? b = some o → ∃ o', s'.heap.get? b = some o'
  gens : s'.gens = s.gens
  os : s'.os = s.os
theorem Mv.refl (Z : Addr → Prop) (s : Shared) : Mv Z s s := ⟨KeepX.refl _ _, fun _ o e => ⟨o, e⟩, rfl, rfl⟩
theorem Mv.trans {Z : Addr → Prop} {s s' s'' : Shared} (a : Mv Z s s') (b : Mv Z s' s'') : Mv Z s s'' :=
  ⟨a.keep.trans b.keep, fun x o e => let ⟨o', e'⟩ := a.stay x o e; b.stay x o' e', b.gens.trans a.gens, b.os.trans a.os⟩
theorem Mv.mono {Z Y : Addr → Prop} {s s' : Shared} (a : Mv Z s s') (hs : ∀ b, Z b → Y b) : Mv Y s s' := ⟨a.keep.mono hs, a.stay, a.gens, a.os⟩
theorem Ext.mv {s s' : Shared} (e : Ext s s') (Z : Addr → Prop) : Mv Z s s' := ⟨e.keep.x Z, fun b o x => ⟨o, e.keep b o x⟩, e.gens, e.os⟩
theorem Mv.live {Z X : Addr → Prop} {s s' : Shared} (a : Mv Z s s') (l : Live X s.heap) : Live X s'.heap := fun b hb => let ⟨o, e⟩ := l b hb; a.stay b o e
/-- one place changes -/
theorem Mv.at {Z : Addr → Prop} {s : Shared} {a : Addr} {o o' : Obj} {h' : Heap} {tk : Nat} (hs : Heap.SameBut a s.heap h') (ho : s.heap.get? a = some o) (ho' : h'.get? a = some o') (hz : Z a) :
    Mv Z s { s with heap := h', toks := tk } where
  keep := fun b x e q => hs.extBut b x (fun h => q (h ▸ hz)) e
  stay := fun b x e => by
    by_cases h : b = a
    · subst h; exact ⟨o', ho'⟩
    · exact ⟨x, hs.extBut b x h e⟩
  gens := rfl
  os := rfl

theorem GFX.keepX {K : Frag} {X : Addr → Prop} {h h' : Heap} (x : GFX K X h) (k : KeepX X h h') : GFX K X h' := let ⟨hb, g, q⟩ := x; ⟨hb, g, fun b o e => ⟨k _ _ (q b o e).1 (q b o e).2, (q b o e).2⟩⟩

variable {prog : Program} {w : World} {K : Frag} {n : Nat} {sc : Scope} {ρ : Rho} {A : Around} {E : Value → Shared → Prop}

noncomputable def Sto (env : Env) (own : List Str) (x : Str) : Prop := env.kindOf x = some .local ∨ (env.kindOf x = some .cell ∧ x ∈ own)

theorem lookup_cons_of {x y : Str} {d d' : PyData} {ρ : Rho} (h : ((x, d) :: ρ).lookup y = some d') : (y = x ∧ d' = d) ∨ (y ≠ x ∧ ρ.lookup y = some d') := by
  rw [List.lookup_cons] at h
  cases hb : y == x with
  | true => rw [hb] at h; cases h; exact .inl ⟨beq_iff_eq.mp hb, rfl⟩
  | false => rw [hb] at h; exact .inr ⟨beq_eq_false_iff_ne.mp hb, h⟩

theorem store_name {M : Model} {env : Env} {X Z : Addr → Prop} {own : List Str} {s : Shared} {x : Str} {v : Value} {d : PyData} (hS : St K env X ρ s) (hF : Fm env own Z X s.heap) (hx : Sto env own x) (hr : RX X s.heap v d) :
    wpAny M A (storeName env x v) (fun _ s' => St K env X ((x, d) :: ρ) s' ∧ Fm env own Z X s'.heap ∧ Mv Z s s') E s := by
  obtain ⟨m, hn, hv⟩ := hS.vars
  rcases hx with hx | ⟨hx, hown⟩
  · refine wpAny_storeName_local hx hn (fun h' hn' hs' => ?_) (by rw [hS.kind]; rfl)
    obtain ⟨o, es, ep, ho, hd, _⟩ := id hn
    obtain ⟨o', es', ep', ho', hd', _⟩ := id hn'
    have mv : Mv Z s { s with heap := h', toks := s.toks + 1 } := Mv.at hs' ho ho' hF.loc
    have kx := mv.keep.mono hF.sub
    refine ⟨⟨hS.gf.keepX kx, mv.live hS.live, ⟨_, hn', fun y d' hy => ?_⟩, hS.kind, hS.glob, hS.blt, fun y c hy => let ⟨o, q⟩ := hS.cells y c hy; mv.stay _ _ q⟩, ⟨hF.loc, fun y hy hk => ?_, hF.apart, hF.sub⟩, mv⟩
    · rcases lookup_cons_of hy with ⟨rfl, rfl⟩ | ⟨hne, hy⟩
      · exact ⟨v, hr.keepX kx, .inl ⟨hx, by simp⟩⟩
      · obtain ⟨u, ru, hu⟩ := hv y d' hy
        refine ⟨u, ru.keepX kx, ?_⟩
        rcases hu with ⟨k1, k2⟩ | ⟨k1, c, k2, k3⟩
        · exact .inl ⟨k1, by show (if y = x then some v else m y) = some u; rw [if_neg hne]; exact k2⟩
        · refine .inr ⟨k1, c, k2, k3.sameBut hs' fun e => ?_⟩
          subst e
          obtain ⟨oc, hc1, hc2⟩ := k3
          rw [ho] at hc1; cases hc1; rw [hd] at hc2; cases hc2
    · obtain ⟨c, u, k2, k3, k4⟩ := hF.cel y hy hk
      refine ⟨c, u, k2, k3.sameBut hs' fun e => ?_, k4⟩
      subst e
      obtain ⟨oc, hc1, hc2⟩ := k3
      rw [ho] at hc1; cases hc1; rw [hd] at hc2; cases hc2
  · obtain ⟨c, u, hcl, hcell, hz⟩ := hF.cel x hown hx
    refine wpAny_storeName_cell hS.kind hx hcl hcell fun h' hc' hs' => ?_
    obtain ⟨o, ho, hd⟩ := id hcell
    obtain ⟨o', ho', hd'⟩ := id hc'
    have mv : Mv Z s { s with heap := h' } := Mv.at (tk := s.toks) hs' ho ho' hz
    have kx := mv.keep.mono hF.sub
    have hLc : env.locals ≠ c := fun e => by
      obtain ⟨o₁, es, ep, ho₁, hd₁, _⟩ := hn
      rw [e, ho] at ho₁; cases ho₁; rw [hd] at hd₁; cases hd₁
    refine ⟨⟨hS.gf.keepX kx, mv.live hS.live, ⟨m, hn.sameBut hs' hLc, fun y d' hy => ?_⟩, hS.kind, hS.glob, hS.blt, fun y c hy => let ⟨o, q⟩ := hS.cells y c hy; mv.stay _ _ q⟩, ⟨hF.loc, fun y hy hk => ?_, hF.apart, hF.sub⟩, mv⟩
    · rcases lookup_cons_of hy with ⟨rfl, rfl⟩ | ⟨hne, hy⟩
      · exact ⟨v, hr.keepX kx, .inr ⟨.inl hx, c, hcl, hc'⟩⟩
      · obtain ⟨u', ru, hu⟩ := hv y d' hy
        refine ⟨u', ru.keepX kx, ?_⟩
        rcases hu with ⟨k1, k2⟩ | ⟨k1, c', k2, k3⟩
        · exact .inl ⟨k1, k2⟩
        · refine .inr ⟨k1, c', k2, k3.sameBut hs' fun e => ?_⟩
          subst e
          exact hne (hF.apart x hown hx y _ hcl k2)
    · obtain ⟨c', u', k2, k3, k4⟩ := hF.cel y hy hk
      by_cases e : c' = c
      · subst e; exact ⟨c', _, k2, hc', k4⟩
      · exact ⟨c', u', k2, k3.sameBut hs' e, k4⟩

end Mine

open PySem PySem.W PyProof.Rows PySem.Calls
namespace Mine

variable {prog : Program} {w : World} {K : Frag} {n : Nat} {sc : Scope} {ρ : Rho} {own : List Str}

theorem St.move {env : Env} {X W : Addr → Prop} {s s' : Shared} (hS : St K env X ρ s) (hm : Mv W s s') (hW : ∀ b, W b → X b) (hl : ¬ W env.locals) (hc : ∀ x c, env.cells.lookup x = some c → ¬ W c) : St K env X ρ s' where
  gf := hS.gf.keepX (hm.keep.mono hW)
  live := hm.live hS.live
  vars := by
    obtain ⟨m, hn, hv⟩ := hS.vars
    refine ⟨m, hn.at' fun o e => hm.keep _ o e hl, fun x d hx => ?_⟩
    obtain ⟨v, r, hat⟩ := hv x d hx
    refine ⟨v, r.keepX (hm.keep.mono hW), ?_⟩
    rcases hat with h | ⟨h, c, h1, o, h2, h3⟩
    · exact .inl h
    · exact .inr ⟨h, c, h1, o, hm.keep _ _ h2 (hc _ _ h1), h3⟩
  kind := hS.kind
  glob := hS.glob
  blt := hS.blt
  cells := fun x c h => let ⟨o, q⟩ := hS.cells x c h; hm.stay _ _ q
theorem St.drop {env : Env} {X Y W : Addr → Prop} {s s' : Shared} (hS : St K env X ρ s) (hk : KeepX W s.heap s'.heap) (hW : ∀ b, W b → X b) (hl : ¬ W env.locals) (hc : ∀ x c, env.cells.lookup x = some c → ¬ W c)
    (hY : ∀ b, Y b → X b ∧ ¬ W b) : St K env Y ρ s' where
  gf := (hS.gf.keepX (hk.mono hW)).weaken fun b hb => (hY b hb).1
  live := fun b hb => let ⟨o, e⟩ := hS.live b (hY b hb).1; ⟨o, hk _ _ e (hY b hb).2⟩
  vars := by
    obtain ⟨m, hn, hv⟩ := hS.vars
    refine ⟨m, hn.at' fun o e => hk _ o e hl, fun x d hx => ?_⟩
    obtain ⟨v, r, hat⟩ := hv x d hx
    refine ⟨v, (r.keepX (hk.mono hW)).weaken fun b hb => (hY b hb).1, ?_⟩
    rcases hat with h | ⟨h, c, h1, o, h2, h3⟩
    · exact .inl h
    · exact .inr ⟨h, c, h1, o, hk _ _ h2 (hc _ _ h1), h3⟩
  kind := hS.kind
  glob := hS.glob
  blt := hS.blt
  cells := fun x c h => let ⟨o, q⟩ := hS.cells x c h; ⟨o, hk _ _ q (hc _ _ h)⟩
theorem Fm.move {env : Env} {X Z W : Addr → Prop} {s s' : Shared} (hF : Fm env own Z X s.heap) (hk : KeepX W s.heap s'.heap) (hc : ∀ x c, env.cells.lookup x = some c → ¬ W c) : Fm env own Z X s'.heap where
  loc := hF.loc
  cel := fun x hx hk' => let ⟨c, v, h1, ⟨o, h2, h3⟩, h4⟩ := hF.cel x hx hk'; ⟨c, v, h1, ⟨o, hk _ _ h2 (hc _ _ h1), h3⟩, h4⟩
  apart := hF.apart
  sub := hF.sub
theorem Fm.ext {env : Env} {X Z : Addr → Prop} {s s' : Shared} (hF : Fm env own Z X s.heap) (e : Ext s s') : Fm env own Z X s'.heap :=
  hF.move (W := fun _ => False) (e.keep.x _) fun _ _ _ h => h

/-- a target takes a datum -/
noncomputable def BD (prog : Program) (w : World) (K : Frag) (n : Nat) (sc : Scope) (own : List Str) (t : Expr) (d : PyData) (ρ ρ' : Rho) : Prop :=
  ∀ (A : Around) (env : Env) (X Z : Addr → Prop) (s : Shared) (v : Value) (E : Value → Shared → Prop), AOk n A → env.scope = sc → St K env X ρ s → Fm env own Z X s.heap → RX X s.heap v d →
    wpAny (model prog w) A (assign t env v) (fun _ s' => St K env X ρ' s' ∧ Fm env own Z X s'.heap ∧ Mv Z s s') E s
noncomputable def BDs (prog : Program) (w : World) (K : Frag) (n : Nat) (sc : Scope) (own : List Str) (ts : List Expr) (ds : List PyData) (ρ ρ' : Rho) : Prop :=
  ∀ (A : Around) (env : Env) (X Z : Addr → Prop) (s : Shared) (vs : List Value) (E : Value → Shared → Prop), AOk n A → env.scope = sc → St K env X ρ s → Fm env own Z X s.heap → RXs X s.heap vs ds →
    wpAny (model prog w) A (assignInOrder ((assignEach ts env).map (·.2)) vs) (fun _ s' => St K env X ρ' s' ∧ Fm env own Z X s'.heap ∧ Mv Z s s') E s
noncomputable def stoB (sc : Scope) (own : List Str) (x : Str) : Bool := sc.names.lookup x == some .local || (sc.names.lookup x == some .cell && own.contains x)
theorem Sto.of {env : Env} {x : Str} (h : stoB env.scope own x = true) : Sto env own x := by
  simp only [stoB, Bool.or_eq_true, Bool.and_eq_true, beq_iff_eq, List.contains_iff_mem] at h
  exact h
theorem bd_name {x : Str} {pos : Pos} {d : PyData} (h : autoParam (stoB sc own x = true) auK) : BD prog w K n sc own (.Name x pos) d ρ ((x, d) :: ρ) := by
  intro A env X Z s v E hA hsc hS hF hr
  exact wpAny_assign_Name (store_name hS hF (Sto.of (hsc ▸ h)) hr)
theorem bds_nil : BDs prog w K n sc own [] [] ρ ρ := by
  intro A env X Z s v E hA hsc hS hF hr
  exact wpAny_pure ⟨hS, hF, Mv.refl _ _⟩
theorem bds_cons {t : Expr} {ts : List Expr} {d : PyData} {ds : List PyData} {ρ' ρ'' : Rho} (h : BD prog w K n sc own t d ρ ρ') (hs : BDs prog w K n sc own ts ds ρ' ρ'')
    (he : autoParam (∀ env, assignEach (t :: ts) env = (false, assign t env) :: assignEach ts env) auK) : BDs prog w K n sc own (t :: ts) (d :: ds) ρ ρ'' := by
  intro A env X Z s vs E hA hsc hS hF hr
  obtain ⟨v, vs', rfl, r1, rs⟩ := hr.of_cons
  rw [he]
  show wpAny _ A (holding vs' (assign t env v) >>= fun _ => assignInOrder ((assignEach ts env).map (·.2)) vs') _ _ s
  refine wpAny_bind (wpAny_holding (wpAny_mono (h A env X Z s v E hA hsc hS hF r1) (fun _ s₁ h₁ => ?_) fun _ _ x => x))
  refine wpAny_mono (hs A env X Z s₁ vs' E hA hsc h₁.1 h₁.2.1 (rs.keepX (h₁.2.2.keep.mono hF.sub))) (fun _ s₂ h₂ => ?_) fun _ _ x => x
  exact ⟨h₂.1, h₂.2.1, h₁.2.2.trans h₂.2.2⟩
theorem assignEach_length (ts : List Expr) (env : Env) : (assignEach ts env).length = ts.length := by
  induction ts with
  | nil => rfl
  | cons t ts ih => cases t <;> simp [assignEach, ih]
theorem bd_tuple {ts : List Expr} {k : Nat} {pos : Pos} {ds : List PyData} {ρ' : Rho} (h : BDs prog w K n sc own ts ds ρ ρ') (hl : ts.length = ds.length := by rfl)
    (hstar : autoParam (∀ env, (assignEach ts env).findIdx? (·.1) = none) auK) : BD prog w K n sc own (.Tuple ts k pos) (.tuple ds) ρ ρ' := by
  intro A env X Z s v E hA hsc hS hF hr
  obtain ⟨a, vs, rfl, ht, rs, hXa⟩ := hr.of_tuple
  have hlen := rs.length
  refine wpAny_assign_Tuple hA.hh ht (by rw [assignEach_length, hl, List.size_toArray, hlen]) (hstar env) fun h' hk => ?_
  have ext : Ext s { s with heap := h' } := ⟨fun b o e => hk b o (Nat.ne_of_lt (Heap.lt_size e)) e, rfl, rfl⟩
  rw [List.toList_toArray]
  refine wpAny_mono (h A env X Z _ vs E hA hsc (hS.ext ext) (hF.ext ext) (rs.keep ext.keep)) (fun _ s₂ h₂ => ?_) fun _ _ x => x
  exact ⟨h₂.1, h₂.2.1, (ext.mv Z).trans h₂.2.2⟩

/-- X, and what has come since hb -/
noncomputable def newX (X : Addr → Prop) (hb h : Heap) : Addr → Prop := fun b => X b ∨ (hb.get? b = none ∧ ∃ o, h.get? b = some o)
/-- an iterator that gives the data ds, as they stood in hb -/
structure Src (prog : Program) (w : World) (A : Around) (target : Expr) (I : Addr) (X wr : Addr → Prop) (hb : Heap) (ds : List PyData) (Ps : Nat → Heap → Prop) : Prop where
  sub : ∀ b, wr b → X b
  frame : ∀ i h h', Ps i h → KeepX X hb h' → (∀ b o, wr b → h.get? b = some o → h'.get? b = some o) → Ps i h'
  item : ∀ i d (s : Shared) (Q : Value → Shared → Prop) (E : Value → Shared → Prop), ds[i]? = some d → Live X s.heap → Ps i s.heap → (∀ v s', RX (newX X hb s.heap) s'.heap v d → Ps (i + 1) s'.heap → Mv wr s s' → Q v s') →
    wpAny (model prog w) A (pyNext (.ref I)) (fun r s₁ => match r with | none => False | some v => wpAny (model prog w) A (letOwnedTupleGo target (.ref I) v) (fun _ s₂ => Q v s₂) E s₁) E s
  done : ∀ (s : Shared) (Q : Shared → Prop) (E : Value → Shared → Prop), Ps ds.length s.heap → (∀ s', KeepX wr s.heap s'.heap → s'.gens = s.gens → s'.os = s.os → Q s') →
    wpAny (model prog w) A (pyNext (.ref I)) (fun r s₁ => r = none ∧ Q s₁) E s
  self : ∀ i (s : Shared) (Q : Value → Shared → Prop) (E : Value → Shared → Prop), Ps i s.heap → Q (.ref I) s → wpAny (model prog w) A (pyIter (.ref I)) Q E s

/-- what a loop goes over -/
noncomputable def IT (prog : Program) (w : World) (K : Frag) (n : Nat) (sc : Scope) (ρ : Rho) (target iter : Expr) (ds : List PyData) : Prop :=
  ∀ (A : Around) (env : Env) (X : Addr → Prop) (s : Shared), AOk n A → env.scope = sc → St K env X ρ s →
    wpAny (model prog w) A (eval iter env) (fun x s₁ => wpAny (model prog w) A (pyIter x) (fun it s₂ => ∃ I wr, it = .ref I ∧ (∀ b, wr b → s.heap.get? b = none) ∧ Live wr s₂.heap ∧ Ext s s₂ ∧
      ∀ X' : Addr → Prop, (∀ b, X' b → X b ∨ wr b ∨ s₂.heap.get? b = none) → (∀ b, wr b → X' b) → ∃ Ps, Src prog w A target I X' wr s₂.heap ds Ps ∧ Ps 0 s₂.heap) (fun _ _ => False) s₁) (fun _ _ => False) s

theorem Src.walks {A : Around} {target : Expr} {I : Addr} {X : Addr → Prop} {fp wr : List Addr} {m : Nat} {P : Nat → Value → Prop} {St' : Nat → Heap → Prop} {hb : Heap} {ds : List PyData} (W : Walks prog w A I fp wr m P St')
    (hn : ds.length = m) (hfp : ∀ b ∈ fp, b ∉ wr → ¬ X b ∧ ∃ o, hb.get? b = some o) (hwr : ∀ b ∈ wr, X b) (hval : ∀ i v d, P i v → ds[i]? = some d → RX X hb v d)
    (hlive : ∀ i h, St' i h → ∀ b ∈ wr, ∃ o, h.get? b = some o)
    (hgo : ∀ i v (s : Shared) (Q : Unit → Shared → Prop) (E : Value → Shared → Prop), St' i s.heap → Q () s → wpAny (model prog w) A (letOwnedTupleGo target (.ref I) v) Q E s) :
    Src prog w A target I X (· ∈ wr) hb ds (fun i h => St' i h ∧ KeepX X hb h) where
  sub := hwr
  frame := fun i h h' st hk hw => ⟨W.frame i h h' st.1 fun b hb' o e => by
    by_cases hbw : b ∈ wr
    · exact hw b o hbw e
    · obtain ⟨hx, o', ho'⟩ := hfp b hb' hbw
      have := st.2 b o' ho' hx
      rw [e] at this; cases this
      exact hk b o ho' hx, hk⟩
  item := fun i d s Q E hd hlx st hQ => by
    have hi : i < m := by rw [← hn]; exact (List.getElem?_eq_some_iff.mp hd).1
    refine W.item i s _ _ hi st.1 fun v h' tk hP st' hk => ?_
    have hkx : KeepX X hb h' := fun b o e hx => hk b o (fun hb => hx (hwr b hb)) (st.2 b o e hx)
    refine hgo (i + 1) v _ _ _ st' (hQ v _ (((hval i v d hP hd).more fun b hb => hb.imp id fun h => h.1).keepX (hkx.mono fun b hb => .inl hb)) ⟨st', hkx⟩ ⟨fun b o e hb => hk b o hb e, fun b o e => ?_, rfl, rfl⟩)
    by_cases hb : b ∈ wr
    · exact hlive _ _ st' b hb
    · exact ⟨o, hk b o hb e⟩
  done := fun s Q E st hQ => W.done s _ _ (hn ▸ st.1) fun h' tk hk => ⟨rfl, hQ _ (fun b o e hb => hk b o hb e) rfl rfl⟩
  self := fun i s Q E st h => W.self i s Q E st.1 h
end Mine

open PySem PySem.W PyProof.Rows PySem.Calls
namespace Mine

variable {prog : Program} {w : World} {K : Frag} {n : Nat} {sc : Scope} {ρ : Rho} {own : List Str} {A : Around}

theorem go_plain {M : Model} {target : Expr} {I : Addr} {v : Value} {s : Shared} {T : String} {vs : Array Value} {o : Obj} {Q : Unit → Shared → Prop} {E : Value → Shared → Prop} (ho : s.heap.get? I = some o) (hc : o.cls = .type T) (hd : o.data = .fields vs)
    (hT : (["enumerate", "zip", "dict_itemiterator", "dict_reverseitemiterator", "odict_iterator", "itertools.zip_longest", "itertools.pairwise"] : List String).contains T = false) (h : Q () s) :
    wpAny M A (letOwnedTupleGo target (.ref I) v) Q E s := by
  have key : wpAny M A (do
      let (.ref r, .ref a) := (Value.ref I, v) | return
      let o ← load r
      match o.cls, o.data with
      | .type n, .fields vs =>
        if ["enumerate", "zip", "dict_itemiterator", "dict_reverseitemiterator", "odict_iterator", "itertools.zip_longest", "itertools.pairwise"].contains n && vs[0]? == some (rawInt a) then
          rule "for.unpacks-the-owned-tuple"
          updateField r 0 .none
      | _, _ => pure () : Sem Unit) Q E s := by
    cases v with
    | ref a =>
      refine wpAny_bind (wpAny_load ho ?_)
      rw [hc, hd]
      dsimp only
      rw [hT]
      exact wpAny_pure h
    | _ => exact wpAny_pure h
  cases target with
  | Tuple _ _ _ => exact key
  | List _ _ => exact key
  | _ => exact wpAny_pure h

theorem it_list {target iter : Expr} {ds : List PyData} (h : EV prog w K n sc ρ iter (.list ds)) : IT prog w K n sc ρ target iter ds := by
  intro A env X s hA hsc hS
  refine wpAny_mono (h A env X s hA hsc hS) (fun x s₁ h₁ => ?_) fun _ _ x => x.elim
  obtain ⟨a, vs, rfl, hl', rs, hXa⟩ := h₁.2.of_list
  have hl := hl'.isList
  have e₁ := h₁.1
  refine wpAny_pyIter_list hl ?_
  have hne : a ≠ s₁.heap.objs.size := by obtain ⟨o, ho, _⟩ := hl; exact Nat.ne_of_lt (Heap.lt_size ho)
  have hk : Keep s₁.heap (s₁.heap.push { cls := .type "list_iterator", data := .fields #[.ref a, .int 0 0] }) := Keep.push _ _
  have hI : (s₁.heap.push { cls := .type "list_iterator", data := .fields #[.ref a, .int 0 0] }).IsListIter s₁.heap.objs.size a 0 := ⟨_, Heap.get?_push_size _ rfl, rfl, rfl⟩
  have hfr : ∀ b, b ∈ [s₁.heap.objs.size] → s.heap.get? b = none := fun b hb => by
    obtain rfl := List.mem_singleton.mp hb
    cases e : s.heap.get? s₁.heap.objs.size with
    | none => rfl
    | some o => exact absurd (Heap.lt_size (e₁.keep _ _ e)) (Nat.lt_irrefl _)
  refine ⟨_, (· ∈ [s₁.heap.objs.size]), rfl, hfr, fun b hb => ?_, e₁.trans ⟨hk, rfl, rfl⟩, fun X' hX' hw => ?_⟩
  · obtain rfl := List.mem_singleton.mp hb; exact ⟨_, Heap.get?_push_size _ rfl⟩
  have hn1 : ∀ b, X' b → X b ∨ s₁.heap.get? b = none := fun b hb => by
    rcases hX' b hb with h | h | h
    · exact .inl h
    · obtain rfl := List.mem_singleton.mp h; exact .inr (get?_size_none _)
    · refine .inr ?_
      cases e : s₁.heap.get? b with
      | none => rfl
      | some o => have := hk _ _ e; dsimp only at h; rw [this] at h; cases h
  have hXa' : ¬ X' a := fun hx => (hn1 a hx).elim hXa fun e => by obtain ⟨o, ho, _⟩ := hl; rw [e] at ho; cases ho
  refine ⟨_, Src.walks (Walks.list (prog := prog) (w := w) (A := A) hA.hh s₁.heap.objs.size a hne vs.toArray) (hb := s₁.heap.push { cls := .type "list_iterator", data := .fields #[.ref a, .int 0 0] }) (by simpa using rs.length.symm) ?_ (fun b hb => hw b hb) ?_ ?_ ?_, ⟨hI, hl.push _⟩, KeepX.refl _ _⟩
  · intro b hb hbw
    simp only [List.mem_cons, List.not_mem_nil, or_false] at hb hbw
    rcases hb with rfl | rfl
    · exact absurd rfl hbw
    · obtain ⟨o, ho, _⟩ := hl; exact ⟨hXa', o, hk _ _ ho⟩
  · intro i v d hP hd
    obtain ⟨u, hu, ru⟩ := ((rs.more hn1).keep hk).get i d hd
    have : vs.toArray[i]? = some v := hP
    rw [List.getElem?_toArray] at this
    rw [hu] at this; cases this; exact ru
  · intro i h st b hb
    obtain rfl := List.mem_singleton.mp hb
    obtain ⟨⟨o, ho, _⟩, _⟩ := st; exact ⟨o, ho⟩
  · intro i v s Q E st hq
    obtain ⟨⟨o, ho, hc, hd⟩, _⟩ := st
    exact go_plain ho hc hd (by decide) hq

/-- the signs of a text, each a text -/
noncomputable def signs (x : Str) : List PyData := x.cps.toList.map fun c => .str ⟨#[c]⟩
theorem it_str {target iter : Expr} {x : Str} (h : EV prog w K n sc ρ iter (.str x)) : IT prog w K n sc ρ target iter (signs x) := by
  intro A env X s hA hsc hS
  refine wpAny_mono (h A env X s hA hsc hS) (fun v s₁ h₁ => ?_) fun _ _ x => x.elim
  obtain ⟨t, rfl⟩ := h₁.2.of_str
  have e₁ := h₁.1
  have main : ∀ (ty : String) (hT : (["enumerate", "zip", "dict_itemiterator", "dict_reverseitemiterator", "odict_iterator", "itertools.zip_longest", "itertools.pairwise"] : List String).contains ty = false)
      (W : Walks prog w A s₁.heap.objs.size [s₁.heap.objs.size] [s₁.heap.objs.size] x.cps.size (SignAt x) (fun i h => h.IsStrIter s₁.heap.objs.size ty x t i)) (o : Obj)
      (hI : (s₁.heap.push o).IsStrIter s₁.heap.objs.size ty x t 0), ∃ I wr, Value.ref s₁.heap.objs.size = .ref I ∧ (∀ b, wr b → s.heap.get? b = none) ∧ Live wr (s₁.heap.push o) ∧ Ext s { s₁ with heap := s₁.heap.push o } ∧
      ∀ X' : Addr → Prop, (∀ b, X' b → X b ∨ wr b ∨ (s₁.heap.push o).get? b = none) → (∀ b, wr b → X' b) → ∃ Ps, Src prog w A target I X' wr (s₁.heap.push o) (signs x) Ps ∧ Ps 0 (s₁.heap.push o) := by
    intro ty hT W o hI
    refine ⟨_, (· ∈ [s₁.heap.objs.size]), rfl, fun b hb => ?_, fun b hb => ?_, e₁.trans ⟨Keep.push _ _, rfl, rfl⟩, fun X' hX' hw => ?_⟩
    · obtain rfl := List.mem_singleton.mp hb
      cases e : s.heap.get? s₁.heap.objs.size with
      | none => rfl
      | some o => exact absurd (Heap.lt_size (e₁.keep _ _ e)) (Nat.lt_irrefl _)
    · obtain rfl := List.mem_singleton.mp hb; obtain ⟨o, ho, _⟩ := hI; exact ⟨o, ho⟩
    refine ⟨_, Src.walks W (hb := s₁.heap.push o) (by simp [signs]) (fun b hb hbw => absurd hb hbw) (fun b hb => hw b hb) ?_ ?_ ?_, hI, KeepX.refl _ _⟩
    · intro i v d hP hd
      obtain ⟨c, t', hc, rfl⟩ := hP
      simp only [signs, List.getElem?_map, Array.getElem?_toList, hc, Option.map_some, Option.some.injEq] at hd
      subst hd; exact RX.str _ _
    · intro i h st b hb
      obtain rfl := List.mem_singleton.mp hb
      obtain ⟨o, ho, _⟩ := st; exact ⟨o, ho⟩
    · intro i v s Q E st hq
      obtain ⟨o, ho, hc, hd⟩ := st
      exact go_plain ho hc hd hT hq
  cases ha : x.cps.all (· < 128) with
  | true => exact wpAny_pyIter_ascii ha (main _ (by decide) (Walks.strAscii hA.hh _ x t) _ ⟨_, Heap.get?_push_size _ rfl, rfl, rfl⟩)
  | false => exact wpAny_pyIter_wide ha (main _ (by decide) (Walks.strWide hA.hh _ x t) _ ⟨_, Heap.get?_push_size _ rfl, rfl, rfl⟩)
end Mine

open PySem PySem.W PyProof.Rows PySem.Calls
namespace Mine

variable {prog : Program} {w : World} {K : Frag} {n : Nat} {sc : Scope} {ρ : Rho} {own : List Str} {A : Around}

/-- a call of a built-in class by name, its arguments ready -/
theorem call_type_args {A : Around} {env : Env} {X : Addr → Prop} {s : Shared} {x : Str} {T : String} {e : Expr} {es : List Expr} {p pos : Pos} {ds : List PyData} {Q : Value → Shared → Prop} (hA : AOk n A) (hS : St K env X ρ s)
    (hk : env.scope.names.lookup x = some .globalImplicit) (hmiss : nsIn K mainGlobals x = some none) (hb : bootBuiltins x = some (.type T)) (hs : EVs prog w K n env.scope ρ (e :: es) ds)
    (h : ∀ vs s₁, Ext s s₁ → RXs X s₁.heap vs ds → wpAny (model prog w) A (call (.type T) vs) Q (fun _ _ => False) s₁)
    (hd : autoParam ((x == ("__debug__" : Str)) = false) auK) (hn : x ≠ "__name__" := by decide +kernel)
    (he : autoParam (∀ env, starEach (e :: es) env = (false, eval e env) :: starEach es env) auK)
    (hplain : autoParam (∀ env, (backTo pos (starEach es env)).any (·.1) = false) auK) : wpAny (model prog w) A (eval (.Call (.Name x p) (e :: es) [] pos) env) Q (fun _ _ => False) s := by
  refine Call_ (glob_builtin hS hk hmiss hb hd hn ?_)
  have hev : wpAny (model prog w) A (spliced (backTo pos (starEach (e :: es) env))) (fun vs s₁ => wpAny (model prog w) A (call (.type T) vs) Q (fun _ _ => False) s₁) (fun _ _ => False) s :=
    wpAny_mono (hs A env X s pos hA rfl hS) (fun vs s₁ h₁ => h vs s₁ h₁.1 h₁.2) fun _ _ x => x.elim
  rw [he] at hev ⊢
  exact PySem.callWith_type (by show (false || (backTo pos (starEach es env)).any (·.1)) = false; rw [hplain]; rfl) (evalArgs_plain hev)

noncomputable def upto (N : Int) : List PyData := (List.range N.toNat).map fun (i : Nat) => .int (i : Int)
theorem it_range {target e : Expr} {p pos : Pos} {N : Int} (hk : sc.names.lookup (Str.ofString "range") = some .globalImplicit) (hmiss : nsIn K mainGlobals "range" = some none) (h : EV prog w K n sc ρ e (.int N))
    (hlo : -(2 ^ 62) ≤ N) (hhi : N < 2 ^ 62)
    (he : autoParam (∀ env, starEach [e] env = (false, eval e env) :: starEach [] env) auK) : IT prog w K n sc ρ target (.Call (.Name "range" p) [e] [] pos) (upto N) := by
  intro A env X s hA hsc hS
  subst hsc
  refine call_type_args hA hS hk hmiss boot_range (evs_cons h evs_nil he) (fun vs s₁ e₁ r₁ => ?_) (by decide +kernel) (by decide +kernel) he
  obtain ⟨v, vs', rfl, r1, rs⟩ := r₁.of_cons
  obtain rfl := rs.of_nil
  obtain ⟨t, rfl⟩ := r1.of_int
  refine call_range_1 ?_
  refine wpAny_pyIter_range (IsRange.new ..) (small_one (by decide) (by decide) hlo hhi) ?_
  have hsz : Builtin.Range.rangeSize 0 N 1 = (N.toNat : Int) := by rw [rangeSize_one]; split <;> lia
  have e₂ : Ext s₁ { s₁ with heap := (s₁.heap.push { cls := .type "range", data := .fields #[.int 0 s₁.toks, .int N t, .int 1 (s₁.toks + 1)] }).push { cls := .type "range_iterator", data := .fields #[rawInt 0, rawInt (Builtin.Range.rangeSize 0 N 1), rawInt 1] }, toks := s₁.toks + 1 + 1 } :=
    ⟨(Keep.push _ _).trans (Keep.push _ _), rfl, rfl⟩
  refine ⟨_, (· ∈ [(s₁.heap.push { cls := .type "range", data := .fields #[.int 0 s₁.toks, .int N t, .int 1 (s₁.toks + 1)] }).objs.size]), rfl, fun b hb => ?_, fun b hb => ?_, e₁.trans e₂, fun X' hX' hw => ?_⟩
  · obtain rfl := List.mem_singleton.mp hb
    cases e : s.heap.get? (s₁.heap.push { cls := .type "range", data := .fields #[.int 0 s₁.toks, .int N t, .int 1 (s₁.toks + 1)] }).objs.size with
    | none => rfl
    | some o => exact absurd (Heap.lt_size (Keep.push _ _ _ _ (e₁.keep _ _ e))) (Nat.lt_irrefl _)
  · obtain rfl := List.mem_singleton.mp hb; exact ⟨_, Heap.get?_push_size _ rfl⟩
  refine ⟨_, Src.walks (Walks.range (prog := prog) (w := w) (A := A) hA.hh _ 0 1 N.toNat) (by simp [upto]) (fun b hb hbw => absurd hb hbw) (fun b hb => hw b hb) ?_ ?_ ?_, ?_, KeepX.refl _ _⟩
  · intro i v d hP hd
    obtain ⟨t', rfl⟩ := hP
    simp only [upto, List.getElem?_map] at hd
    cases hr : (List.range N.toNat)[i]? with
    | none => rw [hr] at hd; cases hd
    | some j =>
      rw [hr] at hd
      have : j = i := by
        have := List.getElem?_eq_some_iff.mp hr
        obtain ⟨h1, h2⟩ := this
        simp at h2; exact h2.symm
      subst this
      simp only [Option.map_some, Option.some.injEq] at hd
      subst hd
      have : (0 + (j : Int) * 1) = (j : Int) := by lia
      rw [this]; exact RX.int _ _
  · intro i h st b hb
    obtain rfl := List.mem_singleton.mp hb
    exact ⟨_, st⟩
  · intro i v s Q E st hq
    exact go_plain st rfl rfl (by decide) hq
  · have e1 : (0 + ((0 : Nat) : Int) * 1) = 0 := by simp
    have e2 : ((N.toNat : Int) - ((0 : Nat) : Int)) = Builtin.Range.rangeSize 0 N 1 := by rw [hsz]; simp
    rw [e1, e2]
    exact Heap.get?_push_size _ rfl

theorem zipApart (N l1 l2 : Nat) (h1 : l1 < N) (h2 : l2 < N) : ZipApart (N + 4) (N + 2) (N + 3) N (N + 1) l1 l2 := by
  constructor <;> (show @Ne Nat _ _; lia)
theorem Src.walksT {A : Around} {ts : List Expr} {k : Nat} {tp : Pos} {I : Addr} {X : Addr → Prop} {fp wr : List Addr} {m : Nat} {xs ys : List Value} {St' : Nat → Heap → Prop} {Mid : Nat → Addr → Heap → Prop} {hb : Heap} {ds es : List PyData}
    (W : WalksT prog w A I fp wr m (fun i vals => ∃ x y, xs.toArray[i]? = some x ∧ ys.toArray[i]? = some y ∧ vals = #[x, y]) St' Mid) (hn : min ds.length es.length = m) (hfp : ∀ b ∈ fp, b ∉ wr → ¬ X b ∧ ∃ o, hb.get? b = some o) (hwr : ∀ b ∈ wr, X b)
    (r1 : RXs X hb xs ds) (r2 : RXs X hb ys es) (hlive : ∀ i h, St' i h → ∀ b ∈ wr, ∃ o, h.get? b = some o) :
    Src prog w A (.Tuple ts k tp) I X (· ∈ wr) hb (List.zipWith (fun x y => .tuple [x, y]) ds es) (fun i h => St' i h ∧ KeepX X hb h) where
  sub := hwr
  frame := fun i h h' st hk hw => ⟨W.frame i h h' st.1 fun b hb' o e => by
    by_cases hbw : b ∈ wr
    · exact hw b o hbw e
    · obtain ⟨hx, o', ho'⟩ := hfp b hb' hbw
      have := st.2 b o' ho' hx
      rw [e] at this; cases this
      exact hk b o ho' hx, hk⟩
  item := fun i d s Q E hd hlx st hQ => by
    rw [List.getElem?_zipWith] at hd
    cases h1 : ds[i]? with
    | none => rw [h1] at hd; cases hd
    | some d1 =>
    cases h2 : es[i]? with
    | none => rw [h1, h2] at hd; cases hd
    | some d2 =>
    rw [h1, h2] at hd
    cases hd
    have hi : i < m := by rw [← hn]; exact Nat.lt_min.mpr ⟨(List.getElem?_eq_some_iff.mp h1).1, (List.getElem?_eq_some_iff.mp h2).1⟩
    refine W.item i s _ _ hi st.1 fun T vals h₁ tk hP hT hIsT hM hk => ?_
    refine W.go ts k tp i T _ _ _ hM fun h₂ st₂ hk₂ => ?_
    have hkx : KeepX X hb h₂ := fun b o e hx => hk₂ b o (fun hb => hx (hwr b hb)) (hk b o (fun hb => hx (hwr b hb)) (st.2 b o e hx))
    obtain ⟨x, y, hx, hy, rfl⟩ := hP
    have hnx : ∀ b, newX X hb s.heap b → X b ∨ hb.get? b = none := fun b hb => hb.imp id fun h => h.1
    have kk : KeepX (newX X hb s.heap) hb h₂ := hkx.mono fun b hb => .inl hb
    obtain ⟨x', hx', rx⟩ := r1.get i d1 h1
    obtain ⟨y', hy', ry⟩ := r2.get i d2 h2
    rw [List.getElem?_toArray] at hx hy
    rw [hx'] at hx; cases hx
    rw [hy'] at hy; cases hy
    have hTX : ¬ newX X hb s.heap T := fun hx => by
      obtain ⟨o, ho⟩ := hx.elim (hlx T) fun h => h.2
      exact absurd (Heap.lt_size ho) (Nat.not_lt.mpr hT)
    refine hQ _ _ (.tuple (IsTuple.at' hIsT fun o e => hk₂ _ o (W.apart i T h₁ hM) e) hTX (.cons ((rx.more hnx).keepX kk) (.cons ((ry.more hnx).keepX kk) .nil))) ⟨st₂, hkx⟩ ⟨fun b o e hb => hk₂ _ o hb (hk _ o hb e), fun b o e => ?_, rfl, rfl⟩
    by_cases hb : b ∈ wr
    · exact hlive _ _ st₂ b hb
    · exact ⟨o, hk₂ _ o hb (hk _ o hb e)⟩
  done := fun s Q E st hQ => W.done s _ _ (by rw [← hn, ← List.length_zipWith (f := fun x y => PyData.tuple [x, y])]; exact st.1) fun h₁ tk hk => ⟨rfl, hQ _ (fun b o e hb => hk b o hb e) rfl rfl⟩
  self := fun i s Q E st h => W.self i s Q E st.1 h
theorem it_zip {ts : List Expr} {k : Nat} {tp : Pos} {a b : Expr} {p pos : Pos} {ds es : List PyData} (hk : sc.names.lookup (Str.ofString "zip") = some .globalImplicit) (hmiss : nsIn K mainGlobals "zip" = some none)
    (ha : EV prog w K n sc ρ a (.list ds)) (hb : EV prog w K n sc ρ b (.list es))
    (he1 : autoParam (∀ env, starEach [a, b] env = (false, eval a env) :: starEach [b] env) auK) (he2 : autoParam (∀ env, starEach [b] env = (false, eval b env) :: starEach [] env) auK)
    (hplain : autoParam (∀ env, (backTo pos (starEach [b] env)).any (·.1) = false) auK) :
    IT prog w K n sc ρ (.Tuple ts k tp) (.Call (.Name "zip" p) [a, b] [] pos) (List.zipWith (fun x y => .tuple [x, y]) ds es) := by
  intro A env X s hA hsc hS
  subst hsc
  refine call_type_args hA hS hk hmiss boot_zip (evs_cons ha (evs_cons hb evs_nil he2) he1) (fun vs s₁ e₁ r₁ => ?_) (by decide +kernel) (by decide +kernel) he1 hplain
  obtain ⟨v, vs', rfl, r1, rs⟩ := r₁.of_cons
  obtain ⟨u, vs', rfl, r2, rs⟩ := rs.of_cons
  obtain rfl := rs.of_nil
  obtain ⟨l1, xs, rfl, hl1', rs1, hX1⟩ := r1.of_list
  obtain ⟨l2, ys, rfl, hl2', rs2, hX2⟩ := r2.of_list
  have hl1 := hl1'.isList
  have hl2 := hl2'.isList
  have al1 : ∃ o, s₁.heap.get? l1 = some o := let ⟨o, ho, _⟩ := hl1; ⟨o, ho⟩
  have al2 : ∃ o, s₁.heap.get? l2 = some o := let ⟨o, ho, _⟩ := hl2; ⟨o, ho⟩
  refine call_zip_2 hl1 hl2 fun h' hz hTI hTO hi1 hi2 hsz hkp => ?_
  refine wpAny_pyIter_zip hz ?_
  have hf : ∀ k, s₁.heap.get? (s₁.heap.objs.size + k) = none := fun k => get?_ge_none _ (Nat.le_add_right _ _)
  have f0 : s₁.heap.get? s₁.heap.objs.size = none := get?_size_none _
  have f1 := hf 1
  have f2 := hf 2
  have f3 := hf 3
  have f4 := hf 4
  have W := (WalksT.zip2 (prog := prog) (w := w) (A := A) hA.hh _ _ _ _ _ l1 l2 (zipApart s₁.heap.objs.size l1 l2 (let ⟨_, ho⟩ := al1; Heap.lt_size ho) (let ⟨_, ho⟩ := al2; Heap.lt_size ho)) xs.toArray ys.toArray)
  have nTI : s₁.heap.objs.size + 2 ∉ [s₁.heap.objs.size + 4, s₁.heap.objs.size + 3, s₁.heap.objs.size, s₁.heap.objs.size + 1] := by simp
  generalize s₁.heap.objs.size + 4 = n4 at *
  generalize s₁.heap.objs.size + 3 = n3 at *
  generalize s₁.heap.objs.size + 2 = n2 at *
  generalize s₁.heap.objs.size + 1 = n1 at *
  generalize s₁.heap.objs.size = n0 at *
  have e₂ : Ext s₁ { s₁ with heap := h' } := ⟨fun b o e => hkp b o e, rfl, rfl⟩
  have memL : ∀ b, b ∈ [n4, n3, n0, n1] → b = n4 ∨ b = n3 ∨ b = n0 ∨ b = n1 := fun b hb => by simpa using hb
  have memF : ∀ b, b ∈ [n4, n2, n3, n0, n1, l1, l2] → b ∈ [n4, n3, n0, n1] ∨ b = n2 ∨ b = l1 ∨ b = l2 := fun b hb => by
    simp only [List.mem_cons, List.not_mem_nil, or_false] at hb ⊢
    rcases hb with h | h | h | h | h | h | h <;> simp [h]
  have hfr : ∀ b, b ∈ [n4, n3, n0, n1] → s₁.heap.get? b = none := fun b hb => by
    rcases memL b hb with rfl | rfl | rfl | rfl <;> assumption
  have hlv : ∀ i h, (IsZip h n4 n2 n3 .none ∧ IsPair h n2 (.ref n0) (.ref n1) ∧ (∃ a b, IsPair h n3 a b) ∧ h.IsListIter n0 l1 i ∧ h.IsListIter n1 l2 i ∧ h.IsList l1 xs.toArray ∧ h.IsList l2 ys.toArray) → ∀ b ∈ [n4, n3, n0, n1], ∃ o, h.get? b = some o := by
    rintro i h ⟨q1, _, ⟨_, _, q3⟩, ⟨_, q4, _⟩, ⟨_, q5, _⟩, _⟩ b hb
    rcases memL b hb with rfl | rfl | rfl | rfl
    · exact ⟨_, q1⟩
    · exact ⟨_, q3⟩
    · exact ⟨_, q4⟩
    · exact ⟨_, q5⟩
  have hst := (⟨hz, hTI, ⟨_, _, hTO⟩, hi1, hi2, hl1.at fun o e => hkp _ o e, hl2.at fun o e => hkp _ o e⟩ : IsZip h' n4 n2 n3 .none ∧ IsPair h' n2 (.ref n0) (.ref n1) ∧ (∃ a b, IsPair h' n3 a b) ∧ h'.IsListIter n0 l1 0 ∧ h'.IsListIter n1 l2 0 ∧ h'.IsList l1 xs.toArray ∧ h'.IsList l2 ys.toArray)
  have hTI' : ∃ o, h'.get? n2 = some o := ⟨_, hTI⟩
  clear hz hTI hTO hi1 hi2 hsz
  generalize [n4, n3, n0, n1] = L at *
  refine ⟨_, (· ∈ L), rfl, fun b hb => ?_, fun b hb => hlv _ _ hst b hb, e₁.trans e₂, fun X' hX' hw => ?_⟩
  · cases e : s.heap.get? b with
    | none => rfl
    | some o => have := e₁.keep _ _ e; rw [hfr b hb] at this; cases this
  have hn1 : ∀ b, X' b → X b ∨ s₁.heap.get? b = none := fun b hb => by
    rcases hX' b hb with h | h | h
    · exact .inl h
    · exact .inr (hfr b h)
    · refine .inr ?_
      cases e : s₁.heap.get? b with
      | none => rfl
      | some o => have := hkp _ _ e; dsimp only at h; rw [this] at h; cases h
  have liveNo : ∀ b, (∃ o, s₁.heap.get? b = some o) → ¬ X b → ¬ X' b := fun b ⟨o, e⟩ hx hx' => (hn1 b hx').elim hx fun e' => by rw [e'] at e; cases e
  have hTIX : ¬ X' n2 := fun hx => by
    rcases hX' _ hx with h | h | h
    · obtain ⟨o, ho⟩ := (hS.ext e₁).live _ h
      rw [f2] at ho; cases ho
    · exact nTI h
    · obtain ⟨o, ho⟩ := hTI'
      dsimp only at h; rw [ho] at h; cases h
  refine ⟨_, Src.walksT W (by rw [List.size_toArray, List.size_toArray, rs1.length, rs2.length]) (fun b hb hbw => ?_) (fun b hb => hw b hb) ((rs1.more hn1).keep e₂.keep) ((rs2.more hn1).keep e₂.keep) hlv, hst, KeepX.refl _ _⟩
  rcases memF b hb with h | rfl | rfl | rfl
  · exact absurd h hbw
  · exact ⟨hTIX, hTI'⟩
  · exact ⟨liveNo _ al1 hX1, let ⟨o, ho⟩ := al1; ⟨o, hkp _ _ ho⟩⟩
  · exact ⟨liveNo _ al2 hX2, let ⟨o, ho⟩ := al2; ⟨o, hkp _ _ ho⟩⟩
end Mine

open PySem PySem.W PyProof.Rows PySem.Calls
namespace Mine

variable {prog : Program} {w : World} {K : Frag} {n : Nat} {sc : Scope} {ρ : Rho} {own : List Str} {A : Around}

noncomputable def TI (prog : Program) (w : World) (K : Frag) (n : Nat) (sc : Scope) (ρ : Rho) (ifs : List Expr) (b : Bool) : Prop :=
  ∀ (A : Around) (env : Env) (X : Addr → Prop) (s : Shared), AOk n A → env.scope = sc → St K env X ρ s →
    wpAny (model prog w) A (forIn ifs true fun c r => if r = true then do let ok ← isTrue c env (eval c env); pure (ForInStep.yield ok) else pure (ForInStep.yield r)) (fun v s' => Ext s s' ∧ v = b) (fun _ _ => False) s
theorem ti_nil : TI prog w K n sc ρ [] true := fun A env X s hA hsc hS => wpAny_tests_nil ⟨Ext.refl _, rfl⟩
theorem ti_one {e : Expr} {b : Bool} (h : TE prog w K n sc ρ e b) : TI prog w K n sc ρ [e] b := fun A env X s hA hsc hS => wpAny_tests_one (h A env X s hA hsc hS)

noncomputable def turnTree (target iter : Expr) (ifs : List Expr) (it : Value) (env : Env) (inner : Sem Unit) (go : Sem PySem.Fin) : Sem PySem.Fin := do
  standAt iter.pos
  match ← pyNext it with
  | none => pure (.done .next)
  | some v =>
    letOwnedTupleGo target it v
    assign target env v
    let ok ← forIn ifs true fun c r => if r = true then do let ok ← isTrue c env (eval c env); pure (ForInStep.yield ok) else pure (ForInStep.yield r)
    if ok then inner
    go

/-- the innermost act of a comprehension: it lays ys behind what the list holds -/
noncomputable def CI (prog : Program) (w : World) (K : Frag) (n : Nat) (sc : Scope) (own : List Str) (ρ : Rho) (inner : Value → Env → Sem Unit) (ys : List PyData) : Prop :=
  ∀ (A : Around) (env : Env) (X Z : Addr → Prop) (s : Shared) (D : Addr) (vs : List Value), AOk n A → env.scope = sc → St K env X ρ s → Fm env own Z X s.heap → X D → D ≠ env.locals → (∀ x c, env.cells.lookup x = some c → c ≠ D) →
    ¬ Z D → s.heap.PlainList D vs.toArray → vs.length + ys.length ≤ sizeLine →
    wpAny (model prog w) A (inner (.ref D) env) (fun _ s' => ∃ us, RXs X s'.heap us ys ∧ s'.heap.PlainList D (vs ++ us).toArray ∧ St K env X ρ s' ∧ Fm env own Z X s'.heap ∧ Mv (fun b => Z b ∨ b = D) s s') (fun _ _ => False) s

theorem ci_emit {elt : Expr} {d : PyData} (h : EV prog w K n sc ρ elt d) : CI prog w K n sc own ρ (fun acc env => do let _ ← call (.builtin "list.append") [acc, ← eval elt env]) [d] := by
  intro A env X Z s D vs hA hsc hS hF hXD hDL hDc hDZ hl hsz
  show wpAny _ A (eval elt env >>= fun x => call (.builtin "list.append") [.ref D, x] >>= fun _ => pure ()) _ _ s
  refine wpAny_bind (wpAny_mono (h A env X s hA hsc hS) (fun v s₁ h₁ => ?_) fun _ _ x => x.elim)
  have hl₁ : s₁.heap.PlainList D vs.toArray := hl.at fun o e => h₁.1.keep _ o e
  refine wpAny_bind (wpAny_list_append_plain hl₁ (fun h' hl' hs' => wpAny_pure ?_) (by simp only [List.size_toArray, List.length_cons, List.length_nil] at hsz ⊢; lia))
  obtain ⟨o, ho⟩ := id hl₁
  obtain ⟨o', ho'⟩ := id hl'
  have mv : Mv (fun b => b = D) s₁ { s₁ with heap := h' } := Mv.at (tk := s₁.toks) hs' ho ho' rfl
  have hW : ∀ b, b = D → X b := fun b e => e ▸ hXD
  refine ⟨[v], .cons (h₁.2.keepX (mv.keep.mono hW)) .nil, by simpa using hl', (hS.ext h₁.1).move mv hW (fun e => hDL e.symm) (fun x c hx e => hDc x c hx e), (hF.ext h₁.1).move mv.keep (fun x c hx e => hDc x c hx e),
    (h₁.1.mv _).trans (mv.mono fun b e => .inr e)⟩

/-- the innermost act of a comprehension, one that may write V; what is known of V goes from P i to P (i + 1) -/
noncomputable def CIP (prog : Program) (w : World) (K : Frag) (n : Nat) (sc : Scope) (own : List Str) (V : Addr → Prop) (P : Nat → Heap → Prop) (i : Nat) (ρ : Rho) (inner : Value → Env → Sem Unit) (ys : List PyData) : Prop :=
  ∀ (A : Around) (env : Env) (X Z : Addr → Prop) (s : Shared) (D : Addr) (vs : List Value), AOk n A → env.scope = sc → St K env X ρ s → Fm env own Z X s.heap → X D → D ≠ env.locals → (∀ x c, env.cells.lookup x = some c → c ≠ D) →
    ¬ Z D → s.heap.PlainList D vs.toArray → vs.length + ys.length ≤ sizeLine → (∀ b, V b → X b ∧ ¬ Z b ∧ b ≠ D) → (∀ x c, env.cells.lookup x = some c → ¬ V c) → P i s.heap →
    wpAny (model prog w) A (inner (.ref D) env) (fun _ s' => ∃ us, RXs X s'.heap us ys ∧ s'.heap.PlainList D (vs ++ us).toArray ∧ St K env X ρ s' ∧ Fm env own Z X s'.heap ∧ Mv (fun b => Z b ∨ b = D ∨ V b) s s' ∧ P (i + 1) s'.heap) (fun _ _ => False) s
/-- P looks at V alone -/
noncomputable def Fr (V : Addr → Prop) (P : Nat → Heap → Prop) : Prop := ∀ i h h', P i h → (∀ b o, V b → h.get? b = some o → h'.get? b = some o) → P i h'

theorem CI.cip {i : Nat} {inner : Value → Env → Sem Unit} {ys : List PyData} (h : CI prog w K n sc own ρ inner ys) : CIP prog w K n sc own (fun _ => False) (fun _ _ => True) i ρ inner ys :=
  fun A env X Z s D vs a b c d e f g k l m _ _ _ => wpAny_mono (h A env X Z s D vs a b c d e f g k l m) (fun _ s' ⟨us, r1, r2, r3, r4, r5⟩ => ⟨us, r1, r2, r3, r4, r5.mono fun b hb => hb.imp id .inl, trivial⟩) fun _ _ x => x
/-- the loop of one clause -/
theorem comp_loopP {V : Addr → Prop} {P : Nat → Heap → Prop} {elt : Expr} {gens : List Comprehension} {scope : Scope} {pos : Pos} {k : Nat} {target iter : Expr} {ifs : List Expr} {I D : Addr} {env : Env} {X Z wr : Addr → Prop} {ds : List PyData} {Ps : Nat → Heap → Prop} {s : Shared} {hb : Heap}
    {vs : List Value} {f : PyData → List PyData} {inner : Value → Env → Sem Unit} {R : Result → Shared → Prop}
    (heq : compTurn (.ListComp elt gens scope pos) k (.ref I) (.ref D) env = turnTree target iter ifs (.ref I) env (inner (.ref D) env) (again (.compLoop (.ListComp elt gens scope pos) k (.ref I) (.ref D) env)))
    (hA : AOk n A) (hsc : env.scope = sc) (S : Src prog w A target I X wr hb ds Ps) (h0 : Ps 0 s.heap) (hbk : KeepX X hb s.heap) (hS : St K env X ρ s) (hF : Fm env own Z X s.heap) (hXD : X D) (hDL : D ≠ env.locals) (hDc : ∀ x c, env.cells.lookup x = some c → c ≠ D)
    (hwZ : ∀ b, wr b → ¬ Z b ∧ b ≠ D ∧ b ≠ env.locals) (hwc : ∀ x c, env.cells.lookup x = some c → ¬ wr c) (hDZ : ¬ Z D) (hVX : ∀ b, V b → X b) (hVZ : ∀ b, V b → ¬ Z b ∧ b ≠ D ∧ ¬ wr b) (hVc : ∀ x c, env.cells.lookup x = some c → ¬ V c) (hPf : Fr V P) (hP0 : P 0 s.heap) (hl : s.heap.PlainList D vs.toArray) (hsz : vs.length + (ds.flatMap f).length ≤ sizeLine)
    (turns : ∀ i d, ds[i]? = some d → ∃ ρd b, BD prog w K n sc own target d ρ ρd ∧ TI prog w K n sc ρd ifs b ∧ (b = true → CIP prog w K n sc own V P i ρd inner (f d)) ∧ (b = false → f d = [] ∧ ∀ h, P i h → P (i + 1) h) ∧ (∀ x d', ρ.lookup x = some d' → ρd.lookup x = some d'))
    (hR : ∀ s' us, RXs X s'.heap us (ds.flatMap f) → s'.heap.PlainList D (vs ++ us).toArray → (∀ Y : Addr → Prop, (∀ b, Y b → X b ∧ ¬ wr b) → St K env Y ρ s') → Fm env own Z X s'.heap →
      KeepX (fun b => Z b ∨ b = D ∨ wr b ∨ V b) s.heap s'.heap → P ds.length s'.heap → s'.gens = s.gens → s'.os = s.os → R (.ok .next) s') :
    codeAny (model prog w) A (.compLoop (.ListComp elt gens scope pos) k (.ref I) (.ref D) env) R s := by
  obtain ⟨J, hJ⟩ : ∃ J : Nat → Shared → Prop, ∀ m s', J m s' ↔ ∃ i us, m = ds.length + 1 - i ∧ i ≤ ds.length ∧ Ps i s'.heap ∧ St K env X ρ s' ∧ Fm env own Z X s'.heap ∧ RXs X s'.heap us ((ds.take i).flatMap f) ∧
    s'.heap.PlainList D (vs ++ us).toArray ∧ Mv (fun b => Z b ∨ b = D ∨ wr b ∨ V b) s s' ∧ P i s'.heap := ⟨_, fun _ _ => Iff.rfl⟩
  refine codeAny_loop (M := model prog w) (A := A) rfl J (fun m s' hI => ?_) (ds.length + 1)
    ((hJ _ _).mpr ⟨0, [], rfl, Nat.zero_le _, h0, hS, hF, by simpa using RXs.nil, by simpa using hl, Mv.refl _ _, hP0⟩)
  obtain ⟨i, us, rfl, hi, hP, hS', hF', hus, hl', hmv, hPi⟩ := (hJ _ _).mp hI
  have hZX : ∀ b, (Z b ∨ b = D ∨ wr b ∨ V b) → X b := fun b h => by
    rcases h with h | h | h | h
    · exact hF.sub b h
    · exact h ▸ hXD
    · exact S.sub b h
    · exact hVX b h
  show wpAny _ A ((compTurn (.ListComp elt gens scope pos) k (.ref I) (.ref D) env).onRaise (fun x => do noteFrame x env; theTreesLotGoes x)) _ _ s'
  refine wpAny_noted ?_
  rw [heq]
  unfold turnTree
  refine wpAny_bind (wpAny_standAt (wpAny_bind ?_))
  by_cases hlt : i < ds.length
  · have hd : ds[i]? = some ds[i] := by simp [hlt]
    refine wpAny_mono (S.item i ds[i] s' (fun v s₁ => RX X s₁.heap v ds[i] ∧ Ps (i + 1) s₁.heap ∧ Mv wr s' s₁) _ hd hS'.live hP fun v s₁ a b c => ⟨a.weaken fun b hb => .inl hb, b, c⟩) (fun r s₁ h₁ => ?_) fun _ _ x => x
    cases r with
    | none => exact h₁.elim
    | some v =>
      refine wpAny_bind (wpAny_mono h₁ (fun _ s₂ h₂ => ?_) fun _ _ x => x)
      obtain ⟨r₂, hP₂, mv₂⟩ := h₂
      have hwL : ¬ wr env.locals := fun hw => (hwZ _ hw).2.2 rfl
      have hS₂ := hS'.move mv₂ S.sub hwL hwc
      have hF₂ := hF'.move mv₂.keep hwc
      obtain ⟨ρd, b, hbd, hti, hci, hnil, hmore⟩ := turns i ds[i] hd
      refine wpAny_bind (wpAny_mono (hbd A env X Z s₂ v _ hA hsc hS₂ hF₂ r₂) (fun _ s₃ h₃ => ?_) fun _ _ x => x)
      obtain ⟨hS₃, hF₃, mv₃⟩ := h₃
      refine wpAny_bind (wpAny_mono (hti A env X s₃ hA hsc hS₃) (fun ok s₄ h₄ => ?_) fun _ _ x => x.elim)
      obtain ⟨e₄, rfl⟩ := h₄
      have hS₄ := hS₃.ext e₄
      have hF₄ := hF₃.ext e₄
      have mv₄ : Mv (fun b => Z b ∨ b = D ∨ wr b ∨ V b) s' s₄ := (mv₂.mono fun b h => .inr (.inr (.inl h))).trans ((mv₃.mono fun b h => .inl h).trans (e₄.mv _))
      have hP₄ : Ps (i + 1) s₄.heap := by
        refine S.frame (i + 1) s₂.heap s₄.heap hP₂ (hbk.trans (((hmv.trans mv₄).keep).mono hZX)) fun b o hb e => e₄.keep _ _ (mv₃.keep _ _ e (hwZ b hb).1)
      have hl₄ : s₄.heap.PlainList D (vs ++ us).toArray := by
        refine hl'.at fun o e => e₄.keep _ _ (mv₃.keep _ _ (mv₂.keep _ _ e fun hw => (hwZ _ hw).2.1 rfl) hDZ)
      have hus₄ : RXs X s₄.heap us ((ds.take i).flatMap f) := ((hus.keepX (mv₂.keep.mono S.sub)).keepX (mv₃.keep.mono hF₂.sub)).keep e₄.keep
      have htake : (ds.take (i + 1)).flatMap f = (ds.take i).flatMap f ++ f ds[i] := by
        rw [List.take_add_one, hd, List.flatMap_append]
        show _ ++ [ds[i]].flatMap f = _
        rw [List.flatMap_cons, List.flatMap_nil, List.append_nil]
      have hfit : (vs ++ us).length + (f ds[i]).length ≤ sizeLine := by
        have h1 := hus.length
        have h2 : ((ds.take (i + 1)).flatMap f).length ≤ (ds.flatMap f).length := by
          have : ds.flatMap f = (ds.take (i + 1)).flatMap f ++ (ds.drop (i + 1)).flatMap f := by rw [← List.flatMap_append, List.take_append_drop]
          rw [this, List.length_append]; lia
        rw [htake, List.length_append] at h2
        rw [List.length_append]; lia
      have hP₄' : P i s₄.heap := hPf i _ _ hPi fun b o hb e => e₄.keep _ _ (mv₃.keep _ _ (mv₂.keep _ _ e (hVZ b hb).2.2) (hVZ b hb).1)
      cases ok with
      | false =>
        refine wpAny_pure ⟨rfl, ds.length + 1 - (i + 1), turn_lt hlt, (hJ _ _).mpr ⟨i + 1, us, rfl, hlt, hP₄, hS₄.fewer hmore, hF₄, ?_, hl₄, hmv.trans mv₄, (hnil rfl).2 _ hP₄'⟩⟩
        rw [htake, (hnil rfl).1, List.append_nil]; exact hus₄
      | true =>
        show wpAny _ A (inner (.ref D) env >>= fun _ => again _) _ _ s₄
        refine wpAny_bind (wpAny_mono (hci rfl A env X Z s₄ D (vs ++ us) hA hsc hS₄ hF₄ hXD hDL hDc hDZ hl₄ hfit (fun b hb => ⟨hVX b hb, (hVZ b hb).1, (hVZ b hb).2.1⟩) hVc hP₄') (fun _ s₅ h₅ => ?_) fun _ _ x => x.elim)
        obtain ⟨us', r₅, hl₅, hS₅, hF₅, mv₅, hP₅⟩ := h₅
        have mv₅' : Mv (fun b => Z b ∨ b = D ∨ wr b ∨ V b) s₄ s₅ := mv₅.mono fun b h => h.elim .inl fun e => e.elim (fun e => .inr (.inl e)) fun e => .inr (.inr (.inr e))
        have hWX : ∀ b, (Z b ∨ b = D ∨ V b) → X b := fun b h => h.elim (hF.sub b) fun e => e.elim (fun e => e ▸ hXD) (hVX b)
        refine wpAny_pure ⟨rfl, ds.length + 1 - (i + 1), turn_lt hlt, (hJ _ _).mpr ⟨i + 1, us ++ us', rfl, hlt, ?_, hS₅.fewer hmore, hF₅, ?_, by simpa using hl₅, hmv.trans (mv₄.trans mv₅'), hP₅⟩⟩
        · exact S.frame _ _ _ hP₄ (hbk.trans (((hmv.trans (mv₄.trans mv₅')).keep).mono hZX)) fun b o hb e => mv₅.keep _ _ e fun h => h.elim (hwZ b hb).1 fun e => e.elim (hwZ b hb).2.1 fun e => (hVZ b e).2.2 hb
        · rw [htake]; exact (hus₄.keepX (mv₅.keep.mono hWX)).append r₅
  · have hin : i = ds.length := by lia
    subst hin
    refine wpAny_mono (S.done s' (fun s₁ => KeepX wr s'.heap s₁.heap ∧ s₁.gens = s'.gens ∧ s₁.os = s'.os) _ hP fun s₁ a b c => ⟨a, b, c⟩) (fun r s₁ h₁ => ?_) fun _ _ x => x
    obtain ⟨rfl, hk, hg, ho⟩ := h₁
    refine wpAny_pure ?_
    rw [List.take_length] at hus
    have hwL : ¬ wr env.locals := fun hw => (hwZ _ hw).2.2 rfl
    refine hR s₁ us (hus.keepX (hk.mono S.sub)) (hl'.at fun o e => hk _ _ e fun hw => (hwZ _ hw).2.1 rfl) (fun Y hY => hS'.drop hk S.sub hwL hwc hY) (hF'.move hk hwc) ?_ (hPf _ _ _ hPi fun b o hb e => hk _ _ e (hVZ b hb).2.2) (hg.trans hmv.gens) (ho.trans hmv.os)
    exact hmv.keep.trans (hk.mono fun b h => .inr (.inr (.inl h)))
/-- the loop of one clause -/
theorem comp_loop {elt : Expr} {gens : List Comprehension} {scope : Scope} {pos : Pos} {k : Nat} {target iter : Expr} {ifs : List Expr} {I D : Addr} {env : Env} {X Z wr : Addr → Prop} {ds : List PyData} {Ps : Nat → Heap → Prop} {s : Shared} {hb : Heap}
    {vs : List Value} {f : PyData → List PyData} {inner : Value → Env → Sem Unit} {R : Result → Shared → Prop}
    (heq : compTurn (.ListComp elt gens scope pos) k (.ref I) (.ref D) env = turnTree target iter ifs (.ref I) env (inner (.ref D) env) (again (.compLoop (.ListComp elt gens scope pos) k (.ref I) (.ref D) env)))
    (hA : AOk n A) (hsc : env.scope = sc) (S : Src prog w A target I X wr hb ds Ps) (h0 : Ps 0 s.heap) (hbk : KeepX X hb s.heap) (hS : St K env X ρ s) (hF : Fm env own Z X s.heap) (hXD : X D) (hDL : D ≠ env.locals) (hDc : ∀ x c, env.cells.lookup x = some c → c ≠ D)
    (hwZ : ∀ b, wr b → ¬ Z b ∧ b ≠ D ∧ b ≠ env.locals) (hwc : ∀ x c, env.cells.lookup x = some c → ¬ wr c) (hDZ : ¬ Z D) (hl : s.heap.PlainList D vs.toArray) (hsz : vs.length + (ds.flatMap f).length ≤ sizeLine)
    (turns : ∀ d ∈ ds, ∃ ρd b, BD prog w K n sc own target d ρ ρd ∧ TI prog w K n sc ρd ifs b ∧ (b = true → CI prog w K n sc own ρd inner (f d)) ∧ (b = false → f d = []) ∧ (∀ x d', ρ.lookup x = some d' → ρd.lookup x = some d'))
    (hR : ∀ s' us, RXs X s'.heap us (ds.flatMap f) → s'.heap.PlainList D (vs ++ us).toArray → (∀ Y : Addr → Prop, (∀ b, Y b → X b ∧ ¬ wr b) → St K env Y ρ s') → Fm env own Z X s'.heap →
      KeepX (fun b => Z b ∨ b = D ∨ wr b) s.heap s'.heap → s'.gens = s.gens → s'.os = s.os → R (.ok .next) s') :
    codeAny (model prog w) A (.compLoop (.ListComp elt gens scope pos) k (.ref I) (.ref D) env) R s := by
  refine comp_loopP (V := fun _ => False) (P := fun _ _ => True) heq hA hsc S h0 hbk hS hF hXD hDL hDc hwZ hwc hDZ (fun _ h => h.elim) (fun _ h => h.elim) (fun _ _ _ h => h) (fun _ _ _ _ _ => trivial) trivial hl hsz (fun i d hd => ?_) fun s' us r₁ r₂ r₃ r₄ r₅ _ r₆ r₇ => hR s' us r₁ r₂ r₃ r₄ (r₅.mono fun b hb => hb.imp id fun hb => hb.imp id fun hb => hb.elim id fun h => h.elim) r₆ r₇
  obtain ⟨ρd, b, h1, h2, h3, h4, h5⟩ := turns d (List.mem_of_getElem? hd)
  exact ⟨ρd, b, h1, h2, fun hb => (h3 hb).cip, fun hb => ⟨h4 hb, fun _ _ => trivial⟩, h5⟩
end Mine

open PySem PySem.W PyProof.Rows PySem.Calls
namespace Mine

variable {prog : Program} {w : World} {K : Frag} {n : Nat} {sc : Scope} {ρ : Rho} {own : List Str} {A : Around}

noncomputable def emitT (elt : Expr) (acc : Value) (env : Env) : Sem Unit := do let _ ← call (.builtin "list.append") [acc, ← eval elt env]
noncomputable def nestT (e : Expr) (k : Nat) (iter : Expr) (acc : Value) (env : Env) : Sem Unit := do
  let x ← eval iter env
  standAt iter.pos
  let x ← foldedSetIterable iter env x
  let _ ← runOwn (.compStart e k (← holding [x] (pyIter x)) acc env) env
theorem turn_one (elt target iter : Expr) (ifs : List Expr) (scope : Scope) (pos : Pos) (it acc : Value) (env : Env) :
    compTurn (.ListComp elt [⟨target, iter, ifs, 0⟩] scope pos) 0 it acc env = turnTree target iter ifs it env (emitT elt acc env) (again (.compLoop (.ListComp elt [⟨target, iter, ifs, 0⟩] scope pos) 0 it acc env)) := by rfl
theorem turn_two0 (elt target iter target' iter' : Expr) (ifs ifs' : List Expr) (scope : Scope) (pos : Pos) (it acc : Value) (env : Env) :
    compTurn (.ListComp elt [⟨target, iter, ifs, 0⟩, ⟨target', iter', ifs', 0⟩] scope pos) 0 it acc env =
      turnTree target iter ifs it env (nestT (.ListComp elt [⟨target, iter, ifs, 0⟩, ⟨target', iter', ifs', 0⟩] scope pos) 1 iter' acc env) (again (.compLoop (.ListComp elt [⟨target, iter, ifs, 0⟩, ⟨target', iter', ifs', 0⟩] scope pos) 0 it acc env)) := by
  have e : compTurn (.ListComp elt [⟨target, iter, ifs, 0⟩, ⟨target', iter', ifs', 0⟩] scope pos) 0 it acc env = (do
      standAt iter.pos
      match ← pyNext it with
      | none => pure (.done .next)
      | some v =>
        letOwnedTupleGo target it v
        assign target env v
        let ok ← forIn ifs true fun c r => if r = true then do let ok ← isTrue c env (eval c env); pure (ForInStep.yield ok) else pure (ForInStep.yield r)
        if ok then
          let x ← eval iter' env
          standAt iter'.pos
          let x ← foldedSetIterable iter' env x
          let _ ← runOwn (.compStart (.ListComp elt [⟨target, iter, ifs, 0⟩, ⟨target', iter', ifs', 0⟩] scope pos) 1 (← holding [x] (pyIter x)) acc env) env
          again (.compLoop (.ListComp elt [⟨target, iter, ifs, 0⟩, ⟨target', iter', ifs', 0⟩] scope pos) 0 it acc env)
        else again (.compLoop (.ListComp elt [⟨target, iter, ifs, 0⟩, ⟨target', iter', ifs', 0⟩] scope pos) 0 it acc env)) := by rfl
  rw [e]
  unfold turnTree nestT
  simp only [bind_assoc]
  rfl
theorem turn_two1 (elt target iter : Expr) (ifs : List Expr) (g : Comprehension) (scope : Scope) (pos : Pos) (it acc : Value) (env : Env) :
    compTurn (.ListComp elt [g, ⟨target, iter, ifs, 0⟩] scope pos) 1 it acc env = turnTree target iter ifs it env (emitT elt acc env) (again (.compLoop (.ListComp elt [g, ⟨target, iter, ifs, 0⟩] scope pos) 1 it acc env)) := by rfl

theorem comp_start {elt : Expr} {gens : List Comprehension} {scope : Scope} {pos : Pos} {k : Nat} {I : Addr} {acc : Value} {env : Env} {R : Result → Shared → Prop} {s : Shared} {g : Comprehension} (hg : gens[k]? = some g) (ha : g.is_async = 0)
    (h : codeAny (model prog w) A (.compLoop (.ListComp elt gens scope pos) k (.ref I) acc env) R s)
    (hself : ∀ (Q : Value → Shared → Prop) (E : Value → Shared → Prop), Q (.ref I) s → wpAny (model prog w) A (pyIter (.ref I)) Q E s) :
    codeAny (model prog w) A (.compStart (.ListComp elt gens scope pos) k (.ref I) acc env) R s := by
  refine codeAny_of_tree ?_
  show wpAny _ A ((compStart (.ListComp elt gens scope pos) k (.ref I) acc env).onRaise (fun x => do noteFrame x env; standAt theWindowsPlace)) _ _ s
  refine wpAny_notedAt ?_
  unfold compStart
  simp only [clausesOf, hg, Option.elim_some, ha, bne_self_eq_false, Bool.false_eq_true, if_false]
  refine wpAny_bind (wpAny_askSetting (wpAny_ite ?_))
  split
  · exact wpAny_bind (wpAny_pure (wpAny_pure (And.intro rfl h)))
  · exact wpAny_bind (wpAny_rule (wpAny_bind (wpAny_standAt (wpAny_bind (hself _ _ (wpAny_pure (And.intro rfl h)))))))

theorem ci_emit' {elt : Expr} {d : PyData} (h : EV prog w K n sc ρ elt d) : CI prog w K n sc own ρ (emitT elt) [d] := ci_emit h

/-- the second clause of two -/
theorem ci_nest {elt : Expr} {g : Comprehension} {scope : Scope} {pos : Pos} {target iter : Expr} {ifs : List Expr} {ds : List PyData} {f : PyData → List PyData} (hit : IT prog w K n sc ρ target iter ds)
    (turns : ∀ d ∈ ds, ∃ ρd b, BD prog w K n sc own target d ρ ρd ∧ TI prog w K n sc ρd ifs b ∧ (b = true → CI prog w K n sc own ρd (emitT elt) (f d)) ∧ (b = false → f d = []) ∧ (∀ x d', ρ.lookup x = some d' → ρd.lookup x = some d'))
    (hs : autoParam (∀ env x, foldedSetIterable iter env x = pure x) auK) :
    CI prog w K n sc own ρ (nestT (.ListComp elt [g, ⟨target, iter, ifs, 0⟩] scope pos) 1 iter) (ds.flatMap f) := by
  intro A env X Z s D vs hA hsc hS hF hXD hDL hDc hDZ hl hsz
  unfold nestT
  refine wpAny_bind (wpAny_mono (hit A env X s hA hsc hS) (fun x s₁ h₁ => ?_) fun _ _ x => x.elim)
  refine wpAny_bind (wpAny_standAt (wpAny_bind (wpAny_of_eq (hs env x) (wpAny_bind (wpAny_holding (wpAny_mono h₁ (fun it s₂ h₂ => ?_) fun _ _ x => x.elim))))))
  obtain ⟨I, wr, rfl, hfr, hlw, e₂, hsrc⟩ := h₂
  have hS₂ := hS.ext e₂
  have hF₂ := hF.ext e₂
  obtain ⟨Ps, S, hP⟩ := hsrc (fun b => X b ∨ wr b) (fun b h => h.elim .inl fun h => .inr (.inl h)) (fun b h => .inr h)
  have noX : ∀ b, wr b → ¬ X b := fun b hb hx => by obtain ⟨o, ho⟩ := hS.live b hx; rw [hfr b hb] at ho; cases ho
  have noc : ∀ x c, env.cells.lookup x = some c → ¬ wr c := fun x c hx hb => by obtain ⟨o, ho⟩ := hS.cells x c hx; rw [hfr c hb] at ho; cases ho
  have noL : ∀ b, wr b → b ≠ env.locals := fun b hb e => by obtain ⟨m, ⟨o, es, ep, ho, _⟩, _⟩ := hS.vars; rw [e] at hb; rw [hfr _ hb] at ho; cases ho
  have hS₂' : St K env (fun b => X b ∨ wr b) ρ s₂ := by
    have hv : ∀ b, (X b ∨ wr b) → X b ∨ s.heap.get? b = none := fun b h => h.elim .inl fun h => .inr (hfr b h)
    obtain ⟨m, hn, hv'⟩ := hS.vars
    exact ⟨(hS.gf.more hv).keep e₂.keep, fun b h => h.elim (fun h => hS₂.live b h) (hlw b), ⟨m, hn.keeps e₂.keep, fun x d hx => let ⟨v, r, q⟩ := hv' x d hx; ⟨v, (r.more hv).keep e₂.keep, q.keep e₂.keep⟩⟩, hS.kind, hS.glob, hS.blt, hS₂.cells⟩
  have hF₂' : Fm env own Z (fun b => X b ∨ wr b) s₂.heap := ⟨hF₂.loc, hF₂.cel, hF₂.apart, fun b h => .inl (hF₂.sub b h)⟩
  refine wpAny_bind (wpAny_runOwn (comp_start (g := ⟨target, iter, ifs, 0⟩) rfl rfl ?_ fun Q E hq => S.self 0 s₂ Q E hP hq))
  refine comp_loop (turn_two1 elt target iter ifs g scope pos (.ref I) (.ref D) env) hA hsc S hP (KeepX.refl _ _) hS₂' hF₂' (.inl hXD) hDL hDc (fun b hb => ⟨fun hz => noX b hb (hF.sub b hz), fun e => noX b hb (e ▸ hXD), noL b hb⟩) noc hDZ
    (hl.at fun o e => e₂.keep _ _ e) hsz turns fun s' us r₁ r₂ r₃ r₄ r₅ r₆ r₇ => wpAny_pure ?_
  refine ⟨us, r₁.weaken fun b h => .inl h, r₂, r₃ X fun b h => ⟨.inl h, fun hb => noX b hb h⟩, ⟨r₄.loc, r₄.cel, r₄.apart, hF.sub⟩, ?_⟩
  have hlive' : Live X s'.heap := (r₃ X fun b h => ⟨.inl h, fun hb => noX b hb h⟩).live
  refine ⟨fun b o e hb => r₅ _ _ (e₂.keep _ _ e) fun h => ?_, fun b o e => ?_, r₆.trans e₂.gens, r₇.trans e₂.os⟩
  · rcases h with h | h | h
    · exact hb (.inl h)
    · exact hb (.inr h)
    · rw [hfr b h] at e; cases e
  · by_cases hx : X b
    · exact hlive' b hx
    · refine ⟨o, r₅ _ _ (e₂.keep _ _ e) fun h => ?_⟩
      rcases h with h | h | h
      · exact hx (hF.sub b h)
      · exact hx (h ▸ hXD)
      · rw [hfr b h] at e; cases e
end Mine

open PySem PySem.W PyProof.Rows PySem.Calls
namespace Mine

variable {prog : Program} {w : World} {K : Frag} {n : Nat} {sc : Scope} {ρ : Rho} {own : List Str} {A : Around}

/-- the cells of a new frame -/
structure CellsNew (h h' : Heap) (names : List (Str × NameKind)) (acc cs : List (Str × Addr)) : Prop where
  keep : Keep h h'
  apart : ∀ p ∈ cs, ∀ q ∈ cs, p.2 = q.2 → h.get? p.2 = none → q.1 = p.1
  mem : ∀ p ∈ cs, p ∈ acc ∨ (h.get? p.2 = none ∧ h'.IsCell p.2 none ∧ (p.1, NameKind.cell) ∈ names)
  old : ∀ x, (x, NameKind.cell) ∉ names → cs.lookup x = acc.lookup x
  new : ∀ x, (x, NameKind.cell) ∈ names → ∃ c, cs.lookup x = some c ∧ h'.IsCell c none ∧ h.get? c = none
theorem cells_new : ∀ (names : List (Str × NameKind)) (h : Heap) (acc : List (Str × Addr)), (∀ p ∈ acc, ∃ o, h.get? p.2 = some o) →
    CellsNew h (pushCells h names) names acc (cellsFrom h.objs.size names acc)
  | [], h, acc, hl => ⟨Keep.refl _, fun p hp q hq e hn => (by obtain ⟨o, ho⟩ := hl p hp; rw [hn] at ho; cases ho), fun p hp => .inl hp, fun _ _ => rfl, fun _ hx => absurd hx List.not_mem_nil⟩
  | (name, kind) :: r, h, acc, hl => by
    unfold pushCells cellsFrom
    by_cases hk : kind = .cell
    · subst hk
      simp only [beq_self_eq_true, if_true]
      have kp : Keep h (h.push { cls := .type "cell", data := .cell none }) := Keep.push _ _
      have hnew : (h.push { cls := .type "cell", data := .cell none }).IsCell h.objs.size none := ⟨_, Heap.get?_push_size _ rfl, rfl⟩
      have ih := cells_new r (h.push { cls := .type "cell", data := .cell none }) ((name, h.objs.size) :: acc)
        (fun p hp => by
          rcases List.mem_cons.mp hp with rfl | hp
          · obtain ⟨o, ho, _⟩ := hnew; exact ⟨o, ho⟩
          · obtain ⟨o, ho⟩ := hl p hp; exact ⟨o, kp _ _ ho⟩)
      rw [Heap.size_push] at ih
      refine ⟨kp.trans ih.keep, fun p hp q hq e hn => ?_, fun p hp => ?_, fun x hx => ?_, fun x hx => ?_⟩
      · rcases ih.mem p hp with h1 | ⟨h1, h2, h3⟩
        · rcases List.mem_cons.mp h1 with rfl | h1
          · rcases ih.mem q hq with h4 | ⟨h4, _⟩
            · rcases List.mem_cons.mp h4 with rfl | h4
              · rfl
              · obtain ⟨o, ho⟩ := hl q h4
                rw [← e] at ho; exact absurd (Heap.lt_size ho) (Nat.lt_irrefl _)
            · rw [← e] at h4
              obtain ⟨o, ho, _⟩ := hnew
              rw [ho] at h4; cases h4
          · obtain ⟨o, ho⟩ := hl p h1; rw [hn] at ho; cases ho
        · exact ih.apart p hp q hq e h1
      · rcases ih.mem p hp with h1 | ⟨h1, h2, h3⟩
        · rcases List.mem_cons.mp h1 with rfl | h1
          · exact .inr ⟨get?_size_none _, hnew.keeps ih.keep, List.mem_cons_self⟩
          · exact .inl h1
        · refine .inr ⟨?_, h2, List.mem_cons_of_mem _ h3⟩
          cases e : h.get? p.2 with
          | none => rfl
          | some o => rw [kp _ _ e] at h1; cases h1
      · have h1 := ih.old x fun hm => hx (List.mem_cons_of_mem _ hm)
        rw [h1, List.lookup_cons]
        have : (x == name) = false := beq_eq_false_iff_ne.mpr fun e => hx (e ▸ List.mem_cons_self)
        rw [this]
      · by_cases hr : (x, NameKind.cell) ∈ r
        · obtain ⟨c, h1, h2, h3⟩ := ih.new x hr
          refine ⟨c, h1, h2, ?_⟩
          cases e : h.get? c with
          | none => rfl
          | some o => rw [kp _ _ e] at h3; cases h3
        · have hxn : x = name := by
            rcases List.mem_cons.mp hx with e | e
            · exact (Prod.mk.inj e).1
            · exact absurd e hr
          subst hxn
          refine ⟨h.objs.size, ?_, hnew.keeps ih.keep, get?_size_none _⟩
          rw [ih.old x hr]; simp [List.lookup_cons]
    · have hb : (kind == NameKind.cell) = false := by simpa using hk
      simp only [hb, Bool.false_eq_true, if_false]
      have ih := cells_new r h acc hl
      have hmem : ∀ x, (x, NameKind.cell) ∈ (name, kind) :: r ↔ (x, NameKind.cell) ∈ r := fun x => by
        constructor
        · intro hx
          rcases List.mem_cons.mp hx with e | e
          · exact absurd (Prod.mk.inj e).2.symm hk
          · exact e
        · exact List.mem_cons_of_mem _
      exact ⟨ih.keep, ih.apart, fun p hp => (ih.mem p hp).imp id fun ⟨a, b, c⟩ => ⟨a, b, (hmem _).mpr c⟩, fun x hx => ih.old x fun h => hx ((hmem x).mpr h), fun x hx => ih.new x ((hmem x).mp hx)⟩

/-- the free names of a comprehension, read in the frame around it -/
inductive FR (ρ : Rho) : List (Str × NameKind) → Rho → Prop
  | nil : FR ρ [] []
  | free {x d names ρc} : ρ.lookup x = some d → FR ρ names ρc → FR ρ ((x, .free) :: names) ((x, d) :: ρc)
  | skip {x k names ρc} : k ≠ .free → FR ρ names ρc → FR ρ ((x, k) :: names) ρc
theorem FR.sub {names : List (Str × NameKind)} {ρc : Rho} (h : FR ρ names ρc) : ∀ x d, ρc.lookup x = some d → ρ.lookup x = some d ∧ (x, NameKind.free) ∈ names := by
  induction h with
  | nil => intro x d e; simp at e
  | free hx _ ih =>
    intro y d e
    rcases lookup_cons_of e with ⟨rfl, rfl⟩ | ⟨_, e⟩
    · exact ⟨hx, List.mem_cons_self⟩
    · exact ⟨(ih y d e).1, List.mem_cons_of_mem _ (ih y d e).2⟩
  | skip _ _ ih => intro y d e; exact ⟨(ih y d e).1, List.mem_cons_of_mem _ (ih y d e).2⟩
theorem FR.all {names : List (Str × NameKind)} {ρc : Rho} (h : FR ρ names ρc) : ∀ x, (x, NameKind.free) ∈ names → ∃ d, ρ.lookup x = some d := by
  induction h with
  | nil => intro x e; cases e
  | free hx _ ih =>
    intro y e
    rcases List.mem_cons.mp e with e | e
    · obtain rfl := (Prod.mk.inj e).1; exact ⟨_, hx⟩
    · exact ih y e
  | skip hk _ ih =>
    intro y e
    rcases List.mem_cons.mp e with e | e
    · exact absurd (Prod.mk.inj e).2.symm hk
    · exact ih y e

noncomputable def closGo (env : Env) : List (Str × NameKind) → List (Str × Addr) → List (Str × Addr)
  | [], acc => acc
  | (x, k) :: r, acc => if k == .free then closGo env r ((x, (env.cells.lookup x).getD 0) :: acc) else closGo env r acc
theorem clos_eq (env : Env) : ∀ (names : List (Str × NameKind)) (acc : List (Str × Addr)), (∀ x, (x, NameKind.free) ∈ names → ∃ c, env.cells.lookup x = some c) →
    (forIn names acc (fun (p : Str × NameKind) (r : List (Str × Addr)) => do
      if (p.2 == NameKind.free) = true then do
        let c ← cellOf env p.1
        pure (ForInStep.yield ((p.1, c) :: r))
      else pure (ForInStep.yield r) : Str × NameKind → List (Str × Addr) → Sem (ForInStep (List (Str × Addr)))) : Sem (List (Str × Addr))) = pure (closGo env names acc)
  | [], acc, _ => rfl
  | (x, k) :: r, acc, h => by
    rw [List.forIn_cons]
    unfold closGo
    by_cases hk : k = .free
    · subst hk
      obtain ⟨c, hc⟩ := h x List.mem_cons_self
      have ih := clos_eq env r ((x, (env.cells.lookup x).getD 0) :: acc) fun y hy => h y (List.mem_cons_of_mem _ hy)
      simp only [beq_self_eq_true, if_true, cellOf, hc, Option.getD_some, pure_bind] at ih ⊢
      exact ih
    · have hb : (k == NameKind.free) = false := by simpa using hk
      simp only [hb, Bool.false_eq_true, if_false, pure_bind]
      exact clos_eq env r acc fun y hy => h y (List.mem_cons_of_mem _ hy)
theorem closureFor_eq {env : Env} {scope : Scope} (h : ∀ x, (x, NameKind.free) ∈ scope.names → ∃ c, env.cells.lookup x = some c) : closureFor scope env = pure (closGo env scope.names []) := by
  unfold closureFor
  have := clos_eq env scope.names [] h
  simp only [bind_pure] at this ⊢
  rw [← this]
theorem clos_lookup (env : Env) : ∀ (names : List (Str × NameKind)) (acc : List (Str × Addr)), (∀ x, (x, NameKind.free) ∈ names → ∃ c, env.cells.lookup x = some c) → (∀ p ∈ acc, env.cells.lookup p.1 = some p.2) →
    (∀ p ∈ closGo env names acc, env.cells.lookup p.1 = some p.2) ∧ (∀ x, (x, NameKind.free) ∈ names → (x ∈ (closGo env names acc).map (·.1))) ∧ (∀ p ∈ acc, p ∈ closGo env names acc)
  | [], acc, h, ha => ⟨ha, fun _ hx => absurd hx List.not_mem_nil, fun _ hp => hp⟩
  | (x, k) :: r, acc, h, ha => by
    unfold closGo
    by_cases hk : k = .free
    · subst hk
      obtain ⟨c, hc⟩ := h x List.mem_cons_self
      simp only [beq_self_eq_true, if_true, hc, Option.getD_some]
      obtain ⟨i1, i2, i3⟩ := clos_lookup env r ((x, c) :: acc) (fun y hy => h y (List.mem_cons_of_mem _ hy)) (fun p hp => by
        rcases List.mem_cons.mp hp with rfl | hp
        · exact hc
        · exact ha p hp)
      refine ⟨i1, fun y hy => ?_, fun p hp => i3 p (List.mem_cons_of_mem _ hp)⟩
      rcases List.mem_cons.mp hy with e | e
      · obtain rfl := (Prod.mk.inj e).1
        exact List.mem_map.mpr ⟨_, i3 _ List.mem_cons_self, rfl⟩
      · exact i2 y e
    · have hb : (k == NameKind.free) = false := by simpa using hk
      simp only [hb, Bool.false_eq_true, if_false]
      obtain ⟨i1, i2, i3⟩ := clos_lookup env r acc (fun y hy => h y (List.mem_cons_of_mem _ hy)) ha
      refine ⟨i1, fun y hy => ?_, i3⟩
      rcases List.mem_cons.mp hy with e | e
      · exact absurd (Prod.mk.inj e).2.symm hk
      · exact i2 y e
end Mine

open PySem PySem.W PyProof.Rows PySem.Calls
namespace Mine

variable {prog : Program} {w : World} {K : Frag} {n : Nat} {sc : Scope} {ρ : Rho} {own : List Str} {A : Around}

noncomputable def relabelS (scope sc : Scope) : Scope :=
  { scope with names := scope.names.map fun (n, k) => if (k == .free && sc.kind == .function && sc.names.lookup n == some .cell) then (n, .cell) else (n, k) }
noncomputable def cellNames (scope : Scope) : List Str := (scope.names.filter fun p => p.2 == .cell).map (·.1)
theorem mem_cellNames {scope : Scope} {x : Str} : x ∈ cellNames scope ↔ (x, NameKind.cell) ∈ scope.names := by
  simp only [cellNames, List.mem_map, List.mem_filter, beq_iff_eq]
  constructor
  · rintro ⟨⟨y, k⟩, ⟨h1, h2⟩, rfl⟩; simp only at h2; subst h2; exact h1
  · intro h; exact ⟨(x, .cell), ⟨h, rfl⟩, rfl⟩

theorem newCompEnv {M : Model} {E : Value → Shared → Prop} {s : Shared} {scope : Scope} {env : Env} {cl : List (Str × Addr)} {Q : Env → Shared → Prop}
    (h : Q { scope := scope, locals := s.heap.objs.size, globals := env.globals, cells := cellsFrom (s.heap.push { cls := .type "dict", data := .dict #[] }).objs.size scope.names cl, qual := env.qual, func := none, code := env.code, frame := env.frame, builtins := env.builtins }
      { s with heap := pushCells (s.heap.push { cls := .type "dict", data := .dict #[] }) scope.names }) :
    wpAny M A (newFunctionEnv scope env.globals cl [] env.qual none .none (some env)) Q E s := by
  simp only [newFunctionEnv, Option.isSome_some, if_true]
  refine wpAny_bind (wpAny_alloc ?_)
  refine wpAny_bind (wpAny_layCells _ (fun name kind cells => by cases hkc : kind == NameKind.cell <;> simp [hkc]) _ _ _ _ ?_)
  rw [List.forIn_nil]
  exact wpAny_bind (wpAny_pure (wpAny_pure h))

noncomputable def compOk (scope sc : Scope) : Bool := scope.kind == .function && scope.names.all (fun p => scope.names.lookup p.1 == some p.2) &&
  scope.names.all (fun p => p.2 != .free || sc.names.lookup p.1 == some .cell || sc.names.lookup p.1 == some .free)
theorem compOk.kind {scope sc : Scope} (h : compOk scope sc = true) : scope.kind = .function := by
  simp only [compOk, Bool.and_eq_true, beq_iff_eq] at h; exact h.1.1
theorem compOk.look {scope sc : Scope} (h : compOk scope sc = true) {x : Str} {k : NameKind} (hx : (x, k) ∈ scope.names) : scope.names.lookup x = some k := by
  simp only [compOk, Bool.and_eq_true, List.all_eq_true, beq_iff_eq] at h; exact h.1.2 _ hx
theorem compOk.free {scope sc : Scope} (h : compOk scope sc = true) {x : Str} (hx : (x, NameKind.free) ∈ scope.names) : sc.names.lookup x = some .cell ∨ sc.names.lookup x = some .free := by
  simp only [compOk, Bool.and_eq_true, List.all_eq_true, Bool.or_eq_true, beq_iff_eq, bne_iff_ne] at h
  have := h.2 _ hx
  simpa using this
theorem lookup_map_kind (g : Str → NameKind → NameKind) : ∀ (l : List (Str × NameKind)) (x : Str), (l.map fun p => (p.1, g p.1 p.2)).lookup x = (l.lookup x).map (g x)
  | [], x => rfl
  | (y, k) :: r, x => by
    simp only [List.map_cons, List.lookup_cons]
    cases h : x == y with
    | true => obtain rfl := beq_iff_eq.mp h; rfl
    | false => exact lookup_map_kind g r x
theorem relabel_lookup (scope sc : Scope) (x : Str) : (relabelS scope sc).names.lookup x = (scope.names.lookup x).map fun k => if (k == .free && sc.kind == .function && sc.names.lookup x == some .cell) then .cell else k := by
  rw [← lookup_map_kind (fun x k => if (k == .free && sc.kind == .function && sc.names.lookup x == some .cell) then .cell else k)]
  unfold relabelS
  congr 1
  apply List.map_congr_left
  intro p _
  obtain ⟨y, k⟩ := p
  dsimp only
  split <;> rfl
theorem lookup_of_mem_fst {l : List (Str × Addr)} {x : Str} (h : x ∈ l.map (·.1)) : ∃ c, l.lookup x = some c := by
  induction l with
  | nil => simp at h
  | cons p r ih =>
    obtain ⟨y, c⟩ := p
    rw [List.lookup_cons]
    cases hb : x == y with
    | true => exact ⟨c, rfl⟩
    | false =>
      refine ih ?_
      simp only [List.map_cons, List.mem_cons] at h
      exact h.resolve_left (beq_eq_false_iff_ne.mp hb)

/-- what stands when a comprehension that writes V has run -/
noncomputable def CompRanP (V : Addr → Prop) (P : Nat → Heap → Prop) (k : Nat) (s : Shared) (X : Addr → Prop) (ys : List PyData) (acc : Value) (C : Addr) (s' : Shared) : Prop :=
  s.heap.get? C = none ∧ Mv V s s' ∧ P k s'.heap ∧ (∃ m, s'.heap.Ns C m) ∧ RX (fun b => X b ∨ b = C) s'.heap acc (.list ys)

theorem comp_runP {V : Addr → Prop} {P : Nat → Heap → Prop} {elt : Expr} {target iter : Expr} {ifs : List Expr} {gs : List Comprehension} {scope : Scope} {pos : Pos} {ds : List PyData} {ρc : Rho} {f : PyData → List PyData} {inner : Value → Env → Sem Unit}
    {use : Option (Value → Sem Unit)} {E : Value → Shared → Prop} {env : Env} {X : Addr → Prop} {s : Shared} {p : Pos} {Q : Value → Shared → Prop}
    (hA : AOk n A) (hsc : env.scope = sc) (hS : St K env X ρ s)
    (hit : IT prog w K n sc ρ target iter ds) (hfr : FR ρ scope.names ρc) (hok : compOk scope sc = true)
    (heq : ∀ it acc env, compTurn (.ListComp elt (⟨target, iter, ifs, 0⟩ :: gs) scope pos) 0 it acc env = turnTree target iter ifs it env (inner acc env) (again (.compLoop (.ListComp elt (⟨target, iter, ifs, 0⟩ :: gs) scope pos) 0 it acc env)))
    (turns : ∀ i d, ds[i]? = some d → ∃ ρd b, BD prog w K n (relabelS scope sc) (cellNames scope) target d ρc ρd ∧ TI prog w K n (relabelS scope sc) ρd ifs b ∧ (b = true → CIP prog w K n (relabelS scope sc) (cellNames scope) V P i ρd inner (f d)) ∧ (b = false → f d = [] ∧ ∀ h, P i h → P (i + 1) h) ∧
      (∀ x d', ρc.lookup x = some d' → ρd.lookup x = some d'))
    (hVX : ∀ b, V b → X b) (hVc : ∀ x c, env.cells.lookup x = some c → ¬ V c) (hPf : Fr V P) (hP0 : P 0 s.heap)
    (hsz : (ds.flatMap f).length ≤ sizeLine) (hs : ∀ env x, foldedSetIterable iter env x = pure x)
    (hQ : ∀ acc C s', CompRanP V P ds.length s X (ds.flatMap f) acc C s' → compPost (model prog w) A E use Q acc C (.ok .next) s') :
    wpAny (model prog w) A (comprehension (.ListComp elt (⟨target, iter, ifs, 0⟩ :: gs) scope pos) scope env p (newList []) false (eval iter env) use) Q E s := by
  obtain ⟨m₀, hn₀, hv₀⟩ := id hS.vars
  subst hsc
  have hkind := compOk.kind hok
  have hcells : ∀ x, (x, NameKind.free) ∈ scope.names → ∃ c, env.cells.lookup x = some c := fun x hx => by
    obtain ⟨d, hd⟩ := hfr.all x hx
    obtain ⟨v, r, hat⟩ := hv₀ x d hd
    rcases hat with ⟨h, _⟩ | ⟨_, c, h, _⟩
    · have h' : env.scope.names.lookup x = some .local := h
      rcases compOk.free hok hx with h2 | h2 <;> rw [h2] at h' <;> cases h'
    · exact ⟨c, h⟩
  refine wpAny_comprehension_free (cl := closGo env scope.names []) rfl (hs env) (closureFor_eq hcells) hkind (fun x hx hl => compOk.look hok (hl ▸ hx)) ?_
  refine wpAny_mono (hit A env X s hA rfl hS) (fun x s₁ h₁ => wpAny_mono h₁ (fun it s₂ h₂ => ?_) fun _ _ x => x.elim) fun _ _ x => x.elim
  obtain ⟨I, wr, rfl, hfw, hlw, e₂, hsrc⟩ := h₂
  refine wpAny_newList ?_ (Nat.zero_le _)
  refine newCompEnv ?_
  dsimp only
  -- the places
  generalize hH3 : s₂.heap.push { cls := .type "list", data := .seq ([] : List Value).toArray } = H3
  have k3 : Keep s₂.heap H3 := hH3 ▸ Keep.push _ _
  generalize hD : s₂.heap.objs.size = D
  have hD3 : H3.get? D = some { cls := .type "list", data := .seq ([] : List Value).toArray } := by rw [← hH3, ← hD]; exact Heap.get?_push_size _ rfl
  have hDf : s₂.heap.get? D = none := hD ▸ get?_size_none _
  generalize hH4 : H3.push { cls := .type "dict", data := .dict #[] } = H4
  have k4 : Keep H3 H4 := hH4 ▸ Keep.push _ _
  generalize hC : H3.objs.size = C
  have hCf : H3.get? C = none := hC ▸ get?_size_none _
  have hN4 : H4.Ns C fun _ => none := by rw [← hH4, ← hC]; exact Heap.Ns.new H3 (.type "dict")
  have hcl := clos_lookup env scope.names [] hcells (fun _ hp => absurd hp List.not_mem_nil)
  have hcn := cells_new scope.names H4 (closGo env scope.names []) (fun p hp => by
    obtain ⟨o, ho⟩ := hS.cells p.1 p.2 (hcl.1 p hp)
    exact ⟨o, k4 _ _ (k3 _ _ (e₂.keep _ _ ho))⟩)
  generalize hH5 : pushCells H4 scope.names = H5 at hcn
  generalize hcs : cellsFrom H4.objs.size scope.names (closGo env scope.names []) = cs at hcn
  have k5 := hcn.keep
  have e₅ : Ext s { s₂ with heap := H5 } := e₂.trans ⟨(k3.trans k4).trans k5, rfl, rfl⟩
  have hCs : s.heap.get? C = none := by
    cases e : s.heap.get? C with
    | none => rfl
    | some o => have := k3 _ _ (e₂.keep _ _ e); rw [hCf] at this; cases this
  have hDs : s.heap.get? D = none := by
    cases e : s.heap.get? D with
    | none => rfl
    | some o => have := e₂.keep _ _ e; rw [hDf] at this; cases this
  have hC2 : s₂.heap.get? C = none := by
    cases e : s₂.heap.get? C with
    | none => rfl
    | some o => have := k3 _ _ e; rw [hCf] at this; cases this
  have hDC : D ≠ C := fun e => by rw [e, hCf] at hD3; cases hD3
  -- own places
  let Z : Addr → Prop := fun b => b = C ∨ (H4.get? b = none ∧ ∃ x, (x, b) ∈ cs ∧ (x, NameKind.cell) ∈ scope.names)
  have hZf : ∀ b, Z b → H3.get? b = none := fun b hb => by
    rcases hb with rfl | ⟨hb, _⟩
    · exact hCf
    · cases e : H3.get? b with
      | none => rfl
      | some o => have := k4 _ _ e; rw [hb] at this; cases this
  have hZ2 : ∀ b, Z b → s₂.heap.get? b = none := fun b hb => by
    cases e : s₂.heap.get? b with
    | none => rfl
    | some o => have := k3 _ _ e; rw [hZf b hb] at this; cases this
  let Y : Addr → Prop := fun b => X b ∨ wr b ∨ b = D ∨ Z b
  obtain ⟨Ps, S, hP⟩ := hsrc Y (fun b hb => by
    rcases hb with h | h | h | h
    · exact .inl h
    · exact .inr (.inl h)
    · exact .inr (.inr (h ▸ hDf))
    · exact .inr (.inr (hZ2 b h))) (fun b hb => .inr (.inl hb))
  have hYs : ∀ b, Y b → X b ∨ s.heap.get? b = none := fun b hb => by
    rcases hb with h | h | h | h
    · exact .inl h
    · exact .inr (hfw b h)
    · exact .inr (h ▸ hDs)
    · refine .inr ?_
      cases e : s.heap.get? b with
      | none => rfl
      | some o => have := e₂.keep _ _ e; rw [hZ2 b h] at this; cases this
  have hwlive : ∀ b, wr b → ∃ o, s₂.heap.get? b = some o := hlw
  have hYlive : Live Y H5 := fun b hb => by
    rcases hb with h | h | h | h | ⟨h1, x, h2, h3⟩
    · obtain ⟨o, ho⟩ := hS.live b h; exact ⟨o, e₅.keep _ _ ho⟩
    · obtain ⟨o, ho⟩ := hwlive b h; exact ⟨o, k5 _ _ (k4 _ _ (k3 _ _ ho))⟩
    · exact ⟨_, k5 _ _ (k4 _ _ (h ▸ hD3))⟩
    · obtain ⟨o, _, _, ho, _⟩ := hN4; exact ⟨o, k5 _ _ (h ▸ ho)⟩
    · rcases hcn.mem _ h2 with h4 | ⟨_, ⟨o, ho, _⟩, _⟩
      · obtain ⟨o, ho⟩ := hS.cells _ _ (hcl.1 _ h4)
        exact ⟨o, e₅.keep _ _ ho⟩
      · exact ⟨o, ho⟩
  let cenv : Env := { scope := relabel scope env, locals := C, globals := env.globals, cells := cs, qual := env.qual, func := none, code := env.code, frame := env.frame, builtins := env.builtins }
  have hcslive : ∀ x c, cs.lookup x = some c → ∃ o, H5.get? c = some o := fun x c hx => by
    rcases hcn.mem _ (mem_of_lookup hx) with h4 | ⟨_, ⟨o, ho, _⟩, _⟩
    · obtain ⟨o, ho⟩ := hS.cells _ _ (hcl.1 _ h4)
      exact ⟨o, e₅.keep _ _ ho⟩
    · exact ⟨o, ho⟩
  have hN5 : H5.Ns C fun _ => none := hN4.keeps k5
  have hnotcell : ∀ x, (x, NameKind.free) ∈ scope.names → (x, NameKind.cell) ∉ scope.names := fun x hx hx' => by
    have h1 := compOk.look hok hx
    have h2 := compOk.look hok hx'
    rw [h1] at h2; cases h2
  have hSc : St K cenv Y ρc { s₂ with heap := H5 } := by
    refine ⟨(hS.gf.more hYs).keep e₅.keep, hYlive, ⟨_, hN5, fun x d hx => ?_⟩, hkind, hS.glob, hS.blt, hcslive⟩
    obtain ⟨hx1, hx2⟩ := hfr.sub x d hx
    obtain ⟨v, r, hat⟩ := hv₀ x d hx1
    refine ⟨v, (r.more hYs).keep e₅.keep, ?_⟩
    rcases hat with ⟨h, _⟩ | ⟨_, c, h, hcell⟩
    · have h' : env.scope.names.lookup x = some .local := h
      rcases compOk.free hok hx2 with h2 | h2 <;> rw [h2] at h' <;> cases h'
    · refine .inr ⟨?_, c, ?_, hcell.keeps e₅.keep⟩
      · show (relabelS scope env.scope).names.lookup x = _ ∨ (relabelS scope env.scope).names.lookup x = _
        rw [relabel_lookup, compOk.look hok hx2]
        simp only [Option.map_some]
        split
        · exact .inl rfl
        · exact .inr rfl
      · show cs.lookup x = some c
        rw [hcn.old x (hnotcell x hx2)]
        obtain ⟨c', hc'⟩ := lookup_of_mem_fst (hcl.2.1 x hx2)
        have := hcl.1 _ (mem_of_lookup hc')
        rw [hc']; rw [h] at this; exact this.symm
  have hFc : Fm cenv (cellNames scope) Z Y H5 := by
    refine ⟨.inl rfl, fun x hx _ => ?_, fun x hx _ y c h1 h2 => ?_, fun b hb => .inr (.inr (.inr hb))⟩
    · obtain ⟨c, h1, h2, h3⟩ := hcn.new x (mem_cellNames.mp hx)
      exact ⟨c, none, h1, h2, .inr ⟨h3, x, mem_of_lookup h1, mem_cellNames.mp hx⟩⟩
    · obtain ⟨c', h3, _, h5⟩ := hcn.new x (mem_cellNames.mp hx)
      have h1' : cs.lookup x = some c := h1
      rw [h3] at h1'; cases h1'
      exact hcn.apart _ (mem_of_lookup h3) _ (mem_of_lookup h2) rfl h5
  have hDcells : ∀ x c, cs.lookup x = some c → c ≠ D := fun x c hx e => by
    rcases hcn.mem _ (mem_of_lookup hx) with h4 | ⟨h4, _⟩
    · obtain ⟨o, ho⟩ := hS.cells _ _ (hcl.1 _ h4)
      have h5 : s.heap.get? c = some o := ho
      rw [e, hDs] at h5; cases h5
    · have h5 : H4.get? c = none := h4
      rw [e, k4 _ _ hD3] at h5; cases h5
  have hwcells : ∀ x c, cs.lookup x = some c → ¬ wr c := fun x c hx hw => by
    rcases hcn.mem _ (mem_of_lookup hx) with h4 | ⟨h4, _⟩
    · obtain ⟨o, ho⟩ := hS.cells _ _ (hcl.1 _ h4)
      have h5 : s.heap.get? c = some o := ho
      rw [hfw c hw] at h5; cases h5
    · obtain ⟨o, ho⟩ := hwlive c hw
      have h5 : H4.get? c = none := h4
      rw [k4 _ _ (k3 _ _ ho)] at h5; cases h5
  have hDZ : ¬ Z D := fun h => by rw [hZf D h] at hD3; cases hD3
  have hwZ : ∀ b, wr b → ¬ Z b ∧ b ≠ D ∧ b ≠ C := fun b hb => by
    obtain ⟨o, ho⟩ := hwlive b hb
    refine ⟨fun h => ?_, fun h => ?_, fun h => ?_⟩
    · rw [hZ2 b h] at ho; cases ho
    · rw [h, hDf] at ho; cases ho
    · rw [h, hC2] at ho; cases ho
  have hl5 : H5.PlainList D ([] : List Value).toArray := ⟨_, k5 _ _ (k4 _ _ hD3)⟩
  show codeAny _ A (.compStart _ 0 (.ref I) (.ref D) cenv) (compPost (model prog w) A E use Q (.ref D) C) { s₂ with heap := H5 }
  have hP5 : Ps 0 H5 := S.frame 0 s₂.heap H5 hP (((k3.trans k4).trans k5).x Y) fun b o _ e => k5 _ _ (k4 _ _ (k3 _ _ e))
  refine comp_start (g := ⟨target, iter, ifs, 0⟩) rfl rfl ?_ fun Q' E' hq => S.self 0 _ Q' E' hP5 hq
  have hVl : ∀ b, V b → ∃ o, s.heap.get? b = some o := fun b hb => hS.live b (hVX b hb)
  have hVZ : ∀ b, V b → ¬ Z b ∧ b ≠ D ∧ ¬ wr b := fun b hb => by
    obtain ⟨o, ho⟩ := hVl b hb
    refine ⟨fun h => ?_, fun h => ?_, fun h => ?_⟩
    · have := hZ2 b h; rw [e₂.keep _ _ ho] at this; cases this
    · rw [h, hDs] at ho; cases ho
    · rw [hfw b h] at ho; cases ho
  have hVc' : ∀ x c, cenv.cells.lookup x = some c → ¬ V c := fun x c hx hv => by
    rcases hcn.mem _ (mem_of_lookup hx) with h4 | ⟨h4, _⟩
    · exact hVc _ _ (hcl.1 _ h4) hv
    · obtain ⟨o, ho⟩ := hVl c hv
      have h5 : H4.get? c = none := h4
      rw [k4 _ _ (k3 _ _ (e₂.keep _ _ ho))] at h5; cases h5
  have hPC : P 0 H5 := hPf _ _ _ hP0 fun b o _ e => e₅.keep _ _ e
  refine comp_loopP (heq (.ref I) (.ref D) cenv) hA rfl S hP5 (((k3.trans k4).trans k5).x Y) hSc hFc (.inr (.inr (.inl rfl))) hDC hDcells hwZ hwcells hDZ (fun b hb => .inl (hVX b hb)) hVZ hVc' hPf hPC hl5 (by simpa using hsz) turns fun s' us r₁ r₂ r₃ r₄ r₅ r₈ r₆ r₇ => ?_
  have kp : ∀ b o, s.heap.get? b = some o → ¬ V b → s'.heap.get? b = some o := fun b o e hv => r₅ b o (e₅.keep b o e) fun h => by
    rcases h with h | h | h | h
    · have h1 := hZ2 b h
      rw [e₂.keep _ _ e] at h1; cases h1
    · rw [h, hDs] at e; cases e
    · rw [hfw b h] at e; cases e
    · exact hv h
  refine hQ (.ref D) C s' ⟨hCs, ⟨kp, fun b o e => ?_, r₆.trans e₂.gens, r₇.trans e₂.os⟩, r₈, ?_, ?_⟩
  · by_cases hx : X b
    · exact (r₃ (fun b => X b) fun b hb => ⟨.inl hb, fun hw => by obtain ⟨o, ho⟩ := hS.live b hb; rw [hfw b hw] at ho; cases ho⟩).live b hx
    · exact ⟨o, kp b o e fun hv => hx (hVX b hv)⟩
  · obtain ⟨m, hm, _⟩ := (r₃ (fun b => b = C) fun b hb => ⟨.inr (.inr (.inr (.inl hb))), fun hw => (hwZ b hw).2.2 hb⟩).vars
    exact ⟨m, hm⟩
  · refine .list (by simpa using r₂) ?_ (r₁.weaken fun b hb => hb.elim .inl fun h => .inr (.inr (.inr (.inl h))))
    rintro (h | h)
    · exact hS.live.fresh hDs h
    · exact hDC h

/-- what stands when a comprehension has run -/
noncomputable def CompRan (s : Shared) (X : Addr → Prop) (ys : List PyData) (acc : Value) (C : Addr) (s' : Shared) : Prop :=
  s.heap.get? C = none ∧ Ext s s' ∧ (∃ m, s'.heap.Ns C m) ∧ RX (fun b => X b ∨ b = C) s'.heap acc (.list ys)

theorem comp_run {elt : Expr} {target iter : Expr} {ifs : List Expr} {gs : List Comprehension} {scope : Scope} {pos : Pos} {ds : List PyData} {ρc : Rho} {f : PyData → List PyData} {inner : Value → Env → Sem Unit}
    {use : Option (Value → Sem Unit)} {E : Value → Shared → Prop} {env : Env} {X : Addr → Prop} {s : Shared} {p : Pos} {Q : Value → Shared → Prop}
    (hA : AOk n A) (hsc : env.scope = sc) (hS : St K env X ρ s)
    (hit : IT prog w K n sc ρ target iter ds) (hfr : FR ρ scope.names ρc) (hok : compOk scope sc = true)
    (heq : ∀ it acc env, compTurn (.ListComp elt (⟨target, iter, ifs, 0⟩ :: gs) scope pos) 0 it acc env = turnTree target iter ifs it env (inner acc env) (again (.compLoop (.ListComp elt (⟨target, iter, ifs, 0⟩ :: gs) scope pos) 0 it acc env)))
    (turns : ∀ d ∈ ds, ∃ ρd b, BD prog w K n (relabelS scope sc) (cellNames scope) target d ρc ρd ∧ TI prog w K n (relabelS scope sc) ρd ifs b ∧ (b = true → CI prog w K n (relabelS scope sc) (cellNames scope) ρd inner (f d)) ∧ (b = false → f d = []) ∧
      (∀ x d', ρc.lookup x = some d' → ρd.lookup x = some d'))
    (hsz : (ds.flatMap f).length ≤ sizeLine) (hs : ∀ env x, foldedSetIterable iter env x = pure x)
    (hQ : ∀ acc C s', CompRan s X (ds.flatMap f) acc C s' → compPost (model prog w) A E use Q acc C (.ok .next) s') :
    wpAny (model prog w) A (comprehension (.ListComp elt (⟨target, iter, ifs, 0⟩ :: gs) scope pos) scope env p (newList []) false (eval iter env) use) Q E s := by
  refine comp_runP (V := fun _ => False) (P := fun _ _ => True) hA hsc hS hit hfr hok heq (fun i d hd => ?_) (fun _ h => h.elim) (fun _ _ _ h => h) (fun _ _ _ _ _ => trivial) trivial hsz hs fun acc C s' h => hQ acc C s' ⟨h.1, ⟨fun b o e => h.2.1.keep b o e id, h.2.1.gens, h.2.1.os⟩, h.2.2.2.1, h.2.2.2.2⟩
  obtain ⟨ρd, b, h1, h2, h3, h4, h5⟩ := turns d (List.mem_of_getElem? hd)
  exact ⟨ρd, b, h1, h2, fun hb => (h3 hb).cip, fun hb => ⟨h4 hb, fun _ _ => trivial⟩, h5⟩

theorem CompRan.post {s : Shared} {X : Addr → Prop} {ys : List PyData} {acc : Value} {C : Addr} {s' : Shared} (h : CompRan s X ys acc C s') {h' : Heap} (hs : Heap.SameBut C s'.heap h') :
    Ext s { s' with heap := h' } ∧ RX X h' acc (.list ys) := by
  obtain ⟨h1, h2, h3, h4⟩ := h
  refine ⟨⟨fun b o e => hs.extBut b o (fun hb => ?_) (h2.keep b o e), h2.gens, h2.os⟩, (h4.keepX fun b o e hx => hs.extBut b o (fun hb => hx (.inr hb)) e).weaken fun b hb => .inl hb⟩
  rw [hb, h1] at e; cases e

/-- a comprehension of one clause, as a value -/
theorem ev_comp {elt : Expr} {target iter : Expr} {ifs : List Expr} {scope : Scope} {pos : Pos} {ds : List PyData} {ρc : Rho} (f : PyData → List PyData)
    (hit : IT prog w K n sc ρ target iter ds) (hfr : FR ρ scope.names ρc) (hok : compOk scope sc = true)
    (turns : ∀ d ∈ ds, ∃ ρd b, BD prog w K n (relabelS scope sc) (cellNames scope) target d ρc ρd ∧ TI prog w K n (relabelS scope sc) ρd ifs b ∧ (b = true → CI prog w K n (relabelS scope sc) (cellNames scope) ρd (emitT elt) (f d)) ∧ (b = false → f d = []) ∧
      (∀ x d', ρc.lookup x = some d' → ρd.lookup x = some d'))
    (hsz : (ds.flatMap f).length ≤ sizeLine) (hs : autoParam (∀ env x, foldedSetIterable iter env x = pure x) auK) :
    EV prog w K n sc ρ (.ListComp elt [⟨target, iter, ifs, 0⟩] scope pos) (.list (ds.flatMap f)) := by
  intro A env X s hA hsc hS
  rw [eval_ListComp]
  refine comp_run (use := none) hA hsc hS hit hfr hok (turn_one elt target iter ifs scope pos) turns hsz hs fun acc C s' h => ?_
  obtain ⟨m, hm⟩ := h.2.2.1
  exact ⟨m, hm, fun h' hs' => h.post hs'⟩
theorem ev_comp2 {elt : Expr} {target iter target' iter' : Expr} {ifs ifs' : List Expr} {scope : Scope} {pos : Pos} {ds : List PyData} {ρc : Rho} (f : PyData → List PyData)
    (hit : IT prog w K n sc ρ target iter ds) (hfr : FR ρ scope.names ρc) (hok : compOk scope sc = true)
    (turns : ∀ d ∈ ds, ∃ ρd b, BD prog w K n (relabelS scope sc) (cellNames scope) target d ρc ρd ∧ TI prog w K n (relabelS scope sc) ρd ifs b ∧
      (b = true → CI prog w K n (relabelS scope sc) (cellNames scope) ρd (nestT (.ListComp elt [⟨target, iter, ifs, 0⟩, ⟨target', iter', ifs', 0⟩] scope pos) 1 iter') (f d)) ∧ (b = false → f d = []) ∧
      (∀ x d', ρc.lookup x = some d' → ρd.lookup x = some d'))
    (hsz : (ds.flatMap f).length ≤ sizeLine) (hs : autoParam (∀ env x, foldedSetIterable iter env x = pure x) auK) :
    EV prog w K n sc ρ (.ListComp elt [⟨target, iter, ifs, 0⟩, ⟨target', iter', ifs', 0⟩] scope pos) (.list (ds.flatMap f)) := by
  intro A env X s hA hsc hS
  rw [eval_ListComp]
  refine comp_run (use := none) hA hsc hS hit hfr hok (turn_two0 elt target iter target' iter' ifs ifs' scope pos) turns hsz hs fun acc C s' h => ?_
  obtain ⟨m, hm⟩ := h.2.2.1
  exact ⟨m, hm, fun h' hs' => h.post hs'⟩
end Mine

open PySem PySem.W PyProof.Rows PySem.Calls
namespace Mine

variable {prog : Program} {w : World} {K : Frag} {n : Nat} {sc : Scope} {ρ : Rho} {own : List Str} {A : Around}

/-- the name of the frame that alone holds a list, and what the list holds -/
noncomputable abbrev OwS := Option (Str × List PyData)
noncomputable abbrev plus (X : Addr → Prop) (a : Addr) : Addr → Prop := fun b => X b ∨ b = a

/-- the state between two statements of a frame -/
noncomputable def SS (K : Frag) (env : Env) (own : List Str) (Z X : Addr → Prop) (ρ : Rho) : OwS → Option Addr → Shared → Prop
  | none, none, s => St K env X ρ s ∧ Fm env own Z X s.heap
  | some (x, ds), some a, s => ∃ vs, St K env (plus X a) ((x, rawD a) :: ρ) s ∧ Fm env own Z (plus X a) s.heap ∧ ¬ X a ∧ a ≠ env.locals ∧ (∀ y c, env.cells.lookup y = some c → c ≠ a) ∧ ¬ Z a ∧ ρ.lookup x = none ∧
      s.heap.PlainList a vs.toArray ∧ RXs (plus X a) s.heap vs ds
  | _, _, _ => False

/-- the names with the held list among them -/
noncomputable def full (ρ : Rho) : OwS → Rho
  | none => ρ
  | some (x, ds) => (x, .list ds) :: ρ

theorem SS.ext {env : Env} {Z X : Addr → Prop} {ow : OwS} {oa : Option Addr} {s s' : Shared} (h : SS K env own Z X ρ ow oa s) (e : Ext s s') : SS K env own Z X ρ ow oa s' := by
  match ow, oa with
  | none, none => exact ⟨h.1.ext e, h.2.ext e⟩
  | some (x, ds), some a =>
    obtain ⟨vs, h1, h2, h3, h4, h5, h6, h7, h8, h9⟩ := h
    exact ⟨vs, h1.ext e, h2.ext e, h3, h4, h5, h6, h7, h8.at fun o q => e.keep _ _ q, h9.keep e.keep⟩
  | none, some _ => exact h.elim
  | some _, none => exact h.elim
/-- the state as an expression sees it, the held list a list like any other -/
theorem SS.full {env : Env} {Z X : Addr → Prop} {ow : OwS} {oa : Option Addr} {s : Shared} (h : SS K env own Z X ρ ow oa s) : St K env X (full ρ ow) s := by
  match ow, oa with
  | none, none => exact h.1
  | some (x, ds), some a =>
    obtain ⟨vs, h1, h2, h3, h4, h5, h6, h7, h8, h9⟩ := h
    obtain ⟨m, hn, hv⟩ := h1.vars
    refine ⟨h1.gf.weaken fun b hb => .inl hb, fun b hb => h1.live b (.inl hb), ⟨m, hn, fun y d hy => ?_⟩, h1.kind, h1.glob, h1.blt, h1.cells⟩
    rcases lookup_cons_of hy with ⟨rfl, rfl⟩ | ⟨hne, hy⟩
    · obtain ⟨v, r, hat⟩ := hv y (rawD a) (by simp [List.lookup_cons])
      obtain rfl := r.of_raw
      exact ⟨_, .list h8 h3 (h9.weaken fun b hb => .inl hb), hat⟩
    · obtain ⟨v, r, hat⟩ := hv y d (by rw [List.lookup_cons, beq_eq_false_iff_ne.mpr hne]; exact hy)
      exact ⟨v, r.weaken fun b hb => .inl hb, hat⟩
  | none, some _ => exact h.elim
  | some _, none => exact h.elim
noncomputable def plusO (X : Addr → Prop) : Option Addr → Addr → Prop
  | none => X
  | some a => plus X a
/-- the state as an expression that does not name the held list sees it -/
theorem SS.raw {env : Env} {Z X : Addr → Prop} {ow : OwS} {oa : Option Addr} {s : Shared} (h : SS K env own Z X ρ ow oa s) : St K env (plusO X oa) ρ s := by
  match ow, oa with
  | none, none => exact h.1
  | some (x, ds), some a =>
    obtain ⟨vs, h1, h2, h3, h4, h5, h6, h7, h8, h9⟩ := h
    refine h1.fewer fun y d hy => ?_
    rw [List.lookup_cons]
    have : (y == x) = false := beq_eq_false_iff_ne.mpr fun e => by rw [e, h7] at hy; cases hy
    rw [this]; exact hy
  | none, some _ => exact h.elim
  | some _, none => exact h.elim
theorem SS.disown {env : Env} {Z X : Addr → Prop} {ow : OwS} {oa : Option Addr} {s : Shared} (h : SS K env own Z X ρ ow oa s) (hZ : ∀ b, Z b → X b) : SS K env own Z X (Mine.full ρ ow) none none s := by
  refine ⟨h.full, ?_⟩
  match ow, oa with
  | none, none => exact h.2
  | some (x, ds), some a =>
    obtain ⟨vs, h1, h2, _⟩ := h
    exact ⟨h2.loc, h2.cel, h2.apart, hZ⟩
  | none, some _ => exact h.elim
  | some _, none => exact h.elim
theorem SS.fewer {env : Env} {Z X : Addr → Prop} {ρ' : Rho} {ow : OwS} {oa : Option Addr} {s : Shared} (h : SS K env own Z X ρ ow oa s) (hs : ∀ x d, ρ'.lookup x = some d → ρ.lookup x = some d) : SS K env own Z X ρ' ow oa s := by
  match ow, oa with
  | none, none => exact ⟨h.1.fewer hs, h.2⟩
  | some (x, ds), some a =>
    obtain ⟨vs, h1, h2, h3, h4, h5, h6, h7, h8, h9⟩ := h
    refine ⟨vs, h1.fewer fun y d hy => ?_, h2, h3, h4, h5, h6, ?_, h8, h9⟩
    · rcases lookup_cons_of hy with ⟨rfl, rfl⟩ | ⟨hne, hy⟩
      · simp [List.lookup_cons]
      · rw [List.lookup_cons, beq_eq_false_iff_ne.mpr hne]; exact hs y d hy
    · cases e : ρ'.lookup x with
      | none => rfl
      | some d => have := hs x d e; rw [h7] at this; cases this
  | none, some _ => exact h.elim
  | some _, none => exact h.elim
/-- a change of places that are none of the frame's, nor the held list -/
theorem SS.move {env : Env} {Z X W : Addr → Prop} {ow : OwS} {oa : Option Addr} {s s' : Shared} (h : SS K env own Z X ρ ow oa s) (hm : Mv W s s') (hW : ∀ b, W b → X b) (hl : ¬ W env.locals)
    (hc : ∀ x c, env.cells.lookup x = some c → ¬ W c) : SS K env own Z X ρ ow oa s' := by
  match ow, oa with
  | none, none => exact ⟨h.1.move hm hW hl hc, h.2.move hm.keep hc⟩
  | some (x, ds), some a =>
    obtain ⟨vs, h1, h2, h3, h4, h5, h6, h7, h8, h9⟩ := h
    have hWp : ∀ b, W b → plus X a b := fun b hb => .inl (hW b hb)
    exact ⟨vs, h1.move hm hWp hl hc, h2.move hm.keep hc, h3, h4, h5, h6, h7, h8.at fun o q => hm.keep _ _ q fun hw => h3 (hW _ hw), h9.keepX (hm.keep.mono hWp)⟩
  | none, some _ => exact h.elim
  | some _, none => exact h.elim
theorem SS.drop {env : Env} {Z X Y W : Addr → Prop} {ow : OwS} {oa : Option Addr} {s s' : Shared} (h : SS K env own Z X ρ ow oa s) (hk : KeepX W s.heap s'.heap) (hW : ∀ b, W b → X b) (hl : ¬ W env.locals)
    (hc : ∀ x c, env.cells.lookup x = some c → ¬ W c) (hY : ∀ b, Y b → X b ∧ ¬ W b) (hZ : ∀ b, Z b → Y b) : SS K env own Z Y ρ ow oa s' := by
  match ow, oa with
  | none, none => exact ⟨h.1.drop hk hW hl hc hY, ⟨h.2.loc, (h.2.move hk hc).cel, h.2.apart, hZ⟩⟩
  | some (x, ds), some a =>
    obtain ⟨vs, h1, h2, h3, h4, h5, h6, h7, h8, h9⟩ := h
    have hWp : ∀ b, W b → plus X a b := fun b hb => .inl (hW b hb)
    have hYp : ∀ b, plus Y a b → plus X a b ∧ ¬ W b := fun b hb => hb.elim (fun hb => ⟨.inl (hY b hb).1, (hY b hb).2⟩) fun e => ⟨.inr e, fun hw => h3 (hW _ (e ▸ hw))⟩
    exact ⟨vs, h1.drop hk hWp hl hc hYp, ⟨h2.loc, (h2.move hk hc).cel, h2.apart, fun b hb => .inl (hZ b hb)⟩, fun hy => h3 (hY _ hy).1, h4, h5, h6, h7, h8.at fun o q => hk _ _ q fun hw => h3 (hW _ hw),
      (h9.keepX (hk.mono hWp)).weaken fun b hb => (hYp b hb).1⟩
  | none, some _ => exact h.elim
  | some _, none => exact h.elim
/-- X may grow by what does not stand, if it stands now -/
theorem SS.more {env : Env} {Z X Y : Addr → Prop} {ow : OwS} {oa : Option Addr} {s s' : Shared} (h : SS K env own Z X ρ ow oa s) (e : Ext s s') (hs : ∀ b, Y b → X b ∨ s.heap.get? b = none) (hY : Live Y s'.heap) (hXY : ∀ b, X b → Y b) :
    SS K env own Z Y ρ ow oa s' := by
  match ow, oa with
  | none, none =>
    obtain ⟨h1, h2⟩ := h
    obtain ⟨m, hn, hv⟩ := h1.vars
    exact ⟨⟨(h1.gf.more hs).keep e.keep, hY, ⟨m, hn.keeps e.keep, fun x d hx => let ⟨v, r, q⟩ := hv x d hx; ⟨v, (r.more hs).keep e.keep, q.keep e.keep⟩⟩, h1.kind, h1.glob, h1.blt, (h1.ext e).cells⟩, ⟨h2.loc, (h2.ext e).cel, h2.apart, fun b hb => hXY b (h2.sub b hb)⟩⟩
  | some (x, ds), some a =>
    obtain ⟨vs, h1, h2, h3, h4, h5, h6, h7, h8, h9⟩ := h
    obtain ⟨m, hn, hv⟩ := h1.vars
    have hal : ∃ o, s.heap.get? a = some o := by obtain ⟨k, ho⟩ := h8; exact ⟨_, ho⟩
    have hs' : ∀ b, plus Y a b → plus X a b ∨ s.heap.get? b = none := fun b hb => hb.elim (fun hb => (hs b hb).imp .inl id) fun q => .inl (.inr q)
    have hYa : ¬ Y a := fun hy => (hs a hy).elim h3 fun q => by obtain ⟨o, ho⟩ := hal; rw [q] at ho; cases ho
    exact ⟨vs, ⟨(h1.gf.more hs').keep e.keep, fun b hb => hb.elim (hY b) fun q => by obtain ⟨o, ho⟩ := hal; exact ⟨o, q ▸ e.keep _ _ ho⟩, ⟨m, hn.keeps e.keep, fun x d hx => let ⟨v, r, q⟩ := hv x d hx; ⟨v, (r.more hs').keep e.keep, q.keep e.keep⟩⟩, h1.kind, h1.glob, h1.blt, (h1.ext e).cells⟩,
      ⟨h2.loc, (h2.ext e).cel, h2.apart, fun b hb => (h2.sub b hb).imp (hXY b) id⟩, hYa, h4, h5, h6, h7, h8.at fun o q => e.keep _ _ q, (h9.more hs').keep e.keep⟩
  | none, some _ => exact h.elim
  | some _, none => exact h.elim

inductive FlowD where
  | next | brk | cont
  | ret (d : PyData)
noncomputable def FlR (X : Addr → Prop) : Flow → FlowD → Shared → Prop
  | .next, .next, _ => True
  | .brk, .brk, _ => True
  | .cont, .cont, _ => True
  | .ret v, .ret d, s => RX X s.heap v d
  | _, _, _ => False
noncomputable def myZ (Z : Addr → Prop) (oa : Option Addr) : Addr → Prop := fun b => Z b ∨ oa = some b
/-- what holds behind a statement -/
noncomputable def Post (K : Frag) (env : Env) (own : List Str) (Z X : Addr → Prop) (oa : Option Addr) (s : Shared) (Q : FlowD → Rho → OwS → Prop) (fl : Flow) (s' : Shared) : Prop :=
  ∃ fd ρ' ow' oa', Q fd ρ' ow' ∧ FlR X fl fd s' ∧ SS K env own Z X ρ' ow' oa' s' ∧ Mv (myZ Z oa) s s' ∧ (∀ b, oa' = some b → oa = some b ∨ s.heap.get? b = none)
noncomputable def EX (prog : Program) (w : World) (K : Frag) (n : Nat) (sc : Scope) (own : List Str) (ρ : Rho) (ow : OwS) (ss : List Stmt) (Q : FlowD → Rho → OwS → Prop) : Prop :=
  ∀ (A : Around) (env : Env) (X Z : Addr → Prop) (oa : Option Addr) (s : Shared), AOk n A → env.scope = sc → (∀ b, Z b → X b) → SS K env own Z X ρ ow oa s →
    wpAny (model prog w) A (execs ss env) (Post K env own Z X oa s Q) (fun _ _ => False) s
noncomputable def EX1 (prog : Program) (w : World) (K : Frag) (n : Nat) (sc : Scope) (own : List Str) (ρ : Rho) (ow : OwS) (st : Stmt) (Q : FlowD → Rho → OwS → Prop) : Prop :=
  ∀ (A : Around) (env : Env) (X Z : Addr → Prop) (oa : Option Addr) (s : Shared), AOk n A → env.scope = sc → (∀ b, Z b → X b) → SS K env own Z X ρ ow oa s →
    wpAny (model prog w) A (exec st env) (Post K env own Z X oa s Q) (fun _ _ => False) s

theorem Post.after {env : Env} {Z X : Addr → Prop} {oa oa₁ : Option Addr} {s s₁ : Shared} {Q : FlowD → Rho → OwS → Prop} {fl : Flow} {s' : Shared} (h : Post K env own Z X oa₁ s₁ Q fl s') (m : Mv (myZ Z oa) s s₁)
    (ha : ∀ b, oa₁ = some b → oa = some b ∨ s.heap.get? b = none) : Post K env own Z X oa s Q fl s' := by
  obtain ⟨fd, ρ', ow', oa', h1, h2, h3, h4, h5⟩ := h
  refine ⟨fd, ρ', ow', oa', h1, h2, h3, ⟨fun b o e hz => ?_, fun b o e => ?_, h4.gens.trans m.gens, h4.os.trans m.os⟩, fun b hb => ?_⟩
  · refine h4.keep b o (m.keep b o e hz) fun hq => ?_
    rcases hq with hq | hq
    · exact hz (.inl hq)
    · rcases ha b hq with h | h
      · exact hz (.inr h)
      · rw [h] at e; cases e
  · obtain ⟨o', e'⟩ := m.stay b o e; exact h4.stay b o' e'
  · rcases h5 b hb with h | h
    · exact ha b h
    · refine .inr ?_
      cases e : s.heap.get? b with
      | none => rfl
      | some o => obtain ⟨o', e'⟩ := m.stay b o e; rw [h] at e'; cases e'

theorem ex_nil {ow : OwS} {Q : FlowD → Rho → OwS → Prop} (h : Q .next ρ ow) : EX prog w K n sc own ρ ow [] Q := fun A env X Z oa s hA hsc hZ hS =>
  wpAny_execs_nil ⟨.next, ρ, ow, oa, h, trivial, hS, Mv.refl _ _, fun b hb => .inl hb⟩
theorem ex_cons {ow : OwS} {st : Stmt} {rest : List Stmt} {Q : FlowD → Rho → OwS → Prop}
    (h : EX1 prog w K n sc own ρ ow st fun fd ρ' ow' => match fd with | .next => EX prog w K n sc own ρ' ow' rest Q | fd => Q fd ρ' ow') : EX prog w K n sc own ρ ow (st :: rest) Q := by
  intro A env X Z oa s hA hsc hZ hS
  refine wpAny_execs_cons (wpAny_mono (h A env X Z oa s hA hsc hZ hS) (fun fl s₁ h₁ => ?_) fun _ _ x => x)
  obtain ⟨fd, ρ', ow', oa', h1, h2, h3, h4, h5⟩ := h₁
  match fl, fd with
  | .next, .next => exact wpAny_mono (h1 A env X Z oa' s₁ hA hsc hZ h3) (fun fl s' h' => h'.after h4 h5) fun _ _ x => x
  | .brk, .brk => exact ⟨.brk, ρ', ow', oa', h1, h2, h3, h4, h5⟩
  | .cont, .cont => exact ⟨.cont, ρ', ow', oa', h1, h2, h3, h4, h5⟩
  | .ret v, .ret d => exact ⟨.ret d, ρ', ow', oa', h1, h2, h3, h4, h5⟩
theorem ex_fewer {ρ' : Rho} {ow : OwS} {ss : List Stmt} {Q : FlowD → Rho → OwS → Prop} (h : EX prog w K n sc own ρ' ow ss Q) (hs : ∀ x d, ρ'.lookup x = some d → ρ.lookup x = some d) : EX prog w K n sc own ρ ow ss Q :=
  fun A env X Z oa s hA hsc hZ hS => h A env X Z oa s hA hsc hZ (hS.fewer hs)
theorem ex_disown {ow : OwS} {ss : List Stmt} {Q : FlowD → Rho → OwS → Prop} (h : EX prog w K n sc own (full ρ ow) none ss Q) : EX prog w K n sc own ρ ow ss Q := by
  intro A env X Z oa s hA hsc hZ hS
  refine wpAny_mono (h A env X Z none s hA hsc hZ (hS.disown hZ)) (fun fl s' h' => h'.after (Mv.refl _ _) fun b hb => by cases hb) fun _ _ x => x
theorem ex_opq {ow : OwS} {ss : List Stmt} {Q : FlowD → Rho → OwS → Prop} (h : ∀ Q' : FlowD → Rho → OwS → Prop, (∀ a b c, Q a b c → Q' a b c) → EX prog w K n sc own ρ ow ss Q') : EX prog w K n sc own ρ ow ss Q := h Q fun _ _ _ x => x
end Mine

open PySem PySem.W PyProof.Rows PySem.Calls
namespace Mine

variable {prog : Program} {w : World} {K : Frag} {n : Nat} {sc : Scope} {ρ : Rho} {own : List Str} {A : Around}

/-- a name of the frame takes a datum that does not touch the held list -/
theorem ss_store {M : Model} {E : Value → Shared → Prop} {env : Env} {Z X : Addr → Prop} {ow : OwS} {oa : Option Addr} {s : Shared} {y : Str} {v : Value} {d : PyData} (hS : SS K env own Z X ρ ow oa s) (hy : Sto env own y)
    (hne : ∀ x ds, ow = some (x, ds) → y ≠ x) (hr : RX (plusO X oa) s.heap v d) :
    wpAny M A (storeName env y v) (fun _ s' => SS K env own Z X ((y, d) :: ρ) ow oa s' ∧ Mv Z s s') E s := by
  match ow, oa with
  | none, none => exact wpAny_mono (store_name hS.1 hS.2 hy hr) (fun _ s' h => ⟨⟨h.1, h.2.1⟩, h.2.2⟩) fun _ _ x => x
  | some (x, ds), some a =>
    obtain ⟨vs, h1, h2, h3, h4, h5, h6, h7, h8, h9⟩ := hS
    refine wpAny_mono (store_name h1 h2 hy hr) (fun _ s' h => ⟨⟨vs, h.1.fewer fun z d' hz => ?_, h.2.1, h3, h4, h5, h6, ?_, h8.at fun o q => h.2.2.keep _ _ q h6, h9.keepX (h.2.2.keep.mono h2.sub)⟩, h.2.2⟩) fun _ _ x => x
    · have hyx := hne x ds rfl
      rcases lookup_cons_of hz with ⟨rfl, rfl⟩ | ⟨hzx, hz⟩
      · rw [List.lookup_cons, beq_eq_false_iff_ne.mpr (Ne.symm hyx)]; simp [List.lookup_cons]
      · rcases lookup_cons_of hz with ⟨rfl, rfl⟩ | ⟨hzy, hz⟩
        · simp [List.lookup_cons]
        · rw [List.lookup_cons, beq_eq_false_iff_ne.mpr hzy, List.lookup_cons, beq_eq_false_iff_ne.mpr hzx]; exact hz
    · rw [List.lookup_cons, beq_eq_false_iff_ne.mpr (Ne.symm (hne x ds rfl))]; exact h7
  | none, some _ => exact hS.elim
  | some _, none => exact hS.elim
theorem Mv.z {Z : Addr → Prop} {oa : Option Addr} {s s' : Shared} (m : Mv Z s s') : Mv (myZ Z oa) s s' := m.mono fun b h => .inl h

noncomputable def offB (ow : OwS) (y : Str) : Bool := match ow with | none => true | some (x, _) => y != x
theorem offB.ne {ow : OwS} {y : Str} (h : offB ow y = true) : ∀ x ds, ow = some (x, ds) → y ≠ x := by
  intro x ds e; subst e; simpa [offB] using h

/-- y = e, the held list not named in e -/
theorem x1_assign {ow : OwS} {y : Str} {p pos : Pos} {e : Expr} {d : PyData} {Q : FlowD → Rho → OwS → Prop} (he : EV prog w K n sc ρ e d) (hy : stoB sc own y = true) (ho : offB ow y = true) (hq : Q .next ((y, d) :: ρ) ow)
    (hsw : autoParam (∀ env, env.scope = sc → swapsWith e (some (.Name y p)) pos.line env = pure false) auK) : EX1 prog w K n sc own ρ ow (.Assign [.Name y p] e pos) Q := by
  intro A env X Z oa s hA hsc hZ hS
  refine wpAny_Assign_Name (wpAny_mono (he A env _ s hA hsc hS.raw) (fun v s₁ h₁ => ?_) fun _ _ x => x) (hsw env hsc)
  refine wpAny_mono (ss_store (hS.ext h₁.1) (Sto.of (hsc ▸ hy)) (offB.ne ho) h₁.2) (fun _ s₂ h₂ => ?_) fun _ _ x => x
  exact ⟨.next, _, ow, oa, hq, trivial, h₂.1, (h₁.1.mv _).trans h₂.2.z, fun b hb => .inl hb⟩

/-- x = []: from here x alone holds the list -/
theorem x1_new {y : Str} {p lp pos : Pos} {Q : FlowD → Rho → OwS → Prop} (hy : stoB sc own y = true) (hρ : ρ.lookup y = none) (hq : Q .next ρ (some (y, []))) : EX1 prog w K n sc own ρ none (.Assign [.Name y p] (.List [] lp) pos) Q := by
  intro A env X Z oa s hA hsc hZ hS
  match oa with
  | some _ => exact hS.elim
  | none =>
  obtain ⟨h1, h2⟩ := hS
  refine wpAny_Assign_Name (wpAny_List (args_nil ⟨Nat.zero_le _, ?_⟩))
  generalize hH : s.heap.push { cls := .type "list", data := .seq ([] : List Value).toArray } = H
  generalize ha : s.heap.objs.size = a
  have haf : s.heap.get? a = none := ha ▸ get?_size_none _
  have hk : Keep s.heap H := hH ▸ Keep.push _ _
  have hal : H.get? a = some { cls := .type "list", data := .seq ([] : List Value).toArray } := by rw [← hH, ← ha]; exact Heap.get?_push_size _ rfl
  have e : Ext s { s with heap := H } := ⟨hk, rfl, rfl⟩
  have hs : ∀ b, plus X a b → X b ∨ s.heap.get? b = none := fun b hb => hb.elim .inl fun q => .inr (q ▸ haf)
  have hS' : SS K env own Z (plus X a) ρ none none { s with heap := H } := SS.more (ow := none) (oa := none) ⟨h1, h2⟩ e hs (fun b hb => hb.elim (fun hb => let ⟨o, q⟩ := h1.live b hb; ⟨o, hk _ _ q⟩) fun q => ⟨_, q ▸ hal⟩) fun b hb => .inl hb
  refine wpAny_mono (store_name hS'.1 hS'.2 (Sto.of (hsc ▸ hy)) (RX.raw a)) (fun _ s₂ h₂ => ?_) fun _ _ x => x
  have hZa : ¬ Z a := fun hz => by obtain ⟨o, q⟩ := h1.live a (hZ a hz); rw [haf] at q; cases q
  have hXa : ¬ X a := fun hx => by obtain ⟨o, q⟩ := h1.live a hx; rw [haf] at q; cases q
  refine ⟨.next, ρ, some (y, []), some a, hq, trivial, ⟨[], h₂.1, h₂.2.1, hXa, fun e' => ?_, fun z c hz e' => ?_, hZa, hρ, ⟨_, h₂.2.2.keep _ _ hal hZa⟩, .nil⟩, (e.mv _).trans h₂.2.2.z, fun b hb => ?_⟩
  · obtain ⟨m, ⟨o, _, _, q, _⟩, _⟩ := h1.vars; rw [← e', haf] at q; cases q
  · obtain ⟨o, q⟩ := h1.cells z c hz; rw [e', haf] at q; cases q
  · cases hb; exact .inr haf

/-- x.append(e) on the held list -/
theorem x1_append {x : Str} {ds : List PyData} {p ap cp pos : Pos} {e : Expr} {d : PyData} {Q : FlowD → Rho → OwS → Prop} (he : EV prog w K n sc ρ e d) (hsz : ds.length ≤ sizeLine) (hq : Q .next ρ (some (x, ds ++ [d])))
    (hdb : autoParam ((x == ("__debug__" : Str)) = false) auK) (hdc : autoParam ((x == ("__classdict__" : Str)) = false) auK)
    (hes : autoParam (∀ env, starEach [e] env = (false, eval e env) :: starEach [] env) auK)
    (hcall : autoParam (∀ env, eval (.Call (.Attribute (.Name x p) "append" ap) [e] [] cp) env = (do
      let ov ← eval (.Name x p) env
      standAt ap.atName
      let (f, first) ← holding [ov] (getMethod ov "append" (do return (← importBound (.Name x p) env).getD true))
      callWith cp f first (backTo cp (starEach [e] env)) [])) auK)
    (hint : autoParam (sc.kind = .function) auK) : EX1 prog w K n sc own ρ (some (x, ds)) (.Expr (.Call (.Attribute (.Name x p) "append" ap) [e] [] cp) pos) Q := by
  intro A env X Z oa s hA hsc hZ hS
  match oa with
  | none => exact hS.elim
  | some a =>
  obtain ⟨vs, h1, h2, h3, h4, h5, h6, h7, h8, h9⟩ := id hS
  have hpl := hcall env
  refine wpAny_Expr ?_ (by unfold interactive; rw [hsc, hint]; rfl) rfl
  refine MethodCall_  ?_ hpl
  refine wpAny_mono (ev_name (prog := prog) (w := w) (K := K) (n := n) (sc := sc) (ρ := (x, rawD a) :: ρ) (x := x) (pos := p) (d := rawD a) (by simp [List.lookup_cons]) hdb hdc A env (plus X a) s hA hsc h1) (fun v s₁ h₁ => ?_) fun _ _ x => x.elim
  obtain rfl := h₁.2.of_raw
  have hS₁ := hS.ext h₁.1
  obtain ⟨k, hao⟩ := h8.at (h' := s₁.heap) fun o q => h₁.1.keep _ _ q
  refine getMethod_list_append hao rfl rfl ?_
  refine callWith_method1 (wpAny_mono (evs_cons he evs_nil hes A env _ s₁ cp hA hsc hS₁.raw) (fun us s₂ h₂ => ?_) fun _ _ x => x.elim) (hes env) rfl
  obtain ⟨u, us', rfl, r1, rs⟩ := h₂.2.of_cons
  obtain rfl := rs.of_nil
  obtain ⟨vs, g1, g2, g3, g4, g5, g6, g7, g8, g9⟩ := id (hS₁.ext h₂.1)
  refine wpAny_list_append_plain g8 (fun h' hl' hs' => ?_) (by rw [List.size_toArray, g9.length]; exact hsz)
  obtain ⟨o, ho⟩ := id g8
  obtain ⟨o', ho'⟩ := id hl'
  have mv : Mv (fun b => b = a) s₂ { s₂ with heap := h' } := Mv.at (tk := s₂.toks) hs' ho ho' rfl
  have hWp : ∀ b, b = a → plus X a b := fun b q => .inr q
  refine ⟨.next, ρ, some (x, ds ++ [d]), some a, hq, trivial, ⟨vs ++ [u], g1.move mv hWp (fun q => g4 q.symm) (fun z c hz q => g5 z c hz q), g2.move mv.keep (fun z c hz q => g5 z c hz q), g3, g4, g5, g6, g7, by simpa using hl',
    (g9.keepX (mv.keep.mono hWp)).append (.cons (r1.keepX (mv.keep.mono hWp)) .nil)⟩, ((h₁.1.trans h₂.1).mv _).trans (mv.mono fun b q => .inr (by rw [q])), fun b hb => .inl hb⟩

theorem x1_if {ow : OwS} {test : Expr} {body orelse : List Stmt} {pos : Pos} {b : Bool} {Q : FlowD → Rho → OwS → Prop} (ht : TE prog w K n sc (full ρ ow) test b)
    (hb : b = true → EX prog w K n sc own ρ ow body Q) (ho : b = false → EX prog w K n sc own ρ ow orelse Q) : EX1 prog w K n sc own ρ ow (.If test body orelse pos) Q := by
  intro A env X Z oa s hA hsc hZ hS
  refine wpAny_If (wpAny_mono (ht A env X s hA hsc hS.full) (fun v s₁ h₁ => ?_) fun _ _ x => x)
  obtain ⟨e, rfl⟩ := h₁
  cases v with
  | true => exact wpAny_mono (hb rfl A env X Z oa s₁ hA hsc hZ (hS.ext e)) (fun fl s' h' => h'.after (e.mv _) fun b hb => .inl hb) fun _ _ x => x
  | false => exact wpAny_mono (ho rfl A env X Z oa s₁ hA hsc hZ (hS.ext e)) (fun fl s' h' => h'.after (e.mv _) fun b hb => .inl hb) fun _ _ x => x
theorem x1_return {ow : OwS} {e : Expr} {pos : Pos} {d : PyData} {Q : FlowD → Rho → OwS → Prop} (he : EV prog w K n sc (full ρ ow) e d) (hq : Q (.ret d) ρ ow) : EX1 prog w K n sc own ρ ow (.Return (some e) pos) Q := by
  intro A env X Z oa s hA hsc hZ hS
  refine wpAny_Return_some (wpAny_mono (he A env X s hA hsc hS.full) (fun v s₁ h₁ => ?_) fun _ _ x => x)
  exact ⟨.ret d, ρ, ow, oa, hq, h₁.2, hS.ext h₁.1, h₁.1.mv _, fun b hb => .inl hb⟩
theorem x1_break {ow : OwS} {pos : Pos} {Q : FlowD → Rho → OwS → Prop} (hq : Q .brk ρ ow) : EX1 prog w K n sc own ρ ow (.Break pos) Q := fun A env X Z oa s hA hsc hZ hS =>
  wpAny_Break ⟨.brk, ρ, ow, oa, hq, trivial, hS, Mv.refl _ _, fun b hb => .inl hb⟩
theorem x1_continue {ow : OwS} {pos : Pos} {Q : FlowD → Rho → OwS → Prop} (hq : Q .cont ρ ow) : EX1 prog w K n sc own ρ ow (.Continue pos) Q := fun A env X Z oa s hA hsc hZ hS =>
  wpAny_Continue ⟨.cont, ρ, ow, oa, hq, trivial, hS, Mv.refl _ _, fun b hb => .inl hb⟩
end Mine

open PySem PySem.W PyProof.Rows PySem.Calls
namespace Mine

variable {prog : Program} {w : World} {K : Frag} {n : Nat} {sc : Scope} {ρ : Rho} {own : List Str} {A : Around}

/-- a target takes a datum, whatever the names at hand -/
noncomputable def BB (prog : Program) (w : World) (K : Frag) (n : Nat) (sc : Scope) (own : List Str) (t : Expr) (d : PyData) (bs : Rho) : Prop := ∀ ρ, BD prog w K n sc own t d ρ (bs ++ ρ)
noncomputable def BBs (prog : Program) (w : World) (K : Frag) (n : Nat) (sc : Scope) (own : List Str) (ts : List Expr) (ds : List PyData) (bs : Rho) : Prop := ∀ ρ, BDs prog w K n sc own ts ds ρ (bs ++ ρ)
theorem bb_name {x : Str} {pos : Pos} {d : PyData} (h : autoParam (stoB sc own x = true) auK) : BB prog w K n sc own (.Name x pos) d [(x, d)] := fun ρ => bd_name h
theorem bbs_nil : BBs prog w K n sc own [] [] [] := fun ρ => bds_nil
theorem bbs_cons {t : Expr} {ts : List Expr} {d : PyData} {ds : List PyData} {b₁ b₂ : Rho} (h : BB prog w K n sc own t d b₁) (hs : BBs prog w K n sc own ts ds b₂)
    (he : autoParam (∀ env, assignEach (t :: ts) env = (false, assign t env) :: assignEach ts env) auK) : BBs prog w K n sc own (t :: ts) (d :: ds) (b₂ ++ b₁) := fun ρ => by
  rw [List.append_assoc]; exact bds_cons (h ρ) (hs _) he
theorem bb_tuple {ts : List Expr} {k : Nat} {pos : Pos} {ds : List PyData} {bs : Rho} (h : BBs prog w K n sc own ts ds bs) (hl : ts.length = ds.length := by rfl)
    (hstar : autoParam (∀ env, (assignEach ts env).findIdx? (·.1) = none) auK) : BB prog w K n sc own (.Tuple ts k pos) (.tuple ds) bs := fun ρ => bd_tuple (h ρ) hl hstar

noncomputable def offBs (ow : OwS) (bs : Rho) : Bool := match ow with | none => true | some (x, _) => (bs.lookup x).isNone
theorem lookup_app {bs ρ : Rho} {x : Str} : (bs ++ ρ).lookup x = (bs.lookup x).or (ρ.lookup x) := List.lookup_append

theorem ss_bind {env : Env} {Z X : Addr → Prop} {ow : OwS} {oa : Option Addr} {s : Shared} {t : Expr} {v : Value} {d : PyData} {bs : Rho} {E : Value → Shared → Prop} (hA : AOk n A) (hsc : env.scope = sc) (hS : SS K env own Z X ρ ow oa s) (hb : BB prog w K n sc own t d bs)
    (ho : offBs ow bs = true) (hr : RX (plusO X oa) s.heap v d) :
    wpAny (model prog w) A (assign t env v) (fun _ s' => SS K env own Z X (bs ++ ρ) ow oa s' ∧ Mv Z s s') E s := by
  match ow, oa with
  | none, none => exact wpAny_mono (hb ρ A env X Z s v E hA hsc hS.1 hS.2 hr) (fun _ s' h => ⟨⟨h.1, h.2.1⟩, h.2.2⟩) fun _ _ x => x
  | some (x, ds), some a =>
    obtain ⟨vs, h1, h2, h3, h4, h5, h6, h7, h8, h9⟩ := hS
    have hx : bs.lookup x = none := by simpa [offBs] using ho
    refine wpAny_mono (hb _ A env _ Z s v E hA hsc h1 h2 hr) (fun _ s' h => ⟨⟨vs, h.1.fewer fun z d' hz => ?_, h.2.1, h3, h4, h5, h6, ?_, h8.at fun o q => h.2.2.keep _ _ q h6, h9.keepX (h.2.2.keep.mono h2.sub)⟩, h.2.2⟩) fun _ _ x => x
    · rw [lookup_app]
      rcases lookup_cons_of hz with ⟨rfl, rfl⟩ | ⟨hzx, hz⟩
      · rw [hx]; simp [List.lookup_cons]
      · rw [lookup_app] at hz
        cases hbz : bs.lookup z with
        | some d'' => rw [hbz] at hz; exact hz
        | none =>
          rw [hbz] at hz
          simp only [Option.none_or] at hz ⊢
          rw [List.lookup_cons, beq_eq_false_iff_ne.mpr hzx]; exact hz
    · rw [lookup_app, hx, h7]; rfl
  | none, some _ => exact hS.elim
  | some _, none => exact hS.elim

theorem for_opq {M : Model} {A : Around} {env : Env} {s : Shared} {E : Value → Shared → Prop} {target iter : Expr} {body orelse : List Stmt} {pos : Pos} {Q : Flow → Shared → Prop}
    (h : wpAny M A (eval iter env) (fun x s₁ => wpAny M A (pyIter x) (fun it s₂ => ∀ R : Result → Shared → Prop, (∀ f s', Q f s' → R (.ok f) s') → codeAny M A (.forLoop target it body orelse env) R s₂) (fun _ _ => False) s₁) (fun _ _ => False) s)
    (hs : ∀ x, foldedSetIterable iter env x = pure x) : wpAny M A (exec (.For target iter body orelse pos) env) Q E s :=
  wpAny_For (wpAny_mono h (fun x s₁ h₁ => wpAny_mono h₁ (fun it s₂ h₂ => h₂ _ fun _ _ x => x) fun _ _ x => x.elim) fun _ _ x => x.elim) hs
theorem x1_for {ow : OwS} {target iter : Expr} {body : List Stmt} {pos : Pos} {ds : List PyData} {Q : FlowD → Rho → OwS → Prop} (I : Nat → Rho → OwS → Prop) (hit : IT prog w K n sc ρ target iter ds) (h0 : I 0 ρ ow)
    (turn : ∀ i d ρ' ow', ds[i]? = some d → I i ρ' ow' → ∃ ρ₀ bs, (∀ x e, ρ₀.lookup x = some e → ρ'.lookup x = some e) ∧ BB prog w K n sc own target d bs ∧ offBs ow' bs = true ∧
      EX prog w K n sc own (bs ++ ρ₀) ow' body fun fd ρ'' ow'' => match fd with | .next => I (i + 1) ρ'' ow'' | .cont => I (i + 1) ρ'' ow'' | .brk => Q .next ρ'' ow'' | .ret e => Q (.ret e) ρ'' ow'')
    (hend : ∀ ρ' ow', I ds.length ρ' ow' → Q .next ρ' ow') (hs : autoParam (∀ env x, foldedSetIterable iter env x = pure x) auK) : EX1 prog w K n sc own ρ ow (.For target iter body [] pos) Q := by
  intro A env X Z oa s hA hsc hZ hS
  refine for_opq (wpAny_mono (hit A env _ s hA hsc hS.raw) (fun x s₁ h₁ => wpAny_mono h₁ (fun it s₂ h₂ R hR => ?_) fun _ _ x => x) fun _ _ x => x) (hs env)
  obtain ⟨It, wr, rfl, hfw, hlw, e₂, hsrc⟩ := h₂
  obtain ⟨Ps, S, hP⟩ := hsrc (fun b => plusO X oa b ∨ wr b) (fun b h => h.imp id .inl) (fun b h => .inr h)
  have hSr := hS.raw
  have hXp : ∀ b, X b → plusO X oa b := fun b hb => by cases oa with | none => exact hb | some a => exact .inl hb
  have noXo : ∀ b, wr b → ¬ plusO X oa b := fun b hb hx => by obtain ⟨o, ho⟩ := hSr.live b hx; rw [hfw b hb] at ho; cases ho
  have noX : ∀ b, wr b → ¬ X b := fun b hb hx => noXo b hb (hXp b hx)
  have noc : ∀ x c, env.cells.lookup x = some c → ¬ wr c := fun x c hx hb => by obtain ⟨o, ho⟩ := hSr.cells x c hx; rw [hfw c hb] at ho; cases ho
  have noL : ¬ wr env.locals := fun hb => by obtain ⟨m, ⟨o, es, ep, ho, _⟩, _⟩ := hSr.vars; rw [hfw _ hb] at ho; cases ho
  let Xw : Addr → Prop := fun b => X b ∨ wr b
  have hS₂ : SS K env own Z Xw ρ ow oa s₂ := hS.more e₂ (fun b hb => hb.imp id (hfw b)) (fun b hb => hb.elim (fun h => let ⟨o, q⟩ := hSr.live b (hXp b h); ⟨o, e₂.keep _ _ q⟩) (hlw b)) fun b hb => .inl hb
  have hZw : ∀ b, Z b → Xw b := fun b hb => .inl (hZ b hb)
  let W : Addr → Prop := fun b => myZ Z oa b ∨ wr b
  have hlive : ∀ s', Mv W s₂ s' → Live (fun b => plusO X oa b ∨ wr b) s'.heap := fun s' m b hb => by
    have : ∃ o, s₂.heap.get? b = some o := hb.elim (fun h => let ⟨o, q⟩ := hSr.live b h; ⟨o, e₂.keep _ _ q⟩) (hlw b)
    obtain ⟨o, ho⟩ := this
    exact m.stay b o ho
  have hWX : ∀ b, W b → plusO X oa b ∨ wr b := fun b hb => by
    rcases hb with (h | h) | h
    · exact .inl (hXp b (hZ b h))
    · refine .inl ?_; rw [h]; exact .inr rfl
    · exact .inr h
  obtain ⟨J, hJ⟩ : ∃ J : Nat → Shared → Prop, ∀ m s', J m s' ↔ ∃ i ρ' ow' oa', m = ds.length + 1 - i ∧ i ≤ ds.length ∧ Ps i s'.heap ∧ SS K env own Z Xw ρ' ow' oa' s' ∧ I i ρ' ow' ∧ Mv W s₂ s' ∧ (∀ b, oa' = some b → oa = some b ∨ s₂.heap.get? b = none) := ⟨_, fun _ _ => Iff.rfl⟩
  refine codeAny_forLoop_any J (fun m s' hI => ?_) (ds.length + 1)
    ((hJ _ _).mpr ⟨0, ρ, ow, oa, rfl, Nat.zero_le _, hP, hS₂, h0, Mv.refl _ _, fun b hb => .inl hb⟩)
  obtain ⟨i, ρ', ow', oa', rfl, hi, hPi, hS', hI', mv, hoa⟩ := (hJ _ _).mp hI
  have finish : ∀ (fd : FlowD) (fl : Flow) (ρ'' : Rho) (ow'' : OwS) (oa'' : Option Addr) (s₃ : Shared), Q fd ρ'' ow'' → FlR X fl fd s₃ → SS K env own Z X ρ'' ow'' oa'' s₃ → KeepX W s₂.heap s₃.heap → s₃.gens = s₂.gens → s₃.os = s₂.os →
      (∀ b, oa'' = some b → oa = some b ∨ s₂.heap.get? b = none) → (∀ b, oa = some b → ∃ o, s₃.heap.get? b = some o) → Post K env own Z X oa s Q fl s₃ := by
    intro fd fl ρ'' ow'' oa'' s₃ q1 q2 q3 q4 q5 q6 q7 q8
    refine ⟨fd, ρ'', ow'', oa'', q1, q2, q3, ⟨fun b o e hz => q4 b o (e₂.keep _ _ e) fun hw => ?_, fun b o e => ?_, q5.trans e₂.gens, q6.trans e₂.os⟩, fun b hb => ?_⟩
    · rcases hw with h | h
      · exact hz h
      · rw [hfw b h] at e; cases e
    · by_cases hxb : plusO X oa b
      · have : X b ∨ oa = some b := by
          cases oa with
          | none => exact .inl hxb
          | some a => exact hxb.imp id fun h => by rw [h]
        rcases this with h | h
        · exact q3.full.live b h
        · exact q8 b h
      · refine ⟨o, q4 b o (e₂.keep _ _ e) fun hw => ?_⟩
        rcases hWX b hw with h | h
        · exact hxb h
        · rw [hfw b h] at e; cases e
    · rcases q7 b hb with h | h
      · exact .inl h
      · refine .inr ?_
        cases e : s.heap.get? b with
        | none => rfl
        | some o => rw [e₂.keep _ _ e] at h; cases h
  by_cases hlt : i < ds.length
  · have hd : ds[i]? = some ds[i] := by simp [hlt]
    refine wpAny_mono (S.item i ds[i] s' (fun v s₁ => RX (newX (fun b => plusO X oa b ∨ wr b) s₂.heap s'.heap) s₁.heap v ds[i] ∧ Ps (i + 1) s₁.heap ∧ Mv wr s' s₁) _ hd (hlive s' mv) hPi fun v s₁ a b c => ⟨a, b, c⟩) (fun r s₃ h₃ => ?_) fun _ _ x => x
    cases r with
    | none => exact h₃.elim
    | some v =>
      refine wpAny_mono h₃ (fun _ s₄ h₄ => ?_) fun _ _ x => x
      obtain ⟨r₄, hP₄, mv₄⟩ := h₄
      have hS₄ := hS'.move mv₄ (fun b hb => .inr hb) noL noc
      obtain ⟨ρ₀, bs, hsub, hbb, hoff, hex⟩ := turn i ds[i] ρ' ow' hd hI'
      have hr : RX (plusO Xw oa') s₄.heap v ds[i] := r₄.weaken fun b hb => by
        have : Xw b ∨ oa' = some b := by
          cases oa' with
          | none => exact .inl hb
          | some a => exact hb.imp id fun h => by rw [h]
        rcases this with (h | h) | h
        · exact .inl (.inl (hXp b h))
        · exact .inl (.inr h)
        · rcases hoa b h with h' | h'
          · refine .inl (.inl ?_); rw [h']; exact .inr rfl
          · refine .inr ⟨h', ?_⟩
            cases ow' with
            | none => cases oa' with
              | none => cases h
              | some _ => exact hS'.elim
            | some xd => cases oa' with
              | none => cases h
              | some a =>
                cases h
                obtain ⟨vs, g1, _⟩ := hS'
                exact g1.live _ (.inr rfl)
      refine wpAny_mono (ss_bind hA hsc (hS₄.fewer hsub) hbb hoff hr) (fun _ s₅ h₅ => ?_) fun _ _ x => x
      obtain ⟨hS₅, mv₅⟩ := h₅
      have mv45 : Mv W s' s₅ := (mv₄.mono fun b h => .inr h).trans (mv₅.mono fun b h => .inl (.inl h))
      have hP₅ : Ps (i + 1) s₅.heap := S.frame _ _ _ hP₄ ((mv.trans mv45).keep.mono hWX) fun b o hb e => mv₅.keep _ _ e fun hz => noX b hb (hZ b hz)
      refine wpAny_mono (hex A env Xw Z oa' s₅ hA hsc hZw hS₅) (fun fl s₆ h₆ => ?_) fun _ _ x => x.elim
      obtain ⟨fd, ρ₆, ow₆, oa₆, q1, q2, q3, q4, q5⟩ := h₆
      -- what the body changed, seen from the loop's start
      have mv6 : Mv W s₂ s₆ := by
        have m5 := mv.trans mv45
        refine ⟨fun b o e hw => q4.keep b o (m5.keep b o e hw) fun hz => ?_, fun b o e => ?_, q4.gens.trans m5.gens, q4.os.trans m5.os⟩
        · rcases hz with h | h
          · exact hw (.inl (.inl h))
          · rcases hoa b h with h' | h'
            · exact hw (.inl (.inr h'))
            · rw [h'] at e; cases e
        · obtain ⟨o', e'⟩ := m5.stay b o e; exact q4.stay b o' e'
      have hoa6 : ∀ b, oa₆ = some b → oa = some b ∨ s₂.heap.get? b = none := fun b hb => by
        rcases q5 b hb with h | h
        · exact hoa b h
        · refine .inr ?_
          cases e : s₂.heap.get? b with
          | none => rfl
          | some o => obtain ⟨o', e'⟩ := (mv.trans mv45).stay b o e; rw [h] at e'; cases e'
      have hwk : ∀ b o, wr b → s₅.heap.get? b = some o → s₆.heap.get? b = some o := fun b o hb e => q4.keep b o e fun hz => by
        rcases hz with h | h
        · exact noX b hb (hZ b h)
        · rcases hoa b h with h' | h'
          · exact noXo b hb (by rw [h']; exact .inr rfl)
          · obtain ⟨o', ho'⟩ := hlw b hb; rw [h'] at ho'; cases ho'
      have goOn : I (i + 1) ρ₆ ow₆ → ∃ m, m < ds.length + 1 - i ∧ J m s₆ := fun hi6 =>
        ⟨ds.length + 1 - (i + 1), turn_lt hlt, (hJ _ _).mpr ⟨i + 1, ρ₆, ow₆, oa₆, rfl, hlt, S.frame _ _ _ hP₅ (mv6.keep.mono hWX) hwk, q3, hi6, mv6, hoa6⟩⟩
      have hqX : SS K env own Z X ρ₆ ow₆ oa₆ s₆ := q3.drop (W := fun _ => False) (KeepX.refl _ _) (fun _ h => h.elim) (fun h => h) (fun _ _ _ h => h) (fun b hb => ⟨.inl hb, fun h => h⟩) hZ
      have hoal : ∀ b, oa = some b → ∃ o, s₆.heap.get? b = some o := fun b hb => hlive s₆ mv6 b (.inl (by rw [hb]; exact .inr rfl))
      match fl, fd with
      | .next, .next => exact goOn q1
      | .cont, .cont => exact goOn q1
      | .brk, .brk => exact hR _ _ (finish .next .next ρ₆ ow₆ oa₆ s₆ q1 trivial hqX mv6.keep mv6.gens mv6.os hoa6 hoal)
      | .ret u, .ret d => exact hR _ _ (finish (.ret d) (.ret u) ρ₆ ow₆ oa₆ s₆ q1 (RX.weaken (Y := X) q2 fun b hb => .inl hb) hqX mv6.keep mv6.gens mv6.os hoa6 hoal)
  · have hin : i = ds.length := by lia
    subst hin
    refine wpAny_mono (S.done s' (fun s₁ => KeepX wr s'.heap s₁.heap ∧ s₁.gens = s'.gens ∧ s₁.os = s'.os) _ hPi fun s₁ a b c => ⟨a, b, c⟩) (fun r s₃ h₃ => ?_) fun _ _ x => x
    obtain ⟨rfl, hk, hg, ho⟩ := h₃
    have hqX : SS K env own Z X ρ' ow' oa' s₃ := hS'.drop hk (fun b hb => .inr hb) noL noc (fun b hb => ⟨.inl hb, fun hw => noX b hw hb⟩) hZ
    refine wpAny_execs_nil (hR _ _ ?_)
    refine finish .next .next ρ' ow' oa' s₃ (hend ρ' ow' hI') trivial hqX (mv.keep.trans (hk.mono fun b h => .inr h)) (hg.trans mv.gens) (ho.trans mv.os) hoa fun b hb => ?_
    obtain ⟨o, ho⟩ := hlive s' mv b (.inl (by rw [hb]; exact .inr rfl))
    exact ⟨o, hk _ _ ho fun hw => noXo b hw (by rw [hb]; exact .inr rfl)⟩
end Mine

open PySem PySem.W PyProof.Rows PySem.Calls
namespace Mine

variable {prog : Program} {w : World} {K : Frag} {n : Nat} {sc : Scope} {ρ : Rho} {own : List Str} {A : Around}

theorem exec_comp_used {elt : Expr} {gens : List Comprehension} {scope : Scope} {cp p pos : Pos} {y : Str} {env : Env} (hs : swapsWith (.ListComp elt gens scope cp) (some (.Name y p)) pos.line env = pure true) (ha : firstAsync gens = false) :
    exec (.Assign [.Name y p] (.ListComp elt gens scope cp) pos) env = (do
      standAt pos
      let _ ← comprehension (.ListComp elt gens scope cp) scope env (firstIterPos gens cp) (newList []) false (firstIter gens env) (some (assign (.Name y p) env))
      return .next) := by
  rw [exec_Assign_Name_used _ _ _ _ hs, ← ha]
  show (do standAt pos; (do let _ ← comprehension _ _ _ _ _ _ _ _); return Flow.next) = _
  simp only [bind_assoc, pure_bind]

/-- y = [.. for ..]: the store before the loop's names go -/
theorem x1_comp {ow : OwS} {elt : Expr} {target iter : Expr} {ifs : List Expr} {gs : List Comprehension} {scope : Scope} {cp p pos : Pos} {y : Str} {ds : List PyData} {ρc : Rho} {inner : Value → Env → Sem Unit} {Q : FlowD → Rho → OwS → Prop} (f : PyData → List PyData)
    (hit : IT prog w K n sc ρ target iter ds) (hfr : FR ρ scope.names ρc) (hok : compOk scope sc = true)
    (heq : ∀ it acc env, compTurn (.ListComp elt (⟨target, iter, ifs, 0⟩ :: gs) scope cp) 0 it acc env = turnTree target iter ifs it env (inner acc env) (again (.compLoop (.ListComp elt (⟨target, iter, ifs, 0⟩ :: gs) scope cp) 0 it acc env)))
    (turns : ∀ d ∈ ds, ∃ ρd b, BD prog w K n (relabelS scope sc) (cellNames scope) target d ρc ρd ∧ TI prog w K n (relabelS scope sc) ρd ifs b ∧ (b = true → CI prog w K n (relabelS scope sc) (cellNames scope) ρd inner (f d)) ∧ (b = false → f d = []) ∧
      (∀ x d', ρc.lookup x = some d' → ρd.lookup x = some d'))
    (hsz : (ds.flatMap f).length ≤ sizeLine) (hy : stoB sc own y = true) (ho : offB ow y = true) (hq : Q .next ((y, .list (ds.flatMap f)) :: ρ) ow)
    (hs : autoParam (∀ env x, foldedSetIterable iter env x = pure x) auK)
    (hsw : ∀ env, env.scope = sc → swapsWith (.ListComp elt (⟨target, iter, ifs, 0⟩ :: gs) scope cp) (some (.Name y p)) pos.line env = pure true) : EX1 prog w K n sc own ρ ow (.Assign [.Name y p] (.ListComp elt (⟨target, iter, ifs, 0⟩ :: gs) scope cp) pos) Q := by
  intro A env X Z oa s hA hsc hZ hS
  rw [exec_comp_used (hsw env hsc) rfl]
  refine wpAny_bind (wpAny_standAt (wpAny_bind ?_))
  have hSr := hS.raw
  have hXp : ∀ b, X b → plusO X oa b := fun b hb => by cases oa with | none => exact hb | some a => exact .inl hb
  refine comp_run (Q := fun _ s' => wpAny (model prog w) A (pure Flow.next) (Post K env own Z X oa s Q) (fun _ _ => False) s') (use := some (assign (.Name y p) env)) hA hsc hSr hit hfr hok heq turns hsz hs fun acc C s' h => ?_
  obtain ⟨h1, h2, ⟨m, h3⟩, h4⟩ := h
  have hCX : ¬ plusO X oa C := fun hx => by obtain ⟨o, q⟩ := hSr.live C hx; rw [h1] at q; cases q
  have hC' : ∃ o, s'.heap.get? C = some o := by obtain ⟨o, _, _, q, _⟩ := h3; exact ⟨o, q⟩
  have hS' : SS K env own Z (plus X C) ρ ow oa s' := hS.more h2 (fun b (hb : X b ∨ b = C) => hb.imp id fun q => by rw [q]; exact h1) (fun b (hb : X b ∨ b = C) => hb.elim (fun hb => let ⟨o, q⟩ := hSr.live b (hXp b hb); ⟨o, h2.keep _ _ q⟩) fun q => by rw [q]; exact hC') fun b hb => .inl hb
  refine wpAny_assign_Name (wpAny_mono (ss_store hS' (Sto.of (hsc ▸ hy)) (offB.ne ho) (h4.weaken fun b hb => ?_)) (fun _ s₂ h₂ => ?_) fun _ _ x => x)
  · cases oa with
    | none => exact hb
    | some a => rcases hb with (hb | hb) | hb
                · exact .inl (.inl hb)
                · exact .inr hb
                · exact .inl (.inr hb)
  obtain ⟨hS₂, mv₂⟩ := h₂
  have hCZ : ¬ Z C := fun hz => hCX (hXp C (hZ C hz))
  refine ⟨m, h3.at' fun o q => mv₂.keep _ _ q hCZ, fun h' hs' => wpAny_pure ?_⟩
  have hCL : C ≠ env.locals := fun q => by obtain ⟨m, ⟨o, _, _, ho, _⟩, _⟩ := hSr.vars; rw [← q, h1] at ho; cases ho
  have hCc : ∀ x c, env.cells.lookup x = some c → c ≠ C := fun x c hx q => by obtain ⟨o, ho⟩ := hSr.cells x c hx; rw [q, h1] at ho; cases ho
  have hk : KeepX (fun b => b = C) s₂.heap h' := fun b o e hb => hs'.extBut b o hb e
  have hS₃ : SS K env own Z X ((y, .list (ds.flatMap f)) :: ρ) ow oa { s₂ with heap := h' } := hS₂.drop hk (fun b q => .inr q) (fun q => hCL q.symm) (fun x c hx q => hCc x c hx q) (fun b hb => ⟨.inl hb, fun q => hCX (hXp C (q ▸ hb))⟩) hZ
  refine ⟨.next, _, ow, oa, hq, trivial, hS₃, ⟨fun b o e hz => ?_, fun b o e => ?_, mv₂.gens.trans h2.gens, mv₂.os.trans h2.os⟩, fun b hb => .inl hb⟩
  · exact hk _ _ (mv₂.keep _ _ (h2.keep _ _ e) fun q => hz (.inl q)) fun q => by rw [q, h1] at e; cases e
  · obtain ⟨o', e'⟩ := mv₂.stay b o (h2.keep _ _ e)
    exact ⟨o', hk _ _ e' fun q => by rw [q, h1] at e; cases e⟩

/-- list + list -/
theorem list_add {E : Value → Shared → Prop} {s : Shared} {l b : Addr} {vs ws : List Value} {Q : Value → Shared → Prop} (hl : s.heap.PlainList l vs.toArray) (hb : s.heap.PlainList b ws.toArray) (hsz : vs.length + ws.length ≤ sizeLine)
    (h : Q (.ref s.heap.objs.size) { s with heap := s.heap.push { cls := .type "list", data := .seq (vs ++ ws).toArray } }) : wpAny (model prog w) A (binaryOp .Add (.ref l) (.ref b)) Q E s := by
  obtain ⟨n, ho⟩ := hl
  obtain ⟨n2, ho2⟩ := hb
  have e : vs.toArray ++ ws.toArray = (vs ++ ws).toArray := by simp
  refine concat_meets ⟨_, ho, rfl⟩ ⟨_, ho2, rfl⟩ noFill_list_add seq_list_add PySem.F.slot_list_add PySem.F.entry_list_add (PySem.F.args_list_add_2 _ _) (list_addW l b vs.toArray ws.toArray n n2 none none #[] #[] (by simpa using hsz)) ⟨ho, ho2, ?_⟩
  rw [e]; exact h
theorem bo_list {ds es : List PyData} (hsz : ds.length + es.length ≤ sizeLine) : BO prog w K n .Add (.list ds) (.list es) (.list (ds ++ es)) := by
  intro A X s v₁ v₂ hA hg hl r₁ r₂
  obtain ⟨a, vs, rfl, ha, rs, hXa⟩ := r₁.of_list
  obtain ⟨b, ws, rfl, hb, rs', hXb⟩ := r₂.of_list
  refine list_add ha hb (by rw [rs.length, rs'.length]; exact hsz) ⟨⟨Keep.push _ _, rfl, rfl⟩, ?_⟩
  exact .list ⟨_, Heap.get?_push_size _ rfl⟩ hl.size ((rs.append rs').keep (Keep.push _ _))

/-- x = x + e, x holding its list alone: a new list, again held by x alone -/
theorem x1_add {x : Str} {ds es : List PyData} {p p' bp pos : Pos} {e : Expr} {Q : FlowD → Rho → OwS → Prop} (he : EV prog w K n sc ρ e (.list es)) (hsz : ds.length + es.length ≤ sizeLine) (hx : stoB sc own x = true) (hq : Q .next ρ (some (x, ds ++ es)))
    (hdb : autoParam ((x == ("__debug__" : Str)) = false) auK) (hdc : autoParam ((x == ("__classdict__" : Str)) = false) auK)
    (hsw : autoParam (∀ env, swapsWith (.BinOp (.Name x p') .Add e bp) (some (.Name x p)) pos.line env = pure false) auK) :
    EX1 prog w K n sc own ρ (some (x, ds)) (.Assign [.Name x p] (.BinOp (.Name x p') .Add e bp) pos) Q := by
  intro A env X Z oa s hA hsc hZ hS
  match oa with
  | none => exact hS.elim
  | some a =>
  obtain ⟨vs, h1, h2, h3, h4, h5, h6, h7, h8, h9⟩ := id hS
  refine wpAny_Assign_Name (wpAny_BinOp ?_) (hsw env)
  refine wpAny_mono (ev_name (prog := prog) (w := w) (K := K) (n := n) (sc := sc) (ρ := (x, rawD a) :: ρ) (x := x) (pos := p') (d := rawD a) (by simp [List.lookup_cons]) hdb hdc A env (plus X a) s hA hsc h1) (fun v s₁ h₁ => ?_) fun _ _ x => x.elim
  obtain rfl := h₁.2.of_raw
  have hS₁ := hS.ext h₁.1
  refine wpAny_mono (he A env _ s₁ hA hsc hS₁.raw) (fun u s₂ h₂ => ?_) fun _ _ x => x.elim
  have hS₂ := hS₁.ext h₂.1
  obtain ⟨vs, g1, g2, g3, g4, g5, g6, g7, g8, g9⟩ := id hS₂
  obtain ⟨b, ws, rfl, hb, rs', hXb⟩ := h₂.2.of_list
  refine list_add g8 hb (by rw [g9.length, rs'.length]; exact hsz) ?_
  generalize hH : s₂.heap.push { cls := .type "list", data := .seq (vs ++ ws).toArray } = H
  generalize haa : s₂.heap.objs.size = c
  have hcf : s₂.heap.get? c = none := haa ▸ get?_size_none _
  have hk : Keep s₂.heap H := hH ▸ Keep.push _ _
  have hcl : H.get? c = some { cls := .type "list", data := .seq (vs ++ ws).toArray } := by rw [← hH, ← haa]; exact Heap.get?_push_size _ rfl
  have e₃ : Ext s₂ { s₂ with heap := H } := ⟨hk, rfl, rfl⟩
  have hD : SS K env own Z X (full ρ (some (x, ds))) none none s₂ := hS₂.disown hZ
  have hD' : SS K env own Z X ρ none none s₂ := hD.fewer fun z d hz => by
    show List.lookup z ((x, .list ds) :: ρ) = _
    rw [List.lookup_cons]
    have : (z == x) = false := beq_eq_false_iff_ne.mpr fun q => by rw [q, g7] at hz; cases hz
    rw [this]; exact hz
  have hs : ∀ b, plus X c b → X b ∨ s₂.heap.get? b = none := fun b hb => hb.elim .inl fun q => .inr (q ▸ hcf)
  have hS₃ : SS K env own Z (plus X c) ρ none none { s₂ with heap := H } := hD'.more e₃ hs (fun b hb => hb.elim (fun hb => let ⟨o, q⟩ := hD'.1.live b hb; ⟨o, hk _ _ q⟩) fun q => ⟨_, q ▸ hcl⟩) fun b hb => .inl hb
  have hXc : ¬ X c := fun hx => by obtain ⟨o, q⟩ := hD'.1.live c hx; rw [hcf] at q; cases q
  have hZc : ¬ Z c := fun hz => hXc (hZ c hz)
  refine wpAny_mono (store_name hS₃.1 hS₃.2 (Sto.of (hsc ▸ hx)) (RX.raw c)) (fun _ s₄ h₄ => ?_) fun _ _ x => x
  have rr : RXs (plus X c) s₄.heap (vs ++ ws) (ds ++ es) := by
    have q1 : RXs X s₂.heap (vs ++ ws) (ds ++ es) := (g9.append rs').weaken fun b hb => .inl hb
    exact ((q1.more hs).keep hk).keepX (h₄.2.2.keep.mono hS₃.2.sub)
  refine ⟨.next, ρ, some (x, ds ++ es), some c, hq, trivial, ⟨vs ++ ws, h₄.1, h₄.2.1, hXc, fun e' => ?_, fun z c' hz e' => ?_, hZc, g7, ⟨_, h₄.2.2.keep _ _ hcl hZc⟩, rr⟩, ?_, fun b hb => ?_⟩
  · obtain ⟨m, ⟨o, _, _, q, _⟩, _⟩ := hD'.1.vars; rw [← e', hcf] at q; cases q
  · obtain ⟨o, q⟩ := hD'.1.cells z c' hz; rw [e', hcf] at q; cases q
  · exact (((h₁.1.trans h₂.1).trans e₃).mv _).trans h₄.2.2.z
  · cases hb
    refine .inr ?_
    cases q : s.heap.get? c with
    | none => rfl
    | some o => have := (h₁.1.trans h₂.1).keep _ _ q; rw [hcf] at this; cases this
end Mine

open PySem PySem.W PyProof.Rows PySem.Calls
namespace Mine

variable {prog : Program} {w : World} {K : Frag} {n : Nat} {sc : Scope} {ρ : Rho} {own : List Str} {A : Around}

theorem bindL_not (k : Str → Option NameKind) : ∀ (binds : List (Str × Value)) (m : Str → Option Value) (x : Str), x ∉ binds.map (·.1) → bindL k binds m x = m x
  | [], m, x, _ => rfl
  | (y, v) :: r, m, x, h => by
    simp only [List.map_cons, List.mem_cons, not_or] at h
    unfold bindL
    rw [bindL_not k r _ x h.2]
    split
    · exact if_neg h.1
    · rfl
theorem bindC_not (k : Str → Option NameKind) : ∀ (binds : List (Str × Value)) (m : Str → Option Value) (x : Str), x ∉ binds.map (·.1) → bindC k binds m x = m x
  | [], m, x, _ => rfl
  | (y, v) :: r, m, x, h => by
    simp only [List.map_cons, List.mem_cons, not_or] at h
    unfold bindC
    rw [bindC_not k r _ x h.2]
    split
    · rfl
    · exact if_neg h.1
theorem bindL_at (k : Str → Option NameKind) (binds : List (Str × Value)) : ∀ (m : Str → Option Value) (x : Str) (v : Value), (binds.map (·.1)).Nodup → (x, v) ∈ binds → k x = some .local → bindL k binds m x = some v := by
  induction binds with
  | nil => intro m x v _ h; cases h
  | cons p r ih =>
    intro m x v hn h hk
    simp only [List.map_cons, List.nodup_cons] at hn
    unfold bindL
    rcases List.mem_cons.mp h with e | e
    · subst e
      rw [bindL_not k r _ x hn.1, if_pos hk]; simp
    · exact ih _ x v hn.2 e hk
theorem bindC_at (k : Str → Option NameKind) (binds : List (Str × Value)) : ∀ (m : Str → Option Value) (x : Str) (v : Value), (binds.map (·.1)).Nodup → (x, v) ∈ binds → k x ≠ some .local → bindC k binds m x = some v := by
  induction binds with
  | nil => intro m x v _ h; cases h
  | cons p r ih =>
    intro m x v hn h hk
    simp only [List.map_cons, List.nodup_cons] at hn
    unfold bindC
    rcases List.mem_cons.mp h with e | e
    · subst e
      rw [bindC_not k r _ x hn.1, if_neg hk]; simp
    · exact ih _ x v hn.2 e hk

theorem zip_get {X : Addr → Prop} {h : Heap} : ∀ {ps : List Str} {vs : List Value} {ds : List PyData}, RXs X h vs ds → ∀ x d, (ps.zip ds).lookup x = some d → ∃ v, (x, v) ∈ ps.zip vs ∧ RX X h v d
  | [], vs, ds, r, x, d, e => by simp at e
  | p :: ps, vs, [], r, x, d, e => by simp at e
  | p :: ps, vs, d₀ :: ds, r, x, d, e => by
    obtain ⟨v, vs', rfl, r1, rs⟩ := r.of_cons
    simp only [List.zip_cons_cons] at e ⊢
    rw [List.lookup_cons] at e
    cases hb : x == p with
    | true => rw [hb] at e; cases e; obtain rfl := beq_iff_eq.mp hb; exact ⟨v, List.mem_cons_self, r1⟩
    | false => rw [hb] at e; obtain ⟨u, h1, h2⟩ := zip_get rs x d e; exact ⟨u, List.mem_cons_of_mem _ h1, h2⟩
theorem zip_fst {α : Type} : ∀ (ps : List Str) (vs : List α), vs.length = ps.length → (ps.zip vs).map (·.1) = ps
  | [], vs, _ => by simp
  | p :: ps, [], h => by simp at h
  | p :: ps, v :: vs, h => by simp only [List.zip_cons_cons, List.map_cons]; rw [zip_fst ps vs (by simpa using h)]

/-- a def of the text -/
structure DefAt (K : Frag) (a : Addr) (fd : FuncData) (body : List Stmt) (ps : List Str) : Prop where
  at_ : ∃ o, K.lookup a = some o ∧ o.data = .func fd
  body : fd.body = .stmts body
  clo : fd.closure = []
  glob : fd.globals = mainGlobals
  blt : fd.builtins = builtinsNs
  code : ∃ c oc vs t, fd.code = .ref c ∧ K.lookup c = some oc ∧ oc.data = .fields vs ∧ vs[1]? = some (.str fd.qualname t)
  bind : ∀ vs, vs.length = ps.length → bindArgs fd ⟨vs, []⟩ = pure (ps.zip vs)
  kinds : ∀ x ∈ ps, fd.scope.names.lookup x = some .local ∨ fd.scope.names.lookup x = some .cell
  nodup : ps.Nodup
  co : fd.scope.isCoroutine = false
  gen : fd.scope.isGenerator = false
  kind : fd.scope.kind = .function
  look : ∀ x k, (x, k) ∈ fd.scope.names → fd.scope.names.lookup x = some k

theorem AOk.deeper {A : Around} (h : AOk (n + 1) A) (env : Env) : AOk n (A.deeper env) :=
  ⟨h.hh, by have := h.dep; show A.depth + 1 + n < _; lia, by have := h.un; show A.units + 3 + 16 * n + 200 < _; lia⟩

theorem mem_of_lookupK {names : List (Str × NameKind)} {x : Str} {k : NameKind} (h : names.lookup x = some k) : (x, k) ∈ names := mem_of_lookup h

theorem cells_some (names : List (Str × NameKind)) (N : Nat) (x : Str) (h : (x, NameKind.cell) ∈ names) : ((cellsFrom N names []).lookup x).isSome = true := by
  have gen : ∀ (names : List (Str × NameKind)) (N : Nat) (acc : List (Str × Addr)), ((x, NameKind.cell) ∈ names ∨ (acc.lookup x).isSome = true) → ((cellsFrom N names acc).lookup x).isSome = true := by
    intro names
    induction names with
    | nil => intro N acc h; exact h.resolve_left List.not_mem_nil
    | cons p r ih =>
      intro N acc h
      obtain ⟨y, k⟩ := p
      unfold cellsFrom
      split
      · rename_i hk
        refine ih _ _ ?_
        rcases h with h | h
        · rcases List.mem_cons.mp h with e | e
          · obtain rfl := (Prod.mk.inj e).1; exact .inr (by simp [List.lookup_cons])
          · exact .inl e
        · refine .inr ?_
          rw [List.lookup_cons]
          cases x == y <;> simp [h]
      · rename_i hk
        refine ih _ _ ?_
        rcases h with h | h
        · rcases List.mem_cons.mp h with e | e
          · obtain ⟨rfl, rfl⟩ := Prod.mk.inj e; simp at hk
          · exact .inl e
        · exact .inr h
  exact gen names N [] (.inl h)

theorem ca_def {a : Addr} {fd : FuncData} {body : List Stmt} {ps : List Str} {ds : List PyData} {d : PyData} (D : DefAt K a fd body ps) (hlen : ds.length = ps.length)
    (hex : EX prog w K n fd.scope (cellNames fd.scope) (ps.zip ds) none body fun f _ _ => f = .ret d) : CA prog w K (n + 1) (.ref a) ds d := by
  intro A X s vs hA hg hl hr
  obtain ⟨o, hoK, hdata⟩ := D.at_
  have hgf := hg.gf
  have hlv : vs.length = ps.length := hr.length.trans hlen
  have hcd : s.heap.CodeRec fd.code fd.qualname := by
    obtain ⟨c, oc, us, t, h1, h2, h3, h4⟩ := D.code
    exact ⟨c, oc, us, t, h1, hgf.kin _ _ h2, h3, h4⟩
  have hfst := zip_fst ps vs hlv
  refine wpAny_call (codeAny_call_cells (by have := hA.dep; lia) (hgf.kin _ _ hoK) hdata hgf.lim hcd D.body (D.bind vs hlv) D.clo (fun x hx => ?_) (fun s₁ hin => ?_) D.co D.gen D.kind)
  · have hxp : x.1 ∈ ps := by rw [← hfst]; exact List.mem_map.mpr ⟨x, hx, rfl⟩
    rcases D.kinds x.1 hxp with h | h
    · exact .inl h
    · exact .inr ⟨h, cells_some _ _ _ (mem_of_lookupK h)⟩
  generalize hL : s.heap.objs.size = L at hin
  generalize henv : callEnvC fd L a = env at hin ⊢
  have hsc : env.scope = fd.scope := by rw [← henv]; rfl
  have hloc : env.locals = L := by rw [← henv]; rfl
  have hcel : env.cells = cellsFrom (L + 1) fd.scope.names [] := by rw [← henv]; rfl
  obtain ⟨h', tk, hsame⟩ := hin.toInCall.same
  have hns := hin.toInCall.ns
  have hkeep := hin.toInCall.keep
  have hfresh : s.heap.objs.size ≤ env.locals := hin.toInCall.fresh
  let Z : Addr → Prop := fun b => b = env.locals ∨ ∃ x, env.cells.lookup x = some b
  have hZf : ∀ b, Z b → s.heap.get? b = none := fun b hb => by
    rcases hb with rfl | ⟨x, hx⟩
    · exact get?_ge_none _ hfresh
    · exact get?_ge_none _ (Nat.le_trans hfresh (Nat.le_of_lt (hin.above x b (mem_of_lookup hx))))
  let X' : Addr → Prop := fun b => X b ∨ Z b
  have hs : ∀ b, X' b → X b ∨ s.heap.get? b = none := fun b hb => hb.imp id (hZf b)
  have ext : Ext s s₁ := ⟨hkeep, by rw [hsame], by rw [hsame]⟩
  have hcl : ∀ x c, env.cells.lookup x = some c → ∃ o, s₁.heap.get? c = some o := fun x c hx => by obtain ⟨o, ho, _⟩ := hin.cell x c hx; exact ⟨o, ho⟩
  have hlive : Live X' s₁.heap := fun b hb => by
    rcases hb with h | h | ⟨x, h⟩
    · obtain ⟨o, ho⟩ := hl b h; exact ⟨o, ext.keep _ _ ho⟩
    · obtain ⟨o, _, _, ho, _⟩ := hns; exact ⟨o, h ▸ ho⟩
    · exact hcl x b h
  have hkindOf : ∀ x, env.kindOf x = fd.scope.names.lookup x := fun x => by show env.scope.names.lookup x = _; rw [hsc]
  have hnd : ((ps.zip vs).map (·.1)).Nodup := by rw [hfst]; exact D.nodup
  have hSt : St K env X' (ps.zip ds) s₁ := by
    refine ⟨(hg.more hs).keep ext.keep, hlive, ⟨_, hns, fun x d' hx => ?_⟩, by rw [hsc]; exact D.kind, by rw [← henv]; exact D.glob, by rw [← henv]; exact D.blt, hcl⟩
    obtain ⟨v, hv, rv⟩ := zip_get hr x d' hx
    refine ⟨v, (rv.more hs).keep ext.keep, ?_⟩
    have hxp : x ∈ ps := by rw [← hfst]; exact List.mem_map.mpr ⟨_, hv, rfl⟩
    rcases D.kinds x hxp with h | h
    · exact .inl ⟨(hkindOf x).trans h, bindL_at _ _ _ x v hnd hv ((hkindOf x).trans h)⟩
    · have hk : env.kindOf x = some .cell := (hkindOf x).trans h
      obtain ⟨c, hc⟩ := Option.isSome_iff_exists.mp (cells_some fd.scope.names (L + 1) x (mem_of_lookupK h))
      have hc' : env.cells.lookup x = some c := by rw [hcel]; exact hc
      have := hin.cell x c hc'
      rw [bindC_at _ _ _ x v hnd hv (by rw [hk]; decide)] at this
      exact .inr ⟨.inl hk, c, hc', this⟩
  have hFm : Fm env (cellNames fd.scope) Z X' s₁.heap := by
    refine ⟨.inl rfl, fun x hx hk => ?_, fun x hx hk y c h1 h2 => ?_, fun b hb => .inr hb⟩
    · obtain ⟨c, hc⟩ := Option.isSome_iff_exists.mp (cells_some fd.scope.names (L + 1) x (mem_cellNames.mp hx))
      have hc' : env.cells.lookup x = some c := by rw [hcel]; exact hc
      exact ⟨c, _, hc', hin.cell x c hc', .inr ⟨x, hc'⟩⟩
    · exact name_of_addr hin.apart (mem_of_lookup h2) (mem_of_lookup h1)
  refine wpAny_mono (hex (A.deeper env) env X' Z none s₁ (hA.deeper env) hsc (fun b hb => .inr hb) ⟨hSt, hFm⟩) (fun fl s' h' => ?_) fun _ _ x => x.elim
  obtain ⟨fd', ρ', ow', oa', rfl, h2, h3, h4, h5⟩ := h'
  match fl with
  | .ret v =>
    refine ⟨⟨fun b o e => h4.keep b o (ext.keep _ _ e) fun hz => ?_, h4.gens.trans ext.gens, h4.os.trans ext.os⟩, RX.weaken (Y := X) h2 fun b hb => .inl hb⟩
    rcases hz with hz | hz
    · rw [hZf b hz] at e; cases e
    · cases hz
  | .next => exact h2.elim
  | .brk => exact h2.elim
  | .cont => exact h2.elim
end Mine

open PySem PySem.W PyProof.Rows PySem.Calls
namespace Mine

variable {prog : Program} {w : World} {K : Frag} {n : Nat} {sc : Scope} {ρ : Rho} {own : List Str} {A : Around}

noncomputable abbrev Wd := List Nat
noncomputable def sD (x : Wd) : PyData := .str ⟨x.toArray⟩
noncomputable def lD (ws : List Wd) : PyData := .list (ws.map sD)

theorem bo_add {a b : Int} : BO prog w K n .Add (.int a) (.int b) (.int (a + b)) := by
  intro A X s v₁ v₂ hA hg hl r₁ r₂
  obtain ⟨t, rfl⟩ := r₁.of_int
  obtain ⟨u, rfl⟩ := r₂.of_int
  exact add_int ⟨Ext.tok _, RX.int _ _⟩
theorem bo_sub {a b : Int} : BO prog w K n .Sub (.int a) (.int b) (.int (a - b)) := by
  intro A X s v₁ v₂ hA hg hl r₁ r₂
  obtain ⟨t, rfl⟩ := r₁.of_int
  obtain ⟨u, rfl⟩ := r₂.of_int
  exact PyProof.Rows.sub_int ⟨Ext.tok _, RX.int _ _⟩
theorem bo_mul {a b : Int} (h : IntMulOk a b) : BO prog w K n .Mult (.int a) (.int b) (.int (a * b)) := by
  intro A X s v₁ v₂ hA hg hl r₁ r₂
  obtain ⟨t, rfl⟩ := r₁.of_int
  obtain ⟨u, rfl⟩ := r₂.of_int
  exact PyProof.Rows.mul_int ⟨Ext.tok _, RX.int _ _⟩ h
theorem bo_fdiv {a b : Int} (h0 : b ≠ 0) (h : Builtin.divisionGoesByPylong a b = false) : BO prog w K n .FloorDiv (.int a) (.int b) (.int (Int.fdiv a b)) := by
  intro A X s v₁ v₂ hA hg hl r₁ r₂
  obtain ⟨t, rfl⟩ := r₁.of_int
  obtain ⟨u, rfl⟩ := r₂.of_int
  exact floordiv_int h0 ⟨Ext.tok _, RX.int _ _⟩ (.inl h)
theorem bo_mod {a b : Int} (h0 : b ≠ 0) : BO prog w K n .Mod (.int a) (.int b) (.int (Int.fmod a b)) := by
  intro A X s v₁ v₂ hA hg hl r₁ r₂
  obtain ⟨t, rfl⟩ := r₁.of_int
  obtain ⟨u, rfl⟩ := r₂.of_int
  exact mod_int' h0 ⟨Ext.tok _, RX.int _ _⟩
theorem str_app (a b : Wd) : (⟨a.toArray⟩ : Str) ++ ⟨b.toArray⟩ = ⟨(a ++ b).toArray⟩ := by
  show Str.mk (a.toArray ++ b.toArray) = _; simp
theorem str_len (a : Wd) : (⟨a.toArray⟩ : Str).length = a.length := by show a.toArray.size = _; simp
theorem bo_cat {a b : Wd} (h : a.length + b.length ≤ sizeLine) : BO prog w K n .Add (sD a) (sD b) (sD (a ++ b)) := by
  intro A X s v₁ v₂ hA hg hl r₁ r₂
  obtain ⟨t, rfl⟩ := r₁.of_str
  obtain ⟨u, rfl⟩ := r₂.of_str
  refine add_str (fun t' tk => ⟨Ext.tok _, ?_⟩) (by rw [str_len, str_len]; exact h)
  rw [str_app]; exact RX.str _ _
theorem bo_rep {c : Nat} {k : Int} (h1 : 1 ≤ k) (h2 : k ≤ 3) : BO prog w K n .Mult (sD [c]) (.int k) (sD (List.replicate k.toNat c)) := by
  intro A X s v₁ v₂ hA hg hl r₁ r₂
  obtain ⟨t, rfl⟩ := r₁.of_str
  obtain ⟨u, rfl⟩ := r₂.of_int
  have hk : k = 1 ∨ k = 2 ∨ k = 3 := by lia
  have e : Txt.mul ⟨[c].toArray⟩ k = ⟨(List.replicate k.toNat c).toArray⟩ := by
    rcases hk with rfl | rfl | rfl <;> simp [Txt.mul, Str.length, List.replicate]
  refine SB.mul ?_ fun t' k' => ⟨Ext.tok _, by rw [e]; exact RX.str _ _⟩
  rcases hk with rfl | rfl | rfl <;> (refine ⟨by decide, fun _ _ => ?_, fun _ _ => ?_⟩ <;> simp [Str.length, Builtin.Str.tooLong, sizeLine])

theorem depth_ok {A : Around} (hA : AOk n A) : A.units + 64 < cLine := by have := hA.un; lia
theorem co_eq {d₁ d₂ : PyData} (h₁ : PySem.SeqAt.shaped d₁ = true) (h₂ : PySem.SeqAt.shaped d₂ = true) : CO prog w K n .Eq d₁ d₂ (PyData.eqv d₁ d₂) := by
  intro A X s v₁ v₂ hA hg hl r₁ r₂
  obtain ⟨as, q₁⟩ := r₁.reads (PySem.SeqAt.canLay_of_shaped h₁)
  obtain ⟨bs, q₂⟩ := r₂.reads (PySem.SeqAt.canLay_of_shaped h₂)
  exact PySem.SeqAt.compareEq_shaped q₁ q₂ h₁ h₂ (depth_ok hA) ⟨Ext.refl _, rfl⟩
theorem co_ne {d₁ d₂ : PyData} (h₁ : PySem.SeqAt.shaped d₁ = true) (h₂ : PySem.SeqAt.shaped d₂ = true) : CO prog w K n .NotEq d₁ d₂ (!PyData.eqv d₁ d₂) := by
  intro A X s v₁ v₂ hA hg hl r₁ r₂
  obtain ⟨as, q₁⟩ := r₁.reads (PySem.SeqAt.canLay_of_shaped h₁)
  obtain ⟨bs, q₂⟩ := r₂.reads (PySem.SeqAt.canLay_of_shaped h₂)
  exact PySem.SeqAt.compareNe_shaped q₁ q₂ h₁ h₂ (depth_ok hA) ⟨Ext.refl _, rfl⟩
theorem co_lt {a b : Int} : CO prog w K n .Lt (.int a) (.int b) (decide (a < b)) := by
  intro A X s v₁ v₂ hA hg hl r₁ r₂
  obtain ⟨t, rfl⟩ := r₁.of_int
  obtain ⟨u, rfl⟩ := r₂.of_int
  exact PyProof.Rows.lt_int ⟨Ext.refl _, rfl⟩
theorem co_le {a b : Int} : CO prog w K n .LtE (.int a) (.int b) (decide (a ≤ b)) := by
  intro A X s v₁ v₂ hA hg hl r₁ r₂
  obtain ⟨t, rfl⟩ := r₁.of_int
  obtain ⟨u, rfl⟩ := r₂.of_int
  exact PyProof.Rows.le_int ⟨Ext.refl _, rfl⟩
theorem co_ge {a b : Int} : CO prog w K n .GtE (.int a) (.int b) (decide (b ≤ a)) := by
  intro A X s v₁ v₂ hA hg hl r₁ r₂
  obtain ⟨t, rfl⟩ := r₁.of_int
  obtain ⟨u, rfl⟩ := r₂.of_int
  exact PyProof.Rows.ge_int ⟨Ext.refl _, rfl⟩
theorem co_eqi {a b : Int} : CO prog w K n .Eq (.int a) (.int b) (a == b) := by
  intro A X s v₁ v₂ hA hg hl r₁ r₂
  obtain ⟨t, rfl⟩ := r₁.of_int
  obtain ⟨u, rfl⟩ := r₂.of_int
  exact eq_int ⟨Ext.refl _, rfl⟩
theorem str_beq (a b : Wd) : ((⟨a.toArray⟩ : Str) == ⟨b.toArray⟩) = (a == b) := by
  by_cases h : a = b
  · subst h; simp
  · have h1 : ((⟨a.toArray⟩ : Str) == ⟨b.toArray⟩) = false := beq_eq_false_iff_ne.mpr fun e => h (by simpa using e)
    rw [h1]; exact (beq_eq_false_iff_ne.mpr h).symm
theorem co_eqs {a b : Wd} : CO prog w K n .Eq (sD a) (sD b) (a == b) := by
  intro A X s v₁ v₂ hA hg hl r₁ r₂
  obtain ⟨t, rfl⟩ := r₁.of_str
  obtain ⟨u, rfl⟩ := r₂.of_str
  exact eq_str ⟨Ext.refl _, by rw [str_beq]⟩
theorem co_nes {a b : Wd} : CO prog w K n .NotEq (sD a) (sD b) (!(a == b)) := by
  intro A X s v₁ v₂ hA hg hl r₁ r₂
  obtain ⟨t, rfl⟩ := r₁.of_str
  obtain ⟨u, rfl⟩ := r₂.of_str
  exact PyProof.Rows.ne_str ⟨Ext.refl _, by rw [← str_beq]; rfl⟩

theorem strs_items {X : Addr → Prop} {h : Heap} : ∀ {vs : List Value} {ws : List Wd}, RXs X h vs (ws.map sD) → StrsAre vs (ws.map fun a => ⟨a.toArray⟩)
  | vs, [], r => by obtain rfl := r.of_nil; exact .nil
  | vs, a :: ws, r => by
    obtain ⟨v, vs', rfl, r1, rs⟩ := r.of_cons
    obtain ⟨t, rfl⟩ := r1.of_str
    exact .cons _ _ (strs_items rs)
noncomputable def strEq (a : Wd) : Value → Bool := fun v => v.isStr ⟨a.toArray⟩
theorem any_strs {X : Addr → Prop} {h : Heap} {a : Wd} : ∀ {vs : List Value} {ws : List Wd}, RXs X h vs (ws.map sD) → vs.any (strEq a) = ws.contains a
  | vs, [], r => by obtain rfl := r.of_nil; rfl
  | vs, b :: ws, r => by
    obtain ⟨v, vs', rfl, r1, rs⟩ := r.of_cons
    obtain ⟨t, rfl⟩ := r1.of_str
    have hab : strEq a (.str ⟨b.toArray⟩ t) = (a == b) := by
      show ((⟨b.toArray⟩ : Str) == ⟨a.toArray⟩) = _
      rw [str_beq, Bool.beq_comm]
    rw [List.any_cons, any_strs rs, hab, List.contains_cons]
theorem eqAt_strs {X : Addr → Prop} {s : Shared} {a : Wd} {t : Tok} {A : Around} {vs : List Value} {ws : List Wd} (r : RXs X s.heap vs (ws.map sD)) : ∀ y ∈ vs.toArray, PySem.SeqAt.EqAt A s y (.str ⟨a.toArray⟩ t) (strEq a y) := by
  intro y hy
  have hy' : y ∈ vs := by simpa using hy
  have : ∃ b u, y = .str b u := by
    have hS := strs_items r
    clear r
    generalize (ws.map fun a => (⟨a.toArray⟩ : Str)) = ss at hS
    induction hS with
    | nil => cases hy'
    | cons y' t' _ ih =>
      rcases List.mem_cons.mp hy' with rfl | h
      · exact ⟨_, _, rfl⟩
      · exact ih (by simpa using h) h
  obtain ⟨b, u, rfl⟩ := this
  exact PySem.SeqAt.EqAt.str_str b u _ t
theorem co_notin {a : Wd} {ws : List Wd} : CO prog w K n .NotIn (sD a) (lD ws) (!ws.contains a) := by
  intro A X s v₁ v₂ hA hg hl r₁ r₂
  obtain ⟨t, rfl⟩ := r₁.of_str
  obtain ⟨l, vs, rfl, hpl, rs, _⟩ := r₂.of_list
  refine PySem.SeqAt.notIn_listAt (strEq a) hpl.isList (eqAt_strs rs) ⟨Ext.refl _, ?_⟩
  rw [← any_strs rs]; simp

theorem ca_len_list {ds : List PyData} (h : ds.length ≤ sizeLine) : CA prog w K n (.builtin "len") [.list ds] (.int ds.length) := by
  intro A X s vs hA hg hl r
  obtain ⟨v, vs', rfl, r1, rs⟩ := r.of_cons
  obtain rfl := rs.of_nil
  obtain ⟨l, us, rfl, hpl, rs', _⟩ := r1.of_list
  have hz : sizeLine = 16777216 := by decide
  refine PyProof.Rows.len_list hpl.isList (by rw [List.size_toArray, rs'.length]; lia) ⟨Ext.tok _, ?_⟩
  rw [List.size_toArray, rs'.length]; exact RX.int _ _
theorem ca_len_str {a : Wd} (h : a.length ≤ sizeLine) : CA prog w K n (.builtin "len") [sD a] (.int a.length) := by
  intro A X s vs hA hg hl r
  obtain ⟨v, vs', rfl, r1, rs⟩ := r.of_cons
  obtain rfl := rs.of_nil
  obtain ⟨t, rfl⟩ := r1.of_str
  have hz : sizeLine = 16777216 := by decide
  refine PyProof.Rows.len_str (by rw [str_len]; lia) ⟨Ext.tok _, ?_⟩
  rw [str_len]; exact RX.int _ _
end Mine

open PySem PySem.W PyProof.Rows PySem.Calls PySem.Spec
namespace Mine

variable {prog : Program} {w : World} {K : Frag} {n : Nat} {sc : Scope} {ρ : Rho} {own : List Str} {A : Around}

noncomputable def insW (x : Wd) : List Wd → List Wd
  | [] => [x]
  | y :: r => if y < x then y :: insW x r else x :: y :: r
noncomputable def sortW : List Wd → List Wd
  | [] => []
  | x :: r => insW x (sortW r)
theorem insW_perm (x : Wd) : ∀ l, (insW x l).Perm (x :: l)
  | [] => .refl _
  | y :: r => by
    unfold insW; split
    · exact ((insW_perm x r).cons y).trans (.swap _ _ _)
    · exact .refl _
theorem sortW_perm : ∀ ns, (sortW ns).Perm ns
  | [] => .refl _
  | x :: r => (insW_perm x _).trans ((sortW_perm r).cons x)
theorem le_of_not {a b : Wd} (h : ¬ b < a) : a ≤ b := h
theorem insW_rises (x : Wd) : ∀ l : List Wd, l.Pairwise (· ≤ ·) → (insW x l).Pairwise (· ≤ ·)
  | [], _ => by simp [insW]
  | y :: r, h => by
    obtain ⟨h1, h2⟩ := List.pairwise_cons.mp h
    unfold insW; split
    · rename_i hlt
      refine List.pairwise_cons.mpr ⟨fun z hz => ?_, insW_rises x r h2⟩
      rcases List.mem_cons.mp ((insW_perm x r).mem_iff.mp hz) with rfl | hz
      · exact List.le_of_lt hlt
      · exact h1 z hz
    · rename_i hlt
      refine List.pairwise_cons.mpr ⟨fun z hz => ?_, h⟩
      rcases List.mem_cons.mp hz with rfl | hz
      · exact le_of_not hlt
      · exact List.le_trans (le_of_not hlt) (h1 z hz)
theorem sortW_rises : ∀ ns, (sortW ns).Pairwise (· ≤ ·)
  | [] => .nil
  | x :: r => insW_rises x _ (sortW_rises r)
theorem eq_sortW {ns ns' : List Wd} (hp : ns'.Perm ns) (hs : ns'.Pairwise (· ≤ ·)) : ns' = sortW ns :=
  List.Perm.eq_of_pairwise (fun _ _ _ _ a b => List.le_antisymm a b) hs (sortW_rises ns) (hp.trans (sortW_perm ns).symm)
theorem sortW_length (ns : List Wd) : (sortW ns).length = ns.length := (sortW_perm ns).length_eq
theorem rises_of_risingS : ∀ (p : Str) (l : List Str), risingS p l = true → (p.cps.toList :: l.map (·.cps.toList)).Pairwise (· ≤ ·)
  | p, [], _ => by simp
  | p, x :: r, h => by
    have h' : (!ltCps x.cps.toList p.cps.toList && risingS x r) = true := h
    rw [Bool.and_eq_true, Bool.not_eq_true', ltCps_eq] at h'
    have ih := rises_of_risingS x r h'.2
    have hpx : p.cps.toList ≤ x.cps.toList := le_of_not (of_decide_eq_false h'.1)
    refine List.pairwise_cons.mpr ⟨fun z hz => ?_, ih⟩
    rcases List.mem_cons.mp hz with rfl | hz
    · exact hpx
    · exact List.le_trans hpx ((List.pairwise_cons.mp ih).1 z hz)
theorem rises_of_sortedS : ∀ (l : List Str), sortedS l = true → (l.map (·.cps.toList)).Pairwise (· ≤ ·)
  | [], _ => by simp
  | x :: r, h => rises_of_risingS x r h
theorem rxs_strs {X : Addr → Prop} {h : Heap} {vs : List Value} {ss : List Str} (r : StrsAre vs ss) : RXs X h vs ((ss.map (·.cps.toList)).map sD) := by
  induction r with
  | nil => exact .nil
  | cons y t _ ih =>
    refine .cons ?_ ih
    show RX X h (.str y t) (sD y.cps.toList)
    have : (⟨y.cps.toList.toArray⟩ : Str) = y := by cases y; simp
    unfold sD; rw [this]; exact RX.str _ _
theorem ca_sorted {ws : List Wd} (h : ws.length < 64) : CA prog w K n (.builtin "sorted") [lD ws] (lD (sortW ws)) := by
  intro A X s vs hA hg hl r
  obtain ⟨v, vs', rfl, r1, rs⟩ := r.of_cons
  obtain rfl := rs.of_nil
  obtain ⟨l, us, rfl, hpl, rs', _⟩ := r1.of_list
  have hlen : us.length < 64 := by rw [rs'.length, List.length_map]; exact h
  refine sorted_strs hpl.isList (strs_items rs') hlen fun out ss' h1 h2 h3 => ⟨⟨fun b o e => sortedAll_old e, rfl, rfl⟩, ?_⟩
  obtain ⟨e, he⟩ := sortedAll_at s.heap us out
  have hp : (ss'.map (·.cps.toList)).Perm ws := by
    have := h2.map (·.cps.toList)
    rw [List.map_map] at this
    have e2 : ws.map ((fun x : Str => x.cps.toList) ∘ fun a : Wd => ⟨a.toArray⟩) = ws := by
      conv => rhs; rw [← List.map_id ws]
      apply List.map_congr_left; intro a _; simp
    rw [e2] at this; exact this
  have hs := eq_sortW hp (rises_of_sortedS ss' h3)
  have hf : s.heap.get? (s.heap.objs.size + 1) = none := get?_ge_none _ (Nat.le_succ _)
  have hr := rxs_strs (X := X) (h := sortedAll s.heap us out) h1
  rw [hs] at hr
  refine .list (vs := out.toList) ⟨e, ?_⟩ (hl.fresh hf) hr
  rw [he]

theorem glue_eq (sep : Wd) : ∀ (ws : List Wd) (acc : Wd), (ws.map fun a => (⟨a.toArray⟩ : Str)).foldl (fun acc p => acc ++ (⟨sep.toArray⟩ : Str).cps ++ p.cps) acc.toArray = (acc ++ ws.flatMap (fun p => sep ++ p)).toArray
  | [], acc => by simp
  | x :: r, acc => by
    rw [List.map_cons, List.foldl_cons]
    have := glue_eq sep r (acc ++ (sep ++ x))
    have e : (acc.toArray ++ (⟨sep.toArray⟩ : Str).cps ++ (⟨x.toArray⟩ : Str).cps) = (acc ++ (sep ++ x)).toArray := by simp
    rw [e, this]; simp
theorem join_eq (sep x : Wd) (ws : List Wd) : Txt.join ⟨sep.toArray⟩ ((x :: ws).map fun a => ⟨a.toArray⟩) = ⟨(x ++ ws.flatMap (fun p => sep ++ p)).toArray⟩ := by
  unfold Txt.join Builtin.Str.glued
  show Str.mk _ = Str.mk _
  congr 1
  exact glue_eq sep ws x
theorem ca_join {sep x : Wd} {ws : List Wd} (h : (((x :: ws).map List.length).sum + (x :: ws).length * sep.length) ≤ 16777216) : CA prog w K n (.builtin "str.join") [sD sep, lD (x :: ws)] (sD (x ++ ws.flatMap (fun p => sep ++ p))) := by
  intro A X s vs hA hg hl r
  obtain ⟨v, vs', rfl, r1, rs⟩ := r.of_cons
  obtain ⟨u, vs', rfl, r2, rs⟩ := rs.of_cons
  obtain rfl := rs.of_nil
  obtain ⟨t, rfl⟩ := r1.of_str
  obtain ⟨l, us, rfl, hpl, rs', _⟩ := r2.of_list
  refine join_list hpl.isList (strs_items rs') ?_ fun t' k => ⟨Ext.tok _, ?_⟩
  · rw [List.map_map, List.length_map, str_len]
    have : (x :: ws).map ((fun y : Str => y.length) ∘ fun a : Wd => (⟨a.toArray⟩ : Str)) = (x :: ws).map List.length := List.map_congr_left fun a _ => str_len a
    rw [this]; exact h
  · rw [join_eq]; exact RX.str _ _
theorem ca_abc_index {c : Nat} (h : c = 97 ∨ c = 98 ∨ c = 99) : CA prog w K n (.builtin "str.index") [sD [97, 98, 99], sD [c]] (.int (c - 97 : Int)) := by
  intro A X s vs hA hg hl r
  obtain ⟨v, vs', rfl, r1, rs⟩ := r.of_cons
  obtain ⟨u, vs', rfl, r2, rs⟩ := rs.of_cons
  obtain rfl := rs.of_nil
  obtain ⟨t, rfl⟩ := r1.of_str
  obtain ⟨t', rfl⟩ := r2.of_str
  rcases h with rfl | rfl | rfl
  · exact SC.index (i := 0) (rest := []) (by kernel_rfl) ⟨Ext.tok _, RX.int _ _⟩
  · exact SC.index (i := 1) (rest := []) (by kernel_rfl) ⟨Ext.tok _, RX.int _ _⟩
  · exact SC.index (i := 2) (rest := []) (by kernel_rfl) ⟨Ext.tok _, RX.int _ _⟩

open Classical in
/-- equality with d₀, read off the value -/
noncomputable def eqD (X : Addr → Prop) (h : Heap) (ds : List PyData) (d₀ : PyData) : Value → Bool := fun v => decide (∃ d ∈ ds, RX X h v d ∧ PyData.eqv d d₀ = true)
theorem eqD_at {X : Addr → Prop} {h : Heap} {ds : List PyData} {d₀ d : PyData} {v : Value} (hok : ∀ e ∈ ds, PySem.SeqAt.shaped e = true) (hd : d ∈ ds) (r : RX X h v d) : eqD X h ds d₀ v = PyData.eqv d d₀ := by
  unfold eqD
  cases he : PyData.eqv d d₀ with
  | true => simp only [decide_eq_true_eq]; exact ⟨d, hd, r, he⟩
  | false =>
    simp only [decide_eq_false_iff_not]
    rintro ⟨d', hd', r', he'⟩
    have h1 := PySem.SeqAt.canLay_of_shaped (hok d hd)
    obtain ⟨as, q⟩ := r.reads h1
    obtain ⟨bs, q'⟩ := r'.reads (PySem.SeqAt.canLay_of_shaped (hok d' hd'))
    have := PySem.SeqAt.Reads.unique d d' v as bs h1 q q'
    subst this
    rw [he] at he'; cases he'
theorem mem_rxs {X : Addr → Prop} {h : Heap} : ∀ {vs : List Value} {ds : List PyData}, RXs X h vs ds → ∀ v ∈ vs, ∃ d ∈ ds, RX X h v d
  | vs, [], r => by rw [r.of_nil]; intro v hv; cases hv
  | vs, d :: ds, r => by
    obtain ⟨u, vs', rfl, r1, rs⟩ := r.of_cons
    intro v hv
    rcases List.mem_cons.mp hv with rfl | hv
    · exact ⟨_, List.mem_cons_self, r1⟩
    · obtain ⟨d, hd, rd⟩ := mem_rxs rs v hv; exact ⟨d, List.mem_cons_of_mem _ hd, rd⟩
theorem eqAt_data {X : Addr → Prop} {s : Shared} {ds : List PyData} {d₀ : PyData} {vs : List Value} {u : Value} {A : Around} (hu : A.units + 64 < cLine) (hok : ∀ e ∈ ds, PySem.SeqAt.shaped e = true) (h₀ : PySem.SeqAt.shaped d₀ = true)
    (rs : RXs X s.heap vs ds) (r₀ : RX X s.heap u d₀) : ∀ y ∈ vs.toArray, PySem.SeqAt.EqAt A s y u (eqD X s.heap ds d₀ y) := by
  intro y hy
  obtain ⟨d, hd, rd⟩ := mem_rxs rs y (by simpa using hy)
  rw [eqD_at hok hd rd]
  have h1 := PySem.SeqAt.canLay_of_shaped (hok d hd)
  have h2 := PySem.SeqAt.canLay_of_shaped h₀
  obtain ⟨as, q⟩ := rd.reads h1
  obtain ⟨bs, q'⟩ := r₀.reads h2
  refine PySem.SeqAt.eqAt_reads d d₀ A s y u as bs q q' h1 h2 ?_
  have := PySem.SeqAt.depth_of_shaped (hok d hd)
  have := Nat.min_le_left d.depth d₀.depth
  lia
theorem countP_data {X : Addr → Prop} {h : Heap} {d₀ : PyData} {all : List PyData} (hok : ∀ e ∈ all, PySem.SeqAt.shaped e = true) : ∀ {vs : List Value} {ds : List PyData}, RXs X h vs ds → (∀ d ∈ ds, d ∈ all) → vs.countP (eqD X h all d₀) = ds.countP (PyData.eqv · d₀)
  | vs, [], r => by rw [r.of_nil]; intro _; rfl
  | vs, d :: ds, r => by
    obtain ⟨u, vs', rfl, r1, rs⟩ := r.of_cons
    intro hs
    rw [List.countP_cons, List.countP_cons, countP_data hok rs fun d hd => hs d (List.mem_cons_of_mem _ hd), eqD_at hok (hs _ List.mem_cons_self) r1]
theorem ca_count {ds : List PyData} {d₀ : PyData} (hok : ∀ e ∈ ds, PySem.SeqAt.shaped e = true) (h₀ : PySem.SeqAt.shaped d₀ = true) : CA prog w K n (.builtin "list.count") [.list ds, d₀] (.int (ds.countP (PyData.eqv · d₀))) := by
  intro A X s vs hA hg hl r
  obtain ⟨v, vs', rfl, r1, rs⟩ := r.of_cons
  obtain ⟨u, vs', rfl, r2, rs⟩ := rs.of_cons
  obtain rfl := rs.of_nil
  obtain ⟨l, us, rfl, ⟨m, hpl⟩, rs', _⟩ := r1.of_list
  refine call_meets PySem.F.slot_list_count ⟨_, hpl, rfl⟩ PySem.F.entry_list_count (PySem.F.args_list_count_2 _ _) (PySem.SeqAt.list_countAt l us.toArray m none #[] u (eqD X s.heap ds d₀))
    ⟨hpl, eqAt_data (by show A.units + 1 + 64 < cLine; have := hA.un; lia) hok h₀ rs' r2, ⟨Ext.tok _, ?_⟩⟩
  rw [List.toList_toArray, countP_data hok rs' fun d hd => hd]
  exact RX.int _ _
theorem ca_index {ds : List PyData} {d₀ : PyData} {j : Nat} (hok : ∀ e ∈ ds, PySem.SeqAt.shaped e = true) (h₀ : PySem.SeqAt.shaped d₀ = true) (hj : j < ds.length) (hz : ds.length ≤ sizeLine) (hit : PyData.eqv ds[j] d₀ = true)
    (hno : ∀ i (hi : i < ds.length), i < j → PyData.eqv ds[i] d₀ = false) : CA prog w K n (.builtin "list.index") [.list ds, d₀] (.int j) := by
  intro A X s vs hA hg hl r
  obtain ⟨v, vs', rfl, r1, rs⟩ := r.of_cons
  obtain ⟨u, vs', rfl, r2, rs⟩ := rs.of_cons
  obtain rfl := rs.of_nil
  obtain ⟨l, us, rfl, ⟨m, hpl⟩, rs', _⟩ := r1.of_list
  have hlen := rs'.length
  have at_ : ∀ i (hi : i < us.toArray.size) (hi' : i < ds.length), eqD X s.heap ds d₀ us.toArray[i] = PyData.eqv ds[i] d₀ := fun i hi hi' => by
    obtain ⟨x, hx, rx⟩ := rs'.get i ds[i] (by simp [hi'])
    have : us.toArray[i] = x := by
      have h1 : us[i]? = some us.toArray[i] := by simp at hi ⊢
      rw [h1] at hx; cases hx; rfl
    rw [this]; exact eqD_at hok (List.getElem_mem hi') rx
  have hz' : sizeLine = 16777216 := by decide
  refine call_meets PySem.F.slot_list_index ⟨_, hpl, rfl⟩ PySem.F.entry_list_index (PySem.F.args_list_index_2 _ _) (PySem.SeqAt.list_indexAt l us.toArray m none #[] u (eqD X s.heap ds d₀) j (by simpa [hlen] using hj) (by lia)
    (by rw [at_ j _ hj]; exact hit) (fun i hi hij => by rw [at_ i hi (by simpa [hlen] using hi)]; exact hno i _ hij))
    ⟨hpl, eqAt_data (by show A.units + 1 + 64 < cLine; have := hA.un; lia) hok h₀ rs' r2, ⟨Ext.tok _, RX.int _ _⟩⟩
theorem ints_items {X : Addr → Prop} {h : Heap} : ∀ {vs : List Value} {ns : List Int}, RXs X h vs (ns.map .int) → IntsAre vs ns
  | vs, [], r => by obtain rfl := r.of_nil; exact .nil
  | vs, a :: ws, r => by
    obtain ⟨v, vs', rfl, r1, rs⟩ := r.of_cons
    obtain ⟨t, rfl⟩ := r1.of_int
    exact .cons _ _ (ints_items rs)
theorem ca_min {ns : List Int} {M : Int} (hM : M ∈ ns) (hle : ∀ a ∈ ns, M ≤ a) : CA prog w K n (.builtin "min") [.list (ns.map .int)] (.int M) := by
  intro A X s vs hA hg hl r
  obtain ⟨v, vs', rfl, r1, rs⟩ := r.of_cons
  obtain rfl := rs.of_nil
  obtain ⟨l, us, rfl, hpl, rs', _⟩ := r1.of_list
  have hi := ints_items rs'
  obtain ⟨xs, e⟩ := hi.allInts.items
  have hns : ns = xs.toList.map (·.1) := by
    rw [← hi.numsOf, ← nums_intItems, ← e]
  have hne : 0 < ns.length := List.length_pos_of_mem hM
  have hsz : 0 < xs.size := by
    have h3 := hne; rw [hns, List.length_map, Array.length_toList] at h3; exact h3
  have hl' := hpl.isList
  rw [e] at hl'
  refine min_intList hA.hh hl' hsz fun v h' tk hv hk => ?_
  obtain ⟨t, rfl⟩ := intItems_at hv
  obtain ⟨h1, h2⟩ := argBest_lt (numAt xs) (xs.size - 1)
  refine ⟨⟨hk, rfl, rfl⟩, ?_⟩
  have hmem : numAt xs (argBest (fun i j => decide (numAt xs i < numAt xs j)) (xs.size - 1)) ∈ ns := by
    rw [hns, numAt_eq]; exact getD_mem (by rw [List.length_map, Array.length_toList]; lia)
  have hmin : ∀ a ∈ ns, numAt xs (argBest (fun i j => decide (numAt xs i < numAt xs j)) (xs.size - 1)) ≤ a := fun a ha => by
    rw [hns] at ha
    obtain ⟨j, hj, rfl⟩ := mem_getD ha
    rw [List.length_map, Array.length_toList] at hj
    rw [← numAt_eq]; exact h2 j (by lia)
  have : numAt xs (argBest (fun i j => decide (numAt xs i < numAt xs j)) (xs.size - 1)) = M := Int.le_antisymm (hmin M hM) (hle _ hmem)
  rw [this]; exact RX.int _ _
end Mine

open PySem PySem.W PyProof.Rows PySem.Calls
namespace Mine

variable {prog : Program} {w : World} {K : Frag} {n : Nat} {sc : Scope} {ρ : Rho} {own : List Str} {A : Around}

theorem extPush {s : Shared} {o : Obj} : Ext s { s with heap := s.heap.push o } := ⟨Keep.push _ _, rfl, rfl⟩
/-- an item of d, on data -/
noncomputable def GI (prog : Program) (w : World) (d i r : PyData) : Prop :=
  ∀ (A : Around) (X : Addr → Prop) (s : Shared) (v u : Value), RX X s.heap v d → RX X s.heap u i →
    ∃ T id, s.TypeIs v T ∧ typeLookup (.type T) "__getitem__" = pure (some (.builtin id)) ∧ wpAny (model prog w) A (getItem v u) (fun r' s' => Ext s s' ∧ RX X s'.heap r' r) (fun _ _ => False) s
theorem ev_sub {e i : Expr} {pos : Pos} {d k r : PyData} (he : EV prog w K n sc ρ e d) (hi : EV prog w K n sc ρ i k) (h : GI prog w d k r)
    (hs : autoParam (∀ o j, subscripted i false o j = operate [o, j] (getItem o j)) auK) : EV prog w K n sc ρ (.Subscript e i pos) r := by
  intro A env X s hA hsc hS
  refine Subscript_ (wpAny_mono (he A env X s hA hsc hS) (fun v s₁ h₁ => wpAny_mono (hi A env X s₁ hA hsc (hS.ext h₁.1)) (fun u s₂ h₂ => ?_) fun _ _ x => x.elim) fun _ _ x => x.elim)
  obtain ⟨T, id, hT, hl, hg⟩ := h A X s₂ v u (h₁.2.keep h₂.1.keep) h₂.2
  exact tail_any hT hl (wpAny_mono hg (fun v s' h' => ⟨(h₁.1.trans h₂.1).trans h'.1, h'.2⟩) fun _ _ x => x.elim) (hs v u)
theorem gi_list {ds : List PyData} {i : Nat} {d : PyData} (h : ds[i]? = some d) (hz : i < 2 ^ 63) : GI prog w (.list ds) (.int i) d := by
  intro A X s v u r ri
  obtain ⟨t, rfl⟩ := ri.of_int
  obtain ⟨a, vs, rfl, hl, rs, _⟩ := r.of_list
  obtain ⟨x, hx, rx⟩ := rs.get i d h
  exact ⟨"list", _, hl.isList.typeIs, slot_list_getitem.lookup, wpAny_getItem_list hl.isList (by lia) (by lia) (by simpa using hx) ⟨Ext.refl _, rx⟩⟩
theorem seqIdx {i l : Nat} (h : i < l) : seqIndex? (i : Int) l = some i := by
  unfold seqIndex?
  have h1 : ¬ ((i : Int) < 0) := by lia
  have h2 : 0 ≤ (i : Int) ∧ (i : Int) < l := by lia
  simp [h1, h]
theorem gi_tuple {ds : List PyData} {i : Nat} {d : PyData} (h : ds[i]? = some d) (hz : i < 2 ^ 63) : GI prog w (.tuple ds) (.int i) d := by
  intro A X s v u r ri
  obtain ⟨t, rfl⟩ := ri.of_int
  obtain ⟨a, vs, rfl, ht, rs, _⟩ := r.of_tuple
  obtain ⟨x, hx, rx⟩ := rs.get i d h
  have ht' : IsTup s.heap a vs.toArray := ht
  have hlt : i < vs.length := by
    rcases Nat.lt_or_ge i vs.length with q | q
    · exact q
    · rw [List.getElem?_eq_none q] at hx; cases hx
  refine ⟨"tuple", _, ht'.typeIs, slot_tuple_getitem.lookup, getItem_tuple (j := i) ht' (by lia) (by lia) ?_ (by simpa using hx) ⟨Ext.refl _, rx⟩⟩
  rw [List.size_toArray]; exact seqIdx hlt
theorem gi_str {a : Wd} {i : Nat} {c : Nat} (h : a[i]? = some c) (hz : i < 2 ^ 63) : GI prog w (sD a) (.int i) (sD [c]) := by
  intro A X s v u r ri
  obtain ⟨t, rfl⟩ := ri.of_int
  obtain ⟨t', rfl⟩ := r.of_str
  have hlt : i < a.length := by
    rcases Nat.lt_or_ge i a.length with q | q
    · exact q
    · rw [List.getElem?_eq_none q] at h; cases h
  refine ⟨"str", _, typeIs_str _ _ _, slot_str_getitem.lookup, PyProof.Rows.getItem_str (c := c) (by simp; lia) ?_ ⟨Ext.tok _, RX.str _ _⟩⟩
  rw [str_len, seqIdx hlt]
  simpa using h

/-- a slice d[lo:hi] -/
noncomputable def GS (prog : Program) (w : World) (d : PyData) (lo hi : Option Int) (r : PyData) : Prop :=
  ∀ (A : Around) (X : Addr → Prop) (s : Shared) (v : Value) (sl : Addr) (l u : Option (Int × Tok)), Live X s.heap → RX X s.heap v d → s.heap.IsSlice sl l u none → l.map (·.1) = lo → u.map (·.1) = hi →
    ∃ T id, s.TypeIs v T ∧ typeLookup (.type T) "__getitem__" = pure (some (.builtin id)) ∧ wpAny (model prog w) A (getItem v (.ref sl)) (fun r' s' => Ext s s' ∧ RX X s'.heap r' r) (fun _ _ => False) s
theorem ev_slice_to {e u : Expr} {p pos : Pos} {d r : PyData} {k : Int} (he : EV prog w K n sc ρ e d) (hu : EV prog w K n sc ρ u (.int k)) (h : GS prog w d none (some k) r) :
    EV prog w K n sc ρ (.Subscript e (.Slice none (some u) none p) pos) r := by
  intro A env X s hA hsc hS
  refine Subscript_ (wpAny_mono (he A env X s hA hsc hS) (fun v s₁ h₁ => wpAny_Slice ?_) fun _ _ x => x.elim)
  rw [evalPart_none, evalPart_some]
  refine wpAny_pure (wpAny_mono (hu A env X s₁ hA hsc (hS.ext h₁.1)) (fun uv s₂ h₂ => wpAny_pure ?_) fun _ _ x => x.elim)
  obtain ⟨t, rfl⟩ := h₂.2.of_int
  have hS₂ := (hS.ext h₁.1).ext h₂.1
  obtain ⟨T, id, hT, hl, hg⟩ := h A X { s₂ with heap := s₂.heap.push { cls := .type "slice", data := .fields #[.none, .int k t, .none] } } v s₂.heap.objs.size none (some (k, t)) (hS₂.live.keep (Keep.push _ _))
    ((h₁.2.keep h₂.1.keep).keep (Keep.push _ _)) ⟨_, Heap.get?_push_size _ rfl, rfl, rfl⟩ rfl rfl
  exact tail_any hT hl (wpAny_mono hg (fun v s' h' => ⟨((h₁.1.trans h₂.1).trans extPush).trans h'.1, h'.2⟩) fun _ _ x => x.elim) rfl
theorem ev_slice_from {e u : Expr} {p pos : Pos} {d r : PyData} {k : Int} (he : EV prog w K n sc ρ e d) (hu : EV prog w K n sc ρ u (.int k)) (h : GS prog w d (some k) none r) :
    EV prog w K n sc ρ (.Subscript e (.Slice (some u) none none p) pos) r := by
  intro A env X s hA hsc hS
  refine Subscript_ (wpAny_mono (he A env X s hA hsc hS) (fun v s₁ h₁ => wpAny_Slice ?_) fun _ _ x => x.elim)
  rw [evalPart_none, evalPart_some]
  refine wpAny_mono (hu A env X s₁ hA hsc (hS.ext h₁.1)) (fun uv s₂ h₂ => wpAny_pure (wpAny_pure ?_)) fun _ _ x => x.elim
  obtain ⟨t, rfl⟩ := h₂.2.of_int
  have hS₂ := (hS.ext h₁.1).ext h₂.1
  obtain ⟨T, id, hT, hl, hg⟩ := h A X { s₂ with heap := s₂.heap.push { cls := .type "slice", data := .fields #[.int k t, .none, .none] } } v s₂.heap.objs.size (some (k, t)) none (hS₂.live.keep (Keep.push _ _))
    ((h₁.2.keep h₂.1.keep).keep (Keep.push _ _)) ⟨_, Heap.get?_push_size _ rfl, rfl, rfl⟩ rfl rfl
  exact tail_any hT hl (wpAny_mono hg (fun v s' h' => ⟨((h₁.1.trans h₂.1).trans extPush).trans h'.1, h'.2⟩) fun _ _ x => x.elim) rfl
theorem gs_str_to {a : Wd} {k : Nat} (h : k ≤ a.length) (hz : a.length ≤ sizeLine) : GS prog w (sD a) none (some k) (sD (a.take k)) := by
  intro A X s v sl l u hl r hs e1 e2
  obtain ⟨t, rfl⟩ := r.of_str
  cases l with
  | some _ => simp at e1
  | none =>
  cases u with
  | none => simp at e2
  | some u =>
  obtain ⟨j, tj⟩ := u
  simp at e2; subst e2
  refine ⟨"str", _, typeIs_str _ _ _, F.slot_str_getitem.lookup, wpAny_getItem_str_slice (l := none) (u := some (_, tj)) (st := none) hs rfl
    (post_val_or_str ⟨Nat.le_trans (Txt.slice_le _ _ _) (by rw [str_len]; exact hz), fun t' k' => ⟨Ext.tok _, ?_⟩⟩)⟩
  have e := beq_iff_eq.mp (slice_closes_toL (x := ⟨a.toArray⟩) (j := (k : Int)) (by lia) (by rw [str_len]; lia))
  simp at e
  show RX X _ (.str (Txt.slice ⟨a.toArray⟩ none (some (k : Int))) t') _
  rw [e]
  exact RX.str _ _
theorem gs_str_from {a : Wd} {k : Nat} (h : k ≤ a.length) (hz : a.length ≤ sizeLine) : GS prog w (sD a) (some k) none (sD (a.drop k)) := by
  intro A X s v sl l u hl r hs e1 e2
  obtain ⟨t, rfl⟩ := r.of_str
  cases u with
  | some _ => simp at e2
  | none =>
  cases l with
  | none => simp at e1
  | some u =>
  obtain ⟨j, tj⟩ := u
  simp at e1; subst e1
  refine ⟨"str", _, typeIs_str _ _ _, F.slot_str_getitem.lookup, wpAny_getItem_str_slice (l := some (_, tj)) (u := none) (st := none) hs rfl
    (post_val_or_str ⟨Nat.le_trans (Txt.slice_le _ _ _) (by rw [str_len]; exact hz), fun t' k' => ⟨Ext.tok _, ?_⟩⟩)⟩
  have e := slice_from_eq (x := ⟨a.toArray⟩) (i := (k : Int)) (b := a.length) (by lia) (by rw [str_len]; lia) (by rw [str_len])
  have e3 : (List.drop k a).take (a.length - k) = a.drop k := by
    apply List.take_of_length_le; rw [List.length_drop]; exact Nat.le_refl _
  simp at e
  rw [e3] at e
  show RX X _ (.str (Txt.slice ⟨a.toArray⟩ (some (k : Int)) none) t') _
  rw [e]
  exact RX.str _ _
theorem RXs.take {X : Addr → Prop} {h : Heap} : ∀ {vs ds} (k : Nat) (r : RXs X h vs ds), RXs X h (vs.take k) (ds.take k)
  | vs, [], k, r => by obtain rfl := r.of_nil; simpa using RXs.nil
  | vs, d :: ds, 0, r => by simpa using RXs.nil
  | vs, d :: ds, k + 1, r => by obtain ⟨v, vs', rfl, r1, rs⟩ := r.of_cons; exact RXs.cons r1 (RXs.take k rs)
theorem RXs.drop {X : Addr → Prop} {h : Heap} : ∀ {vs ds} (k : Nat) (r : RXs X h vs ds), RXs X h (vs.drop k) (ds.drop k)
  | vs, [], k, r => by obtain rfl := r.of_nil; simpa using RXs.nil
  | vs, d :: ds, 0, r => r
  | vs, d :: ds, k + 1, r => by obtain ⟨v, vs', rfl, r1, rs⟩ := r.of_cons; exact RXs.drop k rs
theorem gs_list_to {ds : List PyData} {k : Nat} (hz : ds.length ≤ sizeLine) : GS prog w (.list ds) none (some k) (.list (ds.take k)) := by
  intro A X s v sl l u hl r hs e1 e2
  obtain ⟨a, vs, rfl, hp, rs, _⟩ := r.of_list
  cases l with
  | some _ => simp at e1
  | none =>
  cases u with
  | none => simp at e2
  | some u =>
  obtain ⟨j, tj⟩ := u
  simp at e2; subst e2
  refine ⟨"list", _, hp.isList.typeIs, slot_list_getitem.lookup, wpAny_getItem_list_slice (lo := none) (hi := some k) (st := none) hp.isList hs .none (.int _ _) .none (by simp) ⟨⟨Keep.push _ _, rfl, rfl⟩, ?_⟩ (by simpa [rs.length] using hz)⟩
  rw [slicePick_upto']
  exact RX.list ⟨_, Heap.get?_push_size _ rfl⟩ hl.size ((rs.take k).keep (Keep.push _ _))
theorem gs_list_from {ds : List PyData} {k : Nat} (hz : ds.length ≤ sizeLine) : GS prog w (.list ds) (some k) none (.list (ds.drop k)) := by
  intro A X s v sl l u hl r hs e1 e2
  obtain ⟨a, vs, rfl, hp, rs, _⟩ := r.of_list
  cases u with
  | some _ => simp at e2
  | none =>
  cases l with
  | none => simp at e1
  | some u =>
  obtain ⟨j, tj⟩ := u
  simp at e1; subst e1
  refine ⟨"list", _, hp.isList.typeIs, slot_list_getitem.lookup, wpAny_getItem_list_slice (lo := some k) (hi := none) (st := none) hp.isList hs (.int _ _) .none .none (by simp) ⟨⟨Keep.push _ _, rfl, rfl⟩, ?_⟩ (by simpa [rs.length] using hz)⟩
  rw [slicePick_from']
  exact RX.list ⟨_, Heap.get?_push_size _ rfl⟩ hl.size ((rs.drop k).keep (Keep.push _ _))

/-- a method of d -/
noncomputable def GM' (prog : Program) (w : World) (d : PyData) (name : Str) (id : String) : Prop :=
  ∀ (A : Around) (X : Addr → Prop) (s : Shared) (v : Value) (pl : Sem Bool) (Q : Value × List Value → Shared → Prop) (E : Value → Shared → Prop), RX X s.heap v d → Q (.builtin id, [v]) s → wpAny (model prog w) A (getMethod v name pl) Q E s
theorem ev_meth {o e : Expr} {es : List Expr} {name : Str} {id : String} {apos pos : Pos} {d r : PyData} {ds : List PyData} (ho : EV prog w K n sc ρ o d) (hm : GM' prog w d name id)
    (hs : EVs prog w K n sc ρ (e :: es) ds) (h : CA prog w K n (.builtin id) (d :: ds) r)
    (he : autoParam (∀ env, starEach (e :: es) env = (false, eval e env) :: starEach es env) auK)
    (hplain : autoParam (∀ env, (backTo pos (starEach es env)).any (·.1) = false) auK)
    (hc : autoParam (∀ env, eval (.Call (.Attribute o name apos) (e :: es) [] pos) env = (do
      let ov ← eval o env
      standAt apos.atName
      let (f, first) ← holding [ov] (getMethod ov name (do return (← importBound o env).getD true))
      callWith pos f first (backTo pos (starEach (e :: es) env)) [])) auK) : EV prog w K n sc ρ (.Call (.Attribute o name apos) (e :: es) [] pos) r := by
  intro A env X s hA hsc hS
  refine MethodCall_ (he := hc env) (wpAny_mono (ho A env X s hA hsc hS) (fun v s₁ h₁ => hm A X s₁ v _ _ _ h₁.2 ?_) fun _ _ x => x.elim)
  have hS₁ := hS.ext h₁.1
  refine callWith_method1 (wpAny_mono (hs A env X s₁ pos hA hsc hS₁) (fun vs s₂ h₂ => ?_) fun _ _ x => x.elim) (he env) (hplain env)
  have hS₂ := hS₁.ext h₂.1
  exact wpAny_mono (h A X s₂ (v :: vs) hA hS₂.gf hS₂.live (RXs.cons (h₁.2.keep h₂.1.keep) h₂.2)) (fun v s' h' => ⟨(h₁.1.trans h₂.1).trans h'.1, h'.2⟩) fun _ _ x => x.elim
theorem gm_join {a : Wd} : GM' prog w (sD a) "join" "str.join" := fun A X s v pl Q E r h => by
  obtain ⟨t, rfl⟩ := r.of_str; with_reducible exact GM.join h
theorem gm_index {a : Wd} : GM' prog w (sD a) "index" "str.index" := fun A X s v pl Q E r h => by
  obtain ⟨t, rfl⟩ := r.of_str; with_reducible exact GM.index h
theorem gm_count {ds : List PyData} : GM' prog w (.list ds) "count" "list.count" := fun A X s v pl Q E r h => by
  obtain ⟨a, vs, rfl, ⟨m, hp⟩, rs, _⟩ := r.of_list
  exact getMethod_list_of PySem.F.slot_list_count PySem.F.type_list_count (Heap.PlainList.isList ⟨m, hp⟩) ⟨_, hp, rfl⟩ h
theorem gm_lindex {ds : List PyData} : GM' prog w (.list ds) "index" "list.index" := fun A X s v pl Q E r h => by
  obtain ⟨a, vs, rfl, ⟨m, hp⟩, rs, _⟩ := r.of_list
  exact getMethod_list_of PySem.F.slot_list_index PySem.F.type_list_index (Heap.PlainList.isList ⟨m, hp⟩) ⟨_, hp, rfl⟩ h
end Mine

open PySem PySem.W PyProof.Rows PySem.Calls
namespace Mine

variable {prog : Program} {w : World} {K : Frag} {n : Nat} {sc : Scope} {ρ : Rho} {own : List Str} {A : Around}

theorem lk0 {x : Str} {d : PyData} {ρ : Rho} : List.lookup x ((x, d) :: ρ) = some d := by simp [List.lookup_cons]
theorem lk1 {x y : Str} {d e : PyData} {ρ : Rho} (h : (x == y) = false) (hr : List.lookup x ρ = some d) : List.lookup x ((y, e) :: ρ) = some d := by rw [List.lookup_cons, h]; exact hr
/-- bs binds no name of ρ -/
noncomputable def disj : Rho → Rho → Bool
  | [], _ => true
  | (x, _) :: bs, ρ => (ρ.map (·.1)).all (fun y => x != y) && disj bs ρ
theorem lookup_none_of {x : Str} : ∀ {ρ : Rho}, (ρ.map (·.1)).all (fun y => x != y) = true → ρ.lookup x = none
  | [], _ => rfl
  | (y, d) :: ρ, h => by
    simp only [List.map_cons, List.all_cons, Bool.and_eq_true, bne_iff_ne] at h
    rw [List.lookup_cons, beq_eq_false_iff_ne.mpr h.1]; exact lookup_none_of h.2
theorem disj.get {bs ρ : Rho} (h : disj bs ρ = true) : ∀ x d, ρ.lookup x = some d → (bs ++ ρ).lookup x = some d := by
  intro x d hx
  rw [lookup_app]
  have : bs.lookup x = none := by
    induction bs with
    | nil => rfl
    | cons p bs ih =>
      obtain ⟨y, e⟩ := p
      simp only [disj, Bool.and_eq_true] at h
      rw [List.lookup_cons]
      cases hb : x == y with
      | true => obtain rfl := beq_iff_eq.mp hb; rw [lookup_none_of h.1] at hx; cases hx
      | false => exact ih h.2
  rw [this]; exact hx

open Classical in
/-- a function of the mark, as a function of the datum -/
noncomputable def onD {α : Type} (g : α → PyData) (F : α → List PyData) (d : PyData) : List PyData := if h : ∃ a, g a = d then F h.choose else []
theorem onD_at {α : Type} {g : α → PyData} {F : α → List PyData} (hg : ∀ a b, g a = g b → a = b) (a : α) : onD g F (g a) = F a := by
  unfold onD
  have h : ∃ b, g b = g a := ⟨a, rfl⟩
  rw [dif_pos h, hg _ _ h.choose_spec]
theorem onD_map {α : Type} {g : α → PyData} {F : α → List PyData} (hg : ∀ a b, g a = g b → a = b) (as : List α) : (as.map g).flatMap (onD g F) = as.flatMap F := by
  rw [List.flatMap_map]; congr 1; funext a; exact onD_at hg a
theorem flatMap_filter {α : Type} (p : α → Bool) (h : α → PyData) : ∀ as : List α, as.flatMap (fun a => if p a then [h a] else []) = (as.filter p).map h
  | [] => rfl
  | a :: as => by
    rw [List.flatMap_cons, flatMap_filter p h as, List.filter_cons]
    cases p a <;> rfl

/-- [elt for target in iter if ifs], over marks -/
theorem ev_comp1 {α : Type} {as : List α} (g : α → PyData) (p : α → Bool) (h : α → PyData) {elt target iter : Expr} {ifs : List Expr} {scope : Scope} {pos : Pos} {ds : List PyData} {ρc : Rho} (hds : ds = as.map g) (hg : ∀ a b, g a = g b → a = b)
    (hit : IT prog w K n sc ρ target iter ds) (hfr : FR ρ scope.names ρc) (hok : compOk scope sc = true)
    (turns : ∀ a ∈ as, ∃ bs, BB prog w K n (relabelS scope sc) (cellNames scope) target (g a) bs ∧ disj bs ρc = true ∧ TI prog w K n (relabelS scope sc) (bs ++ ρc) ifs (p a) ∧ (p a = true → EV prog w K n (relabelS scope sc) (bs ++ ρc) elt (h a)))
    (hsz : as.length ≤ sizeLine) (hs : autoParam (∀ env x, foldedSetIterable iter env x = pure x) auK) :
    EV prog w K n sc ρ (.ListComp elt [⟨target, iter, ifs, 0⟩] scope pos) (.list ((as.filter p).map h)) := by
  subst hds
  have e := ev_comp (elt := elt) (pos := pos) (ifs := ifs) (onD g fun a => if p a then [h a] else []) hit hfr hok (fun d hd => ?_) ?_ hs
  · rw [onD_map hg, flatMap_filter] at e; exact e
  · obtain ⟨a, ha, rfl⟩ := List.mem_map.mp hd
    obtain ⟨bs, hb, hdj, ht, hv⟩ := turns a ha
    refine ⟨bs ++ ρc, p a, hb ρc, ht, fun q => ?_, fun q => ?_, disj.get hdj⟩
    · rw [onD_at hg, q]; exact ci_emit' (hv q)
    · rw [onD_at hg, q]; rfl
  · rw [onD_map hg, flatMap_filter, List.length_map]
    exact Nat.le_trans (List.length_filter_le _ _) hsz
theorem ev_map {α : Type} {as : List α} (g : α → PyData) (h : α → PyData) {elt target iter : Expr} {scope : Scope} {pos : Pos} {ds : List PyData} {ρc : Rho} (hds : ds = as.map g) (hg : ∀ a b, g a = g b → a = b)
    (hit : IT prog w K n sc ρ target iter ds) (hfr : FR ρ scope.names ρc) (hok : compOk scope sc = true)
    (turns : ∀ a ∈ as, ∃ bs, BB prog w K n (relabelS scope sc) (cellNames scope) target (g a) bs ∧ disj bs ρc = true ∧ EV prog w K n (relabelS scope sc) (bs ++ ρc) elt (h a))
    (hsz : as.length ≤ sizeLine) (hs : autoParam (∀ env x, foldedSetIterable iter env x = pure x) auK) :
    EV prog w K n sc ρ (.ListComp elt [⟨target, iter, [], 0⟩] scope pos) (.list (as.map h)) := by
  have e := ev_comp1 (p := fun _ => true) (pos := pos) (elt := elt) (ifs := []) g h hds hg hit hfr hok (fun a ha => ?_) hsz hs
  · have e2 : as.filter (fun _ => true) = as := by simp
    rw [e2] at e; exact e
  · obtain ⟨bs, h1, h2, h3⟩ := turns a ha
    exact ⟨bs, h1, h2, ti_nil, fun _ => h3⟩
theorem ev_sift {α : Type} {as : List α} (g : α → PyData) (p : α → Bool) (h : α → PyData) {elt target iter test : Expr} {scope : Scope} {pos : Pos} {ds : List PyData} {ρc : Rho} (hds : ds = as.map g) (hg : ∀ a b, g a = g b → a = b)
    (hit : IT prog w K n sc ρ target iter ds) (hfr : FR ρ scope.names ρc) (hok : compOk scope sc = true)
    (turns : ∀ a ∈ as, ∃ bs, BB prog w K n (relabelS scope sc) (cellNames scope) target (g a) bs ∧ disj bs ρc = true ∧ TE prog w K n (relabelS scope sc) (bs ++ ρc) test (p a) ∧ EV prog w K n (relabelS scope sc) (bs ++ ρc) elt (h a))
    (hsz : as.length ≤ sizeLine) (hs : autoParam (∀ env x, foldedSetIterable iter env x = pure x) auK) :
    EV prog w K n sc ρ (.ListComp elt [⟨target, iter, [test], 0⟩] scope pos) (.list ((as.filter p).map h)) :=
  ev_comp1 g p h hds hg hit hfr hok (fun a ha => let ⟨bs, h1, h2, h3, h4⟩ := turns a ha; ⟨bs, h1, h2, ti_one h3, fun _ => h4⟩) hsz hs
theorem sD_inj (a b : Wd) (h : sD a = sD b) : a = b := by
  unfold sD at h
  injection h with h
  injection h with h
  exact congrArg Array.toList h
theorem s1_inj (a b : Nat) (h : sD [a] = sD [b]) : a = b := by
  have := sD_inj _ _ h; simpa using this
theorem signs_map (a : Wd) : signs ⟨a.toArray⟩ = a.map fun c => sD [c] := rfl

/-- the text's defs: the k-th statement -/
noncomputable def bodyAt (k : Nat) : List Stmt := match PySem.Challenge.pw_pw0003_01.main.body[k]? with | some (.FunctionDef (body := b) ..) => b | _ => []
noncomputable def scopeAt (k : Nat) : Scope := match PySem.Challenge.pw_pw0003_01.main.body[k]? with | some (.FunctionDef (scope := b) ..) => b | _ => default
noncomputable def nameAt (k : Nat) : Str := match PySem.Challenge.pw_pw0003_01.main.body[k]? with | some (.FunctionDef (name := b) ..) => b | _ => default
end Mine

open PySem PySem.W PyProof.Rows PySem.Calls
namespace Mine

variable {prog : Program} {w : World} {K : Frag} {n : Nat} {sc : Scope} {ρ : Rho} {own : List Str} {A : Around}

/-- the module's name of a word -/
noncomputable def dots (x : Wd) : Wd := x.flatMap fun c => 46 :: List.replicate (c - 96) 97
noncomputable def nm (x : Wd) : Wd := 116 :: dots x
noncomputable def abc (x : Wd) : Prop := ∀ c ∈ x, c = 97 ∨ c = 98 ∨ c = 99
noncomputable def pairD (x : Wd) : PyData := .tuple [sD x, sD (nm x)]
noncomputable def pD (ws : List Wd) : PyData := .list (ws.map pairD)

theorem dots_len : ∀ {x : Wd}, abc x → (dots x).length ≤ 4 * x.length
  | [], _ => by simp [dots]
  | c :: x, h => by
    have h1 := dots_len (x := x) fun d hd => h d (List.mem_cons_of_mem _ hd)
    have h2 := h c List.mem_cons_self
    simp only [dots, List.flatMap_cons, List.length_append, List.length_cons, List.length_replicate] at h1 ⊢
    lia
theorem ev_lit {x : Str} {a : Wd} {k : Nat} {pos : Pos} (h : x = ⟨a.toArray⟩) : EV prog w K n sc ρ (.Constant (.str x) k pos) (sD a) := by subst h; exact ev_str
theorem nm_part {c : Nat} (h : c = 97 ∨ c = 98 ∨ c = 99) : (1 + ((c : Int) - 97)).toNat = c - 96 := by lia
theorem join_nm (x : Wd) : (116 : Nat) :: [] ++ (x.map fun c => List.replicate (c - 96) 97).flatMap (fun p => [46] ++ p) = nm x := by
  simp [nm, dots, List.flatMap_map]
theorem pairD_inj (a b : Wd) (h : pairD a = pairD b) : a = b := by
  unfold pairD at h
  injection h with h
  injection h with h
  exact sD_inj _ _ h
theorem sum_le {α : Type} (f : α → Nat) (B : Nat) : ∀ l : List α, (∀ a ∈ l, f a ≤ B) → (l.map f).sum ≤ B * l.length
  | [], _ => by simp
  | a :: l, h => by
    have h1 := sum_le f B l fun b hb => h b (List.mem_cons_of_mem _ hb)
    have h2 := h a List.mem_cons_self
    simp only [List.map_cons, List.sum_cons, List.length_cons, Nat.mul_add, Nat.mul_one]
    lia
theorem szl {m : Nat} (h : m ≤ 16777216) : m ≤ sizeLine := h
set_option maxRecDepth 4000 in
set_option maxHeartbeats 4000000 in
theorem pairs_ex {ws : List Wd} (hw : ∀ x ∈ ws, abc x ∧ x.length ≤ 100) (hl : ws.length ≤ 10000) :
    EX prog w K n (scopeAt 17) (cellNames (scopeAt 17)) [(Str.ofString "words", lD ws)] none (bodyAt 17) (fun f _ _ => f = .ret (pD ws)) := by
  refine ex_cons (x1_return (d := pD ws) ?_ rfl)
  refine ev_map (as := ws) sD pairD rfl sD_inj (it_list (ev_name lk0)) (.skip (by decide) (.skip (by decide) .nil)) (by kernel_rfl) (fun x hx => ⟨[(Str.ofString "word", sD x)], bb_name, by kernel_rfl, ?_⟩) (szl (by lia))
  simp only [List.cons_append, List.nil_append]
  obtain ⟨ha, hxl⟩ := hw x hx
  unfold pairD
  with_reducible refine ev_tuple (evs_cons (ev_name lk0) (evs_cons (ev_meth (ev_lit (a := [46]) (by kernel_rfl)) gm_join (evs_cons (d := lD ([116] :: x.map fun c => List.replicate (c - 96) 97)) ?_ evs_nil) ?_) evs_nil)) (szl (by simp))
  · with_reducible refine ev_bin (d₁ := .list [sD [116]]) (d₂ := .list (x.map fun c => sD (List.replicate (c - 96) 97))) (ev_list (evs_cons (ev_lit (by kernel_rfl)) evs_nil)) ?_ ?_
    · refine ev_map (as := x) (fun c => sD [c]) (fun c => sD (List.replicate (c - 96) 97)) (signs_map x) s1_inj (it_str (ev_name lk0)) (.skip (by decide) (.skip (by decide) .nil)) (by kernel_rfl)
        (fun c hc => ⟨[(Str.ofString "sign", sD [c])], bb_name, by kernel_rfl, ?_⟩) (szl (by lia))
      simp only [List.cons_append, List.nil_append]
      have hc3 := ha c hc
      rw [← nm_part hc3]
      with_reducible refine ev_bin (d₁ := sD [97]) (d₂ := .int (1 + ((c : Int) - 97))) (ev_lit (by kernel_rfl)) ?_ (bo_rep (by lia) (by lia))
      with_reducible refine ev_bin (d₁ := .int 1) (d₂ := .int ((c : Int) - 97)) ev_int ?_ bo_add
      with_reducible refine ev_meth (d := sD [97, 98, 99]) (ds := [sD [c]]) (ev_lit (by kernel_rfl)) gm_index (evs_cons (ev_name lk0) evs_nil) (ca_abc_index hc3)
    · have := bo_list (prog := prog) (w := w) (K := K) (n := n) (ds := [sD [116]]) (es := x.map fun c => sD (List.replicate (c - 96) 97)) (szl (by simp; lia))
      simpa [lD, List.map_map, Function.comp_def] using this
  · have := ca_join (prog := prog) (w := w) (K := K) (n := n) (sep := [46]) (x := [116]) (ws := x.map fun c => List.replicate (c - 96) 97) (by
      have := sum_le List.length 3 (x.map fun c => List.replicate (c - 96) 97) (fun l hl => by
        obtain ⟨c, hc, rfl⟩ := List.mem_map.mp hl
        rw [List.length_replicate]
        have := ha c hc
        lia)
      simp only [List.map_cons, List.sum_cons, List.length_cons, List.length_map, List.length_nil] at this ⊢
      lia)
    rw [show [116] ++ (x.map fun c => List.replicate (c - 96) 97).flatMap (fun p => [46] ++ p) = nm x from join_nm x] at this
    exact this
end Mine

open PySem PySem.W PyProof.Rows PySem.Calls
namespace Mine

variable {prog : Program} {w : World} {K : Frag} {n : Nat} {sc : Scope} {ρ : Rho} {own : List Str} {A : Around}

theorem flatMap_one {β : Type} (h : β → PyData) : ∀ bs : List β, (bs.flatMap fun b => [h b]) = bs.map h
  | [] => rfl
  | b :: bs => by rw [List.flatMap_cons, flatMap_one h bs]; rfl
/-- [elt for target in iter for target' in iter'], over marks -/
theorem ev_prod {α β : Type} {as : List α} {bs : List β} (g : α → PyData) (g' : β → PyData) (h : α → β → PyData) {elt target iter target' iter' : Expr} {scope : Scope} {pos : Pos} {ds es : List PyData} {ρc : Rho} (hds : ds = as.map g) (hes : es = bs.map g')
    (hg : ∀ a b, g a = g b → a = b) (hg' : ∀ a b, g' a = g' b → a = b)
    (hit : IT prog w K n sc ρ target iter ds) (hfr : FR ρ scope.names ρc) (hok : compOk scope sc = true)
    (turns : ∀ a ∈ as, ∃ cs, BB prog w K n (relabelS scope sc) (cellNames scope) target (g a) cs ∧ disj cs ρc = true ∧ IT prog w K n (relabelS scope sc) (cs ++ ρc) target' iter' es ∧
      ∀ b ∈ bs, ∃ cs', BB prog w K n (relabelS scope sc) (cellNames scope) target' (g' b) cs' ∧ disj cs' (cs ++ ρc) = true ∧ EV prog w K n (relabelS scope sc) (cs' ++ (cs ++ ρc)) elt (h a b))
    (hsz : as.length * bs.length ≤ sizeLine) (hs : autoParam (∀ env x, foldedSetIterable iter env x = pure x) auK) (hs' : autoParam (∀ env x, foldedSetIterable iter' env x = pure x) auK) :
    EV prog w K n sc ρ (.ListComp elt [⟨target, iter, [], 0⟩, ⟨target', iter', [], 0⟩] scope pos) (.list (as.flatMap fun a => bs.map (h a))) := by
  subst hds hes
  have e := ev_comp2 (elt := elt) (pos := pos) (ifs := []) (ifs' := []) (target' := target') (iter' := iter') (onD g fun a => bs.map (h a)) hit hfr hok (fun d hd => ?_) ?_ hs
  · rw [onD_map hg] at e; exact e
  · obtain ⟨a, ha, rfl⟩ := List.mem_map.mp hd
    obtain ⟨cs, hb, hdj, hit', hv⟩ := turns a ha
    refine ⟨cs ++ ρc, true, hb ρc, ti_nil, fun _ => ?_, fun q => (by cases q), disj.get hdj⟩
    rw [onD_at hg]
    have e2 := ci_nest (own := cellNames scope) (elt := elt) (g := ⟨target, iter, [], 0⟩) (scope := scope) (pos := pos) (ifs := []) (f := onD g' fun b => [h a b]) hit' (fun d hd => ?_) hs'
    · rw [onD_map hg'] at e2
      rw [flatMap_one] at e2; exact e2
    · obtain ⟨b, hb', rfl⟩ := List.mem_map.mp hd
      obtain ⟨cs', h1, h2, h3⟩ := hv b hb'
      refine ⟨cs' ++ (cs ++ ρc), true, h1 _, ti_nil, fun _ => ?_, fun q => (by cases q), disj.get h2⟩
      rw [onD_at hg']
      exact ci_emit' h3
  · rw [onD_map hg]
    have : ∀ l : List α, (l.flatMap fun a => bs.map (h a)).length = l.length * bs.length := fun l => by
      induction l with
      | nil => simp
      | cons a l ih => rw [List.flatMap_cons, List.length_append, ih, List.length_map, List.length_cons, Nat.add_mul, Nat.one_mul, Nat.add_comm]
    rw [this]; exact hsz
/-- whether the comprehension's value is stored ahead of its frame's end -/
noncomputable def swapB (sc scope : Scope) (y : Str) (l1 l2 : Nat) : Bool :=
  (if sc.kind.isAnnotationScope then ScopeKind.function else sc.kind) == .function && sc.names.lookup y == some .local && l1 == l2 && !(scope.names.any fun (n, k) => n == y && (k == .local || k == .cell))
theorem swaps_eq {elt : Expr} {gs : List Comprehension} {scope : Scope} {cp p : Pos} {y : Str} {l : Nat} {env : Env} {b : Bool} (hb : swapB sc scope y p.line cp.line = b) (h : env.scope = sc) :
    swapsWith (.ListComp elt gs scope cp) (some (.Name y p)) l env = pure b := by
  subst h; subst hb; rfl
theorem x1_sift' {α : Type} {as : List α} {ow : OwS} (g : α → PyData) (p : α → Bool) (h : α → PyData) {elt target iter : Expr} {ifs : List Expr} {scope : Scope} {cp yp pos : Pos} {y : Str} {ds : List PyData} {ρc : Rho} {Q : FlowD → Rho → OwS → Prop} (hds : ds = as.map g) (hg : ∀ a b, g a = g b → a = b)
    (hit : IT prog w K n sc ρ target iter ds) (hfr : FR ρ scope.names ρc) (hok : compOk scope sc = true)
    (turns : ∀ a ∈ as, ∃ bs, BB prog w K n (relabelS scope sc) (cellNames scope) target (g a) bs ∧ disj bs ρc = true ∧ TI prog w K n (relabelS scope sc) (bs ++ ρc) ifs (p a) ∧ (p a = true → EV prog w K n (relabelS scope sc) (bs ++ ρc) elt (h a)))
    (hsz : as.length ≤ sizeLine) (hsw : swapB sc scope y yp.line cp.line = true) (hy : stoB sc own y = true) (ho : offB ow y = true) (hq : Q .next ((y, .list ((as.filter p).map h)) :: ρ) ow)
    (hs : autoParam (∀ env x, foldedSetIterable iter env x = pure x) auK) :
    EX1 prog w K n sc own ρ ow (.Assign [.Name y yp] (.ListComp elt [⟨target, iter, ifs, 0⟩] scope cp) pos) Q := by
  subst hds
  refine x1_comp (onD g fun a => if p a then [h a] else []) hit hfr hok (turn_one elt target iter ifs scope cp) (fun d hd => ?_) ?_ hy ho ?_ hs (fun env he => swaps_eq hsw he)
  · obtain ⟨a, ha, rfl⟩ := List.mem_map.mp hd
    obtain ⟨bs, hb, hdj, ht, hv⟩ := turns a ha
    refine ⟨bs ++ ρc, p a, hb ρc, ht, fun q => ?_, fun q => ?_, disj.get hdj⟩
    · rw [onD_at hg, q]; exact ci_emit' (hv q)
    · rw [onD_at hg, q]; rfl
  · rw [onD_map hg, flatMap_filter, List.length_map]
    exact Nat.le_trans (List.length_filter_le _ _) hsz
  · rw [onD_map hg, flatMap_filter]; exact hq
theorem x1_map {α : Type} {as : List α} {ow : OwS} (g : α → PyData) (h : α → PyData) {elt target iter : Expr} {scope : Scope} {cp yp pos : Pos} {y : Str} {ds : List PyData} {ρc : Rho} {Q : FlowD → Rho → OwS → Prop} (hds : ds = as.map g) (hg : ∀ a b, g a = g b → a = b)
    (hit : IT prog w K n sc ρ target iter ds) (hfr : FR ρ scope.names ρc) (hok : compOk scope sc = true)
    (turns : ∀ a ∈ as, ∃ bs, BB prog w K n (relabelS scope sc) (cellNames scope) target (g a) bs ∧ disj bs ρc = true ∧ EV prog w K n (relabelS scope sc) (bs ++ ρc) elt (h a))
    (hsz : as.length ≤ sizeLine) (hsw : swapB sc scope y yp.line cp.line = true) (hy : stoB sc own y = true) (ho : offB ow y = true) (hq : Q .next ((y, .list (as.map h)) :: ρ) ow)
    (hs : autoParam (∀ env x, foldedSetIterable iter env x = pure x) auK) :
    EX1 prog w K n sc own ρ ow (.Assign [.Name y yp] (.ListComp elt [⟨target, iter, [], 0⟩] scope cp) pos) Q := by
  refine x1_sift' g (fun _ => true) h hds hg hit hfr hok (fun a ha => ?_) hsz hsw hy ho ?_ hs
  · obtain ⟨bs, h1, h2, h3⟩ := turns a ha
    exact ⟨bs, h1, h2, ti_nil, fun _ => h3⟩
  · have e2 : as.filter (fun _ => true) = as := by simp
    rw [e2]; exact hq
theorem x1_sift {α : Type} {as : List α} {ow : OwS} (g : α → PyData) (p : α → Bool) (h : α → PyData) {elt target iter test : Expr} {scope : Scope} {cp yp pos : Pos} {y : Str} {ds : List PyData} {ρc : Rho} {Q : FlowD → Rho → OwS → Prop} (hds : ds = as.map g) (hg : ∀ a b, g a = g b → a = b)
    (hit : IT prog w K n sc ρ target iter ds) (hfr : FR ρ scope.names ρc) (hok : compOk scope sc = true)
    (turns : ∀ a ∈ as, ∃ bs, BB prog w K n (relabelS scope sc) (cellNames scope) target (g a) bs ∧ disj bs ρc = true ∧ TE prog w K n (relabelS scope sc) (bs ++ ρc) test (p a) ∧ EV prog w K n (relabelS scope sc) (bs ++ ρc) elt (h a))
    (hsz : as.length ≤ sizeLine) (hsw : swapB sc scope y yp.line cp.line = true) (hy : stoB sc own y = true) (ho : offB ow y = true) (hq : Q .next ((y, .list ((as.filter p).map h)) :: ρ) ow)
    (hs : autoParam (∀ env x, foldedSetIterable iter env x = pure x) auK) :
    EX1 prog w K n sc own ρ ow (.Assign [.Name y yp] (.ListComp elt [⟨target, iter, [test], 0⟩] scope cp) pos) Q :=
  x1_sift' g p h hds hg hit hfr hok (fun a ha => let ⟨bs, h1, h2, h3, h4⟩ := turns a ha; ⟨bs, h1, h2, ti_one h3, fun _ => h4⟩) hsz hsw hy ho hq hs
theorem x1_prod {α β : Type} {as : List α} {bs : List β} {ow : OwS} (g : α → PyData) (g' : β → PyData) (h : α → β → PyData) {elt target iter target' iter' : Expr} {scope : Scope} {cp yp pos : Pos} {y : Str} {ds es : List PyData} {ρc : Rho} {Q : FlowD → Rho → OwS → Prop}
    (hds : ds = as.map g) (hes : es = bs.map g') (hg : ∀ a b, g a = g b → a = b) (hg' : ∀ a b, g' a = g' b → a = b)
    (hit : IT prog w K n sc ρ target iter ds) (hfr : FR ρ scope.names ρc) (hok : compOk scope sc = true)
    (turns : ∀ a ∈ as, ∃ cs, BB prog w K n (relabelS scope sc) (cellNames scope) target (g a) cs ∧ disj cs ρc = true ∧ IT prog w K n (relabelS scope sc) (cs ++ ρc) target' iter' es ∧
      ∀ b ∈ bs, ∃ cs', BB prog w K n (relabelS scope sc) (cellNames scope) target' (g' b) cs' ∧ disj cs' (cs ++ ρc) = true ∧ EV prog w K n (relabelS scope sc) (cs' ++ (cs ++ ρc)) elt (h a b))
    (hsz : as.length * bs.length ≤ sizeLine) (hsw : swapB sc scope y yp.line cp.line = true) (hy : stoB sc own y = true) (ho : offB ow y = true) (hq : Q .next ((y, .list (as.flatMap fun a => bs.map (h a))) :: ρ) ow)
    (hs : autoParam (∀ env x, foldedSetIterable iter env x = pure x) auK) (hs' : autoParam (∀ env x, foldedSetIterable iter' env x = pure x) auK) :
    EX1 prog w K n sc own ρ ow (.Assign [.Name y yp] (.ListComp elt [⟨target, iter, [], 0⟩, ⟨target', iter', [], 0⟩] scope cp) pos) Q := by
  subst hds hes
  refine x1_comp (onD g fun a => bs.map (h a)) hit hfr hok (turn_two0 elt target iter target' iter' [] [] scope cp) (fun d hd => ?_) ?_ hy ho ?_ hs (fun env he => swaps_eq hsw he)
  · obtain ⟨a, ha, rfl⟩ := List.mem_map.mp hd
    obtain ⟨cs, hb, hdj, hit', hv⟩ := turns a ha
    refine ⟨cs ++ ρc, true, hb ρc, ti_nil, fun _ => ?_, fun q => (by cases q), disj.get hdj⟩
    rw [onD_at hg]
    have e2 := ci_nest (own := cellNames scope) (elt := elt) (g := ⟨target, iter, [], 0⟩) (scope := scope) (pos := cp) (ifs := []) (f := onD g' fun b => [h a b]) hit' (fun d hd => ?_) hs'
    · rw [onD_map hg', flatMap_one] at e2; exact e2
    · obtain ⟨b, hb', rfl⟩ := List.mem_map.mp hd
      obtain ⟨cs', h1, h2, h3⟩ := hv b hb'
      refine ⟨cs' ++ (cs ++ ρc), true, h1 _, ti_nil, fun _ => ?_, fun q => (by cases q), disj.get h2⟩
      rw [onD_at hg']
      exact ci_emit' h3
  · rw [onD_map hg]
    have : ∀ l : List α, (l.flatMap fun a => bs.map (h a)).length = l.length * bs.length := fun l => by
      induction l with
      | nil => simp
      | cons a l ih => rw [List.flatMap_cons, List.length_append, ih, List.length_map, List.length_cons, Nat.add_mul, Nat.one_mul, Nat.add_comm]
    rw [this]; exact hsz
  · rw [onD_map hg]; exact hq
end Mine

open PySem PySem.W PyProof.Rows PySem.Calls
namespace Mine

variable {prog : Program} {w : World} {K : Frag} {n : Nat} {sc : Scope} {ρ : Rho} {own : List Str} {A : Around}

/-- the builtin names that the text calls are not its own -/
structure KB (K : Frag) : Prop where
  sorted_ : nsIn K mainGlobals (Str.ofString "sorted") = some none
  len_ : nsIn K mainGlobals (Str.ofString "len") = some none
  range_ : nsIn K mainGlobals (Str.ofString "range") = some none
  zip_ : nsIn K mainGlobals (Str.ofString "zip") = some none
  min_ : nsIn K mainGlobals (Str.ofString "min") = some none
  str_ : nsIn K mainGlobals (Str.ofString "str") = some none

noncomputable def W12 : List Wd := [[97], [98], [99]] ++ [97, 98, 99].flatMap fun a => [97, 98, 99].map fun b => [a, b]
noncomputable def dg (k p : Int) : Nat := (Int.fmod (Int.fdiv (k - 256) p) 12).toNat
noncomputable def wAt (i : Nat) : Wd := W12.getD i []
noncomputable def stepW (ws : List Wd) (x : Wd) : List Wd := if ws.contains x then ws else ws ++ [x]
noncomputable def rawDr (k : Int) (ps : List Int) : List Wd := ps.foldl (fun ws p => stepW ws (wAt (dg k p))) []
noncomputable def dr (k : Int) : List Wd := sortW (rawDr k [1, 12, 144])

theorem dg_lt (k p : Int) : dg k p < 12 := by
  unfold dg
  have h1 := Int.fmod_nonneg_of_pos (Int.fdiv (k - 256) p) (b := 12) (by omega)
  have h2 := Int.fmod_lt_of_pos (Int.fdiv (k - 256) p) (b := 12) (by omega)
  omega
theorem dg_eq (k p : Int) : Int.fmod (Int.fdiv (k - 256) p) 12 = (dg k p : Int) := by
  unfold dg
  have h1 := Int.fmod_nonneg_of_pos (Int.fdiv (k - 256) p) (b := 12) (by omega)
  omega
theorem W12_get {i : Nat} (h : i < 12) : W12[i]? = some (wAt i) := by
  unfold wAt
  rw [List.getD_eq_getElem?_getD]
  have : i < W12.length := h
  rw [List.getElem?_eq_getElem this]; rfl
theorem pylong_no (a : Int) {p : Int} (h : p = 1 ∨ p = 12 ∨ p = 144) : Builtin.divisionGoesByPylong a p = false := by
  rcases h with rfl | rfl | rfl <;> (unfold Builtin.divisionGoesByPylong; rw [Bool.and_eq_false_iff]; left; decide)
theorem stepW_len (ws : List Wd) (x : Wd) : (stepW ws x).length ≤ ws.length + 1 := by
  unfold stepW; split <;> simp
theorem rawDr_len (k : Int) (ps : List Int) : ∀ ws : List Wd, (ps.foldl (fun ws p => stepW ws (wAt (dg k p))) ws).length ≤ ws.length + ps.length := by
  induction ps with
  | nil => intro ws; simp
  | cons p ps ih => intro ws; rw [List.foldl_cons]; have := ih (stepW ws (wAt (dg k p))); have := stepW_len ws (wAt (dg k p)); simp only [List.length_cons]; omega
theorem rawDr_succ (k p : Int) (ps : List Int) (i : Nat) (h : ps[i]? = some p) : rawDr k (ps.take (i + 1)) = stepW (rawDr k (ps.take i)) (wAt (dg k p)) := by
  unfold rawDr
  rw [List.take_add_one, h, List.foldl_append]; rfl
theorem lD_app (ws : List Wd) (x : Wd) : ws.map sD ++ [sD x] = (ws ++ [x]).map sD := by simp

theorem it_word {target iter : Expr} {a : Wd} (h : EV prog w K n sc ρ iter (sD a)) : IT prog w K n sc ρ target iter (a.map fun c => sD [c]) := it_str h
theorem sub_of {l ρ' : Rho} (h : ∀ p ∈ l, ρ'.lookup p.1 = some p.2) : ∀ x e, l.lookup x = some e → ρ'.lookup x = some e := fun x e hx => h (x, e) (PySem.mem_of_lookup hx)
theorem sub1 {x : Str} {d : PyData} {ρ' : Rho} (h : ρ'.lookup x = some d) : ∀ y e, List.lookup y [(x, d)] = some e → ρ'.lookup y = some e := sub_of fun p hp => by
  rw [List.mem_singleton] at hp; subst hp; exact h
theorem subC {x : Str} {d : PyData} {l ρ' : Rho} (h : ρ'.lookup x = some d) (hs : ∀ y e, List.lookup y l = some e → ρ'.lookup y = some e) : ∀ y e, List.lookup y ((x, d) :: l) = some e → ρ'.lookup y = some e := fun y e hx => by
  rw [List.lookup_cons] at hx
  cases hb : y == x with
  | true => rw [hb] at hx; obtain rfl := beq_iff_eq.mp hb; rw [h]; exact hx
  | false => rw [hb] at hx; exact hs y e hx
set_option maxRecDepth 4000 in
set_option maxHeartbeats 4000000 in
theorem drawn_ex {k : Int} (B : KB K) :
    EX prog w K n (scopeAt 18) (cellNames (scopeAt 18)) [(Str.ofString "number", .int k)] none (bodyAt 18) (fun f _ _ => f = .ret (lD (dr k))) := by
  refine ex_cons (x1_assign (d := lD W12) ?_ (by kernel_rfl) rfl ?_)
  · unfold lD W12
    rw [List.map_append]
    with_reducible refine ev_bin (d₁ := .list [sD [97], sD [98], sD [99]]) (d₂ := .list ([97, 98, 99].flatMap fun a => [97, 98, 99].map fun b => sD [a, b])) ?_ ?_ ?_
    · with_reducible exact ev_list (evs_cons (ev_lit (by kernel_rfl)) (evs_cons (ev_lit (by kernel_rfl)) (evs_cons (ev_lit (by kernel_rfl)) evs_nil))) (szl (by simp))
    · refine ev_prod (as := [97, 98, 99]) (bs := [97, 98, 99]) (fun c => sD [c]) (fun c => sD [c]) (fun a b => sD [a, b]) rfl rfl s1_inj s1_inj (it_word (a := [97, 98, 99]) ?_) (.skip (by decide) (.skip (by decide) (.skip (by decide) .nil))) (by kernel_rfl)
        (fun a _ => ⟨[(Str.ofString "one", sD [a])], bb_name, by kernel_rfl, it_word (a := [97, 98, 99]) ?_, fun b _ => ⟨[(Str.ofString "other", sD [b])], bb_name, by kernel_rfl, ?_⟩⟩) (szl (by decide))
      · with_reducible exact ev_lit (by kernel_rfl)
      · with_reducible exact ev_lit (by kernel_rfl)
      · simp only [List.cons_append, List.nil_append]
        with_reducible refine ev_bin (ev_name (lk1 (by kernel_rfl) lk0)) (ev_name lk0) ?_
        exact bo_cat (a := [a]) (b := [b]) (szl (by simp))
    · have := bo_list (prog := prog) (w := w) (K := K) (n := n) (ds := [sD [97], sD [98], sD [99]]) (es := [97, 98, 99].flatMap fun a => [97, 98, 99].map fun b => sD [a, b]) (szl (by decide))
      simpa using this
  refine ex_cons (x1_new (by kernel_rfl) (by kernel_rfl) ?_)
  refine ex_cons (x1_for (ds := [.int 1, .int 12, .int 144]) (I := fun i ρ' ow' => ρ'.lookup (Str.ofString "number") = some (.int k) ∧ ρ'.lookup (Str.ofString "words") = some (lD W12) ∧ ow' = some (Str.ofString "drawn", (rawDr k ([1, 12, 144].take i)).map sD)) (it_list ?_) ?_ (fun i d ρ' ow' hi hI => ?_) (fun ρ' ow' hI => ?_))
  · with_reducible exact ev_list (evs_cons ev_int (evs_cons ev_int (evs_cons ev_int evs_nil))) (szl (by simp))
  · exact ⟨lk1 (by kernel_rfl) lk0, lk0, rfl⟩
  · obtain ⟨h1, h2, rfl⟩ := hI
    obtain ⟨p, hp, rfl⟩ : ∃ p : Int, [1, 12, 144][i]? = some p ∧ d = .int p := by
      match i, hi with
      | 0, hi => exact ⟨1, rfl, by simpa using hi.symm⟩
      | 1, hi => exact ⟨12, rfl, by simpa using hi.symm⟩
      | 2, hi => exact ⟨144, rfl, by simpa using hi.symm⟩
      | i + 3, hi => simp at hi
    have hp3 : p = 1 ∨ p = 12 ∨ p = 144 := by
      have := List.mem_of_getElem? hp; simpa using this
    refine ⟨[(Str.ofString "number", .int k), (Str.ofString "words", lD W12)], [(Str.ofString "place", .int p)], ?_, bb_name, by kernel_rfl, ?_⟩
    · exact subC h1 (sub1 h2)
    simp only [List.cons_append, List.nil_append]
    refine ex_cons (x1_assign (d := sD (wAt (dg k p))) ?_ (by kernel_rfl) (by kernel_rfl) ?_)
    · with_reducible refine ev_sub (d := lD W12) (k := .int (dg k p)) (ev_name (lk1 (by kernel_rfl) (lk1 (by kernel_rfl) lk0))) ?_ ?_ (by intro _ _; kernel_rfl)
      · rw [← dg_eq]
        with_reducible exact ev_bin (ev_bin (ev_bin (ev_name (lk1 (by kernel_rfl) lk0)) ev_int bo_sub) (ev_name lk0) (bo_fdiv (by omega) (pylong_no _ hp3))) ev_int (bo_mod (by decide))
      · refine gi_list ?_ (by have := dg_lt k p; omega)
        rw [List.getElem?_map, W12_get (dg_lt k p)]; rfl
    · refine ex_cons (x1_if (b := !(rawDr k ([1, 12, 144].take i)).contains (wAt (dg k p))) ?_ (fun hb => ?_) (fun hb => ?_))
      · show TE prog w K n (scopeAt 18) ((Str.ofString "drawn", lD (rawDr k ([1, 12, 144].take i))) :: _) _ _
        with_reducible exact te_cmp (ev_name (lk1 (by kernel_rfl) lk0)) (ev_name lk0) co_notin (by kernel_rfl)
      · refine ex_cons ?_
        with_reducible refine x1_append (ev_name lk0) (szl ?_) ?_
        · have := rawDr_len k ([1, 12, 144].take i) []
          simp only [List.length_map, rawDr, List.length_take, List.length_cons, List.length_nil] at this ⊢
          omega
        · refine ex_nil (ex_nil ⟨lk1 (by kernel_rfl) (lk1 (by kernel_rfl) lk0), lk1 (by kernel_rfl) (lk1 (by kernel_rfl) (lk1 (by kernel_rfl) lk0)), ?_⟩)
          rw [rawDr_succ k p _ i hp, stepW, if_neg (by simpa using hb), lD_app]
      · refine ex_nil (ex_nil ⟨lk1 (by kernel_rfl) (lk1 (by kernel_rfl) lk0), lk1 (by kernel_rfl) (lk1 (by kernel_rfl) (lk1 (by kernel_rfl) lk0)), ?_⟩)
        rw [rawDr_succ k p _ i hp, stepW, if_pos (by simpa using hb)]
  · obtain ⟨h1, h2, rfl⟩ := hI
    refine ex_cons (x1_return (d := lD (dr k)) ?_ rfl)
    show EV prog w K n (scopeAt 18) ((Str.ofString "drawn", lD (rawDr k ([1, 12, 144]))) :: _) _ _
    with_reducible refine ev_call_builtin (by kernel_rfl) B.sorted_ (id := "sorted") (by kernel_rfl) (evs_cons (ev_name lk0) evs_nil) ?_
    refine ca_sorted ?_
    have := rawDr_len k [1, 12, 144] []
    simp only [rawDr, List.length_cons, List.length_nil] at this ⊢
    omega
end Mine

open PySem PySem.W PyProof.Rows PySem.Calls
namespace Mine

variable {prog : Program} {w : World} {K : Frag} {n : Nat} {sc : Scope} {ρ : Rho} {own : List Str} {A : Around}

theorem te_bool {e : Expr} {b : Bool} (h : EV prog w K n sc ρ e (.bool b))
    (he : autoParam (∀ env whole, isTrue e env whole = (do let v ← whole; standAt e.pos; holding [v] (truthy v))) auK) : TE prog w K n sc ρ e b := by
  intro A env X s hA hsc hS
  refine wpAny_isTrue_value (wpAny_mono (h A env X s hA hsc hS) (fun v s₁ h₁ => ?_) fun _ _ x => x) (he env _)
  obtain ⟨e1, r⟩ := h₁
  obtain rfl := r.of_bool
  exact wpAny_truthy_bool ⟨e1, rfl⟩
theorem ev_globint {x : Str} {pos : Pos} {i : Int} (hk : sc.names.lookup x = some .globalImplicit) (hv : ∃ t, nsIn K mainGlobals x = some (some (.int i t))) (hd : autoParam ((x == ("__debug__" : Str)) = false) auK) : EV prog w K n sc ρ (.Name x pos) (.int i) := by
  intro A env X s hA hsc hS
  subst hsc
  obtain ⟨t, ht⟩ := hv
  exact glob_own hS hk ht hd ⟨Ext.refl _, RX.int _ _⟩
/-- a def of the text, by its name -/
noncomputable def Fn (K : Frag) (x : Str) (a : Addr) : Prop := nsIn K mainGlobals x = some (some (.ref a)) ∧ ∃ o fd, K.lookup a = some o ∧ o.data = .func fd
theorem ev_fn {x : Str} {a : Addr} {e : Expr} {es : List Expr} {p pos : Pos} {ds : List PyData} {d : PyData}
    (hk : sc.names.lookup x = some .globalImplicit) (F : Fn K x a) (hs : EVs prog w K n sc ρ (e :: es) ds)
    (h : CA prog w K n (.ref a) ds d) (hd : autoParam ((x == ("__debug__" : Str)) = false) auK)
    (he : autoParam (∀ env, starEach (e :: es) env = (false, eval e env) :: starEach es env) auK) : EV prog w K n sc ρ (.Call (.Name x p) (e :: es) [] pos) d := by
  obtain ⟨hv, o, fd, h1, h2⟩ := F
  exact ev_call_own hk hv h1 h2 hs h hd he
theorem iseof_ex {k : Int} (h : ∃ t, nsIn K mainGlobals (Str.ofString "ENDMARKER") = some (some (.int 0 t))) :
    EX prog w K n (scopeAt 15) (cellNames (scopeAt 15)) [(Str.ofString "x", .int k)] none (bodyAt 15) (fun f _ _ => f = .ret (.bool (k == 0))) := by
  refine ex_cons (x1_return (d := .bool (k == 0)) ?_ rfl)
  show EV prog w K n (scopeAt 15) [(Str.ofString "x", .int k)] _ _
  with_reducible exact ev_cmp (ev_name lk0) (ev_globint (by kernel_rfl) h) co_eqi (by kernel_rfl)
theorem isterm_ex {k : Int} (h : ∃ t, nsIn K mainGlobals (Str.ofString "NT_OFFSET") = some (some (.int 256 t))) :
    EX prog w K n (scopeAt 13) (cellNames (scopeAt 13)) [(Str.ofString "x", .int k)] none (bodyAt 13) (fun f _ _ => f = .ret (.bool (decide (k < 256)))) := by
  refine ex_cons (x1_return (d := .bool (decide (k < 256))) ?_ rfl)
  show EV prog w K n (scopeAt 13) [(Str.ofString "x", .int k)] _ _
  with_reducible exact ev_cmp (ev_name lk0) (ev_globint (by kernel_rfl) h) co_lt (by kernel_rfl)
theorem isnon_ex {k : Int} (h : ∃ t, nsIn K mainGlobals (Str.ofString "NT_OFFSET") = some (some (.int 256 t))) :
    EX prog w K n (scopeAt 14) (cellNames (scopeAt 14)) [(Str.ofString "x", .int k)] none (bodyAt 14) (fun f _ _ => f = .ret (.bool (decide (256 ≤ k)))) := by
  refine ex_cons (x1_return (d := .bool (decide (256 ≤ k))) ?_ rfl)
  show EV prog w K n (scopeAt 14) [(Str.ofString "x", .int k)] _ _
  with_reducible exact ev_cmp (ev_name lk0) (ev_globint (by kernel_rfl) h) co_ge (by kernel_rfl)

/-- those that no other one begins -/
noncomputable def kept (ws : List Wd) : List Wd := ws.filter fun x => !(ws.any fun o => o != x && o.isPrefixOf x)
noncomputable def letter (k : Int) : Nat := 97 + (Int.fmod k 3).toNat
noncomputable def sent1 (S : List Wd) (k : Int) : List Wd :=
  if 256 ≤ k then if S.length * (kept (dr k)).length ≤ 8 then S.flatMap fun s => (kept (dr k)).map (s ++ ·) else S
  else S.map (· ++ [letter k])
noncomputable def upTo0 (row : List Int) : List Int := row.takeWhile (· != 0)
noncomputable def sents (rows : List (List Int)) : List Wd := rows.foldl (fun S row => (upTo0 row).foldl sent1 S) [[]]

theorem W12_ok : ∀ x ∈ W12, abc x ∧ x.length ≤ 2 ∧ 1 ≤ x.length := by
  have : W12.all (fun x => x.all (fun c => c == 97 || c == 98 || c == 99) && decide (x.length ≤ 2) && decide (1 ≤ x.length)) = true := by decide
  intro x hx
  have := List.all_eq_true.mp this x hx
  simp only [Bool.and_eq_true, List.all_eq_true, decide_eq_true_eq, Bool.or_eq_true, beq_iff_eq] at this
  exact ⟨fun c hc => by have := this.1.1 c hc; lia, this.1.2, this.2⟩
theorem wAt_mem (i : Nat) (h : i < 12) : wAt i ∈ W12 := List.mem_of_getElem? (W12_get h)
theorem stepW_sub {P : Wd → Prop} {ws : List Wd} {x : Wd} (h : ∀ y ∈ ws, P y) (hx : P x) : ∀ y ∈ stepW ws x, P y := by
  unfold stepW; split
  · exact h
  · intro y hy; rcases List.mem_append.mp hy with q | q
    · exact h y q
    · rw [List.mem_singleton.mp q]; exact hx
theorem rawDr_sub (k : Int) : ∀ (ps : List Int) (ws : List Wd), (∀ y ∈ ws, y ∈ W12) → ∀ y ∈ ps.foldl (fun ws p => stepW ws (wAt (dg k p))) ws, y ∈ W12
  | [], ws, h => h
  | p :: ps, ws, h => rawDr_sub k ps _ (stepW_sub h (wAt_mem _ (dg_lt k p)))
theorem dr_mem {k : Int} {y : Wd} (h : y ∈ dr k) : y ∈ W12 := rawDr_sub k [1, 12, 144] [] (fun _ q => by cases q) y ((sortW_perm _).mem_iff.mp h)
theorem dr_len (k : Int) : (dr k).length ≤ 3 := by
  unfold dr
  rw [sortW_length]
  have := rawDr_len k [1, 12, 144] []
  simpa [rawDr] using this
theorem kept_mem {ws : List Wd} {y : Wd} (h : y ∈ kept ws) : y ∈ ws := (List.mem_filter.mp h).1
theorem kept_len (k : Int) : (kept (dr k)).length ≤ 3 := Nat.le_trans (List.length_filter_le _ _) (dr_len k)
/-- few sentences, and short -/
noncomputable def Good (B : Nat) (S : List Wd) : Prop := S.length ≤ 8 ∧ ∀ s ∈ S, abc s ∧ s.length ≤ B
theorem letter_abc (k : Int) : letter k = 97 ∨ letter k = 98 ∨ letter k = 99 := by
  unfold letter
  have h1 := Int.fmod_nonneg_of_pos k (b := 3) (by lia)
  have h2 := Int.fmod_lt_of_pos k (b := 3) (by lia)
  lia
theorem flat_len {α β : Type} (f : α → β → Wd) (bs : List β) : ∀ l : List α, (l.flatMap fun a => bs.map (f a)).length = l.length * bs.length
  | [] => by simp
  | a :: l => by rw [List.flatMap_cons, List.length_append, flat_len f bs l, List.length_map, List.length_cons, Nat.add_mul, Nat.one_mul, Nat.add_comm]
theorem sent1_good {B : Nat} {S : List Wd} (k : Int) (h : Good B S) : Good (B + 2) (sent1 S k) := by
  unfold sent1
  split
  · split
    · rename_i hl
      refine ⟨by rw [flat_len]; exact hl, fun s hs => ?_⟩
      obtain ⟨a, ha, hs⟩ := List.mem_flatMap.mp hs
      obtain ⟨b, hb, rfl⟩ := List.mem_map.mp hs
      have h1 := h.2 a ha
      have h2 := W12_ok b (dr_mem (kept_mem hb))
      refine ⟨fun c hc => ?_, by rw [List.length_append]; lia⟩
      rcases List.mem_append.mp hc with q | q
      · exact h1.1 c q
      · exact h2.1 c q
    · exact ⟨h.1, fun s hs => ⟨(h.2 s hs).1, by have := (h.2 s hs).2; lia⟩⟩
  · refine ⟨by rw [List.length_map]; exact h.1, fun s hs => ?_⟩
    obtain ⟨a, ha, rfl⟩ := List.mem_map.mp hs
    have h1 := h.2 a ha
    refine ⟨fun c hc => ?_, by simp only [List.length_append, List.length_cons, List.length_nil]; lia⟩
    rcases List.mem_append.mp hc with q | q
    · exact h1.1 c q
    · rw [List.mem_singleton.mp q]; exact letter_abc k
theorem fold_good : ∀ (ks : List Int) {B : Nat} {S : List Wd}, Good B S → Good (B + 2 * ks.length) (ks.foldl sent1 S)
  | [], B, S, h => h
  | k :: ks, B, S, h => by
    have := fold_good ks (sent1_good k h)
    rw [List.foldl_cons, List.length_cons]
    rw [show B + 2 * (ks.length + 1) = B + 2 + 2 * ks.length by lia]
    exact this
theorem Good.mono {B C : Nat} {S : List Wd} (h : Good B S) (hl : B ≤ C) : Good C S := ⟨h.1, fun s hs => ⟨(h.2 s hs).1, Nat.le_trans (h.2 s hs).2 hl⟩⟩
theorem upTo0_len (row : List Int) : (upTo0 row).length ≤ row.length := (List.takeWhile_sublist _).length_le
theorem rows_good : ∀ (rows : List (List Int)) {B : Nat} {S : List Wd}, (∀ r ∈ rows, r.length ≤ 10) → Good B S → Good (B + 20 * rows.length) (rows.foldl (fun S row => (upTo0 row).foldl sent1 S) S)
  | [], B, S, _, h => h
  | r :: rows, B, S, hr, h => by
    have h1 := fold_good (upTo0 r) h
    have h2 := upTo0_len r
    have h3 := hr r List.mem_cons_self
    have := rows_good rows (fun q hq => hr q (List.mem_cons_of_mem _ hq)) (h1.mono (C := B + 20) (by lia))
    rw [List.foldl_cons, List.length_cons]
    exact this.mono (by lia)
theorem good0 : Good 0 [[]] := ⟨by simp, fun s hs => by simp at hs; subst hs; exact ⟨fun c hc => (by cases hc), by simp⟩⟩
theorem intBits_small {a : Nat} (h : a ≤ 8) : Builtin.Int.intBits (a : Int) ≤ 64 := by
  have : a = 0 ∨ a = 1 ∨ a = 2 ∨ a = 3 ∨ a = 4 ∨ a = 5 ∨ a = 6 ∨ a = 7 ∨ a = 8 := by lia
  rcases this with rfl | rfl | rfl | rfl | rfl | rfl | rfl | rfl | rfl <;> decide
end Mine

open PySem PySem.W PyProof.Rows PySem.Calls
namespace Mine

variable {prog : Program} {w : World} {K : Frag} {n : Nat} {sc : Scope} {ρ : Rho} {own : List Str} {A : Around}

noncomputable def rowD (row : List Int) : PyData := .list (row.map .int)
noncomputable def rowsD (rows : List (List Int)) : PyData := .list (rows.map rowD)
/-- the three tests and the list, as the sentences call them -/
structure KS (prog : Program) (w : World) (K : Frag) (n : Nat) : Prop where
  eof : Fn K (Str.ofString "ISEOF") 104
  eofC : ∀ k, CA prog w K n (.ref 104) [.int k] (.bool (k == 0))
  non : Fn K (Str.ofString "ISNONTERMINAL") 97
  nonC : ∀ k, CA prog w K n (.ref 97) [.int k] (.bool (decide (256 ≤ k)))
  term : Fn K (Str.ofString "ISTERMINAL") 90
  termC : ∀ k, CA prog w K n (.ref 90) [.int k] (.bool (decide (k < 256)))
  lst : Fn K (Str.ofString "_law_list") 119
  lstC : ∀ k, CA prog w K n (.ref 119) [.int k] (lD (kept (dr k)))
theorem abc_get (k : Int) : ([97, 98, 99] : Wd)[(Int.fmod k 3).toNat]? = some (letter k) := by
  unfold letter
  have h1 := Int.fmod_nonneg_of_pos k (b := 3) (by lia)
  have h2 := Int.fmod_lt_of_pos k (b := 3) (by lia)
  have : (Int.fmod k 3).toNat = 0 ∨ (Int.fmod k 3).toNat = 1 ∨ (Int.fmod k 3).toNat = 2 := by lia
  rcases this with h | h | h <;> rw [h] <;> rfl
theorem ev_abc {k : Int} {e : Expr} {x : Str} {c p q : Pos} {m m' : Nat} (hx : x = ⟨[97, 98, 99].toArray⟩) (he : EV prog w K n sc ρ e (.int k)) :
    EV prog w K n sc ρ (.Subscript (.Constant (.str x) m c) (.BinOp e .Mod (.Constant (.int 3) m' p) q) pos) (sD [letter k]) := by
  refine ev_sub (k := .int ((Int.fmod k 3).toNat : Int)) (ev_lit hx) ?_ (gi_str (abc_get k) (by have := Int.fmod_lt_of_pos k (b := 3) (by lia); lia)) (by intro _ _; rfl)
  have h1 := Int.fmod_nonneg_of_pos k (b := 3) (by lia)
  rw [show ((Int.fmod k 3).toNat : Int) = Int.fmod k 3 by lia]
  exact ev_bin he ev_int (bo_mod (by decide))
theorem lD_flat (S W : List Wd) : (S.flatMap fun s => W.map fun x => sD (s ++ x)) = (S.flatMap fun s => W.map (s ++ ·)).map sD := by
  rw [List.map_flatMap]; congr 1; funext s; rw [List.map_map]; rfl
theorem take_fold (row : List Int) (i : Nat) (k : Int) (h : row[i]? = some k) (S : List Wd) : (row.take (i + 1)).foldl sent1 S = sent1 ((row.take i).foldl sent1 S) k := by
  rw [List.take_add_one, h, List.foldl_append]; rfl

theorem upTo0_at {row : List Int} : ∀ {j : Nat}, row[j]? = some 0 → (∀ i, i < j → row[i]? ≠ some 0) → upTo0 row = row.take j := by
  induction row with
  | nil => intro j h; simp at h
  | cons a row ih =>
    intro j h hn
    cases j with
    | zero => simp at h; subst h; simp [upTo0]
    | succ j =>
      have ha : a ≠ 0 := fun e => hn 0 (by lia) (by simp [e])
      have := ih (j := j) (by simpa using h) fun i hi => by have := hn (i + 1) (by lia); simpa using this
      unfold upTo0 at this ⊢
      rw [List.takeWhile_cons, this]
      simp [ha]
theorem upTo0_all {row : List Int} (h : ∀ i, i < row.length → row[i]? ≠ some 0) : upTo0 row = row := by
  induction row with
  | nil => rfl
  | cons a row ih =>
    have ha : a ≠ 0 := fun e => h 0 (by simp) (by simp [e])
    have := ih fun i hi => by have := h (i + 1) (by simpa using hi); simpa using this
    unfold upTo0 at this ⊢
    rw [List.takeWhile_cons, this]
    simp [ha]
theorem ca_lenW {ws : List Wd} (h : ws.length ≤ 16777216) : CA prog w K n (.builtin "len") [lD ws] (.int ws.length) := by
  have := ca_len_list (prog := prog) (w := w) (K := K) (n := n) (ds := ws.map sD) (szl (by simpa using h))
  rw [List.length_map] at this; exact this
theorem mul_le8 (a b : Nat) : decide ((a : Int) * (b : Int) ≤ 8) = decide (a * b ≤ 8) := by
  apply decide_eq_decide.mpr
  rw [← Int.natCast_mul]; lia
theorem lD_snoc (T : List Wd) (c : Nat) : lD (T.map (· ++ [c])) = .list (T.map fun s => sD (s ++ [c])) := by
  unfold lD; rw [List.map_map]; rfl
theorem it_listW {target iter : Expr} {ws : List Wd} (h : EV prog w K n sc ρ iter (lD ws)) : IT prog w K n sc ρ target iter (ws.map sD) := it_list h
/-- one number -/
noncomputable def SI (rows : List (List Int)) (row : List Int) (S : List Wd) (i : Nat) (ρ' : Rho) (ow' : OwS) : Prop :=
  ow' = none ∧ ρ'.lookup (Str.ofString "rows") = some (rowsD rows) ∧ ρ'.lookup (Str.ofString "sentences") = some (lD ((row.take i).foldl sent1 S)) ∧ ∀ j, j < i → row[j]? ≠ some 0
set_option maxRecDepth 4000 in
set_option maxHeartbeats 4000000 in
theorem sentences_ex {rows : List (List Int)} (B : KB K) (C : KS prog w K n) (hr : rows.length ≤ 10) (hrow : ∀ r ∈ rows, r.length ≤ 10) :
    EX prog w K n (scopeAt 20) (cellNames (scopeAt 20)) [(Str.ofString "rows", rowsD rows)] none (bodyAt 20) (fun f _ _ => f = .ret (lD (sents rows))) := by
  refine ex_cons (x1_assign (d := lD [[]]) ?_ (by kernel_rfl) rfl ?_)
  · show EV prog w K n _ _ _ (.list [sD []])
    with_reducible exact ev_list (evs_cons (ev_lit (by kernel_rfl)) evs_nil) (szl (by simp))
  refine ex_cons (x1_for (ds := rows.map rowD) (I := fun i ρ' ow' => ow' = none ∧ ρ'.lookup (Str.ofString "rows") = some (rowsD rows) ∧ ρ'.lookup (Str.ofString "sentences") = some (lD ((rows.take i).foldl (fun S row => (upTo0 row).foldl sent1 S) [[]])))
    (it_list ?_) ?_ (fun i d ρ' ow' hi hI => ?_) (fun ρ' ow' hI => ?_))
  · exact ev_name (lk1 (by kernel_rfl) lk0)
  · exact ⟨rfl, lk1 (by kernel_rfl) lk0, lk0⟩
  · obtain ⟨rfl, h1, h2⟩ := hI
    rw [List.getElem?_map] at hi
    obtain ⟨row, hrw, rfl⟩ := Option.map_eq_some_iff.mp hi
    have hrl := hrow row (List.mem_of_getElem? hrw)
    have hG : Good (20 * rows.length) ((rows.take i).foldl (fun S row => (upTo0 row).foldl sent1 S) [[]]) := (rows_good (rows.take i) (fun r hr' => hrow r (List.mem_of_mem_take hr')) good0).mono (by rw [List.length_take]; lia)
    generalize hS : (rows.take i).foldl (fun S row => (upTo0 row).foldl sent1 S) [[]] = S at h2 hG
    have hS' : (rows.take (i + 1)).foldl (fun S row => (upTo0 row).foldl sent1 S) [[]] = (upTo0 row).foldl sent1 S := by
      rw [List.take_add_one, hrw, List.foldl_append, hS]; rfl
    refine ⟨[(Str.ofString "rows", rowsD rows), (Str.ofString "sentences", lD S)], [(Str.ofString "row", rowD row)], subC h1 (sub1 h2), bb_name, by kernel_rfl, ?_⟩
    simp only [List.cons_append, List.nil_append]
    refine ex_cons (x1_for (ds := row.map .int) (I := SI rows row S) (it_list ?_) ?_ (fun j d ρ' ow' hj hI => ?_) (fun ρ' ow' hI => ?_))
    · exact ev_name lk0
    · exact ⟨rfl, lk1 (by kernel_rfl) lk0, lk1 (by kernel_rfl) (lk1 (by kernel_rfl) lk0), fun j hj => by lia⟩
    · obtain ⟨rfl, g1, g2, g3⟩ := hI
      rw [List.getElem?_map] at hj
      obtain ⟨k, hk, rfl⟩ := Option.map_eq_some_iff.mp hj
      have hjl : j < row.length := by
        rcases Nat.lt_or_ge j row.length with q | q
        · exact q
        · rw [List.getElem?_eq_none q] at hk; cases hk
      have hT : Good (20 * rows.length + 20) ((row.take j).foldl sent1 S) := (fold_good (row.take j) hG).mono (by rw [List.length_take]; lia)
      generalize hT' : (row.take j).foldl sent1 S = T at g2 hT
      refine ⟨[(Str.ofString "rows", rowsD rows), (Str.ofString "sentences", lD T)], [(Str.ofString "number", .int k)], subC g1 (sub1 g2), bb_name, by kernel_rfl, ?_⟩
      simp only [List.cons_append, List.nil_append]
      refine ex_opq fun Q hq => ?_
      refine ex_cons (x1_if (b := k == 0) ?_ (fun hb => ?_) (fun hb => ?_))
      · show TE prog w K n (scopeAt 20) [(Str.ofString "number", .int k), (Str.ofString "rows", rowsD rows), (Str.ofString "sentences", lD T)] _ _
        with_reducible exact te_bool (ev_fn (by kernel_rfl) C.eof (evs_cons (ev_name lk0) evs_nil) (C.eofC k)) (by intro _ _; kernel_rfl)
      · refine ex_cons (x1_break ?_)
        refine hq .brk _ _ (ex_nil ⟨rfl, lk1 (by kernel_rfl) lk0, ?_⟩)
        rw [hS', ← hT', upTo0_at (by rw [hk, beq_iff_eq.mp hb]) g3]
        exact lk1 (by kernel_rfl) (lk1 (by kernel_rfl) lk0)
      · have hk0 : k ≠ 0 := by simpa using hb
        have hg3 : ∀ i, i < j + 1 → row[i]? ≠ some 0 := fun i hi => by
          rcases Nat.lt_succ_iff_lt_or_eq.mp hi with q | q
          · exact g3 i q
          · rw [q, hk]; intro e; exact hk0 (Option.some.inj e)
        refine ex_nil ?_
        refine ex_cons (x1_if (b := decide (256 ≤ k)) ?_ (fun hb => ?_) (fun hb => ?_))
        · show TE prog w K n (scopeAt 20) [(Str.ofString "number", .int k), (Str.ofString "rows", rowsD rows), (Str.ofString "sentences", lD T)] _ _
          with_reducible exact te_bool (ev_fn (by kernel_rfl) C.non (evs_cons (ev_name lk0) evs_nil) (C.nonC k)) (by intro _ _; kernel_rfl)
        · have hk256 : 256 ≤ k := of_decide_eq_true hb
          refine ex_cons (x1_assign (d := lD (kept (dr k))) ?_ (by kernel_rfl) rfl ?_)
          · with_reducible exact ev_fn (by kernel_rfl) C.lst (evs_cons (ev_name lk0) evs_nil) (C.lstC k)
          · refine ex_cons (x1_if (b := decide (T.length * (kept (dr k)).length ≤ 8)) ?_ (fun hb2 => ?_) (fun hb2 => ?_))
            · show TE prog w K n (scopeAt 20) [(Str.ofString "words", lD (kept (dr k))), (Str.ofString "number", .int k), (Str.ofString "rows", rowsD rows), (Str.ofString "sentences", lD T)] _ _
              rw [← mul_le8]
              with_reducible refine te_cmp (ev_bin (ev_call_builtin (by kernel_rfl) B.len_ (id := "len") (by kernel_rfl) (evs_cons (ev_name (lk1 (by kernel_rfl) (lk1 (by kernel_rfl) (lk1 (by kernel_rfl) lk0)))) evs_nil) (ca_lenW ?_)) (ev_call_builtin (by kernel_rfl) B.len_ (id := "len") (by kernel_rfl) (evs_cons (ev_name lk0) evs_nil) (ca_lenW ?_)) (bo_mul ?_)) ev_int co_le (by kernel_rfl)
              · have := hT.1; lia
              · have := kept_len k; lia
              · exact IntMulOk.of_left (intBits_small hT.1)
            · have hl8 : T.length * (kept (dr k)).length ≤ 8 := of_decide_eq_true hb2
              refine ex_cons (x1_prod (as := T) (bs := kept (dr k)) sD sD (fun a b => sD (a ++ b)) rfl rfl sD_inj sD_inj (it_listW ?_) (.skip (by decide) (.skip (by decide) (.skip (by decide) (.free lk0 .nil)))) (by kernel_rfl)
                (fun a ha => ⟨[(Str.ofString "sentence", sD a)], bb_name, by kernel_rfl, it_listW ?_, fun b hb' => ⟨[(Str.ofString "word", sD b)], bb_name, by kernel_rfl, ?_⟩⟩) (szl (by lia)) (by kernel_rfl) (by kernel_rfl) rfl ?_)
              · with_reducible exact ev_name (d := lD T) (lk1 (by kernel_rfl) (lk1 (by kernel_rfl) (lk1 (by kernel_rfl) lk0)))
              · simp only [List.cons_append, List.nil_append]
                with_reducible exact ev_name (d := lD (kept (dr k))) (lk1 (by kernel_rfl) lk0)
              · simp only [List.cons_append, List.nil_append]
                with_reducible refine ev_bin (ev_name (lk1 (by kernel_rfl) lk0)) (ev_name lk0) (bo_cat (szl ?_))
                have q1 := (hT.2 a ha).2
                have q2 := (W12_ok b (dr_mem (kept_mem hb'))).2.1
                lia
              · refine ex_nil (ex_nil ?_)
                rw [lD_flat]
                refine ex_cons (x1_if (b := decide (k < 256)) ?_ (fun hb3 => ?_) (fun hb3 => ?_))
                · show TE prog w K n (scopeAt 20) ((Str.ofString "sentences", _) :: (Str.ofString "words", _) :: (Str.ofString "number", .int k) :: _) _ _
                  with_reducible exact te_bool (ev_fn (by kernel_rfl) C.term (evs_cons (ev_name (lk1 (by kernel_rfl) (lk1 (by kernel_rfl) lk0))) evs_nil) (C.termC k)) (by intro _ _; kernel_rfl)
                · exact absurd (of_decide_eq_true hb3) (by lia)
                · refine ex_nil (ex_nil (hq .next _ _ ⟨rfl, ?_, ?_, hg3⟩))
                  · exact lk1 (by kernel_rfl) (lk1 (by kernel_rfl) (lk1 (by kernel_rfl) lk0))
                  · rw [take_fold row j k hk, hT', sent1, if_pos hk256, if_pos hl8]; exact lk0
            · have hl8 : ¬ T.length * (kept (dr k)).length ≤ 8 := of_decide_eq_false hb2
              refine ex_nil (ex_nil ?_)
              refine ex_cons (x1_if (b := decide (k < 256)) ?_ (fun hb3 => ?_) (fun hb3 => ?_))
              · show TE prog w K n (scopeAt 20) ((Str.ofString "words", _) :: (Str.ofString "number", .int k) :: _) _ _
                with_reducible exact te_bool (ev_fn (by kernel_rfl) C.term (evs_cons (ev_name (lk1 (by kernel_rfl) lk0)) evs_nil) (C.termC k)) (by intro _ _; kernel_rfl)
              · exact absurd (of_decide_eq_true hb3) (by lia)
              · refine ex_nil (ex_nil (hq .next _ _ ⟨rfl, ?_, ?_, hg3⟩))
                · exact lk1 (by kernel_rfl) (lk1 (by kernel_rfl) lk0)
                · rw [take_fold row j k hk, hT', sent1, if_pos hk256, if_neg hl8]; exact lk1 (by kernel_rfl) (lk1 (by kernel_rfl) (lk1 (by kernel_rfl) lk0))
        · have hk256 : ¬ 256 ≤ k := of_decide_eq_false hb
          refine ex_nil ?_
          refine ex_cons (x1_if (b := decide (k < 256)) ?_ (fun hb3 => ?_) (fun hb3 => ?_))
          · show TE prog w K n (scopeAt 20) ((Str.ofString "number", .int k) :: _) _ _
            with_reducible exact te_bool (ev_fn (by kernel_rfl) C.term (evs_cons (ev_name lk0) evs_nil) (C.termC k)) (by intro _ _; kernel_rfl)
          · refine ex_cons (x1_map (as := T) sD (fun s => sD (s ++ [letter k])) rfl sD_inj (it_listW ?_) (.skip (by decide) (.skip (by decide) (.free lk0 .nil))) (by kernel_rfl)
                (fun a ha => ⟨[(Str.ofString "sentence", sD a)], bb_name, by kernel_rfl, ?_⟩) (szl (by have := hT.1; lia)) (by kernel_rfl) (by kernel_rfl) rfl ?_)
            · with_reducible exact ev_name (d := lD T) (lk1 (by kernel_rfl) (lk1 (by kernel_rfl) lk0))
            · simp only [List.cons_append, List.nil_append]
              with_reducible refine ev_bin (ev_name lk0) (ev_abc (by kernel_rfl) (ev_name (lk1 (by kernel_rfl) lk0))) (bo_cat (szl ?_))
              have q1 := (hT.2 a ha).2
              simp only [List.length_cons, List.length_nil]
              lia
            · refine ex_nil (ex_nil (hq .next _ _ ⟨rfl, ?_, ?_, hg3⟩))
              · exact lk1 (by kernel_rfl) (lk1 (by kernel_rfl) lk0)
              · rw [take_fold row j k hk, hT', sent1, if_neg hk256, lD_snoc]; exact lk0
          · exact absurd (of_decide_eq_false hb3) (by lia)
    · obtain ⟨rfl, g1, g2, g3⟩ := hI
      refine ex_nil ⟨rfl, g1, ?_⟩
      rw [hS', upTo0_all (by simpa using g3)]
      rw [show (row.map PyData.int).length = row.length by simp, List.take_length] at g2
      exact g2
  · obtain ⟨rfl, h1, h2⟩ := hI
    rw [show (rows.map rowD).length = rows.length by simp, List.take_length] at h2
    refine ex_cons (x1_return (d := lD (sents rows)) ?_ rfl)
    exact ev_name h2
end Mine

open PySem PySem.W PyProof.Rows PySem.Calls
namespace Mine

variable {prog : Program} {w : World} {K : Frag} {n : Nat} {sc : Scope} {ρ : Rho} {own : List Str} {A : Around}

theorem ev_and {x y : Expr} {pos : Pos} {b c : Bool} (hx : EV prog w K n sc ρ x (.bool b)) (hy : b = true → EV prog w K n sc ρ y (.bool c)) : EV prog w K n sc ρ (.BoolOp .And [x, y] pos) (.bool (b && c)) := by
  intro A env X s hA hsc hS
  rw [arm_eval_BoolOp]
  show wpAny _ A (boolOp pos .And [eval x env, eval y env]) _ _ s
  unfold boolOp
  refine wpAny_bind (wpAny_mono (hx A env X s hA hsc hS) (fun v s₁ h₁ => ?_) fun _ _ x => x)
  obtain ⟨e1, r⟩ := h₁
  obtain rfl := r.of_bool
  refine wpAny_bind (wpAny_standAt ?_)
  refine wpAny_bind (wpAny_holding (wpAny_truthy_bool ?_))
  cases b with
  | false => exact wpAny_pure ⟨e1, RX.bool _⟩
  | true =>
    unfold boolOp
    exact wpAny_mono (hy rfl A env X s₁ hA hsc (hS.ext e1)) (fun v s' h' => ⟨e1.trans h'.1, h'.2⟩) fun _ _ x => x

noncomputable def dueW (k : Int) : List Wd := (dr k).filter fun x => !(dr k).contains (x.take 1) || x.length == 1
noncomputable def firsts (W : List Wd) : List Wd := ([97, 98, 99].filter fun c => !(W.filter fun x => x.take 1 == [c]).isEmpty).map fun c => [c]
noncomputable def lasts (W : List Wd) : List Wd := ([97, 98, 99].filter fun c => !(W.filter fun x => x.drop 1 == [c]).isEmpty).map fun c => [c]
noncomputable def cutW (W : List Wd) : Bool := W.all (fun x => x.length == 2) && (firsts W).length * (lasts W).length == W.length
noncomputable def partsW (W : List Wd) : List (List Wd) := if cutW W then [firsts W, lasts W] else [W]
noncomputable def due1 (st : Nat × List (List Wd)) (k : Int) : Nat × List (List Wd) :=
  if k < 256 then (st.1, st.2 ++ [[[letter k]]])
  else if st.1 * (dueW k).length ≤ 8 then (st.1 * (dueW k).length, st.2 ++ partsW (dueW k)) else st
noncomputable def dues (rows : List (List Int)) : Nat × List (List Wd) := rows.foldl (fun st row => (upTo0 row).foldl due1 st) (1, [])
noncomputable def dueD (D : List (List Wd)) : PyData := .list (D.map lD)

theorem lay_abc {x : Wd} (h : abc x) : (sD x).canLay0 = true := by
  unfold sD
  rw [PyData.canLay0]
  show x.toArray.all (fun c => decide (c < 0x110000)) = true
  rw [List.all_toArray, List.all_eq_true]
  intro c hc
  rcases h c hc with rfl | rfl | rfl <;> decide
theorem layAll {α : Type} {g : α → PyData} {ws : List α} (h : ∀ x ∈ ws, (g x).canLay0 = true) : PyData.canLayAll0 (ws.map g) = true := by
  induction ws with
  | nil => rfl
  | cons x ws ih => rw [List.map_cons, PyData.canLayAll0, h x List.mem_cons_self, ih fun y hy => h y (List.mem_cons_of_mem _ hy)]; rfl
theorem depAll {α : Type} {g : α → PyData} {B : Nat} {ws : List α} (h : ∀ x ∈ ws, (g x).depth ≤ B) : PyData.depthAll (ws.map g) ≤ B := by
  induction ws with
  | nil => exact Nat.zero_le _
  | cons x ws ih => rw [List.map_cons, PyData.depthAll]; exact Nat.max_le.mpr ⟨h x List.mem_cons_self, ih fun y hy => h y (List.mem_cons_of_mem _ hy)⟩
theorem shape_of {d : PyData} {B : Nat} (h : d.canLay0 = true) (hd : d.depth ≤ B) (hB : B ≤ 64) : PySem.SeqAt.shaped d = true := by
  unfold PySem.SeqAt.shaped; rw [h, decide_eq_true (Nat.le_trans hd hB)]; rfl
theorem lay_lD {ws : List Wd} (h : ∀ x ∈ ws, abc x) : (lD ws).canLay0 = true := by
  unfold lD; rw [PyData.canLay0]; exact layAll fun x hx => lay_abc (h x hx)
theorem dep_lD (ws : List Wd) : (lD ws).depth ≤ 1 := by
  unfold lD; rw [PyData.depth]; exact Nat.succ_le_succ (depAll (B := 0) fun x _ => Nat.le_refl 0)
theorem shaped_lD {ws : List Wd} (h : ∀ x ∈ ws, abc x) : PySem.SeqAt.shaped (lD ws) = true := shape_of (lay_lD h) (dep_lD ws) (by decide)
theorem eqv_nil (ws : List Wd) : PyData.eqv (lD ws) (.list []) = ws.isEmpty := by
  cases ws <;> simp [lD, PyData.eqv, PyData.eqvAll]
theorem co_neW {ws : List Wd} (h : ∀ x ∈ ws, abc x) : CO prog w K n .NotEq (lD ws) (.list []) (!ws.isEmpty) := by
  have := co_ne (prog := prog) (w := w) (K := K) (n := n) (shaped_lD h) (d₂ := .list []) (by decide)
  rw [eqv_nil] at this; exact this
theorem eqv_sD (a b : Wd) : PyData.eqv (sD a) (sD b) = (a == b) := by
  show ((⟨a.toArray⟩ : Str) == ⟨b.toArray⟩) = _
  rw [Bool.eq_iff_iff, beq_iff_eq, beq_iff_eq]
  constructor
  · intro h; injection h with h; exact congrArg Array.toList h
  · rintro rfl; rfl
theorem eqv_all {α : Type} [BEq α] [LawfulBEq α] {g : α → PyData} (hg : ∀ a b, PyData.eqv (g a) (g b) = (a == b)) : ∀ as bs : List α, PyData.eqvAll (as.map g) (bs.map g) = (as == bs)
  | [], [] => rfl
  | [], b :: bs => rfl
  | a :: as, [] => rfl
  | a :: as, b :: bs => by rw [List.map_cons, List.map_cons, PyData.eqvAll, hg, eqv_all hg as bs]; rfl
theorem eqv_lD (a b : List Wd) : PyData.eqv (lD a) (lD b) = (a == b) := by
  unfold lD; rw [PyData.eqv]; exact eqv_all eqv_sD a b
end Mine

open PySem PySem.W PyProof.Rows PySem.Calls
namespace Mine

variable {prog : Program} {w : World} {K : Frag} {n : Nat} {sc : Scope} {ρ : Rho} {own : List Str} {A : Around}

theorem upTo0_spec {row : List Int} (h : (0 : Int) ∈ row) : row[(upTo0 row).length]? = some 0 ∧ upTo0 row = row.take (upTo0 row).length ∧ ∀ i, i < (upTo0 row).length → row[i]? ≠ some 0 := by
  induction row with
  | nil => cases h
  | cons a row ih =>
    by_cases ha : a = 0
    · subst ha; simp [upTo0]
    · have hm : (0 : Int) ∈ row := by
        rcases List.mem_cons.mp h with q | q
        · exact absurd q.symm ha
        · exact q
      obtain ⟨h1, h2, h3⟩ := ih hm
      have e : upTo0 (a :: row) = a :: upTo0 row := by unfold upTo0; rw [List.takeWhile_cons]; simp [ha]
      rw [e]
      refine ⟨by simpa using h1, by simpa using h2, fun i hi => ?_⟩
      cases i with
      | zero => simpa using ha
      | succ i => simpa using h3 i (by simpa using hi)
theorem ca_index0 {row : List Int} (h : (0 : Int) ∈ row) (hl : row.length ≤ 16777216) : CA prog w K n (.builtin "list.index") [rowD row, .int 0] (.int (upTo0 row).length) := by
  obtain ⟨h1, h2, h3⟩ := upTo0_spec h
  have hlt : (upTo0 row).length < row.length := by
    rcases Nat.lt_or_ge (upTo0 row).length row.length with q | q
    · exact q
    · rw [List.getElem?_eq_none q] at h1; cases h1
  refine ca_index (fun e he => ?_) (by decide) (by simpa using hlt) (szl (by simpa using hl)) ?_ fun i hi hij => ?_
  · obtain ⟨i, _, rfl⟩ := List.mem_map.mp he; rfl
  · rw [List.getElem_map, show row[(upTo0 row).length] = 0 from by rw [List.getElem?_eq_getElem hlt] at h1; exact Option.some.inj h1]; rfl
  · have hi' : i < row.length := by simpa using hi
    rw [List.getElem_map]
    have := h3 i hij
    rw [List.getElem?_eq_getElem hi'] at this
    show (row[i] == 0) = false
    simpa using this
theorem take_due (row : List Int) (i : Nat) (k : Int) (h : row[i]? = some k) (S : Nat × List (List Wd)) : (row.take (i + 1)).foldl due1 S = due1 ((row.take i).foldl due1 S) k := by
  rw [List.take_add_one, h, List.foldl_append]; rfl
theorem dueW_sub {k : Int} {x : Wd} (h : x ∈ dueW k) : x ∈ W12 := dr_mem (List.mem_filter.mp h).1
theorem dueW_len (k : Int) : (dueW k).length ≤ 3 := Nat.le_trans (List.length_filter_le _ _) (dr_len k)
theorem stepW_ne (ws : List Wd) (x : Wd) : stepW ws x ≠ [] := by
  unfold stepW; split
  · rename_i h; intro e; rw [e] at h; simp at h
  · simp
theorem dr_ne (k : Int) : dr k ≠ [] := by
  intro e
  have := (sortW_perm (rawDr k [1, 12, 144])).length_eq
  unfold dr at e
  rw [e] at this
  exact stepW_ne _ _ (List.eq_nil_of_length_eq_zero this.symm)
theorem dueW_ne (k : Int) : dueW k ≠ [] := by
  intro e
  by_cases h1 : ∃ x ∈ dr k, x.length = 1
  · obtain ⟨x, hx, hl⟩ := h1
    have : x ∈ dueW k := List.mem_filter.mpr ⟨hx, by simp [hl]⟩
    rw [e] at this; cases this
  · obtain ⟨x, r, hr⟩ := List.exists_cons_of_ne_nil (dr_ne k)
    have hx : x ∈ dr k := by rw [hr]; exact List.mem_cons_self
    have : x ∈ dueW k := by
      refine List.mem_filter.mpr ⟨hx, ?_⟩
      have hx1 := (W12_ok x (dr_mem hx)).2.2
      have : (dr k).contains (x.take 1) = false := by
        rw [List.contains_eq_mem, decide_eq_false_iff_not]
        intro hm
        exact h1 ⟨_, hm, by rw [List.length_take]; lia⟩
      rw [this]; rfl
    rw [e] at this; cases this
noncomputable def minW (W : List Wd) : Int := if W.all (fun x => x.length == 2) then 2 else 1
theorem ca_minW {W : List Wd} (hW : ∀ x ∈ W, x ∈ W12) (hn : W ≠ []) : CA prog w K n (.builtin "min") [.list (W.map fun x => .int x.length)] (.int (minW W)) := by
  have e : (W.map fun x => PyData.int x.length) = (W.map fun x => (x.length : Int)).map .int := by rw [List.map_map]; rfl
  rw [e]
  have hl : ∀ x ∈ W, x.length = 1 ∨ x.length = 2 := fun x hx => by have := W12_ok x (hW x hx); lia
  refine ca_min ?_ fun a ha => ?_
  · unfold minW
    split
    · rename_i h
      obtain ⟨x, r, rfl⟩ := List.exists_cons_of_ne_nil hn
      have := List.all_eq_true.mp h x List.mem_cons_self
      exact List.mem_map.mpr ⟨x, List.mem_cons_self, by rw [beq_iff_eq.mp this]; rfl⟩
    · rename_i h
      have : ∃ x ∈ W, ¬ x.length = 2 := by
        apply Classical.byContradiction
        intro hc
        apply h
        rw [List.all_eq_true]
        intro x hx
        rw [beq_iff_eq]
        exact Classical.byContradiction fun q => hc ⟨x, hx, q⟩
      obtain ⟨x, hx, hq⟩ := this
      exact List.mem_map.mpr ⟨x, hx, by have := hl x hx; lia⟩
  · obtain ⟨x, hx, rfl⟩ := List.mem_map.mp ha
    unfold minW
    split
    · rename_i h
      have := beq_iff_eq.mp (List.all_eq_true.mp h x hx)
      lia
    · have := hl x hx; lia
theorem minW_eq (W : List Wd) : (minW W == 2) = W.all (fun x => x.length == 2) := by
  unfold minW; split
  · rename_i h; rw [h]; rfl
  · rename_i h; rw [Bool.eq_false_iff.mpr h]; rfl
theorem mul_eqI (a b c : Nat) : ((a : Int) * (b : Int) == (c : Int)) = (a * b == c) := by
  rw [← Int.natCast_mul, Bool.eq_iff_iff, beq_iff_eq, beq_iff_eq]; lia
theorem len_eqI (a : Nat) : ((a : Int) == 1) = (a == 1) := by rw [Bool.eq_iff_iff, beq_iff_eq, beq_iff_eq]; lia
theorem firsts_len (W : List Wd) : (firsts W).length ≤ 3 := by unfold firsts; rw [List.length_map]; exact List.length_filter_le _ _
theorem lasts_len (W : List Wd) : (lasts W).length ≤ 3 := by unfold lasts; rw [List.length_map]; exact List.length_filter_le _ _
theorem due1_le {st : Nat × List (List Wd)} (k : Int) (h : st.1 ≤ 8) : (due1 st k).1 ≤ 8 ∧ (due1 st k).2.length ≤ st.2.length + 2 := by
  unfold due1; split
  · exact ⟨h, by simp⟩
  · split
    · rename_i hl
      refine ⟨hl, ?_⟩
      simp only [List.length_append, partsW]
      split <;> simp
    · exact ⟨h, by lia⟩
theorem fold_due : ∀ (ks : List Int) {st : Nat × List (List Wd)}, st.1 ≤ 8 → (ks.foldl due1 st).1 ≤ 8 ∧ (ks.foldl due1 st).2.length ≤ st.2.length + 2 * ks.length
  | [], st, h => ⟨h, by simp⟩
  | k :: ks, st, h => by
    have h1 := due1_le k h
    have h2 := fold_due ks h1.1
    rw [List.foldl_cons, List.length_cons]
    exact ⟨h2.1, by lia⟩
theorem rows_due : ∀ (rows : List (List Int)) {st : Nat × List (List Wd)}, (∀ r ∈ rows, r.length ≤ 10) → st.1 ≤ 8 → (rows.foldl (fun st row => (upTo0 row).foldl due1 st) st).1 ≤ 8 ∧ (rows.foldl (fun st row => (upTo0 row).foldl due1 st) st).2.length ≤ st.2.length + 20 * rows.length
  | [], st, _, h => ⟨h, by simp⟩
  | r :: rows, st, hr, h => by
    have h1 := fold_due (upTo0 r) h
    have h2 := rows_due rows (fun q hq => hr q (List.mem_cons_of_mem _ hq)) h1.1
    have h3 := hr r List.mem_cons_self
    have h4 := upTo0_len r
    rw [List.foldl_cons, List.length_cons]
    exact ⟨h2.1, by lia⟩
end Mine

open PySem PySem.W PyProof.Rows PySem.Calls
namespace Mine

variable {prog : Program} {w : World} {K : Frag} {n : Nat} {sc : Scope} {ρ : Rho} {own : List Str} {A : Around}

/-- the state of due: what is owned, and the count -/
noncomputable def DI (rows : List (List Int)) (st : Nat × List (List Wd)) (ρ' : Rho) (ow' : OwS) : Prop :=
  ow' = some (Str.ofString "due", st.2.map lD) ∧ ρ'.lookup (Str.ofString "rows") = some (rowsD rows) ∧ ρ'.lookup (Str.ofString "count") = some (.int st.1)
theorem ca_lenS {x : Wd} (h : x.length ≤ 16777216) : CA prog w K n (.builtin "len") [sD x] (.int x.length) := ca_len_str (szl h)
theorem take1 {x : Wd} (h : x ∈ W12) : ∃ c, x[0]? = some c ∧ x.take 1 = [c] ∧ (c = 97 ∨ c = 98 ∨ c = 99) := by
  have := W12_ok x h
  cases x with
  | nil => simp at this
  | cons c r => exact ⟨c, rfl, rfl, this.1 c List.mem_cons_self⟩

set_option maxRecDepth 4000 in
set_option maxHeartbeats 4000000 in
theorem due_ex {rows : List (List Int)} (B : KB K) (hdF : Fn K (Str.ofString "_law_drawn") 114) (hdC : ∀ k, CA prog w K n (.ref 114) [.int k] (lD (dr k))) (hr : rows.length ≤ 10) (hrow : ∀ r ∈ rows, r.length ≤ 10 ∧ (0 : Int) ∈ r) :
    EX prog w K n (scopeAt 23) (cellNames (scopeAt 23)) [(Str.ofString "rows", rowsD rows)] none (bodyAt 23) (fun f _ _ => f = .ret (dueD (dues rows).2)) := by
  refine ex_cons (x1_new (by kernel_rfl) (by kernel_rfl) ?_)
  refine ex_cons (x1_assign (d := .int 1) ev_int (by kernel_rfl) (by kernel_rfl) ?_)
  refine ex_cons (x1_for (ds := rows.map rowD) (I := fun i ρ' ow' => DI rows ((rows.take i).foldl (fun st row => (upTo0 row).foldl due1 st) (1, [])) ρ' ow')
    (it_list ?_) ?_ (fun i d ρ' ow' hi hI => ?_) (fun ρ' ow' hI => ?_))
  · exact ev_name (lk1 (by kernel_rfl) lk0)
  · exact ⟨rfl, lk1 (by kernel_rfl) lk0, lk0⟩
  · obtain ⟨rfl, h1, h2⟩ := hI
    rw [List.getElem?_map] at hi
    obtain ⟨row, hrw, rfl⟩ := Option.map_eq_some_iff.mp hi
    obtain ⟨hrl, h0⟩ := hrow row (List.mem_of_getElem? hrw)
    have hG := rows_due (rows.take i) (st := (1, [])) (fun r hr' => (hrow r (List.mem_of_mem_take hr')).1) (by decide)
    have hS' : (rows.take (i + 1)).foldl (fun st row => (upTo0 row).foldl due1 st) (1, []) = (upTo0 row).foldl due1 ((rows.take i).foldl (fun st row => (upTo0 row).foldl due1 st) (1, [])) := by
      rw [List.take_add_one, hrw, List.foldl_append]; rfl
    rw [hS']
    have hG2 : ((rows.take i).foldl (fun st row => (upTo0 row).foldl due1 st) (1, [])).2.length ≤ 200 := by
      have := hG.2; simp only [List.length_take, List.length_nil] at this; lia
    have hG1 := hG.1
    clear hG hS'
    generalize (rows.take i).foldl (fun st row => (upTo0 row).foldl due1 st) (1, []) = st at h2 hG1 hG2
    refine ⟨[(Str.ofString "rows", rowsD rows), (Str.ofString "count", .int st.1)], [(Str.ofString "row", rowD row)], subC h1 (sub1 h2), bb_name, by kernel_rfl, ?_⟩
    simp only [List.cons_append, List.nil_append]
    refine ex_cons (x1_for (ds := (upTo0 row).map .int) (I := fun j ρ' ow' => DI rows (((upTo0 row).take j).foldl due1 st) ρ' ow') (it_list ?_) ?_ (fun j d ρ' ow' hj hI => ?_) (fun ρ' ow' hI => ?_))
    · have e : (upTo0 row).map PyData.int = (row.map PyData.int).take (upTo0 row).length := by
        rw [← List.map_take, ← (upTo0_spec h0).2.1]
      rw [e]
      with_reducible refine ev_slice_to (d := rowD row) (k := ((upTo0 row).length : Int)) (ev_name lk0) (ev_meth (d := rowD row) (ev_name lk0) (id := "list.index") (ds := [.int 0]) ?_ (evs_cons ev_int evs_nil) (ca_index0 h0 ?_)) ?_
      · exact gm_lindex
      · lia
      · exact gs_list_to (szl (by simp; lia))
    · exact ⟨rfl, lk1 (by kernel_rfl) lk0, lk1 (by kernel_rfl) (lk1 (by kernel_rfl) lk0)⟩
    · obtain ⟨rfl, g1, g2⟩ := hI
      rw [List.getElem?_map] at hj
      obtain ⟨k, hk, rfl⟩ := Option.map_eq_some_iff.mp hj
      rw [take_due _ j k hk]
      have hT := fold_due ((upTo0 row).take j) hG1
      have hT1 := hT.1
      have hT2 : (((upTo0 row).take j).foldl due1 st).2.length ≤ 300 := by
        have := hT.2
        have := upTo0_len row
        rw [List.length_take] at *
        lia
      clear hT
      generalize ((upTo0 row).take j).foldl due1 st = tt at g2 hT1 hT2
      obtain ⟨c, D⟩ := tt
      refine ⟨[(Str.ofString "rows", rowsD rows), (Str.ofString "count", .int c)], [(Str.ofString "number", .int k)], subC g1 (sub1 g2), bb_name, by kernel_rfl, ?_⟩
      simp only [List.cons_append, List.nil_append]
      refine ex_opq fun Q hq => ?_
      refine ex_cons (x1_if (b := decide (k < 256)) ?_ (fun hb => ?_) (fun hb => ?_))
      · show TE prog w K n (scopeAt 23) [(Str.ofString "due", _), (Str.ofString "number", .int k), (Str.ofString "rows", rowsD rows), (Str.ofString "count", .int c)] _ _
        with_reducible exact te_cmp (ev_name (lk1 (by kernel_rfl) lk0)) ev_int co_lt (by kernel_rfl)
      · have hk256 : k < 256 := of_decide_eq_true hb
        refine ex_cons ?_
        with_reducible refine x1_append (d := .list [sD [letter k]]) (ev_list (evs_cons (ev_abc (by kernel_rfl) (ev_name lk0)) evs_nil) (szl (by simp))) (szl ?_) ?_
        · rw [List.length_map]; simp only at hT2; lia
        refine ex_cons (x1_continue ?_)
        refine hq .cont _ _ ⟨?_, lk1 (by kernel_rfl) lk0, ?_⟩
        · rw [due1, if_pos hk256]; simp [lD]
        · rw [due1, if_pos hk256]; exact lk1 (by kernel_rfl) (lk1 (by kernel_rfl) lk0)
      · have hk256 : ¬ k < 256 := of_decide_eq_false hb
        refine ex_nil ?_
        refine ex_cons (x1_assign (d := lD (dr k)) ?_ (by kernel_rfl) (by kernel_rfl) ?_)
        · with_reducible exact ev_fn (by kernel_rfl) hdF (evs_cons (ev_name lk0) evs_nil) (hdC k)
        refine ex_cons (x1_assign (d := lD (dueW k)) ?_ (by kernel_rfl) (by kernel_rfl) ?_ (fun env he => swaps_eq (by kernel_rfl) he))
        · refine ev_sift (as := dr k) sD (fun x => !(dr k).contains (x.take 1) || x.length == 1) sD rfl sD_inj (it_listW ?_) (.skip (by decide) (.skip (by decide) (.skip (by decide) (.free lk0 .nil)))) (by kernel_rfl)
            (fun x hx => ⟨[(Str.ofString "word", sD x)], bb_name, by kernel_rfl, ?_, ?_⟩) (szl (by have := dr_len k; lia))
          · with_reducible exact ev_name lk0
          · simp only [List.cons_append, List.nil_append]
            obtain ⟨c0, hc0, ht1, _⟩ := take1 (dr_mem hx)
            rw [ht1, ← len_eqI]
            with_reducible refine te_or (te_cmp (ev_sub (k := .int 0) (ev_name lk0) ev_int (gi_str (i := 0) hc0 (by decide)) (by intro _ _; kernel_rfl)) (ev_name (lk1 (by kernel_rfl) lk0)) co_notin (by kernel_rfl)) (fun _ => te_cmp (ev_call_builtin (by kernel_rfl) B.len_ (id := "len") (by kernel_rfl) (evs_cons (ev_name lk0) evs_nil) (ca_lenS ?_)) ev_int co_eqi (by kernel_rfl))
            have := (W12_ok x (dr_mem hx)).2.1; lia
          · simp only [List.cons_append, List.nil_append]
            with_reducible exact ev_name lk0
        generalize hW : dueW k = W
        have hW12 : ∀ x ∈ W, x ∈ W12 := fun x hx => dueW_sub (k := k) (hW ▸ hx)
        have hWl : W.length ≤ 3 := hW ▸ dueW_len k
        have hWn : W ≠ [] := hW ▸ dueW_ne k
        refine ex_cons (x1_if (b := decide (c * W.length ≤ 8)) ?_ (fun hb2 => ?_) (fun hb2 => ?_))
        · show TE prog w K n (scopeAt 23) [(Str.ofString "due", _), (Str.ofString "words", lD W), (Str.ofString "drawn", lD (dr k)), (Str.ofString "number", .int k), (Str.ofString "rows", rowsD rows), (Str.ofString "count", .int c)] _ _
          rw [← mul_le8]
          with_reducible refine te_cmp (ev_bin (ev_name (lk1 (by kernel_rfl) (lk1 (by kernel_rfl) (lk1 (by kernel_rfl) (lk1 (by kernel_rfl) (lk1 (by kernel_rfl) lk0)))))) (ev_call_builtin (by kernel_rfl) B.len_ (id := "len") (by kernel_rfl) (evs_cons (ev_name (lk1 (by kernel_rfl) lk0)) evs_nil) (ca_lenW ?_)) (bo_mul ?_)) ev_int co_le (by kernel_rfl)
          · lia
          · exact IntMulOk.of_right (intBits_small (by lia))
        · have hl8 : c * W.length ≤ 8 := of_decide_eq_true hb2
          refine ex_cons (x1_assign (d := .int (c * W.length : Nat)) ?_ (by kernel_rfl) (by kernel_rfl) ?_)
          · rw [Int.natCast_mul]
            with_reducible refine ev_bin (ev_name (lk1 (by kernel_rfl) (lk1 (by kernel_rfl) (lk1 (by kernel_rfl) (lk1 (by kernel_rfl) lk0))))) (ev_call_builtin (by kernel_rfl) B.len_ (id := "len") (by kernel_rfl) (evs_cons (ev_name lk0) evs_nil) (ca_lenW ?_)) (bo_mul ?_)
            · lia
            · exact IntMulOk.of_right (intBits_small (by lia))
          have habc : ∀ x ∈ W, abc x := fun x hx => (W12_ok x (hW12 x hx)).1
          refine ex_cons (x1_sift (as := [97, 98, 99]) (fun c => sD [c]) (fun c => !(W.filter fun x => x.take 1 == [c]).isEmpty) (fun c => sD [c]) rfl s1_inj (it_word (a := [97, 98, 99]) ?_) (.skip (by decide) (.skip (by decide) (.free (lk1 (by kernel_rfl) lk0) .nil))) (by kernel_rfl)
            (fun a ha => ⟨[(Str.ofString "sign", sD [a])], bb_name, by kernel_rfl, ?_, ?_⟩) (szl (by decide)) (by kernel_rfl) (by kernel_rfl) (by kernel_rfl) ?_)
          · with_reducible exact ev_lit (by kernel_rfl)
          · simp only [List.cons_append, List.nil_append]
            with_reducible refine te_cmp (d₁ := lD (W.filter fun x => x.take 1 == [a])) (d₂ := .list []) ?_ (ev_list evs_nil (szl (by simp))) (co_neW ?_) (by kernel_rfl)
            · refine ev_sift (as := W) sD (fun x => x.take 1 == [a]) sD rfl sD_inj (it_listW ?_) (.skip (by decide) (.skip (by decide) (.free lk0 .nil))) (by kernel_rfl)
                (fun x hx => ⟨[(Str.ofString "word", sD x)], bb_name, by kernel_rfl, ?_, ?_⟩) (szl (by lia))
              · with_reducible exact ev_name (lk1 (by kernel_rfl) lk0)
              · simp only [List.cons_append, List.nil_append]
                obtain ⟨c0, hc0, ht1, _⟩ := take1 (hW12 x hx)
                rw [ht1]
                with_reducible exact te_cmp (ev_sub (k := .int 0) (ev_name lk0) ev_int (gi_str (i := 0) hc0 (by decide)) (by intro _ _; kernel_rfl)) (ev_name (lk1 (by kernel_rfl) lk0)) co_eqs (by kernel_rfl)
              · simp only [List.cons_append, List.nil_append]
                with_reducible exact ev_name lk0
            · exact fun x hx => habc x (List.mem_filter.mp hx).1
          · simp only [List.cons_append, List.nil_append]
            with_reducible exact ev_name lk0
          refine ex_cons (x1_sift (as := [97, 98, 99]) (fun c => sD [c]) (fun c => !(W.filter fun x => x.drop 1 == [c]).isEmpty) (fun c => sD [c]) rfl s1_inj (it_word (a := [97, 98, 99]) ?_) (.skip (by decide) (.skip (by decide) (.free (lk1 (by kernel_rfl) (lk1 (by kernel_rfl) lk0)) .nil))) (by kernel_rfl)
            (fun a ha => ⟨[(Str.ofString "sign", sD [a])], bb_name, by kernel_rfl, ?_, ?_⟩) (szl (by decide)) (by kernel_rfl) (by kernel_rfl) (by kernel_rfl) ?_)
          · with_reducible exact ev_lit (by kernel_rfl)
          · simp only [List.cons_append, List.nil_append]
            with_reducible refine te_cmp (d₁ := lD (W.filter fun x => x.drop 1 == [a])) (d₂ := .list []) ?_ (ev_list evs_nil (szl (by simp))) (co_neW ?_) (by kernel_rfl)
            · refine ev_sift (as := W) sD (fun x => x.drop 1 == [a]) sD rfl sD_inj (it_listW ?_) (.skip (by decide) (.skip (by decide) (.free lk0 .nil))) (by kernel_rfl)
                (fun x hx => ⟨[(Str.ofString "word", sD x)], bb_name, by kernel_rfl, ?_, ?_⟩) (szl (by lia))
              · with_reducible exact ev_name (lk1 (by kernel_rfl) lk0)
              · simp only [List.cons_append, List.nil_append]
                have hx2 := (W12_ok x (hW12 x hx)).2
                with_reducible refine te_cmp (ev_slice_from (k := 1) (ev_name lk0) ev_int (gs_str_from (k := 1) ?_ (szl ?_))) (ev_name (lk1 (by kernel_rfl) lk0)) co_eqs (by kernel_rfl)
                · lia
                · lia
              · simp only [List.cons_append, List.nil_append]
                with_reducible exact ev_name lk0
            · exact fun x hx => habc x (List.mem_filter.mp hx).1
          · simp only [List.cons_append, List.nil_append]
            with_reducible exact ev_name lk0
          rw [show (([97, 98, 99] : List Nat).filter fun c => !(W.filter fun x => x.take 1 == [c]).isEmpty).map (fun c => sD [c]) = (firsts W).map sD by unfold firsts; rw [List.map_map]; rfl,
            show (([97, 98, 99] : List Nat).filter fun c => !(W.filter fun x => x.drop 1 == [c]).isEmpty).map (fun c => sD [c]) = (lasts W).map sD by unfold lasts; rw [List.map_map]; rfl]
          change EX prog w K n (scopeAt 23) _ ((Str.ofString "lasts", lD (lasts W)) :: (Str.ofString "firsts", lD (firsts W)) :: _) _ _ _
          refine ex_cons (x1_assign (d := .bool (cutW W)) ?_ (by kernel_rfl) (by kernel_rfl) ?_)
          · unfold cutW
            rw [← minW_eq, ← mul_eqI]
            with_reducible refine ev_and (ev_cmp (ev_call_builtin (by kernel_rfl) B.min_ (id := "min") (by kernel_rfl) (evs_cons (d := .list (W.map fun x => .int x.length)) ?_ evs_nil) (ca_minW hW12 hWn)) ev_int co_eqi (by kernel_rfl)) (fun _ => ev_cmp (ev_bin (ev_call_builtin (by kernel_rfl) B.len_ (id := "len") (by kernel_rfl) (evs_cons (ev_name (lk1 (by kernel_rfl) lk0)) evs_nil) (ca_lenW ?_)) (ev_call_builtin (by kernel_rfl) B.len_ (id := "len") (by kernel_rfl) (evs_cons (ev_name lk0) evs_nil) (ca_lenW ?_)) (bo_mul ?_)) (ev_call_builtin (by kernel_rfl) B.len_ (id := "len") (by kernel_rfl) (evs_cons (ev_name (lk1 (by kernel_rfl) (lk1 (by kernel_rfl) (lk1 (by kernel_rfl) lk0)))) evs_nil) (ca_lenW ?_)) co_eqi (by kernel_rfl))
            · refine ev_map (as := W) sD (fun x => .int x.length) rfl sD_inj (it_listW ?_) (.skip (by decide) (.skip (by decide) (.skip (by decide) .nil))) (by kernel_rfl)
                (fun x hx => ⟨[(Str.ofString "word", sD x)], bb_name, by kernel_rfl, ?_⟩) (szl (by lia))
              · with_reducible exact ev_name (lk1 (by kernel_rfl) (lk1 (by kernel_rfl) (lk1 (by kernel_rfl) lk0)))
              · simp only [List.cons_append, List.nil_append]
                with_reducible refine ev_call_builtin (by kernel_rfl) B.len_ (id := "len") (by kernel_rfl) (evs_cons (ev_name lk0) evs_nil) (ca_lenS ?_)
                have := (W12_ok x (hW12 x hx)).2.1; lia
            · have := firsts_len W; lia
            · have := lasts_len W; lia
            · exact IntMulOk.of_left (intBits_small (by have := firsts_len W; lia))
            · lia
          refine ex_cons ?_
          refine x1_add (es := (partsW W).map lD) ?_ (szl ?_) (by kernel_rfl) ?_
          · have e : PyData.list ((partsW W).map lD) = if cutW W = true then .list [lD (firsts W), lD (lasts W)] else .list [lD W] := by
              unfold partsW; split <;> rfl
            rw [e]
            with_reducible refine ev_ifexp (te_bool (ev_name lk0) (by intro _ _; kernel_rfl)) (fun _ => ev_list (evs_cons (ev_name (lk1 (by kernel_rfl) (lk1 (by kernel_rfl) lk0))) (evs_cons (ev_name (lk1 (by kernel_rfl) lk0)) evs_nil)) (szl (by simp))) (fun _ => ev_list (evs_cons (ev_name (lk1 (by kernel_rfl) (lk1 (by kernel_rfl) (lk1 (by kernel_rfl) (lk1 (by kernel_rfl) lk0))))) evs_nil) (szl (by simp)))
          · have : (partsW W).length ≤ 2 := by unfold partsW; split <;> simp
            simp only [List.length_map] at hT2 ⊢
            lia
          · refine ex_nil (ex_nil (hq .next _ _ ⟨?_, ?_, ?_⟩))
            · rw [due1, if_neg hk256, hW, if_pos hl8, List.map_append]
            · exact lk1 (by kernel_rfl) (lk1 (by kernel_rfl) (lk1 (by kernel_rfl) (lk1 (by kernel_rfl) (lk1 (by kernel_rfl) (lk1 (by kernel_rfl) (lk1 (by kernel_rfl) lk0))))))
            · rw [due1, if_neg hk256, hW, if_pos hl8]; exact lk1 (by kernel_rfl) (lk1 (by kernel_rfl) (lk1 (by kernel_rfl) lk0))
        · have hl8 : ¬ c * W.length ≤ 8 := of_decide_eq_false hb2
          refine ex_nil (ex_nil (hq .next _ _ ⟨?_, ?_, ?_⟩))
          · rw [due1, if_neg hk256, hW, if_neg hl8]
          · exact lk1 (by kernel_rfl) (lk1 (by kernel_rfl) (lk1 (by kernel_rfl) lk0))
          · rw [due1, if_neg hk256, hW, if_neg hl8]; exact lk1 (by kernel_rfl) (lk1 (by kernel_rfl) (lk1 (by kernel_rfl) (lk1 (by kernel_rfl) lk0)))
    · obtain ⟨rfl, g1, g2⟩ := hI
      rw [show ((upTo0 row).map PyData.int).length = (upTo0 row).length by simp, List.take_length] at *
      exact ex_nil ⟨rfl, g1, g2⟩
  · obtain ⟨rfl, h1, h2⟩ := hI
    rw [show (rows.map rowD).length = rows.length by simp, List.take_length] at *
    refine ex_cons (x1_return (d := dueD (dues rows).2) ?_ rfl)
    exact ev_name lk0
end Mine

open PySem PySem.W PyProof.Rows PySem.Calls
namespace Mine

variable {prog : Program} {w : World} {K : Frag} {n : Nat} {sc : Scope} {ρ : Rho} {own : List Str} {A : Around}

noncomputable def inits (s : Wd) : List Wd := (List.range (s.length + 1)).map fun i => s.take i
noncomputable def headsOf (S : List Wd) : List Wd := (S.flatMap inits).foldl stepW []
noncomputable def restOf (S : List Wd) (h : Wd) : List Wd := sortW ((S.filter fun x => h.isPrefixOf x).map fun x => x.drop h.length)
noncomputable def restsOf (S : List Wd) : List (List Wd) := (headsOf S).map (restOf S)
noncomputable def restAt (S : List Wd) (k : Nat) : List Wd := (restsOf S).getD k []
noncomputable def cutsOf (S : List Wd) : List Nat := (List.range ((S.headD []).length + 1)).filter fun k => (restsOf S).countP (· == restAt S k) * (restAt S k).length == S.length
noncomputable def alikeOf (S : List Wd) (m : Nat) : List Wd := (headsOf S).filter fun h => restOf S h == restAt S m
noncomputable def goOf (S : List Wd) (km : Nat × Nat) : List Wd := sortW (((alikeOf S km.2).filter fun x => ((headsOf S).getD km.1 []).isPrefixOf x).map fun x => x.drop km.1)
noncomputable def backOf (S : List Wd) : List (List Wd) := ((cutsOf S).zip ((cutsOf S).drop 1)).map (goOf S)

theorem foldl_stepW_pre : ∀ (l acc : List Wd), ∃ t, l.foldl stepW acc = acc ++ t
  | [], acc => ⟨[], by simp⟩
  | x :: l, acc => by
    rw [List.foldl_cons]
    obtain ⟨t, ht⟩ := foldl_stepW_pre l (stepW acc x)
    rw [ht]
    unfold stepW
    split
    · exact ⟨t, rfl⟩
    · exact ⟨x :: t, by simp⟩
theorem foldl_stepW_nodup : ∀ (l acc : List Wd), (acc ++ l).Nodup → l.foldl stepW acc = acc ++ l
  | [], acc, _ => by simp
  | x :: l, acc, h => by
    rw [List.foldl_cons]
    have hx : acc.contains x = false := by
      rw [List.contains_eq_mem, decide_eq_false_iff_not]
      intro hm
      rw [List.nodup_append] at h
      exact h.2.2 x hm x List.mem_cons_self rfl
    have e : stepW acc x = acc ++ [x] := by unfold stepW; rw [if_neg (by rw [hx]; simp)]
    rw [e, foldl_stepW_nodup l (acc ++ [x]) (by simpa using h)]
    simp
theorem inits_nodup (s : Wd) : (inits s).Nodup := by
  unfold inits
  rw [List.nodup_iff_pairwise_ne, List.pairwise_map]
  refine List.Pairwise.imp_of_mem ?_ (List.nodup_range (n := s.length + 1))
  intro a b ha hb hab e
  apply hab
  have := congrArg List.length e
  rw [List.length_take, List.length_take] at this
  have := List.mem_range.mp ha
  have := List.mem_range.mp hb
  lia
theorem heads_at {s : Wd} {S : List Wd} {k : Nat} (h : k ≤ s.length) : (headsOf (s :: S))[k]? = some (s.take k) := by
  unfold headsOf
  rw [List.flatMap_cons, List.foldl_append, foldl_stepW_nodup _ [] (by simpa using inits_nodup s), List.nil_append]
  obtain ⟨t, ht⟩ := foldl_stepW_pre (S.flatMap inits) (inits s)
  rw [ht, List.getElem?_append_left (by simp [inits]; lia)]
  simp [inits, List.getElem?_range (show k < s.length + 1 by lia)]
theorem stepW_all {P : Wd → Prop} : ∀ (l acc : List Wd), (∀ y ∈ acc, P y) → (∀ y ∈ l, P y) → ∀ y ∈ l.foldl stepW acc, P y
  | [], acc, h, _ => h
  | x :: l, acc, h, hl => stepW_all l _ (stepW_sub h (hl x List.mem_cons_self)) fun y hy => hl y (List.mem_cons_of_mem _ hy)
theorem stepW_foldl_len : ∀ (l acc : List Wd), (l.foldl stepW acc).length ≤ acc.length + l.length
  | [], acc => by simp
  | x :: l, acc => by
    have h1 := stepW_foldl_len l (stepW acc x)
    have h2 := stepW_len acc x
    rw [List.foldl_cons, List.length_cons]
    lia
theorem heads_init {S : List Wd} : ∀ h ∈ headsOf S, ∃ s ∈ S, ∃ i, i ≤ s.length ∧ h = s.take i := by
  refine stepW_all (P := fun h => ∃ s ∈ S, ∃ i, i ≤ s.length ∧ h = s.take i) _ [] (fun y hy => by cases hy) fun y hy => ?_
  obtain ⟨s, hs, hy⟩ := List.mem_flatMap.mp hy
  obtain ⟨i, hi, rfl⟩ := List.mem_map.mp hy
  exact ⟨s, hs, i, by have := List.mem_range.mp hi; lia, rfl⟩
theorem heads_good {B : Nat} {S : List Wd} (hG : Good B S) : ∀ h ∈ headsOf S, abc h ∧ h.length ≤ B := fun h hh => by
  obtain ⟨s, hs, i, hi, rfl⟩ := heads_init h hh
  exact ⟨fun c hc => (hG.2 s hs).1 c (List.mem_of_mem_take hc), by rw [List.length_take]; have := (hG.2 s hs).2; lia⟩
theorem flat_inits_len {B : Nat} : ∀ (S : List Wd), (∀ s ∈ S, s.length ≤ B) → (S.flatMap inits).length ≤ S.length * (B + 1)
  | [], _ => by simp
  | s :: S, h => by
    have h1 := flat_inits_len S fun t ht => h t (List.mem_cons_of_mem _ ht)
    have h2 := h s List.mem_cons_self
    rw [List.flatMap_cons, List.length_append, List.length_cons, Nat.add_mul, Nat.one_mul]
    have : (inits s).length = s.length + 1 := by simp [inits]
    lia
theorem heads_len {B : Nat} {S : List Wd} (hG : Good B S) : (headsOf S).length ≤ 8 * (B + 1) := by
  have h1 := stepW_foldl_len (S.flatMap inits) []
  have h2 := flat_inits_len S (fun s hs => (hG.2 s hs).2)
  have h3 := Nat.mul_le_mul_right (B + 1) hG.1
  unfold headsOf
  simp only [List.length_nil, Nat.zero_add] at h1
  lia
theorem restOf_len {B : Nat} {S : List Wd} (hG : Good B S) (h : Wd) : (restOf S h).length ≤ 8 := by
  unfold restOf
  rw [sortW_length, List.length_map]
  exact Nat.le_trans (List.length_filter_le _ _) hG.1
theorem restOf_abc {B : Nat} {S : List Wd} (hG : Good B S) (h : Wd) : ∀ x ∈ restOf S h, abc x := fun x hx => by
  have := (sortW_perm _).mem_iff.mp hx
  obtain ⟨y, hy, rfl⟩ := List.mem_map.mp this
  exact fun c hc => (hG.2 y (List.mem_filter.mp hy).1).1 c (List.mem_of_mem_drop hc)
theorem isPrefix_len {h x : Wd} (q : h.isPrefixOf x = true) : h.length ≤ x.length := (List.isPrefixOf_iff_prefix.mp q).length_le
end Mine

open PySem PySem.W PyProof.Rows PySem.Calls
namespace Mine

variable {prog : Program} {w : World} {K : Frag} {n : Nat} {sc : Scope} {ρ : Rho} {own : List Str} {A : Around}

structure KP (prog : Program) (w : World) (K : Frag) (n : Nat) : Prop where
  prF : Fn K (Str.ofString "_law_pairs") 109
  prC : ∀ ws : List Wd, (∀ x ∈ ws, abc x ∧ x.length ≤ 100) → ws.length ≤ 10000 → CA prog w K n (.ref 109) [lD ws] (pD ws)
  blF : Fn K (Str.ofString "_law_below") 129
  blC : ∀ (h : Wd) (ws : List Wd), abc h → h.length ≤ 100 → (∀ x ∈ ws, abc x ∧ x.length ≤ 100) → ws.length ≤ 10000 → CA prog w K n (.ref 129) [sD (nm h), pD ws] (lD (ws.filter fun x => h.isPrefixOf x))
noncomputable def rsD (R : List (List Wd)) : PyData := .list (R.map lD)
theorem ca_countL {R : List (List Wd)} {r : List Wd} (h : ∀ x ∈ R, ∀ y ∈ x, abc y) (hr : ∀ y ∈ r, abc y) : CA prog w K n (.builtin "list.count") [rsD R, lD r] (.int (R.countP (· == r) : Nat)) := by
  have := ca_count (prog := prog) (w := w) (K := K) (n := n) (ds := R.map lD) (d₀ := lD r) (fun e he => by obtain ⟨x, hx, rfl⟩ := List.mem_map.mp he; exact shaped_lD (h x hx)) (shaped_lD hr)
  rw [List.countP_map] at this
  have e : ((fun x => x.eqv (lD r)) ∘ lD) = fun x : List Wd => x == r := by funext x; exact eqv_lD x r
  rw [e] at this
  exact this
theorem co_eqL {a b : List Wd} (ha : ∀ x ∈ a, abc x) (hb : ∀ x ∈ b, abc x) : CO prog w K n .Eq (lD a) (lD b) (a == b) := by
  have := co_eq (prog := prog) (w := w) (K := K) (n := n) (shaped_lD ha) (shaped_lD hb)
  rw [eqv_lD] at this; exact this
theorem upto_nat (N : Nat) : upto ((N : Int) + 1) = (List.range (N + 1)).map fun (i : Nat) => .int (i : Int) := by
  unfold upto; rw [show ((N : Int) + 1).toNat = N + 1 by lia]
theorem int_inj (a b : Nat) (h : PyData.int (a : Int) = PyData.int (b : Int)) : a = b := by injection h with h; lia
theorem heads_up (S : List Wd) (i : Nat) (s : Wd) (h : S[i]? = some s) : headsOf (S.take (i + 1)) = (inits s).foldl stepW (headsOf (S.take i)) := by
  unfold headsOf
  rw [List.take_add_one, h, List.flatMap_append, List.foldl_append]; simp
theorem inits_up (s : Wd) (acc : List Wd) (j : Nat) (h : j ≤ s.length) : ((inits s).take (j + 1)).foldl stepW acc = stepW (((inits s).take j).foldl stepW acc) (s.take j) := by
  have : (inits s)[j]? = some (s.take j) := by unfold inits; rw [List.getElem?_map, List.getElem?_range (by lia)]; rfl
  rw [List.take_add_one, this, List.foldl_append]; rfl
theorem Good.take {B : Nat} {S : List Wd} (h : Good B S) (i : Nat) : Good B (S.take i) := ⟨by rw [List.length_take]; have := h.1; lia, fun s hs => h.2 s (List.mem_of_mem_take hs)⟩
set_option maxRecDepth 4000 in
set_option maxHeartbeats 4000000 in
/-- the first loop: the heads -/
theorem heads_x1 {S : List Wd} {Q : FlowD → Rho → OwS → Prop} (B : KB K) (hG : Good 100 S)
    (hq : ∀ ρ', ρ'.lookup (Str.ofString "sentences") = some (lD S) → Q .next ρ' (some (Str.ofString "heads", (headsOf S).map sD))) :
    EX1 prog w K n (scopeAt 22) (cellNames (scopeAt 22)) [(Str.ofString "sentences", lD S)] (some (Str.ofString "heads", [])) ((bodyAt 22).getD 1 default) Q := by
  refine x1_for (ds := S.map sD) (I := fun i ρ' ow' => ρ'.lookup (Str.ofString "sentences") = some (lD S) ∧ ow' = some (Str.ofString "heads", (headsOf (S.take i)).map sD)) (it_listW ?_) ?_ (fun i d ρ' ow' hi hI => ?_) (fun ρ' ow' hI => ?_)
  · exact ev_name lk0
  · exact ⟨lk0, rfl⟩
  · obtain ⟨h1, rfl⟩ := hI
    rw [List.getElem?_map] at hi
    obtain ⟨s, hs, rfl⟩ := Option.map_eq_some_iff.mp hi
    have hsB := (hG.2 s (List.mem_of_getElem? hs)).2
    rw [heads_up S i s hs]
    have hH := heads_len (hG.take i)
    generalize headsOf (S.take i) = H at hH
    refine ⟨[(Str.ofString "sentences", lD S)], [(Str.ofString "sentence", sD s)], sub1 h1, bb_name, by kernel_rfl, ?_⟩
    simp only [List.cons_append, List.nil_append]
    refine ex_cons (x1_for (ds := (List.range (s.length + 1)).map fun (i : Nat) => .int (i : Int)) (I := fun j ρ' ow' => ρ'.lookup (Str.ofString "sentences") = some (lD S) ∧ ρ'.lookup (Str.ofString "sentence") = some (sD s) ∧ ow' = some (Str.ofString "heads", (((inits s).take j).foldl stepW H).map sD)) ?_ ?_ (fun j d ρ' ow' hj hI => ?_) (fun ρ' ow' hI => ?_))
    · rw [← upto_nat]
      refine it_range (by kernel_rfl) B.range_ ?_ (by lia) (by lia)
      with_reducible refine ev_bin (ev_call_builtin (by kernel_rfl) B.len_ (id := "len") (by kernel_rfl) (evs_cons (ev_name lk0) evs_nil) (ca_lenS ?_)) ev_int bo_add
      lia
    · exact ⟨lk1 (by kernel_rfl) lk0, lk0, rfl⟩
    · obtain ⟨g1, g2, rfl⟩ := hI
      rw [List.getElem?_map] at hj
      obtain ⟨j', hj', rfl⟩ := Option.map_eq_some_iff.mp hj
      have hjl : j < s.length + 1 := by
        rcases Nat.lt_or_ge j (s.length + 1) with q | q
        · exact q
        · rw [List.getElem?_eq_none (by simpa using q)] at hj'; cases hj'
      rw [List.getElem?_range hjl] at hj'
      obtain rfl := Option.some.inj hj'
      rw [inits_up s H j (by lia)]
      have hL := stepW_foldl_len ((inits s).take j) H
      have hI2 : ((inits s).take j).length ≤ 101 := by rw [List.length_take]; simp [inits]; lia
      generalize ((inits s).take j).foldl stepW H = T at hL
      refine ⟨[(Str.ofString "sentences", lD S), (Str.ofString "sentence", sD s)], [(Str.ofString "size", .int (j : Int))], subC g1 (sub1 g2), bb_name, by kernel_rfl, ?_⟩
      simp only [List.cons_append, List.nil_append]
      refine ex_cons (x1_if (b := !T.contains (s.take j)) ?_ (fun hb => ?_) (fun hb => ?_))
      · show TE prog w K n (scopeAt 22) [(Str.ofString "heads", lD T), (Str.ofString "size", .int (j : Int)), (Str.ofString "sentences", lD S), (Str.ofString "sentence", sD s)] _ _
        with_reducible refine te_cmp (ev_slice_to (ev_name (lk1 (by kernel_rfl) (lk1 (by kernel_rfl) (lk1 (by kernel_rfl) lk0)))) (ev_name (lk1 (by kernel_rfl) lk0)) (gs_str_to ?_ (szl ?_))) (ev_name lk0) co_notin (by kernel_rfl)
        · lia
        · lia
      · refine ex_cons ?_
        with_reducible refine x1_append (d := sD (s.take j)) (ev_slice_to (ev_name (lk1 (by kernel_rfl) (lk1 (by kernel_rfl) lk0))) (ev_name lk0) (gs_str_to ?_ (szl ?_))) (szl ?_) ?_
        · lia
        · lia
        · rw [List.length_map]; lia
        refine ex_nil (ex_nil ⟨lk1 (by kernel_rfl) lk0, lk1 (by kernel_rfl) (lk1 (by kernel_rfl) lk0), ?_⟩)
        rw [stepW, if_neg (by simpa using hb), lD_app]
      · refine ex_nil (ex_nil ⟨lk1 (by kernel_rfl) lk0, lk1 (by kernel_rfl) (lk1 (by kernel_rfl) lk0), ?_⟩)
        rw [stepW, if_pos (by simpa using hb)]
    · obtain ⟨g1, g2, rfl⟩ := hI
      refine ex_nil ⟨g1, ?_⟩
      rw [show ((List.range (s.length + 1)).map fun (i : Nat) => PyData.int (i : Int)).length = (inits s).length by simp [inits], List.take_length]
  · obtain ⟨h1, rfl⟩ := hI
    rw [show (S.map sD).length = S.length by simp, List.take_length]
    exact hq ρ' h1
end Mine

open PySem PySem.W PyProof.Rows PySem.Calls
namespace Mine

variable {prog : Program} {w : World} {K : Frag} {n : Nat} {sc : Scope} {ρ : Rho} {own : List Str} {A : Around}

theorem kmD_inj (a b : Nat × Nat) (h : PyData.tuple [.int (a.1 : Int), .int (a.2 : Int)] = PyData.tuple [.int (b.1 : Int), .int (b.2 : Int)]) : a = b := by
  injection h with h
  injection h with h1 h2
  injection h1 with h1
  injection h2 with h2 _
  injection h2 with h2
  exact Prod.ext (by lia) (by lia)
theorem zipWith_map {α β γ : Type} (f : PyData → PyData → γ) (g : α → PyData) (g' : β → PyData) : ∀ (as : List α) (bs : List β), List.zipWith f (as.map g) (bs.map g') = (as.zip bs).map fun p => f (g p.1) (g' p.2)
  | [], _ => by simp
  | _ :: _, [] => by simp
  | a :: as, b :: bs => by simp [zipWith_map f g g' as bs]
theorem zip_self_map {α β : Type} (f : α → β) : ∀ as : List α, as.zip (as.map f) = as.map fun a => (a, f a)
  | [] => rfl
  | a :: as => by simp [zip_self_map f as]
theorem rests_at {S : List Wd} {k : Nat} {h : Wd} (hh : (headsOf S)[k]? = some h) : restAt S k = restOf S h := by
  unfold restAt restsOf
  rw [List.getD_eq_getElem?_getD, List.getElem?_map, hh]; rfl
theorem rests_get {S : List Wd} {k : Nat} {h : Wd} (hh : (headsOf S)[k]? = some h) : ((restsOf S).map lD)[k]? = some (lD (restAt S k)) := by
  rw [rests_at hh]; unfold restsOf
  rw [List.getElem?_map, List.getElem?_map, hh]; rfl
theorem cuts_le {s : Wd} {S : List Wd} {k : Nat} (h : k ∈ cutsOf (s :: S)) : k ≤ s.length := by
  have := List.mem_range.mp (List.mem_filter.mp h).1
  simp only [List.headD_cons] at this; lia
theorem alike_len {s : Wd} {S : List Wd} {m : Nat} {B : Nat} (hG : Good B (s :: S)) (h : m ∈ cutsOf (s :: S)) : (alikeOf (s :: S) m).length ≤ 8 := by
  have h1 := (List.mem_filter.mp h).2
  rw [beq_iff_eq] at h1
  have h2 : (alikeOf (s :: S) m).length = (restsOf (s :: S)).countP (· == restAt (s :: S) m) := by
    unfold alikeOf restsOf
    rw [List.countP_map, List.countP_eq_length_filter]; rfl
  rw [h2]
  have h3 := hG.1
  have h4 : (restAt (s :: S) m).length ≠ 0 := by
    intro e; rw [e, Nat.mul_zero] at h1; simp at h1
  have h5 := Nat.le_mul_of_pos_right ((restsOf (s :: S)).countP (· == restAt (s :: S) m)) (Nat.pos_of_ne_zero h4)
  lia
theorem tupRest_inj (S : List Wd) (a b : Wd) (h : PyData.tuple [pairD a, lD (restOf S a)] = PyData.tuple [pairD b, lD (restOf S b)]) : a = b := by
  injection h with h
  injection h with h
  exact pairD_inj _ _ h

set_option maxRecDepth 4000 in
set_option maxHeartbeats 4000000 in
theorem back_ex {s : Wd} {S' : List Wd} (B : KB K) (P : KP prog w K n) (hG : Good 100 (s :: S')) :
    EX prog w K n (scopeAt 22) (cellNames (scopeAt 22)) [(Str.ofString "sentences", lD (s :: S'))] none (bodyAt 22) (fun f _ _ => f = .ret (dueD (backOf (s :: S')))) := by
  refine ex_cons (x1_new (by kernel_rfl) (by kernel_rfl) ?_)
  refine ex_cons (heads_x1 B hG fun ρ' h1 => ?_)
  have hHg := heads_good hG
  have hHl := heads_len hG
  have hat : ∀ k, k ≤ s.length → (headsOf (s :: S'))[k]? = some (s.take k) := fun k hk => heads_at hk
  have hs100 := (hG.2 s List.mem_cons_self).2
  have hrA : ∀ k, ∀ x ∈ restAt (s :: S') k, abc x := fun k x hx => by
    unfold restAt restsOf at hx
    rw [List.getD_eq_getElem?_getD, List.getElem?_map] at hx
    cases e : (headsOf (s :: S'))[k]? with
    | none => rw [e] at hx; cases hx
    | some h => rw [e] at hx; exact restOf_abc hG h x hx
  have hrL : ∀ k, (restAt (s :: S') k).length ≤ 8 := fun k => by
    unfold restAt restsOf
    rw [List.getD_eq_getElem?_getD, List.getElem?_map]
    cases e : (headsOf (s :: S'))[k]? with
    | none => simp
    | some h => exact restOf_len hG h
  have hRa : ∀ x ∈ restsOf (s :: S'), ∀ y ∈ x, abc y := fun x hx => by
    obtain ⟨h, _, rfl⟩ := List.mem_map.mp hx; exact restOf_abc hG h
  generalize hS : s :: S' = S at *
  have hSh : S.headD [] = s := by rw [← hS]; rfl
  refine ex_disown (ex_fewer (ρ' := [(Str.ofString "heads", lD (headsOf S)), (Str.ofString "sentences", lD S)]) ?_ (subC lk0 (sub1 (lk1 (by kernel_rfl) h1))))
  refine ex_cons (x1_assign (d := pD S) ?_ (by kernel_rfl) (by kernel_rfl) ?_)
  · with_reducible refine ev_fn (by kernel_rfl) P.prF (evs_cons (ev_name (lk1 (by kernel_rfl) lk0)) evs_nil) (P.prC S ?_ ?_)
    · exact hG.2
    · have := hG.1; lia
  refine ex_cons (x1_assign (d := pD (headsOf S)) ?_ (by kernel_rfl) (by kernel_rfl) ?_)
  · with_reducible refine ev_fn (by kernel_rfl) P.prF (evs_cons (ev_name (lk1 (by kernel_rfl) lk0)) evs_nil) (P.prC (headsOf S) ?_ ?_)
    · exact hHg
    · lia
  refine ex_cons (x1_assign (d := rsD (restsOf S)) ?_ (by kernel_rfl) (by kernel_rfl) ?_ (fun env he => swaps_eq (by kernel_rfl) he))
  · rw [show rsD (restsOf S) = .list ((headsOf S).map fun h => lD (restOf S h)) by unfold rsD restsOf; rw [List.map_map]; rfl]
    refine ev_map (as := headsOf S) pairD (fun h => lD (restOf S h)) rfl pairD_inj (it_list ?_) (.skip (by decide) (.skip (by decide) (.skip (by decide) (.skip (by decide) (.skip (by decide) (.free (lk1 (by kernel_rfl) lk0) .nil)))))) (by kernel_rfl)
      (fun h hh => ⟨[(Str.ofString "name", sD (nm h)), (Str.ofString "head", sD h)], bb_tuple (bbs_cons bb_name (bbs_cons bb_name bbs_nil)), by kernel_rfl, ?_⟩) (szl (by lia))
    · exact ev_name lk0
    · simp only [List.cons_append, List.nil_append]
      with_reducible refine ev_call_builtin (by kernel_rfl) B.sorted_ (id := "sorted") (by kernel_rfl) (evs_cons (d := lD ((S.filter fun x => h.isPrefixOf x).map fun x => x.drop h.length)) ?_ evs_nil) ?_
      · rw [show lD ((S.filter fun x => h.isPrefixOf x).map fun x => x.drop h.length) = .list ((S.filter fun x => h.isPrefixOf x).map fun x => sD (x.drop h.length)) by unfold lD; rw [List.map_map]; rfl]
        refine ev_map (as := S.filter fun x => h.isPrefixOf x) sD (fun x => sD (x.drop h.length)) rfl sD_inj (it_listW ?_) (.skip (by decide) (.skip (by decide) (.skip (by decide) (.free (lk1 (by kernel_rfl) lk0) .nil)))) (by kernel_rfl)
          (fun x hx => ⟨[(Str.ofString "word", sD x)], bb_name, by kernel_rfl, ?_⟩) (szl (by have := List.length_filter_le (fun x => h.isPrefixOf x) S; have := hG.1; lia))
        · with_reducible refine ev_fn (by kernel_rfl) P.blF (evs_cons (ev_name lk0) (evs_cons (ev_name (lk1 (by kernel_rfl) (lk1 (by kernel_rfl) lk0))) evs_nil)) (P.blC h S ?_ ?_ ?_ ?_)
          · exact (hHg h hh).1
          · exact (hHg h hh).2
          · exact hG.2
          · have := hG.1; lia
        · simp only [List.cons_append, List.nil_append]
          have hxS := List.mem_filter.mp hx
          with_reducible refine ev_slice_from (k := (h.length : Int)) (ev_name lk0) (ev_call_builtin (by kernel_rfl) B.len_ (id := "len") (by kernel_rfl) (evs_cons (ev_name (lk1 (by kernel_rfl) lk0)) evs_nil) (ca_lenS ?_)) (gs_str_from ?_ (szl ?_))
          · have := (hHg h hh).2; lia
          · exact isPrefix_len hxS.2
          · have := (hG.2 x hxS.1).2; lia
      · refine ca_sorted ?_
        rw [List.length_map]
        have := List.length_filter_le (fun x => h.isPrefixOf x) S
        have := hG.1; lia
  refine ex_cons (x1_sift (as := List.range ((S.headD []).length + 1)) (fun i => .int (i : Int)) (fun k => (restsOf S).countP (· == restAt S k) * (restAt S k).length == S.length) (fun i => .int (i : Int)) rfl int_inj ?_ (.skip (by decide) (.skip (by decide) (.skip (by decide) (.free lk0 (.free (lk1 (by kernel_rfl) (lk1 (by kernel_rfl) (lk1 (by kernel_rfl) (lk1 (by kernel_rfl) lk0)))) .nil))))) (by kernel_rfl)
    (fun k hk => ⟨[(Str.ofString "k", .int (k : Int))], bb_name, by kernel_rfl, ?_, ?_⟩) (szl ?_) (by kernel_rfl) (by kernel_rfl) (by kernel_rfl) ?_)
  · rw [hSh, ← upto_nat]
    refine it_range (by kernel_rfl) B.range_ ?_ (by lia) (by lia)
    with_reducible refine ev_bin (ev_call_builtin (by kernel_rfl) B.len_ (id := "len") (by kernel_rfl) (evs_cons (d := sD s) (ev_sub (k := .int 0) (ev_name (lk1 (by kernel_rfl) (lk1 (by kernel_rfl) (lk1 (by kernel_rfl) (lk1 (by kernel_rfl) lk0))))) ev_int ?_ (by intro _ _; kernel_rfl)) evs_nil) (ca_lenS ?_)) ev_int bo_add
    · exact gi_list (i := 0) (by rw [← hS]; rfl) (by decide)
    · lia
  · simp only [List.cons_append, List.nil_append]
    have hkl : k ≤ s.length := by have := List.mem_range.mp hk; rw [hSh] at this; lia
    rw [← mul_eqI]
    with_reducible refine te_cmp (ev_bin (ev_meth (d := rsD (restsOf S)) (ds := [lD (restAt S k)]) (id := "list.count") (ev_name (lk1 (by kernel_rfl) lk0)) ?_ (evs_cons (ev_sub (ev_name (lk1 (by kernel_rfl) lk0)) (ev_name lk0) ?_ (by intro _ _; kernel_rfl)) evs_nil) (ca_countL hRa (hrA k))) (ev_call_builtin (by kernel_rfl) B.len_ (id := "len") (by kernel_rfl) (evs_cons (d := lD (restAt S k)) (ev_sub (ev_name (lk1 (by kernel_rfl) lk0)) (ev_name lk0) ?_ (by intro _ _; kernel_rfl)) evs_nil) (ca_lenW ?_)) (bo_mul ?_)) (ev_call_builtin (by kernel_rfl) B.len_ (id := "len") (by kernel_rfl) (evs_cons (ev_name (lk1 (by kernel_rfl) (lk1 (by kernel_rfl) lk0))) evs_nil) (ca_lenW ?_)) co_eqi (by kernel_rfl)
    · exact gm_count
    · exact gi_list (rests_get (hat k hkl)) (by lia)
    · exact gi_list (rests_get (hat k hkl)) (by lia)
    · have := hrL k; lia
    · exact IntMulOk.of_right (intBits_small (hrL k))
    · have := hG.1; lia
  · simp only [List.cons_append, List.nil_append]
    with_reducible exact ev_name lk0
  · rw [List.length_range, hSh]; lia
  rw [show ((List.range ((S.headD []).length + 1)).filter fun k => (restsOf S).countP (· == restAt S k) * (restAt S k).length == S.length) = cutsOf S from rfl]
  refine ex_cons (x1_new (by kernel_rfl) (by kernel_rfl) ?_)
  have hcutl : (cutsOf S).length ≤ 200 := by
    unfold cutsOf
    have := List.length_filter_le (fun k => (restsOf S).countP (· == restAt S k) * (restAt S k).length == S.length) (List.range ((S.headD []).length + 1))
    rw [List.length_range, hSh] at this; rw [hSh]; lia
  have hcle : ∀ k ∈ cutsOf S, k ≤ s.length := fun k hk => by rw [← hS] at hk; exact cuts_le hk
  have hall : ∀ m ∈ cutsOf S, (alikeOf S m).length ≤ 8 := fun m hm => by rw [← hS] at hm hG ⊢; exact alike_len hG hm
  refine ex_cons (x1_for (ds := ((cutsOf S).zip ((cutsOf S).drop 1)).map fun km => .tuple [.int (km.1 : Int), .int (km.2 : Int)]) (I := fun i ρ' ow' => ρ'.lookup (Str.ofString "named") = some (pD (headsOf S)) ∧ ρ'.lookup (Str.ofString "rests") = some (rsD (restsOf S)) ∧
    ow' = some (Str.ofString "back", ((((cutsOf S).zip ((cutsOf S).drop 1)).take i).map (goOf S)).map lD)) ?_ ?_ (fun i d ρ' ow' hi hI => ?_) (fun ρ' ow' hI => ?_))
  · have e : (((cutsOf S).zip ((cutsOf S).drop 1)).map fun km => PyData.tuple [.int (km.1 : Int), .int (km.2 : Int)]) = List.zipWith (fun x y => .tuple [x, y]) ((cutsOf S).map fun (i : Nat) => .int (i : Int)) (((cutsOf S).map fun (i : Nat) => .int (i : Int)).drop 1) := by
      rw [← List.map_drop, zipWith_map]
    rw [e]
    refine it_zip (by kernel_rfl) B.zip_ (ev_name lk0) ?_
    with_reducible refine ev_slice_from (k := 1) (ev_name lk0) ev_int ?_
    exact gs_list_from (k := 1) (szl (by rw [List.length_map]; lia))
  · exact ⟨lk1 (by kernel_rfl) (lk1 (by kernel_rfl) lk0), lk1 (by kernel_rfl) lk0, rfl⟩
  · obtain ⟨g1, g2, rfl⟩ := hI
    rw [List.getElem?_map] at hi
    obtain ⟨km, hkm, rfl⟩ := Option.map_eq_some_iff.mp hi
    have hup : (((cutsOf S).zip ((cutsOf S).drop 1)).take (i + 1)).map (goOf S) = (((cutsOf S).zip ((cutsOf S).drop 1)).take i).map (goOf S) ++ [goOf S km] := by
      rw [List.take_add_one, hkm, List.map_append]; rfl
    have hlen : ((((cutsOf S).zip ((cutsOf S).drop 1)).take i).map (goOf S)).length ≤ 200 := by
      rw [List.length_map, List.length_take, List.length_zip]; lia
    rw [hup]
    generalize (((cutsOf S).zip ((cutsOf S).drop 1)).take i).map (goOf S) = D at hlen
    have hmem := List.mem_of_getElem? hkm
    obtain ⟨k, m⟩ := km
    have hkc : k ∈ cutsOf S := (List.of_mem_zip hmem).1
    have hmc : m ∈ cutsOf S := List.mem_of_mem_drop (List.of_mem_zip hmem).2
    have hkl := hcle k hkc
    have hml := hcle m hmc
    refine ⟨[(Str.ofString "named", pD (headsOf S)), (Str.ofString "rests", rsD (restsOf S))], [(Str.ofString "m", .int (m : Int)), (Str.ofString "k", .int (k : Int))], subC g1 (sub1 g2), bb_tuple (bbs_cons bb_name (bbs_cons bb_name bbs_nil)), by kernel_rfl, ?_⟩
    simp only [List.cons_append, List.nil_append]
    refine ex_cons (x1_sift (as := headsOf S) (fun h => .tuple [pairD h, lD (restOf S h)]) (fun h => restOf S h == restAt S m) pairD rfl (tupRest_inj S) ?_ (.skip (by decide) (.skip (by decide) (.skip (by decide) (.free lk0 (.free (lk1 (by kernel_rfl) (lk1 (by kernel_rfl) (lk1 (by kernel_rfl) lk0))) .nil))))) (by kernel_rfl)
      (fun h hh => ⟨[(Str.ofString "rest", lD (restOf S h)), (Str.ofString "pair", pairD h)], bb_tuple (bbs_cons bb_name (bbs_cons bb_name bbs_nil)), by kernel_rfl, ?_, ?_⟩) (szl (by lia)) (by kernel_rfl) (by kernel_rfl) (by kernel_rfl) ?_)
    · have e : ((headsOf S).map fun h => PyData.tuple [pairD h, lD (restOf S h)]) = List.zipWith (fun x y => .tuple [x, y]) ((headsOf S).map pairD) ((restsOf S).map lD) := by
        unfold restsOf
        rw [zipWith_map, zip_self_map, List.map_map]; rfl
      rw [e]
      exact it_zip (by kernel_rfl) B.zip_ (ev_name (lk1 (by kernel_rfl) (lk1 (by kernel_rfl) lk0))) (ev_name (lk1 (by kernel_rfl) (lk1 (by kernel_rfl) (lk1 (by kernel_rfl) lk0))))
    · simp only [List.cons_append, List.nil_append]
      with_reducible refine te_cmp (ev_name lk0) (ev_sub (ev_name (lk1 (by kernel_rfl) (lk1 (by kernel_rfl) (lk1 (by kernel_rfl) lk0)))) (ev_name (lk1 (by kernel_rfl) (lk1 (by kernel_rfl) lk0))) ?_ (by intro _ _; kernel_rfl)) (co_eqL ?_ (hrA m)) (by kernel_rfl)
      · exact gi_list (rests_get (hat m hml)) (by lia)
      · exact restOf_abc hG h
    · simp only [List.cons_append, List.nil_append]
      with_reducible exact ev_name (lk1 (by kernel_rfl) lk0)
    change EX prog w K n (scopeAt 22) _ ((Str.ofString "alike", pD (alikeOf S m)) :: _) _ _ _
    refine ex_cons ?_
    have hal := hall m hmc
    have hasub : ∀ x ∈ alikeOf S m, abc x ∧ x.length ≤ 100 := fun x hx => hHg x (List.mem_filter.mp hx).1
    have htk : (headsOf S).getD k [] = s.take k := by rw [List.getD_eq_getElem?_getD, hat k hkl]; rfl
    have htl : (s.take k).length = k := by rw [List.length_take]; lia
    refine x1_append (d := lD (goOf S (k, m))) ?_ (szl (by rw [List.length_map]; lia)) ?_
    · unfold goOf
      rw [htk]
      with_reducible refine ev_call_builtin (by kernel_rfl) B.sorted_ (id := "sorted") (by kernel_rfl) (evs_cons (d := lD (((alikeOf S m).filter fun x => (s.take k).isPrefixOf x).map fun x => x.drop k)) ?_ evs_nil) ?_
      · rw [show lD (((alikeOf S m).filter fun x => (s.take k).isPrefixOf x).map fun x => x.drop k) = .list (((alikeOf S m).filter fun x => (s.take k).isPrefixOf x).map fun x => sD (x.drop k)) by unfold lD; rw [List.map_map]; rfl]
        refine ev_map (as := (alikeOf S m).filter fun x => (s.take k).isPrefixOf x) sD (fun x => sD (x.drop k)) rfl sD_inj (it_listW ?_) (.skip (by decide) (.skip (by decide) (.free (lk1 (by kernel_rfl) (lk1 (by kernel_rfl) lk0)) .nil))) (by kernel_rfl)
          (fun x hx => ⟨[(Str.ofString "word", sD x)], bb_name, by kernel_rfl, ?_⟩) (szl (by have := List.length_filter_le (fun x => (s.take k).isPrefixOf x) (alikeOf S m); lia))
        · with_reducible refine ev_fn (by kernel_rfl) P.blF (evs_cons (ev_sub (d := pairD (s.take k)) (k := .int 1) (ev_sub (k := .int (k : Int)) (ev_name (lk1 (by kernel_rfl) (lk1 (by kernel_rfl) (lk1 (by kernel_rfl) lk0)))) (ev_name (lk1 (by kernel_rfl) (lk1 (by kernel_rfl) lk0))) ?_ (by intro _ _; kernel_rfl)) ev_int ?_ (by intro _ _; kernel_rfl)) (evs_cons (ev_name lk0) evs_nil)) (P.blC (s.take k) (alikeOf S m) ?_ ?_ ?_ ?_)
          · exact gi_list (by rw [List.getElem?_map, hat k hkl]; rfl) (by lia)
          · exact gi_tuple (i := 1) rfl (by decide)
          · exact (hHg _ (List.mem_of_getElem? (hat k hkl))).1
          · lia
          · exact hasub
          · lia
        · simp only [List.cons_append, List.nil_append]
          have hxS := List.mem_filter.mp hx
          with_reducible refine ev_slice_from (k := (k : Int)) (ev_name lk0) (ev_name (lk1 (by kernel_rfl) lk0)) (gs_str_from ?_ (szl ?_))
          · have := isPrefix_len hxS.2; lia
          · have := (hasub x hxS.1).2; lia
      · refine ca_sorted ?_
        rw [List.length_map]
        have := List.length_filter_le (fun x => (s.take k).isPrefixOf x) (alikeOf S m)
        lia
    · refine ex_nil ⟨?_, ?_, ?_⟩
      · exact lk1 (by kernel_rfl) (lk1 (by kernel_rfl) (lk1 (by kernel_rfl) lk0))
      · exact lk1 (by kernel_rfl) (lk1 (by kernel_rfl) (lk1 (by kernel_rfl) (lk1 (by kernel_rfl) lk0)))
      · rw [List.map_append]; rfl
  · obtain ⟨g1, g2, rfl⟩ := hI
    rw [List.length_map, List.take_length]
    refine ex_cons (x1_return (d := dueD (backOf S)) ?_ rfl)
    exact ev_name lk0
end Mine

open PySem
namespace Mine

noncomputable def mulL (X T : List Wd) : List Wd := X.flatMap fun x => T.map (x ++ ·)
noncomputable def prodL : List (List Wd) → List Wd
  | [] => [[]]
  | Y :: Ys => mulL Y (prodL Ys)
noncomputable def PC (X : List Wd) : Prop := ∀ x ∈ X, ∀ y ∈ X, x <+: y → x = y
/-- the same rests -/
noncomputable def ER (S : List Wd) (h h' : Wd) : Prop := ∀ t, h ++ t ∈ S ↔ h' ++ t ∈ S
theorem ER.symm {S : List Wd} {h h' : Wd} (e : ER S h h') : ER S h' h := fun t => (e t).symm
theorem ER.trans {S : List Wd} {h h' h'' : Wd} (e : ER S h h') (e' : ER S h' h'') : ER S h h'' := fun t => (e t).trans (e' t)
theorem ER.app {S : List Wd} {h h' : Wd} (e : ER S h h') (u : Wd) : ER S (h ++ u) (h' ++ u) := fun t => by rw [List.append_assoc, List.append_assoc]; exact e _
theorem mem_mul {X T : List Wd} {s : Wd} : s ∈ mulL X T ↔ ∃ x ∈ X, ∃ t ∈ T, s = x ++ t := by
  unfold mulL
  rw [List.mem_flatMap]
  constructor
  · rintro ⟨x, hx, h⟩
    obtain ⟨t, ht, rfl⟩ := List.mem_map.mp h
    exact ⟨x, hx, t, ht, rfl⟩
  · rintro ⟨x, hx, t, ht, rfl⟩
    exact ⟨x, hx, List.mem_map.mpr ⟨t, ht, rfl⟩⟩
theorem bound (S : List Wd) : ∃ B, ∀ s ∈ S, s.length ≤ B := by
  induction S with
  | nil => exact ⟨0, fun s hs => by cases hs⟩
  | cons a S ih =>
    obtain ⟨B, hB⟩ := ih
    refine ⟨max B a.length, fun s hs => ?_⟩
    rcases List.mem_cons.mp hs with rfl | h
    · exact Nat.le_max_right _ _
    · exact Nat.le_trans (hB s h) (Nat.le_max_left _ _)
theorem no_loop {S : List Wd} {h v t : Wd} (hv : v ≠ []) (e : ER S h (h ++ v)) (ht : h ++ t ∈ S) : False := by
  obtain ⟨B, hB⟩ := bound S
  have go : ∀ n t, B - t.length ≤ n → h ++ t ∈ S → False := by
    intro n
    induction n with
    | zero =>
      intro t hn hm
      have h1 := (e t).mp hm
      have h2 := hB _ h1
      have h3 : 0 < v.length := List.length_pos_iff.mpr hv
      simp only [List.length_append] at h2
      lia
    | succ n ih =>
      intro t hn hm
      have h1 := (e t).mp hm
      have h2 := hB _ hm
      have h3 : 0 < v.length := List.length_pos_iff.mpr hv
      simp only [List.length_append] at h2
      rw [List.append_assoc] at h1
      have h4 := hB _ h1
      simp only [List.length_append] at h4
      exact ih (v ++ t) (by simp only [List.length_append]; lia) h1
  exact go _ t (Nat.le_refl _) ht
theorem mul_cancel {X T : List Wd} (hX : PC X) {x u : Wd} (hx : x ∈ X) : x ++ u ∈ mulL X T ↔ u ∈ T := by
  rw [mem_mul]
  constructor
  · rintro ⟨x', hx', t, ht, e⟩
    have h1 : x <+: x ++ u := List.prefix_append _ _
    have h2 : x' <+: x ++ u := by rw [e]; exact List.prefix_append _ _
    have : x = x' := by
      rcases List.prefix_or_prefix_of_prefix h1 h2 with q | q
      · exact hX x hx x' hx' q
      · exact (hX x' hx' x hx q).symm
    subst this
    rw [List.append_cancel_left e]; exact ht
  · intro h; exact ⟨x, hx, u, h, rfl⟩
theorem mul_pc {X T : List Wd} (hX : PC X) (hT : PC T) : PC (mulL X T) := by
  intro a ha b hb hab
  obtain ⟨x, hx, t, ht, rfl⟩ := mem_mul.mp ha
  obtain ⟨v, hv⟩ := hab
  rw [← hv, List.append_assoc] at hb
  have := (mul_cancel hX hx).mp hb
  have := hT t ht _ this (List.prefix_append _ _)
  rw [List.append_assoc] at hv
  rw [← hv, ← this]
theorem mul_nodup {X T : List Wd} (hX : X.Nodup) (hT : T.Nodup) (h : ∀ x ∈ X, ∀ x' ∈ X, ∀ t ∈ T, ∀ t' ∈ T, x ++ t = x' ++ t' → x = x') : (mulL X T).Nodup := by
  unfold mulL
  rw [List.nodup_iff_pairwise_ne, List.pairwise_flatMap]
  constructor
  · intro x hx
    rw [List.pairwise_map]
    exact (List.nodup_iff_pairwise_ne.mp hT).imp fun hab e => hab (List.append_cancel_left e)
  · refine List.Pairwise.imp_of_mem ?_ (List.nodup_iff_pairwise_ne.mp hX)
    intro x x' hx hx' hne a ha b hb e
    obtain ⟨t, ht, rfl⟩ := List.mem_map.mp ha
    obtain ⟨t', ht', rfl⟩ := List.mem_map.mp hb
    exact hne (h x hx x' hx' t ht t' ht' e)
theorem mul_len (X T : List Wd) : (mulL X T).length = X.length * T.length := by
  unfold mulL
  induction X with
  | nil => simp
  | cons a l ih => rw [List.flatMap_cons, List.length_append, ih, List.length_map, List.length_cons, Nat.add_mul, Nat.one_mul, Nat.add_comm]
theorem subset_of_len {L S : List Wd} (hL : L.Nodup) (hs : ∀ x ∈ L, x ∈ S) (hl : L.length = S.length) : ∀ x ∈ S, x ∈ L := by
  intro x hx
  apply Classical.byContradiction
  intro hn
  have h1 : (x :: L).Nodup := List.nodup_cons.mpr ⟨hn, hL⟩
  have h2 := List.Nodup.length_le_of_subset h1 (l₂ := S) (fun y hy => by
    rcases List.mem_cons.mp hy with rfl | q
    · exact hx
    · exact hs y q)
  rw [List.length_cons] at h2
  lia
theorem len_of_same {L S : List Wd} (hL : L.Nodup) (hS : S.Nodup) (h : ∀ x, x ∈ L ↔ x ∈ S) : L.length = S.length :=
  ((List.perm_ext_iff_of_nodup hL hS).mpr h).length_eq
theorem sortW_same {L S : List Wd} (hL : L.Nodup) (hS : S.Nodup) (h : ∀ x, x ∈ L ↔ x ∈ S) : sortW L = sortW S :=
  eq_sortW ((sortW_perm L).trans ((List.perm_ext_iff_of_nodup hL hS).mpr h)) (sortW_rises L)

/-- h begins one of S -/
noncomputable def Hd (S : List Wd) (h : Wd) : Prop := ∃ t, h ++ t ∈ S
theorem mem_heads {S : List Wd} {h : Wd} : h ∈ headsOf S ↔ Hd S h := by
  constructor
  · intro hh
    obtain ⟨s, hs, i, hi, rfl⟩ := heads_init h hh
    exact ⟨s.drop i, by rw [List.take_append_drop]; exact hs⟩
  · rintro ⟨t, ht⟩
    have gen : ∀ (l acc : List Wd) (x : Wd), (x ∈ acc ∨ x ∈ l) → x ∈ l.foldl stepW acc := by
      intro l
      induction l with
      | nil => intro acc x h; rcases h with h | h; exact h; cases h
      | cons a l ih =>
        intro acc x h
        rw [List.foldl_cons]
        apply ih
        rcases h with h | h
        · left; unfold stepW; split
          · exact h
          · exact List.mem_append_left _ h
        · rcases List.mem_cons.mp h with rfl | h
          · left; unfold stepW; split
            · rename_i hc; simpa using hc
            · simp
          · right; exact h
    refine gen _ _ _ (.inr ?_)
    refine List.mem_flatMap.mpr ⟨_, ht, ?_⟩
    unfold inits
    refine List.mem_map.mpr ⟨h.length, List.mem_range.mpr (by rw [List.length_append]; lia), ?_⟩
    simp
theorem heads_nodup (S : List Wd) : (headsOf S).Nodup := by
  have gen : ∀ (l acc : List Wd), acc.Nodup → (l.foldl stepW acc).Nodup := by
    intro l
    induction l with
    | nil => intro acc h; exact h
    | cons a l ih =>
      intro acc h
      rw [List.foldl_cons]
      apply ih
      unfold stepW
      split
      · exact h
      · rename_i hc
        have hc' : a ∉ acc := by simpa using hc
        rw [List.nodup_append]
        refine ⟨h, by simp, fun x hx y hy e => ?_⟩
        rw [List.mem_singleton] at hy
        subst hy; subst e; exact hc' hx
  exact gen _ _ List.nodup_nil
theorem mem_rest {S : List Wd} {h t : Wd} : t ∈ restOf S h ↔ h ++ t ∈ S := by
  unfold restOf
  rw [(sortW_perm _).mem_iff, List.mem_map]
  constructor
  · rintro ⟨x, hx, rfl⟩
    obtain ⟨h1, h2⟩ := List.mem_filter.mp hx
    obtain ⟨u, rfl⟩ := List.isPrefixOf_iff_prefix.mp h2
    simpa using h1
  · intro hm
    exact ⟨h ++ t, List.mem_filter.mpr ⟨hm, List.isPrefixOf_iff_prefix.mpr (List.prefix_append _ _)⟩, by simp⟩
theorem rest_nodup {S : List Wd} (hS : S.Nodup) (h : Wd) : (restOf S h).Nodup := by
  unfold restOf
  refine (sortW_perm _).symm.nodup ?_
  rw [List.nodup_iff_pairwise_ne, List.pairwise_map]
  have h1 : (S.filter fun x => h.isPrefixOf x).Nodup := hS.sublist List.filter_sublist
  refine List.Pairwise.imp_of_mem ?_ (List.nodup_iff_pairwise_ne.mp h1)
  intro a b ha hb hne e
  obtain ⟨u, rfl⟩ := List.isPrefixOf_iff_prefix.mp (List.mem_filter.mp ha).2
  obtain ⟨v, rfl⟩ := List.isPrefixOf_iff_prefix.mp (List.mem_filter.mp hb).2
  simp at e
  exact hne (by rw [e])
theorem rest_eq {S : List Wd} (hS : S.Nodup) {h h' : Wd} : restOf S h = restOf S h' ↔ ER S h h' := by
  constructor
  · intro e t; rw [← mem_rest, ← mem_rest, e]
  · intro e
    have : sortW (restOf S h) = sortW (restOf S h') := sortW_same (rest_nodup hS h) (rest_nodup hS h') fun x => by rw [mem_rest, mem_rest]; exact e x
    have idem : ∀ l, sortW (sortW l) = sortW l := fun l => (eq_sortW (ns := sortW l) (.refl _) (sortW_rises l)).symm
    unfold restOf at this ⊢
    rwa [idem, idem] at this
/-- S is cut behind h -/
noncomputable def CutP (S : List Wd) (h : Wd) : Prop := ∀ s ∈ S, ∃ h', h' <+: s ∧ ER S h' h
end Mine

open PySem
namespace Mine

theorem same_free {S : List Wd} {x x' h t t' : Wd} (e1 : ER S x h) (e2 : ER S x' h) (ht : x ++ t ∈ S) (e : x ++ t = x' ++ t') : x = x' := by
  have h1 : x <+: x ++ t := List.prefix_append _ _
  have h2 : x' <+: x ++ t := by rw [e]; exact List.prefix_append _ _
  rcases List.prefix_or_prefix_of_prefix h1 h2 with ⟨v, hv⟩ | ⟨v, hv⟩
  · subst hv
    by_cases hz : v = []
    · subst hz; simp
    · exact (no_loop hz (e1.trans e2.symm) ht).elim
  · subst hv
    by_cases hz : v = []
    · subst hz; simp
    · rw [e] at ht; exact (no_loop hz (e2.trans e1.symm) ht).elim
theorem mem_alike {S : List Wd} (hS : S.Nodup) {h x : Wd} : x ∈ (headsOf S).filter (fun h' => restOf S h' == restOf S h) ↔ Hd S x ∧ ER S x h := by
  rw [List.mem_filter, mem_heads, beq_iff_eq, rest_eq hS]
theorem cut_iff {S : List Wd} (hS : S.Nodup) {h : Wd} (hh : Hd S h) : ((restsOf S).countP (· == restOf S h) * (restOf S h).length = S.length) ↔ CutP S h := by
  have hc : (restsOf S).countP (· == restOf S h) = ((headsOf S).filter fun h' => restOf S h' == restOf S h).length := by
    unfold restsOf; rw [List.countP_map, List.countP_eq_length_filter]; rfl
  have hHn : ((headsOf S).filter fun h' => restOf S h' == restOf S h).Nodup := (heads_nodup S).sublist List.filter_sublist
  rw [hc, ← mul_len]
  have hLn : (mulL ((headsOf S).filter fun h' => restOf S h' == restOf S h) (restOf S h)).Nodup := by
    refine mul_nodup hHn (rest_nodup hS h) fun x hx x' hx' t ht t' ht' e => ?_
    have h1 := ((mem_alike hS).mp hx).2
    have h2 := ((mem_alike hS).mp hx').2
    exact same_free h1 h2 ((h1 t).mpr (mem_rest.mp ht)) e
  have hLs : ∀ s ∈ mulL ((headsOf S).filter fun h' => restOf S h' == restOf S h) (restOf S h), s ∈ S := fun s hs => by
    obtain ⟨x, hx, t, ht, rfl⟩ := mem_mul.mp hs
    exact (((mem_alike hS).mp hx).2 t).mpr (mem_rest.mp ht)
  constructor
  · intro e s hs
    have := subset_of_len hLn hLs e s hs
    obtain ⟨x, hx, t, ht, rfl⟩ := mem_mul.mp this
    exact ⟨x, List.prefix_append _ _, ((mem_alike hS).mp hx).2⟩
  · intro hC
    refine len_of_same hLn hS fun s => ⟨hLs s, fun hs => ?_⟩
    obtain ⟨h', ⟨t, rfl⟩, e⟩ := hC s hs
    exact mem_mul.mpr ⟨h', (mem_alike hS).mpr ⟨⟨t, hs⟩, e⟩, t, mem_rest.mpr ((e t).mp hs), rfl⟩

/-- a part: a list of words none of which begins another one, that is no product of two -/
structure Part (Y : List Wd) : Prop where
  pc : PC Y
  ne : Y ≠ []
  nd : Y.Nodup
  srt : Y.Pairwise (· ≤ ·)
  pos : ∀ y ∈ Y, y ≠ []
  irr : (∃ y ∈ Y, y.length = 1) ∨ ((∀ y ∈ Y, y.length = 2) ∧ ¬ ∀ f l l' f', [f, l'] ∈ Y → [f', l] ∈ Y → [f, l] ∈ Y)

theorem prod_ok : ∀ {Ys : List (List Wd)}, (∀ Y ∈ Ys, Part Y) → PC (prodL Ys) ∧ (prodL Ys).Nodup ∧ prodL Ys ≠ []
  | [], _ => ⟨fun x hx y hy _ => by simp [prodL] at hx hy; rw [hx, hy], by simp [prodL], by simp [prodL]⟩
  | Y :: Ys, h => by
    obtain ⟨h1, h2, h3⟩ := prod_ok fun Z hZ => h Z (List.mem_cons_of_mem _ hZ)
    have P := h Y List.mem_cons_self
    refine ⟨mul_pc P.pc h1, mul_nodup P.nd h2 fun x hx x' hx' t ht t' ht' e => ?_, ?_⟩
    · have p1 : x <+: x ++ t := List.prefix_append _ _
      have p2 : x' <+: x ++ t := by rw [e]; exact List.prefix_append _ _
      rcases List.prefix_or_prefix_of_prefix p1 p2 with q | q
      · exact P.pc x hx x' hx' q
      · exact (P.pc x' hx' x hx q).symm
    · obtain ⟨y, Y', rfl⟩ := List.exists_cons_of_ne_nil P.ne
      obtain ⟨t, T', hT⟩ := List.exists_cons_of_ne_nil h3
      show mulL (y :: Y') (prodL Ys) ≠ []
      rw [hT]; simp [mulL]

section
variable {Y T : List Wd} {y0 t0 : Wd}
theorem er_mul (hY : PC Y) {y y' u u' : Wd} (hy : y ∈ Y) (hy' : y' ∈ Y) : ER (mulL Y T) (y ++ u) (y' ++ u') ↔ ER T u u' := by
  unfold ER
  constructor
  · intro h t
    have := h t
    rwa [List.append_assoc, List.append_assoc, mul_cancel hY hy, mul_cancel hY hy'] at this
  · intro h t
    rw [List.append_assoc, List.append_assoc, mul_cancel hY hy, mul_cancel hY hy']
    exact h t
/-- behind a whole word of Y: a cut of the rest -/
theorem cut_behind (hY : PC Y) (hy : y0 ∈ Y) {u v : Wd} (hu : u ++ v ∈ T) : CutP (mulL Y T) (y0 ++ u) ↔ CutP T u := by
  constructor
  · intro h t ht
    obtain ⟨h', hp, e⟩ := h (y0 ++ t) (mem_mul.mpr ⟨y0, hy, t, ht, rfl⟩)
    rcases List.prefix_or_prefix_of_prefix hp (List.prefix_append y0 t) with ⟨v', hv'⟩ | ⟨w, hw⟩
    · by_cases hz : v' = []
      · subst hz
        rw [List.append_nil] at hv'
        subst hv'
        refine ⟨[], List.nil_prefix, ?_⟩
        have := (er_mul hY hy hy (u := []) (u' := u)).mp (by simpa using e)
        exact this
      · exfalso
        have e' : ER (mulL Y T) h' (h' ++ (v' ++ u)) := by rw [← List.append_assoc, hv']; exact e
        refine no_loop (t := v' ++ (u ++ v)) (by simp [hz]) e' ?_
        rw [← List.append_assoc, hv']
        exact (mul_cancel hY hy).mpr hu
    · subst hw
      exact ⟨w, (List.prefix_append_right_inj y0).mp hp, (er_mul hY hy hy).mp e⟩
  · intro h s hs
    obtain ⟨y, hy', t, ht, rfl⟩ := mem_mul.mp hs
    obtain ⟨h', hp, e⟩ := h t ht
    exact ⟨y ++ h', (List.prefix_append_right_inj y).mpr hp, (er_mul hY hy' hy).mpr e⟩
/-- within a word of Y: no cut -/
theorem no_cut_within (P : Part Y) (ht0 : t0 ∈ T) (hy : y0 ∈ Y) {u v : Wd} (huv : y0 = u ++ v) (hu : u ≠ []) (hv : v ≠ []) (h : CutP (mulL Y T) u) : False := by
  have hY := P.pc
  have key : ∀ y ∈ Y, ∃ h' v', y = h' ++ v' ∧ v' ≠ [] ∧ ER (mulL Y T) h' u := by
    intro y hy'
    obtain ⟨h', hp, e⟩ := h (y ++ t0) (mem_mul.mpr ⟨y, hy', t0, ht0, rfl⟩)
    have bad : ∀ w, h' = y ++ w → False := by
      rintro w rfl
      have e2 : ER (mulL Y T) (y0 ++ []) (y ++ (w ++ v)) := by
        rw [List.append_nil, huv, ← List.append_assoc]
        exact (e.app v).symm
      have e3 := (er_mul hY hy hy').mp e2
      exact no_loop (h := []) (v := w ++ v) (t := t0) (by simp [hv]) (by simpa using e3) (by simpa using ht0)
    rcases List.prefix_or_prefix_of_prefix hp (List.prefix_append y t0) with ⟨v', hv'⟩ | ⟨w, hw⟩
    · refine ⟨h', v', hv'.symm, fun hz => bad [] ?_, e⟩
      subst hz; simpa using hv'
    · exact (bad w hw.symm).elim
  have noNil : ∀ h', ER (mulL Y T) h' u → h' ≠ [] := by
    rintro h' e rfl
    refine no_loop (h := []) (v := u) (t := y0 ++ t0) hu (by simpa using e) ?_
    simpa using mem_mul.mpr ⟨y0, hy, t0, ht0, rfl⟩
  rcases P.irr with ⟨y, hy', hl⟩ | ⟨hl, hr⟩
  · obtain ⟨h', v', rfl, hv', e⟩ := key y hy'
    have h1 := noNil h' e
    have h2 := List.length_pos_iff.mpr h1
    have h3 := List.length_pos_iff.mpr hv'
    rw [List.length_append] at hl
    lia
  · apply hr
    intro f l l' f' h1 h2
    have first : ∀ a b, [a, b] ∈ Y → ER (mulL Y T) [a] u := by
      intro a b hab
      obtain ⟨h', v', e1, hv', e⟩ := key _ hab
      have h1 := List.length_pos_iff.mpr (noNil h' e)
      have h3 := List.length_pos_iff.mpr hv'
      have hlen := congrArg List.length e1
      simp only [List.length_append, List.length_cons, List.length_nil] at hlen
      match h', v', e1 with
      | [c], [d], e1 => simp at e1; rw [e1.1]; exact e
      | [], _, _ => simp at h1
      | c :: d :: r, v', _ => simp only [List.length_cons] at hlen; lia
      | [c], [], _ => simp at h3
      | [c], d :: d' :: r, _ => simp only [List.length_cons] at hlen; lia
    have e1 := (first f l' h1).trans (first f' l h2).symm
    have e2 := e1.app [l]
    have m : [f, l] ++ t0 ∈ mulL Y T := by
      have := (e2 t0).mpr (by simpa using mem_mul.mpr ⟨[f', l], h2, t0, ht0, rfl⟩)
      simpa using this
    obtain ⟨y, hy', t, ht, e⟩ := mem_mul.mp m
    have hl2 := hl y hy'
    have := List.append_inj e (by simp [hl2])
    rw [this.1]; exact hy'
theorem cut_zero {S : List Wd} : CutP S [] := fun s _ => ⟨[], List.nil_prefix, fun t => Iff.rfl⟩
end
end Mine

open PySem
namespace Mine

theorem head_get {s : Wd} {S : List Wd} {k : Nat} (hk : k ≤ s.length) : (headsOf (s :: S)).getD k [] = s.take k := by
  rw [List.getD_eq_getElem?_getD, heads_at hk]; rfl
theorem hd_take {s : Wd} {S : List Wd} (k : Nat) : Hd (s :: S) (s.take k) := ⟨s.drop k, by rw [List.take_append_drop]; exact List.mem_cons_self⟩
theorem cut_at {s : Wd} {S : List Wd} (hS : (s :: S).Nodup) {k : Nat} (hk : k ≤ s.length) :
    ((restsOf (s :: S)).countP (· == restAt (s :: S) k) * (restAt (s :: S) k).length == (s :: S).length) = true ↔ CutP (s :: S) (s.take k) := by
  rw [beq_iff_eq, rests_at (heads_at hk)]
  exact cut_iff hS (hd_take k)
noncomputable def goRaw (S : List Wd) (km : Nat × Nat) : List Wd := ((alikeOf S km.2).filter fun x => ((headsOf S).getD km.1 []).isPrefixOf x).map fun x => x.drop km.1
theorem mem_go {s : Wd} {S : List Wd} (hS : (s :: S).Nodup) {k m : Nat} (hk : k ≤ s.length) (hm : m ≤ s.length) {z : Wd} :
    z ∈ goRaw (s :: S) (k, m) ↔ Hd (s :: S) (s.take k ++ z) ∧ ER (s :: S) (s.take k ++ z) (s.take m) := by
  unfold goRaw alikeOf
  have htl : (s.take k).length = k := by rw [List.length_take]; lia
  rw [head_get hk, rests_at (heads_at hm), List.mem_map]
  constructor
  · rintro ⟨x, hx, rfl⟩
    obtain ⟨h1, h2⟩ := List.mem_filter.mp hx
    obtain ⟨u, rfl⟩ := List.isPrefixOf_iff_prefix.mp h2
    have := (mem_alike hS).mp h1
    have e : (s.take k ++ u).drop k = u := by rw [List.drop_append_of_le_length (by lia)]; simp [htl]
    rw [e]; exact this
  · intro h
    refine ⟨s.take k ++ z, List.mem_filter.mpr ⟨(mem_alike hS).mpr h, List.isPrefixOf_iff_prefix.mpr (List.prefix_append _ _)⟩, ?_⟩
    rw [List.drop_append_of_le_length (by lia)]; simp [htl]
theorem go_nodup {s : Wd} {S : List Wd} {k m : Nat} (hk : k ≤ s.length) : (goRaw (s :: S) (k, m)).Nodup := by
  unfold goRaw
  have htl : (s.take k).length = k := by rw [List.length_take]; lia
  rw [head_get hk, List.nodup_iff_pairwise_ne, List.pairwise_map]
  have h1 : ((alikeOf (s :: S) m).filter fun x => (s.take k).isPrefixOf x).Nodup := ((heads_nodup _).sublist List.filter_sublist).sublist List.filter_sublist
  refine List.Pairwise.imp_of_mem ?_ (List.nodup_iff_pairwise_ne.mp h1)
  intro a b ha hb hne e
  obtain ⟨u, rfl⟩ := List.isPrefixOf_iff_prefix.mp (List.mem_filter.mp ha).2
  obtain ⟨v, rfl⟩ := List.isPrefixOf_iff_prefix.mp (List.mem_filter.mp hb).2
  simp only at e
  rw [List.drop_append_of_le_length (by lia), List.drop_append_of_le_length (by lia)] at e
  exact hne (by rw [List.append_cancel_left e])
theorem sortW_id {Y : List Wd} (h : Y.Pairwise (· ≤ ·)) : sortW Y = Y := (eq_sortW (.refl _) h).symm
theorem bool_ext {a b : Bool} (h : a = true ↔ b = true) : a = b := Bool.eq_iff_iff.mpr h

section
variable {y0 t0 : Wd} {Y' T' : List Wd}
theorem mul_cons : mulL (y0 :: Y') (t0 :: T') = (y0 ++ t0) :: (T'.map (y0 ++ ·) ++ mulL Y' (t0 :: T')) := by
  unfold mulL; rw [List.flatMap_cons, List.map_cons]; rfl
theorem cuts_step (P : Part (y0 :: Y')) (hTn : (t0 :: T').Nodup) (hSn : (mulL (y0 :: Y') (t0 :: T')).Nodup) :
    cutsOf (mulL (y0 :: Y') (t0 :: T')) = 0 :: (cutsOf (t0 :: T')).map (y0.length + ·) := by
  have hy0 : 0 < y0.length := List.length_pos_iff.mpr (P.pos y0 List.mem_cons_self)
  have hcut : ∀ k, k ≤ (y0 ++ t0).length → (((restsOf (mulL (y0 :: Y') (t0 :: T'))).countP (· == restAt (mulL (y0 :: Y') (t0 :: T')) k) * (restAt (mulL (y0 :: Y') (t0 :: T')) k).length == (mulL (y0 :: Y') (t0 :: T')).length) = true ↔ CutP (mulL (y0 :: Y') (t0 :: T')) ((y0 ++ t0).take k)) := by
    intro k hk
    rw [mul_cons] at hSn ⊢
    exact cut_at hSn hk
  have hhead : (mulL (y0 :: Y') (t0 :: T')).headD [] = y0 ++ t0 := by rw [mul_cons]; rfl
  have e0 : cutsOf (mulL (y0 :: Y') (t0 :: T')) = (List.range ((y0 ++ t0).length + 1)).filter fun k => (restsOf (mulL (y0 :: Y') (t0 :: T'))).countP (· == restAt (mulL (y0 :: Y') (t0 :: T')) k) * (restAt (mulL (y0 :: Y') (t0 :: T')) k).length == (mulL (y0 :: Y') (t0 :: T')).length := by
    unfold cutsOf; rw [hhead]
  rw [e0, List.length_append, Nat.add_assoc, List.range_add, List.filter_append, List.filter_map]
  rw [List.length_append] at hcut
  have e1 : (List.range y0.length).filter (fun k => (restsOf (mulL (y0 :: Y') (t0 :: T'))).countP (· == restAt (mulL (y0 :: Y') (t0 :: T')) k) * (restAt (mulL (y0 :: Y') (t0 :: T')) k).length == (mulL (y0 :: Y') (t0 :: T')).length) = [0] := by
    obtain ⟨n, hn⟩ : ∃ n, y0.length = n + 1 := ⟨y0.length - 1, by lia⟩
    rw [hn, List.range_succ_eq_map, List.filter_cons, if_pos ((hcut 0 (by lia)).mpr (by simpa using cut_zero))]
    congr 1
    rw [List.filter_eq_nil_iff]
    intro k hk
    obtain ⟨j, hj, rfl⟩ := List.mem_map.mp hk
    have hj' := List.mem_range.mp hj
    intro hc
    have h2 := (hcut (j + 1) (by lia)).mp hc
    rw [List.take_append_of_le_length (by lia)] at h2
    refine no_cut_within P (t0 := t0) List.mem_cons_self List.mem_cons_self (u := y0.take (j + 1)) (v := y0.drop (j + 1)) (List.take_append_drop _ _).symm ?_ ?_ h2
    · intro e; have := congrArg List.length e; rw [List.length_take, List.length_nil] at this; lia
    · intro e; have := congrArg List.length e; rw [List.length_drop, List.length_nil] at this; lia
  have e2 : (List.range (t0.length + 1)).filter ((fun k => (restsOf (mulL (y0 :: Y') (t0 :: T'))).countP (· == restAt (mulL (y0 :: Y') (t0 :: T')) k) * (restAt (mulL (y0 :: Y') (t0 :: T')) k).length == (mulL (y0 :: Y') (t0 :: T')).length) ∘ fun x => y0.length + x) = cutsOf (t0 :: T') := by
    unfold cutsOf
    rw [List.headD_cons]
    refine List.filter_congr fun k hk => bool_ext ?_
    have hk' := List.mem_range.mp hk
    rw [Function.comp_apply, hcut (y0.length + k) (by lia), cut_at hTn (by lia), List.take_length_add_append]
    exact cut_behind P.pc List.mem_cons_self (v := t0.drop k) (by rw [List.take_append_drop]; exact List.mem_cons_self)
  rw [e1, e2]; rfl
theorem go_step (P : Part (y0 :: Y')) (hTn : (t0 :: T').Nodup) (hSn : (mulL (y0 :: Y') (t0 :: T')).Nodup) {k m : Nat} (hk : k ≤ t0.length) (hm : m ≤ t0.length) :
    goOf (mulL (y0 :: Y') (t0 :: T')) (y0.length + k, y0.length + m) = goOf (t0 :: T') (k, m) := by
  show sortW (goRaw _ _) = sortW (goRaw _ _)
  have hk2 : y0.length + k ≤ (y0 ++ t0).length := by rw [List.length_append]; lia
  have hm2 : y0.length + m ≤ (y0 ++ t0).length := by rw [List.length_append]; lia
  refine sortW_same ?_ (go_nodup hk) fun z => ?_
  · rw [mul_cons]; exact go_nodup hk2
  · have h1 : z ∈ goRaw (mulL (y0 :: Y') (t0 :: T')) (y0.length + k, y0.length + m) ↔ Hd (mulL (y0 :: Y') (t0 :: T')) ((y0 ++ t0).take (y0.length + k) ++ z) ∧ ER (mulL (y0 :: Y') (t0 :: T')) ((y0 ++ t0).take (y0.length + k) ++ z) ((y0 ++ t0).take (y0.length + m)) := by
      rw [mul_cons] at hSn ⊢
      exact mem_go hSn hk2 hm2
    rw [h1, mem_go hTn hk hm, List.take_length_add_append, List.take_length_add_append, List.append_assoc, er_mul P.pc List.mem_cons_self List.mem_cons_self]
    constructor
    · rintro ⟨⟨t, ht⟩, h⟩
      rw [List.append_assoc, mul_cancel P.pc List.mem_cons_self] at ht
      exact ⟨⟨t, ht⟩, h⟩
    · rintro ⟨⟨t, ht⟩, h⟩
      exact ⟨⟨t, by rw [List.append_assoc, mul_cancel P.pc List.mem_cons_self]; exact ht⟩, h⟩
theorem go_first (P : Part (y0 :: Y')) (hTn : (t0 :: T').Nodup) (hSn : (mulL (y0 :: Y') (t0 :: T')).Nodup) :
    goOf (mulL (y0 :: Y') (t0 :: T')) (0, y0.length) = y0 :: Y' := by
  show sortW (goRaw _ _) = _
  have hm2 : y0.length ≤ (y0 ++ t0).length := by rw [List.length_append]; lia
  refine Eq.trans (sortW_same (S := y0 :: Y') ?_ P.nd fun z => ?_) (sortW_id P.srt)
  · rw [mul_cons]; exact go_nodup (Nat.zero_le _)
  · have h1 : z ∈ goRaw (mulL (y0 :: Y') (t0 :: T')) (0, y0.length) ↔ Hd (mulL (y0 :: Y') (t0 :: T')) z ∧ ER (mulL (y0 :: Y') (t0 :: T')) z y0 := by
      have := mem_go (s := y0 ++ t0) (S := T'.map (y0 ++ ·) ++ mulL Y' (t0 :: T')) (by rw [← mul_cons]; exact hSn) (k := 0) (m := y0.length) (Nat.zero_le _) hm2 (z := z)
      rw [← mul_cons, List.take_zero, List.nil_append, List.take_left' rfl] at this
      exact this
    rw [h1]
    have hY := P.pc
    have et : ∀ y ∈ y0 :: Y', ER (mulL (y0 :: Y') (t0 :: T')) y y0 := fun y hy => by
      have := (er_mul (T := t0 :: T') hY hy List.mem_cons_self (u := []) (u' := [])).mpr (fun t => Iff.rfl)
      simpa using this
    constructor
    · rintro ⟨⟨t, ht⟩, e⟩
      obtain ⟨y, hy, t', ht', e'⟩ := mem_mul.mp ht
      have h3 : z <+: y ++ t' := by rw [← e']; exact List.prefix_append _ _
      have : z = y := same_free (t := t) (t' := t') e (et y hy) ht e'
      rw [this]; exact hy
    · intro hz
      exact ⟨⟨t0, mem_mul.mpr ⟨z, hz, t0, List.mem_cons_self, rfl⟩⟩, et z hz⟩
end
theorem zip_map2 (f : Nat → Nat) (l : List Nat) : (l.map f).zip ((l.map f).drop 1) = (l.zip (l.drop 1)).map fun km => (f km.1, f km.2) := by
  rw [← List.map_drop, List.zip_map]; rfl
theorem cuts_head {s : Wd} {S : List Wd} (hS : (s :: S).Nodup) : ∃ r, cutsOf (s :: S) = 0 :: r := by
  unfold cutsOf
  rw [List.headD_cons, List.range_succ_eq_map, List.filter_cons, if_pos ((cut_at hS (Nat.zero_le _)).mpr (by simpa using cut_zero))]
  exact ⟨_, rfl⟩
theorem back_parts : ∀ {Ys : List (List Wd)}, (∀ Y ∈ Ys, Part Y) → backOf (prodL Ys) = Ys
  | [], _ => by decide
  | Y :: Ys, h => by
    have hT := prod_ok fun Z hZ => h Z (List.mem_cons_of_mem _ hZ)
    have hS := prod_ok h
    have ih := back_parts fun Z hZ => h Z (List.mem_cons_of_mem _ hZ)
    have P := h Y List.mem_cons_self
    have hSn := hS.2.1
    rw [prodL] at hSn ⊢
    obtain ⟨y0, Y', rfl⟩ := List.exists_cons_of_ne_nil P.ne
    obtain ⟨t0, T', hTe⟩ := List.exists_cons_of_ne_nil hT.2.2
    have hTn := hT.2.1
    rw [hTe] at ih hTn hSn ⊢
    unfold backOf
    rw [cuts_step P hTn hSn]
    obtain ⟨r, hr⟩ := cuts_head hTn
    have e1 : (0 :: (cutsOf (t0 :: T')).map (y0.length + ·)).zip ((0 :: (cutsOf (t0 :: T')).map (y0.length + ·)).drop 1) = (0, y0.length) :: ((cutsOf (t0 :: T')).map (y0.length + ·)).zip (((cutsOf (t0 :: T')).map (y0.length + ·)).drop 1) := by
      rw [hr]; simp
    rw [e1, zip_map2, List.map_cons, go_first P hTn hSn, List.map_map]
    congr 1
    rw [← ih]
    unfold backOf
    refine List.map_congr_left fun km hkm => ?_
    obtain ⟨k, m⟩ := km
    have h1 := cuts_le (List.of_mem_zip hkm).1
    have h2 := cuts_le (List.mem_of_mem_drop (List.of_mem_zip hkm).2)
    exact go_step P hTn hSn h1 h2
end Mine

open PySem
namespace Mine

theorem mul_one (X : List Wd) : mulL X [[]] = X := by
  unfold mulL
  induction X with
  | nil => rfl
  | cons x X ih => rw [List.flatMap_cons, ih]; simp
theorem mul_assoc (X Y Z : List Wd) : mulL (mulL X Y) Z = mulL X (mulL Y Z) := by
  unfold mulL
  rw [List.flatMap_assoc]
  congr 1; funext x
  rw [List.flatMap_map, List.map_flatMap]
  congr 1; funext y
  rw [List.map_map]
  congr 1; funext z
  simp
theorem one_mul (X : List Wd) : mulL [[]] X = X := by simp [mulL]
theorem prod_app : ∀ (As Bs : List (List Wd)), prodL (As ++ Bs) = mulL (prodL As) (prodL Bs)
  | [], Bs => by rw [List.nil_append, prodL, one_mul]
  | A :: As, Bs => by rw [List.cons_append, prodL, prodL, prod_app As Bs, mul_assoc]
theorem kept_due (k : Int) : kept (dr k) = dueW k := by
  unfold kept dueW
  refine List.filter_congr fun x hx => ?_
  have hx2 := W12_ok x (dr_mem hx)
  have hlen : x.length = 1 ∨ x.length = 2 := by lia
  rcases hlen with hl | hl
  · have h1 : ((dr k).any fun o => o != x && o.isPrefixOf x) = false := by
      rw [List.any_eq_false]
      intro o ho hc
      simp only [Bool.and_eq_true, bne_iff_ne] at hc
      have ho2 := W12_ok o (dr_mem ho)
      have hp := List.isPrefixOf_iff_prefix.mp hc.2
      have hle := hp.length_le
      exact hc.1 (hp.eq_of_length (by lia))
    rw [h1, hl]; simp
  · have h1 : ((dr k).any fun o => o != x && o.isPrefixOf x) = (dr k).contains (x.take 1) := by
      rw [Bool.eq_iff_iff, List.any_eq_true, List.contains_iff_mem]
      constructor
      · rintro ⟨o, ho, hc⟩
        simp only [Bool.and_eq_true, bne_iff_ne] at hc
        have ho2 := W12_ok o (dr_mem ho)
        have hp := List.isPrefixOf_iff_prefix.mp hc.2
        have hle := hp.length_le
        have hol : o.length = 1 := by
          have : o.length ≠ 2 := fun e => hc.1 (hp.eq_of_length (by lia))
          lia
        have := List.prefix_iff_eq_take.mp hp
        rw [hol] at this
        rw [← this]; exact ho
      · intro hm
        refine ⟨_, hm, ?_⟩
        simp only [Bool.and_eq_true, bne_iff_ne]
        refine ⟨fun e => ?_, List.isPrefixOf_iff_prefix.mpr (List.take_prefix _ _)⟩
        have := congrArg List.length e
        rw [List.length_take] at this; lia
    rw [h1, hl]; simp

theorem rawDr_nodup (k : Int) : (rawDr k [1, 12, 144]).Nodup := by
  have gen : ∀ (l : List Int) (acc : List Wd), acc.Nodup → (l.foldl (fun ws p => stepW ws (wAt (dg k p))) acc).Nodup := by
    intro l
    induction l with
    | nil => intro acc h; exact h
    | cons a l ih =>
      intro acc h
      rw [List.foldl_cons]
      apply ih
      unfold stepW
      split
      · exact h
      · rename_i hc
        have hc' : wAt (dg k a) ∉ acc := by simpa using hc
        rw [List.nodup_append]
        refine ⟨h, by simp, fun x hx y hy e => ?_⟩
        rw [List.mem_singleton] at hy
        subst hy; subst e; exact hc' hx
  exact gen _ _ List.nodup_nil
theorem dueW_nodup (k : Int) : (dueW k).Nodup := ((sortW_perm _).symm.nodup (rawDr_nodup k)).sublist List.filter_sublist
theorem dueW_sorted (k : Int) : (dueW k).Pairwise (· ≤ ·) := (sortW_rises _).sublist List.filter_sublist
theorem dueW_pc (k : Int) : PC (dueW k) := by
  intro x hx y hy hp
  rw [← kept_due] at hx hy
  obtain ⟨h1, h2⟩ := List.mem_filter.mp hy
  apply Classical.byContradiction
  intro hne
  simp only [Bool.not_eq_true', List.any_eq_false] at h2
  apply h2 x (kept_mem hx)
  simp only [Bool.and_eq_true, bne_iff_ne]
  exact ⟨hne, List.isPrefixOf_iff_prefix.mpr hp⟩
noncomputable def pick (a b c : Bool) : List Wd := (if a then [[97]] else []) ++ ((if b then [[98]] else []) ++ (if c then [[99]] else []))
theorem pick_eq (p : Nat → Bool) : (([97, 98, 99] : List Nat).filter p).map (fun c => [c]) = pick (p 97) (p 98) (p 99) := by
  unfold pick
  simp only [List.filter_cons, List.filter_nil]
  cases p 97 <;> cases p 98 <;> cases p 99 <;> rfl
theorem pick_sorted : ∀ a b c d e f : Bool, sortW (mulL (pick a b c) (pick d e f)) = mulL (pick a b c) (pick d e f) ∧ sortW (pick a b c) = pick a b c := by decide
theorem single_part {F : List Wd} (hl : ∀ x ∈ F, x.length = 1) (hn : F ≠ []) (hd : F.Nodup) (hs : F.Pairwise (· ≤ ·)) : Part F where
  pc := fun x hx y hy hp => hp.eq_of_length (by rw [hl x hx, hl y hy])
  ne := hn
  nd := hd
  srt := hs
  pos := fun y hy e => by have := hl y hy; rw [e] at this; cases this
  irr := by obtain ⟨y, r, rfl⟩ := List.exists_cons_of_ne_nil hn; exact .inl ⟨y, List.mem_cons_self, hl y List.mem_cons_self⟩
theorem mem_firsts {W : List Wd} (hW : ∀ x ∈ W, x ∈ W12) {y : Wd} : y ∈ firsts W ↔ ∃ x ∈ W, y = x.take 1 := by
  unfold firsts
  rw [List.mem_map]
  constructor
  · rintro ⟨c, hc, rfl⟩
    have := (List.mem_filter.mp hc).2
    simp only [Bool.not_eq_true', List.isEmpty_eq_false_iff] at this
    obtain ⟨x, r, hx⟩ := List.exists_cons_of_ne_nil this
    have hm : x ∈ W.filter fun x => x.take 1 == [c] := by rw [hx]; exact List.mem_cons_self
    obtain ⟨h1, h2⟩ := List.mem_filter.mp hm
    exact ⟨x, h1, (beq_iff_eq.mp h2).symm⟩
  · rintro ⟨x, hx, rfl⟩
    obtain ⟨c, _, h1, h2⟩ := take1 (hW x hx)
    refine ⟨c, List.mem_filter.mpr ⟨by simp; lia, ?_⟩, h1.symm⟩
    simp only [Bool.not_eq_true', List.isEmpty_eq_false_iff]
    intro e
    have : x ∈ W.filter fun x => x.take 1 == [c] := List.mem_filter.mpr ⟨hx, by rw [h1]; simp⟩
    rw [e] at this; cases this
theorem mem_lasts {W : List Wd} (hW : ∀ x ∈ W, x ∈ W12) (h2 : ∀ x ∈ W, x.length = 2) {y : Wd} : y ∈ lasts W ↔ ∃ x ∈ W, y = x.drop 1 := by
  unfold lasts
  rw [List.mem_map]
  constructor
  · rintro ⟨c, hc, rfl⟩
    have := (List.mem_filter.mp hc).2
    simp only [Bool.not_eq_true', List.isEmpty_eq_false_iff] at this
    obtain ⟨x, r, hx⟩ := List.exists_cons_of_ne_nil this
    have hm : x ∈ W.filter fun x => x.drop 1 == [c] := by rw [hx]; exact List.mem_cons_self
    obtain ⟨h1, h2⟩ := List.mem_filter.mp hm
    exact ⟨x, h1, (beq_iff_eq.mp h2).symm⟩
  · rintro ⟨x, hx, rfl⟩
    have hl := h2 x hx
    have ha := (W12_ok x (hW x hx)).1
    match x, hl with
    | [a, c], _ =>
      have hc := ha c (by simp)
      refine ⟨c, List.mem_filter.mpr ⟨by simp; lia, ?_⟩, rfl⟩
      simp only [Bool.not_eq_true', List.isEmpty_eq_false_iff]
      intro e
      have : [a, c] ∈ W.filter fun x => x.drop 1 == [c] := List.mem_filter.mpr ⟨hx, by simp⟩
      rw [e] at this; cases this
theorem firsts_pick (W : List Wd) : ∃ a b c, firsts W = pick a b c := ⟨_, _, _, pick_eq _⟩
theorem lasts_pick (W : List Wd) : ∃ a b c, lasts W = pick a b c := ⟨_, _, _, pick_eq _⟩
theorem pick_nodup : ∀ a b c : Bool, (pick a b c).Nodup ∧ (pick a b c).all (fun x => x.length == 1) = true := by decide
end Mine

open PySem
namespace Mine

theorem split2 {x : Wd} (h : x.length = 2) : x.take 1 ++ x.drop 1 = x := List.take_append_drop 1 x
/-- W within the product of its firsts and its lasts -/
theorem within {W : List Wd} (hW : ∀ x ∈ W, x ∈ W12) (h2 : ∀ x ∈ W, x.length = 2) : ∀ x ∈ W, x ∈ mulL (firsts W) (lasts W) := fun x hx =>
  mem_mul.mpr ⟨x.take 1, (mem_firsts hW).mpr ⟨x, hx, rfl⟩, x.drop 1, (mem_lasts hW h2).mpr ⟨x, hx, rfl⟩, (split2 (h2 x hx)).symm⟩
theorem one_of_pick {a b c : Bool} {x : Wd} (h : x ∈ pick a b c) : x.length = 1 := beq_iff_eq.mp (List.all_eq_true.mp (pick_nodup a b c).2 x h)
theorem FL_nodup (W : List Wd) : (mulL (firsts W) (lasts W)).Nodup := by
  obtain ⟨a, b, c, e⟩ := firsts_pick W
  obtain ⟨d, f, g, e'⟩ := lasts_pick W
  rw [e, e']
  refine mul_nodup (pick_nodup _ _ _).1 (pick_nodup _ _ _).1 fun x hx x' hx' t ht t' ht' he => ?_
  exact (List.append_inj he (by rw [one_of_pick hx, one_of_pick hx'])).1
theorem cut_prod {W : List Wd} (hW : ∀ x ∈ W, x ∈ W12) (hn : W.Nodup) (hs : W.Pairwise (· ≤ ·)) (h : cutW W = true) : mulL (firsts W) (lasts W) = W := by
  unfold cutW at h
  rw [Bool.and_eq_true] at h
  have h2 : ∀ x ∈ W, x.length = 2 := fun x hx => beq_iff_eq.mp (List.all_eq_true.mp h.1 x hx)
  have hl : W.length = (mulL (firsts W) (lasts W)).length := by rw [mul_len]; exact (beq_iff_eq.mp h.2).symm
  have hsub := within hW h2
  have hsup := subset_of_len hn hsub hl
  have e1 := sortW_same (FL_nodup W) hn fun x => ⟨hsup x, hsub x⟩
  rw [sortW_id hs] at e1
  refine Eq.trans ?_ e1
  obtain ⟨a, b, c, e⟩ := firsts_pick W
  obtain ⟨d, f, g, e'⟩ := lasts_pick W
  rw [e, e']
  exact (pick_sorted a b c d f g).1.symm
theorem pick_part {a b c : Bool} (h : pick a b c ≠ []) : Part (pick a b c) :=
  single_part (fun x hx => one_of_pick hx) h (pick_nodup a b c).1 (by rw [← (pick_sorted a b c a b c).2]; exact sortW_rises _)
theorem parts_ok {W : List Wd} (hW : ∀ x ∈ W, x ∈ W12) (hne : W ≠ []) (hn : W.Nodup) (hs : W.Pairwise (· ≤ ·)) (hpc : PC W) : (∀ Y ∈ partsW W, Part Y) ∧ prodL (partsW W) = W := by
  unfold partsW
  split
  · rename_i hc
    have hp := cut_prod hW hn hs hc
    have hF : firsts W ≠ [] := fun e => by rw [e] at hp; exact hne (by rw [← hp]; rfl)
    have hL : lasts W ≠ [] := fun e => by
      rw [e] at hp; apply hne; rw [← hp]; unfold mulL
      clear hp
      induction firsts W with
      | nil => rfl
      | cons x X ih => rw [List.flatMap_cons, ih]; rfl
    refine ⟨fun Y hY => ?_, by rw [prodL, prodL, prodL, mul_one, hp]⟩
    obtain ⟨a, b, c, e⟩ := firsts_pick W
    obtain ⟨d, f, g, e'⟩ := lasts_pick W
    rcases List.mem_cons.mp hY with rfl | hY
    · rw [e] at hF ⊢; exact pick_part hF
    · rw [List.mem_singleton.mp hY]; rw [e'] at hL ⊢; exact pick_part hL
  · rename_i hc
    refine ⟨fun Y hY => ?_, by rw [prodL, prodL, mul_one]⟩
    rw [List.mem_singleton.mp hY]
    refine ⟨hpc, hne, hn, hs, fun y hy e => ?_, ?_⟩
    · have := (W12_ok y (hW y hy)).2.2; rw [e] at this; simp at this
    · by_cases h1 : ∃ y ∈ W, y.length = 1
      · exact .inl h1
      · have h2 : ∀ y ∈ W, y.length = 2 := fun y hy => by
          have h3 := (W12_ok y (hW y hy)).2
          have h4 : y.length ≠ 1 := fun e => h1 ⟨y, hy, e⟩
          lia
        refine .inr ⟨h2, fun hr => hc ?_⟩
        unfold cutW
        rw [Bool.and_eq_true]
        refine ⟨List.all_eq_true.mpr fun x hx => by rw [h2 x hx]; rfl, ?_⟩
        rw [beq_iff_eq, ← mul_len]
        refine len_of_same (FL_nodup W) hn fun x => ⟨fun hx => ?_, within hW h2 x⟩
        obtain ⟨f, hf, l, hl, rfl⟩ := mem_mul.mp hx
        obtain ⟨x1, hx1, rfl⟩ := (mem_firsts hW).mp hf
        obtain ⟨x2, hx2, rfl⟩ := (mem_lasts hW h2).mp hl
        have l1 := h2 x1 hx1
        have l2 := h2 x2 hx2
        match x1, l1, x2, l2 with
        | [a, b], _, [c, d], _ => exact hr a d b c hx1 hx2
theorem due_step {S : List Wd} {st : Nat × List (List Wd)} (k : Int) (h : S = prodL st.2 ∧ S.length = st.1 ∧ ∀ Y ∈ st.2, Part Y) :
    sent1 S k = prodL (due1 st k).2 ∧ (sent1 S k).length = (due1 st k).1 ∧ ∀ Y ∈ (due1 st k).2, Part Y := by
  obtain ⟨h1, h2, h3⟩ := h
  unfold sent1 due1
  by_cases hk : k < 256
  · rw [if_pos hk, if_neg (by lia)]
    refine ⟨?_, by rw [List.length_map]; exact h2, fun Y hY => ?_⟩
    · rw [prod_app, ← h1, prodL, prodL, mul_one]
      unfold mulL
      clear h1 h2
      induction S with
      | nil => rfl
      | cons s S ih => rw [List.map_cons, List.flatMap_cons, ih]; rfl
    · rcases List.mem_append.mp hY with q | q
      · exact h3 Y q
      · rw [List.mem_singleton.mp q]
        exact single_part (fun x hx => by rw [List.mem_singleton.mp hx]; rfl) (by simp) (by simp) (by simp)
  · rw [if_neg hk, if_pos (by lia), kept_due, h2]
    split
    · rename_i hl
      have hp := parts_ok (fun x hx => dueW_sub hx) (dueW_ne k) (dueW_nodup k) (dueW_sorted k) (dueW_pc k)
      refine ⟨?_, ?_, fun Y hY => ?_⟩
      · rw [prod_app, ← h1, hp.2]; rfl
      · rw [flat_len, h2]
      · rcases List.mem_append.mp hY with q | q
        · exact h3 Y q
        · exact hp.1 Y q
    · exact ⟨h1, h2, h3⟩
theorem due_fold : ∀ (ks : List Int) {S : List Wd} {st : Nat × List (List Wd)}, (S = prodL st.2 ∧ S.length = st.1 ∧ ∀ Y ∈ st.2, Part Y) →
    (ks.foldl sent1 S = prodL (ks.foldl due1 st).2 ∧ (ks.foldl sent1 S).length = (ks.foldl due1 st).1 ∧ ∀ Y ∈ (ks.foldl due1 st).2, Part Y)
  | [], S, st, h => h
  | k :: ks, S, st, h => due_fold ks (due_step k h)
theorem due_rows : ∀ (rows : List (List Int)) {S : List Wd} {st : Nat × List (List Wd)}, (S = prodL st.2 ∧ S.length = st.1 ∧ ∀ Y ∈ st.2, Part Y) →
    (rows.foldl (fun S row => (upTo0 row).foldl sent1 S) S = prodL (rows.foldl (fun st row => (upTo0 row).foldl due1 st) st).2 ∧ ∀ Y ∈ (rows.foldl (fun st row => (upTo0 row).foldl due1 st) st).2, Part Y)
  | [], S, st, h => ⟨h.1, h.2.2⟩
  | r :: rows, S, st, h => due_rows rows (due_fold (upTo0 r) h)
/-- the plain law -/
theorem plain_law (rows : List (List Int)) : backOf (sents rows) = (dues rows).2 := by
  have := due_rows rows (S := [[]]) (st := (1, [])) ⟨rfl, rfl, fun Y hY => by cases hY⟩
  unfold sents dues
  rw [this.1]
  exact back_parts this.2
theorem sents_ne (rows : List (List Int)) : sents rows ≠ [] := by
  have := due_rows rows (S := [[]]) (st := (1, [])) ⟨rfl, rfl, fun Y hY => by cases hY⟩
  unfold sents
  rw [this.1]
  exact (prod_ok this.2).2.2
end Mine

open PySem PySem.W PyProof.Rows PySem.Calls
namespace Mine

variable {prog : Program} {w : World} {K : Frag} {n : Nat} {A : Around} {E : Value → Shared → Prop} {s : Shared}

/-- a small set of strs, with what its walk asks for -/
structure SetObj (prog : Program) (w : World) (o : Obj) (es : Array (Int × Value)) (ep : Nat) (t : SetTable) : Prop where
  ex : o.ExactSet
  dat : o.data = .set es ep t
  els : ElemsOf (strKind prog w) es.toList
  fit : t.fits es.size = true
  led : t.led = !w.params.followText "set-order"
  plain : es.size = 0 ∨ t.plain = false
noncomputable def SetW (prog : Program) (w : World) (h : Heap) (a : Addr) (ks : List Str) (n : Nat) : Prop :=
  ∃ o es ep t, h.get? a = some o ∧ SetObj prog w o es ep t ∧ es.size ≤ n ∧ ∀ k, k ∈ ks ↔ ∃ e ∈ es.toList, (strKind prog w).is k e.2 = true

theorem orStand_led (t : SetTable) (n : Nat) : (t.orStandIn n).led = t.led ∧ (t.plain = false → (t.orStandIn n).plain = false) := by
  unfold SetTable.orStandIn
  split
  · exact ⟨rfl, fun q => q⟩
  · exact ⟨rfl, fun _ => rfl⟩
theorem layNew_led (t : SetTable) (es : Array (Int × Value)) (h : Int) (x : Value) : (layNew t es h x).2.1.led = t.led ∧ (t.plain = false → (layNew t es h x).2.1.plain = false) := by
  unfold layNew
  split
  · rename_i slot wd _
    have := orStand_led (t.put slot).1 (SetTable.insertAt es (t.put slot).2 (h, x)).size
    exact ⟨this.1.trans rfl, fun q => this.2 q⟩
  · exact ⟨rfl, fun _ => rfl⟩
theorem relayAll_led (t : SetTable) (es : Array (Int × Value)) (k : Nat) : (relayAll t es k).2.1.led = t.led ∧ (t.plain = false → (relayAll t es k).2.1.plain = false) := by
  unfold relayAll
  split
  · rename_i t' order he
    have : t'.led = t.led ∧ t'.plain = t.plain := by
      unfold SetTable.relaid SetTable.laid at he
      cases hl : SetTable.layClean (SetTable.sizeAbove k - 1) (es.map (·.1)) with
      | none => rw [hl] at he; cases he
      | some owner => rw [hl] at he; cases he; exact ⟨rfl, rfl⟩
    dsimp only
    split
    · exact ⟨this.1, fun h => this.2.trans h⟩
    · exact ⟨rfl, fun _ => rfl⟩
  · exact ⟨rfl, fun _ => rfl⟩
theorem str_scan (x : Str) (t : Tok) : (Value.str x t).scannable = true := rfl
theorem SetW.setOf {h : Heap} {a : Addr} {ks : List Str} {n : Nat} (hS : SetW prog w h a ks n) (hn : n < scanBound) : ∃ m, m ≤ n ∧ h.SetOf (strKind prog w) a (fun k => decide (k ∈ ks)) m := by
  obtain ⟨o, es, ep, t, ho, O, hz, hm⟩ := hS
  exact ⟨es.size, hz, o, es, ep, t, ho, O.ex, O.dat, O.els, fun k => by rw [decide_eq_true_eq]; exact hm k, Nat.lt_of_le_of_lt hz hn, O.fit, rfl⟩
theorem SetW.put {h : Heap} {a : Addr} {o : Obj} {es es' : Array (Int × Value)} {ep : Nat} {t t' : SetTable} (ho : h.get? a = some o) (O : SetObj prog w o es ep t) (h1 : ElemsOf (strKind prog w) es'.toList) (h2 : t'.fits es'.size = true)
    (h3 : t'.led = t.led) (h4 : t'.plain = false) : ∃ o', (h.update a (Obj.putSet es' t')).get? a = some o' ∧ SetObj prog w o' es' (ep + 1) t' := by
  have hg : (h.update a (Obj.putSet es' t')).get? a = some { o with data := .set es' (ep + 1) t' } := by
    have := Heap.get?_update_self (Obj.putSet es' t') ho (by rw [putSet_of es' t' O.dat]; rfl)
    rw [putSet_of es' t' O.dat] at this; exact this
  exact ⟨_, hg, O.ex, rfl, h1, h2, h3.trans O.led, .inr h4⟩
theorem gaveWay_ok {b : Bool} {Q : Unit → Shared → Prop} (h : Q () s) : wpAny (model prog w) A (match b with | true => rule "set.scan.the-table-gave-way" | false => pure ()) Q E s := by
  cases b
  · exact wpAny_pure h
  · exact wpAny_rule h
theorem set_add {a : Addr} {ks : List Str} {n : Nat} {x : Str} {t : Tok} {Q : Bool → Shared → Prop} (hS : SetW prog w s.heap a ks n) (hn : n + 1 < scanBound)
    (h : ∀ b h', Heap.SameBut a s.heap h' → SetW prog w h' a (x :: ks) (n + 1) → Q b { s with heap := h' }) : wpAny (model prog w) A (setAddHashed a (.str x t) ((strKind prog w).hash x)) Q E s := by
  obtain ⟨o, es, ep, tb, ho, O, hz, hm⟩ := hS
  have hkey := strKind_is prog w x t
  have hb : es.size < scanBound := by lia
  unfold setAddHashed setAddHashedIn
  refine wpAny_holding (wpAny_bind (wpAny_setState_of ho O.dat O.fit ?_))
  dsimp only
  rw [byScan_of (str_scan x t) hb O.els]
  simp only [↓reduceIte]
  unfold setAddByScan
  refine wpAny_bind ?_
  refine wpAny_bind (wpAny_rule ?_)
  refine wpAny_bind (wpAny_setScan_of hkey ho O.dat O.fit O.els ?_)
  cases hr : List.findIdx? (fun e => (strKind prog w).is x e.2) es.toList with
  | some j =>
    dsimp only
    obtain ⟨hj, hpj, _⟩ := List.findIdx?_eq_some_iff_getElem.mp hr
    have hx : x ∈ ks := (hm x).mpr ⟨_, List.getElem_mem hj, hpj⟩
    refine wpAny_pure (wpAny_pure ?_)
    refine h false s.heap (Heap.SameBut.refl a s.heap) ⟨o, es, ep, tb, ho, O, by lia, fun k => ?_⟩
    rw [← hm k, List.mem_cons]
    exact ⟨fun q => q.elim (fun e => e ▸ hx) id, .inr⟩
  | none =>
    dsimp only
    have hperm := layNew_perm tb es ((strKind prog w).hash x) (.str x t)
    have hfits := layNew_fits tb es ((strKind prog w).hash x) (.str x t)
    have hled := layNew_led tb es ((strKind prog w).hash x) (.str x t)
    generalize hL : layNew tb es ((strKind prog w).hash x) (.str x t) = L at hperm hfits hled ⊢
    obtain ⟨es1, t1, wasDummy, gave⟩ := L
    dsimp only at hperm hfits hled ⊢
    rw [Array.toList_push] at hperm
    have hel1 : ElemsOf (strKind prog w) es1.toList := (O.els.push hkey (str_scan x t)).perm hperm
    have hmem1 : ∀ k, k ∈ x :: ks ↔ ∃ e ∈ es1.toList, (strKind prog w).is k e.2 = true := fun k => by
      have := mem_push_iff hkey (S := fun k => decide (k ∈ ks)) (fun k' => by rw [decide_eq_true_eq]; exact hm k') hperm k
      rw [← this, Bool.or_eq_true, decide_eq_true_eq, decide_eq_true_eq, List.mem_cons]
      exact ⟨Or.symm, Or.symm⟩
    have hsz1 : es1.size = es.size + 1 := by rw [← Array.length_toList, hperm.length_eq, List.length_append, Array.length_toList]; rfl
    have fin : ∀ (t2 : SetTable), t2.fits es1.size = true → t2.led = tb.led → t2.plain = false → wpAny (model prog w) A (do
        storeSet a es1 t2
        if (!wasDummy && t2.tooFull) = true then do
            (match (relayAll t2 es1 (SetTable.grown es1.size)).2.2 with | true => rule "set.scan.the-table-gave-way" | false => pure ())
            storeSet a (relayAll t2 es1 (SetTable.grown es1.size)).1 (relayAll t2 es1 (SetTable.grown es1.size)).2.1
            pure (some true)
          else pure (some true)) (fun r s' => ∃ b h', r = some b ∧ s' = { s with heap := h' } ∧ Heap.SameBut a s.heap h' ∧ SetW prog w h' a (x :: ks) (n + 1)) E s := by
      intro t2 h2 h3 h4
      refine wpAny_bind (wpAny_storeSet_of ho O.dat ?_ (fits_of_scanBound (by lia)))
      obtain ⟨o1, ho1, O1⟩ := SetW.put ho O hel1 h2 h3 h4
      have hsb1 := Heap.SameBut.update s.heap a (Obj.putSet es1 t2)
      split
      · have hp := relayAll_perm t2 es1 (SetTable.grown es1.size)
        have hfr := relayAll_fits t2 es1 (SetTable.grown es1.size)
        have hlr := relayAll_led t2 es1 (SetTable.grown es1.size)
        generalize relayAll t2 es1 (SetTable.grown es1.size) = Rl at hp hfr hlr ⊢
        obtain ⟨es2, t3, gave2⟩ := Rl
        dsimp only at hp hfr hlr ⊢
        have hsz : es2.size = es1.size := by rw [← Array.length_toList, hp.length_eq, Array.length_toList]
        refine wpAny_bind (gaveWay_ok ?_)
        refine wpAny_bind (wpAny_storeSet_of ho1 O1.dat ?_ (fits_of_scanBound (by lia)))
        obtain ⟨o2, ho2, O2⟩ := SetW.put ho1 O1 (hel1.perm hp) hfr hlr.1 (hlr.2 h4)
        refine wpAny_pure ⟨true, _, rfl, rfl, hsb1.trans (Heap.SameBut.update _ a _), o2, es2, _, t3, ho2, O2, by lia, fun k => ?_⟩
        rw [hmem1 k]
        exact ⟨fun ⟨e, he, q⟩ => ⟨e, hp.mem_iff.mpr he, q⟩, fun ⟨e, he, q⟩ => ⟨e, hp.mem_iff.mp he, q⟩⟩
      · exact wpAny_pure ⟨true, _, rfl, rfl, hsb1, o1, es1, _, t2, ho1, O1, by lia, hmem1⟩
    refine wpAny_bind (gaveWay_ok ?_)
    have post : ∀ {r : Option Bool} {s' : Shared}, (∃ b h', r = some b ∧ s' = { s with heap := h' } ∧ Heap.SameBut a s.heap h' ∧ SetW prog w h' a (x :: ks) (n + 1)) →
        wpAny (model prog w) A (match r with | some added => pure added | none => setAddHashedIn a (.str x t) ((strKind prog w).hash x) 99999) Q E s' := by
      rintro r s' ⟨b, h', rfl, rfl, q1, q2⟩
      exact wpAny_pure (h b h' q1 q2)
    split
    · rw [hashByValue_scannable 8 (str_scan x t)]
      refine wpAny_bind (wpAny_pure ?_)
      simp only [plainKind, Bool.false_eq_true, ↓reduceIte]
      exact wpAny_mono (fin { t1 with plain := false } (SetTable.fits_plain_off hfits) hled.1 rfl) (fun r s' q => post q) fun _ _ q => q
    · rename_i hpl
      refine wpAny_bind (wpAny_pure ?_)
      simp only [↓reduceIte]
      exact wpAny_mono (fin t1 hfits hled.1 (by simpa using hpl)) (fun r s' q => post q) fun _ _ q => q
end Mine

open PySem PySem.W PyProof.Rows PySem.Calls
namespace Mine

variable {prog : Program} {w : World} {K : Frag} {n : Nat} {A : Around} {E : Value → Shared → Prop} {s : Shared}

noncomputable def newSetObj (w : World) : Obj := { cls := .type "set", dict := none, data := .set #[] 0 (.fresh 0 0 (!w.params.followText "set-order")) }
theorem newSet_W {h : Heap} {a : Addr} (e : h.get? a = some (newSetObj w)) : SetW prog w h a [] 0 :=
  ⟨_, #[], 0, _, e, ⟨⟨rfl, rfl, rfl⟩, rfl, fun e he => (by simp at he), rfl, rfl, .inl rfl⟩, Nat.le_refl _, fun k => ⟨fun h => (by cases h), fun ⟨e, he, _⟩ => (by simp at he)⟩⟩
theorem set_new {rest : List Value} {Q₁ : Value → Shared → Prop} (hr : checkBuiltinCall "set.__new__" ⟨.type "set" :: rest, []⟩ = pure ())
    (h : Q₁ (.ref s.heap.objs.size) { s with heap := s.heap.push (newSetObj w) }) :
    codeAny (model prog w) A (.call (.builtin "set.__new__") ⟨.type "set" :: rest, []⟩) (wants Q₁ E) s := by
  refine codeAny_of_tree ?_
  show wpAny _ A.in1 (do checkBuiltinCall "set.__new__" ⟨.type "set" :: rest, []⟩; again (.builtin "set.__new__" ⟨.type "set" :: rest, []⟩)) _ _ s
  refine wpAny_bind (wpAny_of_eq hr (wpAny_pure ⟨plainId_quiet F.plain_set_new _, codeAny_builtin F.entry_set_new ?_⟩))
  rw [Around.under_plainId F.plain_set_new _]
  unfold Builtin.«set.__new__» Builtin.Frozenset.newClass
  have hsub := sub_set_self
  obtain ⟨hp, g, d, tk, os⟩ := s
  dsimp only
  wp_walk
  refine wpAny_askSetting (wpAny_pure ?_)
  dsimp only
  simp only [newObj]
  refine wpAny_bind (wpAny_alloc (wpAny_pure ?_))
  exact wpAny_pure h

set_option maxHeartbeats 4000000 in
set_option maxRecDepth 100000 in
/-- set(..): the object is made, then its __init__ fills it -/
theorem set_call {rest : List Value} {Q : Value → Shared → Prop} (hct : checkTypeCall "set" ⟨rest, []⟩ = pure ()) (hr : checkBuiltinCall "set.__new__" ⟨.type "set" :: rest, []⟩ = pure ())
    (h : codeAny (model prog w) A.in1 (.call (.builtin "set.__init__") ⟨.ref s.heap.objs.size :: rest, []⟩) (wants (fun r s₂ => r = .none ∧ Q (.ref s.heap.objs.size) s₂) E) { s with heap := s.heap.push (newSetObj w) }) :
    wpAny (model prog w) A (call (.type "set") rest) Q E s := by
  obtain ⟨c, tl, hmro⟩ := F.called_set.mro
  have hmade := F.called_set.made
  have hsub := F.called_set.sub
  refine wpAny_call (codeAny_of_tree ?_)
  show wpAny _ _ (callAny (.type "set") _) _ _ _
  refine wpAny_pure ⟨Code.quiet_builtin _ (by kernel_rfl), codeAny_builtin F.entry_type_call ?_⟩
  rw [Around.under_plain (weight_type_call_type "set" rest []) rfl]
  have h1 := F.called_set.notType
  have h2 := F.called_set.canCreate
  repeat (any_goals (first | assumption | wp_step))
  refine codeAny_mono (set_new (E := E) (Q₁ := fun obj s₁ => obj = .ref s.heap.objs.size ∧ s₁ = { s with heap := s.heap.push (newSetObj w) }) hr ⟨rfl, rfl⟩) fun r s₁ q => ?_
  match r with
  | .error e => exact q
  | .ok .next => exact q.elim
  | .ok .brk => exact q.elim
  | .ok .cont => exact q.elim
  | .ok (.ret obj) =>
    obtain ⟨rfl, rfl⟩ := q
    have hS : (s.heap.push (newSetObj w)).get? s.heap.objs.size = some (newSetObj w) := Heap.get?_push_size _ rfl
    have hT : Shared.TypeIs { s with heap := s.heap.push (newSetObj w) } (.ref s.heap.objs.size) "set" := ⟨_, hS, rfl⟩
    have hli := F.called_set.init.lookup
    have hbi := F.called_set.init.bind (.ref s.heap.objs.size)
    repeat (any_goals (first | assumption | wp_step))
    refine codeAny_mono h fun r₂ s₂ q₂ => ?_
    match r₂ with
    | .error e => exact q₂
    | .ok .next => exact q₂.elim
    | .ok .brk => exact q₂.elim
    | .ok .cont => exact q₂.elim
    | .ok (.ret r) =>
      obtain ⟨rfl, hq⟩ := q₂
      repeat (any_goals (first | assumption | wp_step))
set_option maxHeartbeats 4000000 in
set_option maxRecDepth 100000 in
theorem set_empty {Q : Value → Shared → Prop} (h : Q (.ref s.heap.objs.size) { s with heap := s.heap.push (newSetObj w) }) : wpAny (model prog w) A (call (.type "set") []) Q E s := by
  have hS : (s.heap.push (newSetObj w)).get? s.heap.objs.size = some (newSetObj w) := Heap.get?_push_size _ rfl
  have hT : Shared.TypeIs { s with heap := s.heap.push (newSetObj w) } (.ref s.heap.objs.size) "set" := ⟨_, hS, rfl⟩
  refine set_call F.typeCall_set_0 F.newCall_set_0 (codeAny_call_builtin F.called_set.init.plain F.entry_set_init (check_set_init hT ?_))
  unfold Builtin.«set.__init__» noKeywords
  wp_walk
  exact ⟨rfl, h⟩
theorem SetW.at {h h' : Heap} {a : Addr} {ks : List Str} {n : Nat} (x : SetW prog w h a ks n) (e : ∀ o, h.get? a = some o → h'.get? a = some o) : SetW prog w h' a ks n :=
  let ⟨o, es, ep, t, ho, r⟩ := x; ⟨o, es, ep, t, e o ho, r⟩
theorem set_loop {R : Result → Shared → Prop} {I : Addr} {fp wr : List Addr} {G : Array GenState → Array GenState → Prop} {n : Nat} {P : Nat → Value → Prop} {St : Nat → Shared → Prop} (W : WalksS prog w A.in1 I fp wr G n P St) (S : Addr) (hSf : S ∉ fp)
    (ks : List Str) (hlen : ks.length = n) (hval : ∀ i v, P i v → ∃ x t, ks[i]? = some x ∧ v = .str x t) (hb : n + 1 < scanBound) :
    ∀ (k i : Nat) (s : Shared), n - i = k → i ≤ n → St i s → SetW prog w s.heap S (ks.take i).reverse i →
      (∀ s', Moved (S :: wr) G s s' → SetW prog w s'.heap S ks.reverse n → R (.ok (.ret .none)) s') →
      codeAny (model prog w) A (.builtin "set.update.loop" ⟨[.ref S, .ref I], []⟩) R s := by
  have hSw : S ∉ wr := fun h => hSf (W.sub _ h)
  have hsub : ∀ b ∈ wr, b ∈ S :: wr := fun b hb => List.mem_cons_of_mem _ hb
  intro k
  induction k with
  | zero =>
    intro i s hk hi hst hS hR
    obtain rfl : i = n := by lia
    refine codeAny_builtin PyProof.Rows.F.entry_set_update_loop ?_
    rw [Around.under_plainId PyProof.Rows.F.plain_set_update_loop _]
    show wpAny _ A.in1 (pyNext (.ref I) >>= _) _ _ s
    refine wpAny_bind (W.done s _ _ hst fun s' hm => ?_)
    show wpAny _ A.in1 (ret Value.none) _ _ s'
    refine wpAny_pure (hR s' (hm.mono hsub) ?_)
    rw [List.take_of_length_le (by lia)] at hS
    exact hS.at fun o e => hm.heap S o hSw e
  | succ k ih =>
    intro i s hk hi hst hS hR
    have hlt : i < n := by lia
    refine codeAny_builtin PyProof.Rows.F.entry_set_update_loop ?_
    rw [Around.under_plainId PyProof.Rows.F.plain_set_update_loop _]
    show wpAny _ A.in1 (pyNext (.ref I) >>= _) _ _ s
    refine wpAny_bind (W.item i s _ _ hlt hst fun v s' hP hst' hm => ?_)
    obtain ⟨x, t, hx, rfl⟩ := hval i v hP
    have hS' := hS.at fun o e => hm.heap S o hSw e
    show wpAny _ A.in1 (holding [Value.str x t] (setAdd S (.str x t)) >>= _) _ _ s'
    refine wpAny_bind (wpAny_holding ?_)
    unfold setAdd
    refine wpAny_holding ?_
    refine wpAny_bind ((strKind prog w).pyHash (k := x) (strKind_is _ _ _ _) ?_)
    refine set_add (s := { s' with toks := s'.toks + 1 }) hS' (by lia) fun b h' hsb hS2 => ?_
    have hSi : SetW prog w h' S (ks.take (i + 1)).reverse (i + 1) := by
      rw [List.take_add_one, hx, List.reverse_append]; exact hS2
    refine wpAny_pure ⟨plainId_quiet PyProof.Rows.F.plain_set_update_loop _, ih (i + 1) _ (by lia) hlt (W.frame _ s' _ _ hst' (Nat.le_succ _) fun b hb o e => ?_) hSi fun s'' hm'' hS'' => ?_⟩
    · rw [hsb.2 b (fun h : b = S => hSf (by rw [← h]; exact hb))]; exact e
    · refine hR s'' (Moved.trans W.gtrans ((hm.mono hsub).then_heap (Nat.le_succ _) fun b o hb e => ?_) hm'') hS''
      rw [hsb.2 b (fun h : b = S => hb (by rw [h]; exact List.mem_cons_self))]; exact e
set_option maxHeartbeats 4000000 in
set_option maxRecDepth 100000 in
/-- set(l), l a list of strs -/
theorem set_list {l : Addr} {items : Array Value} {ks : List Str} {Q : Value → Shared → Prop}
    (hh : A.handled = none) (hl : s.heap.IsList l items) (hi : ∀ (i : Nat) (v : Value), items[i]? = some v → ∃ x t, ks[i]? = some x ∧ v = .str x t) (hlen : ks.length = items.size) (hb : items.size + 1 < scanBound)
    (h : ∀ (h' : Heap) (tk : Nat), SetW prog w h' s.heap.objs.size ks.reverse items.size → (∀ b o, b < s.heap.objs.size → s.heap.get? b = some o → h'.get? b = some o) → Q (.ref s.heap.objs.size) { s with heap := h', toks := tk }) :
    wpAny (model prog w) A (call (.type "set") [.ref l]) Q E s := by
  have hS : (s.heap.push (newSetObj w)).get? s.heap.objs.size = some (newSetObj w) := Heap.get?_push_size _ rfl
  have hT : Shared.TypeIs { s with heap := s.heap.push (newSetObj w) } (.ref s.heap.objs.size) "set" := ⟨_, hS, rfl⟩
  refine set_call (F.typeCall_set_1 _) (F.newCall_set_1 _) (codeAny_call_builtin F.called_set.init.plain F.entry_set_init (check_set_init_1 hT ?_))
  obtain ⟨⟨cls, dd, data, sl⟩, hol, hcl, nl, hdl⟩ := id hl
  simp only at hcl hdl
  subst hcl hdl
  have hol' : (s.heap.push (newSetObj w)).get? l = some { cls := .type "list", dict := dd, data := .seq items nl, slots := sl } := Heap.get?_push_of_some _ hol
  have hsls := F.sub_list_set
  have hslf := F.sub_list_frozenset
  have hl1 : (s.heap.push (newSetObj w)).IsList l items := ⟨_, hol', rfl, nl, rfl⟩
  have hlS : l < s.heap.objs.size := Heap.lt_size hol
  unfold Builtin.«set.__init__» noKeywords Builtin.Frozenset.updateFrom
  generalize hPI : pyIter = PI
  wp_walk
  subst hPI
  refine wpAny_pyIter_list hl1 ?_
  refine wpAny_bind (wpAny_runValue ?_)
  have hh3 : A.in1.in1.in1.handled = none := by simp [hh]
  have hsz : (s.heap.push (newSetObj w)).objs.size = s.heap.objs.size + 1 := Heap.size_push _ _
  have hneI : l ≠ (s.heap.push (newSetObj w)).objs.size := by rw [hsz]; exact Nat.ne_of_lt (Nat.lt_succ_of_lt hlS)
  refine set_loop ((Walks.list hh3 _ l hneI items).toS) s.heap.objs.size (by rw [hsz]; simp only [List.mem_cons, List.not_mem_nil, or_false, not_or]; exact ⟨Nat.ne_of_lt (Nat.lt_succ_self _), Nat.ne_of_gt hlS⟩) ks hlen hi hb (items.size - 0) 0 _ rfl (Nat.zero_le _)
    ⟨⟨_, Heap.get?_push_size _ rfl, rfl, rfl⟩, hl1.push _⟩ (newSet_W (Heap.get?_push_of_some _ hS)) fun s' hm hS' => ?_
  obtain ⟨h', g', d', tk', os'⟩ := s'
  obtain rfl : g' = s.gens := hm.gens
  obtain rfl : d' = s.drawn := hm.drawn
  obtain rfl : os' = s.os := hm.os
  show wpAny _ _ _ _ _ _
  refine wpAny_pure ?_
  show wpAny _ _ (ret Value.none) _ _ _
  refine wpAny_pure ⟨rfl, h h' tk' hS' fun b o hb e => ?_⟩
  exact hm.heap b o (by rw [hsz]; simp only [List.mem_cons, List.not_mem_nil, or_false, not_or]; exact ⟨Nat.ne_of_lt hb, Nat.ne_of_lt (Nat.lt_succ_of_lt hb)⟩) (Heap.get?_push_of_some _ (Heap.get?_push_of_some _ e))
end Mine

open PySem PySem.W PyProof.Rows PySem.Calls
namespace Mine

variable {prog : Program} {w : World} {K : Frag} {n : Nat} {A : Around} {E : Value → Shared → Prop} {s : Shared}

theorem name_setIter : String.map (fun c => if (c.isAlphanum || c == '_' || c == '.') = true then c else '_') "set.__iter__" = "set.__iter__" := by kernel_rfl
theorem canon_setIter : Manifest.canonical "set.__iter__" = "frozenset.__iter__" := by rw [PySem.W.Fast.canonicalY_eq]; kernel_rfl
theorem entry_setIter : entryFor table "set.__iter__" = some Builtin.«frozenset.__iter__» :=
  entryFor_alias (id' := "frozenset.__iter__") (by kernel_rfl) rfl (by rw [name_setIter, canon_setIter]; rfl) (by kernel_rfl)
theorem slot_setNext : Slot "set_iterator" "__next__" "set_iterator.__next__" :=
  .of (owner := "set_iterator") (n := "__next__") (by rw [typeLookup_type, builtinLookup_eq_fast]; kernel_rfl) (by kernel_rfl) (by kernel_rfl) (by kernel_rfl)
    (by first | exact .inl (by kernel_rfl) | exact .inr (by kernel_rfl)) (by rw [isSubtype_type]; kernel_rfl)
theorem entry_setNext : entryFor table "set_iterator.__next__" = some Builtin.«set_iterator.__next__» := entryFor_of_tree (by kernel_rfl)
theorem args_setNext (a : Value) : argsOk "set_iterator.__next__" ⟨[a], []⟩ := by unfold argsOk; kernel_rfl

theorem erase_perm {α : Type} : ∀ {l : List α} {i : Nat} (h : i < l.length), (l[i] :: l.eraseIdx i).Perm l
  | x :: l, 0, _ => .refl _
  | x :: l, i + 1, h => by
    have := erase_perm (l := l) (i := i) (by simpa using h)
    simp only [List.getElem_cons_succ, List.eraseIdx_cons_succ]
    exact (List.Perm.swap _ _ _).trans (this.cons x)
theorem draw_order {α : Type} {Q : List α → Shared → Prop} : ∀ (n : Nat) (xs : List α) (s : Shared), xs.length = n → (∀ l s', l.Perm xs → s'.heap = s.heap → s'.gens = s.gens → s'.os = s.os → s'.toks = s.toks → Q l s') → wpAny (model prog w) A (drawOrder n xs) Q E s
  | 0, xs, s, hn, h => by
    obtain rfl := List.eq_nil_of_length_eq_zero hn
    exact wpAny_pure (h [] s (.refl _) rfl rfl rfl rfl)
  | n + 1, [], s, hn, h => by simp at hn
  | n + 1, x :: xs, s, hn, h => by
    unfold drawOrder
    refine wpAny_bind ?_
    intro Γ p hΓ
    refine ⟨by simp, ?_⟩
    have hlt : (model prog w).w.draws .order (s.drawn.get .order) % (x :: xs).length < (x :: xs).length := Nat.mod_lt _ (by simp)
    generalize (model prog w).w.draws .order (s.drawn.get .order) % (x :: xs).length = i at hlt
    refine (?_ : wpAny (model prog w) A _ _ E { s with drawn := s.drawn.bump .order }) Γ p hΓ
    refine wpAny_pure ?_
    rw [List.getElem?_eq_getElem hlt]
    dsimp only
    refine wpAny_bind (draw_order n ((x :: xs).eraseIdx i) _ (by rw [List.length_eraseIdx_of_lt hlt]; simp at hn ⊢; lia) fun l s' hp h1 h2 h3 h4 => wpAny_pure (h _ s' ?_ h1 h2 h3 h4))
    exact (hp.cons _).trans (erase_perm hlt)
theorem pick_perm {α : Type} (next : Nat → Nat) : ∀ (fuel k : Nat) (left : List α) (out : Array α), left.length = fuel → (pickOrder.go next fuel k left out).toList.Perm (out.toList ++ left)
  | 0, k, left, out, h => by
    obtain rfl := List.eq_nil_of_length_eq_zero h
    rw [pickOrder.go, List.append_nil]
  | fuel + 1, k, left, out, h => by
    rw [pickOrder.go]
    have hlt : next k % left.length < left.length := Nat.mod_lt _ (by lia)
    rw [List.getElem?_eq_getElem hlt]
    dsimp only
    refine (pick_perm next fuel (k + 1) _ _ (by rw [List.length_eraseIdx_of_lt hlt]; lia)).trans ?_
    rw [Array.toList_push, List.append_assoc]
    exact List.Perm.append_left _ (erase_perm hlt)
theorem pickOrder_perm {α : Type} (next : Nat → Nat) (xs : Array α) : (pickOrder next xs).toList.Perm xs.toList := by
  have := pick_perm next xs.size 0 xs.toList #[] (by simp)
  simpa [pickOrder] using this

theorem range_getD (es : Array (Int × Value)) : (List.range es.size).map (fun j => (es.toList.getD j (0, .none)).2) = es.toList.map (·.2) := by
  apply List.ext_getElem
  · simp
  · intro i h1 h2
    simp at h1
    simp [h1]
theorem fits_tuple {l : List Value} (h : l.length ≤ 1000) : l.toArray.size ≤ sizeLine := by rw [List.size_toArray]; exact Nat.le_trans h (by decide)
noncomputable def itObj (first : Value) (i : Nat) (S : Addr) (n ep : Nat) : Obj := { cls := .type "set_iterator", data := .fields #[first, .int i 0, .ref S, .int n 0, .int ep 0] }
/-- the iterator I stands at the i-th of vs, the elements of the set at S in an order -/
noncomputable def ItAt (prog : Program) (w : World) (h : Heap) (I S : Addr) (es : Array (Int × Value)) (ep : Nat) (t : SetTable) (vs : List Value) (i : Nat) : Prop :=
  (∃ o, h.get? S = some o ∧ SetObj prog w o es ep t) ∧
  ((w.params.followText "set-order" = true ∧ vs = (pickOrder (w.params.setOrder S ep) es).toList.map (·.2) ∧ ∃ slot : Nat, h.get? I = some (itObj (.int slot 0) i S es.size ep)) ∨
   (w.params.followText "set-order" = false ∧ es.size ≤ 1 ∧ vs = es.toList.map (·.2) ∧ ∃ slot : Nat, SetTable.below t.place slot = i ∧ h.get? I = some (itObj (.int slot 0) i S es.size ep)) ∨
   (w.params.followText "set-order" = false ∧ 1 < es.size ∧ ∃ (T : Addr) (pl : List Nat), pl.Perm (List.range es.size) ∧ vs = pl.map (fun j => (es.toList.getD j (0, .none)).2) ∧ h.get? I = some (itObj (.ref T) i S es.size ep) ∧
      h.get? T = some { cls := .type "tuple", data := .seq (pl.map fun (j : Nat) => Value.int (j : Int) 0).toArray }))
theorem bySet {Q : Bool → Shared → Prop} (h : Q (w.params.followText "set-order") s) : wpAny (model prog w) A setsByText Q E s := wpAny_bind (wpAny_askSetting (wpAny_pure h))
theorem set_iter {S : Addr} {o : Obj} {es : Array (Int × Value)} {ep : Nat} {t : SetTable} {Q : Value → Shared → Prop} (ho : s.heap.get? S = some o) (O : SetObj prog w o es ep t) (hz : es.size ≤ 1000)
    (h : ∀ I vs s', vs.Perm (es.toList.map (·.2)) → s.heap.get? I = none → ItAt prog w s'.heap I S es ep t vs 0 → Ext s s' → Q (.ref I) s') : wpAny (model prog w) A (pyIter (.ref S)) Q E s := by
  have hT : s.TypeIs (.ref S) "set" := ⟨o, ho, O.ex.1⟩
  refine wpAny_pyIter_slot hT F.slot_set_iter (wpAny_call_entry F.slot_set_iter hT entry_setIter ?_ (F.args_set_iter_1 _))
  unfold Builtin.«frozenset.__iter__»
  refine wpAny_bind (m := Builtin.Frozenset.slot0 "__iter__" ⟨[.ref S], []⟩) (wpAny_of_eq (a := S) (by rfl) ?_)
  refine wpAny_bind (m := Builtin.Frozenset.sizeOf S) ?_
  unfold Builtin.Frozenset.sizeOf setEntries
  refine wpAny_bind (wpAny_bind (wpAny_setState_of ho O.dat O.fit (wpAny_pure (wpAny_pure ?_))))
  unfold setDrawn
  refine wpAny_bind (wpAny_bind (wpAny_setState_of ho O.dat O.fit ?_))
  refine wpAny_bind (bySet (wpAny_pure ?_))
  show wpAny _ _ (if (!w.params.followText "set-order" && (!t.plain && decide (es.size > 1))) = true then _ else _) _ _ _
  have tail : ∀ (first : Value) (vs : List Value) (s₁ : Shared), Ext s s₁ → vs.Perm (es.toList.map (·.2)) →
      (∀ h' : Heap, Keep s₁.heap h' → h'.get? s₁.heap.objs.size = some (itObj first 0 S es.size ep) → ItAt prog w h' s₁.heap.objs.size S es ep t vs 0) →
      wpAny (model prog w) A.in1 (do
        let e ← setEpoch S
        let v ← newFields "set_iterator" [first, rawInt 0, Value.ref S, rawInt es.size, rawInt e]
        ret v) (fun fin s' => ∃ v, fin = Fin.done (Flow.ret v) ∧ ∃ T' r, s'.TypeIs v T' ∧ typeLookup (Value.type T') (Str.ofString "__next__") = pure (some r) ∧ Q v s') E s₁ := by
    intro first vs s₁ e hp hI
    refine wpAny_bind (wpAny_setEpoch_of (e.keep _ _ ho) O.dat O.fit ?_)
    unfold newFields
    refine wpAny_bind (wpAny_newObj_type (wpAny_pure ⟨_, rfl, "set_iterator", _, ⟨_, Heap.get?_push_size _ rfl, rfl⟩, slot_setNext.lookup, ?_⟩))
    refine h _ vs _ hp ?_ (hI _ (Keep.push _ _) (Heap.get?_push_size _ rfl)) (e.trans ⟨Keep.push _ _, rfl, rfl⟩)
    cases q : s.heap.get? s₁.heap.objs.size with
    | none => rfl
    | some o' => have := e.keep _ _ q; rw [get?_size_none] at this; cases this
  split
  · rename_i hc
    simp only [Bool.and_eq_true, Bool.not_eq_true', decide_eq_true_eq] at hc
    refine wpAny_bind (draw_order es.size (List.range es.size) s (by simp) fun pl s' hp h1 h2 h3 h4 => ?_)
    unfold newTuple
    refine wpAny_bind (wpAny_newObj_type ?_ (by have hpl := hp.length_eq; rw [List.length_range] at hpl; exact fits_tuple (by rw [List.length_map]; lia)))
    have e1 : Ext s { s' with heap := s'.heap.push { cls := .type "tuple", data := .seq (pl.map fun (i : Nat) => rawInt (i : Int)).toArray } } := ⟨by rw [h1]; exact Keep.push _ _, h2, h3⟩
    refine tail _ (pl.map fun j => (es.toList.getD j (0, .none)).2) _ e1 ?_ fun h' hk hg => ?_
    · refine (hp.map _).trans ?_
      rw [range_getD]
    · refine ⟨⟨o, hk _ _ (e1.keep _ _ ho), O⟩, .inr (.inr ⟨hc.1, hc.2.2, s'.heap.objs.size, pl, hp, rfl, hg, hk _ _ (Heap.get?_push_size _ rfl)⟩)⟩
  · rename_i hc
    refine wpAny_bind (wpAny_pure ?_)
    cases hb : w.params.followText "set-order" with
    | true =>
      refine tail _ ((pickOrder (w.params.setOrder S ep) es).toList.map (·.2)) s (Ext.refl _) ((pickOrder_perm _ _).map _) fun h' hk hg => ?_
      exact ⟨⟨o, hk _ _ ho, O⟩, .inl ⟨hb, rfl, 0, hg⟩⟩
    | false =>
      have hsz : es.size ≤ 1 := by
        rw [hb] at hc
        simp only [Bool.not_false, Bool.true_and, Bool.and_eq_true, Bool.not_eq_true', decide_eq_true_eq] at hc
        rcases O.plain with q | q
        · lia
        · have : ¬ es.size > 1 := fun g => hc ⟨q, g⟩
          lia
      refine tail _ (es.toList.map (·.2)) s (Ext.refl _) (.refl _) fun h' hk hg => ?_
      refine ⟨⟨o, hk _ _ ho, O⟩, .inr (.inl ⟨hb, hsz, rfl, 0, ?_, hg⟩)⟩
      have hf := O.fit
      simp only [SetTable.fits, Bool.and_eq_true, beq_iff_eq] at hf
      unfold SetTable.below
      have : t.place.size = 0 ∨ t.place.size = 1 := by lia
      rcases this with q | q <;> rw [q] <;> simp [SetTable.below.go]
end Mine

open PySem PySem.W PyProof.Rows PySem.Calls
namespace Mine

variable {prog : Program} {w : World} {K : Frag} {n : Nat} {A : Around} {E : Value → Shared → Prop} {s : Shared}

theorem next_text {S : Addr} {o : Obj} {es : Array (Int × Value)} {ep : Nat} {t : SetTable} {slot i : Nat} {Q : Option (Value × Nat) → Shared → Prop} (ho : s.heap.get? S = some o) (O : SetObj prog w o es ep t) (hb : w.params.followText "set-order" = true)
    (h : Q (((pickOrder (w.params.setOrder S ep) es)[i]?).map fun e => (e.2, slot)) s) : wpAny (model prog w) A (setNext S slot i ep) Q E s := by
  unfold setNext
  refine wpAny_bind (wpAny_setState_of ho O.dat O.fit ?_)
  refine wpAny_bind (bySet ?_)
  rw [hb]
  simp only [↓reduceIte, bne_self_eq_false, Bool.false_eq_true]
  unfold setWalk
  refine wpAny_bind (wpAny_bind (wpAny_setState_of ho O.dat O.fit ?_))
  refine wpAny_bind (bySet ?_)
  rw [hb]
  simp only [↓reduceIte]
  refine wpAny_bind (wpAny_askSetting (wpAny_pure (wpAny_pure h)))
theorem next_slot {S : Addr} {o : Obj} {es : Array (Int × Value)} {ep : Nat} {t : SetTable} {slot i : Nat} {Q : Option (Value × Nat) → Shared → Prop} (ho : s.heap.get? S = some o) (O : SetObj prog w o es ep t) (hb : w.params.followText "set-order" = false) (hz : es.size ≤ 1)
    (h : Q (match es[SetTable.below t.place slot]?, t.place[SetTable.below t.place slot]? with | some (_, x), some j => some (x, j + 1) | _, _ => none) s) : wpAny (model prog w) A (setNext S slot i ep) Q E s := by
  unfold setNext
  refine wpAny_bind (wpAny_setState_of ho O.dat O.fit ?_)
  refine wpAny_bind (bySet ?_)
  rw [hb]
  simp only [Bool.false_eq_true, ↓reduceIte]
  show wpAny _ _ (if (!t.plain && decide (es.size > 1)) = true then _ else _) _ _ _
  rw [if_neg (by simp; lia)]
  have hled : t.led = true := by rw [O.led, hb]; rfl
  show wpAny _ _ ((if (!t.led && !es.isEmpty) = true then unsupported "set:maker-not-led" else pure ()) >>= fun _ => _) _ _ _
  rw [hled]
  exact wpAny_bind (wpAny_pure (wpAny_pure h))
theorem it_two {I S : Addr} {first first' : Value} {i m ep : Nat} {x : Value} (hI : s.heap.get? I = some (itObj first i S m ep)) {Q : PySem.Fin → Shared → Prop} 
    (h : ∀ h', Heap.SameBut I s.heap h' → h'.get? I = some (itObj first' (i + 1) S m ep) → Q (.done (.ret x)) { s with heap := h' }) :
    wpAny (model prog w) A (do setField (.ref I) 0 first'; setField (.ref I) 1 (rawInt ((i : Int) + 1)); ret x) Q E s := by
  refine wpAny_bind (wpAny_setField hI rfl (by simp) ?_)
  have h1 : (s.heap.update I (Obj.mapFields (·.setIfInBounds 0 first'))).get? I = some (itObj first' i S m ep) := Heap.get?_update_self _ hI rfl
  refine wpAny_bind (wpAny_setField (s := { s with heap := s.heap.update I (Obj.mapFields (·.setIfInBounds 0 first')) }) h1 rfl (by simp) ?_)
  have h2 : ((s.heap.update I (Obj.mapFields (·.setIfInBounds 0 first'))).update I (Obj.mapFields (·.setIfInBounds 1 (rawInt ((i : Int) + 1))))).get? I = some (itObj first' (i + 1) S m ep) := Heap.get?_update_self _ h1 rfl
  exact wpAny_pure (h _ ((Heap.SameBut.update ..).trans (Heap.SameBut.update ..)) h2)
theorem it_one {I S : Addr} {first : Value} {i m ep : Nat} {x : Value} (hI : s.heap.get? I = some (itObj first i S m ep)) {Q : PySem.Fin → Shared → Prop} 
    (h : ∀ h', Heap.SameBut I s.heap h' → h'.get? I = some (itObj first (i + 1) S m ep) → Q (.done (.ret x)) { s with heap := h' }) :
    wpAny (model prog w) A (do setField (.ref I) 1 (rawInt ((i : Int) + 1)); ret x) Q E s := by
  refine wpAny_bind (wpAny_setField hI rfl (by simp) ?_)
  have h1 : (s.heap.update I (Obj.mapFields (·.setIfInBounds 1 (rawInt ((i : Int) + 1))))).get? I = some (itObj first (i + 1) S m ep) := Heap.get?_update_self _ hI rfl
  exact wpAny_pure (h _ (Heap.SameBut.update ..) h1)
theorem below_succ {p : Array Nat} {j : Nat} (hz : p.size ≤ 1) (h : p[0]? = some j) : SetTable.below p (j + 1) = 1 := by
  have h1 : p.size = 1 := by
    rcases Nat.lt_or_ge 0 p.size with q | q
    · lia
    · rw [Array.getElem?_eq_none q] at h; cases h
  unfold SetTable.below
  rw [h1]
  simp [SetTable.below.go, Array.getD_eq_getD_getElem?, h]
theorem set_next {I S : Addr} {es : Array (Int × Value)} {ep : Nat} {t : SetTable} {vs : List Value} {i : Nat} {v : Value} {Q : Option Value → Shared → Prop} (hit : ItAt prog w s.heap I S es ep t vs i) (hv : vs[i]? = some v) (hIS : I ≠ S) (hT' : ∀ T o, s.heap.get? T = some o → o.cls = .type "tuple" → T ≠ I)
    (h : ∀ h', Heap.SameBut I s.heap h' → ItAt prog w h' I S es ep t vs (i + 1) → Q (some v) { s with heap := h' }) : wpAny (model prog w) A (pyNext (.ref I)) Q E s := by
  obtain ⟨⟨o, ho, O⟩, hm⟩ := hit
  have start : ∀ first, s.heap.get? I = some (itObj first i S es.size ep) → wpAny (model prog w) A.in1 (Builtin.«set_iterator.__next__» ⟨[.ref I], []⟩) (fun fin s' => ∃ r, fin = .done (.ret r) ∧ Q (some r) s') (fun _ _ => False) s → wpAny (model prog w) A (pyNext (.ref I)) Q E s := by
    intro first hI hw
    have hT : s.TypeIs (.ref I) "set_iterator" := ⟨_, hI, rfl⟩
    unfold pyNext
    refine wpAny_bind (wpAny_attempt (wpAny_callSpecial?_slot (name := Str.ofString "__next__") hT slot_setNext (wpAny_call_entry slot_setNext hT entry_setNext ?_ (args_setNext _))))
    refine wpAny_mono hw (fun fin s' q => ?_) fun _ _ q => q.elim
    obtain ⟨r, rfl, q⟩ := q
    exact ⟨_, rfl, wpAny_pure q⟩
  have kS : ∀ h', Heap.SameBut I s.heap h' → h'.get? S = some o := fun h' hs => by rw [hs.2 S hIS.symm]; exact ho
  rcases hm with ⟨hb, rfl, slot, hI⟩ | ⟨hb, hsz, rfl, slot, hbel, hI⟩ | ⟨hb, hsz, T, pl, hp, rfl, hI, hTt⟩
  · refine start _ hI ?_
    unfold Builtin.«set_iterator.__next__»
    refine wpAny_bind (m := slotArgs "__next__" 0 ⟨[.ref I], []⟩) (wpAny_of_eq (a := (.ref I, [])) (by rfl) ?_)
    refine wpAny_bind (wpAny_fieldsOf hI rfl ?_)
    show wpAny _ _ (setEntries S >>= _) _ _ _
    unfold setEntries
    refine wpAny_bind (wpAny_bind (wpAny_setState_of ho O.dat O.fit (wpAny_pure ?_)))
    rw [if_neg (by simp)]
    dsimp only
    refine wpAny_bind (next_text ho O hb ?_)
    rw [List.getElem?_map, Array.getElem?_toList] at hv
    obtain ⟨e, he, rfl⟩ := Option.map_eq_some_iff.mp hv
    simp only [Int.toNat_natCast, he, Option.map_some]
    exact it_two (first' := .int slot 0) hI fun h' hs hI' => ⟨_, rfl, h h' hs ⟨⟨o, kS h' hs, O⟩, .inl ⟨hb, rfl, slot, hI'⟩⟩⟩
  · refine start _ hI ?_
    unfold Builtin.«set_iterator.__next__»
    refine wpAny_bind (m := slotArgs "__next__" 0 ⟨[.ref I], []⟩) (wpAny_of_eq (a := (.ref I, [])) (by rfl) ?_)
    refine wpAny_bind (wpAny_fieldsOf hI rfl ?_)
    show wpAny _ _ (setEntries S >>= _) _ _ _
    unfold setEntries
    refine wpAny_bind (wpAny_bind (wpAny_setState_of ho O.dat O.fit (wpAny_pure ?_)))
    rw [if_neg (by simp)]
    dsimp only
    refine wpAny_bind (next_slot ho O hb hsz ?_)
    rw [List.getElem?_map, Array.getElem?_toList] at hv
    obtain ⟨e, he, rfl⟩ := Option.map_eq_some_iff.mp hv
    have hf := O.fit
    simp only [SetTable.fits, Bool.and_eq_true, beq_iff_eq] at hf
    have hi0 : i = 0 := by
      rcases Nat.lt_or_ge i es.size with q | q
      · lia
      · rw [Array.getElem?_eq_none q] at he; cases he
    subst hi0
    have hlt : 0 < t.place.size := by
      rw [hf.1]
      rcases Nat.lt_or_ge 0 es.size with q | q
      · exact q
      · rw [Array.getElem?_eq_none q] at he; cases he
    have hpj : t.place[0]? = some t.place[0] := Array.getElem?_eq_getElem hlt
    simp only [Int.toNat_natCast, hbel, he, hpj]
    exact it_two (first' := .int (t.place[0] + 1 : Nat) 0) hI fun h' hs hI' => ⟨_, rfl, h h' hs ⟨⟨o, kS h' hs, O⟩, .inr (.inl ⟨hb, hsz, rfl, _, below_succ (by lia) hpj, hI'⟩)⟩⟩
  · refine start _ hI ?_
    unfold Builtin.«set_iterator.__next__»
    refine wpAny_bind (m := slotArgs "__next__" 0 ⟨[.ref I], []⟩) (wpAny_of_eq (a := (.ref I, [])) (by rfl) ?_)
    refine wpAny_bind (wpAny_fieldsOf hI rfl ?_)
    show wpAny _ _ (setEntries S >>= _) _ _ _
    unfold setEntries
    refine wpAny_bind (wpAny_bind (wpAny_setState_of ho O.dat O.fit (wpAny_pure ?_)))
    rw [if_neg (by simp)]
    dsimp only
    refine wpAny_bind (m := seqItems? (.ref T)) ?_
    unfold seqItems?
    refine wpAny_bind (wpAny_load hTt (wpAny_pure ?_))
    dsimp only
    rw [List.getElem?_map] at hv
    obtain ⟨j, hj, rfl⟩ := Option.map_eq_some_iff.mp hv
    have hjl : j < es.size := List.mem_range.mp (hp.mem_iff.mp (List.mem_of_getElem? hj))
    have hat : ((pl.map fun (j : Nat) => Value.int (j : Int) 0).toArray)[((i : Int)).toNat]? = some (.int (j : Int) 0) := by
      rw [Int.toNat_natCast, List.getElem?_toArray, List.getElem?_map, hj]; rfl
    rw [hat]
    dsimp only
    have hx : es[j]? = some (es.toList.getD j (0, .none)) := by
      rw [List.getD_eq_getElem?_getD, Array.getElem?_toList, Array.getElem?_eq_getElem hjl]; rfl
    generalize hge : es.toList.getD j (0, .none) = e at hx h
    obtain ⟨hh, x⟩ := e
    refine wpAny_bind (m := setNextDrawn S (j : Int).toNat (ep : Int).toNat) ?_
    unfold setNextDrawn
    refine wpAny_bind (wpAny_setState_of ho O.dat O.fit ?_)
    simp only [Int.toNat_natCast, bne_self_eq_false, Bool.false_eq_true, ↓reduceIte]
    rw [hx]
    refine wpAny_pure ?_
    exact it_one hI fun h' hs hI' => ⟨_, rfl, h h' hs ⟨⟨o, kS h' hs, O⟩, .inr (.inr ⟨hb, hsz, T, pl, hp, rfl, hI', by rw [hs.2 T (hT' T _ hTt rfl)]; exact hTt⟩)⟩⟩
theorem set_next_end {I S : Addr} {es : Array (Int × Value)} {ep : Nat} {t : SetTable} {vs : List Value} {i : Nat} {Q : Option Value → Shared → Prop} (hh : A.handled = none) (hit : ItAt prog w s.heap I S es ep t vs i) (hv : vs[i]? = none) (hp' : vs.Perm (es.toList.map (·.2)))
    (h : ∀ h', Heap.ExtBut I s.heap h' → Q none { s with heap := h' }) : wpAny (model prog w) A (pyNext (.ref I)) Q E s := by
  obtain ⟨⟨o, ho, O⟩, hm⟩ := hit
  have start : ∀ first, s.heap.get? I = some (itObj first i S es.size ep) → wpAny (model prog w) A.in1 (Builtin.«set_iterator.__next__» ⟨[.ref I], []⟩) (fun _ _ => False) (fun e s' => s'.TypeIs e "StopIteration" ∧ ∃ h', Heap.ExtBut I s.heap h' ∧ s' = { s with heap := h' }) s → wpAny (model prog w) A (pyNext (.ref I)) Q E s := by
    intro first hI hw
    have hT : s.TypeIs (.ref I) "set_iterator" := ⟨_, hI, rfl⟩
    unfold pyNext
    refine wpAny_bind (wpAny_attempt (wpAny_callSpecial?_slot (name := Str.ofString "__next__") hT slot_setNext (wpAny_call_entry slot_setNext hT entry_setNext ?_ (args_setNext _))))
    refine wpAny_mono hw (fun fin s' q => q.elim) fun e s' q => ?_
    obtain ⟨hTe, h', hx, rfl⟩ := q
    refine wpAny_bind (wpAny_isInstance (T := "StopIteration") (b := true) hTe isSubtype_stop ?_)
    exact wpAny_pure (h h' hx)
  have stop : ∀ (h₁ : Heap) {Q' : PySem.Fin → Shared → Prop}, Heap.ExtBut I s.heap h₁ → wpAny (model prog w) A.in1 (newExc (.type "StopIteration") [] >>= fun e => raiseNew e) Q' (fun e s' => s'.TypeIs e "StopIteration" ∧ ∃ h', Heap.ExtBut I s.heap h' ∧ s' = { s with heap := h' }) { s with heap := h₁ } := by
    intro h₁ Q' hx
    refine wpAny_bind ?_
    simp only [newExc, newTuple]
    refine wpAny_bind (wpAny_newObj_type ?_ (by size_fits))
    refine wpAny_bind (m := firstArgMember _ _) (wpAny_of_eq (a := Value.none) (by first | rfl | (simp only [firstArgMember]; rfl)) ?_)
    refine wpAny_newObj_type ?_ (by size_fits)
    simp only [raiseNew]
    refine wpAny_bind (wpAny_handled ?_)
    rw [show A.in1.handled = none from hh]
    refine wpAny_bind (wpAny_pure (wpAny_throw ?_))
    exact ⟨⟨_, Heap.get?_push_size _ rfl, rfl⟩, _, (hx.push _).push _, rfl⟩
  have hlen : vs.length = es.size := by rw [hp'.length_eq, List.length_map, Array.length_toList]
  have hge : es.size ≤ i := by
    rw [← hlen]; exact List.getElem?_eq_none_iff.mp hv
  rcases hm with ⟨hb, hvs, slot, hI⟩ | ⟨hb, hsz, hvs, slot, hbel, hI⟩ | ⟨hb, hsz, T, pl, hp, hvs, hI, hTt⟩
  · refine start _ hI ?_
    unfold Builtin.«set_iterator.__next__»
    refine wpAny_bind (m := slotArgs "__next__" 0 ⟨[.ref I], []⟩) (wpAny_of_eq (a := (.ref I, [])) (by rfl) ?_)
    refine wpAny_bind (wpAny_fieldsOf hI rfl ?_)
    show wpAny _ _ (setEntries S >>= _) _ _ _
    unfold setEntries
    refine wpAny_bind (wpAny_bind (wpAny_setState_of ho O.dat O.fit (wpAny_pure ?_)))
    rw [if_neg (by simp)]
    dsimp only
    refine wpAny_bind (next_text ho O hb ?_)
    have hn : (pickOrder (w.params.setOrder S ep) es)[i]? = none := by
      rw [Array.getElem?_eq_none]
      have := (pickOrder_perm (w.params.setOrder S ep) es).length_eq
      simp only [Array.length_toList] at this; lia
    simp only [Int.toNat_natCast, hn, Option.map_none]
    refine wpAny_bind (wpAny_setField hI rfl (by simp) ?_)
    exact stop _ (Heap.SameBut.update ..).extBut
  · refine start _ hI ?_
    unfold Builtin.«set_iterator.__next__»
    refine wpAny_bind (m := slotArgs "__next__" 0 ⟨[.ref I], []⟩) (wpAny_of_eq (a := (.ref I, [])) (by rfl) ?_)
    refine wpAny_bind (wpAny_fieldsOf hI rfl ?_)
    show wpAny _ _ (setEntries S >>= _) _ _ _
    unfold setEntries
    refine wpAny_bind (wpAny_bind (wpAny_setState_of ho O.dat O.fit (wpAny_pure ?_)))
    rw [if_neg (by simp)]
    dsimp only
    refine wpAny_bind (next_slot ho O hb hsz ?_)
    simp only [Int.toNat_natCast, hbel, Array.getElem?_eq_none hge]
    refine wpAny_bind (wpAny_setField hI rfl (by simp) ?_)
    exact stop _ (Heap.SameBut.update ..).extBut
  · refine start _ hI ?_
    unfold Builtin.«set_iterator.__next__»
    refine wpAny_bind (m := slotArgs "__next__" 0 ⟨[.ref I], []⟩) (wpAny_of_eq (a := (.ref I, [])) (by rfl) ?_)
    refine wpAny_bind (wpAny_fieldsOf hI rfl ?_)
    show wpAny _ _ (setEntries S >>= _) _ _ _
    unfold setEntries
    refine wpAny_bind (wpAny_bind (wpAny_setState_of ho O.dat O.fit (wpAny_pure ?_)))
    rw [if_neg (by simp)]
    dsimp only
    refine wpAny_bind (m := seqItems? (.ref T)) ?_
    unfold seqItems?
    refine wpAny_bind (wpAny_load hTt (wpAny_pure ?_))
    dsimp only
    have hat : ((pl.map fun (j : Nat) => Value.int (j : Int) 0).toArray)[((i : Int)).toNat]? = none := by
      rw [Int.toNat_natCast, List.getElem?_toArray, List.getElem?_map, List.getElem?_eq_none (by have := hp.length_eq; rw [List.length_range] at this; lia)]; rfl
    rw [hat]
    dsimp only
    refine wpAny_bind (wpAny_setField hI rfl (by simp) ?_)
    have h1 : (s.heap.update I (Obj.mapFields (·.setIfInBounds 0 (rawInt 0)))).get? I = some (itObj (rawInt 0) i S es.size ep) := Heap.get?_update_self _ hI rfl
    refine wpAny_bind (wpAny_setField (s := { s with heap := s.heap.update I (Obj.mapFields (·.setIfInBounds 0 (rawInt 0))) }) h1 rfl (by simp) ?_)
    exact stop _ ((Heap.SameBut.update ..).trans (Heap.SameBut.update ..)).extBut
end Mine

open PySem PySem.W PyProof.Rows PySem.Calls
namespace Mine

variable {prog : Program} {w : World} {K : Frag} {n : Nat} {sc : Scope} {ρ : Rho} {own : List Str} {A : Around}

theorem te_not {x : Expr} {pos : Pos} {b : Bool} (h : TE prog w K n sc ρ x b) : TE prog w K n sc ρ (.UnaryOp .Not x pos) (!b) := by
  intro A env X s hA hsc hS
  exact wpAny_isTrue_Not (wpAny_mono (h A env X s hA hsc hS) (fun v s' q => ⟨q.1, by rw [q.2]⟩) fun _ _ q => q)
theorem te_list {e : Expr} {ds : List PyData} (h : EV prog w K n sc ρ e (.list ds)) (hz : ds.length ≤ sizeLine)
    (he : autoParam (∀ env whole, isTrue e env whole = (do let v ← whole; standAt e.pos; holding [v] (truthy v))) auK) : TE prog w K n sc ρ e (!ds.isEmpty) := by
  intro A env X s hA hsc hS
  refine wpAny_isTrue_value (wpAny_mono (h A env X s hA hsc hS) (fun v s₁ h₁ => ?_) fun _ _ x => x) (he env _)
  obtain ⟨e1, r⟩ := h₁
  obtain ⟨a, vs, rfl, hl, rs, _⟩ := r.of_list
  have hlen := rs.length
  have hsz : sizeLine = 16777216 := by decide
  refine wpAny_truthy_list hl.isList (by rw [List.size_toArray]; lia) ⟨e1.trans (Ext.tok _), ?_⟩
  rw [List.isEmpty_toArray]
  cases vs <;> cases ds <;> simp at hlen ⊢
noncomputable def strOf (x : Wd) : Str := ⟨x.toArray⟩
theorem strs_at {X : Addr → Prop} {h : Heap} {vs : List Value} {ws : List Wd} (r : RXs X h vs (ws.map sD)) (i : Nat) (v : Value) (hv : vs[i]? = some v) : ∃ x t, (ws.map strOf)[i]? = some x ∧ v = .str x t := by
  have hlt : i < vs.length := by
    rcases Nat.lt_or_ge i vs.length with q | q
    · exact q
    · rw [List.getElem?_eq_none q] at hv; cases hv
  have hl := r.length
  rw [List.length_map] at hl
  have hlt' : i < ws.length := by lia
  obtain ⟨u, hu, ru⟩ := r.get i (sD ws[i]) (by rw [List.getElem?_map, List.getElem?_eq_getElem hlt']; rfl)
  rw [hv] at hu
  cases hu
  obtain ⟨t, rfl⟩ := ru.of_str
  exact ⟨strOf ws[i], t, by rw [List.getElem?_map, List.getElem?_eq_getElem hlt']; rfl, rfl⟩
/-- set() if not modules else set(modules) -/
theorem mods_eval {env : Env} {X : Addr → Prop} {s : Shared} {ws : List Wd} {m : Str} {p1 p2 p3 p4 p5 p6 p7 p8 : Pos} (B : nsIn K mainGlobals (Str.ofString "set") = some none) (hA : AOk n A) (hS : St K env X ρ s) (hk : env.scope.names.lookup (Str.ofString "set") = some .globalImplicit)
    (hm : ρ.lookup m = some (lD ws)) (hd : (m == ("__debug__" : Str)) = false) (hc : (m == ("__classdict__" : Str)) = false) (hz : ws.length ≤ 8) :
    wpAny (model prog w) A (eval (.IfExp (.UnaryOp .Not (.Name m p1) p2) (.Call (.Name (Str.ofString "set") p3) [] [] p4) (.Call (.Name (Str.ofString "set") p5) [.Name m p6] [] p7) p8) env)
      (fun v s' => ∃ S, v = .ref S ∧ Ext s s' ∧ s.heap.get? S = none ∧ SetW prog w s'.heap S (ws.map strOf).reverse 8) (fun _ _ => False) s := by
  have hev : EV prog w K n env.scope ρ (.Name m p1) (lD ws) := ev_name hm hd hc
  have hev6 : EV prog w K n env.scope ρ (.Name m p6) (lD ws) := ev_name hm hd hc
  have hsz : sizeLine = 16777216 := by decide
  refine wpAny_IfExp (wpAny_mono (te_not (te_list hev (by rw [List.length_map]; lia)) A env X s hA rfl hS) (fun b s₁ h₁ => ?_) fun _ _ x => x.elim)
  obtain ⟨e₁, rfl⟩ := h₁
  have hS₁ := hS.ext e₁
  have hfr : s.heap.get? s₁.heap.objs.size = none := by
    cases q : s.heap.get? s₁.heap.objs.size with
    | none => rfl
    | some o => have := e₁.keep _ _ q; rw [get?_size_none] at this; cases this
  cases hb : (ws.map sD).isEmpty with
  | true =>
    have hw0 : ws = [] := by simpa using hb
    subst hw0
    simp only [Bool.not_true, Bool.not_false, ↓reduceIte]
    refine Call_ (glob_builtin (v := .type "set") hS₁ hk B (by kernel_rfl) (by decide +kernel) (by decide +kernel) ?_)
    refine PySem.callWith_type (args := []) rfl (PySem.evalArgs_none ?_)
    refine set_empty ⟨_, rfl, e₁.trans ⟨Keep.push _ _, rfl, rfl⟩, hfr, ?_⟩
    have := newSet_W (prog := prog) (w := w) (h := s₁.heap.push (newSetObj w)) (Heap.get?_push_size _ rfl)
    obtain ⟨o, es, ep, t, ho, O, hzz, hmm⟩ := this
    exact ⟨o, es, ep, t, ho, O, by lia, hmm⟩
  | false =>
    simp only [Bool.not_false, Bool.not_true, Bool.false_eq_true, ↓reduceIte]
    refine call_type_args (T := "set") hA hS₁ hk B (by kernel_rfl) (evs_cons hev6 evs_nil) fun vs s₂ e₂ r₂ => ?_
    obtain ⟨v, vs', rfl, r3, rs⟩ := r₂.of_cons
    obtain rfl := rs.of_nil
    obtain ⟨a, us, rfl, hl, ru, _⟩ := r3.of_list
    have hlen := ru.length
    rw [List.length_map] at hlen
    refine set_list hA.hh hl.isList (fun i v hv => strs_at ru i v (by simpa using hv)) (by simp [hlen]) (by rw [List.size_toArray]; unfold scanBound; lia) fun h' tk hSW hkeep => ?_
    refine ⟨_, rfl, (e₁.trans e₂).trans ⟨fun b o e => hkeep b o (Heap.lt_size e) e, rfl, rfl⟩, ?_, ?_⟩
    · cases q : s.heap.get? s₂.heap.objs.size with
      | none => rfl
      | some o => have := (e₁.trans e₂).keep _ _ q; rw [get?_size_none] at this; cases this
    · obtain ⟨o, es, ep, t, ho, O, hzz, hmm⟩ := hSW
      refine ⟨o, es, ep, t, ho, O, by have h9 : us.toArray.size = us.length := List.size_toArray; lia, hmm⟩
end Mine

open PySem PySem.W PyProof.Rows PySem.Calls
namespace Mine

variable {prog : Program} {w : World} {K : Frag} {n : Nat} {sc : Scope} {ρ : Rho} {own : List Str} {A : Around}

theorem opq {α : Type} {M : Model} {A : Around} {t : Sem α} {Q : α → Shared → Prop} {E : Value → Shared → Prop} {s : Shared} (h : ∀ Q' : α → Shared → Prop, (∀ v s', Q v s' → Q' v s') → wpAny M A t Q' E s) : wpAny M A t Q E s := h Q fun _ _ x => x
/-- a def of the text whose arguments may have defaults, with no cell of its own -/
structure DefB (K : Frag) (a : Addr) (fd : FuncData) (body : List Stmt) (ps : List Str) : Prop where
  at_ : ∃ o, K.lookup a = some o ∧ o.cls = .type "function" ∧ o.data = .func fd
  body : fd.body = .stmts body
  clo : fd.closure = []
  glob : fd.globals = mainGlobals
  blt : fd.builtins = builtinsNs
  code : ∃ c oc vs t, fd.code = .ref c ∧ K.lookup c = some oc ∧ oc.data = .fields vs ∧ vs[1]? = some (.str fd.qualname t)
  bind : ∀ vs s, vs.length = ps.length → K.In s.heap → BindsTo s fd ⟨vs, []⟩ (ps.zip vs)
  kinds : ∀ x ∈ ps, fd.scope.names.lookup x = some .local
  nocell : ∀ x ∈ fd.scope.names, x.2 ≠ .cell
  nodup : ps.Nodup
  co : fd.scope.isCoroutine = false
  gen : fd.scope.isGenerator = false
  kind : fd.scope.kind = .function

theorem AOk.create {C : Addr} {vs : List Value} (h : AOk (n + 1) A) : AOk n (A.under (.builtin "type.__call__" ⟨.ref C :: vs, []⟩)) :=
  ⟨h.hh, by have := h.dep; show A.depth + 1 + n < _; lia, by have := h.un; show A.units + 1 + 16 * n + 200 < _; lia⟩

theorem lookup_rev_zip {x : Str} {v : Value} {l : List (Str × Value)} (hn : (l.map (·.1)).Nodup) (h : (x, v) ∈ l) : l.reverse.lookup x = some v := by
  induction l with
  | nil => cases h
  | cons p r ih =>
    obtain ⟨y, u⟩ := p
    simp only [List.map_cons, List.nodup_cons] at hn
    rw [List.reverse_cons, List.lookup_append]
    rcases List.mem_cons.mp h with e | e
    · obtain ⟨rfl, rfl⟩ := Prod.mk.inj e
      have : r.reverse.lookup x = none := by
        rw [List.lookup_eq_none_iff]
        intro p hp
        rw [List.mem_reverse] at hp
        rw [bne_iff_ne]
        intro e2
        exact hn.1 (List.mem_map.mpr ⟨p, hp, e2.symm⟩)
      rw [this]; simp
    · rw [ih hn.2 e]; rfl

/-- a call of such a def, with its frame laid open -/
theorem call_defB {a : Addr} {fd : FuncData} {body : List Stmt} {ps : List Str} {ds : List PyData} {X : Addr → Prop} {s : Shared} {vs : List Value} {Q : Value → Shared → Prop} (D : DefB K a fd body ps) (hlen : ds.length = ps.length)
    (hA : AOk (n + 1) A) (hg : GFX K X s.heap) (hl : Live X s.heap) (hr : RXs X s.heap vs ds)
    (hex : ∀ (env : Env) (X' Z : Addr → Prop) (s₁ : Shared), AOk n (A.deeper env) → env.scope = fd.scope → env.cells = [] → (∀ b, Z b → b = env.locals) → (∀ b, Z b → X' b) → (∀ b, X' b ↔ X b ∨ Z b) → (∀ b, Z b → s.heap.get? b = none) → Ext s s₁ → SS K env [] Z X' (ps.zip ds) none none s₁ →
      wpAny (model prog w) (A.deeper env) (execs body env) (fun fl s' => Q (match fl with | .ret v => v | _ => .none) s') (fun _ _ => False) s₁) :
    wpAny (model prog w) A (call (.ref a) vs) Q (fun _ _ => False) s := by
  obtain ⟨o, hoK, hocls, hdata⟩ := D.at_
  have hgf := hg.gf
  have hlv : vs.length = ps.length := hr.length.trans hlen
  have hcd : s.heap.CodeRec fd.code fd.qualname := by
    obtain ⟨c, oc, us, t, h1, h2, h3, h4⟩ := D.code
    exact ⟨c, oc, us, t, h1, hgf.kin _ _ h2, h3, h4⟩
  have hfst := zip_fst ps vs hlv
  have hkl : ∀ x ∈ ps.zip vs, fd.scope.names.lookup x.1 = some .local := fun x hx => D.kinds x.1 (by rw [← hfst]; exact List.mem_map.mpr ⟨x, hx, rfl⟩)
  refine wpAny_call (codeAny_call_def (by have := hA.dep; lia) (hgf.kin _ _ hoK) hdata hgf.lim hcd D.body (D.bind vs s hlv hgf.kin) D.nocell hkl (fun h₁ hns hkeep => ?_) D.co D.gen D.kind)
  generalize hL : s.heap.objs.size = L at hns
  generalize henv : callEnv fd L a = env
  have hsc : env.scope = fd.scope := by rw [← henv]; rfl
  have hloc : env.locals = L := by rw [← henv]; rfl
  have hcel : env.cells = [] := by rw [← henv]; show fd.closure = []; exact D.clo
  let Z : Addr → Prop := fun b => b = env.locals
  have hZf : ∀ b, Z b → s.heap.get? b = none := fun b hb => by
    obtain rfl : b = env.locals := hb
    rw [hloc, ← hL]; exact get?_size_none _
  let X' : Addr → Prop := fun b => X b ∨ Z b
  have hs : ∀ b, X' b → X b ∨ s.heap.get? b = none := fun b hb => hb.imp id (hZf b)
  let s₁ : Shared := { s with heap := h₁, toks := s.toks + (ps.zip vs).length }
  have ext : Ext s s₁ := ⟨hkeep, rfl, rfl⟩
  have hlive : Live X' s₁.heap := fun b hb => by
    rcases hb with h | h
    · obtain ⟨o, ho⟩ := hl b h; exact ⟨o, ext.keep _ _ ho⟩
    · obtain ⟨o, _, _, ho, _⟩ := hns
      obtain rfl : b = env.locals := h
      exact ⟨o, by rw [hloc]; exact ho⟩
  have hkindOf : ∀ x, env.kindOf x = fd.scope.names.lookup x := fun x => by show env.scope.names.lookup x = _; rw [hsc]
  have hnd : ((ps.zip vs).map (·.1)).Nodup := by rw [hfst]; exact D.nodup
  have hSt : St K env X' (ps.zip ds) s₁ := by
    refine ⟨(hg.more hs).keep ext.keep, hlive, ⟨_, by rw [hloc]; exact hns, fun x d' hx => ?_⟩, by rw [hsc]; exact D.kind, by rw [← henv]; exact D.glob, by rw [← henv]; exact D.blt, fun x c hx => by rw [hcel] at hx; cases hx⟩
    obtain ⟨v, hv, rv⟩ := zip_get hr x d' hx
    have hxp : x ∈ ps := by rw [← hfst]; exact List.mem_map.mpr ⟨_, hv, rfl⟩
    exact ⟨v, (rv.more hs).keep ext.keep, .inl ⟨(hkindOf x).trans (D.kinds x hxp), lookup_rev_zip hnd hv⟩⟩
  have hFm : Fm env [] Z X' s₁.heap := ⟨rfl, fun x hx => (by cases hx), fun x hx => (by cases hx), fun b hb => .inr hb⟩
  refine wpAny_mono (hex env X' Z s₁ (hA.deeper env) hsc hcel (fun b hb => hb) (fun b hb => .inr hb) (fun b => Iff.rfl) hZf ext ⟨hSt, hFm⟩) (fun fl s' h' => ?_) fun _ _ x => x.elim
  exact h'

/-- what the text's top says of the class of readers -/
structure KI (K : Frag) (C fI fN : Addr) : Prop where
  cls : ∃ N mN, (∀ h, K.In h → ClsAt h C N mN) ∧ mN "__init__" = some (.ref fI) ∧ mN "names" = some (.ref fN) ∧ mN "__setattr__" = none ∧ mN "__getattribute__" = none ∧ mN "__getattr__" = none ∧
    mN "_mods" = none ∧ mN "_dirs" = none ∧ mN "_ignore" = none
  inK : ∃ o, K.lookup C = some o

noncomputable def attrs (S D G : Addr) (y : Str) : Option Value := if y = "_ignore" then some (.ref G) else if y = "_dirs" then some (.ref D) else if y = "_mods" then some (.ref S) else none
/-- an object of a class, with its dict -/
structure InstD (h : Heap) (x dx C : Addr) (m : Str → Option Value) : Prop where
  obj : ∃ o, h.get? x = some o ∧ o.cls = .ref C ∧ (∀ c, o.data ≠ .cls c) ∧ o.dict = some dx
  ne : dx ≠ x
  ns : h.Ns1 dx m
theorem InstD.inst {h : Heap} {x dx C : Addr} {m : Str → Option Value} (I : InstD h x dx C m) : h.Inst x C m :=
  let ⟨o, a, b, c, d⟩ := I.obj; ⟨o, a, b, c, .inr ⟨dx, d, I.ne, I.ns⟩⟩
theorem InstD.at {h h' : Heap} {x dx C : Addr} {m : Str → Option Value} (I : InstD h x dx C m) (k : ∀ b o, b = x ∨ b = dx → h.get? b = some o → h'.get? b = some o) : InstD h' x dx C m :=
  let ⟨o, a, r⟩ := I.obj
  ⟨⟨o, k _ _ (.inl rfl) a, r⟩, I.ne, let ⟨o', es, ep, e, r⟩ := I.ns; ⟨o', es, ep, k _ _ (.inr rfl) e, r⟩⟩
/-- what a reader remembers: of each name that it was asked, what it said -/
structure Cache (kvs : List (Str × Value)) (asked : List Str) (tr : Str → Int) (q : Nat) : Prop where
  len : kvs.length ≤ q
  says : ∀ (k : Str) (v : Value), k ≠ "<string>" → valueAt kvs k = some v → ∃ t, v = .int (tr k) t
  has : ∀ k ∈ asked, ∃ v, valueAt kvs k = some v
noncomputable def tells (ks : List Str) (k : Str) : Int := if ks.any (fun m => k == m || Txt.startswith k (m ++ Str.ofString ".")) then 1 else 0
/-- a reader stands: x its place, dx its dict, S its set, D its list, G what it remembers -/
structure Rd (prog : Program) (w : World) (C : Addr) (h : Heap) (x dx S D G : Addr) (ks asked : List Str) (q : Nat) : Prop where
  inst : InstD h x dx C (attrs S D G)
  set : SetW prog w h S ks 8
  dirs : h.PlainList D #[]
  dict : ∃ kvs, h.DictOf (strKind prog w) G kvs ∧ Cache kvs asked (tells ks) q
  ne : G ≠ x ∧ G ≠ dx ∧ G ≠ S ∧ G ≠ D
  sys : (G == sysModules) = false
noncomputable def five (x dx S D G : Addr) : Addr → Prop := fun b => b = x ∨ b = dx ∨ b = S ∨ b = D ∨ b = G
theorem Rd.at {C : Addr} {h h' : Heap} {x dx S D G : Addr} {ks asked : List Str} {q : Nat} (R : Rd prog w C h x dx S D G ks asked q) (k : ∀ b o, five x dx S D G b → h.get? b = some o → h'.get? b = some o) : Rd prog w C h' x dx S D G ks asked q where
  inst := R.inst.at fun b o hb e => k b o (hb.elim .inl fun q => .inr (.inl q)) e
  set := R.set.at fun o e => k _ _ (.inr (.inr (.inl rfl))) e
  dirs := R.dirs.at fun o e => k _ _ (.inr (.inr (.inr (.inl rfl)))) e
  dict := let ⟨kvs, d, c⟩ := R.dict; ⟨kvs, d.at fun o e => k _ _ (.inr (.inr (.inr (.inr rfl)))) e, c⟩
  ne := R.ne
  sys := R.sys
/-- its cache takes one more -/
theorem Rd.more {C : Addr} {h h' : Heap} {x dx S D G : Addr} {ks asked asked' : List Str} {q q' : Nat} (R : Rd prog w C h x dx S D G ks asked q) (k : Heap.SameBut G h h') {kvs : List (Str × Value)} (hd : h'.DictOf (strKind prog w) G kvs) (hc : Cache kvs asked' (tells ks) q') :
    Rd prog w C h' x dx S D G ks asked' q' where
  inst := R.inst.at fun b o hb e => k.extBut b o (hb.elim (fun q => fun e2 => R.ne.1 (e2 ▸ q)) fun q => fun e2 => R.ne.2.1 (e2 ▸ q)) e
  set := R.set.at fun o e => k.extBut _ o (fun e2 => R.ne.2.2.1 e2.symm) e
  dirs := R.dirs.at fun o e => k.extBut _ o (fun e2 => R.ne.2.2.2 e2.symm) e
  dict := ⟨kvs, hd, hc⟩
  ne := R.ne
  sys := R.sys
end Mine

open PySem PySem.W PyProof.Rows PySem.Calls
namespace Mine

variable {prog : Program} {w : World} {K : Frag} {n : Nat} {sc : Scope} {ρ : Rho} {own : List Str} {A : Around}

noncomputable def cbodyAt (k j : Nat) : List Stmt := match PySem.Challenge.pw_pw0003_01.main.body[k]? with | some (.ClassDef (body := b) ..) => (match b[j]? with | some (.FunctionDef (body := b) ..) => b | _ => []) | _ => []
noncomputable def cscopeAt (k j : Nat) : Scope := match PySem.Challenge.pw_pw0003_01.main.body[k]? with | some (.ClassDef (body := b) ..) => (match b[j]? with | some (.FunctionDef (scope := b) ..) => b | _ => default) | _ => default

theorem InstD.of_made {h h' : Heap} {x dx C : Addr} (Mk : Heap.MadeObj h h' x dx C) : InstD h' x dx C (fun _ => none) := by
  obtain ⟨o, e, c, nc, hd⟩ := Mk.inst
  have hdd := Mk.dict o e
  rcases hd with ⟨hn, _⟩ | ⟨d', hd', hne, hns⟩
  · rw [hn] at hdd; cases hdd
  · obtain rfl := Option.some.inj (hd'.symm.trans hdd)
    exact ⟨⟨o, e, c, nc, hd'⟩, hne, hns⟩

theorem set_attr {C fI fN : Addr} (hK : KI K C fI fN) {x dx : Addr} {m : Str → Option Value} {ns : List Str} {name : Str} {v : Value} {s : Shared} {Q : Unit → Shared → Prop} {E : Value → Shared → Prop}
    (hkin : K.In s.heap) (I : InstD s.heap x dx C m) (hxC : x ≠ C) (hn : name = "_mods" ∨ name = "_dirs" ∨ name = "_ignore") (hw : Within m ns) (hsz : ns.length ≤ sizeLine)
    (hB : typeLookup (.type "object") name = pure none)
    (hq : ∀ s', InstD s'.heap x dx C (fun y => if y = name then some v else m y) → Mv (fun b => b = x ∨ b = dx) s s' → Q () s') : wpAny (model prog w) A (setAttr (.ref x) name v) Q E s := by
  obtain ⟨N, mN, hX, hi, hnm, hsa, hga, hgt, ha1, ha2, ha3⟩ := hK.cls
  obtain ⟨hh, g, d, t, os⟩ := s
  have X0 := hX hh hkin
  obtain ⟨nm, q, bs, sn, sub, col, dd, k0, k1, k2, k3, k5, hC⟩ := X0.obj
  have hna : mN name = none := by rcases hn with rfl | rfl | rfl <;> assumption
  obtain ⟨o, ho, hoc, honc, hod⟩ := I.obj
  refine store_attr PySem.F.store_object hC X0.ns hsa hna hB hxC I.inst (fun h' tk' I' hk hsame => ?_) hw hsz
  obtain ⟨o₁, e₁, c₁, dt₁, sl₁, dk₁⟩ := hsame o ho
  have I₂ : InstD h' x dx C (fun y => if y = name then some v else m y) := by
    obtain ⟨o', e', _, _, hd'⟩ := I'
    obtain rfl := Option.some.inj (e₁.symm.trans e')
    rcases hd' with ⟨hn0, _⟩ | ⟨d', hd', hne, hns'⟩
    · rw [dk₁ dx hod] at hn0; cases hn0
    · obtain rfl := Option.some.inj ((dk₁ dx hod).symm.trans hd')
      exact ⟨⟨o₁, e₁, c₁.trans hoc, fun c => dt₁ ▸ honc c, hd'⟩, hne, hns'⟩
  refine hq _ I₂ ⟨fun b o' e hb => hk b o' (fun q => hb (.inl q)) (fun o₀ d' e₀ ed => ?_) e, fun b o' e => ?_, rfl, rfl⟩
  · obtain rfl := Option.some.inj (ho.symm.trans e₀)
    obtain rfl := Option.some.inj (hod.symm.trans ed)
    exact fun q => hb (.inr q)
  · by_cases h1 : b = x
    · subst h1; exact ⟨o₁, e₁⟩
    · by_cases h2 : b = dx
      · subst h2
        obtain ⟨o₂, _, _, e₂, _⟩ := I₂.ns
        exact ⟨o₂, e₂⟩
      · refine ⟨o', hk b o' h1 (fun o₀ d' e₀ ed => ?_) e⟩
        obtain rfl := Option.some.inj (ho.symm.trans e₀)
        obtain rfl := Option.some.inj (hod.symm.trans ed)
        exact h2

/-- the value of a field -/
theorem get_attr {C fI fN : Addr} (hK : KI K C fI fN) {x dx : Addr} {m : Str → Option Value} {name : Str} {v : Value} {s : Shared} {Q : Value → Shared → Prop} {E : Value → Shared → Prop} {ex : Bool}
    (hkin : K.In s.heap) (I : InstD s.heap x dx C m) (hn : name = "_mods" ∨ name = "_dirs" ∨ name = "_ignore") (hv : m name = some v) (hh : handedOut v = pure v)
    (hB : typeLookup (.type "object") name = pure none) (hq : Q v { s with toks := s.toks + 1 }) : wpAny (model prog w) A (getAttr (.ref x) name ex) Q E s := by
  obtain ⟨N, mN, hX, hi, hnm, hsa, hga, hgt, ha1, ha2, ha3⟩ := hK.cls
  obtain ⟨hh', g, d, t, os⟩ := s
  have X0 := hX hh' hkin
  obtain ⟨nm, q, bs, sn, sub, col, dd, k0, k1, k2, k3, k5, hC⟩ := X0.obj
  have hna : mN name = none := by rcases hn with rfl | rfl | rfl <;> assumption
  exact load_attr hC X0.ns hga hna hB I.inst hv hh hq
theorem InstD.apart {h : Heap} {x dx C c : Addr} {m : Str → Option Value} (I : InstD h x dx C m) (hc : h.get? c = none) : ¬ (c = x ∨ c = dx) := fun q => by
  rcases q with rfl | rfl
  · obtain ⟨ox, hx, _⟩ := I.obj; rw [hx] at hc; cases hc
  · obtain ⟨ox, _, _, hx, _⟩ := I.ns; rw [hx] at hc; cases hc
theorem lk_mods : typeLookup (.type "object") "_mods" = pure none := by rw [typeLookup_type, builtinLookup_eq_fast]; kernel_rfl
theorem lk_dirs : typeLookup (.type "object") "_dirs" = pure none := by rw [typeLookup_type, builtinLookup_eq_fast]; kernel_rfl
theorem lk_ignore : typeLookup (.type "object") "_ignore" = pure none := by rw [typeLookup_type, builtinLookup_eq_fast]; kernel_rfl
theorem lk_names : typeLookup (.type "object") "names" = pure none := by rw [typeLookup_type, builtinLookup_eq_fast]; kernel_rfl

/-- an object of the class is made, its __init__ to come -/
theorem made {C fI fN : Addr} (hK : KI K C fI fN) {oI : Obj} (hoK : K.lookup fI = some oI) (hcls : oI.cls = .type "function") {s : Shared} {rest : List Value} {Q : Value → Shared → Prop} {E : Value → Shared → Prop} (hkin : K.In s.heap)
    (h : ∀ s' x dx, Heap.MadeObj s.heap s'.heap x dx C → s'.gens = s.gens → s'.os = s.os → wpAny (model prog w) (A.under (.builtin "type.__call__" ⟨.ref C :: rest, []⟩)) (call (.ref fI) (.ref x :: rest)) (fun r s'' => r = .none ∧ Q (.ref x) s'') E s') :
    wpAny (model prog w) A (call (.ref C) rest) Q E s := by
  obtain ⟨N, mN, hX, hi, _⟩ := hK.cls
  obtain ⟨hh, g, d, t, os⟩ := s
  have X0 := hX hh hkin
  obtain ⟨nm, q, bs, sn, sub, col, dd, k0, k1, k2, k3, k5, hC⟩ := X0.obj
  exact wpAny_call_obj_init PySem.F.objNew hC X0.ns hi (hkin _ _ hoK) hcls fun h' x dx Mk => h _ x dx Mk rfl rfl
set_option maxRecDepth 8000 in
set_option maxHeartbeats 4000000 in
theorem mk_reader {C fI fN : Addr} {fdI : FuncData} (hK : KI K C fI fN) (D : DefB K fI fdI (cbodyAt 9 0) [Str.ofString "self", Str.ofString "modules", Str.ofString "dirs"]) (hB : nsIn K mainGlobals (Str.ofString "set") = some none) (hsc : fdI.scope = cscopeAt 9 0)
    {X : Addr → Prop} {s : Shared} {vs : List Value} {ws : List Wd} (hA : AOk (n + 2) A) (hg : GFX K X s.heap) (hl : Live X s.heap) (hr : RXs X s.heap vs [lD ws, .list []]) (hz : ws.length ≤ 8) :
    wpAny (model prog w) A (call (.ref C) vs) (fun v s' => ∃ x dx S Dd G, v = .ref x ∧ Ext s s' ∧ Rd prog w C s'.heap x dx S Dd G (ws.map strOf).reverse [] 1 ∧ ∀ b, five x dx S Dd G b → s.heap.get? b = none) (fun _ _ => False) s := by
  obtain ⟨oI, hoK, hcls, hdata⟩ := D.at_
  obtain ⟨oC, hCK⟩ := hK.inK
  have hC := hg.gf.kin _ _ hCK
  refine opq fun Q hQ => ?_
  refine made hK hoK hcls hg.gf.kin fun s₀ x dx Mk g₀ o₀ => ?_
  have kk : Keep s.heap s₀.heap := Mk.keeps
  let X₁ : Addr → Prop := fun b => X b ∨ b = x ∨ b = dx
  have hm₁ : ∀ b, X₁ b → X b ∨ s.heap.get? b = none := fun b hb => hb.imp id fun q => q.elim (fun q => q ▸ Mk.newX) fun q => q ▸ Mk.newD
  have I₁ := InstD.of_made Mk
  have g₁ : GFX K X₁ s₀.heap := (hg.more hm₁).keep kk
  have l₁ : Live X₁ s₀.heap := fun b hb => by
    rcases hb with h | rfl | rfl
    · obtain ⟨o, ho⟩ := hl b h; exact ⟨o, kk _ _ ho⟩
    · obtain ⟨o, ho, _⟩ := I₁.obj; exact ⟨o, ho⟩
    · obtain ⟨o, _, _, ho, _⟩ := I₁.ns; exact ⟨o, ho⟩
  have r₁ : RXs X₁ s₀.heap (.ref x :: vs) [rawD x, lD ws, .list []] := .cons (.raw x) ((hr.more hm₁).keep kk)
  refine call_defB (n := n) D rfl hA.create g₁ l₁ r₁ fun env X' Z s₁ hA₁ hsc₁ hcel₁ _ hZX hX' hZf e₁ hS₁ => ?_
  refine opq fun Q₂ hQ₂ => ?_
  generalize Around.deeper _ env = A' at hA₁ ⊢
  rw [hsc] at hsc₁
  have hX'x : X' x := (hX' x).mpr (.inl (.inr (.inl rfl)))
  have hX'dx : X' dx := (hX' dx).mpr (.inl (.inr (.inr rfl)))
  have hxC : x ≠ C := fun e => by rw [e] at Mk; have := Mk.newX; rw [hC] at this; cases this
  have hWX : ∀ b, (b = x ∨ b = dx) → X' b := fun b hb => hb.elim (fun e => e ▸ hX'x) fun e => e ▸ hX'dx
  have hloc : ¬ (env.locals = x ∨ env.locals = dx) := fun h => by
    have hz := hZf _ hS₁.2.loc
    rcases h with h | h
    · obtain ⟨o, ho, _⟩ := I₁.obj; rw [h] at hz; rw [ho] at hz; cases hz
    · obtain ⟨o, _, _, ho, _⟩ := I₁.ns; rw [h] at hz; rw [ho] at hz; cases hz
  have hcel : ∀ y c, env.cells.lookup y = some c → ¬ (c = x ∨ c = dx) := fun y c hy => by rw [hcel₁] at hy; cases hy
  have hSt : St K env X' [(Str.ofString "self", rawD x), (Str.ofString "modules", lD ws), (Str.ofString "dirs", .list [])] s₁ := hS₁.1
  have oldK : ∀ (b : Addr) (o : Obj), s.heap.get? b = some o → ¬ (b = x ∨ b = dx) := fun b o e q => by
    rcases q with rfl | rfl
    · have := Mk.newX; rw [e] at this; cases this
    · have := Mk.newD; rw [e] at this; cases this
  -- self._mods
  refine wpAny_execs_cons (plainObj_wpAny_Assign_Attribute (wpAny_mono (mods_eval hB hA₁ hSt (by rw [hsc₁]; kernel_rfl) (lk1 (by kernel_rfl) lk0) (by kernel_rfl) (by kernel_rfl) hz) (fun v₂ s₂ h₂ => ?_) fun _ _ x => x) ?_)
  rotate_left
  · kernel_rfl
  obtain ⟨S, rfl, e₂, hSf, hSW⟩ := h₂
  have hSt₂ := hSt.ext e₂
  refine wpAny_mono ((ev_name lk0 : EV prog w K n env.scope _ _ (rawD x)) _ env X' s₂ hA₁ rfl hSt₂) (fun u₂ s₃ h₃ => ?_) fun _ _ x => x
  obtain ⟨e₃, r₃⟩ := h₃
  obtain rfl := r₃.of_raw
  have hSt₃ := hSt₂.ext e₃
  have I₃ : InstD s₃.heap x dx C (fun _ => none) := I₁.at fun b o _ e => ((e₁.trans e₂).trans e₃).keep _ _ e
  refine set_attr (ns := []) hK hSt₃.gf.gf.kin I₃ hxC (.inl rfl) (fun y h => absurd rfl h) (by decide) lk_mods fun s₄ I₄ mv₄ => ?_
  have hSt₄ := hSt₃.move mv₄ hWX hloc hcel
  have hSx : ¬ (S = x ∨ S = dx) := (I₁.at (h' := s₁.heap) fun b o _ e => e₁.keep _ _ e).apart hSf
  have hSW₄ : SetW prog w s₄.heap S (ws.map strOf).reverse 8 := (hSW.at fun o e => e₃.keep _ _ e).at fun o e => mv₄.keep _ _ e hSx
  -- self._dirs
  refine wpAny_execs_cons (plainObj_wpAny_Assign_Attribute (wpAny_IfExp (wpAny_mono (te_not (te_list (ev_name (d := .list []) (lk1 (by kernel_rfl) (lk1 (by kernel_rfl) lk0))) (by decide)) _ env X' s₄ hA₁ rfl hSt₄) (fun b₅ s₅ h₅ => ?_) fun _ _ x => x.elim)) ?_)
  rotate_left
  · kernel_rfl
  obtain ⟨e₅, rfl⟩ := h₅
  simp only [List.isEmpty_nil, Bool.not_true, Bool.not_false, ↓reduceIte]
  have hSt₅ := hSt₄.ext e₅
  refine wpAny_List (args_nil ⟨Nat.zero_le _, ?_⟩)
  have e₆ : Ext s₅ { s₅ with heap := s₅.heap.push { cls := .type "list", data := .seq ([] : List Value).toArray } } := ⟨Keep.push _ _, rfl, rfl⟩
  have hDl : (s₅.heap.push { cls := .type "list", data := .seq ([] : List Value).toArray }).PlainList s₅.heap.objs.size #[] := ⟨_, Heap.get?_push_size _ rfl⟩
  generalize hD₅ : s₅.heap.objs.size = Dd at hDl ⊢
  have hDf : s₅.heap.get? Dd = none := hD₅ ▸ get?_size_none _
  generalize hs₆ : ({ s₅ with heap := s₅.heap.push { cls := .type "list", data := .seq ([] : List Value).toArray } } : Shared) = s₆ at e₆ ⊢
  have hDl₆ : s₆.heap.PlainList Dd #[] := by rw [← hs₆]; exact hDl
  have hSt₆ := hSt₅.ext e₆
  refine wpAny_mono ((ev_name lk0 : EV prog w K n env.scope _ _ (rawD x)) _ env X' s₆ hA₁ rfl hSt₆) (fun u₇ s₇ h₇ => ?_) fun _ _ x => x
  obtain ⟨e₇, r₇⟩ := h₇
  obtain rfl := r₇.of_raw
  have hSt₇ := hSt₆.ext e₇
  have e₄₇ : Ext s₄ s₇ := (e₅.trans e₆).trans e₇
  have I₇ := I₄.at (h' := s₇.heap) fun b o _ e => e₄₇.keep _ _ e
  refine set_attr (ns := ["_mods"]) hK hSt₇.gf.gf.kin I₇ hxC (.inr (.inl rfl)) (Within.cons _ _ Within.nil) (by decide) lk_dirs fun s₈ I₈ mv₈ => ?_
  have hSt₈ := hSt₇.move mv₈ hWX hloc hcel
  have e₅₇ : Ext s₅ s₇ := e₆.trans e₇
  have hDx : ¬ (Dd = x ∨ Dd = dx) := (I₄.at (h' := s₅.heap) fun b o _ e => e₅.keep _ _ e).apart hDf
  have hSW₈ : SetW prog w s₈.heap S (ws.map strOf).reverse 8 := (hSW₄.at fun o e => e₄₇.keep _ _ e).at fun o e => mv₈.keep _ _ e hSx
  have hDl₈ : s₈.heap.PlainList Dd #[] := (hDl₆.at fun o e => e₇.keep _ _ e).at fun o e => mv₈.keep _ _ e hDx
  -- self._ignore
  refine wpAny_execs_cons (plainObj_wpAny_Assign_Attribute (wpAny_Dict_walk (knd := strKind prog w) (by rfl) (by rfl) (by simp) (by decide) (pairTrees_cons_walk (wpAny_Constant_str (wpAny_Constant_int (pairTrees_nil_walk (display_done_str (by rfl) (by simp [strPairs]) (Heap.DictOf.new _) fun h₉ hd₉ hsb₉ => ?_)))))) ?_)
  rotate_left
  · kernel_rfl
  have k₈ : Keep s.heap s₈.heap := fun b o e => mv₈.keep _ _ (e₄₇.keep _ _ (mv₄.keep _ _ (((e₁.trans e₂).trans e₃).keep _ _ (kk _ _ e)) (oldK b o e))) (oldK b o e)
  have gens₈ : s₈.gens = s.gens := mv₈.gens.trans (e₄₇.gens.trans (mv₄.gens.trans (((e₁.trans e₂).trans e₃).gens.trans g₀)))
  have os₈ : s₈.os = s.os := mv₈.os.trans (e₄₇.os.trans (mv₄.os.trans (((e₁.trans e₂).trans e₃).os.trans o₀)))
  have hGf : s₈.heap.get? s₈.heap.objs.size = none := get?_size_none _
  have hGx := I₈.apart hGf
  have hGsys : (s₈.heap.objs.size == sysModules) = false := by
    obtain ⟨mg, hng⟩ := hSt₈.gf.gf.g
    have h3 := hng.lt
    rw [beq_eq_false_iff_ne]
    intro e
    rw [e] at h3
    exact absurd h3 (by decide)
  have hGS : s₈.heap.objs.size ≠ S := fun e => by obtain ⟨o, _, _, _, ho, _⟩ := hSW₈; rw [← e, hGf] at ho; cases ho
  have hGD : s₈.heap.objs.size ≠ Dd := fun e => by obtain ⟨_, ho⟩ := hDl₈; rw [← e, hGf] at ho; cases ho
  have e₉ : ∀ tk, Ext s₈ { s₈ with heap := h₉, toks := tk } := fun tk => ⟨fun b o e => hsb₉.extBut b o (fun q => by rw [q, hGf] at e; cases e) (Keep.push _ _ b o e), rfl, rfl⟩
  have hd₉' : Heap.DictOf (strKind prog w) h₉ s₈.heap.objs.size [(Str.ofString "<string>", Value.int 1 (s₈.toks + 1))] := hd₉
  clear hd₉ hsb₉
  generalize hG : s₈.heap.objs.size = G at hd₉' hGf hGx hGS hGD hGsys ⊢
  refine wpAny_mono ((ev_name lk0 : EV prog w K n env.scope _ _ (rawD x)) _ env X' _ hA₁ rfl (hSt₈.ext (e₉ _))) (fun u₁₀ s₁₀ h₁₀ => ?_) fun _ _ x => x
  obtain ⟨e₁₀, r₁₀⟩ := h₁₀
  obtain rfl := r₁₀.of_raw
  have e₈₁₀ : Ext s₈ s₁₀ := (e₉ _).trans e₁₀
  have hSt₁₀ := hSt₈.ext e₈₁₀
  have I₁₀ := I₈.at (h' := s₁₀.heap) fun b o _ e => e₈₁₀.keep _ _ e
  refine set_attr (ns := ["_dirs", "_mods"]) hK hSt₁₀.gf.gf.kin I₁₀ hxC (.inr (.inr rfl)) (Within.cons _ _ (Within.cons _ _ Within.nil)) (by decide) lk_ignore fun s₁₁ I₁₁ mv₁₁ => ?_
  refine wpAny_execs_nil (hQ₂ _ _ ⟨rfl, hQ _ _ ⟨x, dx, S, Dd, G, rfl, ⟨fun b o e => mv₁₁.keep _ _ (e₈₁₀.keep _ _ (k₈ _ _ e)) (oldK b o e), ?_, ?_⟩, ⟨I₁₁, ?_, ?_, ⟨[(Str.ofString "<string>", Value.int 1 (s₈.toks + 1))], ?_, ?_⟩, ⟨fun e => hGx (.inl e), fun e => hGx (.inr e), hGS, hGD⟩, hGsys⟩, fun b hb => ?_⟩⟩)
  · exact mv₁₁.gens.trans (e₈₁₀.gens.trans gens₈)
  · exact mv₁₁.os.trans (e₈₁₀.os.trans os₈)
  · exact (hSW₈.at fun o e => e₈₁₀.keep _ _ e).at fun o e => mv₁₁.keep _ _ e hSx
  · exact (hDl₈.at fun o e => e₈₁₀.keep _ _ e).at fun o e => mv₁₁.keep _ _ e hDx
  · exact (hd₉'.at fun o e => e₁₀.keep _ _ e).at fun o e => mv₁₁.keep _ _ e hGx
  · refine ⟨Nat.le_refl _, fun k v hk hv => ?_, fun k hk => by cases hk⟩
    have : ¬ (Str.ofString "<string>" = k) := fun e => hk e.symm
    simp [valueAt, this] at hv
  · rcases hb with rfl | rfl | rfl | rfl | rfl
    · exact Mk.newX
    · exact Mk.newD
    · cases q : s.heap.get? b with
      | none => rfl
      | some o => rw [e₁.keep _ _ (kk _ _ q)] at hSf; cases hSf
    · cases q : s.heap.get? b with
      | none => rfl
      | some o => rw [e₅.keep _ _ (mv₄.keep _ _ (((e₁.trans e₂).trans e₃).keep _ _ (kk _ _ q)) (oldK b o q))] at hDf; cases hDf
    · cases q : s.heap.get? b with
      | none => rfl
      | some o => rw [k₈ _ _ q] at hGf; cases hGf
end Mine

open PySem PySem.W PyProof.Rows PySem.Calls
namespace Mine

variable {prog : Program} {w : World} {K : Frag} {n : Nat} {sc : Scope} {ρ : Rho} {own : List Str} {A : Around}

theorem gm_startswith {x : Str} : GM' prog w (.str x) "startswith" "str.startswith" := fun A X s v pl Q E r h => by
  obtain ⟨t, rfl⟩ := r.of_str; with_reducible exact GM.startswith h
theorem ca_startswith {x y : Str} : CA prog w K n (.builtin "str.startswith") [.str x, .str y] (.bool (Txt.startswith x y)) := by
  intro A X s vs hA hg hl r
  obtain ⟨v, vs', rfl, r1, rs⟩ := r.of_cons
  obtain ⟨u, us', rfl, r2, rs2⟩ := rs.of_cons
  obtain rfl := rs2.of_nil
  obtain ⟨t, rfl⟩ := r1.of_str
  obtain ⟨t', rfl⟩ := r2.of_str
  exact SC.startswith ⟨Ext.refl _, RX.bool _⟩
theorem bo_strs {x y : Str} (h : x.length + y.length ≤ sizeLine) : BO prog w K n .Add (.str x) (.str y) (.str (x ++ y)) := by
  intro A X s v₁ v₂ hA hg hl r₁ r₂
  obtain ⟨t, rfl⟩ := r₁.of_str
  obtain ⟨u, rfl⟩ := r₂.of_str
  exact add_str (fun t' tk => ⟨Ext.tok _, RX.str _ _⟩) h
theorem co_is_none_str {x : Str} : CO prog w K n .Is (.str x) .none false := by
  intro A X s v₁ v₂ hA hg hl r₁ r₂
  obtain ⟨t, rfl⟩ := r₁.of_str
  obtain rfl := r₂.of_none
  exact is_str_none ⟨Ext.refl _, rfl⟩

/-- the names at hand in `names` -/
noncomputable abbrev rho (x : Addr) (fd : PyData) (m : Str) : Rho := [(Str.ofString "self", rawD x), (Str.ofString "filename", fd), (Str.ofString "modulename", .str m)]

/-- self.FIELD -/
theorem ev_field {C fI fN : Addr} (hK : KI K C fI fN) {x dx S D G : Addr} {env : Env} {X : Addr → Prop} {s : Shared} {name : Str} {a : Addr} {p pos : Pos} (hA : AOk n A) (hS : St K env X ρ s) (hself : ρ.lookup (Str.ofString "self") = some (rawD x))
    (I : InstD s.heap x dx C (attrs S D G)) (hn : name = "_mods" ∨ name = "_dirs" ∨ name = "_ignore") (hv : attrs S D G name = some (.ref a)) (hB : typeLookup (.type "object") name = pure none)
    (he : eval (.Attribute (.Name (Str.ofString "self") p) name pos) env = (do
      let o ← eval (.Name (Str.ofString "self") p) env
      standAt pos.atName
      let r ← holding [o] (getAttr o name true)
      letTemporaryGo (.Name (Str.ofString "self") p) o r
      pure r)) :
    wpAny (model prog w) A (eval (.Attribute (.Name (Str.ofString "self") p) name pos) env) (fun v s' => v = .ref a ∧ Ext s s') (fun _ _ => False) s := by
  refine Attribute_Name_ (wpAny_mono ((ev_name hself : EV prog w K n env.scope ρ _ _) A env X s hA rfl hS) (fun o s₁ h₁ => ?_) fun _ _ x => x.elim) he
  obtain ⟨e₁, r₁⟩ := h₁
  obtain rfl := r₁.of_raw
  exact get_attr hK (hS.ext e₁).gf.gf.kin (I.at fun b o _ e => e₁.keep _ _ e) hn hv rfl hB ⟨rfl, e₁.trans (Ext.tok _)⟩

/-- modulename in self._ignore -/
theorem test_cache {C fI fN : Addr} (hK : KI K C fI fN) {x dx S D G : Addr} {env : Env} {X : Addr → Prop} {s : Shared} {m : Str} {kvs : List (Str × Value)} {p1 p2 p3 p4 : Pos} {whole : Sem Value} (hA : AOk n A) (hS : St K env X ρ s)
    (hself : ρ.lookup (Str.ofString "self") = some (rawD x)) (hm : ρ.lookup (Str.ofString "modulename") = some (.str m))
    (I : InstD s.heap x dx C (attrs S D G)) (hd : s.heap.DictOf (strKind prog w) G kvs) (hG : (G == sysModules) = false) :
    wpAny (model prog w) A (isTrue (.Compare (.Name (Str.ofString "modulename") p1) [.In] [.Attribute (.Name (Str.ofString "self") p2) (Str.ofString "_ignore") p3] p4) env whole) (fun b s' => b = (valueAt kvs m).isSome ∧ Ext s s') (fun _ _ => False) s := by
  refine wpAny_isTrue_Compare1 (wpAny_mono ((ev_name hm : EV prog w K n env.scope ρ _ _) A env X s hA rfl hS) (fun v s₁ h₁ => ?_) fun _ _ x => x.elim) (by kernel_rfl)
  obtain ⟨e₁, r₁⟩ := h₁
  obtain ⟨t, rfl⟩ := r₁.of_str
  refine wpAny_mono (ev_field hK hA (hS.ext e₁) hself (I.at fun b o _ e => e₁.keep _ _ e) (.inr (.inr rfl)) (a := G) rfl lk_ignore (by kernel_rfl)) (fun v s₂ h₂ => ?_) fun _ _ x => x.elim
  obtain ⟨rfl, e₂⟩ := h₂
  have hd₂ := hd.at (h' := s₂.heap) fun o e => (e₁.trans e₂).keep _ _ e
  exact wpAny_in_of (strKind_is _ _ _ _) hG hd₂.mapOf (wpAny_truthy_bool ⟨rfl, (e₁.trans e₂).trans (Ext.tok _)⟩)
/-- modulename in self._mods -/
theorem test_mods {C fI fN : Addr} (hK : KI K C fI fN) {x dx S D G : Addr} {env : Env} {X : Addr → Prop} {s : Shared} {m : Str} {ks : List Str} {p1 p2 p3 p4 : Pos} {whole : Sem Value} (hA : AOk n A) (hS : St K env X ρ s)
    (hself : ρ.lookup (Str.ofString "self") = some (rawD x)) (hm : ρ.lookup (Str.ofString "modulename") = some (.str m))
    (I : InstD s.heap x dx C (attrs S D G)) (hd : SetW prog w s.heap S ks 8) :
    wpAny (model prog w) A (isTrue (.Compare (.Name (Str.ofString "modulename") p1) [.In] [.Attribute (.Name (Str.ofString "self") p2) (Str.ofString "_mods") p3] p4) env whole) (fun b s' => b = decide (m ∈ ks) ∧ Ext s s') (fun _ _ => False) s := by
  refine wpAny_isTrue_Compare1 (wpAny_mono ((ev_name hm : EV prog w K n env.scope ρ _ _) A env X s hA rfl hS) (fun v s₁ h₁ => ?_) fun _ _ x => x.elim) (by kernel_rfl)
  obtain ⟨e₁, r₁⟩ := h₁
  obtain ⟨t, rfl⟩ := r₁.of_str
  refine wpAny_mono (ev_field hK hA (hS.ext e₁) hself (I.at fun b o _ e => e₁.keep _ _ e) (.inl rfl) (a := S) rfl lk_mods (by kernel_rfl)) (fun v s₂ h₂ => ?_) fun _ _ x => x.elim
  obtain ⟨rfl, e₂⟩ := h₂
  obtain ⟨mm, _, hso⟩ := (hd.at (h' := s₂.heap) fun o e => (e₁.trans e₂).keep _ _ e).setOf (by decide)
  exact wpAny_inSet_of (strKind_is _ _ _ _) rfl hso (wpAny_truthy_bool ⟨rfl, (e₁.trans e₂).trans (Ext.tok _)⟩)
/-- self._ignore[modulename] -/
theorem get_cache {C fI fN : Addr} (hK : KI K C fI fN) {x dx S D G : Addr} {env : Env} {X : Addr → Prop} {s : Shared} {m : Str} {v : Value} {kvs : List (Str × Value)} {p1 p2 p3 p4 : Pos} (hA : AOk n A) (hS : St K env X ρ s)
    (hself : ρ.lookup (Str.ofString "self") = some (rawD x)) (hm : ρ.lookup (Str.ofString "modulename") = some (.str m))
    (I : InstD s.heap x dx C (attrs S D G)) (hd : s.heap.DictOf (strKind prog w) G kvs) (hv : valueAt kvs m = some v) :
    wpAny (model prog w) A (eval (.Subscript (.Attribute (.Name (Str.ofString "self") p1) (Str.ofString "_ignore") p2) (.Name (Str.ofString "modulename") p3) p4) env) (fun r s' => r = v ∧ Ext s s') (fun _ _ => False) s := by
  refine Subscript_ (wpAny_mono (ev_field hK hA hS hself I (.inr (.inr rfl)) (a := G) rfl lk_ignore (by kernel_rfl)) (fun g s₁ h₁ => ?_) fun _ _ x => x.elim)
  obtain ⟨rfl, e₁⟩ := h₁
  refine wpAny_mono ((ev_name hm : EV prog w K n env.scope ρ _ _) A env X s₁ hA rfl (hS.ext e₁)) (fun u s₂ h₂ => ?_) fun _ _ x => x.elim
  obtain ⟨e₂, r₂⟩ := h₂
  obtain ⟨t, rfl⟩ := r₂.of_str
  have hd₂ := hd.at (h' := s₂.heap) fun o e => (e₁.trans e₂).keep _ _ e
  exact tail_any hd₂.typeIs slot_dict_getitem.lookup (wpAny_getItem_of (strKind_is _ _ _ _) hd₂.mapOf hv ⟨rfl, (e₁.trans e₂).trans (Ext.tok _)⟩) (ops := [.ref G, .str m t]) (by kernel_rfl)
/-- self._ignore[modulename] = i -/
theorem put_cache {C fI fN : Addr} (hK : KI K C fI fN) {x dx S D G : Addr} {env : Env} {X : Addr → Prop} {s : Shared} {m : Str} {i : Int} {k : Nat} {kvs : List (Str × Value)} {p1 p2 p3 p4 p5 pos : Pos} (hA : AOk n A) (hS : St K env X ρ s)
    (hself : ρ.lookup (Str.ofString "self") = some (rawD x)) (hm : ρ.lookup (Str.ofString "modulename") = some (.str m))
    (I : InstD s.heap x dx C (attrs S D G)) (hd : s.heap.DictOf (strKind prog w) G kvs) (hsz : kvs.length ≤ sizeLine)
    (hsw : autoParam (swapsWith (.Constant (.int i) k p5) (some (.Subscript (.Attribute (.Name (Str.ofString "self") p1) (Str.ofString "_ignore") p2) (.Name (Str.ofString "modulename") p3) p4)) pos.line env = pure false) auK) :
    wpAny (model prog w) A (exec (.Assign [.Subscript (.Attribute (.Name (Str.ofString "self") p1) (Str.ofString "_ignore") p2) (.Name (Str.ofString "modulename") p3) p4] (.Constant (.int i) k p5) pos) env)
      (fun fl s' => fl = .next ∧ ∃ s₁ t, Ext s s₁ ∧ Heap.SameBut G s₁.heap s'.heap ∧ s'.gens = s₁.gens ∧ s'.os = s₁.os ∧ s'.heap.DictOf (strKind prog w) G (stored kvs m (.int i t))) (fun _ _ => False) s := by
  refine wpAny_Assign_Subscript (wpAny_mono ((ev_int : EV prog w K n env.scope ρ _ _) A env X s hA rfl hS) (fun v s₀ h₀ => ?_) fun _ _ x => x.elim) hsw
  obtain ⟨e₀, r₀⟩ := h₀
  obtain ⟨t₀, rfl⟩ := r₀.of_int
  refine wpAny_mono (ev_field hK hA (hS.ext e₀) hself (I.at fun b o _ e => e₀.keep _ _ e) (.inr (.inr rfl)) (a := G) rfl lk_ignore (by kernel_rfl)) (fun g s₁ h₁ => ?_) fun _ _ x => x.elim
  obtain ⟨rfl, e₁⟩ := h₁
  refine wpAny_mono ((ev_name hm : EV prog w K n env.scope ρ _ _) A env X s₁ hA rfl ((hS.ext e₀).ext e₁)) (fun u s₂ h₂ => ?_) fun _ _ x => x.elim
  obtain ⟨e₂, r₂⟩ := h₂
  obtain ⟨t, rfl⟩ := r₂.of_str
  have hd₂ := hd.at (h' := s₂.heap) fun o e => ((e₀.trans e₁).trans e₂).keep _ _ e
  exact wpAny_setItem_pairs (strKind_is _ _ _ _) hd₂ (fun h' hm' hs' => ⟨rfl, s₂, t₀, (e₀.trans e₁).trans e₂, hs', rfl, rfl, hm'⟩) hsz
theorem Cache.put {kvs : List (Str × Value)} {asked : List Str} {tr : Str → Int} {q : Nat} (c : Cache kvs asked tr q) {m : Str} {t : Tok} (hm : m ≠ "<string>") (hn : valueAt kvs m = none) : Cache (stored kvs m (.int (tr m) t)) (m :: asked) tr (q + 1) := by
  have hany : kvs.any (fun kv => kv.1 = m) = false := by
    rw [List.any_eq_false]
    intro kv hkv
    simp only [valueAt, Option.map_eq_none_iff, List.find?_eq_none] at hn
    exact hn kv hkv
  have hst : stored kvs m (.int (tr m) t) = kvs ++ [(m, .int (tr m) t)] := by unfold stored; rw [hany]; rfl
  have hva : ∀ k, valueAt (kvs ++ [(m, .int (tr m) t)]) k = (valueAt kvs k).or (if m = k then some (.int (tr m) t) else none) := fun k => by
    unfold valueAt
    rw [List.find?_append]
    cases hf : kvs.find? (fun kv => kv.1 = k) with
    | some p => rfl
    | none =>
      by_cases hk : m = k
      · simp [hk]
      · simp [hk]
  rw [hst]
  refine ⟨by rw [List.length_append]; exact Nat.add_le_add_right c.len 1, fun k v hk hv => ?_, fun k hk => ?_⟩
  · rw [hva] at hv
    cases hf : valueAt kvs k with
    | some u => rw [hf] at hv; exact c.says k v hk (by rw [hf]; exact hv)
    | none =>
      rw [hf] at hv
      simp only [Option.none_or] at hv
      split at hv
      · rename_i e; subst e; cases hv; exact ⟨t, rfl⟩
      · cases hv
  · rw [hva]
    rcases List.mem_cons.mp hk with rfl | hk
    · cases hf : valueAt kvs k with
      | some u => exact ⟨u, rfl⟩
      | none => exact ⟨.int (tr k) t, by simp⟩
    · obtain ⟨v, hv⟩ := c.has k hk
      exact ⟨v, by rw [hv]; rfl⟩
end Mine

open PySem PySem.W PyProof.Rows PySem.Calls
namespace Mine

variable {prog : Program} {w : World} {K : Frag} {n : Nat} {sc : Scope} {ρ : Rho} {own : List Str} {A : Around}

theorem ItAt.at {h h' : Heap} {I S : Addr} {es : Array (Int × Value)} {ep : Nat} {t : SetTable} {vs : List Value} {i : Nat} (hit : ItAt prog w h I S es ep t vs i) (kI : ∀ o, h.get? I = some o → h'.get? I = some o) (kS : ∀ o, h.get? S = some o → h'.get? S = some o)
    (kT : ∀ T a, h.get? T = some { cls := .type "tuple", data := .seq a } → h'.get? T = some { cls := .type "tuple", data := .seq a }) : ItAt prog w h' I S es ep t vs i := by
  obtain ⟨⟨o, ho, O⟩, hm⟩ := hit
  refine ⟨⟨o, kS _ ho, O⟩, ?_⟩
  rcases hm with ⟨a, b, slot, c⟩ | ⟨a, b, c, slot, d, e⟩ | ⟨a, b, T, pl, c, d, e, f⟩
  · exact .inl ⟨a, b, slot, kI _ c⟩
  · exact .inr (.inl ⟨a, b, c, slot, d, kI _ e⟩)
  · exact .inr (.inr ⟨a, b, T, pl, c, d, kI _ e, kT _ _ f⟩)
theorem ItAt.obj {h : Heap} {I S : Addr} {es : Array (Int × Value)} {ep : Nat} {t : SetTable} {vs : List Value} {i : Nat} (hit : ItAt prog w h I S es ep t vs i) : ∃ o, h.get? I = some o ∧ o.cls = .type "set_iterator" ∧ ∀ es ep, o.data ≠ .dict es ep := by
  obtain ⟨_, ⟨_, _, slot, c⟩ | ⟨_, _, _, slot, _, c⟩ | ⟨_, _, T, pl, _, _, c, _⟩⟩ := hit
  · exact ⟨_, c, rfl, fun _ _ => by simp [itObj]⟩
  · exact ⟨_, c, rfl, fun _ _ => by simp [itObj]⟩
  · exact ⟨_, c, rfl, fun _ _ => by simp [itObj]⟩
theorem Mv.forget {Z : Addr → Prop} {I : Addr} {s s₁ s' : Shared} (e : Ext s s₁) (m : Mv (fun b => Z b ∨ b = I) s₁ s') (hI : s.heap.get? I = none) : Mv Z s s' :=
  ⟨fun b o h hz => m.keep b o (e.keep _ _ h) fun q => q.elim hz fun q => (by rw [q, hI] at h; cases h), fun b o h => m.stay b o (e.keep _ _ h), m.gens.trans e.gens, m.os.trans e.os⟩

noncomputable def hits (ks : List Str) (m : Str) : Bool := ks.any fun k => Txt.startswith m (k ++ Str.ofString ".")
set_option maxRecDepth 8000 in
set_option maxHeartbeats 4000000 in
theorem loop_mods {C fI fN : Addr} (hK : KI K C fI fN) {x dx S D G : Addr} {env : Env} {X Z : Addr → Prop} {s : Shared} {fd : PyData} {m : Str} {ks asked : List Str} {q : Nat} {kvs : List (Str × Value)}
    {TEST : Expr} {p1 p2 p3 p10 p11 p12 p13 p14 p15 p16 p17 p18 p19 : Pos} (hA : AOk n A) (hS : SS K env [] Z X (rho x fd m) none none s) (hcel : env.cells = []) (hZl : ∀ b, Z b → b = env.locals) (hZX : ∀ b, Z b → X b)
    (hsto : stoB env.scope [] (Str.ofString "mod") = true)
    (R : Rd prog w C s.heap x dx S D G ks asked q) (hfX : ∀ b, five x dx S D G b → X b) (hfZ : ∀ b, five x dx S D G b → ¬ Z b) (hd : s.heap.DictOf (strKind prog w) G kvs) (hc : Cache kvs asked (tells ks) q) (hnone : valueAt kvs m = none) (hm : m ≠ "<string>")
    (hsz : q ≤ sizeLine) (test : ∀ k ∈ ks, TE prog w K n env.scope ((Str.ofString "mod", .str k) :: rho x fd m) TEST (Txt.startswith m (k ++ Str.ofString "."))) :
    wpAny (model prog w) A (exec (.For (.Name (Str.ofString "mod") p1) (.Attribute (.Name (Str.ofString "self") p2) (Str.ofString "_mods") p3)
        [.If TEST
          [.Assign [.Subscript (.Attribute (.Name (Str.ofString "self") p10) (Str.ofString "_ignore") p11) (.Name (Str.ofString "modulename") p12) p13] (.Constant (.int 1) 0 p14) p15, .Return (some (.Constant (.int 1) 0 p16)) p17] [] p18] [] p19) env)
      (fun fl s' => (hits ks m = true ∧ ∃ t, fl = .ret (.int 1 t) ∧ Rd prog w C s'.heap x dx S D G ks (m :: asked) (q + 1) ∧ Mv (fun b => Z b ∨ b = G) s s') ∨ (hits ks m = false ∧ fl = .next ∧ SS K env [] Z X (rho x fd m) none none s' ∧ Mv Z s s')) (fun _ _ => False) s := by
  have hself : List.lookup (Str.ofString "self") (rho x fd m) = some (rawD x) := lk0
  have hmod : List.lookup (Str.ofString "modulename") (rho x fd m) = some (.str m) := lk1 (by kernel_rfl) (lk1 (by kernel_rfl) lk0)
  refine opq fun Q hQ => ?_
  refine for_opq (wpAny_mono (ev_field hK hA hS.1 hself R.inst (.inl rfl) (a := S) rfl lk_mods (by kernel_rfl)) (fun v s₁ h₁ => ?_) fun _ _ x => x.elim) (by intro _; kernel_rfl)
  obtain ⟨rfl, e₁⟩ := h₁
  obtain ⟨o, es, ep, tb, ho, O, hz, hmem⟩ := R.set.at (h' := s₁.heap) fun o e => e₁.keep _ _ e
  refine set_iter ho O (by lia) fun I vs s₂ hp hIf hit e₂ Rr hRr => ?_
  have hIs : s.heap.get? I = none := by
    cases q : s.heap.get? I with
    | none => rfl
    | some o' => rw [e₁.keep _ _ q] at hIf; cases hIf
  have hval : ∀ (i : Nat) u, vs[i]? = some u → ∃ k t, u = .str k t ∧ k ∈ ks := fun i u hu => by
    have h1 : u ∈ es.toList.map (·.2) := hp.mem_iff.mp (List.mem_of_getElem? hu)
    obtain ⟨e, he, rfl⟩ := List.mem_map.mp h1
    obtain ⟨⟨k, hk, _⟩, _⟩ := O.els e he
    obtain ⟨t, ht⟩ := Value.isStrOf_shape hk
    exact ⟨k, t, ht, (hmem k).mpr ⟨e, he, hk⟩⟩
  have hall : ∀ k ∈ ks, ∃ (i : Nat) (t : Tok), vs[i]? = some (.str k t) := fun k hk => by
    obtain ⟨e, he, hk'⟩ := (hmem k).mp hk
    obtain ⟨t, ht⟩ := Value.isStrOf_shape hk'
    have h1 : e.2 ∈ vs := hp.mem_iff.mpr (List.mem_map.mpr ⟨e, he, rfl⟩)
    obtain ⟨i, hi⟩ := List.mem_iff_getElem?.mp h1
    exact ⟨i, t, by rw [hi, ht]⟩
  have e₁₂ := e₁.trans e₂
  have hIX : ¬ X I := fun hx => by obtain ⟨o', ho'⟩ := hS.1.live I hx; rw [hIs] at ho'; cases ho'
  have hIZ : ¬ Z I := fun hz => hIX (hZX _ hz)
  have hIS : I ≠ S := fun e => hIX (e ▸ hfX S (.inr (.inr (.inl rfl))))
  let X₂ : Addr → Prop := fun b => X b ∨ b = I
  have hS₂ : SS K env [] Z X₂ (rho x fd m) none none s₂ := hS.more e₁₂ (fun b hb => hb.imp id fun (q : b = I) => q ▸ hIs) (fun b hb => hb.elim (fun h => let ⟨o, q⟩ := hS.1.live b h; ⟨o, e₁₂.keep _ _ q⟩) fun (q : b = I) => let ⟨o, ho, _⟩ := hit.obj; ⟨o, q ▸ ho⟩) fun b hb => .inl hb
  have hloc : env.locals ≠ I := fun e => hIZ (e ▸ hS.2.loc)
  have hZX₂ : ∀ b, Z b → X₂ b := fun b hb => .inl (hZX b hb)
  obtain ⟨J, hJ⟩ : ∃ J : Nat → Shared → Prop, ∀ mm s', J mm s' ↔ ∃ i, mm = vs.length + 1 - i ∧ i ≤ vs.length ∧ ItAt prog w s'.heap I S es ep tb vs i ∧ (∀ j k t, j < i → vs[j]? = some (.str k t) → Txt.startswith m (k ++ Str.ofString ".") = false) ∧
    SS K env [] Z X₂ (rho x fd m) none none s' ∧ Mv (fun b => Z b ∨ b = I) s₂ s' := ⟨_, fun _ _ => Iff.rfl⟩
  refine codeAny_forLoop_any J (fun mm s' hI => ?_) (vs.length + 1) ((hJ _ _).mpr ⟨0, rfl, Nat.zero_le _, hit, fun j k t hj => absurd hj (Nat.not_lt_zero _), hS₂, Mv.refl _ _⟩)
  obtain ⟨i, rfl, hi, hit', hno, hS', mv'⟩ := (hJ _ _).mp hI
  by_cases hlt : i < vs.length
  · have hvi : vs[i]? = some vs[i] := List.getElem?_eq_getElem hlt
    obtain ⟨k, t, hkt, hk⟩ := hval i _ hvi
    refine set_next hit' hvi hIS (fun T oT hT hTc e => ?_) fun h₃ hsb hit₃ => ?_
    · obtain ⟨oI, hoI, hcI, _⟩ := hit'.obj
      rw [e, hoI] at hT; cases hT; rw [hcI] at hTc; simp at hTc
    refine wpAny_pure (a := ()) ?_
    have sb : Heap.SameBut I s'.heap h₃ := hsb
    have mv₃ : Mv (fun b => b = I) s' { s' with heap := h₃ } := by
      obtain ⟨oI, hoI, _⟩ := hit'.obj
      obtain ⟨oI', hoI', _⟩ := hit₃.obj
      exact Mv.at (tk := s'.toks) sb hoI hoI' rfl
    have hS₃ : SS K env [] Z X₂ (rho x fd m) none none { s' with heap := h₃ } := hS'.move mv₃ (fun b q => .inr q) (fun q => hloc q) (fun y c hy => by rw [hcel] at hy; cases hy)
    refine wpAny_assign_Name (wpAny_mono (ss_store (y := Str.ofString "mod") (d := .str k) hS₃ (Sto.of hsto) (fun _ _ e => by cases e) (by rw [hkt]; exact RX.str _ _)) (fun _ s₄ h₄ => ?_) fun _ _ x => x)
    obtain ⟨hS₄, mv₄⟩ := h₄
    have mv24 : Mv (fun b => Z b ∨ b = I) s₂ s₄ := mv'.trans ((mv₃.mono fun b q => .inr q).trans (mv₄.mono fun b q => .inl q))
    have hit₄ : ItAt prog w s₄.heap I S es ep tb vs (i + 1) := hit₃.at (fun o e => mv₄.keep _ _ e hIZ) (fun o e => mv₄.keep _ _ e (hfZ S (.inr (.inr (.inl rfl))))) (fun T a e => mv₄.keep _ _ e fun hz => by
      have hTl := hZl _ hz
      obtain ⟨_, ⟨oL, _, _, hoL, hdL, _⟩, _⟩ := hS₃.1.vars
      rw [← hTl] at hoL
      rw [e] at hoL; cases hoL; cases hdL)
    refine wpAny_execs_cons (wpAny_If (wpAny_mono (test k hk A env X₂ s₄ hA rfl hS₄.1) (fun b s₅ h₅ => ?_) fun _ _ x => x.elim))
    obtain ⟨e₅, rfl⟩ := h₅
    have hS₅ := hS₄.ext e₅
    have mv25 := mv24.trans (e₅.mv _)
    cases hb : Txt.startswith m (k ++ Str.ofString ".") with
    | true =>
      simp only [↓reduceIte]
      have hhit : hits ks m = true := List.any_eq_true.mpr ⟨k, hk, hb⟩
      have k05 : ∀ b o, five x dx S D G b → s.heap.get? b = some o → s₅.heap.get? b = some o := fun b o hb e => mv25.keep _ _ (e₁₂.keep _ _ e) fun q => q.elim (hfZ b hb) fun q => hIX (q ▸ hfX b hb)
      have R₅ := R.at k05
      have hd₅ := hd.at (h' := s₅.heap) fun o e => k05 _ _ (.inr (.inr (.inr (.inr rfl)))) e
      refine wpAny_execs_cons (wpAny_mono (put_cache hK hA hS₅.1 (lk1 (by kernel_rfl) hself) (lk1 (by kernel_rfl) hmod) R₅.inst hd₅ (Nat.le_trans hc.len hsz)) (fun fl s₆ h₆ => ?_) fun _ _ x => x.elim)
      obtain ⟨rfl, s₅', t', e₅', sb₆, g₆, os₆, hd₆⟩ := h₆
      refine wpAny_execs_cons (wpAny_Return_some (wpAny_Constant_int (hRr _ _ (hQ _ _ (.inl ⟨hhit, _, rfl, ?_, ?_⟩)))))
      · have ht : tells ks m = 1 := by
          unfold tells
          rw [if_pos]
          exact List.any_eq_true.mpr ⟨k, hk, by rw [hb, Bool.or_true]⟩
        refine (R₅.at (h' := s₅'.heap) fun b o _ e => e₅'.keep _ _ e).more sb₆ hd₆ ?_
        rw [← ht]; exact hc.put hm hnone
      · have m5 := Mv.forget e₁₂ (mv25.trans (e₅'.mv _)) hIs
        refine ⟨fun b o e hq => sb₆.extBut b o (fun q => hq (.inr q)) (m5.keep _ _ e fun q => hq (.inl q)), fun b o e => ?_, g₆.trans m5.gens, os₆.trans m5.os⟩
        obtain ⟨o', e'⟩ := m5.stay b o e
        by_cases hbG : b = G
        · obtain ⟨oo, _, _, hoo, _⟩ := hd₆; exact ⟨oo, hbG ▸ hoo⟩
        · exact ⟨o', sb₆.extBut b o' hbG e'⟩
    | false =>
      simp only [Bool.false_eq_true, ↓reduceIte]
      refine wpAny_execs_nil (wpAny_execs_nil ⟨vs.length + 1 - (i + 1), turn_lt hlt, (hJ _ _).mpr ⟨i + 1, rfl, hlt, hit₄.at (fun o e => e₅.keep _ _ e) (fun o e => e₅.keep _ _ e) (fun _ _ e => e₅.keep _ _ e), fun j k' t' hj hv => ?_, hS₅.fewer fun y d hy => ?_, mv25⟩⟩)
      · rcases Nat.lt_succ_iff_lt_or_eq.mp hj with h | rfl
        · exact hno j k' t' h hv
        · rw [hvi, hkt] at hv; cases hv; exact hb
      · rw [List.lookup_cons]
        have : (y == Str.ofString "mod") = false := by
          rcases lookup_cons_of hy with ⟨rfl, _⟩ | ⟨_, hy⟩
          · kernel_rfl
          · rcases lookup_cons_of hy with ⟨rfl, _⟩ | ⟨_, hy⟩
            · kernel_rfl
            · rcases lookup_cons_of hy with ⟨rfl, _⟩ | ⟨_, hy⟩
              · kernel_rfl
              · cases hy
        rw [this]; exact hy
  · have hin : i = vs.length := by lia
    subst hin
    refine set_next_end hA.hh hit' (List.getElem?_eq_none (Nat.le_refl _)) hp fun h₃ hx => ?_
    refine wpAny_execs_nil (hRr _ _ (hQ _ _ (.inr ⟨?_, rfl, ?_, ?_⟩)))
    · unfold hits
      rw [List.any_eq_false]
      intro k hk
      obtain ⟨j, t, hj⟩ := hall k hk
      rw [hno j k t (List.getElem?_eq_some_iff.mp hj).1 hj]; simp
    · exact hS'.drop (s' := { s' with heap := h₃ }) (W := fun b => b = I) (fun b o e hb => hx b o hb e) (fun b q => .inr q) (fun q => hloc q) (fun y c hy => by rw [hcel] at hy; cases hy) (fun b hb => ⟨.inl hb, fun q => hIX (q ▸ hb)⟩) hZX
    · have m2 := Mv.forget e₁₂ mv' hIs
      refine ⟨fun b o e hb => hx b o (fun q => by rw [q, hIs] at e; cases e) (m2.keep _ _ e hb), fun b o e => ?_, m2.gens, m2.os⟩
      obtain ⟨o', e'⟩ := m2.stay b o e
      exact ⟨o', hx b o' (fun q => by rw [q, hIs] at e; cases e) e'⟩
end Mine

open PySem PySem.W PyProof.Rows PySem.Calls
namespace Mine

variable {prog : Program} {w : World} {K : Frag} {n : Nat} {sc : Scope} {ρ : Rho} {own : List Str} {A : Around}

/-- for d in self._dirs, the list empty -/
theorem loop_dirs {C fI fN : Addr} (hK : KI K C fI fN) {x dx S D G : Addr} {env : Env} {X : Addr → Prop} {s : Shared} {target : Expr} {body : List Stmt} {p1 p2 p3 : Pos} (hA : AOk n A) (hS : St K env X ρ s) (hself : ρ.lookup (Str.ofString "self") = some (rawD x))
    (I : InstD s.heap x dx C (attrs S D G)) (hl : s.heap.PlainList D #[]) :
    wpAny (model prog w) A (exec (.For target (.Attribute (.Name (Str.ofString "self") p1) (Str.ofString "_dirs") p2) body [] p3) env) (fun fl s' => fl = .next ∧ Ext s s') (fun _ _ => False) s := by
  refine wpAny_For (wpAny_mono (ev_field hK hA hS hself I (.inr (.inl rfl)) (a := D) rfl lk_dirs (by kernel_rfl)) (fun v s₁ h₁ => ?_) fun _ _ x => x.elim) (by intro _; kernel_rfl)
  obtain ⟨rfl, e₁⟩ := h₁
  have hl₁ : s₁.heap.IsList D #[] := (hl.at fun o e => e₁.keep _ _ e).isList
  refine wpAny_pyIter_list hl₁ ?_
  have hne : D ≠ s₁.heap.objs.size := by obtain ⟨o, ho, _⟩ := hl₁; exact Nat.ne_of_lt (Heap.lt_size ho)
  have e₂ : Ext s₁ { s₁ with heap := s₁.heap.push { cls := .type "list_iterator", data := .fields #[.ref D, .int 0 0] } } := ⟨Keep.push _ _, rfl, rfl⟩
  have hI : (s₁.heap.push { cls := .type "list_iterator", data := .fields #[.ref D, .int 0 0] }).IsListIter s₁.heap.objs.size D 0 := ⟨_, Heap.get?_push_size _ rfl, rfl, rfl⟩
  have hl₂ := hl₁.push { cls := .type "list_iterator", data := .fields #[.ref D, .int 0 0] }
  have hIf : s₁.heap.get? s₁.heap.objs.size = none := get?_size_none _
  generalize hs₂ : ({ s₁ with heap := s₁.heap.push { cls := .type "list_iterator", data := .fields #[.ref D, .int 0 0] } } : Shared) = s₂ at e₂ ⊢
  have hI₂ : s₂.heap.IsListIter s₁.heap.objs.size D 0 := by rw [← hs₂]; exact hI
  have hl₃ : s₂.heap.IsList D #[] := by rw [← hs₂]; exact hl₂
  generalize s₁.heap.objs.size = I at *
  refine codeAny_forLoop_any (fun mm s' => s' = s₂) (fun mm s' hq => ?_) 0 rfl
  subst hq
  refine (Walks.list hA.hh I D hne #[]).done s' _ _ ⟨hI₂, hl₃⟩ fun h' tk hk => ?_
  refine wpAny_execs_nil ⟨rfl, ⟨fun b o e => hk b o (fun q => ?_) (e₂.keep _ _ (e₁.keep _ _ e)), e₂.gens.trans e₁.gens, e₂.os.trans e₁.os⟩⟩
  obtain rfl := List.mem_singleton.mp q
  rw [e₁.keep _ _ e] at hIf; cases hIf

theorem Cache.mono {kvs : List (Str × Value)} {asked asked' : List Str} {tr : Str → Int} {q q' : Nat} (c : Cache kvs asked tr q) (h : q ≤ q') (ha : ∀ k ∈ asked', ∃ v, valueAt kvs k = some v) : Cache kvs asked' tr q' := ⟨Nat.le_trans c.len h, c.says, ha⟩
/-- what a call of names changes, seen from its caller -/
theorem mv_call {Z : Addr → Prop} {G : Addr} {s s₁ s' : Shared} (e : Ext s s₁) (hZ : ∀ b, Z b → s.heap.get? b = none) (m : Mv (fun b => Z b ∨ b = G) s₁ s') : Mv (fun b => b = G) s s' :=
  ⟨fun b o h hz => m.keep b o (e.keep _ _ h) fun q => q.elim (fun q => (by rw [hZ b q] at h; cases h)) hz, fun b o h => m.stay b o (e.keep _ _ h), m.gens.trans e.gens, m.os.trans e.os⟩

set_option maxRecDepth 8000 in
set_option maxHeartbeats 4000000 in
theorem names_call {C fI fN : Addr} {fdN : FuncData} (hK : KI K C fI fN) (D : DefB K fN fdN (cbodyAt 9 1) [Str.ofString "self", Str.ofString "filename", Str.ofString "modulename"]) (hsc : fdN.scope = cscopeAt 9 1)
    {X : Addr → Prop} {s : Shared} {vs : List Value} {x dx S Dd G : Addr} {ks asked : List Str} {q : Nat} {m : Str} {file : PyData} (hA : AOk (n + 1) A) (hg : GFX K X s.heap) (hl : Live X s.heap)
    (R : Rd prog w C s.heap x dx S Dd G ks asked q) (hfX : ∀ b, five x dx S Dd G b → X b) (hm : m ≠ "<string>") (hsz : q ≤ sizeLine) (hlen : ∀ k ∈ ks, k.length + 1 ≤ sizeLine)
    (hr : RXs X s.heap vs [rawD x, file, .str m]) (hfile : (∃ y, file = .str y) ∨ m ∈ asked) :
    wpAny (model prog w) A (call (.ref fN) vs) (fun v s' => (∃ t, v = .int (tells ks m) t) ∧ Rd prog w C s'.heap x dx S Dd G ks (m :: asked) (q + 1) ∧ Mv (fun b => b = G) s s') (fun _ _ => False) s := by
  refine opq fun Q hQ => ?_
  refine call_defB (n := n) D rfl hA hg hl hr fun env X' Z s₁ hA₁ hsc₁ hcel₁ hZl hZX hX' hZf e₁ hS₁ => ?_
  refine opq fun Q₂ hQ₂ => ?_
  have hQ₃ : ∀ v s', _ → Q₂ (.ret v) s' := fun v s' h => hQ₂ (.ret v) s' (hQ v s' h)
  clear hQ₂ hQ
  generalize Around.deeper A env = A' at hA₁ ⊢
  rw [hsc] at hsc₁
  have hS : SS K env [] Z X' (rho x file m) none none s₁ := hS₁
  have hfX' : ∀ b, five x dx S Dd G b → X' b := fun b hb => (hX' b).mpr (.inl (hfX b hb))
  have hfZ : ∀ b, five x dx S Dd G b → ¬ Z b := fun b hb hz => by
    obtain ⟨o, ho⟩ := hl b (hfX b hb)
    rw [hZf b hz] at ho; cases ho
  have hself : List.lookup (Str.ofString "self") (rho x file m) = some (rawD x) := lk0
  have hmod : List.lookup (Str.ofString "modulename") (rho x file m) = some (.str m) := lk1 (by kernel_rfl) (lk1 (by kernel_rfl) lk0)
  have R₁ := R.at (h' := s₁.heap) fun b o _ e => e₁.keep _ _ e
  obtain ⟨kvs, hd, hc⟩ := R₁.dict
  -- if modulename in self._ignore
  refine wpAny_execs_cons (wpAny_If (wpAny_mono (test_cache hK hA₁ hS.1 hself hmod R₁.inst hd R.sys) (fun b s₂ h₂ => ?_) fun _ _ x => x))
  obtain ⟨rfl, e₂⟩ := h₂
  have hS₂ := hS.ext e₂
  have R₂ := R₁.at (h' := s₂.heap) fun b o _ e => e₂.keep _ _ e
  have hd₂ := hd.at (h' := s₂.heap) fun o e => e₂.keep _ _ e
  cases hva : valueAt kvs m with
  | some v =>
    simp only [Option.isSome_some, ↓reduceIte]
    refine wpAny_execs_cons (wpAny_Return_some (wpAny_mono (get_cache hK hA₁ hS₂.1 hself hmod R₂.inst hd₂ hva) (fun r s₃ h₃ => ?_) fun _ _ x => x))
    obtain ⟨rfl, e₃⟩ := h₃
    have R₃ := R₂.at (h' := s₃.heap) fun b o _ e => e₃.keep _ _ e
    refine hQ₃ _ _ ⟨hc.says m _ hm hva, ⟨R₃.inst, R₃.set, R₃.dirs, ⟨kvs, hd₂.at fun o e => e₃.keep _ _ e, hc.mono (Nat.le_succ _) fun k hk => ?_⟩, R₃.ne, R₃.sys⟩, mv_call e₁ hZf ((e₂.trans e₃).mv _)⟩
    rcases List.mem_cons.mp hk with rfl | hk
    · exact ⟨_, hva⟩
    · exact hc.has k hk
  | none =>
    have hna : m ∉ asked := fun h => by obtain ⟨v, hv⟩ := hc.has m h; rw [hva] at hv; cases hv
    obtain ⟨y, rfl⟩ := hfile.resolve_right hna
    simp only [Option.isSome_none, Bool.false_eq_true, ↓reduceIte]
    refine wpAny_execs_nil ?_
    -- what a store of the answer leaves
    have fin : ∀ {s₃ s₄ s₅ : Shared} {t : Tok}, Mv (fun b => Z b ∨ b = G) s₁ s₃ → Rd prog w C s₃.heap x dx S Dd G ks asked q → Ext s₃ s₄ → Heap.SameBut G s₄.heap s₅.heap → s₅.gens = s₄.gens → s₅.os = s₄.os →
        s₅.heap.DictOf (strKind prog w) G (stored kvs m (.int (tells ks m) t)) → Rd prog w C s₅.heap x dx S Dd G ks (m :: asked) (q + 1) ∧ Mv (fun b => b = G) s s₅ := by
      intro s₃ s₄ s₅ t mv R₃ e₄ sb g o hd₅
      refine ⟨(R₃.at (h' := s₄.heap) fun b o _ e => e₄.keep _ _ e).more sb hd₅ (hc.put hm hva), mv_call e₁ hZf ?_⟩
      have m4 := mv.trans (e₄.mv _)
      refine ⟨fun b o e hq => sb.extBut b o (fun q => hq (.inr q)) (m4.keep _ _ e hq), fun b o e => ?_, g.trans m4.gens, o.trans m4.os⟩
      obtain ⟨o', e'⟩ := m4.stay b o e
      by_cases hbG : b = G
      · obtain ⟨oo, _, _, hoo, _⟩ := hd₅; exact ⟨oo, hbG ▸ hoo⟩
      · exact ⟨o', sb.extBut b o' hbG e'⟩
    -- if modulename in self._mods
    refine wpAny_execs_cons (wpAny_If (wpAny_mono (test_mods hK hA₁ hS₂.1 hself hmod R₂.inst R₂.set) (fun b s₃ h₃ => ?_) fun _ _ x => x))
    obtain ⟨rfl, e₃⟩ := h₃
    have hS₃ := hS₂.ext e₃
    have R₃ := R₂.at (h' := s₃.heap) fun b o _ e => e₃.keep _ _ e
    have hd₃ := hd₂.at (h' := s₃.heap) fun o e => e₃.keep _ _ e
    have hkl : kvs.length ≤ sizeLine := Nat.le_trans hc.len hsz
    by_cases hin : m ∈ ks
    · simp only [hin, decide_true, ↓reduceIte]
      have ht : tells ks m = 1 := by
        unfold tells
        rw [if_pos]
        exact List.any_eq_true.mpr ⟨m, hin, by simp⟩
      refine wpAny_execs_cons (wpAny_mono (put_cache hK hA₁ hS₃.1 hself hmod R₃.inst hd₃ hkl) (fun fl s₅ h₅ => ?_) fun _ _ x => x)
      obtain ⟨rfl, s₄, t, e₄, sb, g, o, hd₅⟩ := h₅
      rw [← ht] at hd₅
      refine wpAny_execs_cons (wpAny_Return_some (wpAny_Constant_int (hQ₃ _ _ ⟨⟨_, by rw [ht]⟩, fin ((e₂.trans e₃).mv _) R₃ e₄ sb g o hd₅⟩)))
    · simp only [hin, decide_false, Bool.false_eq_true, ↓reduceIte]
      refine wpAny_execs_nil ?_
      -- for mod in self._mods
      refine wpAny_execs_cons (wpAny_mono (loop_mods hK hA₁ hS₃ hcel₁ hZl hZX (by rw [hsc₁]; kernel_rfl) R₃ hfX' hfZ hd₃ hc hva hm hsz (fun k hk => ?_)) (fun fl s₄ h₄ => ?_) fun _ _ x => x)
      · refine te_bool ?_
        have hl1 : k.length + (Str.ofString ".").length ≤ sizeLine := hlen k hk
        with_reducible refine ev_meth (ev_name (lk1 (by kernel_rfl) hmod)) gm_startswith (evs_cons (ev_bin (ev_name lk0) ev_str (bo_strs hl1)) evs_nil) ca_startswith
      rcases h₄ with ⟨hh, t, rfl, R₄, mv₄⟩ | ⟨hh, rfl, hS₄, mv₄⟩
      · have ht : tells ks m = 1 := by
          unfold tells
          rw [if_pos]
          obtain ⟨k, hk, hb⟩ := List.any_eq_true.mp hh
          exact List.any_eq_true.mpr ⟨k, hk, by rw [hb, Bool.or_true]⟩
        exact hQ₃ _ _ ⟨⟨t, by rw [ht]⟩, R₄, mv_call e₁ hZf (((e₂.trans e₃).mv _).trans mv₄)⟩
      · have ht : tells ks m = 0 := by
          unfold tells
          rw [if_neg]
          intro h
          obtain ⟨k, hk, hb⟩ := List.any_eq_true.mp h
          rw [Bool.or_eq_true] at hb
          rcases hb with hb | hb
          · rw [beq_iff_eq] at hb; exact hin (hb ▸ hk)
          · have := List.any_eq_false.mp hh k hk; exact this hb
        have k34 : ∀ b o, five x dx S Dd G b → s₃.heap.get? b = some o → s₄.heap.get? b = some o := fun b o hb e => mv₄.keep _ _ e (hfZ b hb)
        have R₄ := R₃.at k34
        have hd₄ := hd₃.at (h' := s₄.heap) fun o e => k34 _ _ (.inr (.inr (.inr (.inr rfl)))) e
        -- if filename is None
        have test : TE prog w K n env.scope (rho x (.str y) m) (.Compare (.Name (Str.ofString "filename") { line := 86, col := 11, endLine := 86, endCol := 19 }) [.Is] [.Constant .none 0 { line := 86, col := 23, endLine := 86, endCol := 27 }] { line := 86, col := 11, endLine := 86, endCol := 27 }) false :=
          te_cmp (ev_name (lk1 (by kernel_rfl) lk0)) ev_none co_is_none_str
        refine wpAny_execs_cons (wpAny_If (wpAny_mono (test _ env X' s₄ hA₁ rfl hS₄.1) (fun b s₅ h₅ => ?_) fun _ _ x => x.elim))
        obtain ⟨e₅, rfl⟩ := h₅
        have hS₅ := hS₄.ext e₅
        have R₅ := R₄.at (h' := s₅.heap) fun b o _ e => e₅.keep _ _ e
        have hd₅ := hd₄.at (h' := s₅.heap) fun o e => e₅.keep _ _ e
        simp only [Bool.false_eq_true, ↓reduceIte]
        refine wpAny_execs_nil ?_
        -- for d in self._dirs
        refine wpAny_execs_cons (wpAny_mono (loop_dirs hK hA₁ hS₅.1 hself R₅.inst R₅.dirs) (fun fl s₆ h₆ => ?_) fun _ _ x => x.elim)
        obtain ⟨rfl, e₆⟩ := h₆
        have hS₆ := hS₅.ext e₆
        have R₆ := R₅.at (h' := s₆.heap) fun b o _ e => e₆.keep _ _ e
        have hd₆ := hd₅.at (h' := s₆.heap) fun o e => e₆.keep _ _ e
        -- self._ignore[modulename] = 0; return 0
        refine wpAny_execs_cons (wpAny_mono (put_cache hK hA₁ hS₆.1 hself hmod R₆.inst hd₆ hkl) (fun fl s₈ h₈ => ?_) fun _ _ x => x)
        obtain ⟨rfl, s₇, t, e₇, sb, g, o, hd₈⟩ := h₈
        rw [← ht] at hd₈
        refine wpAny_execs_cons (wpAny_Return_some (wpAny_Constant_int (hQ₃ _ _ ⟨⟨_, by rw [ht]⟩, fin (((e₂.trans e₃).mv _).trans ((mv₄.mono fun b h => .inl h).trans ((e₅.trans e₆).mv _))) R₆ e₇ sb g o hd₈⟩)))
end Mine

open PySem PySem.W PyProof.Rows PySem.Calls
namespace Mine

theorem rep_pre {A B : Wd} (hB : ∀ t, B ≠ 97 :: t) : ∀ (m n : Nat), List.replicate m 97 ++ 46 :: A <+: List.replicate n 97 ++ B ↔ m = n ∧ 46 :: A <+: B
  | 0, 0 => by simp
  | 0, n + 1 => by simp [List.replicate_succ, List.cons_prefix_cons]
  | m + 1, 0 => by
    simp only [List.replicate_succ, List.cons_append, List.replicate_zero, List.nil_append]
    refine ⟨fun h => ?_, fun h => absurd h.1 (by lia)⟩
    obtain ⟨t, ht⟩ := h
    exact absurd ht.symm (by rw [List.cons_append]; exact hB _)
  | m + 1, n + 1 => by
    simp only [List.replicate_succ, List.cons_append, List.cons_prefix_cons, true_and]
    rw [rep_pre hB m n]
    constructor
    · rintro ⟨rfl, h⟩; exact ⟨rfl, h⟩
    · rintro ⟨h1, h⟩; exact ⟨by lia, h⟩
theorem dots_dot (y : Wd) : ∃ A, dots y ++ [46] = 46 :: A := by
  cases y with
  | nil => exact ⟨[], rfl⟩
  | cons c t => exact ⟨_, by rw [dots, List.flatMap_cons, List.cons_append, List.cons_append]⟩
theorem dots_cons (c : Nat) (t : Wd) : dots (c :: t) ++ [46] = 46 :: (List.replicate (c - 96) 97 ++ (dots t ++ [46])) := by
  simp [dots, List.flatMap_cons]
theorem dots_pre : ∀ {h x : Wd}, abc h → abc x → (dots h ++ [46] <+: dots x ++ [46] ↔ h <+: x)
  | [], x, _, _ => by
    obtain ⟨A, hA⟩ := dots_dot x
    rw [hA]
    simp [dots, List.cons_prefix_cons]
  | c :: h, [], _, _ => by
    rw [dots_cons]
    obtain ⟨A, hA⟩ := dots_dot h
    rw [hA]
    constructor
    · intro q
      have := q.length_le
      simp [dots] at this
    · intro q; simp at q
  | c :: h, d :: x, hh, hx => by
    rw [dots_cons, dots_cons, List.cons_prefix_cons]
    obtain ⟨A, hA⟩ := dots_dot h
    obtain ⟨B, hB⟩ := dots_dot x
    have ih := dots_pre (h := h) (x := x) (fun a ha => hh a (List.mem_cons_of_mem _ ha)) fun a ha => hx a (List.mem_cons_of_mem _ ha)
    rw [hA] at ih ⊢
    rw [rep_pre (fun t e => by rw [hB] at e; simp at e), ih, List.cons_prefix_cons]
    have h1 := hh c List.mem_cons_self
    have h2 := hx d List.mem_cons_self
    constructor
    · rintro ⟨_, h3, h4⟩; exact ⟨by lia, h4⟩
    · rintro ⟨h3, h4⟩; exact ⟨rfl, by lia, h4⟩
theorem nm_pre {h x : Wd} (hh : abc h) (hx : abc x) : (nm x = nm h ∨ nm h ++ [46] <+: nm x) ↔ h <+: x := by
  rw [← dots_pre hh hx]
  unfold nm
  rw [List.cons_append, List.cons_prefix_cons]
  rw [show dots x ++ [46] = (dots x).concat 46 from by simp, List.concat_eq_append, List.prefix_concat_iff]
  constructor
  · rintro (h1 | ⟨_, h1⟩)
    · rw [(List.cons.inj h1).2]; exact .inl rfl
    · exact .inr h1
  · rintro (h1 | h1)
    · have := List.append_cancel_right h1
      rw [this]; exact .inl rfl
    · exact .inr ⟨rfl, h1⟩
theorem starts_list (a b : Wd) : Txt.startswith (strOf a) (strOf b) = b.isPrefixOf a := by
  unfold Txt.startswith
  rw [StrLaws.subAt_eq]
  have e1 : (strOf a).cps.toList = a := by simp [strOf]
  have e2 : (strOf b).cps.toList = b := by simp [strOf]
  have e3 : (strOf a).length = a.length := str_len a
  have e4 : (strOf b).length = b.length := str_len b
  rw [e1, e2, e3, e4, List.drop_zero, Nat.zero_add]
  rw [Bool.eq_iff_iff]
  simp only [Bool.and_eq_true, decide_eq_true_eq, beq_iff_eq, List.isPrefixOf_iff_prefix]
  constructor
  · rintro ⟨_, h⟩; rw [← h]; exact List.take_prefix _ _
  · intro h; exact ⟨h.length_le, (List.prefix_iff_eq_take.mp h).symm⟩
theorem strOf_dot (a : Wd) : strOf a ++ Str.ofString "." = strOf (a ++ [46]) := by
  have : Str.ofString "." = strOf [46] := by kernel_rfl
  rw [this]; exact str_app a [46]
theorem strOf_inj {a b : Wd} (h : strOf a = strOf b) : a = b := by
  unfold strOf at h; injection h with h; exact congrArg Array.toList h
/-- what a reader of names tells of a name -/
theorem tells_nm {ws : List Wd} {x : Wd} (hw : ∀ o ∈ ws, abc o) (hx : abc x) : tells ((ws.map nm).map strOf).reverse (strOf (nm x)) = if ws.any (fun o => o.isPrefixOf x) then 1 else 0 := by
  unfold tells
  rw [List.any_reverse, List.any_map, List.any_map]
  have key : ∀ o ∈ ws, ((((fun m => strOf (nm x) == m || Txt.startswith (strOf (nm x)) (m ++ Str.ofString ".")) ∘ strOf) ∘ nm) o = true ↔ o.isPrefixOf x = true) := fun o ho => by
    simp only [Function.comp_def]
    rw [strOf_dot, starts_list, Bool.or_eq_true, beq_iff_eq, List.isPrefixOf_iff_prefix, List.isPrefixOf_iff_prefix, ← nm_pre (hw o ho) hx]
    constructor
    · rintro (h | h)
      · exact .inl (strOf_inj h)
      · exact .inr h
    · rintro (h | h)
      · exact .inl (by rw [h])
      · exact .inr h
  have e : ws.any (((fun m => strOf (nm x) == m || Txt.startswith (strOf (nm x)) (m ++ Str.ofString ".")) ∘ strOf) ∘ nm) = ws.any (fun o => o.isPrefixOf x) := ?_
  · rw [e]
  rw [Bool.eq_iff_iff, List.any_eq_true, List.any_eq_true]
  constructor
  · rintro ⟨o, ho, h⟩; exact ⟨o, ho, (key o ho).mp h⟩
  · rintro ⟨o, ho, h⟩; exact ⟨o, ho, (key o ho).mpr h⟩
theorem nm_ne (x : Wd) : strOf (nm x) ≠ "<string>" := by
  intro h
  have : strOf (nm x) = strOf [60, 115, 116, 114, 105, 110, 103, 62] := h
  have := strOf_inj this
  unfold nm at this
  cases this
theorem nm_len {x : Wd} (h : abc x) : (nm x).length ≤ 4 * x.length + 1 := by
  have := dots_len h
  unfold nm
  rw [List.length_cons]; lia
end Mine

open PySem PySem.W PyProof.Rows PySem.Calls
namespace Mine

variable {prog : Program} {w : World} {K : Frag} {n : Nat} {sc : Scope} {ρ : Rho} {own : List Str} {A : Around}

/-- what the text's top says of readers -/
structure KR (K : Frag) : Prop where
  ki : KI K 79 69 76
  di : ∃ fd, DefB K 69 fd (cbodyAt 9 0) [Str.ofString "self", Str.ofString "modules", Str.ofString "dirs"] ∧ fd.scope = cscopeAt 9 0
  dn : ∃ fd, DefB K 76 fd (cbodyAt 9 1) [Str.ofString "self", Str.ofString "filename", Str.ofString "modulename"] ∧ fd.scope = cscopeAt 9 1
  glob : nsIn K mainGlobals (Str.ofString "_Ignore") = some (some (.ref 79))
  set_ : nsIn K mainGlobals (Str.ofString "set") = some none
  str_ : nsIn K mainGlobals (Str.ofString "str") = some none

/-- _Ignore(names, []) -/
theorem eval_make (R0 : KR K) {env : Env} {X : Addr → Prop} {s : Shared} {e1 e2 : Expr} {ws : List Wd} {p pos : Pos} (hA : AOk (n + 2) A) (hS : St K env X ρ s) (hk : env.scope.names.lookup (Str.ofString "_Ignore") = some .globalImplicit)
    (hs : EVs prog w K (n + 2) env.scope ρ [e1, e2] [lD ws, .list []]) (hz : ws.length ≤ 8)
    (he : autoParam (∀ env, starEach [e1, e2] env = (false, eval e1 env) :: starEach [e2] env) auK)
    (hplain : autoParam (∀ env, (backTo pos (starEach [e2] env)).any (·.1) = false) auK) :
    wpAny (model prog w) A (eval (.Call (.Name (Str.ofString "_Ignore") p) [e1, e2] [] pos) env)
      (fun v s' => ∃ x dx S D G, v = .ref x ∧ Ext s s' ∧ Rd prog w 79 s'.heap x dx S D G (ws.map strOf).reverse [] 1 ∧ ∀ b, five x dx S D G b → s.heap.get? b = none) (fun _ _ => False) s := by
  obtain ⟨N, mN, hX, _⟩ := R0.ki.cls
  obtain ⟨fdI, DI, hscI⟩ := R0.di
  refine opq fun Q hQ => ?_
  refine Call_ (glob_own hS hk R0.glob (by kernel_rfl) ?_)
  refine callWith_cls (hX s.heap hS.gf.gf.kin) (wpAny_mono (hs A env X s pos hA rfl hS) (fun vs s₁ h₁ => ?_) fun _ _ x => x.elim) (he env) (hplain env)
  obtain ⟨e₁, r₁⟩ := h₁
  have hS₁ := hS.ext e₁
  refine ⟨e₁.keep, wpAny_mono (mk_reader R0.ki DI R0.set_ hscI hA hS₁.gf hS₁.live r₁ hz) (fun v s₂ h₂ => ?_) fun _ _ x => x⟩
  obtain ⟨x, dx, S, D, G, rfl, e₂, R, hf⟩ := h₂
  refine hQ _ _ ⟨x, dx, S, D, G, rfl, e₁.trans e₂, R, fun b hb => ?_⟩
  cases q : s.heap.get? b with
  | none => rfl
  | some o => have := hf b hb; rw [e₁.keep _ _ q] at this; cases this

/-- reader.names(file, m) -/
theorem eval_ask (R0 : KR K) {env : Env} {X : Addr → Prop} {s : Shared} {e1 e2 : Expr} {r : Str} {x dx S D G : Addr} {ks asked : List Str} {q : Nat} {m : Str} {file : PyData} {p1 p2 pos : Pos} (hA : AOk (n + 2) A) (hS : St K env X ρ s) (hr : ρ.lookup r = some (rawD x))
    (hs : EVs prog w K (n + 2) env.scope ρ [e1, e2] [file, .str m])
    (R : Rd prog w 79 s.heap x dx S D G ks asked q) (hfX : ∀ b, five x dx S D G b → X b) (hm : m ≠ "<string>") (hsz : q ≤ sizeLine) (hlen : ∀ k ∈ ks, k.length + 1 ≤ sizeLine) (hfile : (∃ y, file = .str y) ∨ m ∈ asked)
    (hd : (r == ("__debug__" : Str)) = false) (hc : (r == ("__classdict__" : Str)) = false)
    (he : starEach [e1, e2] env = (false, eval e1 env) :: starEach [e2] env)
    (hcall : eval (.Call (.Attribute (.Name r p1) (Str.ofString "names") p2) [e1, e2] [] pos) env = (do
      let ov ← eval (.Name r p1) env
      standAt p2.atName
      let (f, first) ← holding [ov] (getMethod ov (Str.ofString "names") (do return (← importBound (.Name r p1) env).getD true))
      callWith pos f first (backTo pos (starEach [e1, e2] env)) [])) :
    wpAny (model prog w) A (eval (.Call (.Attribute (.Name r p1) (Str.ofString "names") p2) [e1, e2] [] pos) env)
      (fun v s' => (∃ t, v = .int (tells ks m) t) ∧ Rd prog w 79 s'.heap x dx S D G ks (m :: asked) (q + 1) ∧ Mv (fun b => b = G) s s') (fun _ _ => False) s := by
  obtain ⟨N, mN, hX, _, hnm, _, hga, hgt, _⟩ := R0.ki.cls
  obtain ⟨fdN, DN, hscN⟩ := R0.dn
  obtain ⟨oN, hoN, hcls, hdat⟩ := DN.at_
  refine opq fun Q hQ => ?_
  refine MethodCall_ (he := hcall) (wpAny_mono ((ev_name hr hd hc : EV prog w K (n + 2) env.scope ρ _ _) A env X s hA rfl hS) (fun v s₁ h₁ => ?_) fun _ _ x => x.elim)
  obtain ⟨e₁, r₁⟩ := h₁
  obtain rfl := r₁.of_raw
  have hS₁ := hS.ext e₁
  have R₁ := R.at (h' := s₁.heap) fun b o _ e => e₁.keep _ _ e
  have X0 := hX s₁.heap hS₁.gf.gf.kin
  obtain ⟨nm, qn, bs, sn, sub, col, dd, k0, k1, k2, k3, k5, hC⟩ := X0.obj
  have hoN₁ := hS₁.gf.gf.kin _ _ hoN
  obtain ⟨hh, g, d, t, os⟩ := s₁
  refine method_of hC X0.ns hga hgt hnm hoN₁ hcls lk_names R₁.inst.inst rfl ?_
  refine callWith_meth (h₀ := hh) hdat hoN₁ (wpAny_mono (hs A env X _ pos hA rfl hS₁) (fun vs s₂ h₂ => ?_) fun _ _ x => x.elim) he
  obtain ⟨e₂, r₂⟩ := h₂
  have hS₂ := hS₁.ext e₂
  refine ⟨e₂.keep, ?_⟩
  refine wpAny_mono (names_call R0.ki DN hscN (n := n + 1) hA hS₂.gf hS₂.live (R₁.at (h' := s₂.heap) fun b o _ e => e₂.keep _ _ e) hfX hm hsz hlen (RXs.cons (.raw x) r₂) hfile) (fun v s₃ h₃ => ?_) fun _ _ x => x
  exact hQ _ _ ⟨h₃.1, h₃.2.1, ((e₁.trans e₂).mv _).trans h₃.2.2⟩

/-- what str makes of an answer -/
noncomputable def saysD (b : Int) : PyData := .str (toString b)
/-- str(reader.names(file, m)) -/
theorem eval_says (R0 : KR K) {env : Env} {X : Addr → Prop} {s : Shared} {e1 e2 : Expr} {r : Str} {x dx S D G : Addr} {ks asked : List Str} {q : Nat} {m : Str} {file : PyData} {p0 p1 p2 pos pos' : Pos} (hA : AOk (n + 2) A) (hS : St K env X ρ s) (hr : ρ.lookup r = some (rawD x))
    (hk : env.scope.names.lookup (Str.ofString "str") = some .globalImplicit)
    (hs : EVs prog w K (n + 2) env.scope ρ [e1, e2] [file, .str m])
    (R : Rd prog w 79 s.heap x dx S D G ks asked q) (hfX : ∀ b, five x dx S D G b → X b) (hm : m ≠ "<string>") (hsz : q ≤ sizeLine) (hlen : ∀ k ∈ ks, k.length + 1 ≤ sizeLine) (hfile : (∃ y, file = .str y) ∨ m ∈ asked)
    (hd : (r == ("__debug__" : Str)) = false) (hc : (r == ("__classdict__" : Str)) = false)
    (he : starEach [e1, e2] env = (false, eval e1 env) :: starEach [e2] env)
    (hcall : eval (.Call (.Attribute (.Name r p1) (Str.ofString "names") p2) [e1, e2] [] pos) env = (do
      let ov ← eval (.Name r p1) env
      standAt p2.atName
      let (f, first) ← holding [ov] (getMethod ov (Str.ofString "names") (do return (← importBound (.Name r p1) env).getD true))
      callWith pos f first (backTo pos (starEach [e1, e2] env)) [])) :
    wpAny (model prog w) A (eval (.Call (.Name (Str.ofString "str") p0) [.Call (.Attribute (.Name r p1) (Str.ofString "names") p2) [e1, e2] [] pos] [] pos') env)
      (fun v s' => (∃ t, v = .str (toString (tells ks m)) t) ∧ Rd prog w 79 s'.heap x dx S D G ks (m :: asked) (q + 1) ∧ Mv (fun b => b = G) s s') (fun _ _ => False) s := by
  refine opq fun Q hQ => ?_
  refine Call_ (glob_builtin (v := .type "str") hS hk R0.str_ (by kernel_rfl) (by decide +kernel) (by decide +kernel) ?_)
  refine callWith_type1 (args_cons (wpAny_mono (eval_ask R0 hA hS hr hs R hfX hm hsz hlen hfile hd hc he hcall) (fun v s₁ h₁ => args_nil ?_) fun _ _ x => x) (by kernel_rfl)) (by kernel_rfl) (by kernel_rfl)
  obtain ⟨⟨t, rfl⟩, R₁, mv₁⟩ := h₁
  have hlog : (tells ks m).natAbs.log2 < 1920 := by
    unfold tells
    split <;> decide
  exact P.str_of_int hlog (hQ _ _ ⟨⟨_, rfl⟩, R₁.at (fun b o _ e => e), mv₁.trans ((Ext.tok _).mv _)⟩)
end Mine

open PySem PySem.W PyProof.Rows PySem.Calls
namespace Mine

variable {prog : Program} {w : World} {K : Frag} {n : Nat} {sc : Scope} {ρ : Rho} {own : List Str} {A : Around}

theorem Mv.fresh {Z F : Addr → Prop} {s s₁ s' : Shared} (m₁ : Mv Z s s₁) (m : Mv (fun b => Z b ∨ F b) s₁ s') (hF : ∀ b, F b → s.heap.get? b = none) : Mv Z s s' :=
  ⟨fun b o h hz => m.keep b o (m₁.keep _ _ h hz) fun q => q.elim hz fun q => (by rw [hF b q] at h; cases h), fun b o h => (let ⟨o', e'⟩ := m₁.stay b o h; m.stay b o' e'), m.gens.trans m₁.gens, m.os.trans m₁.os⟩
theorem SS.live {env : Env} {Z X : Addr → Prop} {ow : OwS} {oa : Option Addr} {s : Shared} (h : SS K env own Z X ρ ow oa s) : Live X s.heap := h.full.live
theorem SS.locals_live {env : Env} {Z X : Addr → Prop} {ow : OwS} {oa : Option Addr} {s : Shared} (h : SS K env own Z X ρ ow oa s) : ∃ o, s.heap.get? env.locals = some o :=
  let ⟨_, ⟨o, _, _, ho, _⟩, _⟩ := h.full.vars; ⟨o, ho⟩
theorem SS.less {env : Env} {Z X Y : Addr → Prop} {ow : OwS} {oa : Option Addr} {s : Shared} (h : SS K env own Z X ρ ow oa s) (hY : ∀ b, Y b → X b) (hZ : ∀ b, Z b → Y b) : SS K env own Z Y ρ ow oa s :=
  h.drop (W := fun _ => False) (KeepX.refl _ _) (fun _ h => h.elim) (fun h => h) (fun _ _ _ h => h) (fun b hb => ⟨hY b hb, fun h => h⟩) hZ
theorem Post.less {env : Env} {Z X Y : Addr → Prop} {oa : Option Addr} {s : Shared} {Q : FlowD → Rho → OwS → Prop} {fl : Flow} {s' : Shared} (h : Post K env own Z X oa s Q fl s') (hY : ∀ b, Y b → X b) (hZ : ∀ b, Z b → Y b) : Post K env own Z Y oa s Q fl s' := by
  obtain ⟨fd, ρ', ow', oa', h1, h2, h3, h4⟩ := h
  refine ⟨fd, ρ', ow', oa', h1, ?_, h3.less hY hZ, h4⟩
  match fl, fd with
  | .next, .next => exact h2
  | .brk, .brk => exact h2
  | .cont, .cont => exact h2
  | .ret v, .ret d => exact RX.weaken (X := X) h2 hY
theorem SS.zx {env : Env} {Z X : Addr → Prop} {ow : OwS} {oa : Option Addr} {s : Shared} (h : SS K env own Z X ρ ow oa s) (hZ : ∀ b, Z b → X b) {b : Addr} (hb : s.heap.get? b = none) : ¬ Z b := fun hz => by
  obtain ⟨o, ho⟩ := h.live b (hZ b hz); rw [hb] at ho; cases ho

/-- reader = _Ignore(names, []) -/
theorem st_reader (R0 : KR K) {ow : OwS} {r : Str} {e1 e2 : Expr} {ws : List Wd} {p0 p1 pos cp : Pos} {env : Env} {X Z : Addr → Prop} {oa : Option Addr} {s : Shared} {A : Around} (hA : AOk (n + 2) A) (hsc : env.scope = sc) (hZ : ∀ b, Z b → X b) (hS : SS K env own Z X ρ ow oa s)
    (hk : sc.names.lookup (Str.ofString "_Ignore") = some .globalImplicit) (hs : EVs prog w K (n + 2) sc ρ [e1, e2] [lD ws, .list []]) (hz : ws.length ≤ 8) (hr : stoB sc own r = true) (ho : offB ow r = true)
    (hsw : autoParam (∀ env, env.scope = sc → swapsWith (.Call (.Name (Str.ofString "_Ignore") p1) [e1, e2] [] cp) (some (.Name r p0)) pos.line env = pure false) auK)
    (he : autoParam (∀ env, starEach [e1, e2] env = (false, eval e1 env) :: starEach [e2] env) auK)
    (hplain : autoParam (∀ env, (backTo cp (starEach [e2] env)).any (·.1) = false) auK) :
    wpAny (model prog w) A (exec (.Assign [.Name r p0] (.Call (.Name (Str.ofString "_Ignore") p1) [e1, e2] [] cp) pos) env)
      (fun fl s' => fl = .next ∧ ∃ x dx S D G, Rd prog w 79 s'.heap x dx S D G (ws.map strOf).reverse [] 1 ∧ (∀ b, five x dx S D G b → s.heap.get? b = none) ∧ SS K env own Z (fun b => X b ∨ five x dx S D G b) ((r, rawD x) :: ρ) ow oa s' ∧ Mv Z s s') (fun _ _ => False) s := by
  refine wpAny_Assign_Name (wpAny_mono (eval_make R0 hA hS.raw (hsc ▸ hk) (hsc ▸ hs) hz he hplain) (fun v s₁ h₁ => ?_) fun _ _ x => x) (hsw env hsc)
  obtain ⟨x, dx, S, D, G, rfl, e₁, R, hf⟩ := h₁
  have hS₁ : SS K env own Z (fun b => X b ∨ five x dx S D G b) ρ ow oa s₁ := hS.more e₁ (fun b hb => hb.imp id (hf b)) (fun b hb => by
    rcases hb with hb | hb
    · obtain ⟨o, q⟩ := hS.live b hb; exact ⟨o, e₁.keep _ _ q⟩
    · rcases hb with rfl | rfl | rfl | rfl | rfl
      · obtain ⟨o, ho, _⟩ := R.inst.obj; exact ⟨o, ho⟩
      · obtain ⟨o, _, _, ho, _⟩ := R.inst.ns; exact ⟨o, ho⟩
      · obtain ⟨o, _, _, _, ho, _⟩ := R.set; exact ⟨o, ho⟩
      · obtain ⟨_, ho⟩ := R.dirs; exact ⟨_, ho⟩
      · obtain ⟨_, ⟨o, _, _, ho, _⟩, _⟩ := R.dict; exact ⟨o, ho⟩) fun b hb => .inl hb
  refine wpAny_mono (ss_store hS₁ (Sto.of (hsc ▸ hr)) (offB.ne ho) (RX.raw x)) (fun _ s₂ h₂ => ?_) fun _ _ x => x
  exact ⟨rfl, x, dx, S, D, G, R.at fun b o hb e => h₂.2.keep _ _ e (hS.zx hZ (hf b hb)), hf, h₂.1, (e₁.mv _).trans h₂.2⟩

set_option maxHeartbeats 1000000 in
/-- reader = _Ignore(names, []), then: if str(reader.names(file, m)) == '0': body -/
theorem ex_reader_if (R0 : KR K) {ow : OwS} {r : Str} {e1 e2 f1 f2 : Expr} {ws : List Wd} {m : Wd} {y : Str} {body : List Stmt} {p0 p1 p2 p3 p4 p5 p6 p7 p8 pos cp pos' : Pos} {Q : FlowD → Rho → OwS → Prop}
    (hk : sc.names.lookup (Str.ofString "_Ignore") = some .globalImplicit) (hk' : sc.names.lookup (Str.ofString "str") = some .globalImplicit) (hs : EVs prog w K (n + 2) sc ρ [e1, e2] [lD (ws.map nm), .list []]) (hz : ws.length ≤ 8) (hr : stoB sc own r = true) (ho : offB ow r = true)
    (hρ : ρ.lookup r = none) (hw : ∀ o ∈ ws, abc o ∧ o.length ≤ 1000) (hm : abc m)
    (ha : ∀ x, EVs prog w K (n + 2) sc ((r, rawD x) :: ρ) [f1, f2] [.str y, sD (nm m)])
    (h0 : ws.any (fun o => o.isPrefixOf m) = false → EX prog w K (n + 2) sc own ρ ow body Q) (h1 : ws.any (fun o => o.isPrefixOf m) = true → Q .next ρ ow)
    (hd : autoParam ((r == ("__debug__" : Str)) = false) auK) (hc : autoParam ((r == ("__classdict__" : Str)) = false) auK)
    (hsw : autoParam (∀ env, env.scope = sc → swapsWith (.Call (.Name (Str.ofString "_Ignore") p1) [e1, e2] [] cp) (some (.Name r p0)) pos.line env = pure false) auK)
    (he : autoParam (∀ env, starEach [e1, e2] env = (false, eval e1 env) :: starEach [e2] env) auK)
    (hplain : autoParam (∀ env, (backTo cp (starEach [e2] env)).any (·.1) = false) auK)
    (he' : autoParam (∀ env, starEach [f1, f2] env = (false, eval f1 env) :: starEach [f2] env) auK)
    (hcall : autoParam (∀ env, eval (.Call (.Attribute (.Name r p3) (Str.ofString "names") p4) [f1, f2] [] p5) env = (do
      let ov ← eval (.Name r p3) env
      standAt p4.atName
      let (f, first) ← holding [ov] (getMethod ov (Str.ofString "names") (do return (← importBound (.Name r p3) env).getD true))
      callWith p5 f first (backTo p5 (starEach [f1, f2] env)) [])) auK) :
    EX prog w K (n + 2) sc own ρ ow (.Assign [.Name r p0] (.Call (.Name (Str.ofString "_Ignore") p1) [e1, e2] [] cp) pos ::
      [.If (.Compare (.Call (.Name (Str.ofString "str") p2) [.Call (.Attribute (.Name r p3) (Str.ofString "names") p4) [f1, f2] [] p5] [] p6) [.Eq] [.Constant (.str (Str.ofString "0")) 0 p7] p8) body [] pos']) Q := by
  intro A env X Z oa s hA hsc hZ hS
  refine wpAny_execs_cons (wpAny_mono (st_reader R0 hA hsc hZ hS hk hs (by simpa using hz) hr ho hsw he hplain) (fun fl s₂ h₂ => ?_) fun _ _ x => x)
  obtain ⟨rfl, x, dx, S, D, G, R, hf, hS₂, mv₂⟩ := h₂
  have hGf : s.heap.get? G = none := hf G (.inr (.inr (.inr (.inr rfl))))
  have hGloc : ¬ (env.locals = G) := fun e => by obtain ⟨o, ho⟩ := hS.locals_live; rw [e, hGf] at ho; cases ho
  have hGcel : ∀ z c, env.cells.lookup z = some c → ¬ (c = G) := fun z c hz' e => by obtain ⟨o, ho⟩ := hS.full.cells z c hz'; rw [e, hGf] at ho; cases ho
  refine wpAny_execs_cons (wpAny_If (wpAny_isTrue_Compare1 (wpAny_mono (eval_says R0 hA hS₂.raw (r := r) (x := x) (m := strOf (nm m)) (file := .str y) (by simp [List.lookup_cons]) (hsc ▸ hk') (hsc ▸ ha x) R (fun b hb => ?_) (nm_ne m) (by decide) (fun k hk => ?_) (.inl ⟨_, rfl⟩) hd hc (he' env) (hcall env)) (fun v s₃ h₃ => ?_) fun _ _ x => x) (by kernel_rfl)))
  · have : (fun b => X b ∨ five x dx S D G b) b := .inr hb
    cases oa with
    | none => exact this
    | some a => exact .inl this
  · rw [List.mem_reverse, List.mem_map] at hk
    obtain ⟨o', ho', rfl⟩ := hk
    obtain ⟨o, ho, rfl⟩ := List.mem_map.mp ho'
    have h5 := nm_len (hw o ho).1
    have h6 := (hw o ho).2
    have hsz : sizeLine = 16777216 := by decide
    have h7 : (strOf (nm o)).length = (nm o).length := str_len _
    rw [h7]; lia
  obtain ⟨⟨t, rfl⟩, R₃, mv₃⟩ := h₃
  have hS₃ : SS K env own Z (fun b => X b ∨ five x dx S D G b) ((r, rawD x) :: ρ) ow oa s₃ := hS₂.move mv₃ (fun b hb => .inr (.inr (.inr (.inr (.inr hb))))) hGloc hGcel
  have hS₃' : SS K env own Z (fun b => X b ∨ five x dx S D G b) ρ ow oa s₃ := hS₃.fewer fun z d hz' => by
    rw [List.lookup_cons]
    have : (z == r) = false := beq_eq_false_iff_ne.mpr fun e => by rw [e, hρ] at hz'; cases hz'
    rw [this]; exact hz'
  have mv03 : Mv Z s s₃ := Mv.fresh mv₂ (mv₃.mono fun b hb => .inr hb) (F := fun b => b = G) fun b hb => hb ▸ hGf
  refine wpAny_Constant_str ?_
  have ht := tells_nm (fun o ho => (hw o ho).1) hm
  rw [ht]
  have hZ' : ∀ b, Z b → (fun b => X b ∨ five x dx S D G b) b := fun b hb => .inl (hZ b hb)
  cases hb : ws.any (fun o => o.isPrefixOf m) with
  | true =>
    simp only [↓reduceIte]
    refine eq_str (wpAny_truthy_bool ?_)
    have : ((toString (1 : Int) : Str) == Str.ofString "0") = false := by kernel_rfl
    rw [this]
    simp only [Bool.false_eq_true, ↓reduceIte]
    refine wpAny_execs_nil (wpAny_execs_nil ⟨.next, ρ, ow, oa, h1 hb, trivial, ((hS₃'.ext (Ext.tok _)).less (fun b hb => .inl hb) hZ), (mv03.trans ((Ext.tok _).mv _)).z, fun b hb => .inl hb⟩)
  | false =>
    simp only [Bool.false_eq_true, ↓reduceIte]
    refine eq_str (wpAny_truthy_bool ?_)
    have : ((toString (0 : Int) : Str) == Str.ofString "0") = true := by kernel_rfl
    rw [this]
    simp only [↓reduceIte]
    refine wpAny_mono (h0 hb A env _ Z oa _ hA hsc hZ' (hS₃'.ext (Ext.tok _))) (fun fl s₄ h₄ => ?_) fun _ _ x => x
    have h₅ : Post K env own Z X oa s Q fl s₄ := (h₄.after ((mv03.trans ((Ext.tok _).mv _)).z) fun b hb => .inl hb).less (fun b hb => .inl hb) hZ
    cases fl with
    | next => exact wpAny_execs_nil h₅
    | brk => exact h₅
    | cont => exact h₅
    | ret v => exact h₅
end Mine

open PySem PySem.W PyProof.Rows PySem.Calls
namespace Mine

variable {prog : Program} {w : World} {K : Frag} {n : Nat} {sc : Scope} {ρ : Rho} {own : List Str} {A : Around}

noncomputable def keeps (ws : List Wd) (x : Wd) : Bool := !(ws.any fun o => o != x && o.isPrefixOf x)
theorem any_others (ws : List Wd) (x : Wd) : (ws.filter fun o => !(o == x)).any (fun o => o.isPrefixOf x) = !keeps ws x := by
  unfold keeps
  rw [List.any_filter, Bool.not_not]
  congr 1
set_option maxRecDepth 4000 in
set_option maxHeartbeats 4000000 in
theorem list_ex {k : Int} (R0 : KR K) (dF : Fn K (Str.ofString "_law_drawn") 114) (dC : CA prog w K (n + 2) (.ref 114) [.int k] (lD (dr k))) (prF : Fn K (Str.ofString "_law_pairs") 109)
    (prC : ∀ ws : List Wd, (∀ x ∈ ws, abc x ∧ x.length ≤ 100) → ws.length ≤ 10000 → CA prog w K (n + 2) (.ref 109) [lD ws] (pD ws)) :
    EX prog w K (n + 2) (scopeAt 19) (cellNames (scopeAt 19)) [(Str.ofString "number", .int k)] none (bodyAt 19) (fun f _ _ => f = .ret (lD (kept (dr k)))) := by
  have hW : ∀ x ∈ dr k, abc x ∧ x.length ≤ 2 := fun x hx => let ⟨a, b, _⟩ := W12_ok x (dr_mem hx); ⟨a, b⟩
  have hL := dr_len k
  generalize hws : dr k = ws at hW hL dC
  refine ex_cons (x1_assign (d := pD ws) ?_ (by kernel_rfl) rfl ?_)
  · with_reducible refine ev_fn (by kernel_rfl) prF (evs_cons (ev_fn (by kernel_rfl) dF (evs_cons (ev_name lk0) evs_nil) dC) evs_nil) (prC ws (fun x hx => ⟨(hW x hx).1, by have := (hW x hx).2; lia⟩) (by lia))
  refine ex_cons (x1_new (by kernel_rfl) (by kernel_rfl) ?_)
  refine ex_cons (x1_for (ds := ws.map pairD) (I := fun i ρ' ow' => ρ'.lookup (Str.ofString "pairs") = some (pD ws) ∧ ow' = some (Str.ofString "kept", ((ws.take i).filter (keeps ws)).map sD)) (it_list ?_) ?_ (fun i d ρ' ow' hi hI => ?_) (fun ρ' ow' hI => ?_))
  · exact ev_name lk0
  · exact ⟨lk0, rfl⟩
  · obtain ⟨h1, rfl⟩ := hI
    rw [List.getElem?_map] at hi
    obtain ⟨x, hx, rfl⟩ := Option.map_eq_some_iff.mp hi
    have hxm := List.mem_of_getElem? hx
    obtain ⟨hxa, hxl⟩ := hW x hxm
    refine ⟨[(Str.ofString "pairs", pD ws)], [(Str.ofString "name", sD (nm x)), (Str.ofString "word", sD x)], sub1 h1, bb_tuple (bbs_cons bb_name (bbs_cons bb_name bbs_nil)), by kernel_rfl, ?_⟩
    simp only [List.cons_append, List.nil_append]
    have hsucc : (ws.take (i + 1)).filter (keeps ws) = (ws.take i).filter (keeps ws) ++ [x].filter (keeps ws) := by
      rw [List.take_add_one, hx, List.filter_append]; rfl
    refine ex_reader_if R0 (ws := ws.filter fun o => !(o == x)) (m := x) (y := Str.ofString "f") (by kernel_rfl) (by kernel_rfl) ?_ ?_ (by kernel_rfl) (by kernel_rfl) (by kernel_rfl) (fun o ho => ?_) hxa (fun a => ?_) (fun hb => ?_) (fun hb => ?_)
    · refine evs_cons ?_ (evs_cons (ev_list evs_nil) evs_nil)
      have e : lD ((ws.filter fun o => !(o == x)).map nm) = .list ((ws.filter fun o => !(o == x)).map fun o => sD (nm o)) := by unfold lD; rw [List.map_map]; rfl
      rw [e]
      refine ev_sift (as := ws) pairD (fun o => !(o == x)) (fun o => sD (nm o)) rfl pairD_inj (it_list (ev_name (lk1 (by kernel_rfl) (lk1 (by kernel_rfl) lk0)))) (.skip (by decide) (.skip (by decide) (.skip (by decide) (.free (lk1 (by kernel_rfl) lk0) .nil)))) (by kernel_rfl)
        (fun o ho => ⟨[(Str.ofString "other", sD (nm o)), (Str.ofString "one", sD o)], bb_tuple (bbs_cons bb_name (bbs_cons bb_name bbs_nil)), by kernel_rfl, ?_, ?_⟩) (szl (by lia))
      · simp only [List.cons_append, List.nil_append]
        with_reducible exact te_cmp (ev_name (lk1 (by kernel_rfl) lk0)) (ev_name (lk1 (by kernel_rfl) (lk1 (by kernel_rfl) lk0))) co_nes (by kernel_rfl)
      · simp only [List.cons_append, List.nil_append]
        with_reducible exact ev_name lk0
    · exact Nat.le_trans (List.length_filter_le _ _) (by lia)
    · obtain ⟨h2, h3⟩ := hW o (List.mem_filter.mp ho).1
      exact ⟨h2, by lia⟩
    · with_reducible exact evs_cons ev_str (evs_cons (ev_name (lk1 (by kernel_rfl) lk0)) evs_nil)
    · rw [any_others] at hb
      have hk : keeps ws x = true := by simpa using hb
      refine ex_cons ?_
      with_reducible refine x1_append (ev_name (lk1 (by kernel_rfl) lk0)) (szl ?_) ?_
      · rw [List.length_map]
        have h5 := List.length_filter_le (keeps ws) (ws.take i)
        have h6 := List.length_take_le i ws
        have h7 := List.length_take_le' i ws
        lia
      · refine ex_nil ⟨lk1 (by kernel_rfl) (lk1 (by kernel_rfl) lk0), ?_⟩
        rw [hsucc, List.filter_cons, hk]
        simp
    · rw [any_others] at hb
      have hk : keeps ws x = false := by simpa using hb
      refine ⟨lk1 (by kernel_rfl) (lk1 (by kernel_rfl) lk0), ?_⟩
      rw [hsucc, List.filter_cons, hk]
      simp
  · obtain ⟨h1, rfl⟩ := hI
    refine ex_cons (x1_return (d := lD (kept ws)) ?_ rfl)
    rw [show (ws.map pairD).length = ws.length by simp, List.take_length]
    show EV prog w K (n + 2) (scopeAt 19) ((Str.ofString "kept", lD (kept ws)) :: _) _ _
    exact ev_name lk0
end Mine

open PySem PySem.W PyProof.Rows PySem.Calls
namespace Mine

variable {prog : Program} {w : World} {K : Frag} {n : Nat} {sc : Scope} {ρ : Rho} {own : List Str} {A : Around}

/-- the answer on y, of a reader of h, as str makes it -/
noncomputable def bitW (h y : Wd) : Wd := if h.isPrefixOf y then [49] else [48]
theorem says_bit {h y : Wd} (hh : abc h) (hy : abc y) : saysD (tells (([h].map nm).map strOf).reverse (strOf (nm y))) = sD (bitW h y) := by
  rw [tells_nm (fun o ho => by rw [List.mem_singleton.mp ho]; exact hh) hy]
  unfold bitW saysD
  simp only [List.any_cons, List.any_nil, Bool.or_false]
  split
  · rfl
  · rfl
theorem bit_01 (h y : Wd) : bitW h y = [49] ∨ bitW h y = [48] := by unfold bitW; split; exact .inl rfl; exact .inr rfl
theorem lay_bit (h y : Wd) : (sD (bitW h y)).canLay0 = true := by
  rcases bit_01 h y with e | e <;> rw [e] <;> decide +kernel
theorem shaped_bits (h : Wd) (ws : List Wd) : PySem.SeqAt.shaped (lD (ws.map (bitW h))) = true := by
  refine shape_of ?_ (dep_lD _) (by decide)
  unfold lD
  rw [PyData.canLay0]
  refine layAll fun x hx => ?_
  obtain ⟨y, _, rfl⟩ := List.mem_map.mp hx
  exact lay_bit h y
theorem co_eq_bits {h : Wd} {ws : List Wd} : CO prog w K n .Eq (lD (ws.map (bitW h))) (lD (ws.map (bitW h))) true := by
  have := co_eq (prog := prog) (w := w) (K := K) (n := n) (shaped_bits h ws) (shaped_bits h ws)
  rw [eqv_lD, beq_self_eq_true] at this; exact this
theorem ca_bit_index {h y : Wd} : CA prog w K n (.builtin "list.index") [lD [[48], [49]], sD (bitW h y)] (.int (if h.isPrefixOf y then 1 else 0)) := by
  have sh : ∀ e ∈ ([[48], [49]] : List Wd).map sD, PySem.SeqAt.shaped e = true := by decide +kernel
  cases hb : h.isPrefixOf y with
  | true =>
    have e : bitW h y = [49] := by unfold bitW; rw [hb]; rfl
    rw [e]
    exact ca_index (ds := ([[48], [49]] : List Wd).map sD) (d₀ := sD [49]) (j := 1) sh (by kernel_rfl) (by decide) (by decide) (by kernel_rfl) (fun i hi hj => by
      obtain rfl : i = 0 := by lia
      show PyData.eqv (sD [48]) (sD [49]) = false
      rw [eqv_sD]; decide)
  | false =>
    have e : bitW h y = [48] := by unfold bitW; rw [hb]; rfl
    rw [e]
    exact ca_index (ds := ([[48], [49]] : List Wd).map sD) (d₀ := sD [48]) (j := 0) sh (by kernel_rfl) (by decide) (by decide) (by kernel_rfl) (fun i hi hj => by lia)

/-- what is known of a reader while it is asked of ws one by one -/
noncomputable def PR (prog : Program) (w : World) (x dx S D G : Addr) (ks A0 : List Str) (q : Nat) (ws : List Wd) (i : Nat) (h : Heap) : Prop :=
  ∃ asked, Rd prog w 79 h x dx S D G ks asked (q + i) ∧ (∀ k ∈ A0, k ∈ asked) ∧ ∀ y ∈ ws.take i, strOf (nm y) ∈ asked
theorem pr_fr {x dx S D G : Addr} {ks A0 : List Str} {q : Nat} {ws : List Wd} : Fr (five x dx S D G) (PR prog w x dx S D G ks A0 q ws) := fun i h h' ⟨asked, R, a, b⟩ k => ⟨asked, R.at k, a, b⟩

set_option maxHeartbeats 1000000 in
/-- the element str(reader.names(file, m)) of a comprehension -/
theorem cip_says (R0 : KR K) {e1 e2 : Expr} {r : Str} {x dx S D G : Addr} {ks A0 : List Str} {q i : Nat} {ws : List Wd} {y : Wd} {file : PyData} {p0 p1 p2 pos pos' : Pos} (hr : ρ.lookup r = some (rawD x))
    (hk : sc.names.lookup (Str.ofString "str") = some .globalImplicit) (hs : EVs prog w K (n + 2) sc ρ [e1, e2] [file, .str (strOf (nm y))]) (hy : ws[i]? = some y)
    (hsz : q + i ≤ sizeLine) (hlen : ∀ k ∈ ks, k.length + 1 ≤ sizeLine) (hfile : (∃ z, file = .str z) ∨ strOf (nm y) ∈ A0)
    (hd : autoParam ((r == ("__debug__" : Str)) = false) auK) (hc : autoParam ((r == ("__classdict__" : Str)) = false) auK)
    (he : autoParam (∀ env, starEach [e1, e2] env = (false, eval e1 env) :: starEach [e2] env) auK)
    (hcall : autoParam (∀ env, eval (.Call (.Attribute (.Name r p1) (Str.ofString "names") p2) [e1, e2] [] pos) env = (do
      let ov ← eval (.Name r p1) env
      standAt p2.atName
      let (f, first) ← holding [ov] (getMethod ov (Str.ofString "names") (do return (← importBound (.Name r p1) env).getD true))
      callWith pos f first (backTo pos (starEach [e1, e2] env)) [])) auK) :
    CIP prog w K (n + 2) sc own (five x dx S D G) (PR prog w x dx S D G ks A0 q ws) i ρ
      (emitT (.Call (.Name (Str.ofString "str") p0) [.Call (.Attribute (.Name r p1) (Str.ofString "names") p2) [e1, e2] [] pos] [] pos')) [saysD (tells ks (strOf (nm y)))] := by
  intro A env X Z s D' vs hA hsc hS hF hXD hDL hDc hDZ hl hsz' hV hVc hP
  obtain ⟨asked, R, hA0, htk⟩ := hP
  show wpAny _ A (eval (.Call (.Name (Str.ofString "str") p0) [.Call (.Attribute (.Name r p1) (Str.ofString "names") p2) [e1, e2] [] pos] [] pos') env >>= fun x => call (.builtin "list.append") [.ref D', x] >>= fun _ => pure ()) _ _ s
  refine wpAny_bind (wpAny_mono (eval_says R0 hA hS hr (hsc ▸ hk) (hsc ▸ hs) R (fun b hb => (hV b hb).1) (nm_ne y) hsz hlen (hfile.imp id fun h => hA0 _ h) hd hc (he env) (hcall env)) (fun v s₁ h₁ => ?_) fun _ _ x => x)
  obtain ⟨⟨t, rfl⟩, R₁, mv₁⟩ := h₁
  have hG5 : five x dx S D G G := .inr (.inr (.inr (.inr rfl)))
  have hGX : ∀ b, b = G → X b := fun b e => e ▸ (hV G hG5).1
  have hGl : ¬ (env.locals = G) := fun e => (hV G hG5).2.1 (e ▸ hF.loc)
  have hGc : ∀ z c, env.cells.lookup z = some c → ¬ (c = G) := fun z c hz e => hVc z c hz (e ▸ hG5)
  have hS₁ := hS.move mv₁ hGX hGl hGc
  have hF₁ := hF.move mv₁.keep hGc
  have hDG : D' ≠ G := fun e => (hV G hG5).2.2 e.symm
  have hl₁ : s₁.heap.PlainList D' vs.toArray := hl.at fun o e => mv₁.keep _ o e hDG
  refine wpAny_bind (wpAny_list_append_plain hl₁ (fun h' hl' hs' => wpAny_pure ?_) (by simp only [List.size_toArray, List.length_cons, List.length_nil] at hsz' ⊢; lia))
  obtain ⟨o, ho⟩ := id hl₁
  obtain ⟨o', ho'⟩ := id hl'
  have mv : Mv (fun b => b = D') s₁ { s₁ with heap := h' } := Mv.at (tk := s₁.toks) hs' ho ho' rfl
  have hW : ∀ b, b = D' → X b := fun b e => e ▸ hXD
  refine ⟨[.str (toString (tells ks (strOf (nm y)))) t], .cons (RX.str _ _) .nil, by simpa using hl', hS₁.move mv hW (fun e => hDL e.symm) (fun x c hx e => hDc x c hx e), hF₁.move mv.keep (fun x c hx e => hDc x c hx e),
    (mv₁.mono fun b e => .inr (.inr (e ▸ hG5))).trans (mv.mono fun b e => .inr (.inl e)), ⟨strOf (nm y) :: asked, ?_, fun k hk => List.mem_cons_of_mem _ (hA0 k hk), fun z hz => ?_⟩⟩
  · exact R₁.at fun b o hb e => mv.keep _ _ e fun q => (hV b hb).2.2 q
  · rw [List.take_add_one, hy] at hz
    rcases List.mem_append.mp hz with h | h
    · exact List.mem_cons_of_mem _ (htk z h)
    · have : z = y := by simpa using h
      rw [this]; exact List.mem_cons_self
end Mine

open PySem PySem.W PyProof.Rows PySem.Calls
namespace Mine

variable {prog : Program} {w : World} {K : Frag} {n : Nat} {sc : Scope} {ρ : Rho} {own : List Str} {A : Around}

theorem SS.grow {env : Env} {Z X Y W : Addr → Prop} {s s' : Shared} (h : SS K env own Z X ρ none none s) (hm : Mv W s s') (hW : ∀ b, W b → X b) (hl : ¬ W env.locals) (hc : ∀ x c, env.cells.lookup x = some c → ¬ W c)
    (hs : ∀ b, Y b → X b ∨ s.heap.get? b = none) (hY : Live Y s'.heap) (hXY : ∀ b, X b → Y b) : SS K env own Z Y ρ none none s' := by
  obtain ⟨h1, h2⟩ := h
  have hWY : ∀ b, W b → Y b := fun b hb => hXY b (hW b hb)
  have hF := h2.move hm.keep hc
  refine ⟨⟨(h1.gf.more hs).keepX (hm.keep.mono hWY), hY, ?_, h1.kind, h1.glob, h1.blt, fun x c hx => let ⟨o, q⟩ := h1.cells x c hx; hm.stay _ _ q⟩, ⟨hF.loc, hF.cel, hF.apart, fun b hb => hXY b (hF.sub b hb)⟩⟩
  obtain ⟨m, hn, hv⟩ := h1.vars
  refine ⟨m, hn.at' fun o e => hm.keep _ o e hl, fun x d hx => ?_⟩
  obtain ⟨v, r, hat⟩ := hv x d hx
  refine ⟨v, (r.more hs).keepX (hm.keep.mono hWY), ?_⟩
  rcases hat with h | ⟨h, c, h3, o, h4, h5⟩
  · exact .inl h
  · exact .inr ⟨h, c, h3, o, hm.keep _ _ h4 (hc _ _ h3), h5⟩
/-- y = [.. for ..], the element writing V -/
theorem st_compP {V : Addr → Prop} {P : Nat → Heap → Prop} {elt : Expr} {target iter : Expr} {scope : Scope} {cp p pos : Pos} {y : Str} {ds : List PyData} {ρc : Rho} (f : PyData → List PyData) {env : Env} {X Z : Addr → Prop} {s : Shared}
    (hA : AOk n A) (hsc : env.scope = sc) (hZ : ∀ b, Z b → X b) (hS : SS K env own Z X ρ none none s)
    (hit : IT prog w K n sc ρ target iter ds) (hfr : FR ρ scope.names ρc) (hok : compOk scope sc = true)
    (turns : ∀ i d, ds[i]? = some d → ∃ ρd, BD prog w K n (relabelS scope sc) (cellNames scope) target d ρc ρd ∧ CIP prog w K n (relabelS scope sc) (cellNames scope) V P i ρd (emitT elt) (f d) ∧
      (∀ x d', ρc.lookup x = some d' → ρd.lookup x = some d'))
    (hVX : ∀ b, V b → X b) (hVl : ¬ V env.locals) (hVc : ∀ x c, env.cells.lookup x = some c → ¬ V c) (hVZ : ∀ b, V b → ¬ Z b) (hPf : Fr V P) (hP0 : P 0 s.heap)
    (hsz : (ds.flatMap f).length ≤ sizeLine) (hy : stoB sc own y = true) (hsw : swapB sc scope y p.line cp.line = true) (hs : autoParam (∀ env x, foldedSetIterable iter env x = pure x) auK) :
    wpAny (model prog w) A (exec (.Assign [.Name y p] (.ListComp elt [⟨target, iter, [], 0⟩] scope cp) pos) env)
      (fun fl s' => fl = .next ∧ SS K env own Z X ((y, .list (ds.flatMap f)) :: ρ) none none s' ∧ Mv (fun b => Z b ∨ V b) s s' ∧ P ds.length s'.heap) (fun _ _ => False) s := by
  rw [exec_comp_used (swaps_eq hsw hsc) rfl]
  refine wpAny_bind (wpAny_standAt (wpAny_bind ?_))
  refine comp_runP (Q := fun _ s' => wpAny (model prog w) A (pure Flow.next) (fun fl s' => fl = .next ∧ SS K env own Z X ((y, .list (ds.flatMap f)) :: ρ) none none s' ∧ Mv (fun b => Z b ∨ V b) s s' ∧ P ds.length s'.heap) (fun _ _ => False) s') (use := some (assign (.Name y p) env)) hA hsc hS.1 hit hfr hok (turn_one elt target iter [] scope cp) (fun i d hd => let ⟨ρd, a, b, c⟩ := turns i d hd; ⟨ρd, true, a, ti_nil, fun _ => b, fun h => (by cases h), c⟩) hVX hVc hPf hP0 hsz hs fun acc C s' h => ?_
  obtain ⟨h1, h2, h5, ⟨m, h3⟩, h4⟩ := h
  have hCX : ¬ X C := fun hx => by obtain ⟨o, q⟩ := hS.1.live C hx; rw [h1] at q; cases q
  have hC' : ∃ o, s'.heap.get? C = some o := by obtain ⟨o, _, _, q, _⟩ := h3; exact ⟨o, q⟩
  have hS' : SS K env own Z (plus X C) ρ none none s' := SS.grow hS h2 hVX hVl hVc (fun b (hb : X b ∨ b = C) => hb.imp id fun q => by rw [q]; exact h1) (fun b (hb : X b ∨ b = C) => hb.elim (fun hb => let ⟨o, q⟩ := hS.1.live b hb; h2.stay b o q) fun q => by rw [q]; exact hC') fun b hb => .inl hb
  refine wpAny_assign_Name (wpAny_mono (ss_store (y := y) hS' (Sto.of (hsc ▸ hy)) (fun _ _ e => by cases e) h4) (fun _ s₂ h₂ => ?_) fun _ _ x => x)
  obtain ⟨hS₂, mv₂⟩ := h₂
  have hCZ : ¬ Z C := fun hz => hCX (hZ C hz)
  refine ⟨m, h3.at' fun o q => mv₂.keep _ _ q hCZ, fun h' hs' => wpAny_pure ?_⟩
  have hCL : C ≠ env.locals := fun q => by obtain ⟨o, ho⟩ := hS.locals_live; rw [← q, h1] at ho; cases ho
  have hCc : ∀ x c, env.cells.lookup x = some c → c ≠ C := fun x c hx q => by obtain ⟨o, ho⟩ := hS.1.cells x c hx; rw [q, h1] at ho; cases ho
  have hk : KeepX (fun b => b = C) s₂.heap h' := fun b o e hb => hs'.extBut b o hb e
  have hS₃ : SS K env own Z X ((y, .list (ds.flatMap f)) :: ρ) none none { s₂ with heap := h' } := SS.drop hS₂ hk (fun b q => .inr q) (fun q => hCL q.symm) (fun x c hx q => hCc x c hx q) (fun b hb => ⟨.inl hb, fun q => hCX (q ▸ hb)⟩) hZ
  refine ⟨rfl, hS₃, ⟨fun b o e hz => ?_, fun b o e => ?_, mv₂.gens.trans h2.gens, mv₂.os.trans h2.os⟩, ?_⟩
  · exact hk _ _ (mv₂.keep _ _ (h2.keep _ _ e fun q => hz (.inr q)) fun q => hz (.inl q)) fun q => by rw [q, h1] at e; cases e
  · obtain ⟨o₁, e₁⟩ := h2.stay b o e
    obtain ⟨o', e'⟩ := mv₂.stay b o₁ e₁
    exact ⟨o', hk _ _ e' fun q => by rw [q, h1] at e; cases e⟩
  · refine hPf _ _ _ h5 fun b o hb e => hk _ _ (mv₂.keep _ _ e (hVZ b hb)) fun q => ?_
    obtain ⟨o', e'⟩ := hS.1.live b (hVX b hb)
    rw [q, h1] at e'; cases e'
theorem PR.to {x dx S D G : Addr} {ks A0 : List Str} {q : Nat} {ws : List Wd} {h : Heap} (p : PR prog w x dx S D G ks A0 q ws ws.length h) : PR prog w x dx S D G ks (ws.map fun y => strOf (nm y)) (q + ws.length) ws 0 h := by
  obtain ⟨asked, R, a, b⟩ := p
  rw [List.take_length] at b
  exact ⟨asked, R, fun k hk => by obtain ⟨y, hy, rfl⟩ := List.mem_map.mp hk; exact b y hy, fun y hy => by simp at hy⟩
theorem bits_eq {h : Wd} {ws : List Wd} (hh : abc h) (hw : ∀ y ∈ ws, abc y) : (ws.map pairD).flatMap (onD pairD fun y => [saysD (tells (([h].map nm).map strOf).reverse (strOf (nm y)))]) = (ws.map (bitW h)).map sD := by
  rw [onD_map pairD_inj]
  induction ws with
  | nil => rfl
  | cons y ws ih =>
    rw [List.flatMap_cons, ih fun z hz => hw z (List.mem_cons_of_mem _ hz), says_bit hh (hw y List.mem_cons_self)]
    rfl
theorem zip_bits (h : Wd) : ∀ ws : List Wd, List.zipWith (fun x y => PyData.tuple [x, y]) (ws.map pairD) ((ws.map (bitW h)).map sD) = ws.map fun y => .tuple [pairD y, sD (bitW h y)]
  | [] => rfl
  | y :: ws => by simp only [List.map_cons, List.zipWith_cons_cons, zip_bits h ws]
set_option maxHeartbeats 1000000 in
/-- t = [str(reader.names(file, other)) for word, other in pairs] -/
theorem st_pass (R0 : KR K) {t : Str} {fe target : Expr} {file : PyData} {h : Wd} {ws : List Wd} {x dx S D G : Addr} {A0 : List Str} {q : Nat} {scope : Scope} {p0 p1 p2 p3 p4 p5 p6 cp pos pc : Pos} {env : Env} {X Z : Addr → Prop} {s : Shared} {A : Around}
    (hA : AOk (n + 2) A) (hsc : env.scope = sc) (hZ : ∀ b, Z b → X b) (hS : SS K env own Z X ρ none none s) (hp : ρ.lookup (Str.ofString "pairs") = some (pD ws)) (hr : ρ.lookup (Str.ofString "reader") = some (rawD x))
    (hfX : ∀ b, five x dx S D G b → X b) (hfl : ¬ five x dx S D G env.locals) (hfc : ∀ z c, env.cells.lookup z = some c → ¬ five x dx S D G c) (hfZ : ∀ b, five x dx S D G b → ¬ Z b)
    (hP : PR prog w x dx S D G (([h].map nm).map strOf).reverse A0 q ws 0 s.heap) (hh : abc h) (hhl : h.length ≤ 1000) (hw : ∀ y ∈ ws, abc y) (hl : ws.length ≤ 10000) (hq : q ≤ 20000)
    (hfile : (∃ z, file = .str z) ∨ ∀ y ∈ ws, strOf (nm y) ∈ A0)
    (hfr : FR ρ scope.names [(Str.ofString "reader", rawD x)]) (hok : compOk scope sc = true) (hk : (relabelS scope sc).names.lookup (Str.ofString "str") = some .globalImplicit)
    (hbb : ∀ y, BB prog w K (n + 2) (relabelS scope sc) (cellNames scope) target (pairD y) [(Str.ofString "other", sD (nm y)), (Str.ofString "word", sD y)])
    (hfe : ∀ ρ, EV prog w K (n + 2) (relabelS scope sc) ρ fe file) (ht : stoB sc own t = true)
    (hsw : swapB sc scope t pos.line cp.line = true)
    (he1 : ∀ env, starEach [fe, .Name (Str.ofString "other") p3] env = (false, eval fe env) :: starEach [.Name (Str.ofString "other") p3] env)
    (hcall : ∀ env, eval (.Call (.Attribute (.Name (Str.ofString "reader") p1) (Str.ofString "names") p2) [fe, .Name (Str.ofString "other") p3] [] p4) env = (do
      let ov ← eval (.Name (Str.ofString "reader") p1) env
      standAt p2.atName
      let (f, first) ← holding [ov] (getMethod ov (Str.ofString "names") (do return (← importBound (.Name (Str.ofString "reader") p1) env).getD true))
      callWith p4 f first (backTo p4 (starEach [fe, .Name (Str.ofString "other") p3] env)) [])) :
    wpAny (model prog w) A (exec (.Assign [.Name t pos] (.ListComp (.Call (.Name (Str.ofString "str") p0) [.Call (.Attribute (.Name (Str.ofString "reader") p1) (Str.ofString "names") p2) [fe, .Name (Str.ofString "other") p3] [] p4] [] p5) [⟨target, .Name (Str.ofString "pairs") p6, [], 0⟩] scope cp) pc) env)
      (fun fl s' => fl = .next ∧ SS K env own Z X ((t, lD (ws.map (bitW h))) :: ρ) none none s' ∧ Mv (fun b => Z b ∨ five x dx S D G b) s s' ∧ PR prog w x dx S D G (([h].map nm).map strOf).reverse A0 q ws ws.length s'.heap) (fun _ _ => False) s := by
  have hszl : sizeLine = 16777216 := by decide
  have e := bits_eq hh hw
  refine wpAny_mono (st_compP (V := five x dx S D G) (P := PR prog w x dx S D G (([h].map nm).map strOf).reverse A0 q ws) (ρc := [(Str.ofString "reader", rawD x)]) (ds := ws.map pairD) (onD pairD fun y => [saysD (tells (([h].map nm).map strOf).reverse (strOf (nm y)))])
    hA hsc hZ hS (it_list (ev_name hp)) hfr hok (fun i d hd => ?_) hfX hfl hfc hfZ pr_fr hP ?_ ht hsw) (fun fl s₁ h₁ => ?_) fun _ _ x => x
  · rw [List.getElem?_map] at hd
    obtain ⟨y, hy, rfl⟩ := Option.map_eq_some_iff.mp hd
    have hym := List.mem_of_getElem? hy
    have hi : i < ws.length := (List.getElem?_eq_some_iff.mp hy).1
    refine ⟨_, hbb y _, ?_, ?_⟩
    · rw [onD_at pairD_inj]
      refine cip_says R0 (file := file) (lk1 (by kernel_rfl) (lk1 (by kernel_rfl) lk0)) hk ?_ hy (by lia) (fun k hk => ?_) (hfile.imp id fun hf => hf y hym) (by kernel_rfl) (by kernel_rfl) he1 hcall
      · exact evs_cons (hfe _) (evs_cons (ev_name lk0) evs_nil (by intro _; kernel_rfl)) he1
      · simp only [List.map_cons, List.map_nil, List.reverse_cons, List.reverse_nil, List.nil_append, List.mem_singleton] at hk
        subst hk
        have h5 := nm_len hh
        have h7 : (strOf (nm h)).length = (nm h).length := str_len _
        rw [h7]; lia
    · intro z d' hz
      rcases lookup_cons_of hz with ⟨rfl, rfl⟩ | ⟨_, hz⟩
      · exact lk1 (by kernel_rfl) (lk1 (by kernel_rfl) lk0)
      · cases hz
  · rw [bits_eq hh hw, List.length_map, List.length_map]; lia
  · obtain ⟨rfl, hS₁, mv₁, hP₁⟩ := h₁
    rw [e] at hS₁
    rw [List.length_map] at hP₁
    exact ⟨rfl, hS₁, mv₁, hP₁⟩

set_option maxRecDepth 4000 in
set_option maxHeartbeats 4000000 in
theorem below_ex {h : Wd} {ws : List Wd} (B : KB K) (R0 : KR K) (hh : abc h) (hhl : h.length ≤ 100) (hw : ∀ x ∈ ws, abc x ∧ x.length ≤ 100) (hl : ws.length ≤ 10000) :
    EX prog w K (n + 2) (scopeAt 21) (cellNames (scopeAt 21)) [(Str.ofString "name", sD (nm h)), (Str.ofString "pairs", pD ws)] none (bodyAt 21) (fun f _ _ => f = .ret (lD (ws.filter fun x => h.isPrefixOf x))) := by
  intro A env X Z oa s hA hsc hZ hS
  match oa with
  | some _ => exact hS.elim
  | none =>
  refine wpAny_execs_cons (wpAny_mono (st_reader R0 (ws := [h].map nm) hA hsc hZ hS (by kernel_rfl) (evs_cons ?_ (evs_cons (ev_list evs_nil) evs_nil)) (by simp) (by kernel_rfl) rfl) (fun fl s₁ h₁ => ?_) fun _ _ x => x)
  · show EV prog w K (n + 2) (scopeAt 21) _ _ (.list [sD (nm h)])
    exact ev_list (evs_cons (ev_name lk0) evs_nil) (szl (by simp))
  obtain ⟨rfl, x, dx, S, D, G, R, hf, hS₁, mv₁⟩ := h₁
  have hZ₁ : ∀ b, Z b → (fun b => X b ∨ five x dx S D G b) b := fun b hb => .inl (hZ b hb)
  have hfZ : ∀ b, five x dx S D G b → ¬ Z b := fun b hb => hS.zx hZ (hf b hb)
  have hfl : ¬ five x dx S D G env.locals := fun hb => by obtain ⟨o, ho⟩ := hS.locals_live; rw [hf _ hb] at ho; cases ho
  have hfc : ∀ z c, env.cells.lookup z = some c → ¬ five x dx S D G c := fun z c hz hb => by obtain ⟨o, ho⟩ := hS.full.cells z c hz; rw [hf _ hb] at ho; cases ho
  have hP₁ : PR prog w x dx S D G (([h].map nm).map strOf).reverse [] 1 ws 0 s₁.heap := ⟨[], R, fun k hk => (by cases hk), fun y hy => (by simp at hy)⟩
  refine wpAny_execs_cons (wpAny_mono (st_pass R0 (h := h) (ws := ws) (file := .str (Str.ofString "f")) hA hsc hZ₁ hS₁ (lk1 (by kernel_rfl) (lk1 (by kernel_rfl) lk0)) lk0 (fun b hb => .inr hb) hfl hfc hfZ hP₁ hh (by lia) (fun y hy => (hw y hy).1) hl (by decide) (.inl ⟨_, rfl⟩)
    (.skip (by decide) (.skip (by decide) (.skip (by decide) (.skip (by decide) (.free lk0 .nil))))) (by kernel_rfl) (by kernel_rfl) (fun y => bb_tuple (bbs_cons bb_name (bbs_cons bb_name bbs_nil))) (fun ρ => ev_str) (by kernel_rfl)
    (by kernel_rfl) (by intro _; kernel_rfl) (by intro _; kernel_rfl)) (fun fl s₂ h₂ => ?_) fun _ _ x => x)
  obtain ⟨rfl, hS₂, mv₂, hP₂⟩ := h₂
  refine wpAny_execs_cons (wpAny_mono (st_pass R0 (h := h) (ws := ws) (file := .none) hA hsc hZ₁ hS₂ (lk1 (by kernel_rfl) (lk1 (by kernel_rfl) (lk1 (by kernel_rfl) lk0))) (lk1 (by kernel_rfl) lk0) (fun b hb => .inr hb) hfl hfc hfZ hP₂.to hh (by lia) (fun y hy => (hw y hy).1) hl (by lia) (.inr fun y hy => List.mem_map.mpr ⟨y, hy, rfl⟩)
    (.skip (by decide) (.skip (by decide) (.skip (by decide) (.skip (by decide) (.free (lk1 (by kernel_rfl) lk0) .nil))))) (by kernel_rfl) (by kernel_rfl) (fun y => bb_tuple (bbs_cons bb_name (bbs_cons bb_name bbs_nil))) (fun ρ => ev_none) (by kernel_rfl)
    (by kernel_rfl) (by intro _; kernel_rfl) (by intro _; kernel_rfl)) (fun fl s₃ h₃ => ?_) fun _ _ x => x)
  obtain ⟨rfl, hS₃, mv₃, hP₃⟩ := h₃
  have mv03 : Mv Z s s₃ := Mv.fresh mv₁ (mv₂.trans mv₃) hf
  refine wpAny_mono ((?_ : EX prog w K (n + 2) (scopeAt 21) (cellNames (scopeAt 21)) _ none _ _) A env _ Z none s₃ hA hsc hZ₁ hS₃) (fun fl s₄ h₄ => (h₄.after mv03.z fun b hb => by cases hb).less (fun b hb => .inl hb) hZ) fun _ _ x => x
  refine ex_cons (x1_return (d := lD (ws.filter fun x => h.isPrefixOf x)) ?_ rfl)
  show EV prog w K (n + 2) (scopeAt 21) [(Str.ofString "again", lD (ws.map (bitW h))), (Str.ofString "first", lD (ws.map (bitW h))), (Str.ofString "reader", rawD x), (Str.ofString "name", sD (nm h)), (Str.ofString "pairs", pD ws)] _ (if true = true then lD (ws.filter fun x => h.isPrefixOf x) else .none)
  refine ev_ifexp (te_cmp (ev_name (lk1 (by kernel_rfl) lk0)) (ev_name lk0) co_eq_bits (by kernel_rfl)) (fun _ => ?_) fun e => by cases e
  · have hzip := zip_bits h ws
    refine ev_sift (as := ws) (fun y => .tuple [pairD y, sD (bitW h y)]) (fun y => h.isPrefixOf y) sD hzip (fun a b e => ?_) (it_zip (by kernel_rfl) B.zip_ (ev_name (lk1 (by kernel_rfl) (lk1 (by kernel_rfl) (lk1 (by kernel_rfl) (lk1 (by kernel_rfl) lk0))))) (ev_name lk0)) (.skip (by decide) (.skip (by decide) (.skip (by decide) (.skip (by decide) .nil)))) (by kernel_rfl)
      (fun y hy => ⟨[(Str.ofString "one", sD (bitW h y)), (Str.ofString "other", sD (nm y)), (Str.ofString "word", sD y)], bb_tuple (bbs_cons (bb_tuple (bbs_cons bb_name (bbs_cons bb_name bbs_nil))) (bbs_cons bb_name bbs_nil)), by kernel_rfl, ?_, ?_⟩) (szl (by lia))
    · injection e with e; injection e with e _; exact pairD_inj _ _ e
    · have hc : ((if h.isPrefixOf y then (1 : Int) else 0) == 1) = h.isPrefixOf y := by cases h.isPrefixOf y <;> rfl
      simp only [List.cons_append, List.nil_append]
      rw [← hc]
      with_reducible exact te_cmp (ev_meth (ev_list (evs_cons (ev_lit (a := [48]) (by kernel_rfl)) (evs_cons (ev_lit (a := [49]) (by kernel_rfl)) evs_nil)) (szl (by simp))) gm_lindex (evs_cons (ev_name lk0) evs_nil) ca_bit_index) ev_int co_eqi (by kernel_rfl)
    · simp only [List.cons_append, List.nil_append]
      with_reducible exact ev_name (lk1 (by kernel_rfl) (lk1 (by kernel_rfl) lk0))
end Mine

open PySem PySem.W PyProof.Rows PySem.Calls
namespace Mine

variable {prog : Program} {w : World} {K : Frag} {n : Nat} {sc : Scope} {ρ : Rho} {own : List Str} {A : Around}

theorem CA.mono {m : Nat} {f : Value} {ds : List PyData} {d : PyData} (h : CA prog w K n f ds d) (hm : n ≤ m) : CA prog w K m f ds d := fun A X s vs hA => h A X s vs (hA.mono hm)
noncomputable def abcs (D : List (List Wd)) : Prop := ∀ Y ∈ D, ∀ x ∈ Y, abc x
theorem abc_one {c : Nat} (h : c = 97 ∨ c = 98 ∨ c = 99) : abc [c] := fun d hd => by rw [List.mem_singleton.mp hd]; exact h
theorem due1_abcs {st : Nat × List (List Wd)} (k : Int) (h : abcs st.2) : abcs (due1 st k).2 := by
  have h3 : ∀ p : Nat → Bool, ∀ x ∈ (([97, 98, 99] : List Nat).filter p).map fun c => [c], abc x := fun p x hx => by
    obtain ⟨c, hc, rfl⟩ := List.mem_map.mp hx
    have := (List.mem_filter.mp hc).1
    exact abc_one (by simpa using this)
  unfold due1
  split
  · intro Y hY
    rcases List.mem_append.mp hY with q | q
    · exact h Y q
    · rw [List.mem_singleton.mp q]
      intro x hx
      rw [List.mem_singleton.mp hx]
      exact abc_one (letter_abc k)
  · split
    · intro Y hY
      rcases List.mem_append.mp hY with q | q
      · exact h Y q
      · unfold partsW at q
        split at q
        · rcases List.mem_cons.mp q with rfl | q
          · exact h3 _
          · rw [List.mem_singleton.mp q]; exact h3 _
        · rw [List.mem_singleton.mp q]
          intro x hx
          exact (W12_ok x (dueW_sub hx)).1
    · exact h
theorem dues_abcs (rows : List (List Int)) : abcs (dues rows).2 := by
  have f1 : ∀ (ks : List Int) (st : Nat × List (List Wd)), abcs st.2 → abcs (ks.foldl due1 st).2 := fun ks => by
    induction ks with
    | nil => exact fun st h => h
    | cons k ks ih => exact fun st h => ih _ (due1_abcs k h)
  have f2 : ∀ (rows : List (List Int)) (st : Nat × List (List Wd)), abcs st.2 → abcs (rows.foldl (fun st row => (upTo0 row).foldl due1 st) st).2 := fun rows => by
    induction rows with
    | nil => exact fun st h => h
    | cons r rows ih => exact fun st h => ih _ (f1 _ _ h)
  exact f2 rows (1, []) fun Y hY => by cases hY
theorem shaped_dueD {D : List (List Wd)} (h : abcs D) : PySem.SeqAt.shaped (dueD D) = true := by
  refine shape_of (B := 2) ?_ ?_ (by decide)
  · unfold dueD; rw [PyData.canLay0]; exact layAll fun Y hY => lay_lD (h Y hY)
  · unfold dueD; rw [PyData.depth]; exact Nat.succ_le_succ (depAll (B := 1) fun Y _ => dep_lD Y)
theorem co_eq_due {D : List (List Wd)} (h : abcs D) : CO prog w K n .Eq (dueD D) (dueD D) true := by
  have := co_eq (prog := prog) (w := w) (K := K) (n := n) (shaped_dueD h) (shaped_dueD h)
  have e : PyData.eqv (dueD D) (dueD D) = true := by
    unfold dueD
    rw [PyData.eqv, eqv_all eqv_lD, beq_self_eq_true]
  rw [e] at this; exact this

theorem ints_rxs {X : Addr → Prop} {h : Heap} {vs : List Value} {ns : List Int} (r : IntsAre vs ns) : RXs X h vs (ns.map .int) := by
  induction r with
  | nil => exact .nil
  | cons _ _ _ ih => exact .cons (.int _ _) ih
/-- script[:3], whatever list the script is -/
theorem ev_script {x : Str} {a : Addr} {o : Obj} {vs : List Value} {ns : List Int} {k : Nat} {p1 p2 p3 p4 : Pos} (hx : ρ.lookup x = some (rawD a)) (hK : K.lookup a = some o) (hc : o.cls = .type "list") (hd : ∃ m, o.data = .seq vs.toArray m) (hI : IntsAre vs ns) (hz : ns.length ≤ 63)
    (hdb : autoParam ((x == ("__debug__" : Str)) = false) auK) (hdc : autoParam ((x == ("__classdict__" : Str)) = false) auK) :
    EV prog w K n sc ρ (.Subscript (.Name x p1) (.Slice none (some (.Constant (.int 3) k p2)) none p3) p4) (.list ((ns.take 3).map .int)) := by
  intro A env X s hA hsc hS
  refine Subscript_ (wpAny_mono (ev_name (d := rawD a) hx hdb hdc A env X s hA hsc hS) (fun v s₁ h₁ => wpAny_Slice ?_) fun _ _ x => x.elim)
  rw [evalPart_none, evalPart_some]
  refine wpAny_pure (wpAny_mono ((ev_int : EV prog w K n sc ρ _ (.int 3)) A env X s₁ hA hsc (hS.ext h₁.1)) (fun uv s₂ h₂ => wpAny_pure ?_) fun _ _ x => x.elim)
  obtain ⟨t, rfl⟩ := h₂.2.of_int
  obtain rfl := h₁.2.of_raw
  have hS₂ := (hS.ext h₁.1).ext h₂.1
  have hl₂ : s₂.heap.IsList a vs.toArray := ⟨o, hS₂.gf.gf.kin _ _ hK, hc, hd⟩
  have hl₃ := hl₂.push { cls := .type "slice", data := .fields #[.none, .int 3 t, .none] }
  have hlen : vs.length = ns.length := (ints_rxs (X := X) (h := s.heap) hI).length.trans (by simp)
  have hszl : sizeLine = 16777216 := by decide
  refine tail_any hl₃.typeIs (s := { s₂ with heap := s₂.heap.push { cls := .type "slice", data := .fields #[.none, .int 3 t, .none] } }) slot_list_getitem.lookup
    (wpAny_getItem_list_slice (lo := none) (hi := some (3 : Nat)) (st := none) hl₃ ⟨_, Heap.get?_push_size _ rfl, rfl, rfl⟩ .none (.int _ _) .none (by simp) ⟨((h₁.1.trans h₂.1).trans extPush).trans ⟨Keep.push _ _, rfl, rfl⟩, ?_⟩ (by simp [hlen]; lia)) rfl
  rw [slicePick_upto']
  have hl₄ : Live X (s₂.heap.push { cls := .type "slice", data := .fields #[.none, .int 3 t, .none] }) := hS₂.live.keep (Keep.push _ _)
  have r := (ints_rxs (X := X) (h := ((s₂.heap.push { cls := .type "slice", data := .fields #[.none, .int 3 t, .none] }).push { cls := .type "list", data := .seq (vs.take 3).toArray })) hI).take 3
  rw [← List.map_take] at r
  exact RX.list ⟨_, Heap.get?_push_size _ rfl⟩ hl₄.size r

/-- the two rows -/
noncomputable def theRows (ns : List Int) : List (List Int) := [[255, 256, 328, 98] ++ ns.take 3 ++ [0], [268, 0]]
structure KL (prog : Program) (w : World) (K : Frag) (n : Nat) : Prop where
  bkF : Fn K (Str.ofString "_law_back") 134
  bkC : ∀ (s : Wd) (S : List Wd), Good 100 (s :: S) → CA prog w K n (.ref 134) [lD (s :: S)] (dueD (backOf (s :: S)))
  seF : Fn K (Str.ofString "_law_sentences") 124
  seC : ∀ rows : List (List Int), rows.length ≤ 10 → (∀ r ∈ rows, r.length ≤ 10) → CA prog w K n (.ref 124) [rowsD rows] (lD (sents rows))
  duF : Fn K (Str.ofString "_law_due") 139
  duC : ∀ rows : List (List Int), rows.length ≤ 10 → (∀ r ∈ rows, r.length ≤ 10 ∧ (0 : Int) ∈ r) → CA prog w K n (.ref 139) [rowsD rows] (dueD (dues rows).2)
set_option maxRecDepth 4000 in
set_option maxHeartbeats 4000000 in
theorem law_ex {a : Addr} {o : Obj} {vs : List Value} {ns : List Int} (L : KL prog w K n) (hK : K.lookup a = some o) (hc : o.cls = .type "list") (hd : ∃ m, o.data = .seq vs.toArray m) (hI : IntsAre vs ns) (hz : ns.length ≤ 63) :
    EX prog w K n (scopeAt 24) (cellNames (scopeAt 24)) [(Str.ofString "script", rawD a)] none (bodyAt 24) (fun f _ _ => f = .ret (.bool true)) := by
  have h3 : (ns.take 3).length ≤ 3 := by rw [List.length_take]; lia
  have hrows : (theRows ns).length ≤ 10 := by unfold theRows; simp
  have hrow : ∀ r ∈ theRows ns, r.length ≤ 10 ∧ (0 : Int) ∈ r := fun r hr => by
    unfold theRows at hr
    rcases List.mem_cons.mp hr with rfl | hr
    · refine ⟨?_, by simp⟩
      simp only [List.length_append, List.length_cons, List.length_nil]; lia
    · rw [List.mem_singleton.mp hr]; decide
  refine ex_cons (x1_assign (d := rowsD (theRows ns)) ?_ (by kernel_rfl) rfl ?_)
  · have e1 : rowD ([255, 256, 328, 98] ++ ns.take 3 ++ [0]) = .list (([.int 255, .int 256, .int 328, .int 98] ++ (ns.take 3).map .int) ++ [.int 0]) := by unfold rowD; simp
    show EV prog w K n (scopeAt 24) _ _ (.list [rowD ([255, 256, 328, 98] ++ ns.take 3 ++ [0]), .list [.int 268, .int 0]])
    rw [e1]
    with_reducible refine ev_list (evs_cons (ev_bin (ev_bin (ev_list (evs_cons ev_int (evs_cons ev_int (evs_cons ev_int (evs_cons ev_int evs_nil)))) (szl (by simp))) ?_ (bo_list (szl ?_))) (ev_list (evs_cons ev_int evs_nil) (szl (by simp))) (bo_list (szl ?_)))
      (evs_cons (ev_list (evs_cons ev_int (evs_cons ev_int evs_nil)) (szl (by simp))) evs_nil)) (szl (by simp))
    · exact ev_script lk0 hK hc hd hI hz
    · simp only [List.length_map, List.length_cons, List.length_nil]; lia
    · simp only [List.length_map, List.length_append, List.length_cons, List.length_nil]; lia
  have hne := sents_ne (theRows ns)
  have hgood : Good (20 * 2) (sents (theRows ns)) := by
    have := rows_good (theRows ns) (fun r hr => (hrow r hr).1) good0
    exact this.mono (by unfold theRows; simp)
  have hpl := plain_law (theRows ns)
  have hab := dues_abcs (theRows ns)
  have seC := L.seC (theRows ns) hrows fun r hr => (hrow r hr).1
  have duC := L.duC (theRows ns) hrows hrow
  obtain ⟨s, S, hS⟩ : ∃ s S, sents (theRows ns) = s :: S := by
    cases h : sents (theRows ns) with
    | nil => exact absurd h hne
    | cons s S => exact ⟨s, S, rfl⟩
  rw [hS] at hgood hpl seC
  rw [← hpl] at duC hab
  refine ex_cons (x1_return (d := .bool true) ?_ rfl)
  show EV prog w K n (scopeAt 24) [(Str.ofString "rows", rowsD (theRows ns)), (Str.ofString "script", rawD a)] _ _
  with_reducible exact ev_cmp (ev_fn (by kernel_rfl) L.bkF (evs_cons (ev_fn (by kernel_rfl) L.seF (evs_cons (ev_name lk0) evs_nil) seC) evs_nil) (L.bkC s S (hgood.mono (by decide)))) (ev_fn (by kernel_rfl) L.duF (evs_cons (ev_name lk0) evs_nil) duC) (co_eq_due hab) (by kernel_rfl)
end Mine

open PySem PySem.W PyProof.Rows
namespace Mine
set_option maxRecDepth 100000
set_option maxHeartbeats 8000000
open_top hd for PySem.Challenge.rw_pw0003_01
end Mine

open PySem PySem.W PyProof.Rows PySem.Calls
namespace Mine

variable {prog : Program} {w : World} {K : Frag} {n : Nat} {sc : Scope} {ρ : Rho} {own : List Str} {A : Around}

noncomputable def objOf (K : Frag) (a : Addr) : Obj := (K.lookup a).getD { cls := .none, data := .plain }
noncomputable def fdOf (K : Frag) (a : Addr) (d : FuncData) : FuncData := match (objOf K a).data with | .func fd => fd | _ => d
noncomputable def scopeOk (sc : Scope) (ps : List Str) : Bool := ps.all (fun x => sc.names.lookup x == some .local || sc.names.lookup x == some .cell) && decide ps.Nodup && (!sc.isCoroutine && (!sc.isGenerator && (sc.kind == .function && sc.names.all (fun p => sc.names.lookup p.1 == some p.2))))
theorem defAt_of {a c : Addr} {o oc : Obj} {fd : FuncData} {vs : Array Value} {t : Tok} {k : Nat} {ps : List Str} (e1 : K.lookup a = some o) (e2 : o.data = .func fd) (e3 : fd.body = .stmts (bodyAt k)) (e4 : fd.closure = []) (e5 : fd.globals = mainGlobals)
    (e6 : fd.builtins = builtinsNs) (e7 : fd.code = .ref c) (e8 : K.lookup c = some oc) (e9 : oc.data = .fields vs) (e10 : vs[1]? = some (.str fd.qualname t)) (e11 : fd.scope = scopeAt k)
    (e12 : ∀ us : List Value, us.length = ps.length → bindArgs fd ⟨us, []⟩ = pure (ps.zip us)) (e13 : scopeOk (scopeAt k) ps = true) : DefAt K a fd (bodyAt k) ps := by
  simp only [scopeOk, Bool.and_eq_true, List.all_eq_true, Bool.or_eq_true, beq_iff_eq, decide_eq_true_eq, Bool.not_eq_true'] at e13
  obtain ⟨⟨h1, h2⟩, h3, h4, h5, h6⟩ := e13
  exact ⟨⟨o, e1, e2⟩, e3, e4, e5, e6, ⟨c, oc, vs, t, e7, e8, e9, e10⟩, e12, fun x hx => by rw [e11]; exact h1 x hx, h2, by rw [e11]; exact h3, by rw [e11]; exact h4, by rw [e11]; exact h5,
    fun x kd hx => by rw [e11] at hx ⊢; exact h6 (x, kd) hx⟩
theorem defB_of {a c : Addr} {o oc : Obj} {fd : FuncData} {vs : Array Value} {t : Tok} {k j : Nat} {ps : List Str} (e1 : K.lookup a = some o) (e0 : o.cls = .type "function") (e2 : o.data = .func fd) (e3 : fd.body = .stmts (cbodyAt k j)) (e4 : fd.closure = []) (e5 : fd.globals = mainGlobals)
    (e6 : fd.builtins = builtinsNs) (e7 : fd.code = .ref c) (e8 : K.lookup c = some oc) (e9 : oc.data = .fields vs) (e10 : vs[1]? = some (.str fd.qualname t)) (e11 : fd.scope = cscopeAt k j)
    (e12 : ∀ (us : List Value) (s : Shared), us.length = ps.length → K.In s.heap → BindsTo s fd ⟨us, []⟩ (ps.zip us)) (e13 : scopeOk (cscopeAt k j) ps = true) (e14 : ps.all (fun x => (cscopeAt k j).names.lookup x == some .local) = true)
    (e15 : (cscopeAt k j).names.all (fun p => p.2 != .cell) = true) : DefB K a fd (cbodyAt k j) ps := by
  simp only [scopeOk, Bool.and_eq_true, List.all_eq_true, Bool.or_eq_true, beq_iff_eq, decide_eq_true_eq, Bool.not_eq_true'] at e13 e14 e15
  obtain ⟨⟨h1, h2⟩, h3, h4, h5, h6⟩ := e13
  exact ⟨⟨o, e1, e0, e2⟩, e3, e4, e5, e6, ⟨c, oc, vs, t, e7, e8, e9, e10⟩, e12, fun x hx => by rw [e11]; exact e14 x hx, fun x hx => by rw [e11] at hx; simpa using e15 x hx, h2, by rw [e11]; exact h3, by rw [e11]; exact h4, by rw [e11]; exact h5⟩
theorem ca_of {a : Addr} {fd : FuncData} {k : Nat} {ps : List Str} {ds : List PyData} {d : PyData} (D : DefAt K a fd (bodyAt k) ps) (e : fd.scope = scopeAt k) (hlen : ds.length = ps.length)
    (hex : EX prog w K n (scopeAt k) (cellNames (scopeAt k)) (ps.zip ds) none (bodyAt k) fun f _ _ => f = .ret d) : CA prog w K (n + 1) (.ref a) ds d := ca_def D hlen (e ▸ hex)

theorem len_nil {us : List Value} (h : us.length = 0) : us = [] := List.eq_nil_of_length_eq_zero h
theorem len_one {us : List Value} (h : us.length = 1) : ∃ v, us = [v] := by
  cases us with
  | nil => cases h
  | cons v r => rw [len_nil (us := r) (Nat.succ.inj h)]; exact ⟨v, rfl⟩
theorem len_two {us : List Value} (h : us.length = 2) : ∃ v u, us = [v, u] := by
  cases us with
  | nil => cases h
  | cons v r => obtain ⟨u, rfl⟩ := len_one (us := r) (Nat.succ.inj h); exact ⟨v, u, rfl⟩
theorem len_three {us : List Value} (h : us.length = 3) : ∃ v u x, us = [v, u, x] := by
  cases us with
  | nil => cases h
  | cons v r => obtain ⟨u, x, rfl⟩ := len_two (us := r) (Nat.succ.inj h); exact ⟨v, u, x, rfl⟩
/-- the top's part, and the script -/
noncomputable def KK (P : Params) (a : Addr) (o : Obj) : Frag := hd.heap_39 P ++ [(a, o)]
noncomputable def noFd : FuncData := { name := Str.ofString "", qualname := Str.ofString "", params := { posonlyargs := [], args := [], vararg := none, kwonlyargs := [], kw_defaults := [], kwarg := none, defaults := [] }, body := .stmts [], scope := default, globals := 0, closure := [], defaults := .none, kwdefaults := .none }
section
variable (P : Params) (a : Addr) (o : Obj)
noncomputable def oAt (b : Addr) : Obj := objOf (KK P a o) b
noncomputable def fdAt (b : Addr) : FuncData := fdOf (KK P a o) b noFd
noncomputable def cAt (b : Addr) : Addr := match (fdAt P a o b).code with | .ref c => c | _ => 0
noncomputable def vAt (b : Addr) : Array Value := match (oAt P a o (cAt P a o b)).data with | .fields vs => vs | _ => #[]
noncomputable def tAt (b : Addr) : Tok := match (vAt P a o b)[1]? with | some (Value.str _ t) => t | _ => 0
theorem kb : KB (KK P a o) := ⟨by kernel_rfl, by kernel_rfl, by kernel_rfl, by kernel_rfl, by kernel_rfl, by kernel_rfl⟩
theorem d_iseof : DefAt (KK P a o) 104 (fdAt P a o 104) (bodyAt 15) [Str.ofString "x"] := by
  refine defAt_of (o := oAt P a o 104) (oc := oAt P a o (cAt P a o 104)) (c := cAt P a o 104) (vs := vAt P a o 104) (t := tAt P a o 104) ?_ ?_ ?_ ?_ ?_ ?_ ?_ ?_ ?_ ?_ ?_ (fun us h => by obtain ⟨v0, rfl⟩ := len_one h; kernel_rfl) (by kernel_rfl)
  all_goals kernel_rfl
theorem f_iseof : Fn (KK P a o) (Str.ofString "ISEOF") 104 := ⟨by kernel_rfl, oAt P a o 104, fdAt P a o 104, by kernel_rfl, by kernel_rfl⟩
theorem s_iseof : (fdAt P a o 104).scope = scopeAt 15 := by kernel_rfl
theorem d_isterm : DefAt (KK P a o) 90 (fdAt P a o 90) (bodyAt 13) [Str.ofString "x"] := by
  refine defAt_of (o := oAt P a o 90) (oc := oAt P a o (cAt P a o 90)) (c := cAt P a o 90) (vs := vAt P a o 90) (t := tAt P a o 90) ?_ ?_ ?_ ?_ ?_ ?_ ?_ ?_ ?_ ?_ ?_ (fun us h => by obtain ⟨v0, rfl⟩ := len_one h; kernel_rfl) (by kernel_rfl)
  all_goals kernel_rfl
theorem f_isterm : Fn (KK P a o) (Str.ofString "ISTERMINAL") 90 := ⟨by kernel_rfl, oAt P a o 90, fdAt P a o 90, by kernel_rfl, by kernel_rfl⟩
theorem s_isterm : (fdAt P a o 90).scope = scopeAt 13 := by kernel_rfl
theorem d_isnon : DefAt (KK P a o) 97 (fdAt P a o 97) (bodyAt 14) [Str.ofString "x"] := by
  refine defAt_of (o := oAt P a o 97) (oc := oAt P a o (cAt P a o 97)) (c := cAt P a o 97) (vs := vAt P a o 97) (t := tAt P a o 97) ?_ ?_ ?_ ?_ ?_ ?_ ?_ ?_ ?_ ?_ ?_ (fun us h => by obtain ⟨v0, rfl⟩ := len_one h; kernel_rfl) (by kernel_rfl)
  all_goals kernel_rfl
theorem f_isnon : Fn (KK P a o) (Str.ofString "ISNONTERMINAL") 97 := ⟨by kernel_rfl, oAt P a o 97, fdAt P a o 97, by kernel_rfl, by kernel_rfl⟩
theorem s_isnon : (fdAt P a o 97).scope = scopeAt 14 := by kernel_rfl
theorem d_pairs : DefAt (KK P a o) 109 (fdAt P a o 109) (bodyAt 17) [Str.ofString "words"] := by
  refine defAt_of (o := oAt P a o 109) (oc := oAt P a o (cAt P a o 109)) (c := cAt P a o 109) (vs := vAt P a o 109) (t := tAt P a o 109) ?_ ?_ ?_ ?_ ?_ ?_ ?_ ?_ ?_ ?_ ?_ (fun us h => by obtain ⟨v0, rfl⟩ := len_one h; kernel_rfl) (by kernel_rfl)
  all_goals kernel_rfl
theorem f_pairs : Fn (KK P a o) (Str.ofString "_law_pairs") 109 := ⟨by kernel_rfl, oAt P a o 109, fdAt P a o 109, by kernel_rfl, by kernel_rfl⟩
theorem s_pairs : (fdAt P a o 109).scope = scopeAt 17 := by kernel_rfl
theorem d_drawn : DefAt (KK P a o) 114 (fdAt P a o 114) (bodyAt 18) [Str.ofString "number"] := by
  refine defAt_of (o := oAt P a o 114) (oc := oAt P a o (cAt P a o 114)) (c := cAt P a o 114) (vs := vAt P a o 114) (t := tAt P a o 114) ?_ ?_ ?_ ?_ ?_ ?_ ?_ ?_ ?_ ?_ ?_ (fun us h => by obtain ⟨v0, rfl⟩ := len_one h; kernel_rfl) (by kernel_rfl)
  all_goals kernel_rfl
theorem f_drawn : Fn (KK P a o) (Str.ofString "_law_drawn") 114 := ⟨by kernel_rfl, oAt P a o 114, fdAt P a o 114, by kernel_rfl, by kernel_rfl⟩
theorem s_drawn : (fdAt P a o 114).scope = scopeAt 18 := by kernel_rfl
theorem d_list : DefAt (KK P a o) 119 (fdAt P a o 119) (bodyAt 19) [Str.ofString "number"] := by
  refine defAt_of (o := oAt P a o 119) (oc := oAt P a o (cAt P a o 119)) (c := cAt P a o 119) (vs := vAt P a o 119) (t := tAt P a o 119) ?_ ?_ ?_ ?_ ?_ ?_ ?_ ?_ ?_ ?_ ?_ (fun us h => by obtain ⟨v0, rfl⟩ := len_one h; kernel_rfl) (by kernel_rfl)
  all_goals kernel_rfl
theorem f_list : Fn (KK P a o) (Str.ofString "_law_list") 119 := ⟨by kernel_rfl, oAt P a o 119, fdAt P a o 119, by kernel_rfl, by kernel_rfl⟩
theorem s_list : (fdAt P a o 119).scope = scopeAt 19 := by kernel_rfl
theorem d_sentences : DefAt (KK P a o) 124 (fdAt P a o 124) (bodyAt 20) [Str.ofString "rows"] := by
  refine defAt_of (o := oAt P a o 124) (oc := oAt P a o (cAt P a o 124)) (c := cAt P a o 124) (vs := vAt P a o 124) (t := tAt P a o 124) ?_ ?_ ?_ ?_ ?_ ?_ ?_ ?_ ?_ ?_ ?_ (fun us h => by obtain ⟨v0, rfl⟩ := len_one h; kernel_rfl) (by kernel_rfl)
  all_goals kernel_rfl
theorem f_sentences : Fn (KK P a o) (Str.ofString "_law_sentences") 124 := ⟨by kernel_rfl, oAt P a o 124, fdAt P a o 124, by kernel_rfl, by kernel_rfl⟩
theorem s_sentences : (fdAt P a o 124).scope = scopeAt 20 := by kernel_rfl
theorem d_below : DefAt (KK P a o) 129 (fdAt P a o 129) (bodyAt 21) [Str.ofString "name", Str.ofString "pairs"] := by
  refine defAt_of (o := oAt P a o 129) (oc := oAt P a o (cAt P a o 129)) (c := cAt P a o 129) (vs := vAt P a o 129) (t := tAt P a o 129) ?_ ?_ ?_ ?_ ?_ ?_ ?_ ?_ ?_ ?_ ?_ (fun us h => by obtain ⟨v0, v1, rfl⟩ := len_two h; kernel_rfl) (by kernel_rfl)
  all_goals kernel_rfl
theorem f_below : Fn (KK P a o) (Str.ofString "_law_below") 129 := ⟨by kernel_rfl, oAt P a o 129, fdAt P a o 129, by kernel_rfl, by kernel_rfl⟩
theorem s_below : (fdAt P a o 129).scope = scopeAt 21 := by kernel_rfl
theorem d_back : DefAt (KK P a o) 134 (fdAt P a o 134) (bodyAt 22) [Str.ofString "sentences"] := by
  refine defAt_of (o := oAt P a o 134) (oc := oAt P a o (cAt P a o 134)) (c := cAt P a o 134) (vs := vAt P a o 134) (t := tAt P a o 134) ?_ ?_ ?_ ?_ ?_ ?_ ?_ ?_ ?_ ?_ ?_ (fun us h => by obtain ⟨v0, rfl⟩ := len_one h; kernel_rfl) (by kernel_rfl)
  all_goals kernel_rfl
theorem f_back : Fn (KK P a o) (Str.ofString "_law_back") 134 := ⟨by kernel_rfl, oAt P a o 134, fdAt P a o 134, by kernel_rfl, by kernel_rfl⟩
theorem s_back : (fdAt P a o 134).scope = scopeAt 22 := by kernel_rfl
theorem d_due : DefAt (KK P a o) 139 (fdAt P a o 139) (bodyAt 23) [Str.ofString "rows"] := by
  refine defAt_of (o := oAt P a o 139) (oc := oAt P a o (cAt P a o 139)) (c := cAt P a o 139) (vs := vAt P a o 139) (t := tAt P a o 139) ?_ ?_ ?_ ?_ ?_ ?_ ?_ ?_ ?_ ?_ ?_ (fun us h => by obtain ⟨v0, rfl⟩ := len_one h; kernel_rfl) (by kernel_rfl)
  all_goals kernel_rfl
theorem f_due : Fn (KK P a o) (Str.ofString "_law_due") 139 := ⟨by kernel_rfl, oAt P a o 139, fdAt P a o 139, by kernel_rfl, by kernel_rfl⟩
theorem s_due : (fdAt P a o 139).scope = scopeAt 23 := by kernel_rfl
theorem d_init : DefB (KK P a o) 69 (fdAt P a o 69) (cbodyAt 9 0) [Str.ofString "self", Str.ofString "modules", Str.ofString "dirs"] := by
  refine defB_of (o := oAt P a o 69) (oc := oAt P a o (cAt P a o 69)) (c := cAt P a o 69) (vs := vAt P a o 69) (t := tAt P a o 69) ?_ ?_ ?_ ?_ ?_ ?_ ?_ ?_ ?_ ?_ ?_ ?_ (fun us s h hK => by obtain ⟨v0, v1, v2, rfl⟩ := len_three h; exact kp_binds hK fun S => by kernel_rfl) (by kernel_rfl) (by kernel_rfl) (by kernel_rfl)
  all_goals kernel_rfl
theorem s_init : (fdAt P a o 69).scope = cscopeAt 9 0 := by kernel_rfl
theorem b_names : ∀ us : List Value, us.length = [Str.ofString "self", Str.ofString "filename", Str.ofString "modulename"].length → bindArgs (fdAt P a o 76) ⟨us, []⟩ = pure ([Str.ofString "self", Str.ofString "filename", Str.ofString "modulename"].zip us) := fun us h => by
  obtain ⟨v0, v1, v2, rfl⟩ := len_three h
  kernel_rfl
theorem d_names : DefB (KK P a o) 76 (fdAt P a o 76) (cbodyAt 9 1) [Str.ofString "self", Str.ofString "filename", Str.ofString "modulename"] := by
  refine defB_of (o := oAt P a o 76) (oc := oAt P a o (cAt P a o 76)) (c := cAt P a o 76) (vs := vAt P a o 76) (t := tAt P a o 76) ?_ ?_ ?_ ?_ ?_ ?_ ?_ ?_ ?_ ?_ ?_ ?_ (fun us s h hK => BindsTo.of_eq (b_names P a o us h)) (by kernel_rfl) (by kernel_rfl) (by kernel_rfl)
  all_goals kernel_rfl
theorem s_names : (fdAt P a o 76).scope = cscopeAt 9 1 := by kernel_rfl
noncomputable def esAt : Array DictEntry := match (oAt P a o 78).data with | .dict es _ => es | _ => #[]
noncomputable def epAt : Nat := match (oAt P a o 78).data with | .dict _ ep => ep | _ => 0
noncomputable def allStr (es : Array DictEntry) : Bool := es.all fun e => match e.key with | .str _ _ => true | _ => false
theorem allStr_ok {es : Array DictEntry} (h : allStr es = true) : StrKeys es := fun e he => by
  have := Array.all_eq_true_iff_forall_mem.mp h e he
  split at this
  · rename_i n t hk; exact ⟨n, t, hk⟩
  · cases this
theorem k79 : (KK P a o).lookup 79 = some (excClassObj (Str.ofString "_Ignore") (Str.ofString "_Ignore") 79 78 [.type "object"] [.type "object"] true [] [] false none none none none (some (.str (Str.ofString "_Ignore") 254)) (some (.str (Str.ofString "_Ignore") 262)) (some (.bool true)) "object.__new__") := by kernel_rfl
theorem k78 : (KK P a o).lookup 78 = some (oAt P a o 78) := by kernel_rfl
theorem k78d : (oAt P a o 78).data = .dict (esAt P a o) (epAt P a o) := by kernel_rfl
theorem k78s : StrKeys (esAt P a o) := allStr_ok (by kernel_rfl)
theorem cls_at {h : Heap} (hK : (KK P a o).In h) : ClsAt h 79 78 (nsFind (esAt P a o)) where
  obj := ⟨_, _, _, _, _, _, _, _, _, _, _, _, hK 79 _ (k79 P a o)⟩
  ns := ⟨_, _, _, hK 78 _ (k78 P a o), k78d P a o, k78s P a o, fun _ => rfl⟩
theorem n1 : nsFind (esAt P a o) (Str.ofString "__init__") = some (.ref 69) := by kernel_rfl
theorem n2 : nsFind (esAt P a o) (Str.ofString "names") = some (.ref 76) := by kernel_rfl
theorem n3 : nsFind (esAt P a o) (Str.ofString "__setattr__") = none := by kernel_rfl
theorem n4 : nsFind (esAt P a o) (Str.ofString "__getattribute__") = none := by kernel_rfl
theorem n5 : nsFind (esAt P a o) (Str.ofString "__getattr__") = none := by kernel_rfl
theorem n6 : nsFind (esAt P a o) (Str.ofString "_mods") = none := by kernel_rfl
theorem n7 : nsFind (esAt P a o) (Str.ofString "_dirs") = none := by kernel_rfl
theorem n8 : nsFind (esAt P a o) (Str.ofString "_ignore") = none := by kernel_rfl
theorem ki : KI (KK P a o) 79 69 76 where
  cls := ⟨78, nsFind (esAt P a o), fun h hK => cls_at P a o hK, n1 P a o, n2 P a o, n3 P a o, n4 P a o, n5 P a o, n6 P a o, n7 P a o, n8 P a o⟩
  inK := ⟨_, k79 P a o⟩
theorem kr : KR (KK P a o) := ⟨ki P a o, ⟨_, d_init P a o, s_init P a o⟩, ⟨_, d_names P a o, s_names P a o⟩, by kernel_rfl, by kernel_rfl, by kernel_rfl⟩
end
end Mine

open PySem PySem.W PyProof.Rows PySem.Calls
namespace Mine

section
variable {prog : Program} {w : World} (P : Params) (a : Addr) (o : Obj)
theorem c_pairs {ws : List Wd} (hw : ∀ x ∈ ws, abc x ∧ x.length ≤ 100) (hl : ws.length ≤ 10000) : CA prog w (KK P a o) 1 (.ref 109) [lD ws] (pD ws) := ca_of (d_pairs P a o) (s_pairs P a o) rfl (pairs_ex hw hl)
theorem c_drawn (k : Int) : CA prog w (KK P a o) 1 (.ref 114) [.int k] (lD (dr k)) := ca_of (d_drawn P a o) (s_drawn P a o) rfl (drawn_ex (kb P a o))
theorem c_list (k : Int) : CA prog w (KK P a o) 3 (.ref 119) [.int k] (lD (kept (dr k))) :=
  ca_of (d_list P a o) (s_list P a o) rfl (list_ex (n := 0) (kr P a o) (f_drawn P a o) ((c_drawn P a o k).mono (by decide)) (f_pairs P a o) fun ws hw hl => (c_pairs P a o hw hl).mono (by decide))
theorem c_below (h : Wd) (ws : List Wd) (hh : abc h) (hhl : h.length ≤ 100) (hw : ∀ x ∈ ws, abc x ∧ x.length ≤ 100) (hl : ws.length ≤ 10000) : CA prog w (KK P a o) 3 (.ref 129) [sD (nm h), pD ws] (lD (ws.filter fun x => h.isPrefixOf x)) :=
  ca_of (d_below P a o) (s_below P a o) rfl (below_ex (n := 0) (kb P a o) (kr P a o) hh hhl hw hl)
theorem c_iseof (k : Int) : CA prog w (KK P a o) 1 (.ref 104) [.int k] (.bool (k == 0)) := ca_of (d_iseof P a o) (s_iseof P a o) rfl (iseof_ex ⟨296, by kernel_rfl⟩)
theorem c_isterm (k : Int) : CA prog w (KK P a o) 1 (.ref 90) [.int k] (.bool (decide (k < 256))) := ca_of (d_isterm P a o) (s_isterm P a o) rfl (isterm_ex ⟨298, by kernel_rfl⟩)
theorem c_isnon (k : Int) : CA prog w (KK P a o) 1 (.ref 97) [.int k] (.bool (decide (256 ≤ k))) := ca_of (d_isnon P a o) (s_isnon P a o) rfl (isnon_ex ⟨298, by kernel_rfl⟩)
theorem ks : KS prog w (KK P a o) 3 where
  eof := f_iseof P a o
  eofC := fun k => (c_iseof P a o k).mono (by decide)
  non := f_isnon P a o
  nonC := fun k => (c_isnon P a o k).mono (by decide)
  term := f_isterm P a o
  termC := fun k => (c_isterm P a o k).mono (by decide)
  lst := f_list P a o
  lstC := fun k => c_list P a o k
theorem kp : KP prog w (KK P a o) 3 where
  prF := f_pairs P a o
  prC := fun ws hw hl => (c_pairs P a o hw hl).mono (by decide)
  blF := f_below P a o
  blC := fun h ws h1 h2 h3 h4 => c_below P a o h ws h1 h2 h3 h4
theorem kl : KL prog w (KK P a o) 4 where
  bkF := f_back P a o
  bkC := fun s S hG => ca_of (d_back P a o) (s_back P a o) rfl (back_ex (n := 3) (kb P a o) (kp P a o) hG)
  seF := f_sentences P a o
  seC := fun rows h1 h2 => ca_of (d_sentences P a o) (s_sentences P a o) rfl (sentences_ex (n := 3) (kb P a o) (ks P a o) h1 h2)
  duF := f_due P a o
  duC := fun rows h1 h2 => ca_of (d_due P a o) (s_due P a o) rfl (due_ex (n := 3) (kb P a o) (f_drawn P a o) (fun k => (c_drawn P a o k).mono (by decide)) h1 h2)
end

theorem ex_run {prog : Program} {w : World} {K : Frag} {n : Nat} {sc : Scope} {own : List Str} {ρ : Rho} {ow : OwS} {ss : List Stmt} {Q : FlowD → Rho → OwS → Prop} {A : Around} {env : Env} {X Z : Addr → Prop} {oa : Option Addr} {s : Shared} (h : EX prog w K n sc own ρ ow ss Q)
    (hA : AOk n A) (hsc : env.scope = sc) (hZ : ∀ b, Z b → X b) (hS : SS K env own Z X ρ ow oa s) : wpAny (model prog w) A (execs ss env) (Post K env own Z X oa s Q) (fun _ _ => False) s := h A env X Z oa s hA hsc hZ hS
theorem gf_app {L : Frag} {a : Addr} {o : Obj} {h : Heap} (hG : GF L h) (ha : h.get? a = some o) : (L ++ [(a, o)]).lookup a = some o ∧ GF (L ++ [(a, o)]) h := by
  refine ⟨?_, ⟨fun b x e => ?_, hG.b, hG.g, hG.lim, hG.dig⟩⟩
  · rw [List.lookup_append]
    cases hq : L.lookup a with
    | some x =>
      have := hG.kin _ _ hq
      rw [ha] at this
      rw [Option.some.inj this]; rfl
    | none => simp
  · rw [List.lookup_append] at e
    cases hq : L.lookup b with
    | some y => rw [hq] at e; cases e; exact hG.kin _ _ hq
    | none =>
      rw [hq, Option.none_or, List.lookup_cons] at e
      cases hb : b == a with
      | true => rw [hb] at e; cases e; rw [beq_iff_eq.mp hb]; exact ha
      | false => rw [hb] at e; cases e
theorem kk_at {P : Params} {a : Addr} {o : Obj} {h : Heap} (hG : GF (hd.heap_39 P) h) (ha : h.get? a = some o) : (KK P a o).lookup a = some o := by
  unfold KK
  exact (gf_app hG ha).1
theorem kk_gf {P : Params} {a : Addr} {o : Obj} {h : Heap} (hG : GF (hd.heap_39 P) h) (ha : h.get? a = some o) : GF (KK P a o) h := by
  unfold KK
  exact (gf_app hG ha).2
/-- the call of law, its frame laid open -/
theorem law_close {prog : Program} {w : World} {P : Params} {a : Addr} {o : Obj} {vs : List Value} {ns : List Int} {h : Heap} {A : Around} {env : Env} {s : Shared} {m : Str → Option Value} {body : List Stmt}
    (hb : body = bodyAt 24) (hsc : env.scope = scopeAt 24) (hgl : env.globals = mainGlobals) (hbl : env.builtins = builtinsNs) (hce : env.cells = []) (hA : AOk 4 A) (hG : GF (hd.heap_39 P) h) (hk : ∀ b x, h.get? b = some x → s.heap.get? b = some x)
    (hns : s.heap.Ns env.locals m) (hm : m (Str.ofString "script") = some (.ref a)) (hL : h.get? env.locals = none) (ha : h.get? a = some o) (hc : o.cls = .type "list") (hdat : ∃ k, o.data = .seq vs.toArray k) (hI : IntsAre vs ns) (hz : ns.length ≤ 63) :
    wpAny (model prog w) A (execs body env) (fun f s' => f = .ret (.bool true) ∧ (∀ b x, h.get? b = some x → s'.heap.get? b = some x) ∧ s'.os = s.os ∧ s'.gens = s.gens) (fun _ _ => False) s := by
  subst hb
  have hKa : (KK P a o).lookup a = some o := kk_at hG ha
  have hG' : GF (KK P a o) h := kk_gf hG ha
  have hkind : (scopeAt 24).kind = .function := by kernel_rfl
  have hloc : (scopeAt 24).names.lookup (Str.ofString "script") = some .local := by kernel_rfl
  have hown : cellNames (scopeAt 24) = [] := by kernel_rfl
  have kl4 := kl (prog := prog) (w := w) P a o
  generalize KK P a o = K at hKa hG' kl4
  let Z : Addr → Prop := fun b => b = env.locals
  have hS : SS K env (cellNames (scopeAt 24)) Z Z [(Str.ofString "script", rawD a)] none none s := by
    refine ⟨⟨⟨h, hG', fun b x e => ⟨hk b x e, fun q => ?_⟩⟩, fun b hb => ?_, ⟨m, hns, fun x d hx => ?_⟩, by rw [hsc]; exact hkind, hgl, hbl, fun x c hx => by rw [hce] at hx; cases hx⟩, ⟨rfl, fun x hx => ?_, fun x hx => ?_, fun b hb => hb⟩⟩
    · obtain rfl : b = env.locals := q
      rw [hL] at e; cases e
    · obtain rfl : b = env.locals := hb
      obtain ⟨o, _, _, ho, _⟩ := hns; exact ⟨o, ho⟩
    · rcases lookup_cons_of hx with ⟨rfl, rfl⟩ | ⟨_, hx⟩
      · refine ⟨_, RX.raw a, .inl ⟨?_, hm⟩⟩
        show env.scope.names.lookup _ = _
        rw [hsc]; exact hloc
      · cases hx
    · rw [hown] at hx; cases hx
    · rw [hown] at hx; cases hx
  with_reducible refine wpAny_mono (ex_run (law_ex (n := 4) kl4 hKa hc hdat hI hz) hA hsc (fun b hb => hb) hS) (fun fl s' h' => ?_) fun _ _ x => x
  obtain ⟨fd, ρ', ow', oa', rfl, h2, h3, h4, h5⟩ := h'
  cases fl with
  | ret v =>
    have hv := RX.of_bool (X := Z) (h := s'.heap) h2
    subst hv
    refine And.intro (Eq.refl _) (And.intro ?_ (And.intro h4.os h4.gens))
    intro b x e
    have e2 := h4.keep b x (hk b x e)
    apply e2
    intro q
    rcases q with q | q
    · have q' : b = env.locals := q
      rw [q', hL] at e; cases e
    · cases q
  | next => exact h2.elim
  | brk => exact h2.elim
  | cont => exact h2.elim
end Mine

open PySem PySem.W PyProof.Rows
namespace Mine
theorem aok_callerA (env : Env) : AOk 4 (callerA.deeper env) := ⟨rfl, by show callerA.depth + 1 + 4 < _; decide +kernel, by show callerA.units + 3 + 16 * 4 + 200 < _; decide +kernel⟩
end Mine
set_option maxRecDepth 100000 in
set_option maxHeartbeats 8000000 in
theorem PySem.Challenge.cw_pw0003_01_holds : PySem.Challenge.rw_pw0003_01.Holds :=
  Mine.hd (by
  k_go0
  rename_i w s₀ s₁ mg mb G Y fa o pm doc kV ho hg KX XX V GL T B TE TW x9 x8 M x7 x6 hcd ns hs hlay0 hL1 hr1 hl2 x4 x3 la vs x0 hL ra w1 r0 hI hr hc1 hc2 K0 hD h₁ F N0
  obtain ⟨ol, hol, hcls, k, hdat⟩ := hL
  have hG : Mine.GF (Mine.hd.heap_39 w.params) s₁.heap := ⟨KX, ⟨mb, T.b, T.builtins⟩, ⟨mg, T.g⟩, T.nolimit, T.nodigits⟩
  with_reducible refine wpAny_mono (Mine.law_close (P := w.params) (h := s₁.heap) (a := la) (o := ol) (vs := vs) (ns := ns) (m := ?m) ?_ ?_ ?_ ?_ ?_ (Mine.aok_callerA _) hG ?_ ?ns ?_ ?_ hol hcls ⟨k, hdat⟩ hI ?_) (fun f s' h' => ?_) fun _ _ x => x.elim
  case ns => exact F.ns
  · kernel_rfl
  · kernel_rfl
  · kernel_rfl
  · kernel_rfl
  · kernel_rfl
  · exact F.keep
  · kernel_rfl
  · exact Mine.get?_size_none _
  · lia
  · obtain ⟨rfl, hk, hos, hgn⟩ := h'
    exact ⟨.inl ⟨.bool true, .bool true, [], rfl, fun _ => rfl, .bool true, by kernel_rfl, fun _ => ⟨List.nodup_nil, fun _ h => by cases h⟩⟩, hk, hos, hgn.trans hg⟩)
