import PyProof.Rows.All
import Wide.All
import OpenK.AllK
import Wide.FinOn
import PySem.Challenge.RW_sr0077_01
set_option Elab.async false

section PartJ1
open PySem PySem.W PySem.Calls PyProof.Rows
set_option maxRecDepth 100000
set_option linter.unusedVariables false
namespace Mine

/-- values as trees; `own k`: a mutable object known by its key -/
inductive V where
  | none
  | bool (b : Bool)
  | int (i : Int)
  | str (s : Str)
  | list (xs : List V)
  | tup (xs : List V)
  | own (k : Nat)


noncomputable abbrev Part := Addr → Option Obj
noncomputable abbrev Own := Nat → Option (List Addr)
noncomputable abbrev lobj (vs : List Value) (n : Nat) : Obj := { cls := .type "list", data := .seq vs.toArray n }
noncomputable abbrev tobj (vs : List Value) (n : Nat) : Obj := { cls := .type "tuple", data := .seq vs.toArray n }
noncomputable def In (I : Part) (h : Heap) : Prop := ∀ b o, I b = some o → h.get? b = some o
noncomputable def Le (I I' : Part) : Prop := ∀ b o, I b = some o → I' b = some o
noncomputable def OLe (O O' : Own) : Prop := ∀ k f, O k = some f → O' k = some f
inductive And3 (A B D : Prop) : Prop
  | mk (a : A) (b : B) (d : D)
theorem mem1 {α : Type} {p : α → Prop} {a : α} (h : p a) : ∀ b ∈ [a], p b := fun _ hb => List.mem_singleton.mp hb ▸ h
theorem memc {α : Type} {p : α → Prop} {a : α} {l : List α} (h : p a) (t : ∀ b ∈ l, p b) : ∀ b ∈ a :: l, p b := List.forall_mem_cons.mpr ⟨h, t⟩
noncomputable def Owns (O : Own) (b : Addr) : Prop := ∃ k f, O k = some f ∧ b ∈ f

mutual
inductive VRel (I : Part) (O : Own) : V → Value → Prop
  | none : VRel I O .none .none
  | bool (b) : VRel I O (.bool b) (.bool b)
  | int (i t) : VRel I O (.int i) (.int i t)
  | str (s t) : VRel I O (.str s) (.str s t)
  | list {xs vs a n} : I a = some (lobj vs n) → VRels I O xs vs → VRel I O (.list xs) (.ref a)
  | tup {xs vs a n} : I a = some (tobj vs n) → VRels I O xs vs → VRel I O (.tup xs) (.ref a)
  | own {k a f} : O k = some (a :: f) → VRel I O (.own k) (.ref a)
inductive VRels (I : Part) (O : Own) : List V → List Value → Prop
  | nil : VRels I O [] []
  | cons {x v xs vs} : VRel I O x v → VRels I O xs vs → VRels I O (x :: xs) (v :: vs)
end

theorem VRel.mono {I I' : Part} {O O' : Own} (hI : Le I I') (hO : OLe O O') {x v} (r : VRel I O x v) : VRel I' O' x v :=
  VRel.rec (motive_1 := fun x v _ => VRel I' O' x v) (motive_2 := fun xs vs _ => VRels I' O' xs vs) .none .bool .int .str (fun h _ r => .list (hI _ _ h) r) (fun h _ r => .tup (hI _ _ h) r) (fun h => .own (hO _ _ h)) .nil (fun _ _ a b => .cons a b) r
theorem VRels.mono {I I' : Part} {O O' : Own} (hI : Le I I') (hO : OLe O O') {xs vs} (r : VRels I O xs vs) : VRels I' O' xs vs :=
  VRels.rec (motive_1 := fun x v _ => VRel I' O' x v) (motive_2 := fun xs vs _ => VRels I' O' xs vs) .none .bool .int .str (fun h _ r => .list (hI _ _ h) r) (fun h _ r => .tup (hI _ _ h) r) (fun h => .own (hO _ _ h)) .nil (fun _ _ a b => .cons a b) r

theorem VRels.inv0 {I : Part} {O : Own} {vs} (h : VRels I O [] vs) : vs = [] := by cases h; rfl
theorem VRels.inv1 {I : Part} {O : Own} {x xs vs} (h : VRels I O (x :: xs) vs) : ∃ v us, vs = v :: us ∧ VRel I O x v ∧ VRels I O xs us := by cases h with | cons a r => exact ⟨_, _, rfl, a, r⟩
theorem VRels.length {I : Part} {O : Own} {xs} : ∀ {vs}, VRels I O xs vs → xs.length = vs.length := by
  induction xs with
  | nil => intro vs h; rw [h.inv0]; rfl
  | cons x xs ih => intro vs h; obtain ⟨v, us, rfl, _, r⟩ := h.inv1; exact congrArg (· + 1) (ih r)
theorem VRels.get {I : Part} {O : Own} {xs} : ∀ {vs}, VRels I O xs vs → ∀ i : Nat, ∀ x, xs[i]? = some x → ∃ v, vs[i]? = some v ∧ VRel I O x v := by
  induction xs with
  | nil => intro vs h i x e; cases e
  | cons y xs ih =>
    intro vs h i x e
    obtain ⟨v, us, rfl, a, r⟩ := h.inv1
    cases i with
    | zero => cases e; exact ⟨v, rfl, a⟩
    | succ i => exact ih r i x e
theorem VRels.get' {I : Part} {O : Own} {xs} : ∀ {vs}, VRels I O xs vs → ∀ i : Nat, ∀ v, vs[i]? = some v → ∃ x, xs[i]? = some x ∧ VRel I O x v := by
  induction xs with
  | nil => intro vs h i x e; rw [h.inv0] at e; cases e
  | cons y xs ih =>
    intro vs h i w e
    obtain ⟨v, us, rfl, a, r⟩ := h.inv1
    cases i with
    | zero => cases e; exact ⟨y, rfl, a⟩
    | succ i => exact ih r i w e
theorem VRels.append {I : Part} {O : Own} {xs} : ∀ {vs ys us}, VRels I O xs vs → VRels I O ys us → VRels I O (xs ++ ys) (vs ++ us) := by
  induction xs with
  | nil => intro vs ys us h g; rw [h.inv0]; exact g
  | cons x xs ih => intro vs ys us h g; obtain ⟨v, ws, rfl, a, r⟩ := h.inv1; exact .cons a (ih r g)
theorem VRels.snoc {I : Part} {O : Own} {xs vs x v} (h : VRels I O xs vs) (e : VRel I O x v) : VRels I O (xs ++ [x]) (vs ++ [v]) := h.append (.cons e .nil)
theorem VRels.take {I : Part} {O : Own} {xs} : ∀ {vs}, VRels I O xs vs → ∀ n, VRels I O (xs.take n) (vs.take n) := by
  induction xs with
  | nil => intro vs h n; rw [h.inv0, List.take_nil, List.take_nil]; exact .nil
  | cons x xs ih =>
    intro vs h n
    obtain ⟨v, us, rfl, a, r⟩ := h.inv1
    cases n with
    | zero => exact .nil
    | succ n => exact .cons a (ih r n)
theorem VRels.drop {I : Part} {O : Own} {xs} : ∀ {vs}, VRels I O xs vs → ∀ n, VRels I O (xs.drop n) (vs.drop n) := by
  induction xs with
  | nil => intro vs h n; rw [h.inv0, List.drop_nil, List.drop_nil]; exact .nil
  | cons x xs ih =>
    intro vs h n
    obtain ⟨v, us, rfl, a, r⟩ := h.inv1
    cases n with
    | zero => exact .cons a r
    | succ n => exact ih r n

/-- mutable objects -/
inductive OV where
  | list (xs : List V)
  | set (S : Int → Bool) (n : Nat)
  | inst (at_ : List (Str × V))
  | lam (v : V)
  | raw (o : Obj)
  | fit (k : Nat) (ended : Bool)

structure Cx where
  p : Program
  w : World
  B : Heap
  mg : Str → Option Value
  mb : Str → Option Value
  g : B.Ns mainGlobals mg
  b : B.Ns builtinsNs mb
  nolimit : B.NoLimit
  blt : ∀ x : Str, x ≠ "__name__" → mb x = bootBuiltins x
  free : ∀ x ∈ (["ord", "chr", "len", "min", "max", "sum", "set", "list", "range", "enumerate", "zip", "iter"] : List Str), mg x = none
  lexC : Addr
  lamFd : FuncData → Prop
  readF : Addr
  tabP : Addr

noncomputable abbrev Cx.M (C : Cx) : Model := model C.p C.w
noncomputable def ORel (C : Cx) (I : Part) (O : Own) (h : Heap) (a : Addr) (f : List Addr) : OV → Prop
  | .list xs => f = [] ∧ ∃ vs n, h.get? a = some (lobj vs n) ∧ VRels I O xs vs
  | .set S n => f = [] ∧ ∃ o, h.get? a = some o ∧ o.SetObjOf (intKind C.p C.w) S n
  | .inst at_ => ∃ dx o mA, f = [dx] ∧ h.get? a = some o ∧ o.cls = .ref C.lexC ∧ o.dict = some dx ∧ (∀ c, o.data ≠ .cls c) ∧ dx ≠ a ∧ h.Ns1 dx mA ∧
      (∀ n v, at_.lookup n = some v → ∃ cv, mA n = some cv ∧ VRel I O v cv) ∧ ∀ n, at_.lookup n = none → mA n = none
  | .lam v => ∃ c o fd cv, f = [] ∧ h.get? a = some o ∧ o.cls = .type "function" ∧ o.data = .func fd ∧ C.lamFd fd ∧ fd.closure = [(("left" : Str), c)] ∧
      (∃ cd oc vs t, fd.code = .ref cd ∧ I cd = some oc ∧ oc.data = .fields vs ∧ vs[1]? = some (.str fd.qualname t)) ∧ (∃ oc, I c = some oc ∧ oc.data = .cell (some cv)) ∧ VRel I O v cv
  | .fit k ended => ∃ m x xf t, f = [m] ∧ h.get? m = some { cls := .type "method", data := .fields #[.ref C.readF, .ref x] } ∧ O k = some (x :: xf) ∧
      h.get? a = some { cls := .type "callable_iterator", data := .fields (if ended then #[.none, .none, .bool true] else #[.ref m, .str Str.empty t, .bool false]) }
  | .raw o => f = [] ∧ a = C.tabP ∧ h.get? a = some o
theorem ORel.mono {C : Cx} {I I' : Part} {O O' : Own} {h h' : Heap} {a : Addr} {f : List Addr} (hI : Le I I') (hO : OLe O O') (hk : ∀ b ∈ a :: f, ∀ o, h.get? b = some o → h'.get? b = some o) :
    ∀ {ov}, ORel C I O h a f ov → ORel C I' O' h' a f ov := by
  have k0 := fun o => hk a (.head _) o
  intro ov r
  cases ov with
  | list _ => exact let ⟨e, vs, n, q, r⟩ := r; ⟨e, vs, n, k0 _ q, r.mono hI hO⟩
  | set _ _ => exact let ⟨e, o, q, r⟩ := r; ⟨e, o, k0 _ q, r⟩
  | inst _ =>
    obtain ⟨dx, o, mA, e, q, h1, h2, h3, h4, hn, hv, hz⟩ := r
    exact ⟨dx, o, mA, e, k0 _ q, h1, h2, h3, h4, hn.at fun o q => hk dx (by rw [e]; exact .tail _ (.head _)) o q, fun n v hl => let ⟨cv, g1, g2⟩ := hv n v hl; ⟨cv, g1, g2.mono hI hO⟩, hz⟩
  | lam _ =>
    obtain ⟨c, o, fd, cv, e, q, h1, h2, h3, h4, g, ⟨oc', e', d'⟩, r⟩ := r
    refine ⟨c, o, fd, cv, e, k0 _ q, h1, h2, h3, h4, ?_, ⟨oc', hI _ _ e', d'⟩, r.mono hI hO⟩
    obtain ⟨cd, oc, vs, t, g1, g2, g3, g4⟩ := g
    exact ⟨cd, oc, vs, t, g1, hI _ _ g2, g3, g4⟩
  | fit _ _ =>
    obtain ⟨m, x, xf, t, e, h1, h2, h3⟩ := r
    exact ⟨m, x, xf, t, e, hk m (by rw [e]; exact .tail _ (.head _)) _ h1, hO _ _ h2, k0 _ h3⟩
  | raw _ => exact ⟨r.1, r.2.1, k0 _ r.2.2⟩

noncomputable abbrev Store := List (Nat × OV)

structure WF (C : Cx) (I : Part) (O : Own) (H : Store) (s : Shared) : Prop where
  base : ∀ b o, C.B.get? b = some o → I b = some o
  has : In I s.heap
  dom : ∀ k, (O k).isSome = (H.lookup k).isSome
  rel : ∀ k ov, H.lookup k = some ov → ∃ a f, O k = some (a :: f) ∧ ORel C I O s.heap a f ov
  off : ∀ k f, O k = some f → ∀ b ∈ f, I b = none ∧ (s.heap.get? b).isSome
  apart : ∀ k k' f f', O k = some f → O k' = some f' → k ≠ k' → ∀ b ∈ f, b ∉ f'

structure Step (fa : List Addr) (I : Part) (O : Own) (s : Shared) (I' : Part) (O' : Own) (s' : Shared) : Prop where
  sub : Le I I'
  fresh : ∀ b o, I' b = some o → I b = some o ∨ s.heap.get? b = none
  oext : OLe O O'
  newk : ∀ k f, O' k = some f → O k = some f ∨ ∀ b ∈ f, s.heap.get? b = none
  keep : ∀ b o, s.heap.get? b = some o → ¬ Owns O b → b ∉ fa → s'.heap.get? b = some o
  alive : ∀ b, (s.heap.get? b).isSome → (s'.heap.get? b).isSome
  gens : s'.gens = s.gens
  drawn : s'.drawn = s.drawn
  os : s'.os = s.os

theorem Step.refl {fa I O s} : Step fa I O s I O s := ⟨fun _ _ e => e, fun _ _ e => .inl e, fun _ _ e => e, fun _ _ e => .inl e, fun _ _ e _ _ => e, fun _ e => e, rfl, rfl, rfl⟩
theorem Step.toks {fa I O s I' O' s'} (x : Step fa I O s I' O' s') (t : Nat) : Step fa I O s I' O' { s' with toks := t } :=
  ⟨x.sub, x.fresh, x.oext, x.newk, x.keep, x.alive, x.gens, x.drawn, x.os⟩
theorem Step.tok0 {fa I O s} (t : Nat) : Step fa I O s I O { s with toks := t } := Step.refl.toks t
theorem none_of_alive {h h' : Heap} {b : Addr} (a : (h.get? b).isSome → (h'.get? b).isSome) (e : h'.get? b = none) : h.get? b = none := by
  cases q : h.get? b with
  | none => rfl
  | some o => have := a (by rw [q]; rfl); rw [e] at this; cases this
theorem Step.trans {fa I O s I₁ O₁ s₁ I₂ O₂ s₂} (x : Step fa I O s I₁ O₁ s₁) (y : Step fa I₁ O₁ s₁ I₂ O₂ s₂) : Step fa I O s I₂ O₂ s₂ where
  sub := fun b o e => y.sub b o (x.sub b o e)
  fresh := fun b o e => (y.fresh b o e).elim (fun q => x.fresh b o q) fun q => .inr (none_of_alive (x.alive b) q)
  oext := fun k f e => y.oext k f (x.oext k f e)
  newk := fun k f e => (y.newk k f e).elim (fun q => x.newk k f q) fun q => .inr fun b hb => none_of_alive (x.alive b) (q b hb)
  keep := fun b o e h1 h2 => y.keep b o (x.keep b o e h1 h2) (fun ⟨k, f, q, hb⟩ => (x.newk k f q).elim (fun q' => h1 ⟨k, f, q', hb⟩) fun q' => by rw [q' b hb] at e; cases e) h2
  alive := fun b e => y.alive b (x.alive b e)
  gens := y.gens.trans x.gens
  drawn := y.drawn.trans x.drawn
  os := y.os.trans x.os
theorem Step.wide {fa fa' I O s I' O' s'} (x : Step fa I O s I' O' s') (h : ∀ b ∈ fa, b ∈ fa') : Step fa' I O s I' O' s' :=
  ⟨x.sub, x.fresh, x.oext, x.newk, fun b o e h1 h2 => x.keep b o e h1 fun q => h2 (h b q), x.alive, x.gens, x.drawn, x.os⟩
theorem Step.nil {fa I O s I' O' s'} (x : Step [] I O s I' O' s') : Step fa I O s I' O' s' := x.wide fun _ h => nomatch h

theorem WF.toks {C I O H s} (x : WF C I O H s) (t : Nat) : WF C I O H { s with toks := t } := ⟨x.base, x.has, x.dom, x.rel, x.off, x.apart⟩
theorem WF.nOwn {C I O H s} (x : WF C I O H s) {b : Addr} {o : Obj} (e : I b = some o) : ¬ Owns O b := fun ⟨k, f, q, hb⟩ => by rw [(x.off k f q b hb).1] at e; cases e

structure AOk (d : Nat) (A : Around) : Prop where
  handled : A.handled = none
  depth : A.depth + d ≤ 990
  units : A.units + 10 * d ≤ 9000
theorem AOk.deeper {d A env} (x : AOk (d + 1) A) : AOk d (A.deeper env) := ⟨x.handled, by have := x.depth; show A.depth + 1 + d ≤ 990; omega, by have := x.units; show A.units + 3 + 10 * d ≤ 9000; omega⟩
theorem AOk.in1 {d A} (x : AOk (d + 1) A) : AOk d A.in1 := ⟨x.handled, by have := x.depth; show A.depth + d ≤ 990; omega, by have := x.units; show A.units + 1 + 10 * d ≤ 9000; omega⟩
theorem AOk.less {d A} (x : AOk (d + 1) A) : AOk d A := ⟨x.handled, by have := x.depth; omega, by have := x.units; omega⟩

/-- the names of a block: its kinds, and those cells that are its own -/
structure Sc where
  ns : List (Str × NameKind)
  own : List Str

noncomputable abbrev Vars := List (Str × V)

structure EnvR (C : Cx) (I : Part) (O : Own) (env : Env) (sc : Sc) (fa : List Addr) (ρ : Vars) (h : Heap) : Prop where
  kind : env.scope.kind = .function
  ns : env.scope.names = sc.ns
  glob : env.globals = mainGlobals
  blt : env.builtins = builtinsNs
  loc : env.locals ∈ fa
  vars : ∃ m, h.Ns env.locals m ∧ ∀ x v, ρ.lookup x = some v → sc.ns.lookup x = some .local → ∃ cv, m x = some cv ∧ VRel I O v cv
  cell : ∀ x v, ρ.lookup x = some v → sc.ns.lookup x = some .cell ∨ sc.ns.lookup x = some .free → ∃ c cv, env.cells.lookup x = some c ∧ h.IsCell c (some cv) ∧ VRel I O v cv
  ownc : ∀ x ∈ sc.own, sc.ns.lookup x = some .cell → ∃ c, env.cells.lookup x = some c ∧ c ∈ fa
  cells : ∀ x c, (x, c) ∈ env.cells → (∃ v, h.IsCell c v) ∧ c ≠ env.locals
  apart : env.cells.Pairwise fun x y => x.2 ≠ y.2
  off : ∀ a, a = env.locals ∨ (∃ x, (x, a) ∈ env.cells) ∨ a ∈ fa → (a = env.locals ∨ a ∈ fa → I a = none) ∧ ¬ Owns O a ∧ (h.get? a).isSome

theorem IsCell.at {h h' : Heap} {c : Addr} {v : Option Value} (x : h.IsCell c v) (k : ∀ o, h.get? c = some o → h'.get? c = some o) : h'.IsCell c v := let ⟨o, e, d⟩ := x; ⟨o, k o e, d⟩
theorem IsCell.some {h : Heap} {c : Addr} {v : Option Value} (x : h.IsCell c v) : (h.get? c).isSome := let ⟨o, e, _⟩ := x; by rw [e]; rfl
theorem Ns.some {h : Heap} {a : Addr} {m} (x : h.Ns a m) : (h.get? a).isSome := let ⟨o, _, _, e, _⟩ := x; by rw [e]; rfl

/-- a step that leaves the frame's own objects alone keeps the frame's facts -/
theorem EnvR.step {C I O env sc fa ρ s I' O' s'} (x : EnvR C I O env sc fa ρ s.heap) (st : Step [] I O s I' O' s') : EnvR C I' O' env sc fa ρ s'.heap := by
  have key : ∀ a, a = env.locals ∨ (∃ x, (x, a) ∈ env.cells) ∨ a ∈ fa → ∀ o, s.heap.get? a = .some o → s'.heap.get? a = .some o :=
    fun a ha o e => st.keep a o e (x.off a ha).2.1 (fun h => nomatch h)
  refine ⟨x.kind, x.ns, x.glob, x.blt, x.loc, ?_, ?_, x.ownc, ?_, x.apart, ?_⟩
  · obtain ⟨m, hn, hv⟩ := x.vars
    exact ⟨m, hn.at' fun o e => key _ (.inl rfl) o e, fun y v h1 h2 => let ⟨cv, a, b⟩ := hv y v h1 h2; ⟨cv, a, b.mono st.sub st.oext⟩⟩
  · intro y v h1 h2
    obtain ⟨c, cv, a, b, d⟩ := x.cell y v h1 h2
    exact ⟨c, cv, a, IsCell.at b fun o e => key c (.inr (.inl ⟨y, mem_of_lookup a⟩)) o e, d.mono st.sub st.oext⟩
  · intro y c hm
    obtain ⟨⟨v, a⟩, b⟩ := x.cells y c hm
    exact ⟨⟨v, IsCell.at a fun o e => key c (.inr (.inl ⟨y, hm⟩)) o e⟩, b⟩
  · intro a ha
    obtain ⟨h1, h2, h3⟩ := x.off a ha
    refine ⟨fun hq => ?_, ?_, st.alive a h3⟩
    · have h1 := h1 hq
      cases q : I' a with
      | none => rfl
      | some o => exact (st.fresh a o q).elim (fun e => by rw [h1] at e; cases e) fun e => by rw [e] at h3; cases h3
    · rintro ⟨k, f, q, hb⟩
      exact (st.newk k f q).elim (fun e => h2 ⟨k, f, e, hb⟩) fun e => by rw [e a hb] at h3; cases h3
theorem EnvR.toks {C I O env sc fa ρ} {s : Shared} (x : EnvR C I O env sc fa ρ s.heap) (t : Nat) : EnvR C I O env sc fa ρ ({ s with toks := t } : Shared).heap := x

/-- what a value's evaluation leaves -/
inductive Post (C : Cx) (I : Part) (O : Own) (s : Shared) (Q : V → Store → Prop) (cv : Value) (s' : Shared) : Prop
  | mk (I' : Part) (O' : Own) (H' : Store) (v : V) (st : Step [] I O s I' O' s') (wf : WF C I' O' H' s') (r : VRel I' O' v cv) (q : Q v H')
inductive PostB (C : Cx) (I : Part) (O : Own) (s : Shared) (Q : Bool → Store → Prop) (b : Bool) (s' : Shared) : Prop
  | mk (I' : Part) (O' : Own) (H' : Store) (st : Step [] I O s I' O' s') (wf : WF C I' O' H' s') (q : Q b H')
inductive PostU (C : Cx) (I : Part) (O : Own) (s : Shared) (Q : Store → Prop) (s' : Shared) : Prop
  | mk (I' : Part) (O' : Own) (H' : Store) (st : Step [] I O s I' O' s') (wf : WF C I' O' H' s') (q : Q H')
inductive Posts (C : Cx) (I : Part) (O : Own) (s : Shared) (Q : List V → Store → Prop) (cvs : List Value) (s' : Shared) : Prop
  | mk (I' : Part) (O' : Own) (H' : Store) (vs : List V) (st : Step [] I O s I' O' s') (wf : WF C I' O' H' s') (r : VRels I' O' vs cvs) (q : Q vs H')

theorem Post.from {C I O s I₁ O₁ s₁ Q cv s'} (st : Step [] I O s I₁ O₁ s₁) (x : Post C I₁ O₁ s₁ Q cv s') : Post C I O s Q cv s' :=
  let ⟨I', O', H', v, a, b, c, d⟩ := x; ⟨I', O', H', v, st.trans a, b, c, d⟩
theorem PostB.from {C I O s I₁ O₁ s₁ Q cv s'} (st : Step [] I O s I₁ O₁ s₁) (x : PostB C I₁ O₁ s₁ Q cv s') : PostB C I O s Q cv s' :=
  let ⟨I', O', H', a, b, c⟩ := x; ⟨I', O', H', st.trans a, b, c⟩
theorem Posts.from {C I O s I₁ O₁ s₁ Q cv s'} (st : Step [] I O s I₁ O₁ s₁) (x : Posts C I₁ O₁ s₁ Q cv s') : Posts C I O s Q cv s' :=
  let ⟨I', O', H', v, a, b, c, d⟩ := x; ⟨I', O', H', v, st.trans a, b, c, d⟩

/-- the judgements -/
noncomputable def Ev (C : Cx) (d : Nat) (sc : Sc) (ρ : Vars) (e : Expr) (H : Store) (Q : V → Store → Prop) : Prop :=
  ∀ A E s env fa I O, AOk d A → EnvR C I O env sc fa ρ s.heap → WF C I O H s → wpAny C.M A (eval e env) (Post C I O s Q) E s
noncomputable def Tr (C : Cx) (d : Nat) (sc : Sc) (ρ : Vars) (e : Expr) (H : Store) (Q : Bool → Store → Prop) : Prop :=
  ∀ A E s env fa I O, AOk d A → EnvR C I O env sc fa ρ s.heap → WF C I O H s → wpAny C.M A (isTrue e env (eval e env)) (PostB C I O s Q) E s
noncomputable def Es (C : Cx) (d : Nat) (sc : Sc) (ρ : Vars) (es : List Expr) (H : Store) (Q : List V → Store → Prop) : Prop :=
  ∀ A E s env fa I O pos, AOk d A → EnvR C I O env sc fa ρ s.heap → WF C I O H s → wpAny C.M A (spliced (backTo pos (starEach es env))) (Posts C I O s Q) E s
noncomputable def Bin (C : Cx) (d : Nat) (op : Operator) (a b : V) (H : Store) (Q : V → Store → Prop) : Prop :=
  ∀ A E s I O ca cb, AOk d A → WF C I O H s → VRel I O a ca → VRel I O b cb → wpAny C.M A (binaryOp op ca cb) (Post C I O s Q) E s
noncomputable def IBin (C : Cx) (d : Nat) (op : Operator) (a b : V) (H : Store) (Q : V → Store → Prop) : Prop :=
  ∀ A E s I O ca cb, AOk d A → WF C I O H s → VRel I O a ca → VRel I O b cb → wpAny C.M A (inplaceOp op ca cb) (Post C I O s Q) E s
noncomputable def Cmp (C : Cx) (d : Nat) (op : CmpOp) (a b : V) (H : Store) (Q : Bool → Store → Prop) : Prop :=
  ∀ A E s I O ca cb, AOk d A → WF C I O H s → VRel I O a ca → VRel I O b cb → wpAny C.M A (compareOp op ca cb) (fun r s' => ∃ b, r = .bool b ∧ PostB C I O s Q b s') E s
noncomputable def Tru (C : Cx) (d : Nat) (a : V) (H : Store) (Q : Bool → Store → Prop) : Prop :=
  ∀ A E s I O ca, AOk d A → WF C I O H s → VRel I O a ca → wpAny C.M A (truthy ca) (PostB C I O s Q) E s

variable {C : Cx} {d : Nat} {sc : Sc} {ρ : Vars} {H : Store}

theorem post_val {I O s Q v cv} {t : Nat} (wf : WF C I O H s) (r : VRel I O v cv) (q : Q v H) : Post C I O s Q cv { s with toks := t } := ⟨I, O, H, v, .tok0 t, wf.toks t, r, q⟩
theorem post_val0 {I O s Q v cv} (wf : WF C I O H s) (r : VRel I O v cv) (q : Q v H) : Post C I O s Q cv s := ⟨I, O, H, v, .refl, wf, r, q⟩
theorem post_b {I O s Q b} {t : Nat} (wf : WF C I O H s) (q : Q b H) : PostB C I O s Q b { s with toks := t } := ⟨I, O, H, .tok0 t, wf.toks t, q⟩
theorem post_b0 {I O s Q b} (wf : WF C I O H s) (q : Q b H) : PostB C I O s Q b s := ⟨I, O, H, .refl, wf, q⟩

theorem Ev.mono {e Q Q'} (x : Ev C d sc ρ e H Q) (h : ∀ v H', Q v H' → Q' v H') : Ev C d sc ρ e H Q' := fun A E s env fa I O hA hE wf =>
  wpAny_mono (x A E s env fa I O hA hE wf) (fun _ _ ⟨I', O', H', v, a, b, c, q⟩ => ⟨I', O', H', v, a, b, c, h _ _ q⟩) fun _ _ e => e
theorem Tr.mono {e Q Q'} (x : Tr C d sc ρ e H Q) (h : ∀ v H', Q v H' → Q' v H') : Tr C d sc ρ e H Q' := fun A E s env fa I O hA hE wf =>
  wpAny_mono (x A E s env fa I O hA hE wf) (fun _ _ ⟨I', O', H', a, b, q⟩ => ⟨I', O', H', a, b, h _ _ q⟩) fun _ _ e => e

theorem ev_int {i k pos Q} (q : Q (.int i) H) : Ev C d sc ρ (.Constant (.int i) k pos) H Q := fun _ _ s _ _ _ _ _ _ wf => wpAny_Constant_int (post_val wf (.int i s.toks) q)
theorem ev_str {x k pos Q} (q : Q (.str x) H) : Ev C d sc ρ (.Constant (.str x) k pos) H Q := fun _ _ s _ _ _ _ _ _ wf => Constant_str (post_val wf (.str x s.toks) q)
theorem ev_bool {b k pos Q} (q : Q (.bool b) H) : Ev C d sc ρ (.Constant (.bool b) k pos) H Q := fun _ _ _ _ _ _ _ _ _ wf => wpAny_Constant_bool (post_val0 wf (.bool b) q)
theorem ev_none {k pos Q} (q : Q .none H) : Ev C d sc ρ (.Constant .none k pos) H Q := fun _ _ _ _ _ _ _ _ _ wf => wpAny_Constant_none (post_val0 wf .none q)

theorem ev_name {x pos v Q} (hk : sc.ns.lookup x = some .local ∨ sc.ns.lookup x = some .cell ∨ sc.ns.lookup x = some .free) (hv : ρ.lookup x = some v) (q : Q v H)
    (h1 : (x == ("__debug__" : Str)) = false := by decide) (h2 : (x == ("__classdict__" : Str)) = false := by decide) : Ev C d sc ρ (.Name x pos) H Q := fun A E s env fa I O hA hE wf => by
  refine wpAny_Name ?_ h1
  rcases hk with hk | hk | hk
  · obtain ⟨m, hn, hm⟩ := hE.vars
    obtain ⟨cv, a, b⟩ := hm x v hv hk
    exact wpAny_loadName_local hE.kind (by show env.scope.names.lookup x = _; rw [hE.ns]; exact hk) hn a (post_val0 wf b q)
  · obtain ⟨c, cv, a, b, e⟩ := hE.cell x v hv (.inl hk)
    exact wpAny_loadName_cell hE.kind (by show env.scope.names.lookup x = _; rw [hE.ns]; exact hk) a b (post_val0 wf e q)
  · obtain ⟨c, cv, a, b, e⟩ := hE.cell x v hv (.inr hk)
    exact wpAny_loadName_free hE.kind (by show env.scope.names.lookup x = _; rw [hE.ns]; exact hk) a b (post_val0 wf e q) h2

theorem ev_bin {l op r pos Q} (h : Ev C d sc ρ l H fun a H₁ => Ev C d sc ρ r H₁ fun b H₂ => Bin C d op a b H₂ Q) : Ev C d sc ρ (.BinOp l op r pos) H Q := fun A E s env fa I O hA hE wf => by
  refine wpAny_BinOp (wpAny_mono (h A E s env fa I O hA hE wf) (fun ca s₁ ⟨I₁, O₁, H₁, a, st₁, wf₁, ra, q₁⟩ => ?_) fun _ _ e => e)
  refine wpAny_mono (q₁ A E s₁ env fa I₁ O₁ hA (hE.step st₁) wf₁) (fun cb s₂ ⟨I₂, O₂, H₂, b, st₂, wf₂, rb, q₂⟩ => ?_) fun _ _ e => e
  exact wpAny_mono (q₂ A E s₂ I₂ O₂ ca cb hA wf₂ (ra.mono st₂.sub st₂.oext) rb) (fun _ _ x => x.from (st₁.trans st₂)) fun _ _ e => e
theorem ev_cmp {l op r pos Q} (h : Ev C d sc ρ l H fun a H₁ => Ev C d sc ρ r H₁ fun b H₂ => Cmp C d op a b H₂ fun t H₃ => Q (.bool t) H₃) (hm : behindInMarks op r = false := by rfl) :
    Ev C d sc ρ (.Compare l [op] [r] pos) H Q := fun A E s env fa I O hA hE wf => by
  refine wpAny_Compare1 (wpAny_mono (h A E s env fa I O hA hE wf) (fun ca s₁ ⟨I₁, O₁, H₁, a, st₁, wf₁, ra, q₁⟩ => ?_) fun _ _ e => e) hm
  refine wpAny_mono (q₁ A E s₁ env fa I₁ O₁ hA (hE.step st₁) wf₁) (fun cb s₂ ⟨I₂, O₂, H₂, b, st₂, wf₂, rb, q₂⟩ => ?_) fun _ _ e => e
  refine wpAny_mono (q₂ A E s₂ I₂ O₂ ca cb hA wf₂ (ra.mono st₂.sub st₂.oext) rb) (fun r s' ⟨t, e, I', O', H', x, y, z⟩ => ?_) fun _ _ e => e
  subst e
  exact ⟨I', O', H', .bool t, (st₁.trans st₂).trans x, y, .bool t, z⟩
theorem tr_cmp {l op r pos Q} (h : Ev C d sc ρ l H fun a H₁ => Ev C d sc ρ r H₁ fun b H₂ => Cmp C d op a b H₂ Q) (hm : behindInMarks op r = false := by rfl) :
    Tr C d sc ρ (.Compare l [op] [r] pos) H Q := fun A E s env fa I O hA hE wf => by
  refine wpAny_isTrue_Compare1 (wpAny_mono (h A E s env fa I O hA hE wf) (fun ca s₁ ⟨I₁, O₁, H₁, a, st₁, wf₁, ra, q₁⟩ => ?_) fun _ _ e => e) hm
  refine wpAny_mono (q₁ A E s₁ env fa I₁ O₁ hA (hE.step st₁) wf₁) (fun cb s₂ ⟨I₂, O₂, H₂, b, st₂, wf₂, rb, q₂⟩ => ?_) fun _ _ e => e
  refine wpAny_mono (q₂ A E s₂ I₂ O₂ ca cb hA wf₂ (ra.mono st₂.sub st₂.oext) rb) (fun r s' ⟨t, e, x⟩ => ?_) fun _ _ e => e
  subst e
  exact wpAny_truthy_bool (x.from (st₁.trans st₂))
theorem tr_val {e Q} (h : Ev C d sc ρ e H fun a H₁ => Tru C d a H₁ Q) (he : ∀ env whole, isTrue e env whole = (do let v ← whole; standAt e.pos; holding [v] (truthy v)) := by intro _ _; rfl) : Tr C d sc ρ e H Q :=
  fun A E s env fa I O hA hE wf => by
  refine wpAny_isTrue_value (wpAny_mono (h A E s env fa I O hA hE wf) (fun ca s₁ ⟨I₁, O₁, H₁, a, st₁, wf₁, ra, q₁⟩ => ?_) fun _ _ e => e) (he _ _)
  exact wpAny_mono (q₁ A E s₁ I₁ O₁ ca hA wf₁ ra) (fun _ _ x => x.from st₁) fun _ _ e => e
theorem ev_ifexp {t b o pos Q} (h : Tr C d sc ρ t H fun c H₁ => (c = true → Ev C d sc ρ b H₁ Q) ∧ (c = false → Ev C d sc ρ o H₁ Q)) : Ev C d sc ρ (.IfExp t b o pos) H Q :=
  fun A E s env fa I O hA hE wf => by
  refine wpAny_IfExp (wpAny_mono (h A E s env fa I O hA hE wf) (fun c s₁ ⟨I₁, O₁, H₁, st₁, wf₁, q₁⟩ => ?_) fun _ _ e => e)
  cases c with
  | true => exact wpAny_mono (q₁.1 rfl A E s₁ env fa I₁ O₁ hA (hE.step st₁) wf₁) (fun _ _ x => x.from st₁) fun _ _ e => e
  | false => exact wpAny_mono (q₁.2 rfl A E s₁ env fa I₁ O₁ hA (hE.step st₁) wf₁) (fun _ _ x => x.from st₁) fun _ _ e => e
noncomputable def TrAll (C : Cx) (d : Nat) (sc : Sc) (ρ : Vars) (op : PySem.BoolOp) (es : List Expr) (H : Store) (Q : Bool → Store → Prop) : Prop :=
  ∀ A E s env fa I O, AOk d A → EnvR C I O env sc fa ρ s.heap → WF C I O H s → wpAny C.M A (allTrue op es env) (PostB C I O s Q) E s
theorem tr_bool {op es pos Q} (h : TrAll C d sc ρ op es H Q) : Tr C d sc ρ (.BoolOp op es pos) H Q := fun A E s env fa I O hA hE wf => wpAny_isTrue_BoolOp (h A E s env fa I O hA hE wf)
theorem all_and_nil {Q} (q : Q true H) : TrAll C d sc ρ .And [] H Q := fun _ _ _ _ _ _ _ _ _ wf => wpAny_allTrue_And_nil (post_b0 wf q)
theorem all_or_nil {Q} (q : Q false H) : TrAll C d sc ρ .Or [] H Q := fun _ _ _ _ _ _ _ _ _ wf => wpAny_allTrue_Or_nil (post_b0 wf q)
theorem all_and {e es Q} (h : Tr C d sc ρ e H fun c H₁ => (c = true → TrAll C d sc ρ .And es H₁ Q) ∧ (c = false → Q false H₁)) : TrAll C d sc ρ .And (e :: es) H Q :=
  fun A E s env fa I O hA hE wf => by
  refine wpAny_allTrue_And_cons (wpAny_mono (h A E s env fa I O hA hE wf) (fun c s₁ ⟨I₁, O₁, H₁, st₁, wf₁, q₁⟩ => ?_) fun _ _ e => e)
  cases c with
  | true => exact wpAny_mono (q₁.1 rfl A E s₁ env fa I₁ O₁ hA (hE.step st₁) wf₁) (fun _ _ x => x.from st₁) fun _ _ e => e
  | false => exact ⟨I₁, O₁, H₁, st₁, wf₁, q₁.2 rfl⟩
theorem all_or {e es Q} (h : Tr C d sc ρ e H fun c H₁ => (c = true → Q true H₁) ∧ (c = false → TrAll C d sc ρ .Or es H₁ Q)) : TrAll C d sc ρ .Or (e :: es) H Q :=
  fun A E s env fa I O hA hE wf => by
  refine wpAny_allTrue_Or_cons (wpAny_mono (h A E s env fa I O hA hE wf) (fun c s₁ ⟨I₁, O₁, H₁, st₁, wf₁, q₁⟩ => ?_) fun _ _ e => e)
  cases c with
  | true => exact ⟨I₁, O₁, H₁, st₁, wf₁, q₁.1 rfl⟩
  | false => exact wpAny_mono (q₁.2 rfl A E s₁ env fa I₁ O₁ hA (hE.step st₁) wf₁) (fun _ _ x => x.from st₁) fun _ _ e => e
theorem ev_or2 {x y pos Q} (h : Ev C d sc ρ x H fun a H₁ => Tru C d a H₁ fun t H₂ => (t = true → Q a H₂) ∧ (t = false → Ev C d sc ρ y H₂ Q)) : Ev C d sc ρ (.BoolOp .Or [x, y] pos) H Q :=
  fun A E s env fa I O hA hE wf => by
  refine wpAny_Or2 (wpAny_mono (h A E s env fa I O hA hE wf) (fun ca s₁ ⟨I₁, O₁, H₁, a, st₁, wf₁, ra, q₁⟩ => ?_) fun _ _ e => e)
  refine wpAny_mono (q₁ A E s₁ I₁ O₁ ca hA wf₁ ra) (fun t s₂ ⟨I₂, O₂, H₂, st₂, wf₂, q₂⟩ => ?_) fun _ _ e => e
  cases t with
  | true => exact ⟨I₂, O₂, H₂, a, st₁.trans st₂, wf₂, ra.mono st₂.sub st₂.oext, q₂.1 rfl⟩
  | false => exact wpAny_mono (q₂.2 rfl A E s₂ env fa I₂ O₂ hA ((hE.step st₁).step st₂) wf₂) (fun _ _ x => x.from (st₁.trans st₂)) fun _ _ e => e

theorem es_nil {Q} (q : Q [] H) : Es C d sc ρ [] H Q := fun _ _ s _ _ I O _ _ _ wf => wpAny_items_nil ⟨I, O, H, [], .refl, wf, .nil, q⟩
theorem es_cons {e es Q} (h : Ev C d sc ρ e H fun v H₁ => Es C d sc ρ es H₁ fun vs H₂ => Q (v :: vs) H₂) (he : ∀ env, starEach (e :: es) env = (false, eval e env) :: starEach es env := by intro _; rfl) :
    Es C d sc ρ (e :: es) H Q := fun A E s env fa I O pos hA hE wf => by
  refine wpAny_items_cons (wpAny_mono (h A E s env fa I O hA hE wf) (fun cv s₁ ⟨I₁, O₁, H₁, v, st₁, wf₁, rv, q₁⟩ => ?_) fun _ _ e => e) (he env)
  refine wpAny_mono (q₁ A E s₁ env fa I₁ O₁ pos hA (hE.step st₁) wf₁) (fun cvs s₂ ⟨I₂, O₂, H₂, vs, st₂, wf₂, rvs, q₂⟩ => ?_) fun _ _ e => e
  exact ⟨I₂, O₂, H₂, v :: vs, st₁.trans st₂, wf₂, .cons (rv.mono st₂.sub st₂.oext) rvs, q₂⟩
end Mine
end PartJ1

section PartJ2
open PySem PySem.W PySem.Calls PyProof.Rows
set_option maxRecDepth 100000
set_option linter.unusedVariables false
namespace Mine
variable {C : Cx} {d : Nat} {sc : Sc} {ρ : Vars} {H : Store}

noncomputable def addI (I : Part) (a : Addr) (o : Obj) : Part := fun b => if b = a then some o else I b
noncomputable def addO (O : Own) (k : Nat) (f : List Addr) : Own := fun j => if j = k then some f else O j

theorem get_size_none (h : Heap) : h.get? h.objs.size = none := by
  cases q : h.get? h.objs.size with
  | none => rfl
  | some o => exact absurd (Heap.lt_size q) (Nat.lt_irrefl _)
theorem get_push {h : Heap} {o : Obj} {b : Addr} {o' : Obj} (e : h.get? b = some o') : (h.push o).get? b = some o' := Heap.get?_push_of_some _ e

theorem push_imm {I O s} {o : Obj} (wf : WF C I O H s) (hf : o.isFreed = false) :
    Step [] I O s (addI I s.heap.objs.size o) O { s with heap := s.heap.push o } ∧ WF C (addI I s.heap.objs.size o) O H { s with heap := s.heap.push o } ∧ addI I s.heap.objs.size o s.heap.objs.size = some o := by
  have hn := get_size_none s.heap
  have le : Le I (addI I s.heap.objs.size o) := fun b o' e => by
    unfold addI
    by_cases q : b = s.heap.objs.size
    · subst q; have := wf.has _ _ e; rw [hn] at this; cases this
    · rw [if_neg q]; exact e
  refine ⟨⟨le, fun b o' e => ?_, fun _ _ e => e, fun _ _ e => .inl e, fun b o' e _ _ => get_push e, fun b e => ?_, rfl, rfl, rfl⟩, ⟨fun b o' e => le b o' (wf.base b o' e), fun b o' e => ?_, wf.dom, fun k ov e => ?_, fun k f e b hb => ?_, wf.apart⟩, by simp [addI]⟩
  · unfold addI at e
    by_cases q : b = s.heap.objs.size
    · subst q; exact .inr hn
    · rw [if_neg q] at e; exact .inl e
  · obtain ⟨o', q⟩ := Option.isSome_iff_exists.mp e
    rw [get_push q]; rfl
  · unfold addI at e
    by_cases q : b = s.heap.objs.size
    · subst q; rw [if_pos rfl] at e; cases e; exact Heap.get?_push_size _ hf
    · rw [if_neg q] at e; exact get_push (wf.has _ _ e)
  · obtain ⟨a, f, h1, h2⟩ := wf.rel k ov e
    exact ⟨a, f, h1, h2.mono le (fun _ _ e => e) fun b _ o' q => get_push q⟩
  · obtain ⟨h1, h2⟩ := wf.off k f e b hb
    obtain ⟨o', q⟩ := Option.isSome_iff_exists.mp h2
    refine ⟨?_, by rw [get_push q]; rfl⟩
    unfold addI
    rw [if_neg (fun e' => by rw [e', hn] at q; cases q)]
    exact h1

theorem push_own {I O s} {o : Obj} {k : Nat} {ov : OV} (wf : WF C I O H s) (hf : o.isFreed = false) (hk : (H.lookup k).isSome = false)
    (hr : ∀ h', h'.get? s.heap.objs.size = some o → ORel C I (addO O k [s.heap.objs.size]) h' s.heap.objs.size [] ov) :
    Step [] I O s I (addO O k [s.heap.objs.size]) { s with heap := s.heap.push o } ∧ WF C I (addO O k [s.heap.objs.size]) ((k, ov) :: H) { s with heap := s.heap.push o } ∧ addO O k [s.heap.objs.size] k = some [s.heap.objs.size] := by
  have hn := get_size_none s.heap
  have hO : O k = none := by have := wf.dom k; rw [hk] at this; simpa using this
  have ext : OLe O (addO O k [s.heap.objs.size]) := fun j f e => by
    unfold addO
    by_cases q : j = k
    · subst q; rw [hO] at e; cases e
    · rw [if_neg q]; exact e
  have nsz : ∀ j f, O j = some f → s.heap.objs.size ∉ f := fun j f e hb => by have := (wf.off j f e _ hb).2; rw [hn] at this; cases this
  refine ⟨⟨fun _ _ e => e, fun _ _ e => .inl e, ext, fun j f e => ?_, fun b o' e _ _ => get_push e, fun b e => ?_, rfl, rfl, rfl⟩, ⟨wf.base, fun b o' e => get_push (wf.has _ _ e), fun j => ?_, fun j ov' e => ?_, fun j f e b hb => ?_, fun j j' f f' e e' hne b hb hb' => ?_⟩, by simp [addO]⟩
  · unfold addO at e
    by_cases q : j = k
    · rw [if_pos q] at e; cases e; exact .inr (mem1 (hn))
    · rw [if_neg q] at e; exact .inl e
  · obtain ⟨o', q⟩ := Option.isSome_iff_exists.mp e
    rw [get_push q]; rfl
  · unfold addO
    rw [List.lookup_cons]
    by_cases q : j = k
    · subst q; simp
    · rw [if_neg q, wf.dom j, show (j == k) = false from by simpa using q]
  · rw [List.lookup_cons] at e
    by_cases q : j = k
    · subst q
      simp only [beq_self_eq_true, Option.some.injEq] at e
      subst e
      exact ⟨_, [], by simp [addO], hr _ (Heap.get?_push_size _ hf)⟩
    · rw [show (j == k) = false from by simpa using q] at e
      obtain ⟨a, f, h1, h2⟩ := wf.rel j ov' e
      exact ⟨a, f, ext _ _ h1, h2.mono (fun _ _ e => e) ext fun b _ o' q => get_push q⟩
  · unfold addO at e
    by_cases q : j = k
    · rw [if_pos q] at e; cases e; cases List.mem_singleton.mp hb
      refine ⟨?_, by rw [Heap.get?_push_size _ hf]; rfl⟩
      cases q' : I s.heap.objs.size with
      | none => rfl
      | some o' => have := wf.has _ _ q'; rw [hn] at this; cases this
    · rw [if_neg q] at e
      obtain ⟨h1, h2⟩ := wf.off j f e b hb
      obtain ⟨o', q⟩ := Option.isSome_iff_exists.mp h2
      exact ⟨h1, by rw [get_push q]; rfl⟩
  · unfold addO at e e'
    by_cases q : j = k
    · rw [if_pos q] at e; cases e; cases List.mem_singleton.mp hb
      by_cases q' : j' = k
      · exact hne (q.trans q'.symm)
      · rw [if_neg q'] at e'; exact nsz _ _ e' hb'
    · rw [if_neg q] at e
      by_cases q' : j' = k
      · rw [if_pos q'] at e'; cases e'; cases List.mem_singleton.mp hb'; exact nsz _ _ e hb
      · rw [if_neg q'] at e'; exact wf.apart j j' f f' e e' hne b hb hb'

/-- displays -/
theorem post_push {I O s Q} {o : Obj} {v : V} (wf : WF C I O H s) (hf : o.isFreed = false) (hv : ∀ I', I' s.heap.objs.size = some o → Le I I' → VRel I' O v (.ref s.heap.objs.size)) (q : Q v H) :
    Post C I O s Q (.ref s.heap.objs.size) { s with heap := s.heap.push o } := by
  obtain ⟨a, b, c⟩ := push_imm (o := o) wf hf
  exact ⟨_, O, H, v, a, b, hv _ c a.sub, q⟩
theorem ev_list {es pos Q} (h : Es C d sc ρ es H fun vs H₁ => vs.length ≤ 100000 ∧ Q (.list vs) H₁) : Ev C d sc ρ (.List es pos) H Q := fun A E s env fa I O hA hE wf => by
  refine wpAny_List (wpAny_mono (h A E s env fa I O pos hA hE wf) (fun cvs s₁ ⟨I₁, O₁, H₁, vs, st₁, wf₁, rv, qq⟩ => ?_) fun _ _ e => e)
  obtain ⟨hl, q⟩ := qq
  refine ⟨by rw [← rv.length]; rw [sizeLine_eq]; omega, ?_⟩
  exact (post_push wf₁ rfl (fun I' e le => .list (n := 0) e (rv.mono le fun _ _ e => e)) q).from st₁
theorem ev_tuple {es k pos Q} (h : Es C d sc ρ es H fun vs H₁ => vs.length ≤ 100000 ∧ Q (.tup vs) H₁) : Ev C d sc ρ (.Tuple es k pos) H Q := fun A E s env fa I O hA hE wf => by
  refine wpAny_Tuple (wpAny_mono (h A E s env fa I O pos hA hE wf) (fun cvs s₁ ⟨I₁, O₁, H₁, vs, st₁, wf₁, rv, qq⟩ => ?_) fun _ _ e => e)
  obtain ⟨hl, q⟩ := qq
  refine ⟨by rw [← rv.length]; rw [sizeLine_eq]; omega, ?_⟩
  exact (post_push wf₁ rfl (fun I' e le => .tup (n := 0) e (rv.mono le fun _ _ e => e)) q).from st₁
/-- a display whose list is to be changed: key k -/
theorem ev_listO {es pos Q} (k : Nat) (h : Es C d sc ρ es H fun vs H₁ => vs.length ≤ 100000 ∧ (H₁.lookup k).isSome = false ∧ Q (.own k) ((k, .list vs) :: H₁)) : Ev C d sc ρ (.List es pos) H Q :=
  fun A E s env fa I O hA hE wf => by
  refine wpAny_List (wpAny_mono (h A E s env fa I O pos hA hE wf) (fun cvs s₁ ⟨I₁, O₁, H₁, vs, st₁, wf₁, rv, qq⟩ => ?_) fun _ _ e => e)
  obtain ⟨hl, hk, q⟩ := qq
  refine ⟨by rw [← rv.length]; rw [sizeLine_eq]; omega, ?_⟩
  obtain ⟨a, b, c⟩ := push_own (o := lobj cvs 0) (ov := .list vs) wf₁ rfl hk fun h' e => ⟨rfl, cvs, 0, e, rv.mono (fun _ _ e => e) fun j f e => by
    unfold addO
    by_cases q : j = k
    · subst q; have := wf₁.dom j; rw [e, hk] at this; cases this
    · rw [if_neg q]; exact e⟩
  exact ⟨_, _, _, .own k, st₁.trans a, b, .own c, q⟩

/-- operators on ints -/
theorem VRel.int_inv {I O i cv} (h : VRel I O (.int i) cv) : ∃ t, cv = .int i t := by cases h; exact ⟨_, rfl⟩
theorem VRel.str_inv {I O x cv} (h : VRel I O (.str x) cv) : ∃ t, cv = .str x t := by cases h; exact ⟨_, rfl⟩
theorem VRel.bool_inv {I O x cv} (h : VRel I O (.bool x) cv) : cv = .bool x := by cases h; rfl
theorem VRel.none_inv {I O cv} (h : VRel I O .none cv) : cv = .none := by cases h; rfl
theorem VRel.list_inv {I O xs cv} (h : VRel I O (.list xs) cv) : ∃ a vs n, cv = .ref a ∧ I a = some (lobj vs n) ∧ VRels I O xs vs := by cases h; exact ⟨_, _, _, rfl, by assumption, by assumption⟩
theorem VRel.tup_inv {I O xs cv} (h : VRel I O (.tup xs) cv) : ∃ a vs n, cv = .ref a ∧ I a = some (tobj vs n) ∧ VRels I O xs vs := by cases h; exact ⟨_, _, _, rfl, by assumption, by assumption⟩
theorem VRel.own_inv {I O k cv} (h : VRel I O (.own k) cv) : ∃ a f, cv = .ref a ∧ O k = some (a :: f) := by cases h; exact ⟨_, _, rfl, by assumption⟩

theorem bin_add {a b : Int} {Q} (q : Q (.int (a + b)) H) : Bin C d .Add (.int a) (.int b) H Q := fun A E s I O ca cb hA wf ra rb => by
  obtain ⟨t, rfl⟩ := ra.int_inv; obtain ⟨u, rfl⟩ := rb.int_inv
  exact PyProof.Rows.add_int (post_val wf (.int _ _) q)
theorem bin_sub {a b : Int} {Q} (q : Q (.int (a - b)) H) : Bin C d .Sub (.int a) (.int b) H Q := fun A E s I O ca cb hA wf ra rb => by
  obtain ⟨t, rfl⟩ := ra.int_inv; obtain ⟨u, rfl⟩ := rb.int_inv
  exact PyProof.Rows.sub_int (post_val wf (.int _ _) q)
theorem bin_mul {a b : Int} {Q} (hm : IntMulOk a b) (q : Q (.int (a * b)) H) : Bin C d .Mult (.int a) (.int b) H Q := fun A E s I O ca cb hA wf ra rb => by
  obtain ⟨t, rfl⟩ := ra.int_inv; obtain ⟨u, rfl⟩ := rb.int_inv
  exact PyProof.Rows.mul_int (post_val wf (.int _ _) q) hm
theorem bin_mod {a b : Int} {Q} (hb : b ≠ 0) (q : Q (.int (a.fmod b)) H) : Bin C d .Mod (.int a) (.int b) H Q := fun A E s I O ca cb hA wf ra rb => by
  obtain ⟨t, rfl⟩ := ra.int_inv; obtain ⟨u, rfl⟩ := rb.int_inv
  exact PyProof.Rows.mod_int' hb (post_val wf (.int _ _) q)
theorem bin_div {a b : Int} {Q} (hb : b ≠ 0) (hs : b.natAbs < 1073741824) (q : Q (.int (a.fdiv b)) H) : Bin C d .FloorDiv (.int a) (.int b) H Q := fun A E s I O ca cb hA wf ra rb => by
  obtain ⟨t, rfl⟩ := ra.int_inv; obtain ⟨u, rfl⟩ := rb.int_inv
  exact PyProof.Rows.floordiv_int hb (post_val wf (.int _ _) q) (.inl (PyProof.noPylong_small hs))
theorem bin_pow {a b : Int} {Q} (hb : 0 ≤ b) (hs : (Builtin.Int.intBits a : Int) * b ≤ 2 ^ 27) (q : Q (.int (a ^ b.toNat)) H) : Bin C d .Pow (.int a) (.int b) H Q := fun A E s I O ca cb hA wf ra rb => by
  obtain ⟨t, rfl⟩ := ra.int_inv; obtain ⟨u, rfl⟩ := rb.int_inv
  exact PyProof.Rows.pow_int hb hs (post_val wf (.int _ _) q)
theorem bin_and {a b : Int} {Q} (q : Q (.int (Builtin.bitAnd a b)) H) : Bin C d .BitAnd (.int a) (.int b) H Q := fun A E s I O ca cb hA wf ra rb => by
  obtain ⟨t, rfl⟩ := ra.int_inv; obtain ⟨u, rfl⟩ := rb.int_inv
  exact PyProof.Rows.and_int (post_val wf (.int _ _) q)
theorem bin_or {a b : Int} {Q} (q : Q (.int (Builtin.bitOr a b)) H) : Bin C d .BitOr (.int a) (.int b) H Q := fun A E s I O ca cb hA wf ra rb => by
  obtain ⟨t, rfl⟩ := ra.int_inv; obtain ⟨u, rfl⟩ := rb.int_inv
  exact PyProof.Rows.or_int (post_val wf (.int _ _) q)
theorem ibin_or {a b : Int} {Q} (q : Q (.int (Builtin.bitOr a b)) H) : IBin C d .BitOr (.int a) (.int b) H Q := fun A E s I O ca cb hA wf ra rb => by
  obtain ⟨t, rfl⟩ := ra.int_inv; obtain ⟨u, rfl⟩ := rb.int_inv
  exact PyProof.Rows.ior_int (post_val wf (.int _ _) q)
theorem ev_neg {e pos Q} (h : Ev C d sc ρ e H fun v H₁ => ∃ i, v = .int i ∧ Q (.int (-i)) H₁) : Ev C d sc ρ (.UnaryOp .USub e pos) H Q := fun A E s env fa I O hA hE wf => by
  refine wpAny_UnaryOp (wpAny_mono (h A E s env fa I O hA hE wf) (fun cv s₁ ⟨I₁, O₁, H₁, v, st₁, wf₁, rv, qq⟩ => ?_) fun _ _ e => e)
  obtain ⟨i, e, q⟩ := qq
  rw [e] at rv
  obtain ⟨t, rfl⟩ := rv.int_inv
  exact PyProof.Rows.neg_int ((post_val wf₁ (.int _ _) q).from st₁)

/-- on strs -/
theorem bin_cat {x y : Str} {Q} (hl : x.length + y.length ≤ 100000) (q : Q (.str (x ++ y)) H) : Bin C d .Add (.str x) (.str y) H Q := fun A E s I O ca cb hA wf ra rb => by
  obtain ⟨t, rfl⟩ := ra.str_inv; obtain ⟨u, rfl⟩ := rb.str_inv
  exact SB.add (fun t' k => post_val wf (.str _ _) q) (by rw [sizeLine_eq]; omega)
theorem ibin_cat {x y : Str} {Q} (hl : x.length + y.length ≤ 100000) (q : Q (.str (x ++ y)) H) : IBin C d .Add (.str x) (.str y) H Q := fun A E s I O ca cb hA wf ra rb => by
  obtain ⟨t, rfl⟩ := ra.str_inv; obtain ⟨u, rfl⟩ := rb.str_inv
  exact SB.iadd (fun t' k => post_val wf (.str _ _) q) (by rw [sizeLine_eq]; omega)
theorem bin_rep {x : Str} {n : Int} {Q} (hok : MulOk x n) (q : Q (.str (Txt.mul x n)) H) : Bin C d .Mult (.str x) (.int n) H Q := fun A E s I O ca cb hA wf ra rb => by
  obtain ⟨t, rfl⟩ := ra.str_inv; obtain ⟨u, rfl⟩ := rb.int_inv
  exact SB.mul hok fun t' k => post_val wf (.str _ _) q

/-- comparisons -/
theorem cmp_lt {a b : Int} {Q} (q : Q (decide (a < b)) H) : Cmp C d .Lt (.int a) (.int b) H Q := fun A E s I O ca cb hA wf ra rb => by
  obtain ⟨t, rfl⟩ := ra.int_inv; obtain ⟨u, rfl⟩ := rb.int_inv
  exact PyProof.Rows.lt_int ⟨_, rfl, post_b0 wf q⟩
theorem cmp_gt {a b : Int} {Q} (q : Q (decide (b < a)) H) : Cmp C d .Gt (.int a) (.int b) H Q := fun A E s I O ca cb hA wf ra rb => by
  obtain ⟨t, rfl⟩ := ra.int_inv; obtain ⟨u, rfl⟩ := rb.int_inv
  exact PyProof.Rows.gt_int ⟨_, rfl, post_b0 wf q⟩
theorem cmp_ge {a b : Int} {Q} (q : Q (decide (b ≤ a)) H) : Cmp C d .GtE (.int a) (.int b) H Q := fun A E s I O ca cb hA wf ra rb => by
  obtain ⟨t, rfl⟩ := ra.int_inv; obtain ⟨u, rfl⟩ := rb.int_inv
  exact PyProof.Rows.ge_int ⟨_, rfl, post_b0 wf q⟩
theorem cmp_eq {a b : Int} {Q} (q : Q (a == b) H) : Cmp C d .Eq (.int a) (.int b) H Q := fun A E s I O ca cb hA wf ra rb => by
  obtain ⟨t, rfl⟩ := ra.int_inv; obtain ⟨u, rfl⟩ := rb.int_inv
  exact PyProof.Rows.eq_int ⟨_, rfl, post_b0 wf q⟩
theorem cmp_ne {a b : Int} {Q} (q : Q (a != b) H) : Cmp C d .NotEq (.int a) (.int b) H Q := fun A E s I O ca cb hA wf ra rb => by
  obtain ⟨t, rfl⟩ := ra.int_inv; obtain ⟨u, rfl⟩ := rb.int_inv
  exact PyProof.Rows.ne_int ⟨_, rfl, post_b0 wf q⟩
theorem cmp_eqs {a b : Str} {Q} (q : Q (a == b) H) : Cmp C d .Eq (.str a) (.str b) H Q := fun A E s I O ca cb hA wf ra rb => by
  obtain ⟨t, rfl⟩ := ra.str_inv; obtain ⟨u, rfl⟩ := rb.str_inv
  exact PyProof.Rows.eq_str ⟨_, rfl, post_b0 wf q⟩
theorem cmp_nes {a b : Str} {Q} (q : Q (a != b) H) : Cmp C d .NotEq (.str a) (.str b) H Q := fun A E s I O ca cb hA wf ra rb => by
  obtain ⟨t, rfl⟩ := ra.str_inv; obtain ⟨u, rfl⟩ := rb.str_inv
  exact PyProof.Rows.ne_str ⟨_, rfl, post_b0 wf q⟩
theorem cmp_ins {a b : Str} {Q} (q : Q (Txt.contains b a) H) : Cmp C d .In (.str a) (.str b) H Q := fun A E s I O ca cb hA wf ra rb => by
  obtain ⟨t, rfl⟩ := ra.str_inv; obtain ⟨u, rfl⟩ := rb.str_inv
  exact SB.contains ⟨_, rfl, post_b0 wf q⟩
theorem cmp_is {a b : Bool} {Q} (q : Q (a == b) H) : Cmp C d .Is (.bool a) (.bool b) H Q := fun A E s I O ca cb hA wf ra rb => by
  cases ra.bool_inv; cases rb.bool_inv
  exact PyProof.Rows.is_bool ⟨_, rfl, post_b0 wf q⟩
theorem cmp_isnot {a b : Bool} {Q} (q : Q (a != b) H) : Cmp C d .IsNot (.bool a) (.bool b) H Q := fun A E s I O ca cb hA wf ra rb => by
  cases ra.bool_inv; cases rb.bool_inv
  exact PyProof.Rows.isnot_bool ⟨_, rfl, post_b0 wf q⟩

theorem VRels.ints {I O} : ∀ {ns : List Int} {vs}, VRels I O (ns.map V.int) vs → IntsAre vs ns
  | [], _, .nil => .nil
  | _ :: _, _, .cons h r => by obtain ⟨t, rfl⟩ := h.int_inv; exact .cons _ _ r.ints
theorem VRels.strs {I O} : ∀ {ns : List Str} {vs}, VRels I O (ns.map V.str) vs → StrsAre vs ns
  | [], _, .nil => .nil
  | _ :: _, _, .cons h r => by obtain ⟨t, rfl⟩ := h.str_inv; exact .cons _ _ r.strs
theorem WF.list {I O s a vs n} (wf : WF C I O H s) (h : I a = some (lobj vs n)) : s.heap.IsList a vs.toArray := ⟨_, wf.has _ _ h, rfl, n, rfl⟩
theorem cmp_inL {k : Int} {ns : List Int} {Q} (q : Q (ns.any (· == k)) H) : Cmp C d .In (.int k) (.list (ns.map V.int)) H Q := fun A E s I O ca cb hA wf ra rb => by
  obtain ⟨t, rfl⟩ := ra.int_inv; obtain ⟨a, vs, n, rfl, hI, rs⟩ := rb.list_inv
  exact PyProof.Rows.in_list_ints (wf.list hI) rs.ints ⟨_, rfl, post_b0 wf q⟩
theorem cmp_notinL {k : Int} {ns : List Int} {Q} (q : Q (!(ns.any (· == k))) H) : Cmp C d .NotIn (.int k) (.list (ns.map V.int)) H Q := fun A E s I O ca cb hA wf ra rb => by
  obtain ⟨t, rfl⟩ := ra.int_inv; obtain ⟨a, vs, n, rfl, hI, rs⟩ := rb.list_inv
  exact PyProof.Rows.notin_list_ints (wf.list hI) rs.ints ⟨_, rfl, post_b0 wf q⟩
theorem cmp_inLs {k : Str} {ns : List Str} {Q} (q : Q (ns.any (· == k)) H) : Cmp C d .In (.str k) (.list (ns.map V.str)) H Q := fun A E s I O ca cb hA wf ra rb => by
  obtain ⟨t, rfl⟩ := ra.str_inv; obtain ⟨a, vs, n, rfl, hI, rs⟩ := rb.list_inv
  exact PyProof.Rows.in_list_strs (wf.list hI) rs.strs ⟨_, rfl, post_b0 wf q⟩
end Mine
end PartJ2

section PartJ3
open PySem PySem.W PySem.Calls PyProof.Rows
set_option maxRecDepth 100000
set_option linter.unusedVariables false
namespace Mine
variable {C : Cx} {d : Nat} {sc : Sc} {ρ : Vars} {H : Store}

/-- items -/
noncomputable def Itm (C : Cx) (d : Nat) (a i : V) (H : Store) (Q : V → Store → Prop) : Prop :=
  ∀ A E s I O ca ci (value slice : Expr), AOk d A → WF C I O H s → VRel I O a ca → VRel I O i ci → (∃ ops, subscripted slice false ca ci = operate ops (getItem ca ci)) →
    wpAny C.M A (subscriptTail value slice ca ci) (Post C I O s Q) E s
theorem ev_sub {v i pos Q} (h : Ev C d sc ρ v H fun a H₁ => Ev C d sc ρ i H₁ fun b H₂ => Itm C d a b H₂ Q)
    (hs : ∀ o k, subscripted i false o k = operate [o, k] (getItem o k) := by intro _ _; rfl) : Ev C d sc ρ (.Subscript v i pos) H Q := fun A E s env fa I O hA hE wf => by
  refine Subscript_ (wpAny_mono (h A E s env fa I O hA hE wf) (fun ca s₁ ⟨I₁, O₁, H₁, a, st₁, wf₁, ra, q₁⟩ => ?_) fun _ _ e => e)
  refine wpAny_mono (q₁ A E s₁ env fa I₁ O₁ hA (hE.step st₁) wf₁) (fun cb s₂ ⟨I₂, O₂, H₂, b, st₂, wf₂, rb, q₂⟩ => ?_) fun _ _ e => e
  exact wpAny_mono (q₂ A E s₂ I₂ O₂ ca cb v i hA wf₂ (ra.mono st₂.sub st₂.oext) rb ⟨_, hs _ _⟩) (fun _ _ x => x.from (st₁.trans st₂)) fun _ _ e => e
theorem itm_list {xs : List V} {k : Int} {x : V} {Q} (h0 : 0 ≤ k) (hx : xs[k.toNat]? = some x) (hf : k < 2 ^ 63) (q : Q x H) : Itm C d (.list xs) (.int k) H Q := fun A E s I O ca ci value slice hA wf ra rb ⟨ops, hs⟩ => by
  obtain ⟨a, vs, n, rfl, hI, rs⟩ := ra.list_inv; obtain ⟨t, rfl⟩ := rb.int_inv
  obtain ⟨cv, h1, h2⟩ := rs.get _ _ hx
  exact tail_any (wf.list hI).typeIs slot_list_getitem.lookup (wpAny_getItem_list (wf.list hI) h0 hf (by simpa using h1) (post_val0 wf h2 q)) hs
theorem WF.own {I O s k a f xs} (wf : WF C I O H s) (hk : H.lookup k = some (.list xs)) (ho : O k = some (a :: f)) : ∃ vs n, s.heap.get? a = some (lobj vs n) ∧ VRels I O xs vs ∧ f = [] := by
  obtain ⟨a', f', h1, h2, vs, n, h3, h4⟩ := wf.rel k _ hk
  rw [ho] at h1; cases h1
  exact ⟨vs, n, h3, h4, h2⟩
theorem itm_own {j : Nat} {xs : List V} {k : Int} {x : V} {Q} (hk : H.lookup j = some (.list xs)) (h0 : 0 ≤ k) (hx : xs[k.toNat]? = some x) (hf : k < 2 ^ 63) (q : Q x H) : Itm C d (.own j) (.int k) H Q :=
  fun A E s I O ca ci value slice hA wf ra rb ⟨ops, hs⟩ => by
  obtain ⟨a, f, rfl, ho⟩ := ra.own_inv; obtain ⟨t, rfl⟩ := rb.int_inv
  obtain ⟨vs, n, h1, rs, _⟩ := wf.own hk ho
  have hl : s.heap.IsList a vs.toArray := ⟨_, h1, rfl, n, rfl⟩
  obtain ⟨cv, g1, g2⟩ := rs.get _ _ hx
  exact tail_any hl.typeIs slot_list_getitem.lookup (wpAny_getItem_list hl h0 hf (by simpa using g1) (post_val0 wf g2 q)) hs
theorem itm_ownN {j : Nat} {xs : List V} {k : Int} {x : V} {Q} (hk : H.lookup j = some (.list xs)) (h0 : k < 0) (h1 : -(xs.length : Int) ≤ k) (hx : xs[(k + xs.length).toNat]? = some x) (hf : -(2 ^ 63) ≤ k) (q : Q x H) : Itm C d (.own j) (.int k) H Q :=
  fun A E s I O ca ci value slice hA wf ra rb ⟨ops, hs⟩ => by
  obtain ⟨a, f, rfl, ho⟩ := ra.own_inv; obtain ⟨t, rfl⟩ := rb.int_inv
  obtain ⟨vs, n, g0, rs, _⟩ := wf.own hk ho
  have hl : s.heap.IsList a vs.toArray := ⟨_, g0, rfl, n, rfl⟩
  rw [rs.length] at h1 hx
  obtain ⟨cv, g1, g2⟩ := rs.get _ _ hx
  exact tail_any hl.typeIs slot_list_getitem.lookup (wpAny_getItem_list_neg hl h0 (by simpa using h1) hf (by simpa using g1) (post_val0 wf g2 q)) hs
theorem itm_str {x : Str} {k : Int} {Q} (hr : fitsSsize k = true) (hin : (Txt.charAt x k).isSome = true) (q : Q (.str (Txt.item x k)) H) : Itm C d (.str x) (.int k) H Q := fun A E s I O ca ci value slice hA wf ra rb ⟨ops, hs⟩ => by
  obtain ⟨t, rfl⟩ := ra.str_inv; obtain ⟨u, rfl⟩ := rb.int_inv
  exact tail_any (typeIs_str _ _ _) PySem.F.slot_str_getitem.lookup (SB.getItem hr hin (post_val wf (.str _ _) q)) hs

/-- slices -/
noncomputable def EvO (C : Cx) (d : Nat) (sc : Sc) (ρ : Vars) (e : Option Expr) (H : Store) (Q : Option Int → Store → Prop) : Prop := match e with
  | none => Q none H
  | some e => Ev C d sc ρ e H fun v H' => ∃ i, v = .int i ∧ Q (some i) H'
noncomputable def ORelI : Option Int → Value → Prop
  | none, v => v = .none
  | some i, v => ∃ t, v = .int i t
theorem ORelI.part {i v} (h : ORelI i v) : IsPart v i := by
  cases i with
  | none => cases h; exact .none
  | some i => obtain ⟨t, rfl⟩ := h; exact .int _ _
theorem evo {e Q} (h : EvO C d sc ρ e H Q) : ∀ A E s env fa I O, AOk d A → EnvR C I O env sc fa ρ s.heap → WF C I O H s →
    wpAny C.M A (evalPart e env) (fun cv s' => ∃ I' O' H' v, Step [] I O s I' O' s' ∧ WF C I' O' H' s' ∧ ORelI v cv ∧ Q v H') E s := fun A E s env fa I O hA hE wf => by
  cases e with
  | none => exact wpAny_pure ⟨I, O, H, none, .refl, wf, rfl, h⟩
  | some e => exact wpAny_mono (h A E s env fa I O hA hE wf) (fun cv s' ⟨I', O', H', v, a, b, c, i, e, q⟩ => ⟨I', O', H', some i, a, b, by subst e; exact c.int_inv, q⟩) fun _ _ e => e
theorem push_junk {I O s} {o : Obj} (wf : WF C I O H s) : Step [] I O s I O { s with heap := s.heap.push o } ∧ WF C I O H { s with heap := s.heap.push o } :=
  ⟨⟨fun _ _ e => e, fun _ _ e => .inl e, fun _ _ e => e, fun _ _ e => .inl e, fun b o' e _ _ => get_push e, fun b e => by obtain ⟨o', q⟩ := Option.isSome_iff_exists.mp e; rw [get_push q]; rfl, rfl, rfl, rfl⟩,
   wf.base, fun b o' e => get_push (wf.has _ _ e), wf.dom, fun k ov e => let ⟨a, f, h1, h2⟩ := wf.rel k ov e; ⟨a, f, h1, h2.mono (fun _ _ e => e) (fun _ _ e => e) fun b _ o' q => get_push q⟩,
   fun k f e b hb => by
    obtain ⟨h1, h2⟩ := wf.off k f e b hb
    obtain ⟨o', q⟩ := Option.isSome_iff_exists.mp h2
    exact ⟨h1, by rw [get_push q]; rfl⟩, wf.apart⟩
noncomputable def sliceV (xs : List V) (lo hi : Option Int) : List V := (xs.drop (kms_lo lo xs.length)).take (kms_hi hi xs.length - kms_lo lo xs.length)
theorem ev_sliceL {v lo hi p pos Q} (h : Ev C d sc ρ v H fun a H₁ => EvO C d sc ρ lo H₁ fun l H₂ => EvO C d sc ρ hi H₂ fun u H₃ => ∃ xs, a = .list xs ∧ xs.length ≤ 100000 ∧ Q (.list (sliceV xs l u)) H₃)
    (ht : ∀ o r, letTemporaryGo v o r = pure () := by intro _ _; rfl) : Ev C d sc ρ (.Subscript v (.Slice lo hi none p) pos) H Q := fun A E s env fa I O hA hE wf => by
  refine wpAny_Subscript_list_slice (wpAny_mono (h A E s env fa I O hA hE wf) (fun ca s₁ ⟨I₁, O₁, H₁, a, st₁, wf₁, ra, q₁⟩ => ?_) fun _ _ e => e) ht
  refine wpAny_mono (evo q₁ A E s₁ env fa I₁ O₁ hA (hE.step st₁) wf₁) (fun cl s₂ ⟨I₂, O₂, H₂, l, st₂, wf₂, rl, q₂⟩ => ?_) fun _ _ e => e
  refine wpAny_mono (evo q₂ A E s₂ env fa I₂ O₂ hA ((hE.step st₁).step st₂) wf₂) (fun cu s₃ ⟨I₃, O₃, H₃, u, st₃, wf₃, ru, qq⟩ => ?_) fun _ _ e => e
  obtain ⟨xs, e, hl, q₃⟩ := qq
  rw [e] at ra
  obtain ⟨b, vs, n, rfl, hI, rs⟩ := ra.list_inv
  have rs' := rs.mono (st₂.trans st₃).sub (st₂.trans st₃).oext
  have hI' := (st₂.trans st₃).sub _ _ hI
  refine ⟨b, vs.toArray, l, u, rfl, wf₃.list hI', by rw [List.size_toArray, ← rs.length, sizeLine_eq]; omega, rl.part, ru.part, ?_⟩
  obtain ⟨st₄, wf₄⟩ := push_junk (o := { cls := .type "slice", data := .fields #[cl, cu, .none] }) wf₃
  have e1 : (slicePick vs.toArray l u none) = ((vs.drop (kms_lo l vs.length)).take (kms_hi u vs.length - kms_lo l vs.length)).toArray := kms_pick_eq _ _ _
  have hz : s₃.heap.objs.size + 1 = (s₃.heap.push { cls := .type "slice", data := .fields #[cl, cu, .none] }).objs.size := (Heap.size_push _ _).symm
  rw [e1, hz]
  refine (post_push (o := lobj _ 0) wf₄ rfl (fun I' e le => .list (n := 0) e ?_) q₃).from (((st₁.trans st₂).trans st₃).trans st₄)
  unfold sliceV
  rw [rs.length]
  exact ((rs'.drop _).take _).mono le fun _ _ e => e
theorem ev_sliceS {v lo hi p pos Q} (h : Ev C d sc ρ v H fun a H₁ => EvO C d sc ρ lo H₁ fun l H₂ => EvO C d sc ρ hi H₂ fun u H₃ => ∃ x, a = .str x ∧ x.length ≤ 100000 ∧ Q (.str (Txt.slice x l u)) H₃)
    (ht : ∀ o r, letTemporaryGo v o r = pure () := by intro _ _; rfl) : Ev C d sc ρ (.Subscript v (.Slice lo hi none p) pos) H Q := fun A E s env fa I O hA hE wf => by
  refine wpAny_Subscript_str_slice (wpAny_mono (h A E s env fa I O hA hE wf) (fun ca s₁ ⟨I₁, O₁, H₁, a, st₁, wf₁, ra, q₁⟩ => ?_) fun _ _ e => e) ht
  refine wpAny_mono (evo q₁ A E s₁ env fa I₁ O₁ hA (hE.step st₁) wf₁) (fun cl s₂ ⟨I₂, O₂, H₂, l, st₂, wf₂, rl, q₂⟩ => ?_) fun _ _ e => e
  refine wpAny_mono (evo q₂ A E s₂ env fa I₂ O₂ hA ((hE.step st₁).step st₂) wf₂) (fun cu s₃ ⟨I₃, O₃, H₃, u, st₃, wf₃, ru, qq⟩ => ?_) fun _ _ e => e
  obtain ⟨x, e, hl, q₃⟩ := qq
  rw [e] at ra
  obtain ⟨t, rfl⟩ := ra.str_inv
  have key : ∀ (l : Option Int) cl, ORelI l cl → ∃ l', cl = partValue l' ∧ l'.map (·.1) = l := fun l cl r => by
    cases l with
    | none => exact ⟨none, r, rfl⟩
    | some i => obtain ⟨t, rfl⟩ := r; exact ⟨some (i, t), rfl, rfl⟩
  obtain ⟨l', e1, e2⟩ := key l cl rl
  obtain ⟨u', e3, e4⟩ := key u cu ru
  refine ⟨x, t, l', u', rfl, e1, e3, ?_⟩
  obtain ⟨st₄, wf₄⟩ := push_junk (o := { cls := .type "slice", data := .fields #[cl, cu, .none] }) wf₃
  have hst := ((st₁.trans st₂).trans st₃).trans st₄
  have hsz : x.length ≤ sizeLine := by rw [sizeLine_eq]; omega
  subst e2 e4
  unfold sliceMade
  have : slicePicked x l' u' none = Builtin.Str.strSliceIndices (l'.map (·.1)) (u'.map (·.1)) 1 x.length := rfl
  rw [this]
  exact post_val_or_str (z := ⟨((Builtin.Str.strSliceIndices (l'.map (·.1)) (u'.map (·.1)) 1 x.length).filterMap (x.cps[·]?)).toArray⟩) ⟨Nat.le_trans (Txt.slice_le x _ _) hsz, fun t' k => (post_val (t := k) wf₄ (.str _ t') q₃).from hst⟩

/-- truth -/
theorem tru_bool {b Q} (q : Q b H) : Tru C d (.bool b) H Q := fun A E s I O ca hA wf ra => by cases ra.bool_inv; exact wpAny_truthy_bool (post_b0 wf q)
theorem tru_int {i : Int} {Q} (q : Q (i != 0) H) : Tru C d (.int i) H Q := fun A E s I O ca hA wf ra => by obtain ⟨t, rfl⟩ := ra.int_inv; exact PyProof.Rows.truthy_int (post_b0 wf q)
theorem tru_str {x : Str} {Q} (hl : x.length ≤ 100000) (q : Q ((x.length : Int) != 0) H) : Tru C d (.str x) H Q := fun A E s I O ca hA wf ra => by
  obtain ⟨t, rfl⟩ := ra.str_inv; exact PySem.P.truthy_str (by omega) (post_b wf q)

mutual
noncomputable def V.data : V → PyData
  | .none => .none
  | .bool b => .bool b
  | .int i => .int i
  | .str s => .str s
  | .list xs => .list (V.datas xs)
  | .tup xs => .tuple (V.datas xs)
  | .own _ => .none
noncomputable def V.datas : List V → List PyData
  | [] => []
  | x :: xs => x.data :: V.datas xs
end
mutual
noncomputable def V.plain : V → Bool
  | .own _ => false
  | .list xs => V.plains xs
  | .tup xs => V.plains xs
  | _ => true
noncomputable def V.plains : List V → Bool
  | [] => true
  | x :: xs => x.plain && V.plains xs
end
theorem reads_both {I : Part} {O : Own} {h : Heap} (hI : In I h) :
    (∀ {x v}, VRel I O x v → x.plain = true → ∃ as, Reads h v x.data as) ∧ (∀ {xs vs}, VRels I O xs vs → V.plains xs = true → ∃ as, ReadsAll h vs (V.datas xs) as) := by
  have nl : V.plains [] = true → ∃ as, ReadsAll h [] (V.datas []) as := fun _ => ⟨_, .nil⟩
  have cs : ∀ {x v xs vs}, (x.plain = true → ∃ as, Reads h v x.data as) → (V.plains xs = true → ∃ as, ReadsAll h vs (V.datas xs) as) → V.plains (x :: xs) = true → ∃ as, ReadsAll h (v :: vs) (V.datas (x :: xs)) as := fun {x v xs vs} a b p => by
    have p' : x.plain = true ∧ V.plains xs = true := Bool.and_eq_true_iff.mp p
    obtain ⟨as, q⟩ := a p'.1
    obtain ⟨bs, q'⟩ := b p'.2
    exact ⟨_, .cons q q'⟩
  have ls : ∀ {xs vs a n}, I a = some (lobj vs n) → (V.plains xs = true → ∃ as, ReadsAll h vs (V.datas xs) as) → (V.list xs).plain = true → ∃ as, Reads h (.ref a) (V.list xs).data as := fun e b p => let ⟨as, q⟩ := b p; ⟨_, .list (hI _ _ e) rfl rfl q⟩
  have ts : ∀ {xs vs a n}, I a = some (tobj vs n) → (V.plains xs = true → ∃ as, ReadsAll h vs (V.datas xs) as) → (V.tup xs).plain = true → ∃ as, Reads h (.ref a) (V.tup xs).data as := fun e b p => let ⟨as, q⟩ := b p; ⟨_, .tuple (hI _ _ e) rfl rfl q⟩
  have ow : ∀ {k : Nat} {a : Addr}, (V.own k).plain = true → ∃ as, Reads h (.ref a) (V.own k).data as := fun p => by cases p
  exact ⟨fun r => VRel.rec (motive_1 := fun x v _ => x.plain = true → ∃ as, Reads h v x.data as) (motive_2 := fun xs vs _ => V.plains xs = true → ∃ as, ReadsAll h vs (V.datas xs) as)
      (fun _ => ⟨_, .none⟩) (fun b _ => ⟨_, .bool b⟩) (fun i t _ => ⟨_, .int i t⟩) (fun s t _ => ⟨_, .str s t⟩) (fun e _ b => ls e b) (fun e _ b => ts e b) (fun _ => ow) nl (fun _ _ a b => cs a b) r,
    fun r => VRels.rec (motive_1 := fun x v _ => x.plain = true → ∃ as, Reads h v x.data as) (motive_2 := fun xs vs _ => V.plains xs = true → ∃ as, ReadsAll h vs (V.datas xs) as)
      (fun _ => ⟨_, .none⟩) (fun b _ => ⟨_, .bool b⟩) (fun i t _ => ⟨_, .int i t⟩) (fun s t _ => ⟨_, .str s t⟩) (fun e _ b => ls e b) (fun e _ b => ts e b) (fun _ => ow) nl (fun _ _ a b => cs a b) r⟩
theorem VRel.reads {I : Part} {O : Own} {h : Heap} (hI : In I h) {x v} (r : VRel I O x v) (p : x.plain = true) : ∃ as, Reads h v x.data as := (reads_both hI).1 r p
theorem VRels.reads {I : Part} {O : Own} {h : Heap} (hI : In I h) {xs vs} (r : VRels I O xs vs) (p : V.plains xs = true) : ∃ as, ReadsAll h vs (V.datas xs) as := (reads_both hI).2 r p
/-- what an object reads as: a value, or a list of one's own -/
noncomputable def Sees (H : Store) (v : V) (D : PyData) : Prop := (v.plain = true ∧ v.data = D) ∨ ∃ k xs, v = .own k ∧ H.lookup k = some (.list xs) ∧ V.plains xs = true ∧ D = .list (V.datas xs)
theorem Sees.reads {I O s v cv D} (x : Sees H v D) (wf : WF C I O H s) (r : VRel I O v cv) : ∃ as, Reads s.heap cv D as := by
  rcases x with ⟨p, rfl⟩ | ⟨k, xs, rfl, hk, p, rfl⟩
  · exact r.reads wf.has p
  · obtain ⟨a, f, rfl, ho⟩ := r.own_inv
    obtain ⟨vs, n, h1, rs, _⟩ := wf.own hk ho
    obtain ⟨as, q⟩ := rs.reads wf.has p
    exact ⟨_, .list h1 rfl rfl (by simpa using q)⟩
theorem cmp_eqD {a b : V} {D D' : PyData} {Q} (ha : Sees H a D) (hb : Sees H b D') (c1 : D.canLay0 = true) (c2 : D'.canLay0 = true) (hd : min D.depth D'.depth ≤ 100) (q : Q (PyData.eqv D D') H) : Cmp C d .Eq a b H Q :=
  fun A E s I O ca cb hA wf ra rb => by
  obtain ⟨as, r1⟩ := ha.reads wf ra
  obtain ⟨bs, r2⟩ := hb.reads wf rb
  exact PySem.SeqAt.compareEq_reads r1 r2 c1 c2 (by have := hA.units; show A.units + _ < 9900; omega) ⟨_, rfl, post_b0 wf q⟩
theorem cmp_neD {a b : V} {D D' : PyData} {Q} (ha : Sees H a D) (hb : Sees H b D') (c1 : D.canLay0 = true) (c2 : D'.canLay0 = true) (hd : min D.depth D'.depth ≤ 100) (q : Q (!PyData.eqv D D') H) : Cmp C d .NotEq a b H Q :=
  fun A E s I O ca cb hA wf ra rb => by
  obtain ⟨as, r1⟩ := ha.reads wf ra
  obtain ⟨bs, r2⟩ := hb.reads wf rb
  exact PySem.SeqAt.compareNe_reads r1 r2 c1 c2 (by have := hA.units; show A.units + _ < 9900; omega) ⟨_, rfl, post_b0 wf q⟩
end Mine
end PartJ3

section PartJ4
open PySem PySem.W PySem.Calls PyProof.Rows
set_option maxRecDepth 100000
set_option linter.unusedVariables false
namespace Mine
variable {C : Cx} {d : Nat} {sc : Sc} {ρ : Vars} {H : Store}

inductive Fl where
  | next | brk | cont
  | ret (v : V)
inductive FRel (I : Part) (O : Own) : Fl → Flow → Prop
  | next : FRel I O .next .next
  | brk : FRel I O .brk .brk
  | cont : FRel I O .cont .cont
  | ret {v cv} : VRel I O v cv → FRel I O (.ret v) (.ret cv)

noncomputable def put (x : Str) (v : V) : Vars → Vars
  | [] => [(x, v)]
  | (y, u) :: r => if y == x then (x, v) :: r else (y, u) :: put x v r
theorem lookup_put (x : Str) (v : V) (y : Str) : ∀ ρ : Vars, (put x v ρ).lookup y = if y = x then some v else ρ.lookup y
  | [] => by
    unfold put
    rw [List.lookup_cons]
    by_cases h : y = x
    · subst h; simp
    · rw [if_neg h, show (y == x) = false from by simpa using h]
  | (z, u) :: r => by
    unfold put
    have ih := lookup_put x v y r
    by_cases hz : z = x
    · subst hz
      simp only [beq_self_eq_true, if_true, List.lookup_cons]
      by_cases h : y = z
      · subst h; simp
      · rw [if_neg h, show (y == z) = false from by simpa using h]
    · rw [show (z == x) = false from by simpa using hz]
      simp only [Bool.false_eq_true, if_false, List.lookup_cons]
      by_cases h : y = z
      · subst h
        simp [hz]
      · rw [show (y == z) = false from by simpa using h]
        exact ih

theorem frame_upd {I O s fa} {a : Addr} {h' : Heap} (wf : WF C I O H s) (hs : Heap.SameBut a s.heap h') (ha : a ∈ fa) (h1 : I a = none) (h2 : ¬ Owns O a) (h3 : (h'.get? a).isSome) (t : Nat) :
    Step fa I O s I O { s with heap := h', toks := t } ∧ WF C I O H { s with heap := h', toks := t } := by
  have al : ∀ b, (s.heap.get? b).isSome → (h'.get? b).isSome := fun b e => by
    by_cases q : b = a
    · rw [q]; exact h3
    · rw [hs.2 b q]; exact e
  refine ⟨⟨fun _ _ e => e, fun _ _ e => .inl e, fun _ _ e => e, fun _ _ e => .inl e, fun b o e _ hb => (hs.2 b fun q => hb (q ▸ ha)).trans e, al, rfl, rfl, rfl⟩,
    ⟨wf.base, fun b o e => (hs.2 b fun q => by rw [q, h1] at e; cases e).trans (wf.has _ _ e), wf.dom, fun k ov e => ?_, fun k f e b hb => ⟨(wf.off k f e b hb).1, al b (wf.off k f e b hb).2⟩, wf.apart⟩⟩
  obtain ⟨x, f, g1, g2⟩ := wf.rel k ov e
  exact ⟨x, f, g1, g2.mono (fun _ _ e => e) (fun _ _ e => e) fun b hb o e => (hs.2 b fun q => h2 ⟨k, _, g1, q ▸ hb⟩).trans e⟩

noncomputable def Stores (sc : Sc) (x : Str) : Prop := sc.ns.lookup x = some .local ∨ (sc.ns.lookup x = some .cell ∧ x ∈ sc.own)

theorem store_ {I O s env fa x v cv} {A : Around} {E : Value → Shared → Prop} {M : Model} (hx : Stores sc x) (hE : EnvR C I O env sc fa ρ s.heap) (wf : WF C I O H s) (hv : VRel I O v cv) {Q : Unit → Shared → Prop}
    (q : ∀ s', Step fa I O s I O s' → WF C I O H s' → EnvR C I O env sc fa (put x v ρ) s'.heap → Q () s') : wpAny M A (storeName env x cv) Q E s := by
  have hl := hE.off _ (.inl rfl)
  rcases hx with hx | ⟨hx, ho⟩
  · obtain ⟨m, hn, hm⟩ := hE.vars
    refine wpAny_storeName_local (by show env.scope.names.lookup x = _; rw [hE.ns]; exact hx) hn (fun h' hn' hs' => ?_) (by rw [hE.kind]; rfl)
    obtain ⟨st, wf'⟩ := frame_upd wf hs' hE.loc (hl.1 (.inl rfl)) hl.2.1 (Ns.some hn') (s.toks + 1)
    refine q _ st wf' ⟨hE.kind, hE.ns, hE.glob, hE.blt, hE.loc, ⟨_, hn', fun y u hy hk => ?_⟩, fun y u hy hk => ?_, hE.ownc, fun y c hc => ?_, hE.apart, fun a ha => ?_⟩
    · rw [lookup_put] at hy
      by_cases e : y = x
      · rw [if_pos e] at hy; cases hy; exact ⟨cv, by simp [e], hv⟩
      · rw [if_neg e] at hy
        obtain ⟨w, h1, h2⟩ := hm y u hy hk
        exact ⟨w, by simp [e, h1], h2⟩
    · rw [lookup_put] at hy
      by_cases e : y = x
      · subst e; rw [hx] at hk; rcases hk with hk | hk <;> cases hk
      · rw [if_neg e] at hy
        obtain ⟨c, w, h1, h2, h3⟩ := hE.cell y u hy hk
        have ne := (hE.cells y c (mem_of_lookup h1)).2
        exact ⟨c, w, h1, IsCell.at h2 fun o e => (hs'.2 c ne).trans e, h3⟩
    · obtain ⟨⟨w, h1⟩, h2⟩ := hE.cells y c hc
      exact ⟨⟨w, IsCell.at h1 fun o e => (hs'.2 c h2).trans e⟩, h2⟩
    · obtain ⟨g1, g2, g3⟩ := hE.off a ha
      exact ⟨g1, g2, st.alive a g3⟩
  · obtain ⟨c, hc, hcf⟩ := hE.ownc x ho hx
    have hm := mem_of_lookup hc
    obtain ⟨⟨v₀, hv₀⟩, hcl⟩ := hE.cells x c hm
    have hl := hE.off c (.inr (.inl ⟨x, hm⟩))
    refine wpAny_storeName_cell hE.kind (by show env.scope.names.lookup x = _; rw [hE.ns]; exact hx) hc hv₀ (fun h' hc' hs' => ?_)
    obtain ⟨st, wf'⟩ := frame_upd wf hs' hcf (hl.1 (.inr hcf)) hl.2.1 (IsCell.some hc') s.toks
    have other : ∀ y c', (y, c') ∈ env.cells → y ≠ x → c' ≠ c := fun y c' hy hne e => hne (name_of_addr hE.apart hy (e ▸ hm))
    refine q _ st wf' ⟨hE.kind, hE.ns, hE.glob, hE.blt, hE.loc, ?_, fun y u hy hk => ?_, hE.ownc, fun y c' hy => ?_, hE.apart, fun a ha => ?_⟩
    · obtain ⟨m, hn, hmm⟩ := hE.vars
      refine ⟨m, hn.at' fun o e => (hs'.2 _ (Ne.symm hcl)).trans e, fun y u hy hk => ?_⟩
      rw [lookup_put] at hy
      by_cases e : y = x
      · subst e; rw [hx] at hk; cases hk
      · rw [if_neg e] at hy; exact hmm y u hy hk
    · rw [lookup_put] at hy
      by_cases e : y = x
      · subst e; rw [if_pos rfl] at hy; cases hy; exact ⟨c, cv, hc, hc', hv⟩
      · rw [if_neg e] at hy
        obtain ⟨c', w, h1, h2, h3⟩ := hE.cell y u hy hk
        exact ⟨c', w, h1, IsCell.at h2 fun o e' => (hs'.2 c' (other y c' (mem_of_lookup h1) e)).trans e', h3⟩
    · obtain ⟨⟨w, h1⟩, h2⟩ := hE.cells y c' hy
      by_cases e : c' = c
      · subst e; exact ⟨⟨_, hc'⟩, h2⟩
      · exact ⟨⟨w, IsCell.at h1 fun o e' => (hs'.2 c' e).trans e'⟩, h2⟩
    · obtain ⟨g1, g2, g3⟩ := hE.off a ha
      exact ⟨g1, g2, st.alive a g3⟩

inductive PostX (C : Cx) (I : Part) (O : Own) (s : Shared) (env : Env) (sc : Sc) (fa : List Addr) (Q : Fl → Vars → Store → Prop) (fl : Flow) (s' : Shared) : Prop
  | mk (I' : Part) (O' : Own) (H' : Store) (ρ' : Vars) (f : Fl) (st : Step fa I O s I' O' s') (wf : WF C I' O' H' s') (hE : EnvR C I' O' env sc fa ρ' s'.heap) (r : FRel I' O' f fl) (q : Q f ρ' H')
theorem PostX.from {I O s I₁ O₁ s₁ env sc fa Q fl s'} (st : Step fa I O s I₁ O₁ s₁) (x : PostX C I₁ O₁ s₁ env sc fa Q fl s') : PostX C I O s env sc fa Q fl s' :=
  let ⟨I', O', H', ρ', f, a, b, c, e, q⟩ := x; ⟨I', O', H', ρ', f, st.trans a, b, c, e, q⟩
noncomputable def Ex (C : Cx) (d : Nat) (sc : Sc) (ρ : Vars) (st : Stmt) (H : Store) (Q : Fl → Vars → Store → Prop) : Prop :=
  ∀ A E s env fa I O, AOk d A → EnvR C I O env sc fa ρ s.heap → WF C I O H s → wpAny C.M A (exec st env) (PostX C I O s env sc fa Q) E s
noncomputable def Xs (C : Cx) (d : Nat) (sc : Sc) (ρ : Vars) (st : List Stmt) (H : Store) (Q : Fl → Vars → Store → Prop) : Prop :=
  ∀ A E s env fa I O, AOk d A → EnvR C I O env sc fa ρ s.heap → WF C I O H s → wpAny C.M A (execs st env) (PostX C I O s env sc fa Q) E s
theorem Xs.mono {st Q Q'} (x : Xs C d sc ρ st H Q) (h : ∀ f ρ' H', Q f ρ' H' → Q' f ρ' H') : Xs C d sc ρ st H Q' := fun A E s env fa I O hA hE wf =>
  wpAny_mono (x A E s env fa I O hA hE wf) (fun _ _ ⟨I', O', H', ρ', f, a, b, c, e, q⟩ => ⟨I', O', H', ρ', f, a, b, c, e, h _ _ _ q⟩) fun _ _ e => e
theorem Ex.mono {st Q Q'} (x : Ex C d sc ρ st H Q) (h : ∀ f ρ' H', Q f ρ' H' → Q' f ρ' H') : Ex C d sc ρ st H Q' := fun A E s env fa I O hA hE wf =>
  wpAny_mono (x A E s env fa I O hA hE wf) (fun _ _ ⟨I', O', H', ρ', f, a, b, c, e, q⟩ => ⟨I', O', H', ρ', f, a, b, c, e, h _ _ _ q⟩) fun _ _ e => e

theorem xs_nil {Q} (q : Q .next ρ H) : Xs C d sc ρ [] H Q := fun A E s env fa I O hA hE wf => wpAny_execs_nil ⟨I, O, H, ρ, .next, .refl, wf, hE, .next, q⟩
/-- what follows a statement -/
noncomputable def After (C : Cx) (d : Nat) (sc : Sc) (rest : List Stmt) (Q : Fl → Vars → Store → Prop) : Fl → Vars → Store → Prop
  | .next, ρ, H => Xs C d sc ρ rest H Q
  | f, ρ, H => Q f ρ H
theorem xs_cons {st rest Q} (h : Ex C d sc ρ st H (After C d sc rest Q)) : Xs C d sc ρ (st :: rest) H Q := fun A E s env fa I O hA hE wf => by
  refine wpAny_execs_cons (wpAny_mono (h A E s env fa I O hA hE wf) (fun fl s₁ ⟨I₁, O₁, H₁, ρ₁, f, st₁, wf₁, hE₁, rf, q₁⟩ => ?_) fun _ _ e => e)
  cases rf with
  | next => exact wpAny_mono (q₁ A E s₁ env fa I₁ O₁ hA hE₁ wf₁) (fun _ _ x => x.from st₁) fun _ _ e => e
  | brk => exact ⟨I₁, O₁, H₁, ρ₁, .brk, st₁, wf₁, hE₁, .brk, q₁⟩
  | cont => exact ⟨I₁, O₁, H₁, ρ₁, .cont, st₁, wf₁, hE₁, .cont, q₁⟩
  | ret r => exact ⟨I₁, O₁, H₁, ρ₁, .ret _, st₁, wf₁, hE₁, .ret r, q₁⟩

theorem ex_assign {x px e pos Q} (hx : Stores sc x) (h : Ev C d sc ρ e H fun v H₁ => Q .next (put x v ρ) H₁) (hs : ∀ env : Env, env.scope.names = sc.ns → swapsWith e (some (.Name x px)) pos.line env = pure false := by intro _ _; rfl) :
    Ex C d sc ρ (.Assign [.Name x px] e pos) H Q := fun A E s env fa I O hA hE wf => by
  refine wpAny_Assign_Name (wpAny_mono (h A E s env fa I O hA hE wf) (fun cv s₁ ⟨I₁, O₁, H₁, v, st₁, wf₁, rv, q₁⟩ => ?_) fun _ _ e => e) (hs env hE.ns)
  exact store_ hx (hE.step st₁) wf₁ rv fun s₂ st₂ wf₂ hE₂ => ⟨I₁, O₁, H₁, _, .next, st₁.nil.trans st₂, wf₂, hE₂, .next, q₁⟩
theorem ex_aug {x px op e pos Q v} (hx : Stores sc x) (hv : ρ.lookup x = some v) (h : Ev C d sc ρ e H fun u H₁ => IBin C d op v u H₁ fun r H₂ => Q .next (put x r ρ) H₂) : Ex C d sc ρ (.AugAssign (.Name x px) op e pos) H Q :=
  fun A E s env fa I O hA hE wf => by
  refine wpAny_AugAssign_Name ?_
  have main : ∀ cv, VRel I O v cv → wpAny C.M A (eval e env) (fun u s₂ => wpAny C.M A (inplaceOp op cv u) (fun r s₃ => wpAny C.M A (storeName env x r) (fun _ => PostX C I O s env sc fa Q .next) E s₃) E s₂) E s := fun cv rv => by
    refine wpAny_mono (h A E s env fa I O hA hE wf) (fun cu s₁ ⟨I₁, O₁, H₁, u, st₁, wf₁, ru, q₁⟩ => ?_) fun _ _ e => e
    refine wpAny_mono (q₁ A E s₁ I₁ O₁ cv cu hA wf₁ (rv.mono st₁.sub st₁.oext) ru) (fun cr s₂ ⟨I₂, O₂, H₂, r, st₂, wf₂, rr, q₂⟩ => ?_) fun _ _ e => e
    exact store_ hx ((hE.step st₁).step st₂) wf₂ rr fun s₃ st₃ wf₃ hE₃ => ⟨I₂, O₂, H₂, _, .next, ((st₁.trans st₂).nil).trans st₃, wf₃, hE₃, .next, q₂⟩
  rcases hx with hx | ⟨hx, ho⟩
  · obtain ⟨m, hn, hm⟩ := hE.vars
    obtain ⟨cv, a, b⟩ := hm x v hv hx
    exact wpAny_loadName_local hE.kind (by show env.scope.names.lookup x = _; rw [hE.ns]; exact hx) hn a (main cv b)
  · obtain ⟨c, cv, a, b, e⟩ := hE.cell x v hv (.inl hx)
    exact wpAny_loadName_cell hE.kind (by show env.scope.names.lookup x = _; rw [hE.ns]; exact hx) a b (main cv e)
theorem ex_return {e pos Q} (h : Ev C d sc ρ e H fun v H₁ => Q (.ret v) ρ H₁) : Ex C d sc ρ (.Return (some e) pos) H Q := fun A E s env fa I O hA hE wf =>
  wpAny_Return_some (wpAny_mono (h A E s env fa I O hA hE wf) (fun cv s₁ ⟨I₁, O₁, H₁, v, st₁, wf₁, rv, q₁⟩ => ⟨I₁, O₁, H₁, ρ, .ret v, st₁.nil, wf₁, hE.step st₁, .ret rv, q₁⟩) fun _ _ e => e)
theorem ex_cont {pos Q} (q : Q .cont ρ H) : Ex C d sc ρ (.Continue pos) H Q := fun A E s env fa I O hA hE wf => wpAny_Continue ⟨I, O, H, ρ, .cont, .refl, wf, hE, .cont, q⟩
theorem ex_if {t b o pos Q} (h : Tr C d sc ρ t H fun c H₁ => (c = true → Xs C d sc ρ b H₁ Q) ∧ (c = false → Xs C d sc ρ o H₁ Q)) : Ex C d sc ρ (.If t b o pos) H Q := fun A E s env fa I O hA hE wf => by
  refine wpAny_If (wpAny_mono (h A E s env fa I O hA hE wf) (fun c s₁ ⟨I₁, O₁, H₁, st₁, wf₁, q₁⟩ => ?_) fun _ _ e => e)
  cases c with
  | true => exact wpAny_mono (q₁.1 rfl A E s₁ env fa I₁ O₁ hA (hE.step st₁) wf₁) (fun _ _ x => x.from st₁.nil) fun _ _ e => e
  | false => exact wpAny_mono (q₁.2 rfl A E s₁ env fa I₁ O₁ hA (hE.step st₁) wf₁) (fun _ _ x => x.from st₁.nil) fun _ _ e => e
end Mine
end PartJ4

section PartJ5
open PySem PySem.W PySem.Calls PyProof.Rows
set_option maxRecDepth 100000
set_option linter.unusedVariables false
namespace Mine
variable {C : Cx} {d : Nat} {sc : Sc} {ρ : Vars} {H : Store}

/-- the iterator at a walks through vs; it writes wr alone; K: what must stay so of the store -/
structure Wk (C : Cx) (A : Around) (a : Addr) (vs : List V) (I₀ : Part) (O₀ : Own) (wr : List Addr) (St : Nat → Heap → Prop) (K : Store → Prop) : Prop where
  item : ∀ i (s : Shared) (E : Value → Shared → Prop) (Q : Option Value → Shared → Prop) I O H, i < vs.length → Le I₀ I → OLe O₀ O → WF C I O H s → K H → St i s.heap →
    (∀ x v h' tk, vs[i]? = some x → VRel I O x v → St (i + 1) h' → (∀ b o, b ∉ wr → s.heap.get? b = some o → h'.get? b = some o) → Q (some v) { s with heap := h', toks := tk }) → wpAny C.M A (pyNext (.ref a)) Q E s
  done : ∀ (s : Shared) (E : Value → Shared → Prop) (Q : Option Value → Shared → Prop) I O H, Le I₀ I → OLe O₀ O → WF C I O H s → K H → St vs.length s.heap →
    (∀ h' tk, (∀ b o, b ∉ wr → s.heap.get? b = some o → h'.get? b = some o) → Q none { s with heap := h', toks := tk }) → wpAny C.M A (pyNext (.ref a)) Q E s
  self : ∀ i (s : Shared) (E : Value → Shared → Prop) (Q : Value → Shared → Prop), St i s.heap → Q (.ref a) s → wpAny C.M A (pyIter (.ref a)) Q E s
  frame : ∀ i h h', St i h → (∀ b ∈ wr, ∀ o, h.get? b = some o → h'.get? b = some o) → St i h'
  live : ∀ i h, St i h → ∀ b ∈ wr, (h.get? b).isSome

inductive SrcP (C : Cx) (I : Part) (O : Own) (s : Shared) (Q : List V → (Store → Prop) → Store → Prop) (it : Value) (s₂ : Shared) : Prop
  | mk (a : Addr) (I' : Part) (O' : Own) (H' : Store) (vs : List V) (K : Store → Prop) (wr : List Addr) (St : Nat → Heap → Prop) (e : it = .ref a) (st : Step [] I O s I' O' s₂) (wf : WF C I' O' H' s₂) (hw : ∀ b ∈ wr, s.heap.get? b = none ∧ I' b = none ∧ ¬ Owns O' b) (h0 : St 0 s₂.heap)
    (W : ∀ A', A'.handled = none → Wk C A' a vs I' O' wr St K) (q : Q vs K H')
noncomputable def Src (C : Cx) (d : Nat) (sc : Sc) (ρ : Vars) (e : Expr) (H : Store) (Q : List V → (Store → Prop) → Store → Prop) : Prop :=
  ∀ A E s env fa I O, AOk d A → EnvR C I O env sc fa ρ s.heap → WF C I O H s → wpAny C.M A (eval e env) (fun x s₁ => wpAny C.M A (pyIter x) (SrcP C I O s Q) E s₁) E s

/-- a value that can be gone through -/
noncomputable def Itr (C : Cx) (d : Nat) (v : V) (H : Store) (Q : List V → (Store → Prop) → Store → Prop) : Prop :=
  ∀ A E s cv I O, AOk d A → VRel I O v cv → WF C I O H s → wpAny C.M A (pyIter cv) (SrcP C I O s Q) E s
theorem src_ev {e Q} (h : Ev C d sc ρ e H fun v H₁ => Itr C d v H₁ Q) : Src C d sc ρ e H Q := fun A E s env fa I O hA hE wf => by
  refine wpAny_mono (h A E s env fa I O hA hE wf) (fun cv s₁ ⟨I₁, O₁, H₁, v, st₁, wf₁, rv, q₁⟩ => ?_) fun _ _ e => e
  refine wpAny_mono (q₁ A E s₁ cv I₁ O₁ hA rv wf₁) (fun it s₂ ⟨a, I', O', H', vs, K, wr, St, e, st₂, wf₂, hw, h0, W, q⟩ => ?_) fun _ _ e => e
  exact ⟨a, I', O', H', vs, K, wr, St, e, st₁.trans st₂, wf₂, fun b hb => ⟨none_of_alive (st₁.alive b) (hw b hb).1, (hw b hb).2⟩, h0, W, q⟩

theorem Own.notMine {I O s} {b : Addr} (wf : WF C I O H s) (e : s.heap.get? b = none) : ¬ Owns O b := fun ⟨k, f, q, hb⟩ => by have := (wf.off k f q b hb).2; rw [e] at this; cases this
theorem In.none {I : Part} {h : Heap} (x : In I h) {b : Addr} (e : h.get? b = none) : I b = none := by
  cases q : I b with
  | none => rfl
  | some o => have := x _ _ q; rw [e] at this; cases this

theorem itr_list {xs : List V} {Q} (q : Q xs (fun _ => True) H) : Itr C d (.list xs) H Q := fun A E s cv I O hA rv wf => by
  obtain ⟨a, vs, n, rfl, hI, rs⟩ := rv.list_inv
  have hn := get_size_none s.heap
  refine wpAny_pyIter_list (wf.list hI) ?_
  obtain ⟨st, wf'⟩ := push_junk (o := { cls := .type "list_iterator", data := .fields #[.ref a, .int 0 0] }) wf
  have hne : a ≠ s.heap.objs.size := fun e => by have := wf.has _ _ hI; rw [e, hn] at this; cases this
  refine ⟨_, I, O, H, xs, _, [s.heap.objs.size], fun i h => h.IsListIter s.heap.objs.size a i, rfl, st, wf', (mem1 (⟨hn, In.none wf.has hn, Own.notMine wf hn⟩)), ⟨_, Heap.get?_push_size _ rfl, rfl, rfl⟩, fun A' hA' => ?_, q⟩
  refine ⟨fun i s' E' Q' I' O' H' hi le oe wf'' _ st hQ => ?_, fun s' E' Q' I' O' H' le oe wf'' _ st hQ => ?_, fun i s' E' Q' st hQ => wpAny_pyIter_listiter st hQ, fun i h h' st hk => st.at fun o e => hk _ (.head _) o e,
    fun i h ⟨o, e, _⟩ b hb => by cases List.mem_singleton.mp hb; rw [e]; rfl⟩
  · obtain ⟨x, hx⟩ := List.getElem?_eq_some_iff.mpr ⟨hi, rfl⟩ |> fun h => (⟨_, h⟩ : ∃ x, xs[i]? = some x)
    obtain ⟨v, h1, h2⟩ := rs.get i x hx
    exact wpAny_pyNext_list_item st (wf''.list (le _ _ hI)) (x := v) (by simpa using h1) fun h' hit' hs' => hQ x v h' s'.toks hx (h2.mono le oe) hit' fun b o hb e => (hs'.2 b fun e' => hb (e' ▸ .head _)).trans e
  · exact wpAny_pyNext_list_end hA' st (wf''.list (le _ _ hI)) (by simp [rs.length]) fun h' he' => hQ h' s'.toks fun b o hb e => he' b o (fun e' => hb (e' ▸ .head _)) e
theorem itr_own {k : Nat} {xs : List V} {Q} (hk : H.lookup k = some (.list xs)) (q : Q xs (fun H' => H'.lookup k = some (.list xs)) H) : Itr C d (.own k) H Q := fun A E s cv I O hA rv wf => by
  obtain ⟨a, f, rfl, ho⟩ := rv.own_inv
  have hn := get_size_none s.heap
  obtain ⟨vs, n, h1, rs, _⟩ := wf.own hk ho
  refine wpAny_pyIter_list (⟨_, h1, rfl, n, rfl⟩ : s.heap.IsList a vs.toArray) ?_
  obtain ⟨st, wf'⟩ := push_junk (o := { cls := .type "list_iterator", data := .fields #[.ref a, .int 0 0] }) wf
  refine ⟨_, I, O, H, xs, _, [s.heap.objs.size], fun i h => h.IsListIter s.heap.objs.size a i, rfl, st, wf', (mem1 (⟨hn, In.none wf.has hn, Own.notMine wf hn⟩)), ⟨_, Heap.get?_push_size _ rfl, rfl, rfl⟩, fun A' hA' => ?_, q⟩
  refine ⟨fun i s' E' Q' I' O' H' hi le oe wf'' hK st hQ => ?_, fun s' E' Q' I' O' H' le oe wf'' hK st hQ => ?_, fun i s' E' Q' st hQ => wpAny_pyIter_listiter st hQ, fun i h h' st hk => st.at fun o e => hk _ (.head _) o e,
    fun i h ⟨o, e, _⟩ b hb => by cases List.mem_singleton.mp hb; rw [e]; rfl⟩
  · obtain ⟨vs', n', g1, rs', _⟩ := wf''.own hK (oe _ _ ho)
    obtain ⟨x, hx⟩ := List.getElem?_eq_some_iff.mpr ⟨hi, rfl⟩ |> fun h => (⟨_, h⟩ : ∃ x, xs[i]? = some x)
    obtain ⟨v, h1, h2⟩ := rs'.get i x hx
    exact wpAny_pyNext_list_item st ⟨_, g1, rfl, n', rfl⟩ (x := v) (by simpa using h1) fun h' hit' hs' => hQ x v h' s'.toks hx h2 hit' fun b o hb e => (hs'.2 b fun e' => hb (e' ▸ .head _)).trans e
  · obtain ⟨vs', n', g1, rs', _⟩ := wf''.own hK (oe _ _ ho)
    exact wpAny_pyNext_list_end hA' st ⟨_, g1, rfl, n', rfl⟩ (by simp [rs'.length]) fun h' he' => hQ h' s'.toks fun b o hb e => he' b o (fun e' => hb (e' ▸ .head _)) e
theorem itr_tup {xs : List V} {Q} (q : Q xs (fun _ => True) H) : Itr C d (.tup xs) H Q := fun A E s cv I O hA rv wf => by
  obtain ⟨a, vs, n, rfl, hI, rs⟩ := rv.tup_inv
  have hn := get_size_none s.heap
  have tup : ∀ {I' O' H' s'}, WF C I' O' H' s' → Le I I' → s'.heap.IsTuple a vs.toArray := fun wf' le => ⟨_, wf'.has _ _ (le _ _ hI), rfl, n, rfl⟩
  refine wpAny_pyIter_tuple (tup wf fun _ _ e => e) ?_
  obtain ⟨st, wf'⟩ := push_junk (o := { cls := .type "tuple_iterator", data := .fields #[.ref a, .int 0 0] }) wf
  refine ⟨_, I, O, H, xs, _, [s.heap.objs.size], fun i h => h.IsTupleIter s.heap.objs.size a i, rfl, st, wf', (mem1 (⟨hn, In.none wf.has hn, Own.notMine wf hn⟩)), ⟨_, Heap.get?_push_size _ rfl, rfl, rfl⟩, fun A' hA' => ?_, q⟩
  refine ⟨fun i s' E' Q' I' O' H' hi le oe wf'' _ st hQ => ?_, fun s' E' Q' I' O' H' le oe wf'' _ st hQ => ?_, fun i s' E' Q' st hQ => wpAny_pyIter_tupleiter st hQ, fun i h h' st hk => st.at fun o e => hk _ (.head _) o e,
    fun i h ⟨o, e, _⟩ b hb => by cases List.mem_singleton.mp hb; rw [e]; rfl⟩
  · obtain ⟨x, hx⟩ := List.getElem?_eq_some_iff.mpr ⟨hi, rfl⟩ |> fun h => (⟨_, h⟩ : ∃ x, xs[i]? = some x)
    obtain ⟨v, h1, h2⟩ := rs.get i x hx
    exact wpAny_pyNext_tuple_item st (tup wf'' le) (x := v) (by simpa using h1) fun h' hit' hs' => hQ x v h' s'.toks hx (h2.mono le oe) hit' fun b o hb e => (hs'.2 b fun e' => hb (e' ▸ .head _)).trans e
  · exact wpAny_pyNext_tuple_end hA' st (tup wf'' le) (by simp [rs.length]) fun h' he' => hQ h' s'.toks fun b o hb e => he' b o (fun e' => hb (e' ▸ .head _)) e
/-- the signs of a str, as strs -/
noncomputable def signs (x : Str) : List V := x.cps.toList.map fun c => .str ⟨#[c]⟩
theorem itr_str {x : Str} {Q} (q : Q (signs x) (fun _ => True) H) : Itr C d (.str x) H Q := fun A E s cv I O hA rv wf => by
  obtain ⟨t, rfl⟩ := rv.str_inv
  have hn := get_size_none s.heap
  have main : ∀ (o : Obj) (St : Nat → Heap → Prop), (∀ A' : Around, A'.handled = none → Walks C.p C.w A' s.heap.objs.size [s.heap.objs.size] [s.heap.objs.size] x.cps.size (SignAt x) St) → St 0 (s.heap.push o) →
      (∀ i h, St i h → (h.get? s.heap.objs.size).isSome) →
      SrcP C I O s Q (.ref s.heap.objs.size) { s with heap := s.heap.push o } := fun o St W h0 lv => by
    obtain ⟨st, wf'⟩ := push_junk (o := o) wf
    refine ⟨_, I, O, H, _, _, [s.heap.objs.size], St, rfl, st, wf', (mem1 (⟨hn, In.none wf.has hn, Own.notMine wf hn⟩)), h0, fun A' hA' => ?_, q⟩
    have W := W A' hA'
    refine ⟨fun i s' E' Q' I' O' H' hi le oe wf'' _ st hQ => ?_, fun s' E' Q' I' O' H' le oe wf'' _ st hQ => ?_, fun i s' E' Q' st hQ => W.self i s' Q' E' st hQ, fun i h h' st hk => W.frame i h h' st hk,
      fun i h st b hb => by cases List.mem_singleton.mp hb; exact lv i h st⟩
    · refine W.item i s' Q' E' (by simpa [signs] using hi) st fun v h' tk ⟨c, u, hc, e⟩ st' hk => ?_
      subst e
      exact hQ (.str ⟨#[c]⟩) _ h' tk (by simp [signs, hc]) (.str _ _) st' hk
    · exact W.done s' Q' E' (by simpa [signs] using st) hQ
  cases ha : x.cps.all (· < 128)
  · exact wpAny_pyIter_wide ha (main _ _ (fun A' hA => Walks.strWide hA _ x t) ⟨_, Heap.get?_push_size _ rfl, rfl, rfl⟩ fun i h ⟨o, e, _⟩ => by rw [e]; rfl)
  · exact wpAny_pyIter_ascii ha (main _ _ (fun A' hA => Walks.strAscii hA _ x t) ⟨_, Heap.get?_push_size _ rfl, rfl, rfl⟩ fun i h ⟨o, e, _⟩ => by rw [e]; rfl)

/-- the loop -/
noncomputable def Loop (C : Cx) (d : Nat) (sc : Sc) (K : Store → Prop) (bd : V → Vars → Vars) (body : List Stmt) (Q : Fl → Vars → Store → Prop) : List V → Vars → Store → Prop
  | [], ρ, H => K H ∧ Q .next ρ H
  | v :: vs, ρ, H => K H ∧ Xs C d sc (bd v ρ) body H fun f ρ' H' => match f with
    | .next | .cont => Loop C d sc K bd body Q vs ρ' H'
    | .brk => Q .next ρ' H'
    | .ret r => Q (.ret r) ρ' H'

/-- what a change of the iterator's own objects leaves -/
theorem chg {I O s env fa} {wr : List Addr} {h' : Heap} {tk : Nat} {s₀ I₀ O₀} (st : Step fa I₀ O₀ s₀ I O s) (wf : WF C I O H s) (hE : EnvR C I O env sc fa ρ s.heap)
    (hf : ∀ b ∈ wr, s₀.heap.get? b = none) (hp : ∀ b ∈ wr, I b = none ∧ ¬ Owns O b ∧ (b ≠ env.locals ∧ (∀ x, (x, b) ∉ env.cells) ∧ b ∉ fa)) (hk : ∀ b o, b ∉ wr → s.heap.get? b = some o → h'.get? b = some o) :
    And3 (Step fa I₀ O₀ s₀ I O { s with heap := h', toks := tk }) (WF C I O H { s with heap := h', toks := tk }) (EnvR C I O env sc fa ρ h') := by
  have al : ∀ b, b ∉ wr → (s.heap.get? b).isSome → (h'.get? b).isSome := fun b hb e => by obtain ⟨o, q⟩ := Option.isSome_iff_exists.mp e; rw [hk b o hb q]; rfl
  have n1 : ∀ b, (s₀.heap.get? b).isSome → b ∉ wr := fun b e hb => by rw [hf b hb] at e; cases e
  have n2 : ∀ b, Owns O b → b ∉ wr := fun b e hb => (hp b hb).2.1 e
  have n3 : ∀ a, a = env.locals ∨ (∃ x, (x, a) ∈ env.cells) ∨ a ∈ fa → a ∉ wr := fun a ha hb => by
    obtain ⟨h1, h2, h3⟩ := (hp a hb).2.2
    rcases ha with h | ⟨x, h⟩ | h
    · exact h1 h
    · exact h2 x h
    · exact h3 h
  refine ⟨⟨st.sub, st.fresh, st.oext, st.newk, fun b o e h1 h2 => hk b o (n1 b (by rw [e]; rfl)) (st.keep b o e h1 h2), fun b e => al b (n1 b e) (st.alive b e), st.gens, st.drawn, st.os⟩,
    ⟨wf.base, fun b o e => hk b o (fun hb => by rw [(hp b hb).1] at e; cases e) (wf.has b o e), wf.dom, fun k ov e => ?_, fun k f e b hb => ⟨(wf.off k f e b hb).1, al b (n2 b ⟨k, f, e, hb⟩) (wf.off k f e b hb).2⟩, wf.apart⟩,
    ⟨hE.kind, hE.ns, hE.glob, hE.blt, hE.loc, ?_, fun y u hy hk' => ?_, hE.ownc, fun y c hc => ?_, hE.apart, fun a ha => ?_⟩⟩
  · obtain ⟨x, f, g1, g2⟩ := wf.rel k ov e
    exact ⟨x, f, g1, g2.mono (fun _ _ e => e) (fun _ _ e => e) fun b hb o e' => hk b o (n2 b ⟨k, _, g1, hb⟩) e'⟩
  · obtain ⟨m, hn, hm⟩ := hE.vars
    exact ⟨m, hn.at' fun o e => hk _ o (n3 _ (.inl rfl)) e, hm⟩
  · obtain ⟨c, w, h1, h2, h3⟩ := hE.cell y u hy hk'
    exact ⟨c, w, h1, IsCell.at h2 fun o e => hk c o (n3 c (.inr (.inl ⟨y, mem_of_lookup h1⟩))) e, h3⟩
  · obtain ⟨⟨w, h1⟩, h2⟩ := hE.cells y c hc
    exact ⟨⟨w, IsCell.at h1 fun o e => hk c o (n3 c (.inr (.inl ⟨y, hc⟩))) e⟩, h2⟩
  · obtain ⟨g1, g2, g3⟩ := hE.off a ha
    exact ⟨g1, g2, al a (n3 a ha) g3⟩
/-- the iterator's objects stay its own through a step of the body's -/
theorem priv_step {I O s I' O' s' fa} {b : Addr} (st : Step fa I O s I' O' s') (h1 : I b = none) (h2 : ¬ Owns O b) (h3 : (s.heap.get? b).isSome) : I' b = none ∧ ¬ Owns O' b := by
  refine ⟨?_, ?_⟩
  · cases q : I' b with
    | none => rfl
    | some o => exact (st.fresh b o q).elim (fun e => by rw [h1] at e; cases e) fun e => by rw [e] at h3; cases h3
  · rintro ⟨k, f, q, hb⟩
    exact (st.newk k f q).elim (fun e => h2 ⟨k, f, e, hb⟩) fun e => by rw [e b hb] at h3; cases h3

inductive LInv (C : Cx) (fa : List Addr) (I : Part) (O : Own) (s : Shared) (env : Env) (sc : Sc) (St : Nat → Heap → Prop) (wr : List Addr) (I₂ : Part) (O₂ : Own) (L : Nat) (P : Nat → Vars → Store → Prop) (n : Nat) (s' : Shared) : Prop
  | mk (I' : Part) (O' : Own) (H' : Store) (ρ' : Vars) (i : Nat) (st : Step fa I O s I' O' s') (wf : WF C I' O' H' s') (hE : EnvR C I' O' env sc fa ρ' s'.heap) (hst : St i s'.heap) (hp : ∀ b ∈ wr, I' b = none ∧ ¬ Owns O' b) (le : Le I₂ I') (oe : OLe O₂ O') (hi : i ≤ L) (hn : n = L - i) (hl : P i ρ' H')
theorem sub_lt {L i : Nat} (h : i < L) : L - (i + 1) < L - i := Nat.sub_succ_lt_self L i h
theorem ex_for {x px iter body pos Q} (hx : Stores sc x) (h : Src C d sc ρ iter H fun vs K H₁ => Loop C d sc K (put x) body Q vs ρ H₁) (hs : ∀ env v, foldedSetIterable iter env v = pure v := by intro _ _; rfl) :
    Ex C d sc ρ (.For (.Name x px) iter body [] pos) H Q := fun A E s env fa I O hA hE wf => by
  refine wpAny_For (wpAny_mono (h A E s env fa I O hA hE wf) (fun cv s₁ h₁ => wpAny_mono h₁ (fun it s₂ ⟨a, I₂, O₂, H₂, vs, K, wr, St, e, st₂, wf₂, hw, h0, W, q⟩ => ?_) fun _ _ e => e) fun _ _ e => e) (hs env)
  subst e
  have W := W A hA.handled
  have hwf : ∀ b ∈ wr, s.heap.get? b = none := fun b hb => (hw b hb).1
  have dis : ∀ b ∈ wr, b ≠ env.locals ∧ (∀ x, (x, b) ∉ env.cells) ∧ b ∉ fa := fun b hb =>
    ⟨fun e => (by have := (hE.off _ (.inl e)).2.2; rw [hwf b hb] at this; cases this), fun y hy => (by have := (hE.off _ (.inr (.inl ⟨y, hy⟩))).2.2; rw [hwf b hb] at this; cases this),
     fun hy => (by have := (hE.off _ (.inr (.inr hy))).2.2; rw [hwf b hb] at this; cases this)⟩
  have hE₂ := hE.step st₂
  obtain ⟨Inv, hInv⟩ : ∃ Inv : Nat → Shared → Prop, ∀ n s', Inv n s' ↔ LInv C fa I O s env sc St wr I₂ O₂ vs.length (fun i ρ' H' => Loop C d sc K (put x) body Q (vs.drop i) ρ' H') n s' := ⟨_, fun _ _ => Iff.rfl⟩
  refine codeAny_forLoop Inv ?_ vs.length ((hInv _ _).2 ⟨I₂, O₂, H₂, ρ, 0, st₂.nil, wf₂, hE₂, h0, fun b hb => (hw b hb).2, fun _ _ e => e, fun _ _ e => e, Nat.zero_le _, rfl, q⟩)
  intro n s' hinv
  obtain ⟨I', O', H', ρ', i, st', wf', hE', hst, hp, le, oe, hi, hn, hl⟩ := (hInv _ _).1 hinv
  have hl : Loop C d sc K (put x) body Q (vs.drop i) ρ' H' := hl
  have hp' : ∀ b ∈ wr, I' b = none ∧ ¬ Owns O' b ∧ (b ≠ env.locals ∧ (∀ x, (x, b) ∉ env.cells) ∧ b ∉ fa) := fun b hb => ⟨(hp b hb).1, (hp b hb).2, dis b hb⟩
  by_cases hlt : i < vs.length
  · have hd : vs.drop i = vs[i] :: vs.drop (i + 1) := List.drop_eq_getElem_cons hlt
    rw [hd] at hl
    obtain ⟨hK, hX⟩ := hl
    refine W.item i s' _ _ I' O' H' hlt le oe wf' hK hst fun y v h' tk hy rv hst₁ hk => ?_
    obtain ⟨st₃, wf₃, hE₃⟩ := chg (tk := tk) st' wf' hE' hwf hp' hk
    have ey : y = vs[i] := by rw [List.getElem?_eq_getElem hlt] at hy; exact (Option.some.inj hy).symm
    rw [ey] at rv
    refine wpAny_assign_Name (store_ hx hE₃ wf₃ rv fun s₄ st₄ wf₄ hE₄ => ?_)
    have hst₄ : St (i + 1) s₄.heap := W.frame _ _ _ hst₁ fun b hb o e => st₄.keep b o e (hp b hb).2 (dis b hb).2.2
    refine wpAny_mono (hX A _ s₄ env fa I' O' hA hE₄ wf₄) (fun fl s₅ ⟨I₅, O₅, H₅, ρ₅, f, st₅, wf₅, hE₅, rf, q₅⟩ => ?_) fun _ _ e => e
    have st₆ := (st₃.trans st₄).trans st₅
    have priv : ∀ b ∈ wr, I₅ b = none ∧ ¬ Owns O₅ b := fun b hb => priv_step st₅ (hp b hb).1 (hp b hb).2 (W.live _ _ hst₄ b hb)
    have hst₅ : St (i + 1) s₅.heap := W.frame _ _ _ hst₄ fun b hb o e => st₅.keep b o e (hp b hb).2 (dis b hb).2.2
    have go : Loop C d sc K (put x) body Q (vs.drop (i + 1)) ρ₅ H₅ → ∃ m, m < n ∧ Inv m s₅ := fun hl =>
      ⟨vs.length - (i + 1), by rw [hn]; exact sub_lt hlt, (hInv _ _).2 ⟨I₅, O₅, H₅, ρ₅, i + 1, st₆, wf₅, hE₅, hst₅, priv, fun b o e => st₅.sub b o (le b o e), fun k f e => st₅.oext k f (oe k f e), hlt, rfl, hl⟩⟩
    cases rf with
    | next => exact go q₅
    | cont => exact go q₅
    | brk => exact ⟨I₅, O₅, H₅, ρ₅, .next, st₆, wf₅, hE₅, .next, q₅⟩
    | ret r => exact ⟨I₅, O₅, H₅, ρ₅, .ret _, st₆, wf₅, hE₅, .ret r, q₅⟩
  · have hz : i = vs.length := by omega
    rw [hz, List.drop_length] at hl
    rw [hz] at hst
    obtain ⟨hK, hQ⟩ := hl
    refine W.done s' _ _ I' O' H' le oe wf' hK hst fun h' tk hk => ?_
    obtain ⟨st₃, wf₃, hE₃⟩ := chg (tk := tk) st' wf' hE' hwf hp' hk
    exact wpAny_execs_nil ⟨I', O', H', ρ', .next, st₃, wf₃, hE₃, .next, hQ⟩
end Mine
end PartJ5

section PartJ6
open PySem PySem.W PySem.Calls PyProof.Rows
set_option maxRecDepth 100000
set_option linter.unusedVariables false
namespace Mine
variable {C : Cx} {d : Nat} {sc : Sc} {ρ : Vars} {H : Store}

theorem junk {fa I O s} {h' : Heap} {t : Nat} (wf : WF C I O H s) (hk : ∀ b o, s.heap.get? b = some o → h'.get? b = some o) : Step fa I O s I O { s with heap := h', toks := t } ∧ WF C I O H { s with heap := h', toks := t } := by
  have al : ∀ b, (s.heap.get? b).isSome → (h'.get? b).isSome := fun b e => by obtain ⟨o, q⟩ := Option.isSome_iff_exists.mp e; rw [hk b o q]; rfl
  refine ⟨⟨fun _ _ e => e, fun _ _ e => .inl e, fun _ _ e => e, fun _ _ e => .inl e, fun b o e _ _ => hk b o e, al, rfl, rfl, rfl⟩, ⟨wf.base, fun b o e => hk b o (wf.has b o e), wf.dom, fun k ov e => ?_, fun k f e b hb => ⟨(wf.off k f e b hb).1, al b (wf.off k f e b hb).2⟩, wf.apart⟩⟩
  obtain ⟨x, f, g1, g2⟩ := wf.rel k ov e
  exact ⟨x, f, g1, g2.mono (fun _ _ e => e) (fun _ _ e => e) fun b hb o e' => hk b o e'⟩

/-- a global's value -/
theorem WF.globals {I O s} (wf : WF C I O H s) : s.heap.Ns mainGlobals C.mg := C.g.keeps fun b o e => wf.has b o (wf.base b o e)
theorem WF.builtins {I O s} (wf : WF C I O H s) : s.heap.Ns builtinsNs C.mb := C.b.keeps fun b o e => wf.has b o (wf.base b o e)
theorem WF.nolimit {I O s} (wf : WF C I O H s) : s.heap.NoLimit := C.nolimit.keeps fun b o e => wf.has b o (wf.base b o e)
theorem name_global {A E s env fa I O x pos v} {Q : Value → Shared → Prop} {M : Model} (hE : EnvR C I O env sc fa ρ s.heap) (wf : WF C I O H s) (hk : sc.ns.lookup x = some .globalImplicit) (hv : C.mg x = some v) (q : Q v s)
    (hd : (x == ("__debug__" : Str)) = false := by decide) : wpAny M A (eval (.Name x pos) env) Q E s :=
  Name_function_global hE.kind (by show env.scope.names.lookup x = _; rw [hE.ns]; exact hk) (loadGlobal_global (by rw [hE.glob]; exact wf.globals) hv q) hd
theorem name_builtin {A E s env fa I O x pos v} {Q : Value → Shared → Prop} {M : Model} (hE : EnvR C I O env sc fa ρ s.heap) (wf : WF C I O H s) (hk : sc.ns.lookup x = some .globalImplicit) (hm : C.mg x = none) (hv : bootBuiltins x = some v) (hn : x ≠ "__name__") (q : Q v s)
    (hd : (x == ("__debug__" : Str)) = false := by decide) : wpAny M A (eval (.Name x pos) env) Q E s :=
  Name_function_global hE.kind (by show env.scope.names.lookup x = _; rw [hE.ns]; exact hk) (loadGlobal_builtin (by rw [hE.glob]; exact wf.globals) hm (by rw [hE.blt]; exact wf.builtins) ((C.blt x hn).trans hv) q) hd

/-- calls of built-ins -/
noncomputable def CallV (C : Cx) (d : Nat) (fv : Value) (vs : List V) (H : Store) (Q : V → Store → Prop) : Prop :=
  ∀ A E s I O cvs, AOk d A → WF C I O H s → VRels I O vs cvs → wpAny C.M A (call fv cvs) (Post C I O s Q) E s
theorem ev_callB {f : Str} {fpos e es pos Q} (id : String) (hv : bootBuiltins f = some (.builtin id)) (hk : sc.ns.lookup f = some .globalImplicit)
    (h : Es C d sc ρ (e :: es) H fun vs H₁ => CallV C d (.builtin id) vs H₁ Q)
    (hf : f ∈ (["ord", "chr", "len", "min", "max", "sum", "set", "list", "range", "enumerate", "zip", "iter"] : List Str) := by decide) (hd : (f == ("__debug__" : Str)) = false := by decide) (hn : f ≠ "__name__" := by decide)
    (he : ∀ env, starEach (e :: es) env = (false, eval e env) :: starEach es env := by intro _; rfl) (hp : ∀ env, (backTo pos (starEach es env)).any (·.1) = false := by intro _; rfl) :
    Ev C d sc ρ (.Call (.Name f fpos) (e :: es) [] pos) H Q := fun A E s env fa I O hA hE wf => by
  rw [arm_eval_Call_Name']
  refine wpAny_bind (name_builtin hE wf hk (C.free f hf) hv hn ?_ hd)
  refine PyProof.Rows.callWith_builtin1 (wpAny_mono (h A E s env fa I O pos hA hE wf) (fun cvs s₁ ⟨I₁, O₁, H₁, vs, st₁, wf₁, rv, q⟩ => ?_) fun _ _ e => e) (he env) (hp env)
  exact wpAny_mono (q A E s₁ I₁ O₁ cvs hA wf₁ rv) (fun _ _ x => x.from st₁) fun _ _ e => e
theorem ev_callT {f : Str} {fpos e es pos Q} (T : String) (hv : bootBuiltins f = some (.type T)) (hk : sc.ns.lookup f = some .globalImplicit)
    (h : Es C d sc ρ (e :: es) H fun vs H₁ => CallV C d (.type T) vs H₁ Q)
    (hf : f ∈ (["ord", "chr", "len", "min", "max", "sum", "set", "list", "range", "enumerate", "zip", "iter"] : List Str) := by decide) (hd : (f == ("__debug__" : Str)) = false := by decide) (hn : f ≠ "__name__" := by decide)
    (he : ∀ env, starEach (e :: es) env = (false, eval e env) :: starEach es env := by intro _; rfl) (hp : ∀ env, (backTo pos (starEach es env)).any (·.1) = false := by intro _; rfl) :
    Ev C d sc ρ (.Call (.Name f fpos) (e :: es) [] pos) H Q := fun A E s env fa I O hA hE wf => by
  rw [arm_eval_Call_Name']
  refine wpAny_bind (name_builtin hE wf hk (C.free f hf) hv hn ?_ hd)
  refine PyProof.Rows.callWith_type1 (wpAny_mono (h A E s env fa I O pos hA hE wf) (fun cvs s₁ ⟨I₁, O₁, H₁, vs, st₁, wf₁, rv, q⟩ => ?_) fun _ _ e => e) (he env) (hp env)
  exact wpAny_mono (q A E s₁ I₁ O₁ cvs hA wf₁ rv) (fun _ _ x => x.from st₁) fun _ _ e => e
theorem VRels.one {I O x cvs} (h : VRels I O [x] cvs) : ∃ c, cvs = [c] ∧ VRel I O x c := by cases h with | cons a r => cases r; exact ⟨_, rfl, a⟩
theorem VRels.two {I O x y cvs} (h : VRels I O [x, y] cvs) : ∃ c e, cvs = [c, e] ∧ VRel I O x c ∧ VRel I O y e := by
  cases h with | cons a r => cases r with | cons b r => cases r; exact ⟨_, _, rfl, a, b⟩

/-- pairs: what goes through is a tuple, taken apart by the target -/
structure Wk2 (C : Cx) (A : Around) (a : Addr) (vs : List (V × V)) (I₀ : Part) (O₀ : Own) (wr : List Addr) (St : Nat → Heap → Prop) (Mid : Nat → Addr → Heap → Prop) : Prop where
  item : ∀ i (s : Shared) (E : Value → Shared → Prop) (Q : Option Value → Shared → Prop) I O H, i < vs.length → Le I₀ I → OLe O₀ O → WF C I O H s → St i s.heap →
    (∀ x y v u T h' tk, vs[i]? = some (x, y) → VRel I O x v → VRel I O y u → h'.IsTuple T #[v, u] → Mid i T h' → (∀ b o, b ∉ wr → s.heap.get? b = some o → h'.get? b = some o) → Q (some (.ref T)) { s with heap := h', toks := tk }) → wpAny C.M A (pyNext (.ref a)) Q E s
  go : ∀ (elts : List Expr) (k : Nat) (pos : Pos) i T (s : Shared) (E : Value → Shared → Prop) (Q : Unit → Shared → Prop), Mid i T s.heap →
    (∀ h', St (i + 1) h' → (∀ b o, b ∉ wr → s.heap.get? b = some o → h'.get? b = some o) → Q () { s with heap := h' }) → wpAny C.M A (letOwnedTupleGo (.Tuple elts k pos) (.ref a) (.ref T)) Q E s
  apart : ∀ i T h, Mid i T h → T ∉ wr
  done : ∀ (s : Shared) (E : Value → Shared → Prop) (Q : Option Value → Shared → Prop) I O H, Le I₀ I → OLe O₀ O → WF C I O H s → St vs.length s.heap →
    (∀ h' tk, (∀ b o, b ∉ wr → s.heap.get? b = some o → h'.get? b = some o) → Q none { s with heap := h', toks := tk }) → wpAny C.M A (pyNext (.ref a)) Q E s
  self : ∀ i (s : Shared) (E : Value → Shared → Prop) (Q : Value → Shared → Prop), St i s.heap → Q (.ref a) s → wpAny C.M A (pyIter (.ref a)) Q E s
  frame : ∀ i h h', St i h → (∀ b ∈ wr, ∀ o, h.get? b = some o → h'.get? b = some o) → St i h'
  live : ∀ i h, St i h → ∀ b ∈ wr, (h.get? b).isSome

inductive Src2P (C : Cx) (I : Part) (O : Own) (s : Shared) (Q : List (V × V) → Store → Prop) (it : Value) (s₂ : Shared) : Prop
  | mk (a : Addr) (I' : Part) (O' : Own) (H' : Store) (vs : List (V × V)) (wr : List Addr) (St : Nat → Heap → Prop) (Mid : Nat → Addr → Heap → Prop) (e : it = .ref a) (st : Step [] I O s I' O' s₂) (wf : WF C I' O' H' s₂) (hw : ∀ b ∈ wr, s.heap.get? b = none ∧ I' b = none ∧ ¬ Owns O' b) (h0 : St 0 s₂.heap)
    (W : ∀ A', A'.handled = none → Wk2 C A' a vs I' O' wr St Mid) (q : Q vs H')
noncomputable def Src2 (C : Cx) (d : Nat) (sc : Sc) (ρ : Vars) (e : Expr) (H : Store) (Q : List (V × V) → Store → Prop) : Prop :=
  ∀ A E s env fa I O, AOk d A → EnvR C I O env sc fa ρ s.heap → WF C I O H s → wpAny C.M A (eval e env) (fun x s₁ => wpAny C.M A (pyIter x) (Src2P C I O s Q) E s₁) E s

noncomputable def zipV : Nat → List V → List (V × V)
  | _, [] => []
  | i, x :: xs => (.int i, x) :: zipV (i + 1) xs
theorem zipV_get : ∀ (xs : List V) (n i : Nat), (zipV n xs)[i]? = xs[i]?.map fun x => (.int ((n + i : Nat) : Int), x)
  | [], n, i => by simp [zipV]
  | x :: xs, n, 0 => by simp [zipV]
  | x :: xs, n, i + 1 => by
    have := zipV_get xs (n + 1) i
    simp only [zipV, List.getElem?_cons_succ]
    rw [this, show n + 1 + i = n + (i + 1) by omega]
theorem zipV_length : ∀ (xs : List V) (n : Nat), (zipV n xs).length = xs.length
  | [], _ => rfl
  | x :: xs, n => congrArg (· + 1) (zipV_length xs (n + 1))
/-- enumerate -/
theorem src2_enumL {fpos e pos Q} (hk : sc.ns.lookup ("enumerate" : Str) = some .globalImplicit) (h : Ev C d sc ρ e H fun v H₁ => ∃ xs, v = .list xs ∧ Q (zipV 0 xs) H₁)
    (he : ∀ env, starEach [e] env = [(false, eval e env)] := by intro _; rfl) : Src2 C d sc ρ (.Call (.Name "enumerate" fpos) [e] [] pos) H Q := fun A E s env fa I O hA hE wf => by
  rw [arm_eval_Call_Name']
  refine wpAny_bind (name_builtin hE wf hk (C.free _ (by decide)) (v := .type "enumerate") (by decide +kernel) (by decide) ?_)
  show wpAny C.M A (callWith pos (.type "enumerate") [] (backTo pos (starEach [e] env)) []) _ E s
  rw [he env]
  refine PySem.callWith_type1 (wpAny_mono (h A E s env fa I O hA hE wf) (fun cv s₁ ⟨I₁, O₁, H₁, v, st₁, wf₁, rv, qq⟩ => ?_) fun _ _ e => e)
  obtain ⟨xs, e, q⟩ := qq
  rw [e] at rv
  obtain ⟨l, vs, n, rfl, hI, rs⟩ := rv.list_inv
  refine call_enumerate_list (wf₁.list hI) fun h' hen hit hsz hkp => ?_
  refine wpAny_pyIter_enum hen ?_
  obtain ⟨st₂, wf₂⟩ := junk (fa := []) (t := s₁.toks) wf₁ hkp
  have n0 := get_size_none s₁.heap
  have n1 : s₁.heap.get? (s₁.heap.objs.size + 1) = none := by
    cases q : s₁.heap.get? (s₁.heap.objs.size + 1) with
    | none => rfl
    | some o => exact absurd (Heap.lt_size q) (Nat.not_lt.mpr (Nat.le_succ _))
  have hl : ∀ {I' O' H' s'}, WF C I' O' H' s' → Le I₁ I' → s'.heap.IsList l vs.toArray := fun wf' le => wf'.list (le _ _ hI)
  have hll : l < s₁.heap.objs.size := Heap.lt_size (wf₁.has _ _ hI)
  have e1 : s₁.heap.objs.size + 1 ≠ s₁.heap.objs.size := Nat.succ_ne_self _
  refine ⟨_, I₁, O₁, H₁, zipV 0 xs, [s₁.heap.objs.size + 1, s₁.heap.objs.size], fun i h => (∃ old, IsEnum h (s₁.heap.objs.size + 1) s₁.heap.objs.size i old) ∧ h.IsListIter s₁.heap.objs.size l i,
    fun i T h => (∃ x, IsEnumOut h (s₁.heap.objs.size + 1) s₁.heap.objs.size ((i : Int) + 1) x T) ∧ h.IsListIter s₁.heap.objs.size l (i + 1) ∧ T ≠ s₁.heap.objs.size + 1 ∧ T ≠ s₁.heap.objs.size, rfl, st₁.trans st₂, wf₂, fun b hb => ?_, ⟨⟨_, hen⟩, hit⟩, fun A' hA' => ?_, q⟩
  · have : s₁.heap.get? b = none := by rcases List.mem_cons.mp hb with rfl | hb; exact n1; cases List.mem_singleton.mp hb; exact n0
    exact ⟨none_of_alive (st₁.alive b) this, In.none wf₁.has this, Own.notMine wf₁ this⟩
  · have W := WalksT.enumerate (prog := C.p) (w := C.w) (A := A') hA' (s₁.heap.objs.size + 1) s₁.heap.objs.size l e1 (Nat.ne_of_lt (Nat.lt_succ_of_lt hll)) (Nat.ne_of_lt hll) vs.toArray
    refine ⟨fun i s' E' Q' I' O' H' hi le oe wf' st hQ => ?_, fun elts k pos i T s' E' Q' hm hQ => ?_, fun i T h hm hT => ?_, fun s' E' Q' I' O' H' le oe wf' st hQ => ?_, fun i s' E' Q' st hQ => let ⟨⟨_, a⟩, _⟩ := st; wpAny_pyIter_enum a hQ, fun i h h'' st hk => ?_, fun i h st b hb => ?_⟩
    · rw [zipV_length] at hi
      refine W.item i s' Q' E' (by simpa [← rs.length] using hi) ⟨st.1, st.2, hl wf' le⟩ fun T vals h' tk ⟨t, v, hv, e⟩ _ hT hm hk => ?_
      subst e
      obtain ⟨x, h1, h2⟩ := rs.get' i v (by simpa using hv)
      exact hQ (.int i) x _ v T h' tk (by rw [zipV_get, h1]; simp) (.int _ _) (h2.mono le oe) hT ⟨hm.1, hm.2.1, hm.2.2.2⟩ hk
    · obtain ⟨⟨x, ho⟩, hit', hTe, hTi⟩ := hm
      exact wpAny_letOwnedTupleGo_enum ho fun h' he' hs' => hQ h' ⟨⟨x, by simpa using he'⟩, hit'.at fun o y => (hs'.2 _ (Ne.symm e1)).trans y⟩ fun b o hb y => (hs'.2 b fun e' => hb (by simp [e'])).trans y
    · rcases List.mem_cons.mp hT with rfl | hT
      · exact hm.2.2.1 rfl
      · exact hm.2.2.2 (List.mem_singleton.mp hT)
    · rw [zipV_length, rs.length] at st
      exact W.done s' Q' E' ⟨by simpa using st.1, by simpa using st.2, hl wf' le⟩ hQ
    · obtain ⟨⟨old, a⟩, b⟩ := st
      exact ⟨⟨old, hk _ (.head _) _ a⟩, b.at fun o e => hk _ (.tail _ (.head _)) o e⟩
    · obtain ⟨⟨old, a⟩, ⟨o, b', _⟩⟩ := st
      rcases List.mem_cons.mp hb with rfl | hb
      · have := a; unfold IsEnum at this; rw [this]; rfl
      · cases List.mem_singleton.mp hb; rw [b']; rfl
theorem src2_enumS {fpos e pos Q} (hk : sc.ns.lookup ("enumerate" : Str) = some .globalImplicit) (h : Ev C d sc ρ e H fun v H₁ => ∃ x, v = .str x ∧ Q (zipV 0 (signs x)) H₁)
    (he : ∀ env, starEach [e] env = [(false, eval e env)] := by intro _; rfl) : Src2 C d sc ρ (.Call (.Name "enumerate" fpos) [e] [] pos) H Q := fun A E s env fa I O hA hE wf => by
  rw [arm_eval_Call_Name']
  refine wpAny_bind (name_builtin hE wf hk (C.free _ (by decide)) (v := .type "enumerate") (by decide +kernel) (by decide) ?_)
  show wpAny C.M A (callWith pos (.type "enumerate") [] (backTo pos (starEach [e] env)) []) _ E s
  rw [he env]
  refine PySem.callWith_type1 (wpAny_mono (h A E s env fa I O hA hE wf) (fun cv s₁ ⟨I₁, O₁, H₁, v, st₁, wf₁, rv, qq⟩ => ?_) fun _ _ e => e)
  obtain ⟨x, e, q⟩ := qq
  rw [e] at rv
  obtain ⟨tx, rfl⟩ := rv.str_inv
  refine call_enumerate_str fun h' hen hit hsz hkp => ?_
  refine wpAny_pyIter_enum hen ?_
  obtain ⟨st₂, wf₂⟩ := junk (fa := []) (t := s₁.toks) wf₁ hkp
  have n0 := get_size_none s₁.heap
  have n1 : s₁.heap.get? (s₁.heap.objs.size + 1) = none := by
    cases q : s₁.heap.get? (s₁.heap.objs.size + 1) with
    | none => rfl
    | some o => exact absurd (Heap.lt_size q) (Nat.not_lt.mpr (Nat.le_succ _))
  have e1 : s₁.heap.objs.size + 1 ≠ s₁.heap.objs.size := Nat.succ_ne_self _
  have D : ∀ A', A'.handled = none → Draws C.p C.w A' s₁.heap.objs.size [s₁.heap.objs.size] x.cps.size (fun i v => ∃ c u, x.cps[i]? = some c ∧ v = .str ⟨#[c]⟩ u) (fun i h => h.IsStrIter s₁.heap.objs.size (strIterType x) x tx i) := fun A' hA' => by
    unfold strIterType
    split
    · exact Draws.strAscii hA' _ x tx
    · exact Draws.strWide hA' _ x tx
  refine ⟨_, I₁, O₁, H₁, zipV 0 (signs x), [s₁.heap.objs.size + 1, s₁.heap.objs.size], fun i h => (∃ old, IsEnum h (s₁.heap.objs.size + 1) s₁.heap.objs.size i old) ∧ h.IsStrIter s₁.heap.objs.size (strIterType x) x tx i,
    fun i T h => (∃ x, IsEnumOut h (s₁.heap.objs.size + 1) s₁.heap.objs.size ((i : Int) + 1) x T) ∧ h.IsStrIter s₁.heap.objs.size (strIterType x) x tx (i + 1) ∧ T ≠ s₁.heap.objs.size + 1 ∧ T ≠ s₁.heap.objs.size, rfl, st₁.trans st₂, wf₂, fun b hb => ?_, ⟨⟨_, hen⟩, hit⟩, fun A' hA' => ?_, q⟩
  · have : s₁.heap.get? b = none := by rcases List.mem_cons.mp hb with rfl | hb; exact n1; cases List.mem_singleton.mp hb; exact n0
    exact ⟨none_of_alive (st₁.alive b) this, In.none wf₁.has this, Own.notMine wf₁ this⟩
  · have W := WalksT.enumerateD (D A'.in1 hA') (s₁.heap.objs.size + 1) e1 (by simp) (by simp)
    have hz : (zipV 0 (signs x)).length = x.cps.size := by rw [zipV_length]; simp [signs]
    refine ⟨fun i s' E' Q' I' O' H' hi le oe wf' st hQ => ?_, fun elts k pos i T s' E' Q' hm hQ => W.go elts k pos i T s' Q' E' hm hQ, fun i T h hm hT => W.apart i T h hm hT, fun s' E' Q' I' O' H' le oe wf' st hQ => ?_, fun i s' E' Q' st hQ => let ⟨⟨_, a⟩, _⟩ := st; wpAny_pyIter_enum a hQ, fun i h h'' st hk => ?_, fun i h st b hb => ?_⟩
    · rw [hz] at hi
      refine W.item i s' Q' E' hi st fun T vals h' tk ⟨t, v, ⟨c, u, hc, ev⟩, e⟩ _ hT hm hk => ?_
      subst e ev
      exact hQ (.int i) (.str ⟨#[c]⟩) _ _ T h' tk (by rw [zipV_get]; simp [signs, hc]) (.int _ _) (.str _ _) hT hm hk
    · rw [hz] at st
      exact W.done s' Q' E' st hQ
    · obtain ⟨⟨old, a⟩, ⟨o, b, r⟩⟩ := st
      exact ⟨⟨old, hk _ (.head _) _ a⟩, ⟨o, hk _ (.tail _ (.head _)) o b, r⟩⟩
    · obtain ⟨⟨old, a⟩, ⟨o, b', _⟩⟩ := st
      rcases List.mem_cons.mp hb with rfl | hb
      · have := a; unfold IsEnum at this; rw [this]; rfl
      · cases List.mem_singleton.mp hb; rw [b']; rfl
end Mine
end PartJ6

section PartJ7
open PySem PySem.W PySem.Calls PyProof.Rows
set_option maxRecDepth 100000
set_option linter.unusedVariables false
namespace Mine
variable {C : Cx} {d : Nat} {sc : Sc} {ρ : Vars} {H : Store}

inductive NamesOf : List Expr → List Str → Prop
  | nil : NamesOf [] []
  | cons {x p es xs} : NamesOf es xs → NamesOf (.Name x p :: es) (x :: xs)
noncomputable def putAll : List Str → List V → Vars → Vars
  | x :: xs, v :: vs, ρ => putAll xs vs (put x v ρ)
  | _, _, ρ => ρ
theorem NamesOf.length : ∀ {es xs}, NamesOf es xs → es.length = xs.length
  | _, _, .nil => rfl
  | _, _, .cons h => congrArg (· + 1) h.length
theorem NamesOf.each {env : Env} : ∀ {es xs}, NamesOf es xs → (assignEach es env).length = es.length ∧ (assignEach es env).findIdx? (·.1) = none
  | _, _, .nil => ⟨rfl, rfl⟩
  | _, _, .cons (x := x) (p := p) (es := es) h => by
    obtain ⟨a, b⟩ := h.each (env := env)
    have e : assignEach (.Name x p :: es) env = (false, assign (.Name x p) env) :: assignEach es env := rfl
    rw [e]
    exact ⟨congrArg (· + 1) a, by simp [List.findIdx?_cons, b]⟩
theorem assign_names {fa} {env : Env} {A : Around} {E : Value → Shared → Prop} {M : Model} {I O} : ∀ {es xs}, NamesOf es xs → (∀ x ∈ xs, Stores sc x) → ∀ (vs : List V) (cvs : List Value) (ρ : Vars) (s : Shared) (Q : Unit → Shared → Prop), VRels I O vs cvs → xs.length = vs.length →
    EnvR C I O env sc fa ρ s.heap → WF C I O H s → (∀ s', Step fa I O s I O s' → WF C I O H s' → EnvR C I O env sc fa (putAll xs vs ρ) s'.heap → Q () s') →
    wpAny M A (assignInOrder ((assignEach es env).map (·.2)) cvs) Q E s
  | _, _, .nil, _, vs, cvs, ρ, s, Q, rv, hl, hE, wf, q => by
    cases vs with
    | nil => cases rv; exact wpAny_assignInOrder_none (q s .refl wf hE)
    | cons _ _ => cases hl
  | _, _, .cons (x := x) (p := p) (es := es) h, hs, vs, cvs, ρ, s, Q, rv, hl, hE, wf, q => by
    cases vs with
    | nil => cases hl
    | cons v vs =>
      cases rv with
      | cons a r =>
        have e : assignEach (.Name x p :: es) env = (false, assign (.Name x p) env) :: assignEach es env := rfl
        rw [e]
        refine wpAny_assignInOrder_more (wpAny_assign_Name (store_ (hs x (.head _)) hE wf a fun s₁ st₁ wf₁ hE₁ => ?_))
        exact assign_names h (fun y hy => hs y (.tail _ hy)) vs _ _ s₁ Q r (Nat.succ.inj hl) hE₁ wf₁ fun s₂ st₂ wf₂ hE₂ => q s₂ (st₁.trans st₂) wf₂ hE₂

theorem extbut_keeps {h h' : Heap} (x : Heap.ExtBut h.objs.size h h') : ∀ b o, h.get? b = some o → h'.get? b = some o := fun b o e => x b o (Nat.ne_of_lt (Heap.lt_size e)) e
theorem envR_keeps {I O env fa} {h h' : Heap} (hE : EnvR C I O env sc fa ρ h) (hk : ∀ b o, h.get? b = some o → h'.get? b = some o) : EnvR C I O env sc fa ρ h' := by
  refine ⟨hE.kind, hE.ns, hE.glob, hE.blt, hE.loc, ?_, fun y u hy hk' => ?_, hE.ownc, fun y c hc => ?_, hE.apart, fun a ha => ?_⟩
  · obtain ⟨m, hn, hm⟩ := hE.vars
    exact ⟨m, hn.keeps hk, hm⟩
  · obtain ⟨c, w, h1, h2, h3⟩ := hE.cell y u hy hk'
    exact ⟨c, w, h1, IsCell.at h2 fun o e => hk c o e, h3⟩
  · obtain ⟨⟨w, h1⟩, h2⟩ := hE.cells y c hc
    exact ⟨⟨w, IsCell.at h1 fun o e => hk c o e⟩, h2⟩
  · obtain ⟨g1, g2, g3⟩ := hE.off a ha
    obtain ⟨o, q⟩ := Option.isSome_iff_exists.mp g3
    exact ⟨g1, g2, by rw [hk a o q]; rfl⟩
/-- the tuple T taken apart into names -/
theorem assign_tuple {fa} {env : Env} {A : Around} {E : Value → Shared → Prop} {I O s es xs k pos T} {cvs : List Value} {vs : List V} {Q : Unit → Shared → Prop} (hA : A.handled = none) (hn : NamesOf es xs) (hx : ∀ x ∈ xs, Stores sc x) (hT : s.heap.IsTuple T cvs.toArray)
    (rv : VRels I O vs cvs) (hl : xs.length = vs.length) (hE : EnvR C I O env sc fa ρ s.heap) (wf : WF C I O H s) (q : ∀ s', Step fa I O s I O s' → WF C I O H s' → EnvR C I O env sc fa (putAll xs vs ρ) s'.heap → Q () s') :
    wpAny C.M A (assign (.Tuple es k pos) env (.ref T)) Q E s := by
  refine wpAny_assign_Tuple hA hT (by rw [hn.each.1, hn.length, hl, rv.length, List.size_toArray]) hn.each.2 fun h' he => ?_
  have hk := extbut_keeps he
  obtain ⟨st, wf'⟩ := junk (fa := fa) (t := s.toks) wf hk
  exact assign_names hn hx vs cvs ρ _ Q rv hl (envR_keeps hE hk) wf' fun s' st' wf'' hE' => q s' (st.trans st') wf'' hE'
theorem assign_list {fa} {env : Env} {A : Around} {E : Value → Shared → Prop} {I O s es xs k pos T} {cvs : List Value} {vs : List V} {Q : Unit → Shared → Prop} (hA : A.handled = none) (hn : NamesOf es xs) (hx : ∀ x ∈ xs, Stores sc x) (hT : s.heap.IsList T cvs.toArray)
    (rv : VRels I O vs cvs) (hl : xs.length = vs.length) (hE : EnvR C I O env sc fa ρ s.heap) (wf : WF C I O H s) (q : ∀ s', Step fa I O s I O s' → WF C I O H s' → EnvR C I O env sc fa (putAll xs vs ρ) s'.heap → Q () s') :
    wpAny C.M A (assign (.Tuple es k pos) env (.ref T)) Q E s := by
  rw [PyProof.Rows.assign_Tuple]
  refine wpAny_bind (wpAny_standAt ?_)
  unfold unpack
  rw [show (assignEach es env).length = cvs.toArray.size from by rw [hn.each.1, hn.length, hl, rv.length, List.size_toArray], hn.each.2]
  refine wpAny_bind (wpAny_holding (kun_itemsOf hA hT fun h' he => ?_))
  have hk := extbut_keeps he
  obtain ⟨st, wf'⟩ := junk (fa := fa) (t := s.toks) wf hk
  exact assign_names hn hx vs cvs ρ _ Q rv hl (envR_keeps hE hk) wf' fun s' st' wf'' hE' => q s' (st.trans st') wf'' hE'
theorem ex_assignT {es k tpos e pos Q xs} (hn : NamesOf es xs) (hx : ∀ x ∈ xs, Stores sc x) (h : Ev C d sc ρ e H fun v H₁ => ∃ vs, (v = .tup vs ∨ v = .list vs) ∧ xs.length = vs.length ∧ Q .next (putAll xs vs ρ) H₁)
    (hs : ∀ env, swapsWithSole [.Tuple es k tpos] e pos.line env = pure false := by intro _; rfl)
    (hw : ∀ env : Env, env.scope.kind = .function → env.scope.names = sc.ns → swappedStores [.Tuple es k tpos] e env = pure none := by intro _ _ _; rfl) :
    Ex C d sc ρ (.Assign [.Tuple es k tpos] e pos) H Q := fun A E s env fa I O hA hE wf => by
  refine Assign_Tuple (wpAny_mono (h A E s env fa I O hA hE wf) (fun cv s₁ ⟨I₁, O₁, H₁, v, st₁, wf₁, rv, qq⟩ => ?_) fun _ _ e => e) (hs env) (hw env hE.kind hE.ns)
  obtain ⟨vs, hv, hl, q₁⟩ := qq
  rcases hv with rfl | rfl
  · obtain ⟨a, cvs, n, rfl, hI, rs⟩ := rv.tup_inv
    exact assign_tuple hA.handled hn hx ⟨_, wf₁.has _ _ hI, rfl, n, rfl⟩ rs hl (hE.step st₁) wf₁ fun s₂ st₂ wf₂ hE₂ => ⟨I₁, O₁, H₁, _, .next, st₁.nil.trans st₂, wf₂, hE₂, .next, q₁⟩
  · obtain ⟨a, cvs, n, rfl, hI, rs⟩ := rv.list_inv
    exact assign_list hA.handled hn hx (wf₁.list hI) rs hl (hE.step st₁) wf₁ fun s₂ st₂ wf₂ hE₂ => ⟨I₁, O₁, H₁, _, .next, st₁.nil.trans st₂, wf₂, hE₂, .next, q₁⟩

noncomputable def Loop2 (C : Cx) (d : Nat) (sc : Sc) (x y : Str) (body : List Stmt) (Q : Fl → Vars → Store → Prop) : List (V × V) → Vars → Store → Prop
  | [], ρ, H => Q .next ρ H
  | (u, v) :: vs, ρ, H => Xs C d sc (put y v (put x u ρ)) body H fun f ρ' H' => match f with
    | .next | .cont => Loop2 C d sc x y body Q vs ρ' H'
    | .brk => Q .next ρ' H'
    | .ret r => Q (.ret r) ρ' H'
theorem ex_for2 {x y px py k tp iter body pos Q} (hx : Stores sc x) (hy : Stores sc y) (h : Src2 C d sc ρ iter H fun vs H₁ => Loop2 C d sc x y body Q vs ρ H₁) (hs : ∀ env v, foldedSetIterable iter env v = pure v := by intro _ _; rfl) :
    Ex C d sc ρ (.For (.Tuple [.Name x px, .Name y py] k tp) iter body [] pos) H Q := fun A E s env fa I O hA hE wf => by
  refine wpAny_For (wpAny_mono (h A E s env fa I O hA hE wf) (fun cv s₁ h₁ => wpAny_mono h₁ (fun it s₂ ⟨a, I₂, O₂, H₂, vs, wr, St, Mid, e, st₂, wf₂, hw, h0, W, q⟩ => ?_) fun _ _ e => e) fun _ _ e => e) (hs env)
  subst e
  have W := W A hA.handled
  have hwf : ∀ b ∈ wr, s.heap.get? b = none := fun b hb => (hw b hb).1
  have dis : ∀ b ∈ wr, b ≠ env.locals ∧ (∀ x, (x, b) ∉ env.cells) ∧ b ∉ fa := fun b hb =>
    ⟨fun e => (by have := (hE.off _ (.inl e)).2.2; rw [hwf b hb] at this; cases this), fun y hy => (by have := (hE.off _ (.inr (.inl ⟨y, hy⟩))).2.2; rw [hwf b hb] at this; cases this),
     fun hy => (by have := (hE.off _ (.inr (.inr hy))).2.2; rw [hwf b hb] at this; cases this)⟩
  have hE₂ := hE.step st₂
  obtain ⟨Inv, hInv⟩ : ∃ Inv : Nat → Shared → Prop, ∀ n s', Inv n s' ↔ LInv C fa I O s env sc St wr I₂ O₂ vs.length (fun i ρ' H' => Loop2 C d sc x y body Q (vs.drop i) ρ' H') n s' := ⟨_, fun _ _ => Iff.rfl⟩
  refine codeAny_forLoop_any Inv ?_ vs.length ((hInv _ _).2 ⟨I₂, O₂, H₂, ρ, 0, st₂.nil, wf₂, hE₂, h0, fun b hb => (hw b hb).2, fun _ _ e => e, fun _ _ e => e, Nat.zero_le _, rfl, q⟩)
  intro n s' hinv
  obtain ⟨I', O', H', ρ', i, st', wf', hE', hst, hp, le, oe, hi, hn, hl⟩ := (hInv _ _).1 hinv
  have hl : Loop2 C d sc x y body Q (vs.drop i) ρ' H' := hl
  have hp' : ∀ b ∈ wr, I' b = none ∧ ¬ Owns O' b ∧ (b ≠ env.locals ∧ (∀ x, (x, b) ∉ env.cells) ∧ b ∉ fa) := fun b hb => ⟨(hp b hb).1, (hp b hb).2, dis b hb⟩
  by_cases hlt : i < vs.length
  · have hd : vs.drop i = vs[i] :: vs.drop (i + 1) := List.drop_eq_getElem_cons hlt
    rw [hd] at hl
    refine W.item i s' _ _ I' O' H' hlt le oe wf' hst fun u v cu cv T h' tk hy' ru rv hT hm hk => ?_
    obtain ⟨st₃, wf₃, hE₃⟩ := chg (tk := tk) st' wf' hE' hwf hp' hk
    have ey : (u, v) = vs[i] := by rw [List.getElem?_eq_getElem hlt] at hy'; exact (Option.some.inj hy').symm
    rw [← ey] at hl
    have hXs : Xs C d sc (put y v (put x u ρ')) body H' _ := hl
    refine W.go _ _ _ i T _ _ _ hm fun h'' hst₁ hk₁ => ?_
    obtain ⟨st₃', wf₃', hE₃'⟩ := chg (tk := tk) st₃ wf₃ hE₃ hwf hp' hk₁
    have hT' : h''.IsTuple T #[cu, cv] := let ⟨o, a, b⟩ := hT; ⟨o, hk₁ T o (W.apart _ _ _ hm) a, b⟩
    refine assign_tuple (cvs := [cu, cv]) (vs := [u, v]) hA.handled (.cons (.cons .nil)) (fun z hz => ?_) hT' (.cons ru (.cons rv .nil)) rfl hE₃' wf₃' fun s₄ st₄ wf₄ hE₄ => ?_
    · rcases List.mem_cons.mp hz with rfl | hz
      · exact hx
      · cases List.mem_singleton.mp hz; exact hy
    have hst₄ : St (i + 1) s₄.heap := W.frame _ _ _ hst₁ fun b hb o e => st₄.keep b o e (hp b hb).2 (dis b hb).2.2
    refine wpAny_mono (hXs A _ s₄ env fa I' O' hA hE₄ wf₄) (fun fl s₅ ⟨I₅, O₅, H₅, ρ₅, f, st₅, wf₅, hE₅, rf, q₅⟩ => ?_) fun _ _ e => e
    have st₆ := (st₃'.trans st₄).trans st₅
    have priv : ∀ b ∈ wr, I₅ b = none ∧ ¬ Owns O₅ b := fun b hb => priv_step st₅ (hp b hb).1 (hp b hb).2 (W.live _ _ hst₄ b hb)
    have hst₅ : St (i + 1) s₅.heap := W.frame _ _ _ hst₄ fun b hb o e => st₅.keep b o e (hp b hb).2 (dis b hb).2.2
    have go : Loop2 C d sc x y body Q (vs.drop (i + 1)) ρ₅ H₅ → ∃ m, m < n ∧ Inv m s₅ := fun hl =>
      ⟨vs.length - (i + 1), by rw [hn]; exact sub_lt hlt, (hInv _ _).2 ⟨I₅, O₅, H₅, ρ₅, i + 1, st₆, wf₅, hE₅, hst₅, priv, fun b o e => st₅.sub b o (le b o e), fun k f e => st₅.oext k f (oe k f e), hlt, rfl, hl⟩⟩
    cases rf with
    | next => exact go q₅
    | cont => exact go q₅
    | brk => exact ⟨I₅, O₅, H₅, ρ₅, .next, st₆, wf₅, hE₅, .next, q₅⟩
    | ret r => exact ⟨I₅, O₅, H₅, ρ₅, .ret _, st₆, wf₅, hE₅, .ret r, q₅⟩
  · have hz : i = vs.length := by omega
    rw [hz, List.drop_length] at hl
    rw [hz] at hst
    refine W.done s' _ _ I' O' H' le oe wf' hst fun h' tk hk => ?_
    obtain ⟨st₃, wf₃, hE₃⟩ := chg (tk := tk) st' wf' hE' hwf hp' hk
    exact wpAny_execs_nil ⟨I', O', H', ρ', .next, st₃, wf₃, hE₃, .next, hl⟩

/-- while, by a measure: W n holds of the state -/
theorem ex_while {t body pos Q} (W : Nat → Vars → Store → Prop) (n : Nat) (h0 : W n ρ H)
    (turn : ∀ n ρ H, W n ρ H → Tr C d sc ρ t H fun c H₁ => (c = true → Xs C d sc ρ body H₁ fun f ρ' H' => match f with
      | .next | .cont => ∃ m, m < n ∧ W m ρ' H'
      | .brk => Q .next ρ' H'
      | .ret r => Q (.ret r) ρ' H') ∧ (c = false → Q .next ρ H₁)) : Ex C d sc ρ (.While t body [] pos) H Q := fun A E s env fa I O hA hE wf => by
  obtain ⟨Inv, hInv⟩ : ∃ Inv : Nat → Shared → Prop, ∀ n s', Inv n s' ↔ ∃ I' O' H' ρ', Step fa I O s I' O' s' ∧ WF C I' O' H' s' ∧ EnvR C I' O' env sc fa ρ' s'.heap ∧ W n ρ' H' := ⟨_, fun _ _ => Iff.rfl⟩
  refine wpAny_While (codeAny_whileLoop Inv ?_ n ((hInv _ _).2 ⟨I, O, H, ρ, .refl, wf, hE, h0⟩))
  intro n s' hinv
  obtain ⟨I', O', H', ρ', st', wf', hE', hW⟩ := (hInv _ _).1 hinv
  refine wpAny_mono (turn n ρ' H' hW A _ s' env fa I' O' hA hE' wf') (fun c s₂ ⟨I₂, O₂, H₂, st₂, wf₂, q₂⟩ => ?_) fun _ _ e => e
  have hE₂ := hE'.step st₂
  have st₃ := st'.trans st₂.nil
  cases c with
  | false => exact wpAny_execs_nil ⟨I₂, O₂, H₂, ρ', .next, st₃, wf₂, hE₂, .next, q₂.2 rfl⟩
  | true =>
    refine wpAny_mono (q₂.1 rfl A _ s₂ env fa I₂ O₂ hA hE₂ wf₂) (fun fl s₅ ⟨I₅, O₅, H₅, ρ₅, f, st₅, wf₅, hE₅, rf, q₅⟩ => ?_) fun _ _ e => e
    have st₆ := st₃.trans st₅
    cases rf with
    | next => obtain ⟨m, hm, hW'⟩ := q₅; exact ⟨m, hm, (hInv _ _).2 ⟨I₅, O₅, H₅, ρ₅, st₆, wf₅, hE₅, hW'⟩⟩
    | cont => obtain ⟨m, hm, hW'⟩ := q₅; exact ⟨m, hm, (hInv _ _).2 ⟨I₅, O₅, H₅, ρ₅, st₆, wf₅, hE₅, hW'⟩⟩
    | brk => exact ⟨I₅, O₅, H₅, ρ₅, .next, st₆, wf₅, hE₅, .next, q₅⟩
    | ret r => exact ⟨I₅, O₅, H₅, ρ₅, .ret _, st₆, wf₅, hE₅, .ret r, q₅⟩
end Mine
end PartJ7

section PartJ8
open PySem PySem.W PySem.Calls PyProof.Rows
set_option maxRecDepth 100000
set_option linter.unusedVariables false
namespace Mine
variable {C : Cx} {d : Nat} {sc : Sc} {ρ : Vars} {H : Store}

/-- the cells that a comprehension takes over -/
noncomputable def clOf (cells : List (Str × Addr)) : List (Str × NameKind) → List (Str × Addr) → List (Str × Addr)
  | [], acc => acc
  | (n, k) :: r, acc => if k == .free then clOf cells r ((n, (cells.lookup n).getD 0) :: acc) else clOf cells r acc
theorem closure_eq {env : Env} (f : Str × NameKind → List (Str × Addr) → Sem (ForInStep (List (Str × Addr))))
    (hf : ∀ n k cs, f (n, k) cs = if k == .free then (do let c ← cellOf env n; pure (.yield ((n, c) :: cs))) else pure (.yield cs)) : ∀ (names : List (Str × NameKind)) (acc : List (Str × Addr)),
    (∀ n, (n, NameKind.free) ∈ names → (env.cells.lookup n).isSome) → (forIn names acc f : Sem _) = pure (clOf env.cells names acc)
  | [], acc, _ => by rw [List.forIn_nil]; rfl
  | (n, k) :: r, acc, h => by
    rw [List.forIn_cons, hf]
    unfold clOf
    have ih := fun acc => closure_eq f hf r acc fun m hm => h m (.tail _ hm)
    by_cases hk : (k == .free) = true
    · rw [if_pos hk, if_pos hk]
      have hk' : k = .free := by simpa using hk
      subst hk'
      obtain ⟨c, hc⟩ := Option.isSome_iff_exists.mp (h n (.head _))
      have : (cellOf env n : Sem Addr) = pure c := by unfold cellOf; rw [hc]
      rw [this, hc]
      exact ih _
    · rw [if_neg hk, if_neg hk]
      exact ih _
theorem closureFor_eq {scope : Scope} {env : Env} (h : ∀ n, (n, NameKind.free) ∈ scope.names → (env.cells.lookup n).isSome) : closureFor scope env = pure (clOf env.cells scope.names []) := by
  unfold closureFor
  exact (congrArg (fun m : Sem (List (Str × Addr)) => m >>= fun cs => pure cs) (closure_eq (env := env) _ (fun n k cs => by cases hk : k == NameKind.free <;> simp [hk]) scope.names [] h)).trans rfl
theorem clOf_mem {cells : List (Str × Addr)} : ∀ (names : List (Str × NameKind)) (acc : List (Str × Addr)) (x : Str × Addr), x ∈ clOf cells names acc ↔ x ∈ acc ∨ ((x.1, NameKind.free) ∈ names ∧ x.2 = (cells.lookup x.1).getD 0)
  | [], acc, x => by simp [clOf]
  | (n, k) :: r, acc, x => by
    unfold clOf
    by_cases hk : (k == .free) = true
    · have hk' : k = .free := by simpa using hk
      subst hk'
      rw [if_pos hk, clOf_mem r _ x]
      simp only [List.mem_cons, Prod.mk.injEq, and_true]
      constructor
      · rintro ((rfl | h) | h)
        · exact .inr ⟨.inl rfl, rfl⟩
        · exact .inl h
        · exact .inr ⟨.inr h.1, h.2⟩
      · rintro (h | ⟨h | h, e⟩)
        · exact .inl (.inr h)
        · exact .inl (.inl (by rw [h] at e; obtain ⟨a, b⟩ := x; simp only at h e; subst h e; rfl))
        · exact .inr ⟨h, e⟩
    · rw [if_neg hk, clOf_mem r _ x]
      have hk' : k ≠ .free := by simpa using hk
      simp only [List.mem_cons, Prod.mk.injEq]
      constructor
      · rintro (h | h)
        · exact .inl h
        · exact .inr ⟨.inr h.1, h.2⟩
      · rintro (h | ⟨⟨_, h⟩ | h, e⟩)
        · exact .inl h
        · exact absurd h.symm hk'
        · exact .inr ⟨h, e⟩
theorem clOf_names {cells : List (Str × Addr)} : ∀ (names : List (Str × NameKind)) (acc : List (Str × Addr)), (clOf cells names acc).map (·.1) = ((names.filter (·.2 == .free)).map (·.1)).reverse ++ acc.map (·.1)
  | [], acc => by simp [clOf]
  | (n, k) :: r, acc => by
    unfold clOf
    by_cases hk : (k == .free) = true
    · rw [if_pos hk, clOf_names r _]; simp [List.filter_cons, hk]
    · rw [if_neg hk, clOf_names r _]; simp [List.filter_cons, hk]

/-- the cells that are new -/
theorem cells_new : ∀ (names : List (Str × NameKind)) (h : Heap) (acc : List (Str × Addr)), ∃ new, cellsFrom h.objs.size names acc = new ++ acc ∧ (∀ n c, (n, c) ∈ new → (pushCells h names).IsCell c none ∧ h.objs.size ≤ c ∧ (n, NameKind.cell) ∈ names) ∧
    (new.Pairwise fun x y => x.2 ≠ y.2) ∧ ∀ n, (n, NameKind.cell) ∈ names → ∃ c, (n, c) ∈ new
  | [], h, acc => ⟨[], rfl, (fun _ _ h => nomatch h), List.Pairwise.nil, (fun _ h => nomatch h)⟩
  | (n, k) :: r, h, acc => by
    unfold cellsFrom pushCells
    by_cases hk : (k == .cell) = true
    · have hk' : k = .cell := by simpa using hk
      subst hk'
      rw [if_pos hk, if_pos hk]
      obtain ⟨new, e, h1, h2, h3⟩ := cells_new r (h.push { cls := .type "cell", data := .cell none }) ((n, h.objs.size) :: acc)
      rw [Heap.size_push] at e h1
      refine ⟨new ++ [(n, h.objs.size)], by rw [e]; simp, fun m c hm => ?_, ?_, fun m hm => ?_⟩
      · rcases List.mem_append.mp hm with hm | hm
        · obtain ⟨a, b, c'⟩ := h1 m c hm
          exact ⟨a, Nat.le_of_succ_le b, .tail _ c'⟩
        · cases List.mem_singleton.mp hm
          exact ⟨IsCell.at ⟨_, Heap.get?_push_size h rfl, rfl⟩ fun o q => pushCells_keeps _ _ _ o q, Nat.le_refl _, .head _⟩
      · refine List.pairwise_append.mpr ⟨h2, List.pairwise_singleton _ _, fun x hx y hy => ?_⟩
        cases List.mem_singleton.mp hy
        exact Nat.ne_of_gt (Nat.lt_of_lt_of_le (Nat.lt_succ_self _) (h1 x.1 x.2 hx).2.1)
      · rcases List.mem_cons.mp hm with e | hm
        · cases e; exact ⟨h.objs.size, List.mem_append_right _ (.head _)⟩
        · obtain ⟨c, hc⟩ := h3 m hm; exact ⟨c, List.mem_append_left _ hc⟩
    · rw [if_neg hk, if_neg hk]
      obtain ⟨new, e, h1, h2, h3⟩ := cells_new r h acc
      have hk' : k ≠ .cell := by simpa using hk
      refine ⟨new, e, fun m c hm => let ⟨a, b, c'⟩ := h1 m c hm; ⟨a, b, .tail _ c'⟩, h2, fun m hm => ?_⟩
      rcases List.mem_cons.mp hm with e | hm
      · cases e; exact absurd rfl hk'
      · exact h3 m hm

theorem newCompEnv {scope : Scope} {globals : Addr} {cl : List (Str × Addr)} {qual : Str} {func : Option Addr} {code : Value} {outer : Env} {b : Addr} {M : Model} {A : Around} {E : Value → Shared → Prop} {s : Shared} {Q : Env → Shared → Prop}
    (q : Q { scope, locals := s.heap.objs.size, globals, cells := cellsFrom (s.heap.objs.size + 1) scope.names cl, qual, func, code := outer.code, frame := outer.frame, builtins := outer.builtins }
      { s with heap := pushCells (s.heap.push { cls := .type "dict", data := .dict #[] }) scope.names }) : wpAny M A (newFunctionEnv scope globals cl [] qual func code (some outer) b) Q E s := by
  simp only [newFunctionEnv, Option.isSome_some, if_true]
  refine wpAny_bind (wpAny_alloc ?_)
  refine wpAny_bind (wpAny_layCells _ (fun name kind cells => by cases hkc : kind == NameKind.cell <;> simp [hkc]) _ _ _ _ ?_)
  rw [show ({ s with heap := s.heap.push { cls := .type "dict", data := .dict #[] } } : Shared).heap.objs.size = s.heap.objs.size + 1 from Heap.size_push ..]
  refine wpAny_bind ?_
  rw [List.forIn_nil]
  exact wpAny_pure (wpAny_pure q)

noncomputable def relN (ns : List (Str × NameKind)) (names : List (Str × NameKind)) : List (Str × NameKind) := names.map fun (n, k) => if (k == .free && ns.lookup n == some .cell) then (n, .cell) else (n, k)
noncomputable def ownN (names : List (Str × NameKind)) : List Str := (names.filter (·.2 == .cell)).map (·.1)
noncomputable def compSc (sc : Sc) (names : List (Str × NameKind)) : Sc := ⟨relN sc.ns names, ownN names⟩
noncomputable def freeVars (names : List (Str × NameKind)) (ρ : Vars) : Vars := names.filterMap fun (n, k) => if k == .free then (ρ.lookup n).map (n, ·) else none
theorem relabel_names {scope : Scope} {env : Env} {ns} (hk : env.scope.kind = .function) (hn : env.scope.names = ns) : (relabel scope env).names = relN ns scope.names := by
  show scope.names.map _ = scope.names.map _
  refine List.map_congr_left fun x _ => ?_
  obtain ⟨n, k⟩ := x
  have e : env.kindOf n = ns.lookup n := by show env.scope.names.lookup n = _; rw [hn]
  simp only [hk, e, beq_self_eq_true, Bool.and_true]
theorem freeVars_get {x : Str} {v : V} : ∀ {names : List (Str × NameKind)} {ρ : Vars}, (freeVars names ρ).lookup x = some v → (x, NameKind.free) ∈ names ∧ ρ.lookup x = some v
  | [], _, h => by simp [freeVars] at h
  | (n, k) :: r, ρ, h => by
    have ih := @freeVars_get x v r ρ
    unfold freeVars at h ih
    rw [List.filterMap_cons] at h
    by_cases hk : (k == .free) = true
    · have hk' : k = .free := by simpa using hk
      subst hk'
      simp only [beq_self_eq_true, if_true] at h
      cases hn : ρ.lookup n with
      | none => rw [hn] at h; exact ⟨.tail _ (ih h).1, (ih h).2⟩
      | some u =>
        rw [hn] at h
        simp only [Option.map_some, List.lookup_cons] at h
        by_cases hx : x = n
        · subst hx; simp at h; subst h; exact ⟨.head _, hn⟩
        · rw [show (x == n) = false from by simpa using hx] at h; exact ⟨.tail _ (ih h).1, (ih h).2⟩
    · simp only [hk, Bool.false_eq_true, if_false] at h
      exact ⟨.tail _ (ih h).1, (ih h).2⟩
theorem lookup_nodup {α : Type} : ∀ {l : List (Str × α)} {x : Str} {a : α}, (l.map (·.1)).Nodup → (x, a) ∈ l → l.lookup x = some a
  | (y, b) :: r, x, a, hn, h => by
    rw [List.lookup_cons]
    rw [List.map_cons, List.nodup_cons] at hn
    rcases List.mem_cons.mp h with e | h
    · cases e; simp
    · have : x ≠ y := fun e => hn.1 (e ▸ List.mem_map.mpr ⟨_, h, rfl⟩)
      rw [show (x == y) = false from by simpa using this]
      exact lookup_nodup hn.2 h
theorem relN_lookup {ns names : List (Str × NameKind)} {x : Str} : (relN ns names).lookup x = (names.lookup x).map fun k => if (k == .free && ns.lookup x == some .cell) then .cell else k := by
  unfold relN
  induction names with
  | nil => rfl
  | cons p r ih =>
    obtain ⟨n, k⟩ := p
    rw [List.map_cons]
    by_cases hx : x = n
    · subst hx
      by_cases h : (k == .free && ns.lookup x == some .cell) = true
      · simp only [h, if_true, List.lookup_cons, beq_self_eq_true, Option.map_some]
      · simp only [h, Bool.false_eq_true, if_false, List.lookup_cons, beq_self_eq_true, Option.map_some]
    · have e : (x == n) = false := by simpa using hx
      by_cases h : (k == .free && ns.lookup n == some .cell) = true
      · simp only [h, if_true, List.lookup_cons, e]; exact ih
      · simp only [h, Bool.false_eq_true, if_false, List.lookup_cons, e]; exact ih

structure ScopeOk (sc : Sc) (ρ : Vars) (names : List (Str × NameKind)) : Prop where
  nodup : (names.map (·.1)).Nodup
  free : ∀ n, (n, NameKind.free) ∈ names → (∃ v, ρ.lookup n = some v) ∧ (sc.ns.lookup n = some .cell ∨ sc.ns.lookup n = some .free)

theorem comp_env {I O s env fa scope} (hE : EnvR C I O env sc fa ρ s.heap) (wf : WF C I O H s) (ok : ScopeOk sc ρ scope.names) (hkind : scope.kind = .function) : ∃ fa', (∀ b ∈ fa', s.heap.get? b = none) ∧ s.heap.objs.size ∈ fa' ∧
    EnvR C I O { scope := relabel scope env, locals := s.heap.objs.size, globals := env.globals, cells := cellsFrom (s.heap.objs.size + 1) scope.names (clOf env.cells scope.names []), qual := env.qual, func := none, code := env.code, frame := env.frame, builtins := env.builtins }
      (compSc sc scope.names) fa' (freeVars scope.names ρ) (pushCells (s.heap.push { cls := .type "dict", data := .dict #[] }) scope.names) ∧
    (∀ b o, s.heap.get? b = some o → (pushCells (s.heap.push { cls := .type "dict", data := .dict #[] }) scope.names).get? b = some o) ∧
    (∀ x c, (x, c) ∈ cellsFrom (s.heap.objs.size + 1) scope.names (clOf env.cells scope.names []) → (∃ y, (y, c) ∈ env.cells) ∨ s.heap.get? c = none) := by
  have hn := get_size_none s.heap
  obtain ⟨new, e, h1, h2, h3⟩ := cells_new scope.names (s.heap.push { cls := .type "dict", data := .dict #[] }) (clOf env.cells scope.names [])
  rw [Heap.size_push] at e h1
  generalize hh : pushCells (s.heap.push { cls := .type "dict", data := .dict #[] }) scope.names = h' at h1
  have hk : ∀ b o, s.heap.get? b = some o → h'.get? b = some o := fun b o q => hh ▸ pushCells_keeps _ _ b o (get_push q)
  have hL : h'.Ns s.heap.objs.size fun _ => none := hh ▸ (Heap.Ns.new s.heap (.type "dict")).keeps (pushCells_keeps _ _)
  have fresh : ∀ b, s.heap.objs.size ≤ b → s.heap.get? b = none := fun b hb => by
    cases q : s.heap.get? b with
    | none => rfl
    | some o => exact absurd (Heap.lt_size q) (Nat.not_lt.mpr hb)
  have hcl : ∀ n c, (n, c) ∈ clOf env.cells scope.names [] → env.cells.lookup n = some c ∧ (n, NameKind.free) ∈ scope.names := fun n c hm => by
    rcases (clOf_mem _ _ _).mp hm with h | ⟨h, hc⟩
    · cases h
    · obtain ⟨⟨v, hv⟩, hkd⟩ := ok.free n h
      obtain ⟨c', cv, g1, _⟩ := hE.cell n v hv hkd
      simp only at hc
      rw [g1] at hc
      exact ⟨by rw [g1, hc]; rfl, h⟩
  have clnd : ((clOf env.cells scope.names []).map (·.1)).Nodup := by
    rw [clOf_names]
    simp only [List.map_nil, List.append_nil]
    have := ((List.filter_sublist (p := fun x : Str × NameKind => x.2 == .free) (l := scope.names)).map (fun x : Str × NameKind => x.1)).nodup ok.nodup
    exact List.pairwise_reverse.mpr (List.Pairwise.imp (fun h => h.symm) this)
  have newK : ∀ n c, (n, c) ∈ new → scope.names.lookup n = some .cell := fun n c hm => lookup_nodup ok.nodup (h1 n c hm).2.2
  refine ⟨s.heap.objs.size :: new.map (·.2), fun b hb => ?_, .head _, ?_, hk, fun x c hc => ?_⟩
  · rcases List.mem_cons.mp hb with rfl | hb
    · exact hn
    · obtain ⟨p, hp, rfl⟩ := List.mem_map.mp hb
      exact fresh _ (Nat.le_of_succ_le (h1 p.1 p.2 hp).2.1)
  rotate_left
  · rw [e] at hc
    rcases List.mem_append.mp hc with hc | hc
    · exact .inr (fresh _ (Nat.le_of_succ_le (h1 x c hc).2.1))
    · exact .inl ⟨x, mem_of_lookup (hcl x c hc).1⟩
  rw [e]
  refine ⟨hkind, relabel_names hE.kind hE.ns, hE.glob, hE.blt, .head _, ⟨_, hL, fun x v hx hloc => ?_⟩, fun x v hx _ => ?_, fun x hx hc => ?_, fun x c hc => ?_, ?_, fun a ha => ?_⟩
  · exfalso
    have := freeVars_get hx
    have hl := lookup_nodup ok.nodup this.1
    have hloc' : (relN sc.ns scope.names).lookup x = some .local := hloc
    rw [relN_lookup, hl] at hloc'
    simp only [Option.map_some, Option.some.injEq] at hloc'
    split at hloc' <;> cases hloc'
  · obtain ⟨hf, hv⟩ := freeVars_get hx
    obtain ⟨c, cv, g1, g2, g3⟩ := hE.cell x v hv (ok.free x hf).2
    refine ⟨c, cv, ?_, IsCell.at g2 fun o q => hk c o q, g3⟩
    show (new ++ clOf env.cells scope.names []).lookup x = some c
    have n1 : new.lookup x = none := by
      cases q : new.lookup x with
      | none => rfl
      | some c' => have := newK x c' (mem_of_lookup q); rw [lookup_nodup ok.nodup hf] at this; cases this
    rw [List.lookup_append, n1]
    refine lookup_nodup clnd ((clOf_mem _ _ _).mpr (.inr ⟨hf, ?_⟩))
    simp only
    rw [g1]; rfl
  · have hx' : (x, NameKind.cell) ∈ scope.names := by
      obtain ⟨p, hp, rfl⟩ := List.mem_map.mp hx
      obtain ⟨hp1, hp2⟩ := List.mem_filter.mp hp
      obtain ⟨a, b⟩ := p
      have : b = .cell := by simpa using hp2
      subst this
      exact hp1
    obtain ⟨c, hc'⟩ := h3 x hx'
    cases q : new.lookup x with
    | none =>
      exfalso
      have : ∀ l : List (Str × Addr), l.lookup x = none → ∀ c, (x, c) ∉ l := fun l => by
        induction l with
        | nil => intro _ c h; cases h
        | cons p r ih =>
          obtain ⟨y, b⟩ := p
          intro hl c h
          rw [List.lookup_cons] at hl
          by_cases hy : x = y
          · subst hy; simp at hl
          · rw [show (x == y) = false from by simpa using hy] at hl
            rcases List.mem_cons.mp h with e | h
            · cases e; exact hy rfl
            · exact ih hl c h
      exact this _ q c hc'
    | some c'' =>
      refine ⟨c'', ?_, .tail _ (List.mem_map.mpr ⟨_, mem_of_lookup q, rfl⟩)⟩
      show (new ++ clOf env.cells scope.names []).lookup x = some c''
      rw [List.lookup_append, q]; rfl
  · rcases List.mem_append.mp hc with hc | hc
    · exact ⟨⟨_, (h1 x c hc).1⟩, Nat.ne_of_gt (Nat.lt_of_lt_of_le (Nat.lt_succ_self _) (h1 x c hc).2.1)⟩
    · obtain ⟨g1, _⟩ := hcl x c hc
      obtain ⟨⟨v, g2⟩, _⟩ := hE.cells x c (mem_of_lookup g1)
      exact ⟨⟨v, IsCell.at g2 fun o q => hk c o q⟩, Nat.ne_of_lt g2.lt⟩
  · refine List.pairwise_append.mpr ⟨h2, ?_, fun x hx y hy => ?_⟩
    · have : ∀ l : List (Str × Addr), (l.map (·.1)).Nodup → (∀ n c, (n, c) ∈ l → env.cells.lookup n = some c) → l.Pairwise fun x y => x.2 ≠ y.2 := fun l => by
        induction l with
        | nil => intro _ _; exact List.Pairwise.nil
        | cons p r ih =>
          intro hnd hm
          rw [List.map_cons, List.nodup_cons] at hnd
          refine List.pairwise_cons.mpr ⟨fun y hy e => ?_, ih hnd.2 fun n c h => hm n c (.tail _ h)⟩
          have a1 := hm p.1 p.2 (.head _)
          have a2 := hm y.1 y.2 (.tail _ hy)
          have := name_of_addr hE.apart (mem_of_lookup a1) (e ▸ mem_of_lookup a2)
          exact hnd.1 (this ▸ List.mem_map_of_mem hy)
      exact this _ clnd fun n c h => (hcl n c h).1
    · have a1 := (h1 x.1 x.2 hx).2.1
      obtain ⟨g1, _⟩ := hcl y.1 y.2 hy
      obtain ⟨⟨v, g2⟩, _⟩ := hE.cells y.1 y.2 (mem_of_lookup g1)
      exact Nat.ne_of_gt (Nat.lt_of_lt_of_le g2.lt (Nat.le_of_succ_le a1))
  · have fr : ∀ (P : Prop) b, s.heap.objs.size ≤ b → (h'.get? b).isSome → (P → I b = none) ∧ ¬ Owns O b ∧ (h'.get? b).isSome := fun P b hb hs => ⟨fun _ => In.none wf.has (fresh b hb), Own.notMine wf (fresh b hb), hs⟩
    have fn : ∀ (P : Prop) p, p ∈ new → (P → I p.2 = none) ∧ ¬ Owns O p.2 ∧ (h'.get? p.2).isSome := fun P p hp => fr P _ (Nat.le_of_succ_le (h1 p.1 p.2 hp).2.1) (IsCell.some (h1 p.1 p.2 hp).1)
    rcases ha with rfl | ⟨x, ha⟩ | ha
    · exact fr _ _ (Nat.le_refl _) (Ns.some hL)
    · rcases List.mem_append.mp ha with ha | ha
      · exact fn _ _ ha
      · obtain ⟨g1, _⟩ := hcl x a ha
        obtain ⟨a1, a2, a3⟩ := hE.off a (.inr (.inl ⟨x, mem_of_lookup g1⟩))
        obtain ⟨o, q⟩ := Option.isSome_iff_exists.mp a3
        refine ⟨fun hq => ?_, a2, by rw [hk a o q]; rfl⟩
        have al : a = s.heap.objs.size ∨ a ∈ s.heap.objs.size :: new.map (·.2) := hq
        have : s.heap.objs.size ≤ a := by
          rcases al with e | e
          · exact Nat.le_of_eq e.symm
          · rcases List.mem_cons.mp e with e | e
            · exact Nat.le_of_eq e.symm
            · obtain ⟨p, hp, rfl⟩ := List.mem_map.mp e
              exact Nat.le_of_succ_le (h1 p.1 p.2 hp).2.1
        exact In.none wf.has (fresh a this)
    · rcases List.mem_cons.mp ha with rfl | ha
      · exact fr _ _ (Nat.le_refl _) (Ns.some hL)
      · obtain ⟨p, hp, rfl⟩ := List.mem_map.mp ha
        exact fn _ p hp
end Mine
end PartJ8

section PartJ9
open PySem PySem.W PySem.Calls PyProof.Rows
set_option maxRecDepth 100000
set_option linter.unusedVariables false
namespace Mine
variable {C : Cx} {d : Nat} {sc : Sc} {ρ : Vars} {H : Store}

theorem chg0 {I O s fa} {wr : List Addr} {h' : Heap} {tk : Nat} {s₀ I₀ O₀} (st : Step fa I₀ O₀ s₀ I O s) (wf : WF C I O H s)
    (hf : ∀ b ∈ wr, s₀.heap.get? b = none) (hp : ∀ b ∈ wr, I b = none ∧ ¬ Owns O b) (hk : ∀ b o, b ∉ wr → s.heap.get? b = some o → h'.get? b = some o) :
    Step fa I₀ O₀ s₀ I O { s with heap := h', toks := tk } ∧ WF C I O H { s with heap := h', toks := tk } := by
  have al : ∀ b, b ∉ wr → (s.heap.get? b).isSome → (h'.get? b).isSome := fun b hb e => by obtain ⟨o, q⟩ := Option.isSome_iff_exists.mp e; rw [hk b o hb q]; rfl
  have n1 : ∀ b, (s₀.heap.get? b).isSome → b ∉ wr := fun b e hb => by rw [hf b hb] at e; cases e
  have n2 : ∀ b, Owns O b → b ∉ wr := fun b e hb => (hp b hb).2 e
  refine ⟨⟨st.sub, st.fresh, st.oext, st.newk, fun b o e h1 h2 => hk b o (n1 b (by rw [e]; rfl)) (st.keep b o e h1 h2), fun b e => al b (n1 b e) (st.alive b e), st.gens, st.drawn, st.os⟩,
    ⟨wf.base, fun b o e => hk b o (fun hb => by rw [(hp b hb).1] at e; cases e) (wf.has b o e), wf.dom, fun k ov e => ?_, fun k f e b hb => ⟨(wf.off k f e b hb).1, al b (n2 b ⟨k, f, e, hb⟩) (wf.off k f e b hb).2⟩, wf.apart⟩⟩
  obtain ⟨x, f, g1, g2⟩ := wf.rel k ov e
  exact ⟨x, f, g1, g2.mono (fun _ _ e => e) (fun _ _ e => e) fun b hb o e' => hk b o (n2 b ⟨k, _, g1, hb⟩) e'⟩
/-- a private object is laid down for good -/
theorem freeze {I O s fa s₀ I₀ O₀} {D : Addr} {o : Obj} (st : Step fa I₀ O₀ s₀ I O s) (wf : WF C I O H s) (hf : s₀.heap.get? D = none) (hI : I D = none) (hO : ¬ Owns O D) (ho : s.heap.get? D = some o) :
    Step fa I₀ O₀ s₀ (addI I D o) O s ∧ WF C (addI I D o) O H s ∧ addI I D o D = some o ∧ Le I (addI I D o) := by
  have le : Le I (addI I D o) := fun b o' e => by
    unfold addI
    by_cases q : b = D
    · subst q; rw [hI] at e; cases e
    · rw [if_neg q]; exact e
  refine ⟨⟨fun b o' e => le b o' (st.sub b o' e), fun b o' e => ?_, st.oext, st.newk, st.keep, st.alive, st.gens, st.drawn, st.os⟩, ⟨fun b o' e => le b o' (wf.base b o' e), fun b o' e => ?_, wf.dom, fun k ov e => ?_, fun k f e b hb => ⟨?_, (wf.off k f e b hb).2⟩, wf.apart⟩, by simp [addI], le⟩
  · unfold addI at e
    by_cases q : b = D
    · subst q; exact .inr hf
    · rw [if_neg q] at e; exact st.fresh b o' e
  · unfold addI at e
    by_cases q : b = D
    · subst q; rw [if_pos rfl] at e; cases e; exact ho
    · rw [if_neg q] at e; exact wf.has _ _ e
  · obtain ⟨a, f, h1, h2⟩ := wf.rel k ov e
    exact ⟨a, f, h1, h2.mono le (fun _ _ e => e) fun b _ o' q => q⟩
  · unfold addI
    rw [if_neg (fun e' : b = D => hO ⟨k, f, e, e' ▸ hb⟩)]
    exact (wf.off k f e b hb).1
theorem Step.shut {fa I O s I' O' s'} (x : Step fa I O s I' O' s') (h : ∀ b ∈ fa, s.heap.get? b = none) : Step [] I O s I' O' s' :=
  ⟨x.sub, x.fresh, x.oext, x.newk, fun b o e h1 _ => x.keep b o e h1 fun q => (by rw [h b q] at e; cases e), x.alive, x.gens, x.drawn, x.os⟩
theorem EnvR.weaken {I O env fa ρ' h} (x : EnvR C I O env sc fa ρ h) (hr : ∀ y v, ρ'.lookup y = some v → ρ.lookup y = some v) : EnvR C I O env sc fa ρ' h :=
  ⟨x.kind, x.ns, x.glob, x.blt, x.loc, let ⟨m, a, b⟩ := x.vars; ⟨m, a, fun y v h1 h2 => b y v (hr y v h1) h2⟩, fun y v h1 h2 => x.cell y v (hr y v h1) h2, x.ownc, x.cells, x.apart, x.off⟩
theorem put_weaken {x : Str} {v : V} (h : ρ.lookup x = none) : ∀ y u, ρ.lookup y = some u → (put x v ρ).lookup y = some u := fun y u e => by
  rw [lookup_put]
  by_cases q : y = x
  · subst q; rw [h] at e; cases e
  · rw [if_neg q]; exact e

noncomputable def Tests (C : Cx) (d : Nat) (sc : Sc) (ρ : Vars) (ifs : List Expr) (H : Store) (Q : Bool → Store → Prop) : Prop :=
  ∀ A E s env fa I O, AOk d A → EnvR C I O env sc fa ρ s.heap → WF C I O H s →
    wpAny C.M A (forIn ifs true fun c r => if r = true then do let ok ← isTrue c env (eval c env); pure (ForInStep.yield ok) else pure (ForInStep.yield r)) (PostB C I O s Q) E s
theorem tests_nil {Q} (q : Q true H) : Tests C d sc ρ [] H Q := fun _ _ _ _ _ _ _ _ _ wf => wpAny_tests_nil (post_b0 wf q)
theorem tests_one {c Q} (h : Tr C d sc ρ c H Q) : Tests C d sc ρ [c] H Q := fun A E s env fa I O hA hE wf => wpAny_tests_one (h A E s env fa I O hA hE wf)

noncomputable def CompL (C : Cx) (d : Nat) (sc : Sc) (K : Store → Prop) (ρ : Vars) (x : Str) (ifs : List Expr) (elt : Expr) (Q : List V → Store → Prop) : List V → List V → Store → Prop
  | [], ys, H => K H ∧ Q ys H
  | v :: vs, ys, H => K H ∧ Tests C d sc (put x v ρ) ifs H fun ok H₁ =>
      (ok = true → Ev C d sc (put x v ρ) elt H₁ fun y H₂ => ys.length ≤ 100000 ∧ CompL C d sc K ρ x ifs elt Q vs (ys ++ [y]) H₂) ∧ (ok = false → CompL C d sc K ρ x ifs elt Q vs ys H₁)

inductive CInv (C : Cx) (fa' : List Addr) (I₀ : Part) (O₀ : Own) (s₀ : Shared) (cenv : Env) (csc : Sc) (cρ : Vars) (St : Nat → Heap → Prop) (wr : List Addr) (I : Part) (O : Own) (L : Nat) (D : Addr) (P : Nat → List V → Store → Prop) (n : Nat) (s' : Shared) : Prop
  | mk (I' : Part) (O' : Own) (H' : Store) (i : Nat) (ys : List V) (cys : List Value) (st : Step fa' I₀ O₀ s₀ I' O' s') (wf : WF C I' O' H' s') (hE : EnvR C I' O' cenv csc fa' cρ s'.heap) (hst : St i s'.heap) (hp : ∀ b ∈ wr, I' b = none ∧ ¬ Owns O' b) (le : Le I I') (oe : OLe O O') (hi : i ≤ L) (hn : n = L - i)
    (hpl : s'.heap.PlainList D cys.toArray) (hys : VRels I' O' ys cys) (hl : P i ys H')
theorem comp_core {A I₀ O₀ s₀ I O s env fa elt iter x px ifs scope pos a vs K wr St} {Q : List V → Store → Prop} {RR : Value → Addr → Result → Shared → Prop} {E : Value → Shared → Prop}
    (hA : AOk d A) (hE₀ : EnvR C I₀ O₀ env sc fa ρ s₀.heap) (st : Step [] I₀ O₀ s₀ I O s) (wf : WF C I O H s)
    (ok : ScopeOk sc ρ scope.names) (hkind : scope.kind = .function) (hx : Stores (compSc sc scope.names) x) (hx0 : (freeVars scope.names ρ).lookup x = none)
    (hw : ∀ b ∈ wr, s₀.heap.get? b = none ∧ I b = none ∧ ¬ Owns O b) (h0 : St 0 s.heap) (W : Wk C A a vs I O wr St K)
    (q : CompL C d (compSc sc scope.names) K (freeVars scope.names ρ) x ifs elt Q vs [] H)
    (fin : ∀ I' O' H' D C₁ ys s', Step [] I₀ O₀ s₀ I' O' s' → WF C I' O' H' s' → VRel I' O' (.list ys) (.ref D) → Q ys H' → (∃ m, s'.heap.Ns C₁ m) → s₀.heap.get? C₁ = none → I' C₁ = none → ¬ Owns O' C₁ → RR (.ref D) C₁ (.ok .next) s') :
    wpAny C.M A (newList []) (fun acc s₃ => wpAny C.M A (newFunctionEnv scope env.globals (clOf env.cells scope.names []) [] env.qual none .none (some env)) (fun cenv s₄ =>
      codeAny C.M A (.compStart (.ListComp elt [⟨.Name x px, iter, ifs, 0⟩] scope pos) 0 (.ref a) acc { cenv with scope := relabel scope env }) (RR acc cenv.locals) s₄) E s₃) E s := by
  refine wpAny_newObj_type ?_
  have hn := get_size_none s.heap
  generalize hD : s.heap.objs.size = D at hn
  have hDf : ∀ (o : Obj), o.isFreed = false → (s.heap.push o).get? D = some o := fun o e => hD ▸ Heap.get?_push_size _ e
  obtain ⟨st₁, wf₁⟩ := push_junk (o := { cls := .type "list", dict := none, data := .seq ([] : List Value).toArray }) wf
  have hE := hE₀.step st
  have hE₁ := hE.step st₁
  generalize hs₁ : ({ s with heap := s.heap.push { cls := .type "list", dict := none, data := .seq ([] : List Value).toArray } } : Shared) = s₁ at st₁ wf₁ hE₁
  have hD₁ : s₁.heap.get? D = some (lobj [] 0) := by rw [← hs₁]; exact hDf _ rfl
  refine newCompEnv ?_
  obtain ⟨fa', hfa', hmem, hcE, hk, hcl⟩ := comp_env hE₁ wf₁ ok hkind
  obtain ⟨st₂, wf₂⟩ := junk (fa := []) (t := s₁.toks) wf₁ hk
  generalize hcenv : ({ scope := relabel scope env, locals := s₁.heap.objs.size, globals := env.globals, cells := cellsFrom (s₁.heap.objs.size + 1) scope.names (clOf env.cells scope.names []), qual := env.qual, func := none, code := env.code, frame := env.frame, builtins := env.builtins } : Env) = cenv at hcE
  have hloc : cenv.locals = s₁.heap.objs.size := by rw [← hcenv]
  have hcc : ∀ x c, (x, c) ∈ cenv.cells → (∃ y, (y, c) ∈ env.cells) ∨ s₁.heap.get? c = none := by rw [← hcenv]; exact hcl
  generalize hs₂ : ({ s₁ with heap := pushCells (s₁.heap.push { cls := .type "dict", data := .dict #[] }) scope.names, toks := s₁.toks } : Shared) = s₂ at st₂ wf₂
  have hcE : EnvR C I O cenv (compSc sc scope.names) fa' (freeVars scope.names ρ) s₂.heap := by rw [← hs₂]; exact hcE
  have hs2h : ∀ b o, s₁.heap.get? b = some o → s₂.heap.get? b = some o := by rw [← hs₂]; exact hk
  have st₁₂ := st₁.trans st₂
  have st' := st.trans st₁₂
  have lw : ∀ b ∈ wr, (s.heap.get? b).isSome := W.live _ _ h0
  have hDw : D ∉ wr := fun h => by have := lw D h; rw [hn] at this; cases this
  have hfa₀ : ∀ b ∈ fa', s₀.heap.get? b = none := fun b hb => none_of_alive ((st.trans st₁).alive b) (hfa' b hb)
  have hD0 : s₀.heap.get? D = none := none_of_alive (st.alive D) hn
  have hwr0 : ∀ b ∈ D :: wr, s₀.heap.get? b = none := memc hD0 fun b hb => (hw b hb).1
  have hal₁ : ∀ b ∈ D :: wr, (s₁.heap.get? b).isSome := memc (by rw [hD₁]; rfl) fun b hb => st₁.alive b (lw b hb)
  have hnfa : ∀ b ∈ D :: wr, b ∉ fa' := fun b hb h => by have := hal₁ b hb; rw [hfa' b h] at this; cases this
  have dis : ∀ b ∈ D :: wr, b ≠ cenv.locals ∧ (∀ x, (x, b) ∉ cenv.cells) ∧ b ∉ fa' := fun b hb =>
    ⟨fun e => hnfa b hb (by rw [e, hloc]; exact hmem), fun y hy => (hcc y b hy).elim
      (fun ⟨z, hz⟩ => by have := (hE₀.off b (.inr (.inl ⟨z, hz⟩))).2.2; rw [hwr0 b hb] at this; cases this)
      (fun h => by have := hal₁ b hb; rw [h] at this; cases this), hnfa b hb⟩
  have hDI : I D = none := In.none wf.has hn
  have hDO : ¬ Owns O D := Own.notMine wf hn
  have hp0 : ∀ b ∈ D :: wr, I b = none ∧ ¬ Owns O b := memc ⟨hDI, hDO⟩ fun b hb => ⟨(hw b hb).2.1, (hw b hb).2.2⟩
  have kept : ∀ b o, b ∈ D :: wr → s₁.heap.get? b = some o → s₂.heap.get? b = some o := fun b o _ e => hs2h b o e
  have h0₁ : St 0 s₁.heap := W.frame _ _ _ h0 fun b hb o e => st₁.keep b o e (hw b hb).2.2 fun h => nomatch h
  have h0₂ : St 0 s₂.heap := W.frame _ _ _ h0₁ fun b hb o e => hs2h b o e
  have stD : Step fa' I₀ O₀ s₀ I O s₂ := st'.nil
  have loop : ∀ R : Result → Shared → Prop, (∀ I' O' H' ys s', Step [] I₀ O₀ s₀ I' O' s' → WF C I' O' H' s' → VRel I' O' (.list ys) (.ref D) → Q ys H' → (∃ m, s'.heap.Ns cenv.locals m) → I' cenv.locals = none → ¬ Owns O' cenv.locals → R (.ok .next) s') →
      codeAny C.M A (.compLoop (.ListComp elt [⟨.Name x px, iter, ifs, 0⟩] scope pos) 0 (.ref a) (.ref D) cenv) R s₂ := fun R hR => by
    obtain ⟨Inv, hInv⟩ : ∃ Inv : Nat → Shared → Prop, ∀ n s', Inv n s' ↔ CInv C fa' I₀ O₀ s₀ cenv (compSc sc scope.names) (freeVars scope.names ρ) St (D :: wr) I O vs.length D (fun i ys H' => CompL C d (compSc sc scope.names) K (freeVars scope.names ρ) x ifs elt Q (vs.drop i) ys H') n s' := ⟨_, fun _ _ => Iff.rfl⟩
    refine codeAny_compLoop_tests Inv ?_ vs.length
      ((hInv _ _).2 ⟨I, O, H, 0, [], [], stD, wf₂, hcE, h0₂, hp0, fun _ _ e => e, fun _ _ e => e, Nat.zero_le _, rfl, ⟨0, hs2h _ _ hD₁⟩, .nil, q⟩)
    intro n s' hinv
    obtain ⟨I', O', H', i, ys, cys, st', wf', hE', hst, hp, le, oe, hi, hnn, hpl, hys, hl⟩ := (hInv _ _).1 hinv
    have hl : CompL C d (compSc sc scope.names) K (freeVars scope.names ρ) x ifs elt Q (vs.drop i) ys H' := hl
    have hp' : ∀ b ∈ D :: wr, I' b = none ∧ ¬ Owns O' b ∧ (b ≠ cenv.locals ∧ (∀ x, (x, b) ∉ cenv.cells) ∧ b ∉ fa') := fun b hb => ⟨(hp b hb).1, (hp b hb).2, dis b hb⟩
    have hpw : ∀ b ∈ wr, I' b = none ∧ ¬ Owns O' b ∧ (b ≠ cenv.locals ∧ (∀ x, (x, b) ∉ cenv.cells) ∧ b ∉ fa') := fun b hb => hp' b (.tail _ hb)
    have hw0 : ∀ b ∈ wr, s₀.heap.get? b = none := fun b hb => hwr0 b (.tail _ hb)
    by_cases hlt : i < vs.length
    · have hd : vs.drop i = vs[i] :: vs.drop (i + 1) := List.drop_eq_getElem_cons hlt
      rw [hd] at hl
      obtain ⟨hK, hX⟩ := hl
      refine W.item i s' _ _ I' O' H' hlt le oe wf' hK hst fun y v h' tk hy rv hst₁ hk => ?_
      obtain ⟨st₃, wf₃, hE₃⟩ := chg (tk := tk) st' wf' hE' hw0 hpw hk
      have hpl₃ := hpl.at (h' := h') fun o e => hk D o hDw e
      have ey : y = vs[i] := by rw [List.getElem?_eq_getElem hlt] at hy; exact (Option.some.inj hy).symm
      rw [ey] at rv
      refine wpAny_assign_Name (store_ (s := { s' with heap := h', toks := tk }) hx hE₃ wf₃ rv fun s₄ st₄ wf₄ hE₄ => ?_)
      have hst₄ : St (i + 1) s₄.heap := W.frame _ _ _ hst₁ fun b hb o e => st₄.keep b o e (hpw b hb).2.1 (hpw b hb).2.2.2.2
      have hpl₄ := hpl₃.at (h' := s₄.heap) fun o e => st₄.keep D o e (hp D (.head _)).2 (hnfa D (.head _))
      refine wpAny_mono (hX A _ s₄ cenv fa' I' O' hA hE₄ wf₄) (fun okb s₅ ⟨I₅, O₅, H₅, st₅, wf₅, q₅⟩ => ?_) fun _ _ e => e
      have st₆ := (st₃.trans st₄).trans st₅.nil
      have priv : ∀ b ∈ D :: wr, (s₄.heap.get? b).isSome := memc (let ⟨n, e⟩ := hpl₄; by rw [e]; rfl) fun b hb => W.live _ _ hst₄ b hb
      have priv₅ : ∀ b ∈ D :: wr, I₅ b = none ∧ ¬ Owns O₅ b := fun b hb => priv_step st₅ (hp b hb).1 (hp b hb).2 (priv b hb)
      have hst₅ : St (i + 1) s₅.heap := W.frame _ _ _ hst₄ fun b hb o e => st₅.keep b o e (hpw b hb).2.1 fun h => nomatch h
      have hpl₅ := hpl₄.at (h' := s₅.heap) fun o e => st₅.keep D o e (hp D (.head _)).2 fun h => nomatch h
      have hE₅ := hE₄.step st₅
      cases okb with
      | false =>
        simp only [Bool.false_eq_true, if_false]
        exact ⟨vs.length - (i + 1), by rw [hnn]; exact sub_lt hlt, (hInv _ _).2 ⟨I₅, O₅, H₅, i + 1, ys, cys, st₆, wf₅, hE₅.weaken (put_weaken hx0), hst₅, priv₅, fun b o e => st₅.sub b o (le b o e), fun k f e => st₅.oext k f (oe k f e), hlt, rfl, hpl₅, hys.mono st₅.sub st₅.oext, q₅.2 rfl⟩⟩
      | true =>
        simp only [if_true]
        refine wpAny_mono (q₅.1 rfl A _ s₅ cenv fa' I₅ O₅ hA hE₅ wf₅) (fun cy s₆ ⟨I₆, O₆, H₆, y, st₆', wf₆, ry, qq⟩ => ?_) fun _ _ e => e
        obtain ⟨hlen, q₆⟩ := qq
        have priv₆ : ∀ b ∈ D :: wr, I₆ b = none ∧ ¬ Owns O₆ b := fun b hb => priv_step st₆' (priv₅ b hb).1 (priv₅ b hb).2 (st₅.alive b (priv b hb))
        have hst₆ : St (i + 1) s₆.heap := W.frame _ _ _ hst₅ fun b hb o e => st₆'.keep b o e (priv₅ b (.tail _ hb)).2 fun h => nomatch h
        have hpl₆ := hpl₅.at (h' := s₆.heap) fun o e => st₆'.keep D o e (priv₅ D (.head _)).2 fun h => nomatch h
        have hys₆ := (hys.mono st₅.sub st₅.oext).mono st₆'.sub st₆'.oext
        refine wpAny_list_append_plain hpl₆ (fun h₇ hl₇ hs₇ => ?_) (by rw [List.size_toArray, ← hys.length, sizeLine_eq]; omega)
        have hE₆ := hE₅.step st₆'
        obtain ⟨st₈, wf₈, hE₈⟩ := chg (wr := [D]) (tk := s₆.toks) (st₆.trans st₆'.nil) wf₆ hE₆ ((mem1 (hD0)))
          ((mem1 (⟨(priv₆ D (.head _)).1, (priv₆ D (.head _)).2, dis D (.head _)⟩))) fun b o hb e => (hs₇.2 b fun e' => hb (e' ▸ .head _)).trans e
        exact ⟨vs.length - (i + 1), by rw [hnn]; exact sub_lt hlt, (hInv _ _).2 ⟨I₆, O₆, H₆, i + 1, ys ++ [y], cys ++ [cy], st₈, wf₈, hE₈.weaken (put_weaken hx0), W.frame _ _ _ hst₆ fun b hb o e => (hs₇.2 b fun e' => hDw (e' ▸ hb)).trans e, priv₆,
          fun b o e => st₆'.sub b o (st₅.sub b o (le b o e)), fun k f e => st₆'.oext k f (st₅.oext k f (oe k f e)), hlt, rfl, by simpa using hl₇, hys₆.snoc ry, q₆⟩⟩
    · have hz : i = vs.length := by omega
      rw [hz, List.drop_length] at hl
      rw [hz] at hst
      obtain ⟨hK, hQ⟩ := hl
      refine W.done s' _ _ I' O' H' le oe wf' hK hst fun h' tk hk => ?_
      obtain ⟨st₃, wf₃, hE₃⟩ := chg (tk := tk) st' wf' hE' hw0 hpw hk
      obtain ⟨nn, hpl₃⟩ := hpl.at (h' := h') fun o e => hk D o hDw e
      have stS := st₃.shut hfa₀
      obtain ⟨st₄, wf₄, hI₄, le₄⟩ := freeze (s := { s' with heap := h', toks := tk }) stS wf₃ hD0 (hp D (.head _)).1 (hp D (.head _)).2 hpl₃
      obtain ⟨m, hm, _⟩ := hE₃.vars
      have hoff := hE₃.off _ (.inl rfl)
      refine hR _ _ _ ys _ st₄ wf₄ (.list (vs := cys) hI₄ (hys.mono le₄ fun _ _ e => e)) hQ ⟨m, hm⟩ ?_ hoff.2.1
      unfold addI
      rw [if_neg (fun e => (dis D (.head _)).1 e.symm)]
      exact hoff.1 (.inl rfl)
  have hCl : s₀.heap.get? cenv.locals = none := by rw [hloc]; exact hfa₀ _ hmem
  have lp := loop (RR (.ref D) cenv.locals) fun I' O' H' ys s' a1 a2 a3 a4 a5 a6 a7 => fin I' O' H' D cenv.locals ys s' a1 a2 a3 a4 a5 hCl a6 a7
  subst hcenv
  exact codeAny_compStart_list lp (W.self 0 _ _ _ h0₂ lp)

theorem names_local {names : List (Str × NameKind)} (h : (names.map (·.1)).Nodup) : ∀ x ∈ names, x.2 = .local → names.lookup x.1 = some .local := fun x hx e => by
  obtain ⟨n, k⟩ := x
  simp only at e ⊢
  subst e
  exact lookup_nodup h hx
theorem scope_cl {I O s env fa scope} (hE : EnvR C I O env sc fa ρ s) (ok : ScopeOk sc ρ scope.names) : closureFor scope env = pure (clOf env.cells scope.names []) :=
  closureFor_eq fun n hn => by
    obtain ⟨⟨v, hv⟩, hk⟩ := ok.free n hn
    obtain ⟨c, _, h, _⟩ := hE.cell n v hv hk
    rw [h]; rfl

/-- the list comprehension: one clause, a name its target -/
theorem ev_comp {elt iter x px ifs scope pos Q} (ok : ScopeOk sc ρ scope.names) (hkind : scope.kind = .function) (hx : Stores (compSc sc scope.names) x) (hx0 : (freeVars scope.names ρ).lookup x = none)
    (h : Src C d sc ρ iter H fun vs K H₁ => CompL C d (compSc sc scope.names) K (freeVars scope.names ρ) x ifs elt (fun ys H₂ => Q (.list ys) H₂) vs [] H₁)
    (hs : ∀ env v, foldedSetIterable iter env v = pure v := by intro _ _; rfl) : Ev C d sc ρ (.ListComp elt [⟨.Name x px, iter, ifs, 0⟩] scope pos) H Q := fun A E s env fa I O hA hE wf => by
  rw [eval_ListComp]
  refine wpAny_comprehension_free (use := none) rfl (hs env) (scope_cl hE ok) hkind (names_local ok.nodup) (wpAny_mono (h A E s env fa I O hA hE wf) (fun xv s₁ h₁ => wpAny_mono h₁ (fun it s₂ h₂ => ?_) fun _ _ e => e) fun _ _ e => e)
  obtain ⟨a, I₂, O₂, H₂, vs, K, wr, St, rfl, st₂, wf₂, hw, h0, W, q⟩ := h₂
  refine comp_core (RR := fun acc c => compPost C.M A E none (Post C I O s Q) acc c) hA hE st₂ wf₂ ok hkind hx hx0 hw h0 (W A hA.handled) q ?_
  rintro I' O' H' D C₁ ys s' st' wf' rv hq ⟨m, hm⟩ hn h1 h2
  refine ⟨m, hm, fun h' hs' => ?_⟩
  obtain ⟨a1, a2⟩ := chg0 (wr := [C₁]) (tk := s'.toks) st' wf' ((mem1 (hn))) ((mem1 (⟨h1, h2⟩))) fun b o hb e => (hs'.2 b fun e' => hb (e' ▸ .head _)).trans e
  exact ⟨I', O', H', .list ys, a1, a2, rv, hq⟩
/-- a name made the list comprehension's value, where the names of the two are swapped -/
theorem ex_assignC {elt iter x px ifs scope pos y py spos Q} (hy : Stores sc y) (ok : ScopeOk sc ρ scope.names) (hkind : scope.kind = .function) (hx : Stores (compSc sc scope.names) x) (hx0 : (freeVars scope.names ρ).lookup x = none)
    (h : Src C d sc ρ iter H fun vs K H₁ => CompL C d (compSc sc scope.names) K (freeVars scope.names ρ) x ifs elt (fun ys H₂ => Q .next (put y (.list ys) ρ) H₂) vs [] H₁)
    (hsw : ∀ env : Env, env.scope.kind = .function → env.scope.names = sc.ns → swapsWith (.ListComp elt [⟨.Name x px, iter, ifs, 0⟩] scope pos) (some (.Name y py)) spos.line env = pure true)
    (hs : ∀ env v, foldedSetIterable iter env v = pure v := by intro _ _; rfl) : Ex C d sc ρ (.Assign [.Name y py] (.ListComp elt [⟨.Name x px, iter, ifs, 0⟩] scope pos) spos) H Q := fun A E s env fa I O hA hE wf => by
  rw [exec_Assign_Name_used _ _ _ _ (hsw env hE.kind hE.ns)]
  refine wpAny_bind (wpAny_standAt (wpAny_bind ?_))
  show wpAny _ A (do let _ ← comprehension (.ListComp elt [⟨.Name x px, iter, ifs, 0⟩] scope pos) scope env _ (newList []) false (eval iter env) (some (assign (.Name y py) env))) _ _ s
  refine wpAny_bind (wpAny_mono (wpAny_comprehension_free (use := some (assign (.Name y py) env)) (Q := fun _ s' => PostX C I O s env sc fa Q .next s') rfl (hs env) (scope_cl hE ok) hkind (names_local ok.nodup)
    (wpAny_mono (h A E s env fa I O hA hE wf) (fun xv s₁ h₁ => wpAny_mono h₁ (fun it s₂ h₂ => ?_) fun _ _ e => e) fun _ _ e => e)) (fun _ s' hq => wpAny_pure (wpAny_pure hq)) fun _ _ e => e)
  obtain ⟨a, I₂, O₂, H₂, vs, K, wr, St, rfl, st₂, wf₂, hw, h0, W, q⟩ := h₂
  refine comp_core (RR := fun acc c => compPost C.M A E (some (assign (.Name y py) env)) (fun _ s' => PostX C I O s env sc fa Q .next s') acc c) hA hE st₂ wf₂ ok hkind hx hx0 hw h0 (W A hA.handled) q ?_
  rintro I' O' H' D C₁ ys s' st' wf' rv hq ⟨m, hm⟩ hn h1 h2
  have dis : C₁ ≠ env.locals ∧ (∀ x, (x, C₁) ∉ env.cells) ∧ C₁ ∉ fa :=
    ⟨fun e => (by have := (hE.off _ (.inl e)).2.2; rw [hn] at this; cases this), fun z hz => (by have := (hE.off _ (.inr (.inl ⟨z, hz⟩))).2.2; rw [hn] at this; cases this),
     fun hz => (by have := (hE.off _ (.inr (.inr hz))).2.2; rw [hn] at this; cases this)⟩
  show wpAny _ A (assign (.Name y py) env (.ref D)) _ _ _
  refine wpAny_assign_Name (store_ hy (hE.step st') wf' rv fun s₃ st₃ wf₃ hE₃ => ?_)
  refine ⟨m, hm.at' fun o e => st₃.keep C₁ o e h2 dis.2.2, fun h' hs' => ?_⟩
  obtain ⟨b1, b2, b3⟩ := chg (wr := [C₁]) (tk := s₃.toks) (st'.nil.trans st₃) wf₃ hE₃ ((mem1 (hn))) ((mem1 (⟨h1, h2, dis⟩))) fun b o hb e => (hs'.2 b fun e' => hb (e' ▸ .head _)).trans e
  exact ⟨I', O', H', _, .next, b1, b2, b3, .next, hq⟩

end Mine
end PartJ9

section PartJ10
open PySem PySem.W PySem.Calls PyProof.Rows
set_option maxRecDepth 100000
set_option linter.unusedVariables false
namespace Mine
variable {C : Cx} {d : Nat} {sc : Sc} {ρ : Vars} {H : Store}

/-- a list, given or owned -/
noncomputable def LV (H : Store) (v : V) (xs : List V) : Prop := v = .list xs ∨ ∃ k, v = .own k ∧ H.lookup k = some (.list xs)
theorem LV.get {I O s v cv xs} (x : LV H v xs) (wf : WF C I O H s) (r : VRel I O v cv) : ∃ a vs n, cv = .ref a ∧ s.heap.get? a = some (lobj vs n) ∧ VRels I O xs vs := by
  rcases x with rfl | ⟨k, rfl, hk⟩
  · obtain ⟨a, vs, n, e, hI, rs⟩ := r.list_inv
    exact ⟨a, vs, n, e, wf.has _ _ hI, rs⟩
  · obtain ⟨a, f, e, ho⟩ := r.own_inv
    obtain ⟨vs, n, h1, rs, _⟩ := wf.own hk ho
    exact ⟨a, vs, n, e, h1, rs⟩
theorem LV.of (xs : List V) : LV H (.list xs) xs := .inl rfl
theorem LV.own {k xs} (h : H.lookup k = some (.list xs)) : LV H (.own k) xs := .inr ⟨k, rfl, h⟩
theorem isL {s : Shared} {a vs n} (h : s.heap.get? a = some (lobj vs n)) : s.heap.IsList a vs.toArray := ⟨_, h, rfl, n, rfl⟩

theorem bin_addL {a b : V} {xs ys : List V} {Q} (ha : LV H a xs) (hb : LV H b ys) (hl : xs.length + ys.length ≤ 100000) (q : Q (.list (xs ++ ys)) H) : Bin C d .Add a b H Q := fun A E s I O ca cb hA wf ra rb => by
  obtain ⟨a, vs, n, rfl, h1, r1⟩ := ha.get wf ra
  obtain ⟨b, ws, n', rfl, h2, r2⟩ := hb.get wf rb
  have e : vs.toArray ++ ws.toArray = (vs ++ ws).toArray := by simp
  refine concat_meets ⟨_, h1, rfl⟩ ⟨_, h2, rfl⟩ noFill_list_add seq_list_add PySem.F.slot_list_add PySem.F.entry_list_add (PySem.F.args_list_add_2 _ _) (list_addW a b vs.toArray ws.toArray n n' none none #[] #[] (by rw [sizeLine_eq]; simp only [List.size_toArray]; rw [← r1.length, ← r2.length]; omega)) ⟨h1, h2, ?_⟩
  rw [e]
  exact post_push (o := lobj (vs ++ ws) 0) wf rfl (fun I' e le => .list e ((r1.append r2).mono le fun _ _ e => e)) q

theorem VRels.reps {I O xs vs} (h : VRels I O xs vs) : ∀ n : Nat, VRels I O (List.replicate n xs).flatten (List.replicate n vs).flatten
  | 0 => .nil
  | n + 1 => by rw [List.replicate_succ, List.replicate_succ, List.flatten_cons, List.flatten_cons]; exact h.append (h.reps n)
theorem bin_mulL {xs : List V} {x : Int} {Q} (hlo : 0 ≤ x) (hhi : x < 2 ^ 63) (hsz : xs.length * x.toNat ≤ 256) (q : Q (.list (List.replicate x.toNat xs).flatten) H) : Bin C d .Mult (.list xs) (.int x) H Q :=
  fun A E s I O ca cb hA wf ra rb => by
  obtain ⟨l, vs, n, rfl, hI, rs⟩ := ra.list_inv
  obtain ⟨u, rfl⟩ := rb.int_inv
  have h1 := wf.has _ _ hI
  have hsz' : vs.length * x.toNat ≤ 256 := by rw [← rs.length]; exact hsz
  refine wpAny_binaryOp_repeat_ref (T := "list") (U := "int") (by decide) ⟨_, h1, rfl⟩ (fun s' => typeIs_int s' x u) noFill_list_mul F.fills_int_mul F.slot_int_rmul repeat_list F.slot_int_index.lookup
    (call_meets F.slot_int_rmul (typeIs_int s x u) F.entry_int_rmul (F.args_int_rmul_2 _ _) (lm_int_rmul_list_any x u l vs.toArray n none #[])
      ⟨h1, rfl, ⟨_, h1, rfl⟩, call_meets F.slot_list_mul ⟨_, h1, rfl⟩ F.entry_list_mul (F.args_list_mul_2 _ _)
        (lm_list_mul_any l vs.toArray n none #[] x u (by simp [Builtin.List.listFitsIndex]; omega) (by rw [List.size_toArray]; omega) (by simp only [Builtin.List.listTooLong, sizeLine_eq, List.size_toArray]; simp; omega))
        ⟨h1, ?_⟩⟩)
  have e : List.foldl (fun x1 x2 => x1 ++ x2) #[] (List.replicate (if vs.toArray.isEmpty = true then 0 else x.toNat) vs.toArray) = ((List.replicate x.toNat vs).flatten).toArray := by
    rw [listMul_foldl_if]
  rw [e]
  exact post_push (o := lobj (List.replicate x.toNat vs).flatten 0) wf rfl (fun I' e le => .list e ((rs.reps _).mono le fun _ _ e => e)) q

theorem callv_lenL {v : V} {xs : List V} {Q} (h : LV H v xs) (hl : xs.length ≤ 100000) (q : Q (.int xs.length) H) : CallV C d (.builtin "len") [v] H Q := fun A E s I O cvs hA wf rs => by
  obtain ⟨c, rfl, r⟩ := rs.one
  obtain ⟨a, vs, n, rfl, h1, r1⟩ := h.get wf r
  refine len_list (isL h1) (by simp only [List.size_toArray, ← r1.length]; omega) ?_
  simp only [List.size_toArray, ← r1.length]
  exact post_val wf (.int _ _) q
theorem callv_min {a b : Int} {Q} (q : Q (.int (if b < a then b else a)) H) : CallV C d (.builtin "min") [.int a, .int b] H Q := fun A E s I O cvs hA wf rs => by
  obtain ⟨c, e, rfl, r1, r2⟩ := rs.two
  obtain ⟨t, rfl⟩ := r1.int_inv
  obtain ⟨u, rfl⟩ := r2.int_inv
  refine min_two_ints hA.handled fun h' tk hk => ?_
  obtain ⟨st, wf'⟩ := junk (fa := []) (t := tk) wf hk
  refine ⟨I, O, H, _, st, wf', ?_, q⟩
  by_cases h : b < a
  · rw [if_pos h, if_pos h]; exact .int _ _
  · rw [if_neg h, if_neg h]; exact .int _ _
theorem callv_max {a b : Int} {Q} (q : Q (.int (if b > a then b else a)) H) : CallV C d (.builtin "max") [.int a, .int b] H Q := fun A E s I O cvs hA wf rs => by
  obtain ⟨c, e, rfl, r1, r2⟩ := rs.two
  obtain ⟨t, rfl⟩ := r1.int_inv
  obtain ⟨u, rfl⟩ := r2.int_inv
  refine max_two_ints hA.handled fun h' tk hk => ?_
  obtain ⟨st, wf'⟩ := junk (fa := []) (t := tk) wf hk
  refine ⟨I, O, H, _, st, wf', ?_, q⟩
  by_cases h : b > a
  · rw [if_pos h, if_pos h]; exact .int _ _
  · rw [if_neg h, if_neg h]; exact .int _ _
theorem callv_sum {ns : List Int} {Q} (q : Q (.int ns.sum) H) : CallV C d (.builtin "sum") [.list (ns.map V.int)] H Q := fun A E s I O cvs hA wf rs => by
  obtain ⟨c, rfl, r⟩ := rs.one
  obtain ⟨l, vs, n, rfl, hI, r1⟩ := r.list_inv
  obtain ⟨xs, hx⟩ := r1.ints.allInts.items
  have hl' : s.heap.IsList l (intItems xs) := hx ▸ wf.list hI
  refine sum_intListG hA.handled hl' fun h' tk t' hk => ?_
  have e1 : ns = xs.toList.map (·.1) := by
    rw [← nums_intItems, ← hx]
    exact (show numsOf vs.toArray.toList = ns from r1.ints.numsOf).symm
  have e2 : preSum (numAt xs) xs.size = ns.sum := by
    rw [e1]
    rw [preSum_eq, List.take_of_length_le (by simp)]
  rw [e2]
  obtain ⟨st, wf'⟩ := junk (fa := []) (t := tk) wf hk
  exact ⟨I, O, H, _, st, wf', .int _ _, q⟩
theorem callv_ord {c : Nat} {Q} (q : Q (.int c) H) : CallV C d (.builtin "ord") [.str ⟨#[c]⟩] H Q := fun A E s I O cvs hA wf rs => by
  obtain ⟨v, rfl, r⟩ := rs.one
  obtain ⟨t, rfl⟩ := r.str_inv
  exact P.ord_of_char (post_val wf (.int _ _) q)
theorem callv_chr {i : Int} {Q} (h0 : 0 ≤ i) (h1 : i ≤ 0x10FFFF) (q : Q (.str ⟨#[i.toNat]⟩) H) : CallV C d (.builtin "chr") [.int i] H Q := fun A E s I O cvs hA wf rs => by
  obtain ⟨v, rfl, r⟩ := rs.one
  obtain ⟨t, rfl⟩ := r.int_inv
  exact P.chr_of_int (by simp; omega) (post_val wf (.str _ _) q)

/-- set(list of ints) -/
theorem post_own {I O s Q} {o : Obj} {ov : OV} {h' : Heap} {tk : Nat} (k : Nat) (wf : WF C I O H s) (hk : (H.lookup k).isSome = false) (hh : h'.get? s.heap.objs.size = some o) (hkeep : ∀ b o, s.heap.get? b = some o → h'.get? b = some o)
    (hr : ∀ O', OLe O O' → O' k = some [s.heap.objs.size] → ORel C I O' h' s.heap.objs.size [] ov) (q : Q (.own k) ((k, ov) :: H)) : Post C I O s Q (.ref s.heap.objs.size) { s with heap := h', toks := tk } := by
  have hn := get_size_none s.heap
  have hO : O k = none := by have := wf.dom k; rw [hk] at this; simpa using this
  have ext : OLe O (addO O k [s.heap.objs.size]) := fun j f e => by
    unfold addO
    by_cases q : j = k
    · subst q; rw [hO] at e; cases e
    · rw [if_neg q]; exact e
  have nsz : ∀ j f, O j = some f → s.heap.objs.size ∉ f := fun j f e hb => by have := (wf.off j f e _ hb).2; rw [hn] at this; cases this
  have al : ∀ b, (s.heap.get? b).isSome → (h'.get? b).isSome := fun b e => by obtain ⟨o, q⟩ := Option.isSome_iff_exists.mp e; rw [hkeep b o q]; rfl
  refine ⟨I, addO O k [s.heap.objs.size], (k, ov) :: H, .own k, ⟨fun _ _ e => e, fun _ _ e => .inl e, ext, fun j f e => ?_, fun b o' e _ _ => hkeep b o' e, al, rfl, rfl, rfl⟩, ⟨wf.base, fun b o' e => hkeep b o' (wf.has _ _ e), fun j => ?_, fun j ov' e => ?_, fun j f e b hb => ?_, fun j j' f f' e e' hne b hb hb' => ?_⟩, .own (f := []) (by simp [addO]), q⟩
  · unfold addO at e
    by_cases q : j = k
    · rw [if_pos q] at e; cases e; exact .inr (mem1 (hn))
    · rw [if_neg q] at e; exact .inl e
  · unfold addO
    rw [List.lookup_cons]
    by_cases q : j = k
    · subst q; simp
    · rw [if_neg q, wf.dom j, show (j == k) = false from by simpa using q]
  · rw [List.lookup_cons] at e
    by_cases q : j = k
    · subst q
      simp only [beq_self_eq_true, Option.some.injEq] at e
      subst e
      exact ⟨_, [], by simp [addO], hr _ ext (by simp [addO])⟩
    · rw [show (j == k) = false from by simpa using q] at e
      obtain ⟨a, f, h1, h2⟩ := wf.rel j ov' e
      exact ⟨a, f, ext _ _ h1, h2.mono (fun _ _ e => e) ext fun b _ o' q => hkeep b o' q⟩
  · unfold addO at e
    by_cases q : j = k
    · rw [if_pos q] at e; cases e; cases List.mem_singleton.mp hb
      exact ⟨In.none wf.has hn, by show (h'.get? _).isSome = true; rw [hh]; rfl⟩
    · rw [if_neg q] at e
      obtain ⟨h1, h2⟩ := wf.off j f e b hb
      exact ⟨h1, al b h2⟩
  · unfold addO at e e'
    by_cases q : j = k
    · rw [if_pos q] at e; cases e; cases List.mem_singleton.mp hb
      by_cases q' : j' = k
      · exact hne (q.trans q'.symm)
      · rw [if_neg q'] at e'; exact nsz _ _ e' hb'
    · rw [if_neg q] at e
      by_cases q' : j' = k
      · rw [if_pos q'] at e'; cases e'; cases List.mem_singleton.mp hb'; exact nsz _ _ e hb
      · rw [if_neg q'] at e'; exact wf.apart j j' f f' e e' hne b hb hb'
theorem any_firstMet (ns : List Int) (k : Int) : (firstMet (fun i => ns.getD i 0) ns.length).any (· == k) = ns.any (· == k) := by
  rw [firstMet_any]
  congr 1
  refine List.ext_getElem? fun i => ?_
  rw [List.getElem?_map]
  by_cases h : i < ns.length
  · rw [List.getElem?_range h, List.getElem?_eq_getElem h]
    simp [List.getD, List.getElem?_eq_getElem h]
  · rw [List.getElem?_eq_none (by simpa using h), List.getElem?_eq_none (by omega)]; rfl
theorem firstMet_len (ns : List Int) : (firstMet (fun i => ns.getD i 0) ns.length).length ≤ ns.length := firstMet_length_le _ _
theorem callv_set {v : V} {ns : List Int} (k : Nat) {Q} (h : LV H v (ns.map V.int)) (hb : ns.length + 1 < scanBound) (hk : (H.lookup k).isSome = false) (q : ∀ n, n ≤ ns.length → Q (.own k) ((k, .set (fun i => ns.any (· == i)) n) :: H)) :
    CallV C d (.type "set") [v] H Q := fun A E s I O cvs hA wf rs => by
  obtain ⟨c, rfl, r⟩ := rs.one
  obtain ⟨a, vs, n, rfl, h1, r1⟩ := h.get wf r
  have hlen : ns.length = vs.length := by simpa using r1.length
  refine call_set_list hA.handled (isL h1) (by simpa using r1.ints) (by simpa [← hlen] using hb) fun h' tk hS hkeep => ?_
  simp only [List.size_toArray, ← hlen] at hS
  obtain ⟨o, ho, hso⟩ := hS.objOf
  refine post_own (ov := .set (fun i => ns.any (· == i)) _) k wf hk ho (fun b o e => hkeep b o (Heap.lt_size e) e) (fun O' _ _ => ⟨rfl, o, ho, ?_⟩) (q _ (firstMet_len ns))
  have e : (fun k' => (firstMet (fun i => ns.getD i 0) ns.length).any (· == k')) = fun i => ns.any (· == i) := funext (any_firstMet ns)
  rw [e] at hso
  exact hso
end Mine
end PartJ10

section PartJ11
open PySem PySem.W PySem.Calls PyProof.Rows
set_option maxRecDepth 100000
set_option linter.unusedVariables false
namespace Mine
variable {C : Cx} {d : Nat} {sc : Sc} {ρ : Vars} {H : Store}

/-- the store with k changed -/
noncomputable def upd (k : Nat) (ov : OV) : Store → Store
  | [] => [(k, ov)]
  | (j, x) :: r => if j = k then (k, ov) :: r else (j, x) :: upd k ov r
theorem lookup_upd (k : Nat) (ov : OV) (j : Nat) : ∀ H : Store, (upd k ov H).lookup j = if j = k then some ov else H.lookup j
  | [] => by
    unfold upd
    rw [List.lookup_cons]
    by_cases h : j = k
    · subst h; simp
    · rw [if_neg h, show (j == k) = false from by simpa using h]
  | (i, x) :: r => by
    unfold upd
    have ih := lookup_upd k ov j r
    by_cases hi : i = k
    · subst hi
      rw [if_pos rfl, List.lookup_cons, List.lookup_cons]
      by_cases h : j = i
      · subst h; simp
      · rw [if_neg h, show (j == i) = false from by simpa using h]
    · rw [if_neg hi, List.lookup_cons, List.lookup_cons]
      by_cases h : j = i
      · subst h; simp [hi]
      · rw [show (j == i) = false from by simpa using h]
        exact ih

/-- an owned object is changed in place -/
theorem own_upd {I O s} {a : Addr} {f : List Addr} {k : Nat} {h' : Heap} {ov ov' : OV} {tk : Nat} (wf : WF C I O H s) (hk : H.lookup k = some ov) (ho : O k = some (a :: f)) (hs : Heap.SameBut a s.heap h') (ha : (h'.get? a).isSome) (hr : ORel C I O h' a f ov') :
    Step [] I O s I O { s with heap := h', toks := tk } ∧ WF C I O (upd k ov' H) { s with heap := h', toks := tk } := by
  have al : ∀ b, (s.heap.get? b).isSome → (h'.get? b).isSome := fun b e => by
    by_cases q : b = a
    · rw [q]; exact ha
    · rw [hs.2 b q]; exact e
  have off := wf.off k _ ho a (.head _)
  refine ⟨⟨fun _ _ e => e, fun _ _ e => .inl e, fun _ _ e => e, fun _ _ e => .inl e, fun b o e h1 _ => (hs.2 b fun q => h1 ⟨k, _, ho, q ▸ .head _⟩).trans e, al, rfl, rfl, rfl⟩,
    ⟨wf.base, fun b o e => (hs.2 b fun q => by rw [q, off.1] at e; cases e).trans (wf.has b o e), fun j => ?_, fun j x e => ?_, fun j f e b hb => ⟨(wf.off j f e b hb).1, al b (wf.off j f e b hb).2⟩, wf.apart⟩⟩
  · rw [lookup_upd]
    by_cases q : j = k
    · subst q; rw [if_pos rfl, wf.dom j, hk]; rfl
    · rw [if_neg q]; exact wf.dom j
  · rw [lookup_upd] at e
    by_cases q : j = k
    · subst q
      rw [if_pos rfl] at e
      cases e
      exact ⟨a, f, ho, hr⟩
    · rw [if_neg q] at e
      obtain ⟨b, g, h1, h2⟩ := wf.rel j x e
      refine ⟨b, g, h1, h2.mono (fun _ _ e => e) (fun _ _ e => e) fun c hc o e => (hs.2 c fun q' => ?_).trans e⟩
      exact wf.apart j k _ _ h1 ho q c hc (q' ▸ .head _)

theorem WF.ownL {I O s k xs} {cv : Value} (wf : WF C I O H s) (hk : H.lookup k = some (.list xs)) (r : VRel I O (.own k) cv) : ∃ a vs n, cv = .ref a ∧ O k = some [a] ∧ s.heap.get? a = some (lobj vs n) ∧ VRels I O xs vs := by
  obtain ⟨a, f, e, ho⟩ := r.own_inv
  obtain ⟨vs, n, h1, rs, rfl⟩ := wf.own hk ho
  exact ⟨a, vs, n, e, ho, h1, rs⟩

theorem callv_append {k : Nat} {v : V} {xs : List V} {Q} (hk : H.lookup k = some (.list xs)) (hl : xs.length ≤ 100000) (q : Q .none (upd k (.list (xs ++ [v])) H)) : CallV C d (.builtin "list.append") [.own k, v] H Q :=
  fun A E s I O cvs hA wf rs => by
  obtain ⟨c, e, rfl, r1, r2⟩ := rs.two
  obtain ⟨a, vs, n, rfl, ho, h1, r⟩ := wf.ownL hk r1
  refine wpAny_list_append_plain (items := vs.toArray) ⟨n, h1⟩ (fun h' ⟨n', hp⟩ hs => ?_) (by rw [List.size_toArray, ← r.length, sizeLine_eq]; omega)
  obtain ⟨st, wf'⟩ := own_upd (tk := s.toks) wf hk ho hs (by rw [hp]; rfl) (ov' := .list (xs ++ [v])) ⟨rfl, vs ++ [e], n', by simpa using hp, r.snoc r2⟩
  exact ⟨I, O, _, .none, st, wf', .none, q⟩
theorem callv_reverse {k : Nat} {xs : List V} {Q} (hk : H.lookup k = some (.list xs)) (hl : xs.length ≤ 100000) (q : Q .none (upd k (.list xs.reverse) H)) : CallV C d (.builtin "list.reverse") [.own k] H Q :=
  fun A E s I O cvs hA wf rs => by
  obtain ⟨c, rfl, r1⟩ := rs.one
  obtain ⟨a, vs, n, rfl, ho, h1, r⟩ := wf.ownL hk r1
  refine call_meets PySem.F.slot_list_reverse ⟨_, h1, rfl⟩ PySem.F.entry_list_reverse (PySem.F.args_list_reverse_1 _) (AutoSeq1.list_reverse_list_0 a vs.toArray n (by rw [List.size_toArray, ← r.length, sizeLine_eq]; omega)) ⟨h1, ?_⟩
  have hp : (s.heap.update a (Obj.mapSeq fun x => x.reverse)).get? a = some (lobj vs.reverse n) := by
    rw [Heap.get?_update_self _ h1 (by rw [mapSeq_reverse]; rfl), mapSeq_reverse]
  have rev : ∀ {xs vs}, VRels I O xs vs → VRels I O xs.reverse vs.reverse := fun {xs vs} h => by
    induction vs generalizing xs with
    | nil => cases h; exact .nil
    | cons v vs ih => cases h with | cons a r => rw [List.reverse_cons, List.reverse_cons]; exact (ih r).snoc a
  obtain ⟨st, wf'⟩ := own_upd (tk := s.toks) wf hk ho (Heap.SameBut.update ..) (by rw [hp]; rfl) (ov' := .list xs.reverse) ⟨rfl, vs.reverse, n, hp, rev r⟩
  exact ⟨I, O, _, .none, st, wf', .none, q⟩
theorem setOf_own {I O s k S n} {cv : Value} (wf : WF C I O H s) (hk : H.lookup k = some (.set S n)) (r : VRel I O (.own k) cv) : ∃ a o, cv = .ref a ∧ O k = some [a] ∧ s.heap.get? a = some o ∧ o.SetObjOf (intKind C.p C.w) S n := by
  obtain ⟨a, f, e, ho⟩ := r.own_inv
  obtain ⟨a', f', g1, rfl, o, h1, h2⟩ := wf.rel k _ hk
  rw [ho] at g1
  cases g1
  exact ⟨a, o, e, ho, h1, h2⟩
theorem callv_add {k : Nat} {i : Int} {S : Int → Bool} {n : Nat} {Q} (hk : H.lookup k = some (.set S n)) (hb : n + 1 < scanBound) (q : Q .none (upd k (.set (fun j => S j || decide (j = i)) (if S i then n else n + 1)) H)) :
    CallV C d (.builtin "set.add") [.own k, .int i] H Q := fun A E s I O cvs hA wf rs => by
  obtain ⟨c, e, rfl, r1, r2⟩ := rs.two
  obtain ⟨a, o, rfl, ho, h1, h2⟩ := setOf_own wf hk r1
  obtain ⟨t, rfl⟩ := r2.int_inv
  refine call_set_add (knd := intKind C.p C.w) (intKind_is _ _ _ _) rfl (h2.setOf h1 (by omega)) hb fun h' hs hS => ?_
  obtain ⟨o', ho', hso'⟩ := hS.objOf
  obtain ⟨st, wf'⟩ := own_upd (tk := s.toks + 1) wf hk ho hs (by rw [ho']; rfl) (ov' := .set _ _) ⟨rfl, o', ho', hso'⟩
  exact ⟨I, O, _, .none, st, wf', .none, q⟩
theorem cmp_notinSet {k : Nat} {i : Int} {S : Int → Bool} {n : Nat} {Q} (hk : H.lookup k = some (.set S n)) (hb : n < scanBound) (q : Q (!S i) H) : Cmp C d .NotIn (.int i) (.own k) H Q := fun A E s I O ca cb hA wf ra rb => by
  obtain ⟨a, o, rfl, ho, h1, h2⟩ := setOf_own wf hk rb
  obtain ⟨t, rfl⟩ := ra.int_inv
  exact wpAny_notInSet_of (knd := intKind C.p C.w) (intKind_is _ _ _ _) rfl (h2.setOf h1 hb) ⟨_, rfl, post_b wf q⟩

/-- the class of what a method is called on -/
noncomputable def VType (H : Store) (v : V) (T : String) : Prop := (T = "str" ∧ ∃ x, v = .str x) ∨ (T = "list" ∧ ∃ xs, LV H v xs) ∨ (T = "set" ∧ ∃ k S n, v = .own k ∧ H.lookup k = some (.set S n))
theorem VType.is {I O s v cv T} (x : VType H v T) (wf : WF C I O H s) (r : VRel I O v cv) : s.TypeIs cv T ∧ ∀ a, cv = .ref a → ∃ ob, s.heap.get? a = some ob ∧ ob.dict = none := by
  rcases x with ⟨rfl, x, rfl⟩ | ⟨rfl, xs, hx⟩ | ⟨rfl, k, S, n, rfl, hk⟩
  · obtain ⟨t, rfl⟩ := r.str_inv
    exact ⟨typeIs_str _ _ _, fun _ e => nomatch e⟩
  · obtain ⟨a, vs, n, rfl, h1, _⟩ := hx.get wf r
    exact ⟨⟨_, h1, rfl⟩, fun b e => by cases e; exact ⟨_, h1, rfl⟩⟩
  · obtain ⟨a, o, rfl, ho, h1, h2⟩ := setOf_own wf hk r
    have hS := h2.setOf (h := s.heap) h1
    refine ⟨⟨o, h1, h2.1.1⟩, fun b e => by cases e; exact ⟨o, h1, h2.1.2.1⟩⟩
theorem VType.str (x : Str) : VType H (.str x) "str" := .inl ⟨rfl, x, rfl⟩
theorem VType.list {v xs} (h : LV H v xs) : VType H v "list" := .inr (.inl ⟨rfl, xs, h⟩)
theorem VType.set {k S n} (h : H.lookup k = some (.set S n)) : VType H (.own k) "set" := .inr (.inr ⟨rfl, k, S, n, rfl, h⟩)

theorem ev_meth1 {o e es name apos pos T id Q} (pa : PlainAttrs T) (slot : Slot T name id) (hty : typeOf (.builtin id) = pure (.type "method_descriptor"))
    (h : Ev C d sc ρ o H fun ov H₁ => VType H₁ ov T ∧ Es C d sc ρ (e :: es) H₁ fun vs H₂ => CallV C d (.builtin id) (ov :: vs) H₂ Q)
    (hbase : ∀ env, attributeBase o name env (eval o env) = eval o env := by intro _; rfl)
    (hfew : ∀ env, ((backTo pos (starEach (e :: es) env)).all (fun x => !x.1) && (backToKw pos (keywordEach [] env)).all (fun x => x.1.isSome)
      && decide ((e :: es).length + ([] : List Keyword).length + (if ([] : List Keyword).isEmpty then 0 else 1) < 30)) = true := by intro _; rfl)
    (hline : (apos.endLine == pos.line) = true := by rfl)
    (he : ∀ env, starEach (e :: es) env = (false, eval e env) :: starEach es env := by intro _; rfl) (hp : ∀ env, (backTo pos (starEach es env)).any (·.1) = false := by intro _; rfl) :
    Ev C d sc ρ (.Call (.Attribute o name apos) (e :: es) [] pos) H Q := fun A E s env fa I O hA hE wf => by
  refine wpAny_Call_method_lateS (hbase env) (hfew env) hline (wpAny_mono (h A E s env fa I O hA hE wf) (fun cv s₁ ⟨I₁, O₁, H₁, v, st₁, wf₁, rv, qq⟩ => ?_) fun _ _ e => e)
  obtain ⟨ht, q₁⟩ := qq
  obtain ⟨t1, t2⟩ := ht.is wf₁ rv
  refine ⟨T, id, pa, slot, hty, t1, t2, PyProof.Rows.callWith_method1 (wpAny_mono (q₁ A E s₁ env fa I₁ O₁ pos hA (hE.step st₁) wf₁) (fun cvs s₂ ⟨I₂, O₂, H₂, vs, st₂, wf₂, rvs, q₂⟩ => ?_) fun _ _ e => e) (he env) (hp env)⟩
  exact wpAny_mono (q₂ A E s₂ I₂ O₂ (cv :: cvs) hA wf₂ (.cons (rv.mono st₂.sub st₂.oext) rvs)) (fun _ _ x => x.from (st₁.trans st₂)) fun _ _ e => e
theorem ev_meth0 {o name apos pos T id Q} (pa : PlainAttrs T) (slot : Slot T name id) (hty : typeOf (.builtin id) = pure (.type "method_descriptor"))
    (h : Ev C d sc ρ o H fun ov H₁ => VType H₁ ov T ∧ CallV C d (.builtin id) [ov] H₁ Q)
    (hbase : ∀ env, attributeBase o name env (eval o env) = eval o env := by intro _; rfl)
    (hline : (apos.endLine == pos.line) = true := by rfl) : Ev C d sc ρ (.Call (.Attribute o name apos) [] [] pos) H Q := fun A E s env fa I O hA hE wf => by
  refine wpAny_Call_method_lateS (hbase env) rfl hline (wpAny_mono (h A E s env fa I O hA hE wf) (fun cv s₁ ⟨I₁, O₁, H₁, v, st₁, wf₁, rv, qq⟩ => ?_) fun _ _ e => e)
  obtain ⟨ht, q₁⟩ := qq
  obtain ⟨t1, t2⟩ := ht.is wf₁ rv
  refine ⟨T, id, pa, slot, hty, t1, t2, PyProof.Rows.callWith_method0 ?_⟩
  exact wpAny_mono (q₁ A E s₁ I₁ O₁ [cv] hA wf₁ (.cons rv .nil)) (fun _ _ x => x.from st₁) fun _ _ e => e
theorem callv_join {x : Str} {v : V} {ys : List Str} {Q} (h : LV H v (ys.map V.str)) (hok : (ys.map (·.length)).sum + ys.length * x.length ≤ 16777216) (q : Q (.str (Txt.join x ys)) H) : CallV C d (.builtin "str.join") [.str x, v] H Q :=
  fun A E s I O cvs hA wf rs => by
  obtain ⟨c, e, rfl, r1, r2⟩ := rs.two
  obtain ⟨t, rfl⟩ := r1.str_inv
  obtain ⟨a, vs, n, rfl, h1, r⟩ := h.get wf r2
  exact join_list (isL h1) (by simpa using r.strs) hok fun t' k => post_val wf (.str _ _) q
theorem callv_upper {x : Str} {Q} (hl : x.length ≤ 5592405) (q : Q (.str (Txt.upper x)) H) : CallV C d (.builtin "str.upper") [.str x] H Q := fun A E s I O cvs hA wf rs => by
  obtain ⟨c, rfl, r1⟩ := rs.one
  obtain ⟨t, rfl⟩ := r1.str_inv
  exact SC.upper (fit_upper hl) (post_val wf (.str _ _) q)
theorem callv_lower {x : Str} {Q} (hl : x.length ≤ 5592405) (q : Q (.str (Txt.lower x)) H) : CallV C d (.builtin "str.lower") [.str x] H Q := fun A E s I O cvs hA wf rs => by
  obtain ⟨c, rfl, r1⟩ := rs.one
  obtain ⟨t, rfl⟩ := r1.str_inv
  exact SC.lower (fit_lower hl) (post_val wf (.str _ _) q)
theorem callv_count {x y : Str} {Q} (q : Q (.int (Txt.count x y)) H) : CallV C d (.builtin "str.count") [.str x, .str y] H Q := fun A E s I O cvs hA wf rs => by
  obtain ⟨c, e, rfl, r1, r2⟩ := rs.two
  obtain ⟨t, rfl⟩ := r1.str_inv
  obtain ⟨u, rfl⟩ := r2.str_inv
  exact SC.count (post_val wf (.int _ _) q)
end Mine
end PartJ11

section PartJ12
open PySem PySem.W PySem.Calls PyProof.Rows
set_option maxRecDepth 100000
set_option linter.unusedVariables false
namespace Mine
variable {C : Cx} {d : Nat} {sc : Sc} {ρ : Vars} {H : Store}

theorem bindL_off {k : Str → Option NameKind} {x : Str} : ∀ {binds : List (Str × Value)} {m : Str → Option Value}, x ∉ binds.map (·.1) → bindL k binds m x = m x
  | [], _, _ => rfl
  | (n, v) :: r, m, h => by
    simp only [List.map_cons, List.mem_cons, not_or] at h
    unfold bindL
    rw [bindL_off h.2]
    by_cases q : k n = some .local
    · rw [if_pos q, if_neg h.1]
    · rw [if_neg q]
theorem bindL_get {k : Str → Option NameKind} {x : Str} {v : Value} (hk : k x = some .local) : ∀ {binds : List (Str × Value)} {m : Str → Option Value}, (binds.map (·.1)).Nodup → binds.lookup x = some v → bindL k binds m x = some v
  | [], _, _, h => by cases h
  | (n, u) :: r, m, hn, h => by
    rw [List.map_cons, List.nodup_cons] at hn
    rw [List.lookup_cons] at h
    unfold bindL
    by_cases q : x = n
    · subst q
      simp only [beq_self_eq_true, Option.some.injEq] at h
      rw [bindL_off hn.1, if_pos hk, if_pos rfl, h]
    · rw [show (x == n) = false from by simpa using q] at h
      exact bindL_get hk hn.2 h
theorem bindC_off {k : Str → Option NameKind} {x : Str} : ∀ {binds : List (Str × Value)} {m : Str → Option Value}, x ∉ binds.map (·.1) → bindC k binds m x = m x
  | [], _, _ => rfl
  | (n, v) :: r, m, h => by
    simp only [List.map_cons, List.mem_cons, not_or] at h
    unfold bindC
    rw [bindC_off h.2]
    by_cases q : k n = some .local
    · rw [if_pos q]
    · rw [if_neg q, if_neg h.1]
theorem bindC_get {k : Str → Option NameKind} {x : Str} {v : Value} (hk : k x ≠ some .local) : ∀ {binds : List (Str × Value)} {m : Str → Option Value}, (binds.map (·.1)).Nodup → binds.lookup x = some v → bindC k binds m x = some v
  | [], _, _, h => by cases h
  | (n, u) :: r, m, hn, h => by
    rw [List.map_cons, List.nodup_cons] at hn
    rw [List.lookup_cons] at h
    unfold bindC
    by_cases q : x = n
    · subst q
      simp only [beq_self_eq_true, Option.some.injEq] at h
      rw [bindC_off hn.1, if_neg hk, if_pos rfl, h]
    · rw [show (x == n) = false from by simpa using q] at h
      exact bindC_get hk hn.2 h
theorem cellsFrom_names : ∀ (L : Nat) (names : List (Str × NameKind)) (acc : List (Str × Addr)), (cellsFrom L names acc).map (·.1) = ((names.filter (·.2 == .cell)).map (·.1)).reverse ++ acc.map (·.1)
  | L, [], acc => by simp [cellsFrom]
  | L, (n, k) :: r, acc => by
    unfold cellsFrom
    by_cases hk : (k == .cell) = true
    · rw [if_pos hk, cellsFrom_names (L + 1) r _]; simp [List.filter_cons, hk]
    · rw [if_neg hk, cellsFrom_names L r _]; simp [List.filter_cons, hk]
theorem lookup_mem {α : Type} : ∀ {l : List (Str × α)} {x : Str}, x ∈ l.map (·.1) → ∃ a, l.lookup x = some a
  | (n, a) :: r, x, h => by
    rw [List.lookup_cons]
    by_cases q : x = n
    · subst q; exact ⟨a, by simp⟩
    · rw [show (x == n) = false from by simpa using q]
      rw [List.map_cons] at h
      rcases List.mem_cons.mp h with h | h
      · exact absurd h q
      · exact lookup_mem h

structure Fn (C : Cx) (f : Str) (params : List Str) (names : List (Str × NameKind)) (body : List Stmt) : Prop where
  ex : ∃ a o fd, C.mg f = some (.ref a) ∧ C.B.get? a = some o ∧ o.data = .func fd ∧ C.B.CodeRec fd.code fd.qualname ∧ fd.body = .stmts body ∧ fd.closure = [] ∧ fd.scope.names = names ∧ fd.scope.kind = .function ∧ fd.scope.isCoroutine = false ∧
    fd.scope.isGenerator = false ∧ fd.globals = mainGlobals ∧ fd.builtins = builtinsNs ∧ ∀ vals : List Value, vals.length = params.length → bindArgs fd ⟨vals, []⟩ = pure (params.zip vals)
  nodup : (names.map (·.1)).Nodup
  par : params.Nodup
  kinds : ∀ x ∈ params, names.lookup x = some .local ∨ names.lookup x = some .cell

noncomputable def Returns (Q : V → Store → Prop) : Fl → Vars → Store → Prop
  | .ret v, _, H => Q v H
  | .next, _, H => Q .none H
  | _, _, _ => False
noncomputable def fnSc (names : List (Str × NameKind)) : Sc := ⟨names, ownN names⟩

noncomputable def FdOk (C : Cx) (fd : FuncData) (params : List Str) (names : List (Str × NameKind)) (body : List Stmt) : Prop := C.B.CodeRec fd.code fd.qualname ∧ fd.body = .stmts body ∧ fd.closure = [] ∧ fd.scope.names = names ∧ fd.scope.kind = .function ∧ fd.scope.isCoroutine = false ∧
    fd.scope.isGenerator = false ∧ fd.globals = mainGlobals ∧ fd.builtins = builtinsNs ∧ ∀ vals : List Value, vals.length = params.length → bindArgs fd ⟨vals, []⟩ = pure (params.zip vals)
structure Sig (params : List Str) (names : List (Str × NameKind)) : Prop where
  nodup : (names.map (·.1)).Nodup
  par : params.Nodup
  kinds : ∀ x ∈ params, names.lookup x = some .local ∨ names.lookup x = some .cell
noncomputable def CodeV (C : Cx) (d : Nat) (fv : Value) (vs : List V) (H : Store) (Q : V → Store → Prop) : Prop :=
  ∀ A (E : Value → Shared → Prop) s I O cvs, AOk d A → WF C I O H s → VRels I O vs cvs → codeAny C.M A (.call fv ⟨cvs, []⟩) (fun r s' => match r with | .ok (.ret v) => Post C I O s Q v s' | .ok _ => False | .error e => E e s') s
theorem CodeV.call {fv vs Q} (h : CodeV C d fv vs H Q) : CallV C d fv vs H Q := fun A E s I O cvs hA wf rs => wpAny_call (h A E s I O cvs hA wf rs)
theorem fn_codeG {params names body} {a : Addr} {o : Obj} {fd : FuncData} (hB : C.B.get? a = some o) (hdat : o.data = .func fd) (ok : FdOk C fd params names body) (F : Sig params names) {vs : List V} {Q} (hl : vs.length = params.length) 
    (h : ∀ (A' : Around) (E : Value → Shared → Prop) (s s₁ : Shared) env I O, AOk d A' → WF C I O H s → Step [] I O s I O s₁ → WF C I O H s₁ → env.code = fd.code → (∀ b ∈ env.locals :: env.cells.map (·.2), s.heap.get? b = none) →
      EnvR C I O env (fnSc names) (env.locals :: env.cells.map (·.2)) (params.zip vs) s₁.heap → wpAny C.M A' (execs body env) (fun fl s' => match fl with | .ret cv => Post C I O s Q cv s' | .next => Post C I O s Q .none s' | _ => False) E s₁) :
    CodeV C (d + 1) (.ref a) vs H Q := by
  obtain ⟨hcd, hbody, hclo, hnm, hk, hco, hgen, hglob, hblt, hbind⟩ := ok
  refine fun A E s I O cvs hA wf rs => ?_
  have keep0 : ∀ b o, C.B.get? b = some o → s.heap.get? b = some o := fun b o e => wf.has b o (wf.base b o e)
  have hlen : cvs.length = params.length := by rw [← rs.length]; exact hl
  have hzn : (params.zip cvs).map (·.1) = params := List.map_fst_zip (by omega)
  have hzn' : (params.zip vs).map (·.1) = params := List.map_fst_zip (by omega)
  have hnd : ((params.zip cvs).map (·.1)).Nodup := by rw [hzn]; exact F.par
  have hpk : ∀ x ∈ params.zip cvs, x.1 ∈ params := fun x hx => by rw [← hzn]; exact List.mem_map_of_mem hx
  have cn := cellsFrom_names (s.heap.objs.size + 1) names []
  have cnn : ((cellsFrom (s.heap.objs.size + 1) names []).map (·.1)).Nodup := by
    rw [cn]
    simp only [List.map_nil, List.append_nil]
    have := ((List.filter_sublist (p := fun x : Str × NameKind => x.2 == .cell) (l := names)).map (fun x : Str × NameKind => x.1)).nodup F.nodup
    exact List.pairwise_reverse.mpr (List.Pairwise.imp (fun h => h.symm) this)
  have hasC : ∀ x, names.lookup x = some .cell → ∃ c, (cellsFrom (s.heap.objs.size + 1) names []).lookup x = some c := fun x hx => by
    refine lookup_mem ?_
    rw [cn]
    simp only [List.map_nil, List.append_nil, List.mem_reverse]
    exact List.mem_map.mpr ⟨_, List.mem_filter.mpr ⟨mem_of_lookup hx, rfl⟩, rfl⟩
  refine codeAny_call_cells (o := o) (fd := fd) (body := body) (binds := params.zip cvs) (by have := hA.depth; show A.depth < 1000; omega) (keep0 _ _ hB) hdat wf.nolimit (hcd.keeps keep0) hbody (hbind _ hlen) hclo
    (fun x hx => by
      rw [hnm]
      rcases F.kinds x.1 (hpk x hx) with h | h
      · exact .inl h
      · obtain ⟨c, hc⟩ := hasC _ h
        exact .inr ⟨h, by rw [hc]; rfl⟩) (fun s₁ x => ?_) hco hgen hk
  generalize henv : callEnvC fd s.heap.objs.size a = env at x
  have hL : env.locals = s.heap.objs.size := by rw [← henv]; rfl
  have hcs : env.cells = cellsFrom (s.heap.objs.size + 1) names [] := by rw [← henv, ← hnm]; rfl
  have hks : env.scope = fd.scope := by rw [← henv]; rfl
  have hko : ∀ y, env.kindOf y = names.lookup y := fun y => by show env.scope.names.lookup y = _; rw [hks, hnm]
  obtain ⟨h₁, tk, es⟩ := x.toInCall.same
  subst es
  obtain ⟨st₁, wf₁⟩ := junk (fa := []) (t := tk) wf x.toInCall.keep
  have fresh : ∀ b, s.heap.objs.size ≤ b → s.heap.get? b = none := fun b hb => by
    cases q : s.heap.get? b with
    | none => rfl
    | some o => exact absurd (Heap.lt_size q) (Nat.not_lt.mpr hb)
  have clook : ∀ y c, (y, c) ∈ env.cells → env.cells.lookup y = some c := fun y c hy => lookup_nodup (by rw [hcs]; exact cnn) hy
  have above : ∀ y c, (y, c) ∈ env.cells → s.heap.objs.size < c := fun y c hy => by have := x.above y c hy; rw [hL] at this; exact this
  have hE : EnvR C I O env (fnSc names) (env.locals :: env.cells.map (·.2)) (params.zip vs) h₁ := by
    have pair : ∀ (ps : List Str) (vs : List V) (cvs : List Value), VRels I O vs cvs → ∀ y v, (ps.zip vs).lookup y = some v → ∃ cv, (ps.zip cvs).lookup y = some cv ∧ VRel I O v cv := fun ps => by
      induction ps with
      | nil => intro vs cvs _ y v e; simp at e
      | cons p ps ih =>
        intro vs cvs r y v e
        cases r with
        | nil => simp at e
        | cons a r =>
          rw [List.zip_cons_cons, List.lookup_cons] at e
          rw [List.zip_cons_cons, List.lookup_cons]
          by_cases q : y = p
          · subst q
            simp only [beq_self_eq_true, Option.some.injEq] at e ⊢
            subst e
            exact ⟨_, rfl, a⟩
          · rw [show (y == p) = false from by simpa using q] at e ⊢
            exact ih _ _ r y v e
    refine ⟨by rw [hks]; exact hk, by rw [hks, hnm]; rfl, by rw [← henv]; exact hglob, by rw [← henv]; exact hblt, .head _, ⟨_, x.toInCall.ns, fun y v hy hloc => ?_⟩, fun y v hy hkc => ?_, fun y hy hc => ?_, fun y c hy => ?_, x.apart, fun b hb => ?_⟩
    · obtain ⟨cv, h1, h2⟩ := pair _ _ _ rs y v hy
      exact ⟨cv, bindL_get (by rw [hko]; exact hloc) hnd h1, h2⟩
    · obtain ⟨cv, h1, h2⟩ := pair _ _ _ rs y v hy
      have hym : y ∈ params := by rw [← hzn']; exact List.mem_map_of_mem (mem_of_lookup hy)
      have hkc' : names.lookup y = some .cell := by
        rcases hkc with h | h
        · exact h
        · rcases F.kinds y hym with h' | h'
          · rw [show (fnSc names).ns.lookup y = names.lookup y from rfl, h'] at h; cases h
          · exact h'
      obtain ⟨c, hc⟩ := hasC _ hkc'
      refine ⟨c, cv, by rw [hcs]; exact hc, ?_, h2⟩
      have := x.cell y c (by rw [hcs]; exact hc)
      rwa [bindC_get (by rw [hko, hkc']; decide) hnd h1] at this
    · obtain ⟨c, hc'⟩ := hasC y hc
      exact ⟨c, by rw [hcs]; exact hc', .tail _ (List.mem_map.mpr ⟨_, mem_of_lookup (by rw [hcs]; exact hc'), rfl⟩)⟩
    · exact ⟨⟨_, x.cell y c (clook y c hy)⟩, by rw [hL]; exact Nat.ne_of_gt (above y c hy)⟩
    · have fr : ∀ (P : Prop) b, s.heap.objs.size ≤ b → (h₁.get? b).isSome → (P → I b = none) ∧ ¬ Owns O b ∧ (h₁.get? b).isSome := fun P b hb hs => ⟨fun _ => In.none wf.has (fresh b hb), Own.notMine wf (fresh b hb), hs⟩
      have fc : ∀ (P : Prop) y c, (y, c) ∈ env.cells → (P → I c = none) ∧ ¬ Owns O c ∧ (h₁.get? c).isSome := fun P y c hy => fr P c (Nat.le_of_lt (above y c hy)) (IsCell.some (x.cell y c (clook y c hy)))
      have fl : ∀ (P : Prop), (P → I env.locals = none) ∧ ¬ Owns O env.locals ∧ (h₁.get? env.locals).isSome := fun P => fr P _ (by rw [hL]; exact Nat.le_refl _) (Ns.some x.toInCall.ns)
      rcases hb with rfl | ⟨y, hy⟩ | hb
      · exact fl _
      · exact fc _ y b hy
      · rcases List.mem_cons.mp hb with rfl | hb
        · exact fl _
        · obtain ⟨p, hp, rfl⟩ := List.mem_map.mp hb
          exact fc _ p.1 p.2 hp
  refine wpAny_mono (h (A.deeper env) _ s { s with heap := h₁, toks := tk } env I O hA.deeper wf st₁ wf₁ (by rw [← henv]; rfl) (fun b hb => ?_) hE) (fun fl s₂ hp => ?_) fun _ _ e => e
  · rcases List.mem_cons.mp hb with rfl | hb
    · exact fresh _ (by rw [hL]; exact Nat.le_refl _)
    · obtain ⟨p, hp, rfl⟩ := List.mem_map.mp hb
      exact fresh _ (Nat.le_of_lt (above p.1 p.2 hp))
  · cases fl with
    | next => exact hp
    | ret r => exact hp
    | _ => exact hp.elim

theorem fn_codeA {params names body} {a : Addr} {o : Obj} {fd : FuncData} (hB : C.B.get? a = some o) (hdat : o.data = .func fd) (ok : FdOk C fd params names body) (F : Sig params names) {vs : List V} {Q} (hl : vs.length = params.length) (h : Xs C d (fnSc names) (params.zip vs) body H (Returns Q)) :
    CodeV C (d + 1) (.ref a) vs H Q := by
  refine fn_codeG hB hdat ok F hl fun A' E s s₁ env I O hA wf st₁ wf₁ hcode hfr hE => ?_
  refine wpAny_mono (h A' E s₁ env _ I O hA hE wf₁) (fun fl s₂ ⟨I₂, O₂, H₂, ρ₂, f₂, st₂, wf₂, hE₂, rf, q⟩ => ?_) fun _ _ e => e
  have stF : Step [] I O s I₂ O₂ s₂ := ((st₁.nil (fa := env.locals :: env.cells.map (·.2))).trans st₂).shut hfr
  cases rf with
  | next => exact ⟨I₂, O₂, H₂, .none, stF, wf₂, .none, q⟩
  | brk => exact absurd q id
  | cont => exact absurd q id
  | ret r => exact ⟨I₂, O₂, H₂, _, stF, wf₂, r, q⟩

theorem fn_callA {params names body} {a : Addr} {o : Obj} {fd : FuncData} (hB : C.B.get? a = some o) (hdat : o.data = .func fd) (ok : FdOk C fd params names body) (F : Sig params names) {vs : List V} {Q} (hl : vs.length = params.length) (h : Xs C d (fnSc names) (params.zip vs) body H (Returns Q)) :
    CallV C (d + 1) (.ref a) vs H Q := (fn_codeA hB hdat ok F hl h).call
theorem fn_call {f params names body} (F : Fn C f params names body) {vs : List V} {Q} (hl : vs.length = params.length) (h : Xs C d (fnSc names) (params.zip vs) body H (Returns Q)) :
    ∃ a o fd, C.mg f = some (.ref a) ∧ C.B.get? a = some o ∧ o.data = .func fd ∧ CallV C (d + 1) (.ref a) vs H Q := by
  obtain ⟨a, o, fd, hg, hB, hdat, ok⟩ := F.ex
  exact ⟨a, o, fd, hg, hB, hdat, fn_callA hB hdat ok ⟨F.nodup, F.par, F.kinds⟩ hl h⟩
/-- a call of one of the program's functions -/
theorem ev_callF {f fpos e es pos params names body Q} (F : Fn C f params names body) (hk : sc.ns.lookup f = some .globalImplicit)
    (h : Es C (d + 1) sc ρ (e :: es) H fun vs H₁ => vs.length = params.length ∧ Xs C d (fnSc names) (params.zip vs) body H₁ (Returns Q)) (hd : (f == ("__debug__" : Str)) = false := by decide)
    (he : ∀ env, starEach (e :: es) env = (false, eval e env) :: starEach es env := by intro _; rfl) : Ev C (d + 1) sc ρ (.Call (.Name f fpos) (e :: es) [] pos) H Q := fun A E s env fa I O hA hE wf => by
  rw [arm_eval_Call_Name']
  obtain ⟨a, o, fd, hg, hB, hdat, hcd, hbody, hclo, hnm, hkf, hco, hgen, hglob, hblt, hbind⟩ := F.ex
  refine wpAny_bind (name_global hE wf hk hg ?_ hd)
  refine PyProof.Rows.callWith_def (o := o) (fd := fd) hdat (wpAny_mono (h A E s env fa I O pos hA hE wf) (fun cvs s₁ ⟨I₁, O₁, H₁, vs, st₁, wf₁, rv, qq⟩ => ?_) fun _ _ e => e) (he env)
  obtain ⟨hl, q⟩ := qq
  refine ⟨wf₁.has _ _ (wf₁.base _ _ hB), ?_⟩
  obtain ⟨a', o', fd', hg', _, _, hc⟩ := fn_call F hl q
  rw [hg] at hg'
  cases hg'
  exact wpAny_mono (hc A E s₁ I₁ O₁ cvs hA wf₁ rv) (fun _ _ x => x.from st₁) fun _ _ e => e
end Mine
end PartJ12

section PartJ13
open PySem PySem.W PySem.Calls PyProof.Rows
set_option maxRecDepth 100000
set_option linter.unusedVariables false
namespace Mine
variable {C : Cx} {d : Nat} {sc : Sc} {ρ : Vars} {H : Store}

theorem compL_map {α : Type} {K : Store → Prop} {x : Str} {ifs : List Expr} {elt : Expr} {Q : List V → Store → Prop} (e : α → V) (p : α → Bool) (f : α → V) (hK : K H) : ∀ (as : List α) (ys : List V), ys.length + as.length ≤ 100000 →
    (∀ a ∈ as, Tests C d sc (put x (e a) ρ) ifs H (fun b H' => b = p a ∧ H' = H) ∧ (p a = true → Ev C d sc (put x (e a) ρ) elt H fun y H' => y = f a ∧ H' = H)) → Q (ys ++ (as.filter p).map f) H → CompL C d sc K ρ x ifs elt Q (as.map e) ys H
  | [], ys, _, _, q => ⟨hK, by simpa using q⟩
  | v :: vs, ys, hl, h, q => by
    refine ⟨hK, fun A E s env fa I O hA hE wf => wpAny_mono ((h v (.head _)).1 A E s env fa I O hA hE wf) (fun b s' ⟨I', O', H', st, wf', e1, e2⟩ => ?_) fun _ _ e => e⟩
    replace e2 := e2.symm
    subst e2
    refine ⟨I', O', H, st, wf', fun eb => ?_, fun eb => ?_⟩
    · refine ((h v (.head _)).2 (e1 ▸ eb)).mono fun y H'' ⟨e3, e4⟩ => ?_
      replace e4 := e4.symm
      subst e3 e4
      refine ⟨by simp only [List.length_cons] at hl; omega, compL_map e p f hK vs _ (by simp only [List.length_cons, List.length_append, List.length_nil] at hl ⊢; omega) (fun v hv => h v (.tail _ hv)) ?_⟩
      rw [List.filter_cons, if_pos (e1 ▸ eb)] at q
      simpa using q
    · refine compL_map e p f hK vs ys (by simp only [List.length_cons] at hl; omega) (fun v hv => h v (.tail _ hv)) ?_
      rw [List.filter_cons, if_neg (by rw [← e1, eb]; decide)] at q
      exact q

/-- range(n) gone through -/
noncomputable def rangeV (n : Nat) : List V := (List.range n).map fun i : Nat => V.int (i : Int)
theorem rangeV_get {n i : Nat} (h : i < n) : (rangeV n)[i]? = some (.int i) := by
  unfold rangeV
  rw [List.getElem?_map, List.getElem?_range h]; rfl
theorem range_iter {d : Nat} {n : Nat} {Q : List V → (Store → Prop) → Store → Prop} (hn : n ≤ 100000) (q : Q (rangeV n) (fun _ => True) H) {A E s I O} {b : Int} {t u v : Tok} {r : Addr} {s₀ : Shared} (wf : WF C I O H s) (st₀ : Step [] I O s₀ I O s) (hb : b = n) (hr : IsRange s.heap r 0 b 1 t u v) :
    wpAny C.M A (pyIter (.ref r)) (SrcP C I O s₀ Q) E s := by
  subst hb
  have hsize : Builtin.Range.rangeSize 0 (n : Int) 1 = (n : Int) := by rw [rangeSize_one]; split <;> omega
  refine wpAny_pyIter_range hr ?_ ?_
  · unfold Builtin.Range.small
    rw [hsize]
    have f1 : ∀ m : Int, 0 ≤ m → m ≤ 100000 → Builtin.Range.rangeFitsLong m = true := fun m h1 h2 => by
      unfold Builtin.Range.rangeFitsLong
      simp
      omega
    rw [f1 0 (by omega) (by omega), f1 n (by omega) (by omega), f1 1 (by omega) (by omega)]
    simp [f1 n (by omega) (by omega)]
  obtain ⟨st, wf'⟩ := push_junk (o := { cls := .type "range_iterator", data := .fields #[rawInt 0, rawInt (Builtin.Range.rangeSize 0 (n : Int) 1), rawInt 1] }) wf
  have hnone := get_size_none s.heap
  refine ⟨_, I, O, H, rangeV n, _, [s.heap.objs.size], fun i h => IsRangeIter h s.heap.objs.size (0 + (i : Nat) * 1) ((n : Int) - (i : Nat)) 1, rfl, st₀.trans st, wf', (mem1 (⟨none_of_alive (st₀.alive _) hnone, In.none wf.has hnone, Own.notMine wf hnone⟩)), ?_, fun A' hA' => ?_, q⟩
  · show IsRangeIter _ _ _ _ _
    rw [hsize]
    simpa using Heap.get?_push_size s.heap (o := { cls := .type "range_iterator", data := .fields #[rawInt 0, rawInt (n : Int), rawInt 1] }) rfl
  · have W := Walks.range (prog := C.p) (w := C.w) hA' s.heap.objs.size 0 1 n
    have hlen : (rangeV n).length = n := by simp [rangeV]
    refine ⟨fun i s' E' Q' I' O' H' hi le oe wf'' _ st hQ => ?_, fun s' E' Q' I' O' H' le oe wf'' _ st hQ => ?_, fun i s' E' Q' st hQ => W.self i s' Q' E' st hQ, fun i h h' st hk => W.frame i h h' st hk, fun i h st b hb => by cases List.mem_singleton.mp hb; show (h.get? _).isSome = true; rw [st]; rfl⟩
    · rw [hlen] at hi
      refine W.item i s' Q' E' hi st fun v h' tk ⟨t, e⟩ st' hk => ?_
      subst e
      exact hQ (.int i) _ h' tk (rangeV_get hi) (by simpa using VRel.int (I := I') (O := O') (i : Int) t) st' hk
    · rw [hlen] at st
      exact W.done s' Q' E' st hQ
theorem src_range {fpos e pos Q} (hk : sc.ns.lookup ("range" : Str) = some .globalImplicit) (h : Ev C d sc ρ e H fun v H₁ => ∃ n : Nat, v = .int n ∧ n ≤ 100000 ∧ Q (rangeV n) (fun _ => True) H₁)
    (he : ∀ env, starEach [e] env = [(false, eval e env)] := by intro _; rfl) : Src C d sc ρ (.Call (.Name "range" fpos) [e] [] pos) H Q := fun A E s env fa I O hA hE wf => by
  rw [arm_eval_Call_Name']
  refine wpAny_bind (name_builtin hE wf hk (C.free _ (by decide)) (v := .type "range") (by decide +kernel) (by decide) ?_)
  show wpAny C.M A (callWith pos (.type "range") [] (backTo pos (starEach [e] env)) []) _ E s
  rw [he env]
  refine PySem.callWith_type1 (wpAny_mono (h A E s env fa I O hA hE wf) (fun cv s₁ ⟨I₁, O₁, H₁, v, st₁, wf₁, rv, qq⟩ => ?_) fun _ _ e => e)
  obtain ⟨n, e, hn, q⟩ := qq
  rw [e] at rv
  obtain ⟨t, rfl⟩ := rv.int_inv
  refine call_range_1 ?_
  obtain ⟨st₂, wf₂⟩ := junk (s := s₁) (fa := []) (h' := s₁.heap.push { cls := .type "range", data := .fields #[.int 0 s₁.toks, .int (n : Int) t, .int 1 (s₁.toks + 1)] }) (t := s₁.toks + 1 + 1) wf₁ (fun b o e => get_push e)
  refine wpAny_mono (range_iter (d := d) (s₀ := s₁) hn q wf₂ st₂ rfl (Heap.get?_push_size _ rfl)) (fun it s₃ ⟨a, I', O', H', vs, K, wr, St, e, st, wf', hw, h0, W, hq⟩ => ?_) fun _ _ e => e
  exact ⟨a, I', O', H', vs, K, wr, St, e, st₁.trans st, wf', fun b hb => ⟨none_of_alive (st₁.alive b) (hw b hb).1, (hw b hb).2⟩, h0, W, hq⟩

/-- a statement that is an expression -/
theorem ex_expr {e pos Q} (h : Ev C d sc ρ e H fun _ H₁ => Q .next ρ H₁) (hs : ∀ env, swapsWith e none pos.line env = pure false := by intro _; rfl) : Ex C d sc ρ (.Expr e pos) H Q := fun A E s env fa I O hA hE wf => by
  refine wpAny_Expr_any (wpAny_mono (h A E s env fa I O hA hE wf) (fun cv s₁ ⟨I₁, O₁, H₁, v, st₁, wf₁, rv, q⟩ => ?_) fun _ _ e => e) (by unfold interactive; rw [hE.kind]; rfl) (hs env)
  exact ⟨I₁, O₁, H₁, ρ, .next, st₁.nil, wf₁, hE.step st₁, .next, q⟩

/-- index on a list of strs -/
theorem eqGives_str (x y : Str) (t u : Tok) : PySem.MeetsSeq.EqGives (.str x t) (.str y u) (x == y) := fun _ _ _ _ _ _ h => eqBool_str h
noncomputable def isStr (k : Str) : Value → Bool
  | .str x _ => x == k
  | _ => false
theorem callv_index {v : V} {xs : List Str} {k : Str} {Q} (h : LV H v (xs.map V.str)) (hl : xs.length ≤ 100000) (hk : k ∈ xs) (q : Q (.int (xs.idxOf k : Nat)) H) : CallV C d (.builtin "list.index") [v, .str k] H Q := fun A E s I O cvs hA wf rs => by
  obtain ⟨c, e, rfl, r1, r2⟩ := rs.two
  obtain ⟨a, vs, n, rfl, h1, r⟩ := h.get wf r1
  obtain ⟨t, rfl⟩ := r2.str_inv
  have hlen : vs.length = xs.length := by simpa using r.length.symm
  have hi : xs.idxOf k < xs.length := List.idxOf_lt_length_iff.mpr hk
  have at_ : ∀ j (hj : j < vs.length) (hj' : j < xs.length), ∃ u, vs[j] = .str xs[j] u := fun j hj hj' => by
    obtain ⟨v, e1, e2⟩ := r.get j (.str xs[j]) (by simp [hj'])
    obtain ⟨u, rfl⟩ := e2.str_inv
    rw [List.getElem?_eq_getElem hj] at e1
    exact ⟨u, Option.some.inj e1⟩
  refine call_meets PySem.F.slot_list_index ⟨_, h1, rfl⟩ PySem.F.entry_list_index (PySem.F.args_list_index_2 _ _)
    (PySem.MeetsSeq.list_index a vs.toArray n (.str k t) (isStr k) (fun y hy => ?_) (xs.idxOf k) (by rw [List.size_toArray]; omega) (by omega) ?_ (fun m hm hlt => ?_)) ⟨h1, post_val wf (.int _ _) q⟩
  · obtain ⟨j, hj, rfl⟩ := List.getElem_of_mem (by simpa using hy : y ∈ vs)
    obtain ⟨u, e⟩ := at_ j hj (by omega)
    rw [e]
    exact eqGives_str _ _ _ _
  · obtain ⟨u, e⟩ := at_ _ (by omega) hi
    rw [List.getElem_toArray, e]
    show (xs[xs.idxOf k] == k) = true
    simp
  · have hm' : m < vs.length := by simpa using hm
    obtain ⟨u, e⟩ := at_ m hm' (by omega)
    rw [List.getElem_toArray, e]
    show (xs[m] == k) = false
    exact Bool.eq_false_iff.mpr (by simpa using List.not_of_lt_findIdx (p := fun z => z == k) (xs := xs) hlt)
theorem VRels.of_get {I : Part} {O : Own} {xs : List V} : ∀ {vs : List Value}, xs.length = vs.length → (∀ (i : Nat) x v, xs[i]? = some x → vs[i]? = some v → VRel I O x v) → VRels I O xs vs := by
  induction xs with
  | nil => intro vs hl _; rw [List.eq_nil_of_length_eq_zero hl.symm]; exact .nil
  | cons x xs ih =>
    intro vs hl h
    obtain ⟨v, vs, rfl⟩ := List.exists_cons_of_length_eq_add_one hl.symm
    exact .cons (h 0 x v rfl rfl) (ih (Nat.succ.inj hl) fun i x v e1 e2 => h (i + 1) x v e1 e2)
/-- list(str), to be changed -/
theorem callv_listS {x : Str} (k : Nat) {Q} (hl : x.cps.size ≤ 100000) (hk : (H.lookup k).isSome = false) (q : Q (.own k) ((k, .list (signs x)) :: H)) : CallV C d (.type "list") [.str x] H Q := fun A E s I O cvs hA wf rs => by
  obtain ⟨c, rfl, r⟩ := rs.one
  obtain ⟨t, rfl⟩ := r.str_inv
  refine call_list_str hA.handled x t (fun h' tk acc c' hkeep ho hit => ?_) (by rw [sizeLine_eq]; omega)
  refine post_own (ov := .list (signs x)) k wf hk ho hkeep (fun O' _ _ => ⟨rfl, acc.toList, c', ho, ?_⟩) q
  refine VRels.of_get (by simp [signs, hit.1]) fun i y v e1 e2 => ?_
  obtain ⟨ch, u, g1, rfl⟩ := hit.2 i v (by simpa using e2)
  have e1' : (signs x)[i]? = some (.str ⟨#[ch]⟩) := by simp [signs, g1]
  rw [e1'] at e1
  cases e1
  exact .str _ _
end Mine
end PartJ13

section PartJ14
open PySem PySem.W PySem.Calls PyProof.Rows
set_option maxRecDepth 100000
set_option linter.unusedVariables false
namespace Mine
variable {C : Cx} {d : Nat} {sc : Sc} {ρ : Vars} {H : Store}

noncomputable def CompL2 (C : Cx) (d : Nat) (sc : Sc) (ρ : Vars) (x y : Str) (elt : Expr) (Q : List V → Store → Prop) : List (V × V) → List V → Store → Prop
  | [], ys, H => Q ys H
  | (u, v) :: vs, ys, H => Ev C d sc (put y v (put x u ρ)) elt H fun z H₂ => ys.length ≤ 100000 ∧ CompL2 C d sc ρ x y elt Q vs (ys ++ [z]) H₂

theorem comp_core2 {A I₀ O₀ s₀ I O s env fa elt iter x y px py k tp scope pos a} {vs : List (V × V)} {wr : List Addr} {St : Nat → Heap → Prop} {Mid} {Q : List V → Store → Prop} {RR : Value → Addr → Result → Shared → Prop} {E : Value → Shared → Prop}
    (hA : AOk d A) (hE₀ : EnvR C I₀ O₀ env sc fa ρ s₀.heap) (st : Step [] I₀ O₀ s₀ I O s) (wf : WF C I O H s)
    (ok : ScopeOk sc ρ scope.names) (hkind : scope.kind = .function) (hx : Stores (compSc sc scope.names) x) (hy : Stores (compSc sc scope.names) y) (hx0 : (freeVars scope.names ρ).lookup x = none) (hy0 : (freeVars scope.names ρ).lookup y = none)
    (hw : ∀ b ∈ wr, s₀.heap.get? b = none ∧ I b = none ∧ ¬ Owns O b) (h0 : St 0 s.heap) (W : Wk2 C A a vs I O wr St Mid)
    (q : CompL2 C d (compSc sc scope.names) (freeVars scope.names ρ) x y elt Q vs [] H)
    (fin : ∀ I' O' H' D C₁ ys s', Step [] I₀ O₀ s₀ I' O' s' → WF C I' O' H' s' → VRel I' O' (.list ys) (.ref D) → Q ys H' → (∃ m, s'.heap.Ns C₁ m) → s₀.heap.get? C₁ = none → I' C₁ = none → ¬ Owns O' C₁ → RR (.ref D) C₁ (.ok .next) s') :
    wpAny C.M A (newList []) (fun acc s₃ => wpAny C.M A (newFunctionEnv scope env.globals (clOf env.cells scope.names []) [] env.qual none .none (some env)) (fun cenv s₄ =>
      codeAny C.M A (.compStart (.ListComp elt [⟨.Tuple [.Name x px, .Name y py] k tp, iter, [], 0⟩] scope pos) 0 (.ref a) acc { cenv with scope := relabel scope env }) (RR acc cenv.locals) s₄) E s₃) E s := by
  refine wpAny_newObj_type ?_
  have hn := get_size_none s.heap
  generalize hD : s.heap.objs.size = D at hn
  have hDf : ∀ (o : Obj), o.isFreed = false → (s.heap.push o).get? D = some o := fun o e => hD ▸ Heap.get?_push_size _ e
  obtain ⟨st₁, wf₁⟩ := push_junk (o := { cls := .type "list", dict := none, data := .seq ([] : List Value).toArray }) wf
  have hE := hE₀.step st
  have hE₁ := hE.step st₁
  generalize hs₁ : ({ s with heap := s.heap.push { cls := .type "list", dict := none, data := .seq ([] : List Value).toArray } } : Shared) = s₁ at st₁ wf₁ hE₁
  have hD₁ : s₁.heap.get? D = some (lobj [] 0) := by rw [← hs₁]; exact hDf _ rfl
  refine newCompEnv ?_
  obtain ⟨fa', hfa', hmem, hcE, hk, hcl⟩ := comp_env hE₁ wf₁ ok hkind
  obtain ⟨st₂, wf₂⟩ := junk (fa := []) (t := s₁.toks) wf₁ hk
  generalize hcenv : ({ scope := relabel scope env, locals := s₁.heap.objs.size, globals := env.globals, cells := cellsFrom (s₁.heap.objs.size + 1) scope.names (clOf env.cells scope.names []), qual := env.qual, func := none, code := env.code, frame := env.frame, builtins := env.builtins } : Env) = cenv at hcE
  have hloc : cenv.locals = s₁.heap.objs.size := by rw [← hcenv]
  have hcc : ∀ x c, (x, c) ∈ cenv.cells → (∃ y, (y, c) ∈ env.cells) ∨ s₁.heap.get? c = none := by rw [← hcenv]; exact hcl
  generalize hs₂ : ({ s₁ with heap := pushCells (s₁.heap.push { cls := .type "dict", data := .dict #[] }) scope.names, toks := s₁.toks } : Shared) = s₂ at st₂ wf₂
  have hcE : EnvR C I O cenv (compSc sc scope.names) fa' (freeVars scope.names ρ) s₂.heap := by rw [← hs₂]; exact hcE
  have hs2h : ∀ b o, s₁.heap.get? b = some o → s₂.heap.get? b = some o := by rw [← hs₂]; exact hk
  have st₁₂ := st₁.trans st₂
  have st' := st.trans st₁₂
  have lw : ∀ b ∈ wr, (s.heap.get? b).isSome := W.live _ _ h0
  have hDw : D ∉ wr := fun h => by have := lw D h; rw [hn] at this; cases this
  have hfa₀ : ∀ b ∈ fa', s₀.heap.get? b = none := fun b hb => none_of_alive ((st.trans st₁).alive b) (hfa' b hb)
  have hD0 : s₀.heap.get? D = none := none_of_alive (st.alive D) hn
  have hwr0 : ∀ b ∈ D :: wr, s₀.heap.get? b = none := memc hD0 fun b hb => (hw b hb).1
  have hal₁ : ∀ b ∈ D :: wr, (s₁.heap.get? b).isSome := memc (by rw [hD₁]; rfl) fun b hb => st₁.alive b (lw b hb)
  have hnfa : ∀ b ∈ D :: wr, b ∉ fa' := fun b hb h => by have := hal₁ b hb; rw [hfa' b h] at this; cases this
  have dis : ∀ b ∈ D :: wr, b ≠ cenv.locals ∧ (∀ x, (x, b) ∉ cenv.cells) ∧ b ∉ fa' := fun b hb =>
    ⟨fun e => hnfa b hb (by rw [e, hloc]; exact hmem), fun y hy => (hcc y b hy).elim
      (fun ⟨z, hz⟩ => by have := (hE₀.off b (.inr (.inl ⟨z, hz⟩))).2.2; rw [hwr0 b hb] at this; cases this)
      (fun h => by have := hal₁ b hb; rw [h] at this; cases this), hnfa b hb⟩
  have hDI : I D = none := In.none wf.has hn
  have hDO : ¬ Owns O D := Own.notMine wf hn
  have hp0 : ∀ b ∈ D :: wr, I b = none ∧ ¬ Owns O b := memc ⟨hDI, hDO⟩ fun b hb => ⟨(hw b hb).2.1, (hw b hb).2.2⟩
  have kept : ∀ b o, b ∈ D :: wr → s₁.heap.get? b = some o → s₂.heap.get? b = some o := fun b o _ e => hs2h b o e
  have h0₁ : St 0 s₁.heap := W.frame _ _ _ h0 fun b hb o e => st₁.keep b o e (hw b hb).2.2 fun h => nomatch h
  have h0₂ : St 0 s₂.heap := W.frame _ _ _ h0₁ fun b hb o e => hs2h b o e
  have stD : Step fa' I₀ O₀ s₀ I O s₂ := st'.nil
  have loop : ∀ R : Result → Shared → Prop, (∀ I' O' H' ys s', Step [] I₀ O₀ s₀ I' O' s' → WF C I' O' H' s' → VRel I' O' (.list ys) (.ref D) → Q ys H' → (∃ m, s'.heap.Ns cenv.locals m) → I' cenv.locals = none → ¬ Owns O' cenv.locals → R (.ok .next) s') →
      codeAny C.M A (.compLoop (.ListComp elt [⟨.Tuple [.Name x px, .Name y py] k tp, iter, [], 0⟩] scope pos) 0 (.ref a) (.ref D) cenv) R s₂ := fun R hR => by
    obtain ⟨Inv, hInv⟩ : ∃ Inv : Nat → Shared → Prop, ∀ n s', Inv n s' ↔ CInv C fa' I₀ O₀ s₀ cenv (compSc sc scope.names) (freeVars scope.names ρ) St (D :: wr) I O vs.length D (fun i ys H' => CompL2 C d (compSc sc scope.names) (freeVars scope.names ρ) x y elt Q (vs.drop i) ys H') n s' := ⟨_, fun _ _ => Iff.rfl⟩
    refine LCp.codeAny_compLoop_pair Inv ?_ vs.length
      ((hInv _ _).2 ⟨I, O, H, 0, [], [], stD, wf₂, hcE, h0₂, hp0, fun _ _ e => e, fun _ _ e => e, Nat.zero_le _, rfl, ⟨0, hs2h _ _ hD₁⟩, .nil, q⟩)
    intro n s' hinv
    obtain ⟨I', O', H', i, ys, cys, st', wf', hE', hst, hp, le, oe, hi, hnn, hpl, hys, hl⟩ := (hInv _ _).1 hinv
    have hl : CompL2 C d (compSc sc scope.names) (freeVars scope.names ρ) x y elt Q (vs.drop i) ys H' := hl
    have hp' : ∀ b ∈ D :: wr, I' b = none ∧ ¬ Owns O' b ∧ (b ≠ cenv.locals ∧ (∀ x, (x, b) ∉ cenv.cells) ∧ b ∉ fa') := fun b hb => ⟨(hp b hb).1, (hp b hb).2, dis b hb⟩
    have hpw : ∀ b ∈ wr, I' b = none ∧ ¬ Owns O' b ∧ (b ≠ cenv.locals ∧ (∀ x, (x, b) ∉ cenv.cells) ∧ b ∉ fa') := fun b hb => hp' b (.tail _ hb)
    have hw0 : ∀ b ∈ wr, s₀.heap.get? b = none := fun b hb => hwr0 b (.tail _ hb)
    by_cases hlt : i < vs.length
    · have hd : vs.drop i = vs[i] :: vs.drop (i + 1) := List.drop_eq_getElem_cons hlt
      rw [hd] at hl
      refine W.item i s' _ _ I' O' H' hlt le oe wf' hst fun u v cu cv T h' tk hy' ru rv hT hm hk => ?_
      obtain ⟨st₃, wf₃, hE₃⟩ := chg (tk := tk) st' wf' hE' hw0 hpw hk
      have hpl₃ := hpl.at (h' := h') fun o e => hk D o hDw e
      have ey : (u, v) = vs[i] := by rw [List.getElem?_eq_getElem hlt] at hy'; exact (Option.some.inj hy').symm
      rw [← ey] at hl
      have hX : Ev C d (compSc sc scope.names) (put y v (put x u (freeVars scope.names ρ))) elt H' _ := hl
      refine W.go _ _ _ i T _ _ _ hm fun h'' hst₁ hk₁ => ?_
      obtain ⟨st₃', wf₃', hE₃'⟩ := chg (tk := tk) st₃ wf₃ hE₃ hw0 hpw hk₁
      have hpl₃' := hpl₃.at (h' := h'') fun o e => hk₁ D o hDw e
      have hT' : h''.IsTuple T #[cu, cv] := let ⟨o, a, b⟩ := hT; ⟨o, hk₁ T o (W.apart _ _ _ hm) a, b⟩
      refine assign_tuple (cvs := [cu, cv]) (vs := [u, v]) hA.handled (.cons (.cons .nil)) (fun z hz => ?_) hT' (.cons ru (.cons rv .nil)) rfl hE₃' wf₃' fun s₄ st₄ wf₄ hE₄ => ?_
      · rcases List.mem_cons.mp hz with rfl | hz
        · exact hx
        · cases List.mem_singleton.mp hz; exact hy
      have hst₄ : St (i + 1) s₄.heap := W.frame _ _ _ hst₁ fun b hb o e => st₄.keep b o e (hpw b hb).2.1 (hpw b hb).2.2.2.2
      have hpl₄ := hpl₃'.at (h' := s₄.heap) fun o e => st₄.keep D o e (hp D (.head _)).2 (hnfa D (.head _))
      refine wpAny_mono (hX A _ s₄ cenv fa' I' O' hA hE₄ wf₄) (fun cy s₆ ⟨I₆, O₆, H₆, yv, st₆', wf₆, ry, qq⟩ => ?_) fun _ _ e => e
      obtain ⟨hlen, q₆⟩ := qq
      have st₆ := st₃'.trans st₄
      have priv : ∀ b ∈ D :: wr, (s₄.heap.get? b).isSome := memc (let ⟨n, e⟩ := hpl₄; by rw [e]; rfl) fun b hb => W.live _ _ hst₄ b hb
      have priv₆ : ∀ b ∈ D :: wr, I₆ b = none ∧ ¬ Owns O₆ b := fun b hb => priv_step st₆' (hp b hb).1 (hp b hb).2 (priv b hb)
      have hst₆ : St (i + 1) s₆.heap := W.frame _ _ _ hst₄ fun b hb o e => st₆'.keep b o e (hpw b hb).2.1 fun h => nomatch h
      have hpl₆ := hpl₄.at (h' := s₆.heap) fun o e => st₆'.keep D o e (hp D (.head _)).2 fun h => nomatch h
      have hys₆ := hys.mono st₆'.sub st₆'.oext
      refine wpAny_list_append_plain hpl₆ (fun h₇ hl₇ hs₇ => ?_) (by rw [List.size_toArray, ← hys.length, sizeLine_eq]; omega)
      have hE₆ := hE₄.step st₆'
      obtain ⟨st₈, wf₈, hE₈⟩ := chg (wr := [D]) (tk := s₆.toks) (st₆.trans st₆'.nil) wf₆ hE₆ ((mem1 (hD0)))
        ((mem1 (⟨(priv₆ D (.head _)).1, (priv₆ D (.head _)).2, dis D (.head _)⟩))) fun b o hb e => (hs₇.2 b fun e' => hb (e' ▸ .head _)).trans e
      refine ⟨vs.length - (i + 1), by rw [hnn]; exact sub_lt hlt, (hInv _ _).2 ⟨I₆, O₆, H₆, i + 1, ys ++ [yv], cys ++ [cy], st₈, wf₈, (hE₈.weaken ?_), W.frame _ _ _ hst₆ fun b hb o e => (hs₇.2 b fun e' => hDw (e' ▸ hb)).trans e, priv₆,
        fun b o e => st₆'.sub b o (le b o e), fun k f e => st₆'.oext k f (oe k f e), hlt, rfl, by simpa using hl₇, hys₆.snoc ry, q₆⟩⟩
      intro z u e
      show (put y _ (put x _ _)).lookup z = _
      rw [lookup_put, lookup_put]
      by_cases q1 : z = y
      · subst q1; rw [hy0] at e; cases e
      · rw [if_neg q1]
        by_cases q2 : z = x
        · subst q2; rw [hx0] at e; cases e
        · rw [if_neg q2]; exact e
    · have hz : i = vs.length := by omega
      rw [hz, List.drop_length] at hl
      rw [hz] at hst
      have hQ : Q ys H' := hl
      refine W.done s' _ _ I' O' H' le oe wf' hst fun h' tk hk => ?_
      obtain ⟨st₃, wf₃, hE₃⟩ := chg (tk := tk) st' wf' hE' hw0 hpw hk
      obtain ⟨nn, hpl₃⟩ := hpl.at (h' := h') fun o e => hk D o hDw e
      have stS := st₃.shut hfa₀
      obtain ⟨st₄, wf₄, hI₄, le₄⟩ := freeze (s := { s' with heap := h', toks := tk }) stS wf₃ hD0 (hp D (.head _)).1 (hp D (.head _)).2 hpl₃
      obtain ⟨m, hm, _⟩ := hE₃.vars
      have hoff := hE₃.off _ (.inl rfl)
      refine hR _ _ _ ys _ st₄ wf₄ (.list (vs := cys) hI₄ (hys.mono le₄ fun _ _ e => e)) hQ ⟨m, hm⟩ ?_ hoff.2.1
      unfold addI
      rw [if_neg (fun e => (dis D (.head _)).1 e.symm)]
      exact hoff.1 (.inl rfl)
  have hCl : s₀.heap.get? cenv.locals = none := by rw [hloc]; exact hfa₀ _ hmem
  have lp := loop (RR (.ref D) cenv.locals) fun I' O' H' ys s' a1 a2 a3 a4 a5 a6 a7 => fin I' O' H' D cenv.locals ys s' a1 a2 a3 a4 a5 hCl a6 a7
  subst hcenv
  exact codeAny_compStart_list lp (W.self 0 _ _ _ h0₂ lp)


/-- a name made the comprehension's value: a pair its target -/
theorem ex_assignC2 {elt iter x y px py k tp scope pos n npos spos Q} (hn : Stores sc n) (ok : ScopeOk sc ρ scope.names) (hkind : scope.kind = .function) (hx : Stores (compSc sc scope.names) x) (hy : Stores (compSc sc scope.names) y)
    (hx0 : (freeVars scope.names ρ).lookup x = none) (hy0 : (freeVars scope.names ρ).lookup y = none)
    (h : Src2 C d sc ρ iter H fun vs H₁ => CompL2 C d (compSc sc scope.names) (freeVars scope.names ρ) x y elt (fun ys H₂ => Q .next (put n (.list ys) ρ) H₂) vs [] H₁)
    (hsw : ∀ env : Env, env.scope.kind = .function → env.scope.names = sc.ns → swapsWith (.ListComp elt [⟨.Tuple [.Name x px, .Name y py] k tp, iter, [], 0⟩] scope pos) (some (.Name n npos)) spos.line env = pure true)
    (hs : ∀ env v, foldedSetIterable iter env v = pure v := by intro _ _; rfl) : Ex C d sc ρ (.Assign [.Name n npos] (.ListComp elt [⟨.Tuple [.Name x px, .Name y py] k tp, iter, [], 0⟩] scope pos) spos) H Q := fun A E s env fa I O hA hE wf => by
  rw [exec_Assign_Name_used _ _ _ _ (hsw env hE.kind hE.ns)]
  refine wpAny_bind (wpAny_standAt (wpAny_bind ?_))
  show wpAny _ A (do let _ ← comprehension (.ListComp elt [⟨.Tuple [.Name x px, .Name y py] k tp, iter, [], 0⟩] scope pos) scope env _ (newList []) false (eval iter env) (some (assign (.Name n npos) env))) _ _ s
  refine wpAny_bind (wpAny_mono (wpAny_comprehension_free (use := some (assign (.Name n npos) env)) (Q := fun _ s' => PostX C I O s env sc fa Q .next s') rfl (hs env) (scope_cl hE ok) hkind (names_local ok.nodup)
    (wpAny_mono (h A E s env fa I O hA hE wf) (fun xv s₁ h₁ => wpAny_mono h₁ (fun it s₂ h₂ => ?_) fun _ _ e => e) fun _ _ e => e)) (fun _ s' hq => wpAny_pure (wpAny_pure hq)) fun _ _ e => e)
  obtain ⟨a, I₂, O₂, H₂, vs, wr, St, Mid, rfl, st₂, wf₂, hw, h0, W, q⟩ := h₂
  refine comp_core2 (RR := fun acc c => compPost C.M A E (some (assign (.Name n npos) env)) (fun _ s' => PostX C I O s env sc fa Q .next s') acc c) hA hE st₂ wf₂ ok hkind hx hy hx0 hy0 hw h0 (W A hA.handled) q ?_
  rintro I' O' H' D C₁ ys s' st' wf' rv hq ⟨m, hm⟩ hn' h1 h2
  have dis : C₁ ≠ env.locals ∧ (∀ x, (x, C₁) ∉ env.cells) ∧ C₁ ∉ fa :=
    ⟨fun e => (by have := (hE.off _ (.inl e)).2.2; rw [hn'] at this; cases this), fun z hz => (by have := (hE.off _ (.inr (.inl ⟨z, hz⟩))).2.2; rw [hn'] at this; cases this),
     fun hz => (by have := (hE.off _ (.inr (.inr hz))).2.2; rw [hn'] at this; cases this)⟩
  show wpAny _ A (assign (.Name n npos) env (.ref D)) _ _ _
  refine wpAny_assign_Name (store_ hn (hE.step st') wf' rv fun s₃ st₃ wf₃ hE₃ => ?_)
  refine ⟨m, hm.at' fun o e => st₃.keep C₁ o e h2 dis.2.2, fun h' hs' => ?_⟩
  obtain ⟨b1, b2, b3⟩ := chg (wr := [C₁]) (tk := s₃.toks) (st'.nil.trans st₃) wf₃ hE₃ ((mem1 (hn'))) ((mem1 (⟨h1, h2, dis⟩))) fun b o hb e => (hs'.2 b fun e' => hb (e' ▸ .head _)).trans e
  exact ⟨I', O', H', _, .next, b1, b2, b3, .next, hq⟩

/-- zip of two lists -/
theorem src2_zip {fpos e₁ e₂ pos Q} (hk : sc.ns.lookup ("zip" : Str) = some .globalImplicit) (h : Es C d sc ρ [e₁, e₂] H fun vs H₁ => ∃ xs ys, vs = [.list xs, .list ys] ∧ Q (xs.zip ys) H₁)
    (he : ∀ env, starEach [e₁, e₂] env = (false, eval e₁ env) :: starEach [e₂] env := by intro _; rfl) (hp : ∀ env, (backTo pos (starEach [e₂] env)).any (·.1) = false := by intro _; rfl) :
    Src2 C d sc ρ (.Call (.Name "zip" fpos) [e₁, e₂] [] pos) H Q := fun A E s env fa I O hA hE wf => by
  rw [arm_eval_Call_Name']
  refine wpAny_bind (name_builtin hE wf hk (C.free _ (by decide)) (v := .type "zip") (by decide +kernel) (by decide) ?_)
  refine PyProof.Rows.callWith_type1 (wpAny_mono (h A E s env fa I O pos hA hE wf) (fun cvs s₁ ⟨I₁, O₁, H₁, vs, st₁, wf₁, rv, qq⟩ => ?_) fun _ _ e => e) (he env) (hp env)
  obtain ⟨xs, ys, e, q⟩ := qq
  subst e
  obtain ⟨c1, c2, rfl, r1, r2⟩ := rv.two
  obtain ⟨l1, vs1, n1, rfl, hI1, rs1⟩ := r1.list_inv
  obtain ⟨l2, vs2, n2, rfl, hI2, rs2⟩ := r2.list_inv
  refine call_zip_2 (wf₁.list hI1) (wf₁.list hI2) fun h' hz hTI hTO hi1 hi2 hsz hkp => ?_
  refine wpAny_pyIter_zip hz ?_
  obtain ⟨st₂, wf₂⟩ := junk (fa := []) (t := s₁.toks) wf₁ hkp
  have fr : ∀ b, s₁.heap.objs.size ≤ b → s₁.heap.get? b = none := fun b hb => by
    cases q : s₁.heap.get? b with
    | none => rfl
    | some o => exact absurd (Heap.lt_size q) (Nat.not_lt.mpr hb)
  have lt1 : l1 < s₁.heap.objs.size := Heap.lt_size (wf₁.has _ _ hI1)
  have lt2 : l2 < s₁.heap.objs.size := Heap.lt_size (wf₁.has _ _ hI2)
  generalize hN : s₁.heap.objs.size = N at hz hTI hTO hi1 hi2 hsz fr lt1 lt2 ⊢
  have hl : ∀ {I' O' H' s' l vs n}, WF C I' O' H' s' → Le I₁ I' → I₁ l = some (lobj vs n) → s'.heap.IsList l vs.toArray := fun wf' le hI => wf'.list (le _ _ hI)
  have lt1' : @LT.lt Nat _ l1 N := lt1
  have lt2' : @LT.lt Nat _ l2 N := lt2
  have D : ZipApart (N + 4) (N + 2) (N + 3) N (N + 1) l1 l2 := by constructor <;> (show @Ne Nat _ _) <;> omega
  have fresh : ∀ b ∈ [N + 4, N + 2, N + 3, N, N + 1], s₁.heap.get? b = none := fun b hb => fr b (by
    simp only [List.mem_cons, List.mem_nil_iff, or_false] at hb
    show @LE.le Nat _ N b
    rcases hb with rfl | rfl | rfl | rfl | rfl <;> omega)
  refine ⟨_, I₁, O₁, H₁, xs.zip ys, [N + 4, N + 2, N + 3, N, N + 1], fun i h => IsZip h (N + 4) (N + 2) (N + 3) .none ∧ IsPair h (N + 2) (.ref N) (.ref (N + 1)) ∧ (∃ a b, IsPair h (N + 3) a b) ∧ h.IsListIter N l1 i ∧ h.IsListIter (N + 1) l2 i,
    fun i T h => (IsZip h (N + 4) (N + 2) (N + 3) (rawInt T) ∧ IsPair h (N + 2) (.ref N) (.ref (N + 1)) ∧ (∃ a b, IsPair h (N + 3) a b) ∧ h.IsListIter N l1 (i + 1) ∧ h.IsListIter (N + 1) l2 (i + 1)) ∧ T ∉ [N + 4, N + 2, N + 3, N, N + 1], rfl, st₁.trans st₂, wf₂, fun b hb => ?_, ⟨hz, hTI, ⟨_, _, hTO⟩, hi1, hi2⟩, fun A' hA' => ?_, q⟩
  · exact ⟨none_of_alive (st₁.alive b) (fresh b hb), In.none wf₁.has (fresh b hb), Own.notMine wf₁ (fresh b hb)⟩
  · have W := WalksT.zip2 (prog := C.p) (w := C.w) (A := A') hA' _ _ _ _ _ l1 l2 D vs1.toArray vs2.toArray
    have hzl : (xs.zip ys).length = min vs1.toArray.size vs2.toArray.size := by simp [rs1.length, rs2.length]
    have sub : ∀ b, b ∉ [N + 4, N + 2, N + 3, N, N + 1] → b ∉ [N + 4, N + 3, N, N + 1] := fun b hb hm => hb (by simp only [List.mem_cons, List.mem_nil_iff, or_false] at hm ⊢; rcases hm with h | h | h | h <;> simp [h])
    refine ⟨fun i s' E' Q' I' O' H' hi le oe wf' st hQ => ?_, fun elts k pos i T s' E' Q' hm hQ => ?_, fun i T h hm => hm.2, fun s' E' Q' I' O' H' le oe wf' st hQ => ?_, fun i s' E' Q' st hQ => wpAny_pyIter_zip st.1 hQ, fun i h h'' st hk => ?_, fun i h st b hb => ?_⟩
    · rw [hzl] at hi
      obtain ⟨z1, z2, z3, z4, z5⟩ := st
      refine W.item i s' Q' E' hi ⟨z1, z2, z3, z4, z5, hl wf' le hI1, hl wf' le hI2⟩ fun T vals h' tk ⟨x, y, e1, e2, e3⟩ hfr hT ⟨m1, m2, m3, m4, m5, m6, m7, t1, t2, t3, t4⟩ hk => ?_
      subst e3
      obtain ⟨u, g1, g2⟩ := rs1.get' i x (by simpa using e1)
      obtain ⟨v, g3, g4⟩ := rs2.get' i y (by simpa using e2)
      have tTI : T ≠ N + 2 := fun e => by have := Heap.lt_size z2; rw [← e] at this; exact absurd this (Nat.not_lt.mpr hfr)
      exact hQ u v x y T h' tk (List.getElem?_zip_eq_some.mpr ⟨g1, g3⟩) (g2.mono le oe) (g4.mono le oe) hT ⟨⟨m1, m2, m3, m4, m5⟩, by simp only [List.mem_cons, List.mem_nil_iff, or_false, not_or]; exact ⟨t1, tTI, t2, t3, t4⟩⟩ fun b o hb e => hk b o (sub b hb) e
    · obtain ⟨⟨m1, m2, ⟨a, b, m3⟩, m4, m5⟩, _⟩ := hm
      exact wpAny_letOwnedTupleGo_zip m1 fun h' hz' hs' => hQ h' ⟨hz', hs'.extBut _ _ D.TIz m2, ⟨a, b, hs'.extBut _ _ D.TOz m3⟩, m4.extBut hs'.extBut D.i1z, m5.extBut hs'.extBut D.i2z⟩ fun c o hc e => hs'.extBut _ _ (fun x => hc (x ▸ .head _)) e
    · rw [hzl] at st
      obtain ⟨z1, z2, z3, z4, z5⟩ := st
      exact W.done s' Q' E' ⟨z1, z2, z3, z4, z5, hl wf' le hI1, hl wf' le hI2⟩ fun h' tk hk => hQ h' tk fun b o hb e => hk b o (sub b hb) e
    · obtain ⟨z1, z2, ⟨a, b, z3⟩, z4, z5⟩ := st
      exact ⟨hk _ (by simp) _ z1, hk _ (by simp) _ z2, ⟨a, b, hk _ (by simp) _ z3⟩, z4.at fun o e => hk _ (by simp) o e, z5.at fun o e => hk _ (by simp) o e⟩
    · obtain ⟨z1, z2, ⟨a', b', z3⟩, ⟨o4, z4, _⟩, ⟨o5, z5, _⟩⟩ := st
      simp only [List.mem_cons, List.mem_nil_iff, or_false] at hb
      rcases hb with rfl | rfl | rfl | rfl | rfl
      · rw [show h.get? (N + 4) = _ from z1]; rfl
      · rw [show h.get? (N + 2) = _ from z2]; rfl
      · rw [show h.get? (N + 3) = _ from z3]; rfl
      · rw [z4]; rfl
      · rw [z5]; rfl
end Mine
end PartJ14

section PartJ15
open PySem PySem.W PySem.Calls PyProof.Rows
set_option maxRecDepth 100000
set_option linter.unusedVariables false
namespace Mine
variable {C : Cx} {d : Nat} {sc : Sc} {ρ : Vars} {H : Store}

theorem setItem_plain {A : Around} {E : Value → Shared → Prop} {s : Shared} {p : Program} {w : World} {l : Addr} {vs : List Value} {n : Nat} {k : Int} {t : Tok} {v : Value} {Q : Unit → Shared → Prop} (h1 : s.heap.get? l = some (lobj vs n)) (h0 : 0 ≤ k) (hfit : k < 2 ^ 63) (hn : k < vs.length)
    (hQ : ∀ h' n', h'.get? l = some (lobj (vs.set k.toNat v) n') → Heap.SameBut l s.heap h' → Q () { s with heap := h' }) : wpAny (model p w) A (setItem (.ref l) (.int k t) v) Q E s := by
  have hl : s.heap.IsList l vs.toArray := isL h1
  unfold setItem
  try with_reducible refine wpAny_holding ?_
  first | refine wpAny_bind (wpAny_pure ?_) | skip
  refine wpAny_bind (wpAny_sequenceKey hl.typeIs (by decide) ?_)
  refine wpAny_bind (wpAny_callSpecial?_slot (name := Str.ofString "__setitem__") hl.typeIs slot_list_setitem
    (wpAny_call_entry slot_list_setitem hl.typeIs entry_list_setitem ?_ (args_list_setitem _ _ _)))
  show wpAny _ _ (Builtin.List.listSubscript? (.int k t) >>= _) _ _ s
  refine wpAny_bind (wpAny_listSubscript_int (fitsIndex_of h0 hfit) ?_)
  clear hfit
  obtain ⟨j, rfl⟩ := Int.eq_ofNat_of_zero_le h0
  have hj : j < vs.toArray.size := by rw [List.size_toArray]; omega
  show wpAny _ _ ((seqItemAt l j >>= fun r => pure (r.map (j, ·))) >>= _) _ _ s
  refine wpAny_bind (wpAny_bind (wpAny_seqItemAt h1 rfl (wpAny_pure ?_)))
  rw [Array.getElem?_eq_getElem hj]
  show wpAny _ _ (setSeqItemAt l j v >>= _) _ _ s
  have e : Obj.mapSeq (fun x => x.setIfInBounds j v) (lobj vs n) = lobj (vs.set j v) n := by simp [Obj.mapSeq]
  have hp : (s.heap.update l (Obj.mapSeq (fun x => x.setIfInBounds j v))).get? l = some (lobj (vs.set j v) n) := by
    rw [Heap.get?_update_self _ h1 (by rw [e]; rfl), e]
  refine wpAny_bind (wpAny_setSeqItemAt h1 rfl ?_)
  first
    | exact wpAny_bind (wpAny_pure (wpAny_pure ⟨.none, rfl, wpAny_pure (hQ _ n hp (Heap.SameBut.update ..))⟩))
    | exact wpAny_pure ⟨.none, rfl, wpAny_pure (hQ _ n hp (Heap.SameBut.update ..))⟩

theorem VRels.set {I O} : ∀ {xs vs} (i : Nat) {x v}, VRels I O xs vs → VRel I O x v → VRels I O (xs.set i x) (vs.set i v)
  | _, _, _, _, _, .nil, _ => .nil
  | _, _, 0, _, _, .cons _ r, h => .cons h r
  | _, _, i + 1, _, _, .cons a r, h => .cons a (r.set i h)

/-- an owned list's item is turned in place -/
theorem ex_augsub {o i op value tpos pos Q} (h : Ev C d sc ρ o H fun ov H₁ => Ev C d sc ρ i H₁ fun iv H₂ => ∃ (k : Nat) (j : Int) (xs : List V) (old : V), ov = .own k ∧ iv = .int j ∧ H₂.lookup k = some (.list xs) ∧ 0 ≤ j ∧ j < 2 ^ 63 ∧ xs[j.toNat]? = some old ∧
      Ev C d sc ρ value H₂ fun v H₃ => IBin C d op old v H₃ fun new H₄ => H₄.lookup k = some (.list xs) ∧ Q .next ρ (upd k (.list (xs.set j.toNat new)) H₄))
    (hi : ∀ ov iv new, augStore i ov iv new = (do holding [new, ov, iv] (setItem ov iv new); release [new, ov, iv] []; pure .next) := by intros; rfl) :
    Ex C d sc ρ (.AugAssign (.Subscript o i tpos) op value pos) H Q := fun A E s env fa I O hA hE wf => by
  refine wpAny_AugAssign_SubscriptAny (wpAny_mono (h A E s env fa I O hA hE wf) (fun co s₁ ⟨I₁, O₁, H₁, ov, st₁, wf₁, r1, q₁⟩ => ?_) fun _ _ e => e) hi
  have hE₁ := hE.step st₁
  refine wpAny_mono (q₁ A E s₁ env fa I₁ O₁ hA hE₁ wf₁) (fun ci s₂ ⟨I₂, O₂, H₂, iv, st₂, wf₂, r2, qq⟩ => ?_) fun _ _ e => e
  obtain ⟨k, j, xs, old, e1, e2, hk, h0, h1, hx, q₂⟩ := qq
  rw [e1] at r1
  rw [e2] at r2
  have hE₂ := hE₁.step st₂
  obtain ⟨t, rfl⟩ := r2.int_inv
  obtain ⟨a, vs, n, rfl, ho, ha, rs⟩ := wf₂.ownL hk (r1.mono st₂.sub st₂.oext)
  obtain ⟨cold, g1, g2⟩ := rs.get _ _ hx
  refine wpAny_getItem_list (isL ha) h0 h1 (x := cold) (by simpa using g1) ?_
  refine wpAny_mono (q₂ A E s₂ env fa I₂ O₂ hA hE₂ wf₂) (fun cv s₃ ⟨I₃, O₃, H₃, v, st₃, wf₃, r3, q₃⟩ => ?_) fun _ _ e => e
  refine wpAny_mono (q₃ A E s₃ I₃ O₃ cold cv hA wf₃ (g2.mono st₃.sub st₃.oext) r3) (fun cn s₄ ⟨I₄, O₄, H₄, new, st₄, wf₄, r4, qq⟩ => ?_) fun _ _ e => e
  obtain ⟨hk₄, q₄⟩ := qq
  have ho₄ : O₄ k = some [a] := st₄.oext _ _ (st₃.oext _ _ ho)
  obtain ⟨vs', n', g3, rs', _⟩ := wf₄.own hk₄ ho₄
  have hlt : j.toNat < xs.length := (List.getElem?_eq_some_iff.mp hx).1
  refine setItem_plain g3 h0 h1 (by rw [← rs'.length]; omega) fun h' n'' hp hs => ?_
  obtain ⟨st₅, wf₅⟩ := own_upd (tk := s₄.toks) wf₄ hk₄ ho₄ hs (by rw [hp]; rfl) (ov' := .list (xs.set j.toNat new)) ⟨rfl, _, n'', hp, rs'.set _ r4⟩
  have stA := ((st₁.trans st₂).trans (st₃.trans st₄)).trans st₅
  exact ⟨I₄, O₄, _, ρ, .next, stA.nil, wf₅, hE.step stA, .next, q₄⟩

/-- split at white signs -/
theorem numbered_rel {I : Part} {O : Own} : ∀ (tk : Nat) (xs : List Str), VRels I O (xs.map V.str) (strValues (numbered tk xs))
  | _, [] => .nil
  | tk, x :: r => .cons (.str _ _) (numbered_rel (tk + 1) r)
theorem callv_split {x : Str} {Q} (hl : x.length ≤ 100000) (hn : (Builtin.Str.spaceWords x (x.length + 1)).length ≤ 100000) (h1 : (Builtin.Str.spaceWords x (x.length + 1) == [(0, x.length)]) = false) (q : Q (.list ((PySem.wordsOf x).map V.str)) H) :
    CallV C d (.builtin "str.split") [.str x] H Q := fun A E s I O cvs hA wf rs => by
  obtain ⟨c, rfl, r⟩ := rs.one
  obtain ⟨t, rfl⟩ := r.str_inv
  refine call_meets PySem.F.slot_str_split (typeIs_str _ _ _) PySem.F.entry_str_split (PySem.F.args_str_split_1 _) (meets_str_split_space x t (by rw [sizeLine_eq]; omega) (by rw [sizeLine_eq]; omega)) ?_
  rw [h1]
  simp only [Bool.false_eq_true, if_false]
  rw [strsFrom_eq]
  obtain ⟨a, b, c⟩ := push_imm (o := lobj (strValues (numbered s.toks (PySem.wordsOf x))) 0) wf rfl
  exact ⟨_, O, H, _, a.toks _, b.toks _, .list c (numbered_rel _ _), q⟩

/-- a call with no argument -/
theorem ev_callF0 {f fpos pos names body Q} (F : Fn C f [] names body) (hk : sc.ns.lookup f = some .globalImplicit) (h : Xs C d (fnSc names) [] body H (Returns Q)) (hd : (f == ("__debug__" : Str)) = false := by decide) :
    Ev C (d + 1) sc ρ (.Call (.Name f fpos) [] [] pos) H Q := fun A E s env fa I O hA hE wf => by
  rw [arm_eval_Call_Name']
  obtain ⟨a, o, fd, hg, hB, hdat, hcd, hbody, hclo, hnm, hkf, hco, hgen, hglob, hblt, hbind⟩ := F.ex
  refine wpAny_bind (name_global hE wf hk hg ?_ hd)
  obtain ⟨a', o', fd', hg', hB', hdat', hc⟩ := fn_call F (vs := []) rfl h
  rw [hg] at hg'
  cases hg'
  rw [hB] at hB'
  cases hB'
  exact callWith_function (o := o) (fd := fd) (args := []) (PyProof.Rows.evalArgs_none ⟨⟨wf.has _ _ (wf.base _ _ hB), hdat⟩, hc A E s I O [] hA wf .nil⟩)

/-- a store of a global's value that is a datum -/
theorem ev_global {x pos v cv Q} (hk : sc.ns.lookup x = some .globalImplicit) (hv : C.mg x = some cv) (hr : ∀ I O, (∀ b o, C.B.get? b = some o → I b = some o) → VRel I O v cv) (q : Q v H)
    (hd : (x == ("__debug__" : Str)) = false := by decide) : Ev C d sc ρ (.Name x pos) H Q := fun A E s env fa I O hA hE wf =>
  name_global hE wf hk hv (post_val0 wf (hr I O wf.base) q) hd
end Mine
end PartJ15

section PartJ16
open PySem PySem.W PySem.Calls PyProof.Rows
set_option maxRecDepth 100000
set_option linter.unusedVariables false
namespace Mine
variable {C : Cx} {d : Nat} {sc : Sc} {ρ : Vars} {H : Store}

/-- what is known of the one is known of the other -/
noncomputable def Sub : Vars → Vars → Prop
  | [], _ => True
  | (y, v) :: r, ρ => ρ.lookup y = some v ∧ Sub r ρ
theorem Sub.get : ∀ {ρ' ρ : Vars}, Sub ρ' ρ → ∀ y v, ρ'.lookup y = some v → ρ.lookup y = some v
  | [], _, _, y, v, h => by cases h
  | (z, u) :: r, ρ, ⟨h1, h2⟩, y, v, h => by
    rw [List.lookup_cons] at h
    by_cases q : y = z
    · subst q; simp at h; subst h; exact h1
    · rw [show (y == z) = false from by simpa using q] at h
      exact h2.get y v h
theorem Sub.of : ∀ {ρ' ρ : Vars}, (∀ p ∈ ρ', ρ.lookup p.1 = some p.2) → Sub ρ' ρ
  | [], _, _ => trivial
  | (y, v) :: r, ρ, h => ⟨h _ (.head _), Sub.of fun p hp => h p (.tail _ hp)⟩
theorem Sub.put {ρ' ρ : Vars} {x : Str} {v : V} (h : Sub ρ' ρ) : ∀ y u, (put x v ρ').lookup y = some u → (put x v ρ).lookup y = some u := fun y u e => by
  rw [lookup_put] at e ⊢
  by_cases q : y = x
  · rw [if_pos q] at e ⊢; exact e
  · rw [if_neg q] at e ⊢; exact h.get y u e
theorem Xs.weaken {ρ' st Q} (h : Xs C d sc ρ' st H Q) (hs : ∀ y v, ρ'.lookup y = some v → ρ.lookup y = some v) : Xs C d sc ρ st H Q := fun A E s env fa I O hA hE wf => h A E s env fa I O hA (hE.weaken hs) wf
theorem Ex.weaken {ρ' st Q} (h : Ex C d sc ρ' st H Q) (hs : ∀ y v, ρ'.lookup y = some v → ρ.lookup y = some v) : Ex C d sc ρ st H Q := fun A E s env fa I O hA hE wf => h A E s env fa I O hA (hE.weaken hs) wf
theorem Ev.weaken {ρ' e Q} (h : Ev C d sc ρ' e H Q) (hs : ∀ y v, ρ'.lookup y = some v → ρ.lookup y = some v) : Ev C d sc ρ e H Q := fun A E s env fa I O hA hE wf => h A E s env fa I O hA (hE.weaken hs) wf
theorem Tr.weaken {ρ' e Q} (h : Tr C d sc ρ' e H Q) (hs : ∀ y v, ρ'.lookup y = some v → ρ.lookup y = some v) : Tr C d sc ρ e H Q := fun A E s env fa I O hA hE wf => h A E s env fa I O hA (hE.weaken hs) wf

/-- a statement, by what it leaves; then the rest -/
theorem xs_seq {st rest Q} (R : Vars → Store → Prop) (h1 : Ex C d sc ρ st H fun f ρ' H' => f = .next ∧ R ρ' H') (h2 : ∀ ρ' H', R ρ' H' → Xs C d sc ρ' rest H' Q) : Xs C d sc ρ (st :: rest) H Q :=
  xs_cons (h1.mono fun f ρ' H' ⟨e, r⟩ => by subst e; exact h2 ρ' H' r)

noncomputable def Turn {σ : Type} (can : σ → Vars) (St : σ → Store) (P : σ → Prop) (Q : Fl → Vars → Store → Prop) : Fl → Vars → Store → Prop
  | .next, ρ, H => ∃ s, P s ∧ Sub (can s) ρ ∧ H = St s
  | .cont, ρ, H => ∃ s, P s ∧ Sub (can s) ρ ∧ H = St s
  | .brk, _, _ => False
  | .ret r, ρ, H => Q (.ret r) ρ H
theorem loop_ind {σ : Type} {x : Str} {body : List Stmt} {K : Store → Prop} {Q : Fl → Vars → Store → Prop} (can : σ → Vars) (St : σ → Store) (P : List V → σ → Prop) (hK : ∀ vs s, P vs s → K (St s))
    (step : ∀ v vs s, P (v :: vs) s → Xs C d sc (put x v (can s)) body (St s) (Turn can St (P vs) Q)) (fin : ∀ s, P [] s → ∀ ρ', Sub (can s) ρ' → Q .next ρ' (St s)) :
    ∀ (vs : List V) (s : σ) (ρ : Vars), P vs s → Sub (can s) ρ → Loop C d sc K (put x) body Q vs ρ (St s)
  | [], s, ρ, hP, hs => ⟨hK _ _ hP, fin s hP ρ hs⟩
  | v :: vs, s, ρ, hP, hs => by
    refine ⟨hK _ _ hP, ((step v vs s hP).weaken hs.put).mono fun f ρ' H' h => ?_⟩
    cases f with
    | next => obtain ⟨s', h1, h2, rfl⟩ := h; exact loop_ind can St P hK step fin vs s' ρ' h1 h2
    | cont => obtain ⟨s', h1, h2, rfl⟩ := h; exact loop_ind can St P hK step fin vs s' ρ' h1 h2
    | brk => exact h.elim
    | ret r => exact h
theorem loop2_ind {σ : Type} {x y : Str} {body : List Stmt} {Q : Fl → Vars → Store → Prop} (can : σ → Vars) (St : σ → Store) (P : List (V × V) → σ → Prop)
    (step : ∀ u v vs s, P ((u, v) :: vs) s → Xs C d sc (put y v (put x u (can s))) body (St s) (Turn can St (P vs) Q)) (fin : ∀ s, P [] s → ∀ ρ', Sub (can s) ρ' → Q .next ρ' (St s)) :
    ∀ (vs : List (V × V)) (s : σ) (ρ : Vars), P vs s → Sub (can s) ρ → Loop2 C d sc x y body Q vs ρ (St s)
  | [], s, ρ, hP, hs => fin s hP ρ hs
  | (u, v) :: vs, s, ρ, hP, hs => by
    have hs2 : ∀ z w, (put y v (put x u (can s))).lookup z = some w → (put y v (put x u ρ)).lookup z = some w := fun z w e => by
      rw [lookup_put] at e ⊢
      by_cases q : z = y
      · rw [if_pos q] at e ⊢; exact e
      · rw [if_neg q] at e ⊢; exact hs.put z w e
    show Xs C d sc (put y v (put x u ρ)) body (St s) _
    refine ((step u v vs s hP).weaken hs2).mono fun f ρ' H' h => ?_
    cases f with
    | next => obtain ⟨s', h1, h2, rfl⟩ := h; exact loop2_ind can St P step fin vs s' ρ' h1 h2
    | cont => obtain ⟨s', h1, h2, rfl⟩ := h; exact loop2_ind can St P step fin vs s' ρ' h1 h2
    | brk => exact h.elim
    | ret r => exact h

/-- what can be computed of a scope -/
noncomputable def storesB (sc : Sc) (x : Str) : Bool := match sc.ns.lookup x with
  | some .local => true
  | some .cell => sc.own.any (· == x)
  | _ => false
theorem storesB_ok {x : Str} (h : storesB sc x = true) : Stores sc x := by
  unfold storesB at h
  split at h
  · exact .inl (by assumption)
  · rename_i e
    obtain ⟨y, hy, e'⟩ := List.any_eq_true.mp h
    exact .inr ⟨e, by rw [← eq_of_beq e']; exact hy⟩
  · cases h
noncomputable def nameB (sc : Sc) (x : Str) : Bool := match sc.ns.lookup x with
  | some .local => true
  | some .cell => true
  | some .free => true
  | _ => false
theorem nameB_ok {x : Str} (h : nameB sc x = true) : sc.ns.lookup x = some .local ∨ sc.ns.lookup x = some .cell ∨ sc.ns.lookup x = some .free := by
  unfold nameB at h
  split at h
  · exact .inl (by assumption)
  · exact .inr (.inl (by assumption))
  · exact .inr (.inr (by assumption))
  · cases h
noncomputable def nodupB : List Str → Bool
  | [] => true
  | x :: r => !(r.any (· == x)) && nodupB r
theorem nodupB_ok : ∀ {l : List Str}, nodupB l = true → l.Nodup
  | [], _ => List.nodup_nil
  | x :: r, h => by
    unfold nodupB at h
    rw [Bool.and_eq_true, Bool.not_eq_true'] at h
    refine List.nodup_cons.mpr ⟨fun hm => ?_, nodupB_ok h.2⟩
    have : r.any (· == x) = true := List.any_eq_true.mpr ⟨x, hm, by simp⟩
    rw [this] at h
    cases h.1
noncomputable def freeB (sc : Sc) (ρ : Vars) : List (Str × NameKind) → Bool
  | [] => true
  | (n, .free) :: r => (ρ.lookup n).isSome && (match sc.ns.lookup n with | some .cell => true | some .free => true | _ => false) && freeB sc ρ r
  | _ :: r => freeB sc ρ r
theorem freeB_ok : ∀ {names : List (Str × NameKind)}, freeB sc ρ names = true → ∀ n, (n, NameKind.free) ∈ names → (∃ v, ρ.lookup n = some v) ∧ (sc.ns.lookup n = some .cell ∨ sc.ns.lookup n = some .free)
  | (m, .free) :: r, h, n, hm => by
    unfold freeB at h
    rw [Bool.and_eq_true, Bool.and_eq_true] at h
    rcases List.mem_cons.mp hm with e | hm
    · cases e
      refine ⟨Option.isSome_iff_exists.mp h.1.1, ?_⟩
      have h2 := h.1.2
      split at h2
      · exact .inl (by assumption)
      · exact .inr (by assumption)
      · cases h2
    · exact freeB_ok h.2 n hm
  | (m, .local) :: r, h, n, hm => freeB_ok (names := r) h n (by rcases List.mem_cons.mp hm with e | hm; cases e; exact hm)
  | (m, .cell) :: r, h, n, hm => freeB_ok (names := r) h n (by rcases List.mem_cons.mp hm with e | hm; cases e; exact hm)
  | (m, .globalImplicit) :: r, h, n, hm => freeB_ok (names := r) h n (by rcases List.mem_cons.mp hm with e | hm; cases e; exact hm)
  | (m, .globalExplicit) :: r, h, n, hm => freeB_ok (names := r) h n (by rcases List.mem_cons.mp hm with e | hm; cases e; exact hm)
theorem scopeB_ok {names} (h1 : nodupB (names.map (·.1)) = true) (h2 : freeB sc ρ names = true) : ScopeOk sc ρ names := ⟨nodupB_ok h1, freeB_ok h2⟩

/-- the rules with what can be computed set apart -/
theorem r_name {x pos v Q} (hk : nameB sc x = true) (hv : ρ.lookup x = some v) (hd : ((x == ("__debug__" : Str)) || (x == ("__classdict__" : Str))) = false) (q : Q v H) : Ev C d sc ρ (.Name x pos) H Q := by
  rw [Bool.or_eq_false_iff] at hd
  exact ev_name (nameB_ok hk) hv q hd.1 hd.2
theorem r_assign {x px e pos Q} (hx : storesB sc x = true) (hs : ∀ env : Env, env.scope.names = sc.ns → swapsWith e (some (.Name x px)) pos.line env = pure false) (h : Ev C d sc ρ e H fun v H₁ => Q .next (put x v ρ) H₁) :
    Ex C d sc ρ (.Assign [.Name x px] e pos) H Q := ex_assign (storesB_ok hx) h hs
theorem r_aug {x px op e pos Q v} (hx : storesB sc x = true) (hv : ρ.lookup x = some v) (h : Ev C d sc ρ e H fun u H₁ => IBin C d op v u H₁ fun r H₂ => Q .next (put x r ρ) H₂) : Ex C d sc ρ (.AugAssign (.Name x px) op e pos) H Q := ex_aug (storesB_ok hx) hv h
theorem mul_okL {a b : Int} (h1 : -18446744073709551616 < a) (h2 : a < 18446744073709551616) : IntMulOk a b := .of_left (intBits_le_64 h1 h2)
theorem mul_okR {a b : Int} (h1 : -18446744073709551616 < b) (h2 : b < 18446744073709551616) : IntMulOk a b := .of_right (intBits_le_64 h1 h2)
theorem pow_ok2 {n : Int} (h0 : 0 ≤ n) (h1 : n ≤ 1000) : (Builtin.Int.intBits 2 : Int) * n ≤ 2 ^ 27 := by
  rw [show (Builtin.Int.intBits 2 : Int) = 2 from by decide +kernel]; omega
theorem pow_ok10 {n : Int} (h0 : 0 ≤ n) (h1 : n ≤ 1000) : (Builtin.Int.intBits 10 : Int) * n ≤ 2 ^ 27 := by
  rw [show (Builtin.Int.intBits 10 : Int) = 4 from by decide +kernel]; omega

noncomputable def bodyOf : Stmt → List Stmt
  | .FunctionDef _ _ body _ _ _ _ _ _ _ => body
  | _ => []
noncomputable def namesOf : Stmt → List (Str × NameKind)
  | .FunctionDef _ _ _ _ _ _ s _ _ _ => s.names
  | _ => []
noncomputable def stmtAt (i : Nat) : Stmt := PySem.Challenge.pw_sr0077_01.main.body.getD i (.Pass ⟨0, 0, 0, 0⟩)
end Mine
end PartJ16

section PartJ17
open PySem PySem.W PySem.Calls PyProof.Rows
set_option maxRecDepth 100000
set_option linter.unusedVariables false
namespace Mine
variable {C : Cx} {d : Nat} {sc : Sc} {ρ : Vars} {H : Store}

theorem datas_map {α : Type} (f : α → V) : ∀ xs : List α, V.datas (xs.map f) = xs.map fun x => (f x).data
  | [] => rfl
  | x :: xs => by simp [V.datas, datas_map f xs]
theorem plains_map {α : Type} (f : α → V) (h : ∀ x, (f x).plain = true) : ∀ xs : List α, V.plains (xs.map f) = true
  | [] => rfl
  | x :: xs => by simp [V.plains, plains_map f h xs, h x]
theorem eqvAll_map {α : Type} [BEq α] (f : α → PyData) (h : ∀ x y, PyData.eqv (f x) (f y) = (x == y)) : ∀ xs ys : List α, PyData.eqvAll (xs.map f) (ys.map f) = (xs == ys)
  | [], [] => by simp [PyData.eqvAll]
  | [], _ :: _ => by simp [PyData.eqvAll]
  | _ :: _, [] => by simp [PyData.eqvAll]
  | x :: xs, y :: ys => by
    simp only [List.map_cons, PyData.eqvAll, h, eqvAll_map f h xs ys]
    rfl
theorem canLayAll_map {α : Type} (f : α → PyData) : ∀ xs : List α, (∀ x ∈ xs, (f x).canLay0 = true) → PyData.canLayAll0 (xs.map f) = true
  | [], _ => by simp [PyData.canLayAll0]
  | x :: xs, h => by simp [PyData.canLayAll0, h x (.head _), canLayAll_map f xs fun y hy => h y (.tail _ hy)]
theorem LV.sees {v : V} {xs : List V} (h : LV H v xs) (hp : V.plains xs = true) : Sees H v (.list (V.datas xs)) := by
  rcases h with rfl | ⟨k, rfl, hk⟩
  · exact .inl ⟨by simpa [V.plain] using hp, by simp [V.data]⟩
  · exact .inr ⟨k, xs, rfl, hk, hp, rfl⟩
theorem depthAll_map {α : Type} (f : α → PyData) (n : Nat) (h : ∀ x, (f x).depth ≤ n) : ∀ xs : List α, PyData.depthAll (xs.map f) ≤ n
  | [] => by simp [PyData.depthAll]
  | x :: xs => by
    simp only [List.map_cons, PyData.depthAll]
    exact Nat.max_le.mpr ⟨h x, depthAll_map f n h xs⟩
/-- two lists of one kind of datum -/
theorem cmp_eqG {α : Type} [BEq α] {a b : V} {xs ys : List α} (f : α → V) (h1 : ∀ x, (f x).plain = true) (h2 : ∀ x, (f x).data.depth ≤ 50) (h3 : ∀ x y, PyData.eqv (f x).data (f y).data = (x == y)) {Q} (ha : LV H a (xs.map f)) (hb : LV H b (ys.map f))
    (ca : ∀ x ∈ xs, (f x).data.canLay0 = true) (cb : ∀ x ∈ ys, (f x).data.canLay0 = true) (q : Q (xs == ys) H) : Cmp C d .Eq a b H Q := by
  refine cmp_eqD (ha.sees (plains_map _ h1 _)) (hb.sees (plains_map _ h1 _)) ?_ ?_ ?_ ?_
  · rw [datas_map]; show PyData.canLayAll0 _ = true; exact canLayAll_map _ _ ca
  · rw [datas_map]; show PyData.canLayAll0 _ = true; exact canLayAll_map _ _ cb
  · rw [datas_map]; refine Nat.le_trans (Nat.min_le_left _ _) ?_
    show PyData.depthAll _ + 1 ≤ 100
    have := depthAll_map (fun x => (f x).data) 50 h2 xs
    omega
  · rw [datas_map, datas_map]
    show Q (PyData.eqvAll _ _) H
    rw [eqvAll_map _ h3]
    exact q
theorem cmp_neG {α : Type} [BEq α] {a b : V} {xs ys : List α} (f : α → V) (h1 : ∀ x, (f x).plain = true) (h2 : ∀ x, (f x).data.depth ≤ 50) (h3 : ∀ x y, PyData.eqv (f x).data (f y).data = (x == y)) {Q} (ha : LV H a (xs.map f)) (hb : LV H b (ys.map f))
    (ca : ∀ x ∈ xs, (f x).data.canLay0 = true) (cb : ∀ x ∈ ys, (f x).data.canLay0 = true) (q : Q (xs != ys) H) : Cmp C d .NotEq a b H Q := by
  refine cmp_neD (ha.sees (plains_map _ h1 _)) (hb.sees (plains_map _ h1 _)) ?_ ?_ ?_ ?_
  · rw [datas_map]; show PyData.canLayAll0 _ = true; exact canLayAll_map _ _ ca
  · rw [datas_map]; show PyData.canLayAll0 _ = true; exact canLayAll_map _ _ cb
  · rw [datas_map]; refine Nat.le_trans (Nat.min_le_left _ _) ?_
    show PyData.depthAll _ + 1 ≤ 100
    have := depthAll_map (fun x => (f x).data) 50 h2 xs
    omega
  · rw [datas_map, datas_map]
    show Q (!PyData.eqvAll _ _) H
    rw [eqvAll_map _ h3]
    exact q
theorem int_data (x : Int) : (V.int x).data = .int x := rfl
theorem cmp_eqLi {a b : V} {ns ms : List Int} {Q} (ha : LV H a (ns.map V.int)) (hb : LV H b (ms.map V.int)) (q : Q (ns == ms) H) : Cmp C d .Eq a b H Q :=
  cmp_eqG V.int (fun _ => rfl) (fun _ => by simp [V.data, PyData.depth]) (fun x y => by simp [V.data, PyData.eqv]) ha hb (fun _ _ => rfl) (fun _ _ => rfl) q
theorem cmp_neLi {a b : V} {ns ms : List Int} {Q} (ha : LV H a (ns.map V.int)) (hb : LV H b (ms.map V.int)) (q : Q (ns != ms) H) : Cmp C d .NotEq a b H Q :=
  cmp_neG V.int (fun _ => rfl) (fun _ => by simp [V.data, PyData.depth]) (fun x y => by simp [V.data, PyData.eqv]) ha hb (fun _ _ => rfl) (fun _ _ => rfl) q
/-- its signs are Unicode's -/
noncomputable def Uni (x : Str) : Prop := PyData.strOk x = true
theorem cmp_neLs {a b : V} {ns ms : List Str} {Q} (ha : LV H a (ns.map V.str)) (hb : LV H b (ms.map V.str)) (ca : ∀ x ∈ ns, Uni x) (cb : ∀ x ∈ ms, Uni x) (q : Q (ns != ms) H) : Cmp C d .NotEq a b H Q :=
  cmp_neG V.str (fun _ => rfl) (fun _ => by simp [V.data, PyData.depth]) (fun x y => by simp [V.data, PyData.eqv]) ha hb (fun x h => by simpa [V.data, PyData.canLay0, Uni] using ca x h) (fun x h => by simpa [V.data, PyData.canLay0, Uni] using cb x h) q
/-- a word, what it is prepared to, its operator's number -/
noncomputable def tri (x : Str × Str × Int) : V := .list [.str x.1, .str x.2.1, .int x.2.2]
theorem cmp_neLt {a b : V} {ns ms : List (Str × Str × Int)} {Q} (ha : LV H a (ns.map tri)) (hb : LV H b (ms.map tri)) (ca : ∀ x ∈ ns, Uni x.1 ∧ Uni x.2.1) (cb : ∀ x ∈ ms, Uni x.1 ∧ Uni x.2.1) (q : Q (ns != ms) H) : Cmp C d .NotEq a b H Q :=
  cmp_neG tri (fun _ => by simp [tri, V.plain, V.plains]) (fun _ => by simp [tri, V.data, V.datas, PyData.depth, PyData.depthAll]) (fun x y => by
    obtain ⟨x1, x2, x3⟩ := x
    obtain ⟨y1, y2, y3⟩ := y
    simp only [tri, V.data, V.datas, PyData.eqv, PyData.eqvAll, Bool.and_true]
    rfl) ha hb
    (fun x h => by have := ca x h; unfold Uni at this; simp [tri, V.data, V.datas, PyData.canLay0, PyData.canLayAll0, this.1, this.2])
    (fun x h => by have := cb x h; unfold Uni at this; simp [tri, V.data, V.datas, PyData.canLay0, PyData.canLayAll0, this.1, this.2]) q
end Mine
end PartJ17

section PartJ18
open PySem PySem.W PySem.Calls PyProof.Rows
set_option maxRecDepth 100000
set_option linter.unusedVariables false
namespace Mine
variable {C : Cx} {d : Nat} {sc : Sc} {ρ : Vars} {H : Store}

/-- a global set of ints -/
noncomputable def GSet (C : Cx) (x : Str) (T : Int → Bool) : Prop := ∃ a o n, C.mg x = some (.ref a) ∧ C.B.get? a = some o ∧ o.SetObjOf (intKind C.p C.w) T n ∧ n < scanBound
/-- a global table, by ints, of strs -/
noncomputable def GTab (C : Cx) (x : Str) (T : Int → Option Str) : Prop := ∃ a kvs, C.mg x = some (.ref a) ∧ C.B.DictOf (intKind C.p C.w) a kvs ∧ (a == sysModules) = false ∧
  ∀ i, (valueAt kvs i = none ∧ T i = none) ∨ ∃ y t, valueAt kvs i = some (.str y t) ∧ T i = some y
/-- a global table, by strs, of ints -/
noncomputable def GNum (C : Cx) (x : Str) (T : Str → Option Int) : Prop := ∃ a kvs, C.mg x = some (.ref a) ∧ C.B.DictOf (strKind C.p C.w) a kvs ∧
  ∀ y n, T y = some n → ∃ t, valueAt kvs y = some (.int n t)

theorem keepB {I O s} (wf : WF C I O H s) : ∀ b o, C.B.get? b = some o → s.heap.get? b = some o := fun b o e => wf.has b o (wf.base b o e)
theorem ev_inG {l x px pos T Q} (hk : sc.ns.lookup x = some .globalImplicit) (G : GSet C x T) (h : Ev C d sc ρ l H fun v H₁ => ∃ i, v = .int i ∧ Q (.bool (T i)) H₁) (hm : behindInMarks .In (.Name x px) = false := by rfl) (hd : (x == ("__debug__" : Str)) = false := by decide) :
    Ev C d sc ρ (.Compare l [.In] [.Name x px] pos) H Q := fun A E s env fa I O hA hE wf => by
  obtain ⟨a, o, n, hg, ho, hS, hn⟩ := G
  refine wpAny_Compare1 (wpAny_mono (h A E s env fa I O hA hE wf) (fun cv s₁ ⟨I₁, O₁, H₁, v, st₁, wf₁, rv, qq⟩ => ?_) fun _ _ e => e) hm
  obtain ⟨i, e, q⟩ := qq
  rw [e] at rv
  obtain ⟨t, rfl⟩ := rv.int_inv
  refine name_global (hE.step st₁) wf₁ hk hg ?_ hd
  exact wpAny_inSet_of (knd := intKind C.p C.w) (intKind_is _ _ _ _) rfl (hS.setOf (keepB wf₁ _ _ ho) hn) ((post_val wf₁ (.bool _) q).from st₁)
theorem ev_getG {x px e name apos pos T Q} (hk : sc.ns.lookup x = some .globalImplicit) (G : GTab C x T) (hname : name = ("get" : Str)) (h : Ev C d sc ρ e H fun v H₁ => ∃ i, v = .int i ∧ Q (match T i with | some y => .str y | none => .none) H₁)
    (hbase : ∀ env, attributeBase (.Name x px) name env (eval (.Name x px) env) = eval (.Name x px) env := by intro _; rfl)
    (hfew : ∀ env, ((backTo pos (starEach [e] env)).all (fun x => !x.1) && (backToKw pos (keywordEach [] env)).all (fun x => x.1.isSome)
      && decide ([e].length + ([] : List Keyword).length + (if ([] : List Keyword).isEmpty then 0 else 1) < 30)) = true := by intro _; rfl)
    (hline : (apos.endLine == pos.line) = true := by rfl) (he : ∀ env, starEach [e] env = (false, eval e env) :: starEach [] env := by intro _; rfl) (hp : ∀ env, (backTo pos (starEach [] env)).any (·.1) = false := by intro _; rfl) (hd : (x == ("__debug__" : Str)) = false := by decide) :
    Ev C d sc ρ (.Call (.Attribute (.Name x px) name apos) [e] [] pos) H Q := fun A E s env fa I O hA hE wf => by
  subst hname
  obtain ⟨a, kvs, hg, hD, lo, hT⟩ := G
  refine wpAny_Call_method_lateS (hbase env) (hfew env) hline (name_global hE wf hk hg ?_ hd)
  have hD₀ : s.heap.DictOf (intKind C.p C.w) a kvs := hD.keep (keepB wf)
  refine ⟨"dict", "dict.get", PySem.F.plainAttrs_dict, PySem.F.slot_dict_get, PySem.F.type_dict_get, hD₀.typeIs, hD₀.mapOf.noDict, PyProof.Rows.callWith_method1 (args_cons (wpAny_mono (h A E s env fa I O hA hE wf) (fun cv s₁ ⟨I₁, O₁, H₁, v, st₁, wf₁, rv, qq⟩ => args_nil ?_) fun _ _ e => e) (he env)) (he env) (hp env)⟩
  obtain ⟨i, e, q⟩ := qq
  rw [e] at rv
  obtain ⟨t, rfl⟩ := rv.int_inv
  have hD₁ : s₁.heap.DictOf (intKind C.p C.w) a kvs := hD.keep (keepB wf₁)
  refine call_meetsIn PySem.F.slot_dict_get hD₁.typeIs PySem.F.entry_dict_get (PySem.F.args_dict_get_2 _ _) (meets_dict_get (intKind C.p C.w) a (intKind_is _ _ _ _) lo) ⟨_, hD₁.mapOf, ?_⟩
  refine Post.from st₁ ?_
  rcases hT i with ⟨h1, h2⟩ | ⟨y, u, h1, h2⟩
  · rw [h2] at q
    rw [h1]
    exact post_val wf₁ .none q
  · rw [h2] at q
    rw [h1]
    exact post_val wf₁ (.str _ _) q
theorem ev_subG {x px i pos T Q} (hk : sc.ns.lookup x = some .globalImplicit) (G : GNum C x T) (h : Ev C d sc ρ i H fun v H₁ => ∃ y n, v = .str y ∧ T y = some n ∧ Q (.int n) H₁)
    (hs : ∀ o k, subscripted i false o k = operate [o, k] (getItem o k) := by intro _ _; rfl) (hd : (x == ("__debug__" : Str)) = false := by decide) :
    Ev C d sc ρ (.Subscript (.Name x px) i pos) H Q := fun A E s env fa I O hA hE wf => by
  obtain ⟨a, kvs, hg, hD, hT⟩ := G
  refine Subscript_ (name_global hE wf hk hg ?_ hd)
  refine wpAny_mono (h A E s env fa I O hA hE wf) (fun cv s₁ ⟨I₁, O₁, H₁, v, st₁, wf₁, rv, qq⟩ => ?_) fun _ _ e => e
  obtain ⟨y, n, e, hn, q⟩ := qq
  rw [e] at rv
  obtain ⟨t, rfl⟩ := rv.str_inv
  have hD₁ : s₁.heap.DictOf (strKind C.p C.w) a kvs := hD.keep (keepB wf₁)
  obtain ⟨u, hu⟩ := hT y n hn
  exact tail_any hD₁.typeIs slot_dict_getitem.lookup (wpAny_getItem_of (strKind_is C.p C.w y t) hD₁.mapOf hu ((post_val wf₁ (.int _ _) q).from st₁)) (hs _ _)

/-- `x is not None` -/
theorem cmp_isnotN {a : V} {Q} (ha : (∃ y, a = .str y ∧ Q true H) ∨ (a = .none ∧ Q false H)) : Cmp C d .IsNot a .none H Q := fun A E s I O ca cb hA wf ra rb => by
  cases rb.none_inv
  rcases ha with ⟨y, rfl, q⟩ | ⟨rfl, q⟩
  · obtain ⟨t, rfl⟩ := ra.str_inv
    exact wpAny_pure ⟨_, rfl, post_b0 wf q⟩
  · cases ra.none_inv
    exact wpAny_pure ⟨_, rfl, post_b0 wf q⟩
end Mine
end PartJ18

section PartJ19
open PySem PySem.W PySem.Calls PyProof.Rows
set_option maxRecDepth 100000
set_option linter.unusedVariables false
namespace Mine
variable {C : Cx} {d : Nat} {sc : Sc} {ρ : Vars} {H : Store}

end Mine
end PartJ19

section PartJ20
open PySem PySem.W PySem.Calls PyProof.Rows
set_option maxRecDepth 100000
set_option linter.unusedVariables false
namespace Mine
variable {C : Cx} {d : Nat} {sc : Sc} {ρ : Vars} {H : Store}

/-- where a token has been given out already -/
noncomputable def EvP (C : Cx) (d : Nat) (sc : Sc) (ρ : Vars) (e : Expr) (H : Store) (Q : V → Store → Prop) : Prop :=
  ∀ A E (s : Shared) env fa I O, 0 < s.toks → AOk d A → EnvR C I O env sc fa ρ s.heap → WF C I O H s → wpAny C.M A (eval e env) (Post C I O s Q) E s
theorem Ev.p {e Q} (h : Ev C d sc ρ e H Q) : EvP C d sc ρ e H Q := fun A E s env fa I O _ hA hE wf => h A E s env fa I O hA hE wf

theorem evp_replace {o : Expr} {y z : Str} {k1 k2 p1 p2 name apos pos Q} (hname : name = ("replace" : Str)) (hyz : (y == z) = false) (hz : z.length ≤ 14)
    (ho : EvP C d sc ρ o H fun v H₁ => ∃ x, v = .str x ∧ x.length ≤ 1048576 ∧ Q (.str (Txt.replace x y z)) H₁)
    (hbase : ∀ env, attributeBase o name env (eval o env) = eval o env := by intro _; rfl)
    (hline : (apos.endLine == pos.line) = true := by rfl) :
    EvP C d sc ρ (.Call (.Attribute o name apos) [.Constant (.str y) k1 p1, .Constant (.str z) k2 p2] [] pos) H Q := fun A E s env fa I O hp hA hE wf => by
  subst hname
  refine wpAny_Call_method_lateS (hbase env) rfl hline (wpAny_with_toks (n := 1) hp (wpAny_mono (ho A _ s env fa I O hp hA hE wf) (fun cv s₁ ⟨I₁, O₁, H₁, v, st₁, wf₁, rv, qq⟩ hp₁ => ?_) fun _ _ e _ => e))
  obtain ⟨x, e, hx, q⟩ := qq
  subst e
  obtain ⟨t, rfl⟩ := rv.str_inv
  refine ⟨"str", "str.replace", PySem.F.plainAttrs_str, PySem.F.slot_str_replace, PySem.F.type_str_replace, typeIs_str _ _ _, (fun _ e => nomatch e), PyProof.Rows.callWith_method1 (args_cons (Constant_str (args_cons (Constant_str (args_nil ?_)))))⟩
  refine SC.replaceW (show @Ne Nat s₁.toks 0 by omega) (show @Ne Nat (s₁.toks + 1) 0 by omega) (show @Ne Nat s₁.toks (s₁.toks + 1) by omega) hyz hx hz fun t' k => ?_
  exact (post_val wf₁ (.str _ _) q).from st₁

/-- if x < k: a body that may lean on tokens given out -/
theorem ex_ifP {x px k kk cpos tpos y py e apos pos n Q} (hx : nameB sc x = true) (hv : ρ.lookup x = some (.int n)) (hd : ((x == ("__debug__" : Str)) || (x == ("__classdict__" : Str))) = false) (hy : storesB sc y = true)
    (hs : ∀ env : Env, env.scope.names = sc.ns → swapsWith e (some (.Name y py)) apos.line env = pure false)
    (h1 : n < k → EvP C d sc ρ e H fun v H₁ => Q .next (put y v ρ) H₁) (h2 : ¬ n < k → Q .next ρ H) :
    Ex C d sc ρ (.If (.Compare (.Name x px) [.Lt] [.Constant (.int k) kk cpos] tpos) [.Assign [.Name y py] e apos] [] pos) H Q := fun A E s env fa I O hA hE wf => by
  refine wpAny_If (wpAny_isTrue_Compare1 (wpAny_mono (r_name (Q := fun v H' => v = .int n ∧ H' = H) hx hv hd ⟨rfl, rfl⟩ A E s env fa I O hA hE wf) (fun ca s₁ ⟨I₁, O₁, H₁, a, st₁, wf₁, ra, qq⟩ => ?_) fun _ _ e => e) (by rfl))
  obtain ⟨e1, e2⟩ := qq
  replace e2 := e2.symm
  subst e1 e2
  obtain ⟨t, rfl⟩ := ra.int_inv
  refine wpAny_Constant_int (PyProof.Rows.lt_int (wpAny_truthy_bool ?_))
  have stt : Step [] I₁ O₁ s₁ I₁ O₁ { s₁ with toks := s₁.toks + 1 } := Step.tok0 _
  have st₂ := st₁.trans stt
  have wf₂ := wf₁.toks (s₁.toks + 1)
  by_cases hlt : n < k
  · rw [decide_eq_true hlt]
    show wpAny _ _ (execs _ env) _ E _
    refine wpAny_execs_cons (wpAny_Assign_Name (wpAny_mono (h1 hlt A E _ env fa I₁ O₁ (Nat.succ_pos _) hA (hE.step st₂) wf₂) (fun cv s₃ ⟨I₃, O₃, H₃, v, st₃, wf₃, rv, q₃⟩ => ?_) fun _ _ e => e) (hs env hE.ns))
    exact store_ (storesB_ok hy) (hE.step (st₂.trans st₃)) wf₃ rv fun s₄ st₄ wf₄ hE₄ => wpAny_execs_nil ⟨I₃, O₃, H₃, _, .next, (st₂.trans st₃).nil.trans st₄, wf₄, hE₄, .next, q₃⟩
  · rw [decide_eq_false hlt]
    exact wpAny_execs_nil ⟨I₁, O₁, H, ρ, .next, st₂.nil, wf₂, hE.step st₂, .next, h2 hlt⟩
end Mine
end PartJ20

section PartJ21
open PySem PySem.W PySem.Calls PyProof.Rows
set_option maxRecDepth 100000
set_option linter.unusedVariables false
namespace Mine
variable {C : Cx} {d : Nat} {sc : Sc} {ρ : Vars} {H : Store}

noncomputable def attrNames : List Str := ["lineno", "instream", "whitespace", "pushback", "read"]
structure Cls (C : Cx) (N : Addr) (mN : Str → Option Value) : Prop where
  at_ : ClsAt C.B C.lexC N mN
  ga : mN "__getattribute__" = none
  gb : mN "__getattr__" = none
  sa : mN "__setattr__" = none
  off : ∀ n ∈ attrNames, mN n = none

theorem object_lacks : ∀ n ∈ attrNames, typeLookup (.type "object") n = pure none := by
  intro n hn
  unfold attrNames at hn
  simp only [List.mem_cons, List.mem_nil_iff, or_false] at hn
  rcases hn with rfl | rfl | rfl | rfl | rfl <;> (rw [typeLookup_type, builtinLookup_eq_fast]; kernel_rfl)
theorem VRel.handed {I O v cv} (h : VRel I O v cv) : handedOut cv = pure cv := by cases h <;> rfl

inductive InstP (C : Cx) (I : Part) (O : Own) (h : Heap) (k : Nat) (at_ : List (Str × V)) (cv : Value) : Prop
  | mk (a dx : Addr) (o : Obj) (mA : Str → Option Value) (e : cv = .ref a) (ho : O k = some [a, dx]) (h1 : h.get? a = some o) (h2 : o.cls = .ref C.lexC) (h3 : o.dict = some dx) (h4 : ∀ c, o.data ≠ .cls c) (h5 : dx ≠ a) (h6 : h.Ns1 dx mA)
      (h7 : ∀ n v, at_.lookup n = some v → ∃ cv, mA n = some cv ∧ VRel I O v cv) (h8 : ∀ n, at_.lookup n = none → mA n = none)
theorem WF.inst {I O s k at_} {cv : Value} (wf : WF C I O H s) (hk : H.lookup k = some (.inst at_)) (r : VRel I O (.own k) cv) : InstP C I O s.heap k at_ cv := by
  obtain ⟨a, f, e, ho⟩ := r.own_inv
  obtain ⟨a', f', g1, dx, o, mA, rfl, h1, h2, h3, h4, h5, h6, h7, h8⟩ := wf.rel k _ hk
  rw [ho] at g1
  cases g1
  exact ⟨a, dx, o, mA, e, ho, h1, h2, h3, h4, h5, h6, h7, h8⟩

/-- an attribute of an object -/
theorem ev_attr {N mN} (K : Cls C N mN) {e name pos Q} (hname : name ∈ attrNames) (h : Ev C d sc ρ e H fun v H₁ => ∃ k at_ x, v = .own k ∧ H₁.lookup k = some (.inst at_) ∧ at_.lookup name = some x ∧ Q x H₁)
    (he : ∀ env, eval (.Attribute e name pos) env = (do
      let o ← eval e env
      standAt pos.atName
      let r ← holding [o] (getAttr o name true)
      letTemporaryGo e o r
      pure r) := by intro _; rfl) : Ev C d sc ρ (.Attribute e name pos) H Q := fun A E s env fa I O hA hE wf => by
  refine Attribute_any_ (wpAny_mono (h A E s env fa I O hA hE wf) (fun cv s₁ ⟨I₁, O₁, H₁, v, st₁, wf₁, rv, qq⟩ => ?_) fun _ _ e => e) (he env)
  obtain ⟨k, at_, x, e, hk, hx, q⟩ := qq
  rw [e] at rv
  obtain ⟨a, dx, o, mA, rfl, ho, h1, h2, h3, h4, h5, h6, h7, h8⟩ := wf₁.inst hk rv
  obtain ⟨cx, hmx, rx⟩ := h7 name x hx
  obtain ⟨hh, g, dr, t, os⟩ := s₁
  obtain ⟨nm, qn, bs, sn, sub, col, dd, k0, k1, k2, k3, k5, hC⟩ := (K.at_.keeps (keepB wf₁)).obj
  refine load_attr hC (K.at_.keeps (keepB wf₁)).ns K.ga (K.off name hname) (object_lacks name hname) ⟨o, h1, h2, h4, .inr ⟨dx, h3, h5, h6⟩⟩ hmx rx.handed ?_
  exact (post_val (t := t + 1) wf₁ rx q).from st₁

/-- an owned object and what is its own are changed -/
theorem own_updF {I O s} {a : Addr} {f : List Addr} {k : Nat} {h' : Heap} {ov ov' : OV} {tk : Nat} (wf : WF C I O H s) (hk : H.lookup k = some ov) (ho : O k = some (a :: f)) (hs : ∀ b o, b ∉ a :: f → s.heap.get? b = some o → h'.get? b = some o) (ha : ∀ b ∈ a :: f, (h'.get? b).isSome) (hr : ORel C I O h' a f ov') :
    Step [] I O s I O { s with heap := h', toks := tk } ∧ WF C I O (upd k ov' H) { s with heap := h', toks := tk } := by
  have al : ∀ b, (s.heap.get? b).isSome → (h'.get? b).isSome := fun b e => by
    by_cases q : b ∈ a :: f
    · exact ha b q
    · obtain ⟨o, e'⟩ := Option.isSome_iff_exists.mp e
      rw [hs b o q e']; rfl
  have off := wf.off k _ ho
  refine ⟨⟨fun _ _ e => e, fun _ _ e => .inl e, fun _ _ e => e, fun _ _ e => .inl e, fun b o e h1 _ => hs b o (fun q => h1 ⟨k, _, ho, q⟩) e, al, rfl, rfl, rfl⟩,
    ⟨wf.base, fun b o e => hs b o (fun q => by rw [(off b q).1] at e; cases e) (wf.has b o e), fun j => ?_, fun j x e => ?_, fun j f e b hb => ⟨(wf.off j f e b hb).1, al b (wf.off j f e b hb).2⟩, wf.apart⟩⟩
  · rw [lookup_upd]
    by_cases q : j = k
    · subst q; rw [if_pos rfl, wf.dom j, hk]; rfl
    · rw [if_neg q]; exact wf.dom j
  · rw [lookup_upd] at e
    by_cases q : j = k
    · subst q
      rw [if_pos rfl] at e
      cases e
      exact ⟨a, f, ho, hr⟩
    · rw [if_neg q] at e
      obtain ⟨b, g, h1, h2⟩ := wf.rel j x e
      exact ⟨b, g, h1, h2.mono (fun _ _ e => e) (fun _ _ e => e) fun c hc o e => hs c o (fun q' => wf.apart j k _ _ h1 ho q c hc q') e⟩

theorem set_attr {N mN} (K : Cls C N mN) {name : Str} (hname : name ∈ attrNames) {A : Around} {E : Value → Shared → Prop} {I O s k at_ v cv cx} {Q : Unit → Shared → Prop} (wf : WF C I O H s) (hk : H.lookup k = some (.inst at_)) (r : VRel I O (.own k) cv) (rx : VRel I O v cx) (hl : at_.length ≤ 1000)
    (q : ∀ s', Step [] I O s I O s' → WF C I O (upd k (.inst (put name v at_)) H) s' → Q () s') : wpAny C.M A (setAttr cv name cx) Q E s := by
  obtain ⟨a, dx, o, mA, rfl, ho, h1, h2, h3, h4, h5, h6, h7, h8⟩ := wf.inst hk r
  have I₀ : s.heap.Inst a C.lexC mA := ⟨o, h1, h2, h4, .inr ⟨dx, h3, h5, h6⟩⟩
  obtain ⟨hh, g, dr, t, os⟩ := s
  obtain ⟨nm, qn, bs, sn, sub, col, dd, k0, k1, k2, k3, k5, hC⟩ := (K.at_.keeps (keepB wf)).obj
  obtain ⟨nm', qn', bs', sn', sub', col', dd', k0', k1', k2', k3', k5', hC'⟩ := K.at_.obj
  have haC : a ≠ C.lexC := fun e => by
    have := (wf.off k _ ho a (.head _)).1
    rw [e, wf.base _ _ hC'] at this
    cases this
  refine store_attr PySem.F.store_object hC (K.at_.keeps (keepB wf)).ns K.sa (K.off name hname) (object_lacks name hname) haC I₀ (fun h' tk' I' hkp hsame => ?_) (ns := at_.map (·.1)) (fun y hy => ?_) (by rw [List.length_map, sizeLine_eq]; omega)
  · obtain ⟨o₁, e₁, c₁, dt₁, _, dk₁⟩ := hsame o h1
    obtain ⟨o', e', _, _, hd'⟩ := I'
    obtain rfl := Option.some.inj (e₁.symm.trans e')
    have hns' : h'.Ns1 dx (fun y => if y = name then some cx else mA y) := by
      rcases hd' with ⟨hn0, _⟩ | ⟨d', hd', _, hns'⟩
      · rw [dk₁ dx h3] at hn0; cases hn0
      · obtain rfl := Option.some.inj ((dk₁ dx h3).symm.trans hd'); exact hns'
    have hal : ∀ b ∈ [a, dx], (h'.get? b).isSome := fun b hb => by
      rcases List.mem_cons.mp hb with rfl | hb
      · rw [e₁]; rfl
      · cases List.mem_singleton.mp hb
        obtain ⟨od, _, _, ed, _⟩ := hns'.ns
        rw [ed]; rfl
    have hget : ∀ n u, (put name v at_).lookup n = some u → ∃ c, (if n = name then some cx else mA n) = some c ∧ VRel I O u c := fun n u hu => by
      rw [lookup_put] at hu
      by_cases qn : n = name
      · rw [if_pos qn] at hu; cases hu; exact ⟨cx, by simp [qn], rx⟩
      · rw [if_neg qn] at hu
        obtain ⟨c, g1, g2⟩ := h7 n u hu
        exact ⟨c, by simp [qn, g1], g2⟩
    have hnone : ∀ n, (put name v at_).lookup n = none → (if n = name then some cx else mA n) = none := fun n hn => by
      rw [lookup_put] at hn
      by_cases qn : n = name
      · rw [if_pos qn] at hn; cases hn
      · rw [if_neg qn] at hn
        simp [qn, h8 n hn]
    obtain ⟨st', wf'⟩ := own_updF (tk := tk') wf hk ho (h' := h') (ov' := .inst (put name v at_)) (fun b o₂ hb e => hkp b o₂ (fun q => hb (q ▸ .head _)) (fun o₀ d' e₀ ed => by
        obtain rfl := Option.some.inj (h1.symm.trans e₀); obtain rfl := Option.some.inj (h3.symm.trans ed); exact fun q => hb (q ▸ .tail _ (.head _))) e) hal
      ⟨dx, o₁, _, rfl, e₁, c₁.trans h2, dk₁ _ h3, fun c => dt₁ ▸ h4 c, h5, hns', hget, hnone⟩
    exact q _ st' wf'
  · cases hq : at_.lookup y with
    | none => exact absurd (h8 y hq) hy
    | some u => exact List.mem_map_of_mem (mem_of_lookup hq)
end Mine
end PartJ21

section PartJ22
open PySem PySem.W PySem.Calls PyProof.Rows
set_option maxRecDepth 100000
set_option linter.unusedVariables false
namespace Mine
variable {C : Cx} {d : Nat} {sc : Sc} {ρ : Vars} {H : Store}

theorem ex_setattr {N mN} (K : Cls C N mN) {o name apos e pos Q} (hname : name ∈ attrNames) (h : Ev C d sc ρ e H fun v H₁ => Ev C d sc ρ o H₁ fun u H₂ => ∃ k at_, u = .own k ∧ H₂.lookup k = some (.inst at_) ∧ at_.length ≤ 1000 ∧ Q .next ρ (upd k (.inst (put name v at_)) H₂))
    (hs : ∀ env, swapsWith e (some (.Attribute o name apos)) pos.line env = pure false := by intro _; rfl) : Ex C d sc ρ (.Assign [.Attribute o name apos] e pos) H Q := fun A E s env fa I O hA hE wf => by
  refine plainObj_wpAny_Assign_Attribute (wpAny_mono (h A E s env fa I O hA hE wf) (fun cv s₁ ⟨I₁, O₁, H₁, v, st₁, wf₁, rv, q₁⟩ => ?_) fun _ _ e => e) (hs env)
  refine wpAny_mono (q₁ A E s₁ env fa I₁ O₁ hA (hE.step st₁) wf₁) (fun cu s₂ ⟨I₂, O₂, H₂, u, st₂, wf₂, ru, qq⟩ => ?_) fun _ _ e => e
  obtain ⟨k, at_, e, hk, hl, q₂⟩ := qq
  rw [e] at ru
  refine set_attr K hname wf₂ hk ru (rv.mono st₂.sub st₂.oext) hl fun s₃ st₃ wf₃ => ?_
  have st := (st₁.trans st₂).trans st₃
  exact ⟨I₂, O₂, _, ρ, .next, st.nil, wf₃, hE.step st, .next, q₂⟩
theorem ex_augattr {N mN} (K : Cls C N mN) {o name apos op e pos Q} (hname : name ∈ attrNames) (h : Ev C d sc ρ o H fun u H₁ => ∃ k at_ x, u = .own k ∧ H₁.lookup k = some (.inst at_) ∧ at_.lookup name = some x ∧ at_.length ≤ 1000 ∧
      Ev C d sc ρ e H₁ fun v H₂ => IBin C d op x v H₂ fun r H₃ => H₃.lookup k = some (.inst at_) ∧ Q .next ρ (upd k (.inst (put name r at_)) H₃)) : Ex C d sc ρ (.AugAssign (.Attribute o name apos) op e pos) H Q := fun A E s env fa I O hA hE wf => by
  refine wpAny_AugAssign_AttributeAny (wpAny_mono (h A E s env fa I O hA hE wf) (fun cu s₁ ⟨I₁, O₁, H₁, u, st₁, wf₁, ru, qq⟩ => ?_) fun _ _ e => e)
  obtain ⟨k, at_, x, e, hk, hx, hl, q₁⟩ := qq
  rw [e] at ru
  obtain ⟨a, dx, ob, mA, rfl, ho, h1, h2, h3, h4, h5, h6, h7, h8⟩ := wf₁.inst hk ru
  obtain ⟨cx, hmx, rx⟩ := h7 name x hx
  have load : ∀ Q' : Value → Shared → Prop, Q' cx { s₁ with toks := s₁.toks + 1 } → wpAny C.M A (getAttr (.ref a) name true) Q' E s₁ := fun Q' hq' => by
    obtain ⟨hh, g, dr, t, os⟩ := s₁
    obtain ⟨nm, qn, bs, sn, sub, col, dd, k0, k1, k2, k3, k5, hC⟩ := (K.at_.keeps (keepB wf₁)).obj
    exact load_attr hC (K.at_.keeps (keepB wf₁)).ns K.ga (K.off name hname) (object_lacks name hname) ⟨ob, h1, h2, h4, .inr ⟨dx, h3, h5, h6⟩⟩ hmx rx.handed hq'
  refine load _ ?_
  have stt : Step [] I O s I₁ O₁ { s₁ with toks := s₁.toks + 1 } := st₁.trans (Step.tok0 _)
  refine wpAny_mono (q₁ A E { s₁ with toks := s₁.toks + 1 } env fa I₁ O₁ hA (hE.step stt) (wf₁.toks _)) (fun cv s₂ ⟨I₂, O₂, H₂, v, st₂, wf₂, rv, q₂⟩ => ?_) fun _ _ e => e
  refine wpAny_mono (q₂ A E s₂ I₂ O₂ cx cv hA wf₂ (rx.mono st₂.sub st₂.oext) rv) (fun cr s₃ ⟨I₃, O₃, H₃, r, st₃, wf₃, rr, qq⟩ => ?_) fun _ _ e => e
  obtain ⟨hk₃, q₃⟩ := qq
  refine set_attr K hname wf₃ hk₃ (.own (st₃.oext _ _ (st₂.oext _ _ ho))) rr hl fun s₄ st₄ wf₄ => ?_
  have st := ((stt.trans st₂).trans st₃).trans st₄
  exact ⟨I₃, O₃, _, ρ, .next, st.nil, wf₄, hE.step st, .next, q₃⟩
/-- the truth of a list -/
theorem tru_list {v : V} {xs : List V} {Q} (h : LV H v xs) (hl : xs.length ≤ 100000) (q : Q (!xs.isEmpty) H) : Tru C d v H Q := fun A E s I O ca hA wf ra => by
  obtain ⟨a, vs, n, rfl, h1, r⟩ := h.get wf ra
  have e : (!xs.isEmpty) = (!vs.isEmpty) := by cases r <;> rfl
  rw [e] at q
  refine wpAny_truthy_list (isL h1) (by rw [List.size_toArray, ← r.length]; omega) ?_
  refine post_b wf ?_
  simpa using q

/-- a method of the class -/
noncomputable def Meth (C : Cx) (mN : Str → Option Value) (name : Str) (params : List Str) (names : List (Str × NameKind)) (body : List Stmt) : Prop :=
  ∃ f o fd, mN name = some (.ref f) ∧ C.B.get? f = some o ∧ o.cls = .type "function" ∧ o.data = .func fd ∧ FdOk C fd params names body
theorem meth_get {N mN} (K : Cls C N mN) {name params names body} (Mt : Meth C mN name params names body) {y} (hB : typeLookup (.type "object") name = pure y) {I O s k at_} {cu : Value} (wf : WF C I O H s) (hk : H.lookup k = some (.inst at_)) (hn : at_.lookup name = none) (r : VRel I O (.own k) cu)
    {A : Around} {E : Value → Shared → Prop} {pl : Sem Bool} {Q : Value × List Value → Shared → Prop} (q : ∀ f o fd, C.B.get? f = some o → o.data = .func fd → FdOk C fd params names body → Q (.ref f, [cu]) s) : wpAny C.M A (getMethod cu name pl) Q E s := by
  obtain ⟨f, o, fd, hf, hfo, hfc, hfd, ok⟩ := Mt
  obtain ⟨a, dx, ob, mA, rfl, ho, h1, h2, h3, h4, h5, h6, h7, h8⟩ := wf.inst hk r
  have q' := q f o fd hfo hfd ok
  obtain ⟨hh, g, dr, t, os⟩ := s
  obtain ⟨nm, qn, bs, sn, sub, col, dd, k0, k1, k2, k3, k5, hC⟩ := (K.at_.keeps (keepB wf)).obj
  exact method_of hC (K.at_.keeps (keepB wf)).ns K.ga K.gb hf (keepB wf _ _ hfo) hfc hB ⟨ob, h1, h2, h4, .inr ⟨dx, h3, h5, h6⟩⟩ (h8 name hn) q'
theorem ev_methI0 {N mN} (K : Cls C N mN) {o name apos pos params names body Q y} (Mt : Meth C mN name params names body) (F : Sig params names) (hB : typeLookup (.type "object") name = pure y) (pl : Env → Sem Bool)
    (he : ∀ env, eval (.Call (.Attribute o name apos) [] [] pos) env = (do
      let ov ← eval o env
      standAt apos.atName
      let (f, first) ← holding [ov] (getMethod ov name (pl env))
      callWith pos f first (backTo pos (starEach [] env)) []))
    (h : Ev C (d + 1) sc ρ o H fun u H₁ => ∃ k at_, u = .own k ∧ H₁.lookup k = some (.inst at_) ∧ at_.lookup name = none ∧ params.length = 1 ∧ Xs C d (fnSc names) (params.zip [u]) body H₁ (Returns Q)) :
    Ev C (d + 1) sc ρ (.Call (.Attribute o name apos) [] [] pos) H Q := fun A E s env fa I O hA hE wf => by
  refine MethodCall_ (pl := pl env) (wpAny_mono (h A E s env fa I O hA hE wf) (fun cu s₁ ⟨I₁, O₁, H₁, u, st₁, wf₁, ru, qq⟩ => ?_) fun _ _ e => e) (he env)
  obtain ⟨k, at_, e, hk, hn, hl, hX⟩ := qq
  subst e
  refine meth_get K Mt hB wf₁ hk hn ru fun f of fd hfo hfd ok => ?_
  refine callWith_meth0 hfd (keepB wf₁ _ _ hfo) ?_
  exact wpAny_mono (fn_callA hfo hfd ok F (vs := [.own k]) (by simpa using hl.symm) hX A E s₁ I₁ O₁ [cu] hA wf₁ (.cons ru .nil)) (fun _ _ x => x.from st₁) fun _ _ e => e
theorem ev_methI {N mN} (K : Cls C N mN) {o e es name apos pos params names body Q y} (Mt : Meth C mN name params names body) (F : Sig params names) (hB : typeLookup (.type "object") name = pure y) (pl : Env → Sem Bool)
    (he : ∀ env, eval (.Call (.Attribute o name apos) (e :: es) [] pos) env = (do
      let ov ← eval o env
      standAt apos.atName
      let (f, first) ← holding [ov] (getMethod ov name (pl env))
      callWith pos f first (backTo pos (starEach (e :: es) env)) []))
    (hst : ∀ env, starEach (e :: es) env = (false, eval e env) :: starEach es env)
    (h : Ev C (d + 1) sc ρ o H fun u H₁ => ∃ k at_, u = .own k ∧ H₁.lookup k = some (.inst at_) ∧ at_.lookup name = none ∧ Es C (d + 1) sc ρ (e :: es) H₁ fun vs H₂ => vs.length + 1 = params.length ∧ Xs C d (fnSc names) (params.zip (u :: vs)) body H₂ (Returns Q)) :
    Ev C (d + 1) sc ρ (.Call (.Attribute o name apos) (e :: es) [] pos) H Q := fun A E s env fa I O hA hE wf => by
  refine MethodCall_ (pl := pl env) (wpAny_mono (h A E s env fa I O hA hE wf) (fun cu s₁ ⟨I₁, O₁, H₁, u, st₁, wf₁, ru, qq⟩ => ?_) fun _ _ e => e) (he env)
  obtain ⟨k, at_, e, hk, hn, hEs⟩ := qq
  subst e
  refine meth_get K Mt hB wf₁ hk hn ru fun f of fd hfo hfd ok => ?_
  refine callWith_meth (h₀ := C.B) hfd hfo (wpAny_mono (hEs A E s₁ env fa I₁ O₁ pos hA (hE.step st₁) wf₁) (fun cvs s₂ ⟨I₂, O₂, H₂, vs, st₂, wf₂, rvs, qq⟩ => ⟨keepB wf₂, ?_⟩) fun _ _ e => e) (hst env)
  obtain ⟨hl, hX⟩ := qq
  exact wpAny_mono (fn_callA hfo hfd ok F (vs := .own k :: vs) (by simpa using hl) hX A E s₂ I₂ O₂ (cu :: cvs) hA wf₂ (.cons (ru.mono st₂.sub st₂.oext) rvs)) (fun _ _ x => x.from (st₁.trans st₂)) fun _ _ e => e

/-- pop(0) -/
theorem callv_pop0 {k : Nat} {x : V} {xs : List V} {Q} (hk : H.lookup k = some (.list (x :: xs))) (hl : xs.length ≤ 100000) (q : Q x (upd k (.list xs) H)) : CallV C d (.builtin "list.pop") [.own k, .int 0] H Q := fun A E s I O cvs hA wf rs => by
  obtain ⟨c, e, rfl, r1, r2⟩ := rs.two
  obtain ⟨a, vs, n, rfl, ho, h1, r⟩ := wf.ownL hk r1
  obtain ⟨u, rfl⟩ := r2.int_inv
  cases r with
  | @cons _ v _ vs' rx r =>
  refine call_meets PySem.F.slot_list_pop ⟨_, h1, rfl⟩ PySem.F.entry_list_pop (PySem.F.args_list_pop_2 _ _) (PySem.MeetsSeq.list_pop_at a (v :: vs').toArray n 0 u 0 v (by decide) (by simp [seqIndex?]) (by simp) (by rw [List.size_toArray, List.length_cons, ← r.length, sizeLine_eq]; omega)) ⟨h1, ?_⟩
  have hp : ∃ n', (s.heap.update a (Obj.mapSeq fun xs => xs.eraseIdxIfInBounds 0)).get? a = some (lobj vs' n') := by
    have e0 : (v :: vs').toArray.eraseIdxIfInBounds 0 = vs'.toArray := by simp
    have h2 := PySem.IsL.update (h := s.heap) (l := a) (items := (v :: vs').toArray) (n := n) h1 (fun xs => xs.eraseIdxIfInBounds 0)
    rw [e0] at h2
    exact ⟨_, h2⟩
  obtain ⟨n', hp⟩ := hp
  obtain ⟨st, wf'⟩ := own_upd (tk := s.toks) wf hk ho (Heap.SameBut.update ..) (by rw [hp]; rfl) (ov' := .list xs) ⟨rfl, vs', n', hp, r⟩
  exact ⟨I, O, _, x, st, wf', rx, q⟩
end Mine
end PartJ22

section PartJ23
open PySem PySem.W PySem.Calls PyProof.Rows
set_option maxRecDepth 100000
set_option linter.unusedVariables false
namespace Mine
variable {C : Cx} {d : Nat} {sc : Sc} {ρ : Vars} {H : Store}

/-- facts of callable_iterator -/
theorem owner_ci : Manifest.owners.lookup (String.ofList ['r', 'o', 't', 'a', 'r', 'e', 't', 'i', '_', 'e', 'l', 'b', 'a', 'l', 'l', 'a', 'c'].reverse) = some Manifest.sig_callable_iterator := by kernel_rfl
theorem slot_ci_next : Slot "callable_iterator" "__next__" "callable_iterator.__next__" :=
  .of (owner := "callable_iterator") (n := "__next__") (by rw [typeLookup_type, builtinLookup_eq_fast]; kernel_rfl) (by decide +kernel) (by decide +kernel) (by decide +kernel)
    (by first | exact .inl (by decide +kernel) | exact .inr (by decide +kernel)) (by rw [isSubtype_type]; kernel_rfl)
theorem entry_ci_next : entryFor table "callable_iterator.__next__" = some Builtin.«callable_iterator.__next__» := entryFor_of_tree (by kernel_rfl)
theorem args_ci_next_1 (a : Value) : argsOk "callable_iterator.__next__" ⟨[a], []⟩ := by
  unfold argsOk; rw [signature?_of (id := "callable_iterator.__next__") (n := ['_', '_', 't', 'x', 'e', 'n', '_', '_']) (o := ['r', 'o', 't', 'a', 'r', 'e', 't', 'i', '_', 'e', 'l', 'b', 'a', 'l', 'l', 'a', 'c']) (by kernel_rfl) owner_ci]; kernel_rfl
theorem slot_ci_iter : Slot "callable_iterator" "__iter__" "callable_iterator.__iter__" :=
  .of (owner := "callable_iterator") (n := "__iter__") (by rw [typeLookup_type, builtinLookup_eq_fast]; kernel_rfl) (by decide +kernel) (by decide +kernel) (by decide +kernel)
    (by first | exact .inl (by decide +kernel) | exact .inr (by decide +kernel)) (by rw [isSubtype_type]; kernel_rfl)
theorem args_ci_iter_1 (a : Value) : argsOk "callable_iterator.__iter__" ⟨[a], []⟩ := by
  unfold argsOk; rw [signature?_of (id := "callable_iterator.__iter__") (n := ['_', '_', 'r', 'e', 't', 'i', '_', '_']) (o := ['r', 'o', 't', 'a', 'r', 'e', 't', 'i', '_', 'e', 'l', 'b', 'a', 'l', 'l', 'a', 'c']) (by kernel_rfl) owner_ci]; kernel_rfl
theorem entry_ci_iter : entryFor table "callable_iterator.__iter__" = some Builtin.«dict_keyiterator.__iter__» :=
  entryFor_alias (id' := "dict_keyiterator.__iter__") (by kernel_rfl) (by first | rfl | decide +kernel | (unfold String.splitOn; simp +decide [String.splitOnAux])) (by decide +kernel) (by kernel_rfl)

theorem callBorrowed_eq (f : Value) (pos : List Value) : callBorrowed f pos = (call f pos []).keep [borrowed] := by
  unfold callBorrowed call runValue run
  show Sem.call _ _ _ _ _ = Sem.call _ _ _ _ _
  congr 1
  funext r
  cases r with
  | error e => rfl
  | ok fl => cases fl <;> rfl
end Mine
end PartJ23

section PartJ24
open PySem PySem.W PySem.Calls PyProof.Rows
set_option maxRecDepth 100000
set_option linter.unusedVariables false
namespace Mine
section
variable {prog : Program} {w : World} {A : Around} {E : Value → Shared → Prop} {s : Shared}
noncomputable abbrev fitObj (m : Addr) (t : Tok) : Obj := { cls := .type "callable_iterator", data := .fields #[.ref m, .str Str.empty t, .bool false] }
noncomputable abbrev fitEnd : Obj := { cls := .type "callable_iterator", data := .fields #[.none, .none, .bool true] }
noncomputable abbrev mObj (f x : Addr) : Obj := { cls := .type "method", data := .fields #[.ref f, .ref x] }

theorem borrows {M : Model} {m f x : Addr} {o : Obj} {fd : FuncData} {Q : Bool → Shared → Prop} (hm : s.heap.get? m = some (mObj f x)) (hf : s.heap.get? f = some o) (hd : o.data = .func fd) (q : Q true s) : wpAny M A (borrowsExactly (.ref m)) Q E s := by
  unfold borrowsExactly
  dsimp only
  refine wpAny_bind (wpAny_load hm ?_)
  show wpAny _ _ (do match (← load f).data with | .func _ => pure true | _ => pure false) _ _ _
  refine wpAny_bind (wpAny_load hf ?_)
  rw [hd]
  exact wpAny_pure q

theorem next_fit {it m f x : Addr} {o : Obj} {fd : FuncData} {t : Tok} {Q : Option Value → Shared → Prop} (hh : A.handled = none) (hit : s.heap.get? it = some (fitObj m t)) (hm : s.heap.get? m = some (mObj f x)) (hf : s.heap.get? f = some o) (hd : o.data = .func fd)
    (hcall : ∀ E : Value → Shared → Prop, codeAny (model prog w) A.in1 (.call (.ref f) ⟨[.ref x], []⟩) (fun r s' => match r with | .ok (.ret v) => (∃ y u, v = .str y u ∧ (∃ t₂, s'.heap.get? it = some (fitObj m t₂)) ∧ s'.heap.get? m = some (mObj f x) ∧ s'.heap.get? f = some o ∧
      (y ≠ Str.empty → Q (some v) s') ∧ (y = Str.empty → ∀ h' tk, h'.get? it = some fitEnd → (∀ b o, b ≠ it → s'.heap.get? b = some o → h'.get? b = some o) → Q none { s' with heap := h', toks := tk })) | .ok _ => False | .error e => E e s') s) :
    wpAny (model prog w) A (pyNext (.ref it)) Q E s := by
  have hT : s.TypeIs (.ref it) "callable_iterator" := ⟨_, hit, rfl⟩
  unfold pyNext
  refine wpAny_bind (wpAny_attempt (wpAny_callSpecial?_slot (name := Str.ofString "__next__") hT slot_ci_next
    (wpAny_call_entry slot_ci_next hT entry_ci_next ?_ (args_ci_next_1 _))))
  unfold Builtin.«callable_iterator.__next__»
  refine wpAny_bind (wpAny_of_eq (a := (Value.ref it, [])) rfl ?_)
  try dsimp only
  refine wpAny_bind (wpAny_field hit rfl (x := .bool false) rfl ?_)
  rw [if_neg (show ¬ (Value.bool false == Value.bool true) = true from by decide)]
  refine wpAny_bind (wpAny_field hit rfl (x := .ref m) rfl ?_)
  refine wpAny_bind (wpAny_attempt ?_)
  unfold callOutOfASlot
  refine wpAny_bind (borrows hm hf hd ?_)
  show wpAny _ _ (callBorrowed (.ref m) []) _ _ _
  rw [callBorrowed_eq]
  refine wpAny_keep (wpAny_call (W.method_call hm (codeAny_mono (hcall fun _ _ => False) fun r s' hr => ?_)))
  cases r with
  | error e => exact hr.elim
  | ok fl =>
    cases fl with
    | ret v =>
      obtain ⟨y, u, rfl, ⟨t₂, h1⟩, h2, h3, h4, h5⟩ := hr
      dsimp only
      refine wpAny_bind (wpAny_field h1 rfl (x := .bool false) rfl ?_)
      rw [if_neg (show ¬ (Value.bool false == Value.bool true) = true from by decide)]
      refine wpAny_bind (wpAny_field h1 rfl (x := .str Str.empty t₂) rfl ?_)
      refine wpAny_bind (wpAny_holding (eqBool_str ?_))
      by_cases hy : y = Str.empty
      · subst hy
        rw [show (Str.empty == Str.empty) = true by simp]
        rw [if_neg (show ¬ (!true) = true from by decide)]
        refine wpAny_bind (wpAny_rule ?_)
        have h5 := h5 rfl
        show wpAny _ _ ((do slotLetsGo "callable_iterator.__next__" (← field (.ref it) 0) _; setField (.ref it) 0 .none; setField (.ref it) 1 .none; setField (.ref it) 2 (.bool true)) >>= fun _ => _) _ _ _
        refine wpAny_bind (wpAny_bind (wpAny_field h1 rfl (x := .ref m) rfl (wpAny_bind ?_)))
        unfold slotLetsGo
        dsimp only
        refine wpAny_bind (borrows h2 h3 hd ?_)
        rw [if_pos rfl]
        refine wpAny_pure ?_
        refine wpAny_bind (wpAny_setField h1 rfl (by simp) ?_)
        have g1 : (s'.heap.update it (Obj.mapFields (·.setIfInBounds 0 .none))).get? it = some { cls := .type "callable_iterator", data := .fields #[.none, .str Str.empty t₂, .bool false] } := by
          rw [Heap.get?_update_self _ h1 (by rfl)]; rfl
        refine wpAny_bind (wpAny_setField g1 rfl (by simp) ?_)
        have g2 : ((s'.heap.update it (Obj.mapFields (·.setIfInBounds 0 .none))).update it (Obj.mapFields (·.setIfInBounds 1 .none))).get? it = some { cls := .type "callable_iterator", data := .fields #[.none, .none, .bool false] } := by
          rw [Heap.get?_update_self _ g1 (by rfl)]; rfl
        refine wpAny_setField g2 rfl (by simp) ?_
        have g3 : (((s'.heap.update it (Obj.mapFields (·.setIfInBounds 0 .none))).update it (Obj.mapFields (·.setIfInBounds 1 .none))).update it (Obj.mapFields (·.setIfInBounds 2 (.bool true)))).get? it = some fitEnd := by
          rw [Heap.get?_update_self _ g2 (by rfl)]; rfl
        have keep : ∀ b o, b ≠ it → s'.heap.get? b = some o → (((s'.heap.update it (Obj.mapFields (·.setIfInBounds 0 .none))).update it (Obj.mapFields (·.setIfInBounds 1 .none))).update it (Obj.mapFields (·.setIfInBounds 2 (.bool true)))).get? b = some o := fun b o hb e =>
          (Heap.get?_update_other _ _ (Ne.symm hb)).trans ((Heap.get?_update_other _ _ (Ne.symm hb)).trans ((Heap.get?_update_other _ _ (Ne.symm hb)).trans e))
        generalize (((s'.heap.update it (Obj.mapFields (·.setIfInBounds 0 .none))).update it (Obj.mapFields (·.setIfInBounds 1 .none))).update it (Obj.mapFields (·.setIfInBounds 2 (.bool true)))) = h3' at g3 keep ⊢
        unfold Builtin.SmallTypes.stopIteration
        refine wpAny_bind ?_
        simp only [newExc, newTuple]
        refine wpAny_bind (wpAny_newObj_type ?_ (by size_fits))
        refine wpAny_bind (m := firstArgMember _ _) (wpAny_of_eq (a := Value.none) (by first | rfl | (simp only [firstArgMember]; rfl)) ?_)
        refine wpAny_newObj_type ?_ (by size_fits)
        simp only [raiseNew]
        refine wpAny_bind (wpAny_handled ?_)
        first | rw [show A.in1.handled = none from hh] | rw [hh]
        refine wpAny_bind (wpAny_pure (wpAny_throw ?_))
        refine wpAny_bind (wpAny_isInstance (T := "StopIteration") (b := true) ⟨_, Heap.get?_push_size _ rfl, rfl⟩ isSubtype_stop ?_)
        exact wpAny_pure (h5 _ _ (Heap.get?_push_of_some _ (Heap.get?_push_of_some _ g3)) fun b o hb e => Heap.get?_push_of_some _ (Heap.get?_push_of_some _ (keep b o hb e)))
      · rw [show (Str.empty == y) = false by simpa using fun e => hy e.symm]
        rw [if_pos (by decide)]
        exact wpAny_pure ⟨_, rfl, wpAny_pure (h4 hy)⟩
    | _ => exact hr.elim

theorem next_ended {it : Addr} {Q : Option Value → Shared → Prop} (hh : A.handled = none) (hit : s.heap.get? it = some fitEnd)
    (hQ : ∀ h' tk, (∀ b o, s.heap.get? b = some o → h'.get? b = some o) → Q none { s with heap := h', toks := tk }) : wpAny (model prog w) A (pyNext (.ref it)) Q E s := by
  have hT : s.TypeIs (.ref it) "callable_iterator" := ⟨_, hit, rfl⟩
  unfold pyNext
  refine wpAny_bind (wpAny_attempt (wpAny_callSpecial?_slot (name := Str.ofString "__next__") hT slot_ci_next
    (wpAny_call_entry slot_ci_next hT entry_ci_next ?_ (args_ci_next_1 _))))
  unfold Builtin.«callable_iterator.__next__»
  refine wpAny_bind (wpAny_of_eq (a := (Value.ref it, [])) rfl ?_)
  try dsimp only
  refine wpAny_bind (wpAny_field hit rfl (x := .bool true) rfl ?_)
  rw [if_pos (show (Value.bool true == Value.bool true) = true from by decide)]
  refine wpAny_bind (wpAny_rule ?_)
  unfold Builtin.SmallTypes.stopIteration
  refine wpAny_bind ?_
  refine wpAny_bind ?_
  simp only [newExc, newTuple]
  refine wpAny_bind (wpAny_newObj_type ?_ (by size_fits))
  refine wpAny_bind (m := firstArgMember _ _) (wpAny_of_eq (a := Value.none) (by first | rfl | (simp only [firstArgMember]; rfl)) ?_)
  refine wpAny_newObj_type ?_ (by size_fits)
  simp only [raiseNew]
  refine wpAny_bind (wpAny_handled ?_)
  first | rw [show A.in1.handled = none from hh] | rw [hh]
  refine wpAny_bind (wpAny_pure (wpAny_throw ?_))
  refine wpAny_bind (wpAny_isInstance (T := "StopIteration") (b := true) ⟨_, Heap.get?_push_size _ rfl, rfl⟩ isSubtype_stop ?_)
  exact wpAny_pure (hQ _ _ fun b o e => Heap.get?_push_of_some _ (Heap.get?_push_of_some _ e))
theorem iter_fit {it : Addr} {o : Obj} {Q : Value → Shared → Prop} (hit : s.heap.get? it = some o) (hc : o.cls = .type "callable_iterator") (h : Q (.ref it) s) : wpAny (model prog w) A (pyIter (.ref it)) Q E s := by
  have hT : s.TypeIs (.ref it) "callable_iterator" := ⟨_, hit, hc⟩
  refine wpAny_pyIter_slot hT slot_ci_iter (wpAny_call_entry slot_ci_iter hT entry_ci_iter ?_ (args_ci_iter_1 _))
  show wpAny _ _ (ret (.ref it)) _ _ s
  exact wpAny_pure ⟨_, rfl, "callable_iterator", _, hT, slot_ci_next.lookup, h⟩
end
end Mine
end PartJ24

section PartJ25
open PySem PySem.W PySem.Calls PyProof.Rows PySem.Builtin PySem.Builtin.ObjectAttr
set_option maxRecDepth 100000
set_option linter.unusedVariables false
namespace Mine
section
variable {prog : Program} {w : World} {A : Around} {E : Value → Shared → Prop} {h : Heap} {g : Array GenState} {d : Drawn} {t : Nat} {os : OsState}
variable {nm q : Str} {C N x f : Addr} {bs : List Value} {sn : List Str} {sub : List Value} {ab : Bool} {col : Option Bool} {dd : Option Addr} {k0 k1 k2 k3 k5 : Option Value} {newId : String}
  {mN mA : Str → Option Value} {name : Str} {of o : Obj}

theorem load_method_entry {tk : Tok} {Q : Fin → Shared → Prop}
    (hC : h.get? C = some (excClassObj nm q C N bs [.type "object"] true sn sub ab col dd k0 k1 k2 k3 k5 newId)) (hn : h.Ns N mN) (hf : mN name = some (.ref f)) (hfo : h.get? f = some of) (hfc : of.cls = .type "function")
    (hga : mN "__getattr__" = none) (hB : typeLookup (.type "object") name = pure none) (hnm : (["__module__", "__name__", "__qualname__", "__doc__", "__annotations__"] : List Str).contains name = false) (hx : h.get? x = some o) (hc : o.cls = .ref C) (hnc : ∀ c, o.data ≠ .cls c) {dx : Addr} (hdx : o.dict = some dx) (hne : dx ≠ x) (hns : h.Ns1 dx mA) (hv : mA name = none) (hq : Q (.done (.ret (.ref h.objs.size))) ⟨h.push (mObj f x), g, d, t, os⟩) :
    wpAny (model prog w) A (Builtin.«proto.getattr_hooked» ⟨[.ref x, .str name tk], []⟩) Q E ⟨h, g, d, t, os⟩ := by
  unfold Builtin.«proto.getattr_hooked»
  repeat (first | (with_reducible refine wpAny_loadPart_at hx ?_; rw [hc]) | (with_reducible refine wpAny_typeLookup_exc hC hn PySem.F.mro_object hB ?_; rw [hf]) | (with_reducible refine wpAny_loadPart_at hfo ?_; rw [hfc]) | wp_step)
  have lk : typeLookup (.type "function") (Str.ofString "__get__") = pure (some (.builtin "function.__get__")) := by rw [typeLookup_type, builtinLookup_eq_fast]; kernel_rfl
  have ls : typeLookup (.type "function") (Str.ofString "__set__") = pure none := by rw [typeLookup_type, builtinLookup_eq_fast]; kernel_rfl
  have ld : typeLookup (.type "function") (Str.ofString "__delete__") = pure none := by rw [typeLookup_type, builtinLookup_eq_fast]; kernel_rfl
  refine wpAny_of_eq lk ?_
  unfold dataDescriptor?
  repeat (first | (with_reducible refine wpAny_loadPart_at hfo ?_; rw [hfc]) | (with_reducible refine wpAny_of_eq ls ?_) | (with_reducible refine wpAny_of_eq ld ?_) | wp_step)
  split
  · rename_i c hcd
    exact absurd hcd (hnc c)
  unfold instanceDict
  repeat (first | (with_reducible refine wpAny_loadPart_at hx ?_; rw [hc]) | with_reducible refine wpAny_loadPart_at hC ?_ | wp_step)
  rw [hdx]
  repeat (first | (with_reducible refine wpAny_nsGet hns.ns ?_; rw [hv]) | wp_step)
  rw [if_neg (by rw [hnm]; decide)]
  refine wpAny_pure ?_
  unfold byTheClass
  dsimp only
  refine wpAny_bind (wpAny_rule (wpAny_pure ?_))
  dsimp only
  refine wpAny_bind (wpAny_typeLookup_exc hC hn PySem.F.mro_object PySem.F.lk_object_getattr ?_)
  rw [hga]
  unfold bindWithHook bindTo
  dsimp only
  repeat (first | (with_reducible refine wpAny_loadPart_at hx ?_; rw [hc]) | (with_reducible refine wpAny_loadPart_at hfo ?_; rw [hfc]) | wp_step)
  refine codeAny_call_builtin W.KF.slot_fn.plain W.KF.entry_fn (W.KF.slot_fn.check _ _ _ _ _ _ _ _ ⟨_, hfo, hfc⟩ (W.KF.args_fn _ _ _) ?_)
  repeat k_node
  exact hq

/-- a method, bound -/
theorem load_method {expr : Bool} {Q : Value → Shared → Prop}
    (hC : h.get? C = some (excClassObj nm q C N bs [.type "object"] true sn sub ab col dd k0 k1 k2 k3 k5 newId)) (hn : h.Ns N mN) (hng : mN "__getattribute__" = none) (hf : mN name = some (.ref f)) (hfo : h.get? f = some of) (hfc : of.cls = .type "function")
    (hga : mN "__getattr__" = none) (hB : typeLookup (.type "object") name = pure none) (hnm : (["__module__", "__name__", "__qualname__", "__doc__", "__annotations__"] : List Str).contains name = false) (hx : h.get? x = some o) (hc : o.cls = .ref C) (hnc : ∀ c, o.data ≠ .cls c) {dx : Addr} (hdx : o.dict = some dx) (hne : dx ≠ x) (hns : h.Ns1 dx mA) (hv : mA name = none)
    (hq : Q (.ref h.objs.size) ⟨h.push (mObj f x), g, d, t + 1, os⟩) : wpAny (model prog w) A (getAttr (.ref x) name expr) Q E ⟨h, g, d, t, os⟩ := by
  unfold getAttr getAttrBy
  repeat (first | (with_reducible refine wpAny_loadPart_at hx ?_; rw [hc]) | (with_reducible refine wpAny_typeLookup_exc hC hn PySem.F.mro_object PySem.F.lk_object_ga ?_; rw [hng]) | wp_step)
  show wpAny _ _ ((runValue (.builtin "proto.getattr_hooked" ⟨[.ref x, .str name t], []⟩)).onRaise (noteIf true (.ref x) (.str name t))) _ _ _
  refine wpAny_onRaise (wpAny_runValue (codeAny_builtin PySem.F.plainObj_entry_getattr_hooked (load_method_entry hC hn hf hfo hfc hga hB hnm hx hc hnc hdx hne hns hv ?_)))
  exact wpAny_pure hq
end
end Mine
end PartJ25

section PartJ26
open PySem PySem.W PySem.Calls PyProof.Rows PySem.Builtin
set_option maxRecDepth 100000
set_option linter.unusedVariables false
namespace Mine
section
variable {prog : Program} {w : World} {A : Around} {E : Value → Shared → Prop} {s : Shared}
theorem lk_method_call : typeLookup (.type "method") "__call__" = pure (some (.builtin "method.__call__")) := by rw [typeLookup_type, builtinLookup_eq_fast]; kernel_rfl
theorem kind_iter : builtinKind "iter" = none := by decide +kernel
theorem plain_iter : plainId "iter" = true := by decide +kernel
theorem entry_iter : entryFor table "iter" = some Builtin.«iter» := entryFor_of_tree (by kernel_rfl)
theorem args_iter2 (a b : Value) : argsOk "iter" ⟨[a, b], []⟩ := by
  first
  | kernel_rfl
  | (unfold argsOk; kernel_rfl)
theorem call_iter2 {m f x : Addr} {y : Str} {t : Tok} {Q : Value → Shared → Prop} (hm : s.heap.get? m = some (mObj f x)) (h : Q (.ref s.heap.objs.size) { s with heap := s.heap.push { cls := .type "callable_iterator", data := .fields #[.ref m, .str y t, .bool false] } }) :
    wpAny (model prog w) A (call (.builtin "iter") [.ref m, .str y t]) Q E s := by
  refine call_function_tree kind_iter plain_iter entry_iter (args_iter2 _ _) ?_
  unfold Builtin.«iter»
  refine wpAny_bind (wpAny_of_eq (a := [Value.ref m, Value.str y t]) (by first | rfl | kernel_rfl) ?_)
  dsimp only
  refine wpAny_bind (wpAny_specialOf (T := "method") ⟨_, hm, rfl⟩ lk_method_call ?_)
  rw [if_neg (show ¬ (some (Value.builtin "method.__call__")).isNone = true from by decide)]
  refine wpAny_bind (wpAny_rule ?_)
  refine wpAny_bind (m := newFields _ _) ?_
  unfold newFields
  exact wpAny_newObj_type (wpAny_pure h)
end
end Mine
end PartJ26

section PartJ27
open PySem PySem.W PySem.Calls PyProof.Rows
set_option maxRecDepth 100000
set_option linter.unusedVariables false
namespace Mine
variable {C : Cx} {d : Nat} {sc : Sc} {ρ : Vars} {H : Store}

/-- new objects become an owned one -/
theorem adopt {I O s} {a : Addr} {f : List Addr} {ov : OV} {h' : Heap} {tk : Nat} (k : Nat) (wf : WF C I O H s) (hk : (H.lookup k).isSome = false) (hnew : ∀ b ∈ a :: f, s.heap.get? b = none ∧ (h'.get? b).isSome) (hkeep : ∀ b o, s.heap.get? b = some o → h'.get? b = some o)
    (hr : ∀ O', OLe O O' → O' k = some (a :: f) → ORel C I O' h' a f ov) :
    ∃ O', Step [] I O s I O' { s with heap := h', toks := tk } ∧ WF C I O' ((k, ov) :: H) { s with heap := h', toks := tk } ∧ O' k = some (a :: f) := by
  have hO : O k = none := by have := wf.dom k; rw [hk] at this; simpa using this
  have ext : OLe O (addO O k (a :: f)) := fun j f e => by
    unfold addO
    by_cases q : j = k
    · subst q; rw [hO] at e; cases e
    · rw [if_neg q]; exact e
  have nsz : ∀ j g, O j = some g → ∀ b ∈ a :: f, b ∉ g := fun j g e b hb hb' => by have := (wf.off j g e _ hb').2; rw [(hnew b hb).1] at this; cases this
  have al : ∀ b, (s.heap.get? b).isSome → (h'.get? b).isSome := fun b e => by obtain ⟨o, q⟩ := Option.isSome_iff_exists.mp e; rw [hkeep b o q]; rfl
  refine ⟨addO O k (a :: f), ⟨fun _ _ e => e, fun _ _ e => .inl e, ext, fun j g e => ?_, fun b o' e _ _ => hkeep b o' e, al, rfl, rfl, rfl⟩, ⟨wf.base, fun b o' e => hkeep b o' (wf.has _ _ e), fun j => ?_, fun j ov' e => ?_, fun j g e b hb => ?_, fun j j' g g' e e' hne b hb hb' => ?_⟩, by simp [addO]⟩
  · unfold addO at e
    by_cases q : j = k
    · rw [if_pos q] at e; cases e; exact .inr fun b hb => (hnew b hb).1
    · rw [if_neg q] at e; exact .inl e
  · unfold addO
    rw [List.lookup_cons]
    by_cases q : j = k
    · subst q; simp
    · rw [if_neg q, wf.dom j, show (j == k) = false from by simpa using q]
  · rw [List.lookup_cons] at e
    by_cases q : j = k
    · subst q
      simp only [beq_self_eq_true, Option.some.injEq] at e
      subst e
      exact ⟨_, f, by simp [addO], hr _ ext (by simp [addO])⟩
    · rw [show (j == k) = false from by simpa using q] at e
      obtain ⟨b, g, h1, h2⟩ := wf.rel j ov' e
      exact ⟨b, g, ext _ _ h1, h2.mono (fun _ _ e => e) ext fun b _ o' q => hkeep b o' q⟩
  · unfold addO at e
    by_cases q : j = k
    · rw [if_pos q] at e; cases e
      exact ⟨In.none wf.has (hnew b hb).1, (hnew b hb).2⟩
    · rw [if_neg q] at e
      obtain ⟨h1, h2⟩ := wf.off j g e b hb
      exact ⟨h1, al b h2⟩
  · unfold addO at e e'
    by_cases q : j = k
    · rw [if_pos q] at e; cases e
      by_cases q' : j' = k
      · exact hne (q.trans q'.symm)
      · rw [if_neg q'] at e'; exact nsz _ _ e' b hb hb'
    · rw [if_neg q] at e
      by_cases q' : j' = k
      · rw [if_pos q'] at e'; cases e'; exact nsz _ _ e b hb' hb
      · rw [if_neg q'] at e'; exact wf.apart j j' g g' e e' hne b hb hb'

theorem no_get_object : typeLookup (.type "object") "_read_char" = pure none := by rw [typeLookup_type, builtinLookup_eq_fast]; kernel_rfl
/-- iter(o._read_char, '') -/
theorem ev_iterM {N mN} (K : Cls C N mN) {of : Obj} (hrf : mN "_read_char" = some (.ref C.readF)) (hfo : C.B.get? C.readF = some of) (hfc : of.cls = .type "function") (key : Nat) {o attr apos kc cpos fpos pos Q} (hattr : attr = ("_read_char" : Str)) (hk : sc.ns.lookup ("iter" : Str) = some .globalImplicit)
    (h : Ev C d sc ρ o H fun u H₁ => ∃ k at_, u = .own k ∧ H₁.lookup k = some (.inst at_) ∧ at_.lookup ("_read_char" : Str) = none ∧ (H₁.lookup key).isSome = false ∧ Q (.own key) ((key, .fit k false) :: H₁))
    (hattrE : ∀ env, eval (.Attribute o attr apos) env = (do
      let o' ← eval o env
      standAt apos.atName
      let r ← holding [o'] (getAttr o' attr true)
      letTemporaryGo o o' r
      pure r)) :
    Ev C d sc ρ (.Call (.Name "iter" fpos) [.Attribute o attr apos, .Constant (.str "") kc cpos] [] pos) H Q := fun A E s env fa I O hA hE wf => by
  subst hattr
  rw [arm_eval_Call_Name']
  refine wpAny_bind (name_builtin hE wf hk (C.free _ (by decide)) (v := .builtin "iter") (by decide +kernel) (by decide) ?_)
  refine PyProof.Rows.callWith_builtin1 (args_cons (Attribute_any_ (wpAny_mono (h A E s env fa I O hA hE wf) (fun cu s₁ ⟨I₁, O₁, H₁, u, st₁, wf₁, ru, qq⟩ => ?_) fun _ _ e => e) (hattrE env)))
  obtain ⟨k, at_, e, hl, hn, hkey, q⟩ := qq
  rw [e] at ru
  obtain ⟨a, dx, ob, mA, rfl, ho, h1, h2, h3, h4, h5, h6, h7, h8⟩ := wf₁.inst hl ru
  have load : ∀ Q' : Value → Shared → Prop, Q' (.ref s₁.heap.objs.size) { s₁ with heap := s₁.heap.push (mObj C.readF a), toks := s₁.toks + 1 } → wpAny C.M A (getAttr (.ref a) "_read_char" true) Q' E s₁ := fun Q' hq' => by
    obtain ⟨hh, g, dr, t, os⟩ := s₁
    obtain ⟨nm, qn, bs, sn, sub, col, dd, k0, k1, k2, k3, k5, hC⟩ := (K.at_.keeps (keepB wf₁)).obj
    exact load_method hC (K.at_.keeps (keepB wf₁)).ns K.ga hrf (keepB wf₁ _ _ hfo) hfc K.gb no_get_object (by decide +kernel) h1 h2 h4 h3 h5 h6 (h8 _ hn) hq'
  refine load _ (args_cons (Constant_str (args_nil ?_)))
  have hm : (s₁.heap.push (mObj C.readF a)).get? s₁.heap.objs.size = some (mObj C.readF a) := Heap.get?_push_size _ rfl
  refine call_iter2 (s := { s₁ with heap := s₁.heap.push (mObj C.readF a), toks := s₁.toks + 1 + 1 }) hm ?_
  have hsz : (s₁.heap.push (mObj C.readF a)).objs.size = s₁.heap.objs.size + 1 := Heap.size_push ..
  have n0 := get_size_none s₁.heap
  have n1 : s₁.heap.get? (s₁.heap.objs.size + 1) = none := by
    cases q : s₁.heap.get? (s₁.heap.objs.size + 1) with
    | none => rfl
    | some o => exact absurd (Heap.lt_size q) (Nat.not_lt.mpr (Nat.le_succ _))
  have g0 : ∀ x : Obj, ((s₁.heap.push (mObj C.readF a)).push x).get? s₁.heap.objs.size = some (mObj C.readF a) := fun x => get_push hm
  have g1 : ∀ x : Obj, x.isFreed = false → ((s₁.heap.push (mObj C.readF a)).push x).get? (s₁.heap.objs.size + 1) = some x := fun x hx => by rw [← hsz]; exact Heap.get?_push_size _ hx
  have hnew : ∀ b ∈ [s₁.heap.objs.size + 1, s₁.heap.objs.size], s₁.heap.get? b = none ∧ (((s₁.heap.push (mObj C.readF a)).push { cls := .type "callable_iterator", data := .fields #[.ref s₁.heap.objs.size, .str "" (s₁.toks + 1), .bool false] }).get? b).isSome := fun b hb => by
    rcases List.mem_cons.mp hb with rfl | hb
    · exact ⟨n1, by rw [g1 _ rfl]; rfl⟩
    · cases List.mem_singleton.mp hb; exact ⟨n0, by rw [g0]; rfl⟩
  obtain ⟨O₂, st₂, wf₂, ho₂⟩ := adopt (tk := s₁.toks + 1 + 1) (h' := (s₁.heap.push (mObj C.readF a)).push { cls := .type "callable_iterator", data := .fields #[.ref s₁.heap.objs.size, .str "" (s₁.toks + 1), .bool false] }) (a := s₁.heap.objs.size + 1) (f := [s₁.heap.objs.size]) (ov := .fit k false) key wf₁ hkey hnew (fun b o e => get_push (get_push e)) (fun O' le e => ⟨s₁.heap.objs.size, a, [dx], s₁.toks + 1, rfl, g0 _, le _ _ ho, g1 _ rfl⟩)
  rw [hsz]
  exact ⟨I₁, O₂, _, .own key, st₁.trans st₂, wf₂, .own ho₂, q⟩
end Mine
end PartJ27

section PartJ28
open PySem PySem.W PySem.Calls PyProof.Rows
set_option maxRecDepth 100000
set_option linter.unusedVariables false
namespace Mine
variable {C : Cx} {d : Nat} {sc : Sc} {ρ : Vars} {H : Store}

theorem WF.fit {I O s key k ended} {cv : Value} (wf : WF C I O H s) (hk : H.lookup key = some (.fit k ended)) (r : VRel I O (.own key) cv) : ∃ a m x xf t, cv = .ref a ∧ O key = some [a, m] ∧ s.heap.get? m = some (mObj C.readF x) ∧ O k = some (x :: xf) ∧
    s.heap.get? a = some (if ended then fitEnd else fitObj m t) := by
  obtain ⟨a, f, e, ho⟩ := r.own_inv
  obtain ⟨a', f', g1, m, x, xf, t, rfl, h1, h2, h3⟩ := wf.rel key _ hk
  rw [ho] at g1
  cases g1
  refine ⟨a, m, x, xf, t, e, ho, h1, h2, ?_⟩
  cases ended <;> exact h3

inductive FitK (C : Cx) (O : Own) (h : Heap) (k : Nat) (ended : Bool) (a m : Addr) : Prop
  | mk (x : Addr) (xf : List Addr) (t : Nat) (hm : h.get? m = some (mObj C.readF x)) (hk : O k = some (x :: xf)) (ha : h.get? a = some (if ended then fitEnd else fitObj m t))
theorem WF.fitK {I O s key k ended} (wf : WF C I O H s) (hk : H.lookup key = some (.fit k ended)) {a m : Addr} (ho : O key = some [a, m]) : FitK C O s.heap k ended a m := by
  obtain ⟨a', f', g1, m', x, xf, t, rfl, h1, h2, h3⟩ := wf.rel key _ hk
  rw [ho] at g1
  cases g1
  exact ⟨x, xf, t, h1, h2, by cases ended <;> exact h3⟩
theorem WF.fitX {I O s key k ended} (wf : WF C I O H s) (hk : H.lookup key = some (.fit k ended)) {a m x : Addr} {xf : List Addr} (ho : O key = some [a, m]) (hx : O k = some (x :: xf)) :
    s.heap.get? m = some (mObj C.readF x) ∧ ∃ t, s.heap.get? a = some (if ended then fitEnd else fitObj m t) := by
  obtain ⟨x', xf', t, h1, h2, h3⟩ := wf.fitK hk ho
  rw [hx] at h2
  cases h2
  exact ⟨h1, t, h3⟩

/-- a loop over the callable iterator of a reader -/
theorem ex_forFit {of : Obj} {fd : FuncData} {rnames rbody} (hfo : C.B.get? C.readF = some of) (hfd : of.data = .func fd) (ok : FdOk C fd ["self"] rnames rbody) (F : Sig ["self"] rnames) (key k : Nat) {x px iter body pos Q} (hx : Stores sc x)
    (W : Nat → Vars → Store → Prop) (h : Ev C (d + 2) sc ρ iter H fun v H₁ => v = .own key ∧ (∃ e, H₁.lookup key = some (.fit k e)) ∧ ∃ n, W n ρ H₁)
    (turn : ∀ n ρ H, W n ρ H → (H.lookup key = some (.fit k true) ∧ Q .next ρ H) ∨ (H.lookup key = some (.fit k false) ∧ Xs C d (fnSc rnames) [("self", .own k)] rbody H (Returns fun v H' => ∃ y, v = .str y ∧ H'.lookup key = some (.fit k false) ∧
      (y ≠ Str.empty → Xs C (d + 2) sc (put x (.str y) ρ) body H' fun f ρ' H'' => match f with
        | .next | .cont => ∃ m, m < n ∧ W m ρ' H''
        | .brk => Q .next ρ' H''
        | .ret r => Q (.ret r) ρ' H'') ∧ (y = Str.empty → Q .next ρ (upd key (.fit k true) H')))))
    (hs : ∀ env v, foldedSetIterable iter env v = pure v := by intro _ _; rfl) : Ex C (d + 2) sc ρ (.For (.Name x px) iter body [] pos) H Q := fun A E s env fa I O hA hE wf => by
  refine wpAny_For (wpAny_mono (h A E s env fa I O hA hE wf) (fun cv s₁ ⟨I₁, O₁, H₁, v, st₁, wf₁, rv, qq⟩ => ?_) fun _ _ e => e) (hs env)
  obtain ⟨e, ⟨en, hk⟩, n, hW⟩ := qq
  rw [e] at rv
  obtain ⟨a, m, xa, xf, t, rfl, ho, hm, hok, ha⟩ := wf₁.fit hk rv
  refine iter_fit ha (by cases en <;> rfl) ?_
  obtain ⟨Inv, hInv⟩ : ∃ Inv : Nat → Shared → Prop, ∀ n s', Inv n s' ↔ ∃ I' O' H' ρ', Step fa I O s I' O' s' ∧ WF C I' O' H' s' ∧ EnvR C I' O' env sc fa ρ' s'.heap ∧ O' key = some [a, m] ∧ W n ρ' H' := ⟨_, fun _ _ => Iff.rfl⟩
  refine codeAny_forLoop Inv ?_ n ((hInv _ _).2 ⟨I₁, O₁, H₁, ρ, st₁.nil, wf₁, hE.step st₁, ho, hW⟩)
  intro n s' hinv
  obtain ⟨I', O', H', ρ', st', wf', hE', ho', hW⟩ := (hInv _ _).1 hinv
  rcases turn n ρ' H' hW with ⟨hk', hQ⟩ | ⟨hk', hX⟩
  · obtain ⟨x', xf', t', hm', hok', ha'⟩ := wf'.fitK hk' ho'
    refine next_ended hA.handled ha' fun h' tk hkp => ?_
    obtain ⟨st₂, wf₂⟩ := junk (fa := fa) (t := tk) wf' hkp
    exact wpAny_execs_nil ⟨I', O', H', ρ', .next, st'.trans st₂, wf₂, envR_keeps hE' hkp, .next, hQ⟩
  · obtain ⟨x', xf', t', hm', hok', ha'⟩ := wf'.fitK hk' ho'
    refine next_fit (t := t') hA.handled ha' hm' (keepB wf' _ _ hfo) hfd fun E' => ?_
    refine codeAny_mono (fn_codeA hfo hfd ok F (vs := [.own k]) rfl hX A.in1 E' s' I' O' [.ref x'] hA.in1 wf' (.cons (.own hok') .nil)) fun r s₂ hr => ?_
    cases r with
    | error e => exact hr
    | ok fl =>
      cases fl with
      | ret cv =>
        obtain ⟨I₂, O₂, H₂, v, st₂, wf₂, rv₂, y, e, hk₂, hne, heq⟩ := hr
        subst e
        obtain ⟨u, rfl⟩ := rv₂.str_inv
        have ho₂ := st₂.oext _ _ ho'
        obtain ⟨hm3, t'', ha3⟩ := wf₂.fitX hk₂ ho₂ (st₂.oext _ _ hok')
        have stF : Step fa I O s I₂ O₂ s₂ := st'.trans st₂.nil
        have hE₂ := hE'.step st₂
        refine ⟨y, u, rfl, ⟨t'', ha3⟩, hm3, keepB wf₂ _ _ hfo, fun hy => ?_, fun hy h' tk he hkp => ?_⟩
        · refine wpAny_assign_Name (store_ hx hE₂ wf₂ (.str y u) fun s₄ st₄ wf₄ hE₄ => ?_)
          refine wpAny_mono (hne hy A _ s₄ env fa I₂ O₂ hA hE₄ wf₄) (fun fl s₅ ⟨I₅, O₅, H₅, ρ₅, f, st₅, wf₅, hE₅, rf, q₅⟩ => ?_) fun _ _ e => e
          have st₆ := (stF.trans st₄).trans st₅
          have ho₅ := st₅.oext _ _ ho₂
          cases rf with
          | next => obtain ⟨n', hn', hW'⟩ := q₅; exact ⟨n', hn', (hInv _ _).2 ⟨I₅, O₅, H₅, ρ₅, st₆, wf₅, hE₅, ho₅, hW'⟩⟩
          | cont => obtain ⟨n', hn', hW'⟩ := q₅; exact ⟨n', hn', (hInv _ _).2 ⟨I₅, O₅, H₅, ρ₅, st₆, wf₅, hE₅, ho₅, hW'⟩⟩
          | brk => exact ⟨I₅, O₅, H₅, ρ₅, .next, st₆, wf₅, hE₅, .next, q₅⟩
          | ret r => exact ⟨I₅, O₅, H₅, ρ₅, .ret _, st₆, wf₅, hE₅, .ret r, q₅⟩
        · have hma : m ≠ a := fun e => by
            rw [e, ha3] at hm3
            have h := congrArg Obj.cls (Option.some.inj hm3)
            exact absurd (Value.type.inj h) (by decide)
          obtain ⟨st₃, wf₃⟩ := own_updF (tk := tk) wf₂ hk₂ ho₂ (h' := h') (ov' := .fit k true) (fun b o hb e => hkp b o (fun q => hb (q ▸ .head _)) e) (fun b hb => by
              rcases List.mem_cons.mp hb with rfl | hb
              · rw [he]; rfl
              · cases List.mem_singleton.mp hb; rw [hkp _ _ hma hm3]; rfl) ⟨m, x', xf', t'', rfl, hkp _ _ hma hm3, st₂.oext _ _ hok', he⟩
          exact wpAny_execs_nil ⟨I₂, O₂, _, ρ', .next, stF.trans st₃.nil, wf₃, hE₂.step st₃, .next, heq hy⟩
      | _ => exact hr.elim
end Mine
end PartJ28

section PartJ29
open PySem PySem.W PySem.Calls PyProof.Rows
set_option maxRecDepth 100000
set_option linter.unusedVariables false
namespace Mine
section
variable {prog : Program} {w : World} {A : Around} {E : Value → Shared → Prop} {h : Heap} {g : Array GenState} {d : Drawn} {t : Nat} {os : OsState}
variable {nm q : Str} {C N x f : Addr} {bs : List Value} {sn : List Str} {sub : List Value} {ab : Bool} {col : Option Bool} {dd : Option Addr} {k0 k1 k2 k3 k5 : Option Value} {newId : String}
  {mN mA : Str → Option Value} {name : Str} {v : Value}
set_option maxHeartbeats 1000000 in
/-- what is called is the object's own attribute -/
theorem method_attr {pl : Sem Bool} {Q : Value × List Value → Shared → Prop}
    (hC : h.get? C = some (excClassObj nm q C N bs [.type "object"] true sn sub ab col dd k0 k1 k2 k3 k5 newId)) (hn : h.Ns N mN) (hng : mN "__getattribute__" = none) (hnh : mN "__getattr__" = none) (hna : mN name = none)
    (hB : typeLookup (.type "object") name = pure none) (I : h.Inst x C mA) (hv : mA name = some v) (hh : handedOut v = pure v) (hq : Q (v, []) ⟨h, g, d, t + 1, os⟩) :
    wpAny (model prog w) A (getMethod (.ref x) name pl) Q E ⟨h, g, d, t, os⟩ := by
  obtain ⟨o, hx, hc, _⟩ := id I
  have hcan := PySem.F.canon_object_ga
  unfold getMethod specialOf
  repeat (first | (with_reducible refine wpAny_loadPart_at hx ?_; rw [hc]) | (with_reducible refine wpAny_typeLookup_exc hC hn PySem.F.mro_object PySem.F.lk_object_ga ?_; rw [hng]) | (with_reducible refine wpAny_typeLookup_exc hC hn PySem.F.mro_object PySem.F.lk_object_getattr ?_; rw [hnh]) | (with_reducible refine wpAny_typeLookup_exc hC hn PySem.F.mro_object hB ?_; rw [hna]) | simp only [hcan, Bool.false_eq_true, if_false] | (with_reducible refine wpAny_bind (load_attr hC hn hng hna hB I hv hh ?_)) | wp_step)
  exact hq
end
end Mine
end PartJ29

section PartJ30
open PySem PySem.W PySem.Calls PyProof.Rows
set_option maxRecDepth 100000
set_option linter.unusedVariables false
namespace Mine
variable {C : Cx} {d : Nat} {sc : Sc} {ρ : Vars} {H : Store}

noncomputable def lamOf : Stmt → Option (Arguments × Expr × Scope × Pos)
  | .Assign _ (.Lambda p b s pos) _ => some (p, b, s, pos)
  | _ => none
noncomputable def lamStmt : Stmt := (bodyOf (stmtAt 64)).getD 4 (.Pass ⟨0, 0, 0, 0⟩)
noncomputable def lamParams : Arguments := ((lamOf lamStmt).getD (default, .Constant .none 0 ⟨0, 0, 0, 0⟩, default, ⟨0, 0, 0, 0⟩)).1
noncomputable def lamBody : Expr := ((lamOf lamStmt).getD (default, .Constant .none 0 ⟨0, 0, 0, 0⟩, default, ⟨0, 0, 0, 0⟩)).2.1
noncomputable def lamScope : Scope := ((lamOf lamStmt).getD (default, .Constant .none 0 ⟨0, 0, 0, 0⟩, default, ⟨0, 0, 0, 0⟩)).2.2.1
noncomputable def LamFd (fd : FuncData) : Prop := ∃ qual cl pm cdv ctv, fd = kla_fn "<lambda>" qual lamParams lamBody lamScope cl pm cdv ctv
theorem lam_names : lamScope.names = [(("size" : Str), NameKind.local), (("left" : Str), NameKind.free), (("range" : Str), NameKind.globalImplicit), (("min" : Str), NameKind.globalImplicit), (("len" : Str), NameKind.globalImplicit)] := by rfl
theorem lam_bind (qual : Str) (cl : List (Str × Addr)) (pm cdv ctv v : Value) : bindArgs (kla_fn "<lambda>" qual lamParams lamBody lamScope cl pm cdv ctv) ⟨[v], []⟩ = pure [(("size" : Str), v)] := by rfl

theorem lam_call {lk : Nat} {v x : V} {Q} (hL : ∀ fd, C.lamFd fd → LamFd fd) (hk : H.lookup lk = some (.lam v)) (hx : Ev C d ⟨lamScope.names, []⟩ [("size", x), ("left", v)] lamBody H Q) :
    ∀ A (E : Value → Shared → Prop) s I O cf cx, AOk (d + 1) A → WF C I O H s → VRel I O (.own lk) cf → VRel I O x cx → wpAny C.M A (call cf [cx]) (Post C I O s Q) E s := fun A E s I O cf cx hA wf rf rx => by
  obtain ⟨a, f, rfl, ho⟩ := rf.own_inv
  obtain ⟨a', f', g1, c, o, fd, cv, rfl, h1, h2, h3, h4, h5, ⟨cd, oc, vs, t, e1, e2, e3, e4⟩, ⟨occ, hc1, hc2⟩, rv⟩ := wf.rel lk _ hk
  rw [ho] at g1
  cases g1
  obtain ⟨qual, cl, pm, cdv, ctv, rfl⟩ := hL _ h4
  have h5 : cl = [(("left" : Str), c)] := h5
  subst h5
  have e1 : cdv = .ref cd := e1
  subst e1
  have hcd : s.heap.CodeRec (.ref cd) qual := ⟨cd, oc, vs, t, rfl, wf.has _ _ e2, e3, e4⟩
  refine wpAny_call (kla_callFunE (by have := hA.depth; show A.depth < 1000; omega) h1 h3 rfl rfl rfl hcd ?_)
  rw [lam_bind]
  refine wpAny_pure (wpAny_newFunctionEnv (show ∀ x ∈ lamScope.names, x.2 ≠ .cell by decide) (fun x hx => by cases List.mem_singleton.mp hx; rfl) (fun h₁ hns hsb => ⟨(wf.nolimit).fresh _ hsb, ?_⟩) rfl)
  show codeAny _ _ (.expr lamBody (newEnv lamScope s.heap.objs.size mainGlobals [(("left" : Str), c)] _ (some a) (.ref cd) none builtinsNs)) _ _
  have hk₁ : ∀ b o, s.heap.get? b = some o → h₁.get? b = some o := fun b o e => hsb.extBut b o (Nat.ne_of_lt (Heap.lt_size e)) (Heap.get?_push_of_some _ e)
  obtain ⟨st₁, wf₁⟩ := junk (fa := []) (t := s.toks + 1) wf hk₁
  have hcI := wf.has _ _ hc1
  have hne : c ≠ s.heap.objs.size := Nat.ne_of_lt (Heap.lt_size hcI)
  have hn := get_size_none s.heap
  generalize henv : newEnv lamScope s.heap.objs.size mainGlobals [(("left" : Str), c)] _ (some a) (.ref cd) none builtinsNs = env
  have eL : env.locals = s.heap.objs.size := by rw [← henv]; rfl
  have eC : env.cells = [(("left" : Str), c)] := by rw [← henv]; rfl
  have eS : env.scope = lamScope := by rw [← henv]; rfl
  have hE : EnvR C I O env ⟨lamScope.names, []⟩ [env.locals] [("size", x), ("left", v)] h₁ := by
    refine ⟨by rw [eS]; rfl, by rw [eS], by rw [← henv]; rfl, by rw [← henv]; rfl, .head _, ⟨_, by rw [eL]; exact hns, fun y u hy hl => ?_⟩, fun y u hy hl => ?_, (fun _ h => nomatch h), fun y b hy => ?_, by rw [eC]; exact List.pairwise_singleton _ _, fun b hb => ?_⟩
    · rw [List.lookup_cons] at hy
      by_cases q : y = "size"
      · subst q
        simp only [beq_self_eq_true, Option.some.injEq] at hy
        subst hy
        exact ⟨cx, by rfl, rx⟩
      · rw [show (y == ("size" : Str)) = false from by simpa using q, List.lookup_cons] at hy
        by_cases q' : y = "left"
        · subst q'
          exact absurd hl (by show lamScope.names.lookup ("left" : Str) ≠ _; decide)
        · rw [show (y == ("left" : Str)) = false from by simpa using q'] at hy
          cases hy
    · rw [List.lookup_cons] at hy
      by_cases q : y = "size"
      · subst q
        exact absurd hl (by show ¬ (lamScope.names.lookup ("size" : Str) = _ ∨ lamScope.names.lookup ("size" : Str) = _); decide)
      · rw [show (y == ("size" : Str)) = false from by simpa using q, List.lookup_cons] at hy
        by_cases q' : y = "left"
        · subst q'
          simp only [beq_self_eq_true, Option.some.injEq] at hy
          subst hy
          exact ⟨c, cv, by rw [eC]; rfl, ⟨occ, hk₁ _ _ hcI, hc2⟩, rv⟩
        · rw [show (y == ("left" : Str)) = false from by simpa using q'] at hy
          cases hy
    · rw [eC] at hy
      cases List.mem_singleton.mp hy
      exact ⟨⟨_, occ, hk₁ _ _ hcI, hc2⟩, by rw [eL]; exact hne⟩
    · have fl : (b = env.locals → I b = none) ∧ (b = env.locals → ¬ Owns O b) ∧ (b = env.locals → (h₁.get? b).isSome) := ⟨fun e => by rw [e, eL]; exact In.none wf.has hn, fun e => by rw [e, eL]; exact Own.notMine wf hn, fun e => by rw [e, eL]; exact Ns.some hns⟩
      have hcL : (∃ y, (y, b) ∈ env.cells) → b = c := fun ⟨y, hy⟩ => by rw [eC] at hy; cases List.mem_singleton.mp hy; rfl
      refine ⟨fun h => h.elim fl.1 fun h => fl.1 (List.mem_singleton.mp h), ?_, ?_⟩
      · rcases hb with h | h | h
        · exact fl.2.1 h
        · rw [hcL h]; exact wf.nOwn hc1
        · exact fl.2.1 (List.mem_singleton.mp h)
      · rcases hb with h | h | h
        · exact fl.2.2 h
        · rw [hcL h, hk₁ _ _ hcI]; rfl
        · exact fl.2.2 (List.mem_singleton.mp h)
  refine kla_codeExpr (wpAny_mono (hx (A.deeper env) _ _ env _ I O hA.deeper hE wf₁) (fun u s₂ hp => hp.from st₁) fun _ _ y => y)
end Mine
end PartJ30

section PartJ31
open PySem PySem.W PySem.Calls PyProof.Rows
set_option maxRecDepth 100000
set_option linter.unusedVariables false
namespace Mine
variable {C : Cx} {d : Nat} {sc : Sc} {ρ : Vars} {H : Store}

theorem ibin_add {a b : Int} {Q} (q : Q (.int (a + b)) H) : IBin C d .Add (.int a) (.int b) H Q := fun A E s I O ca cb hA wf ra rb => by
  obtain ⟨t, rfl⟩ := ra.int_inv; obtain ⟨u, rfl⟩ := rb.int_inv
  exact PyProof.Rows.iadd_int (post_val wf (.int _ _) q)
/-- pop() -/
theorem VRels.dropLast {I O xs vs} (h : VRels I O xs vs) : VRels I O xs.dropLast vs.dropLast := by
  rw [List.dropLast_eq_take, List.dropLast_eq_take, h.length]
  exact h.take _
theorem callv_pop {k : Nat} {x : V} {xs : List V} {Q} (hk : H.lookup k = some (.list (xs ++ [x]))) (hl : xs.length < 100000) (q : Q x (upd k (.list xs) H)) : CallV C d (.builtin "list.pop") [.own k] H Q := fun A E s I O cvs hA wf rs => by
  obtain ⟨c, rfl, r1⟩ := rs.one
  obtain ⟨a, vs, n, rfl, ho, h1, r⟩ := wf.ownL hk r1
  have hlen := r.length
  have hvl : vs.length = xs.length + 1 := by rw [← hlen]; simp
  obtain ⟨v, hv, rx⟩ := r.get xs.length x (by simp)
  have rd : VRels I O xs vs.dropLast := by have := r.dropLast; rwa [List.dropLast_concat] at this
  have hlast : vs.toArray[vs.toArray.size - 1]? = some v := by
    rw [List.size_toArray, hvl]
    simpa using hv
  refine call_meets PySem.F.slot_list_pop ⟨_, h1, rfl⟩ PySem.F.entry_list_pop (PySem.F.args_list_pop_1 _) (PySem.MeetsSeq.list_pop_last a vs.toArray n v hlast (by rw [List.size_toArray, hvl, sizeLine_eq]; omega)) ⟨h1, ?_⟩
  have hp : ∃ n', (s.heap.update a (Obj.mapSeq fun xs => xs.eraseIdxIfInBounds (vs.toArray.size - 1))).get? a = some (lobj vs.dropLast n') := by
    have e0 : vs.toArray.eraseIdxIfInBounds (vs.toArray.size - 1) = vs.dropLast.toArray := by
      have : vs.toArray.size - 1 < vs.toArray.size := by rw [List.size_toArray]; omega
      rw [Array.eraseIdxIfInBounds_eq, dif_pos this]
      apply Array.ext'
      rw [Array.toList_eraseIdx]
      simp only [List.size_toArray]
      rw [List.dropLast_eq_take, List.eraseIdx_eq_take_drop_succ]
      rw [show vs.length - 1 + 1 = vs.length by omega, List.drop_length]; simp
    have h2 := PySem.IsL.update (h := s.heap) (l := a) (items := vs.toArray) (n := n) h1 (fun xs => xs.eraseIdxIfInBounds (vs.toArray.size - 1))
    rw [e0] at h2
    exact ⟨_, h2⟩
  obtain ⟨n', hp⟩ := hp
  obtain ⟨st, wf'⟩ := own_upd (tk := s.toks) wf hk ho (Heap.SameBut.update ..) (by rw [hp]; rfl) (ov' := .list xs) ⟨rfl, vs.dropLast, n', hp, rd⟩
  exact ⟨I, O, _, x, st, wf', rx, q⟩

/-- a call of an object's own attribute, a lambda -/
theorem ev_methL {N mN} (K : Cls C N mN) (hL : ∀ fd, C.lamFd fd → LamFd fd) {o name apos pos Q} {i : Int} {ck : Nat} {cpos : Pos} (hname : name ∈ attrNames) (pl : Env → Sem Bool)
    (he : ∀ env, eval (.Call (.Attribute o name apos) [.Constant (.int i) ck cpos] [] pos) env = (do
      let ov ← eval o env
      standAt apos.atName
      let (f, first) ← holding [ov] (getMethod ov name (pl env))
      callWith pos f first (backTo pos (starEach [.Constant (.int i) ck cpos] env)) []))
    (h : Ev C (d + 1) sc ρ o H fun u H₁ => ∃ k at_ lk v, u = .own k ∧ H₁.lookup k = some (.inst at_) ∧ at_.lookup name = some (.own lk) ∧ H₁.lookup lk = some (.lam v) ∧ Ev C d ⟨lamScope.names, []⟩ [("size", .int i), ("left", v)] lamBody H₁ Q) :
    Ev C (d + 1) sc ρ (.Call (.Attribute o name apos) [.Constant (.int i) ck cpos] [] pos) H Q := fun A E s env fa I O hA hE wf => by
  refine MethodCall_ (pl := pl env) (wpAny_mono (h A E s env fa I O hA hE wf) (fun cu s₁ ⟨I₁, O₁, H₁, u, st₁, wf₁, ru, qq⟩ => ?_) fun _ _ e => e) (he env)
  obtain ⟨k, at_, lk, v, e, hk, hn, hlk, hEs⟩ := qq
  rw [e] at ru
  obtain ⟨a, dx, ob, mA, rfl, ho, h1, h2, h3, h4, h5, h6, h7, h8⟩ := wf₁.inst hk ru
  obtain ⟨cf, hmf, rf⟩ := h7 name _ hn
  have stt : Step [] I O s I₁ O₁ { s₁ with toks := s₁.toks + 1 + 1 } := st₁.trans (Step.tok0 _)
  have wft : WF C I₁ O₁ H₁ { s₁ with toks := s₁.toks + 1 + 1 } := wf₁.toks _
  have load : ∀ Q' : Value × List Value → Shared → Prop, Q' (cf, []) { s₁ with toks := s₁.toks + 1 } → wpAny C.M A (getMethod (.ref a) name (pl env)) Q' E s₁ := fun Q' hq' => by
    obtain ⟨hh, g, dr, t, os⟩ := s₁
    obtain ⟨nm, qn, bs, sn, sub, col, dd, k0, k1, k2, k3, k5, hC⟩ := (K.at_.keeps (keepB wf₁)).obj
    exact method_attr hC (K.at_.keeps (keepB wf₁)).ns K.ga K.gb (K.off name hname) (object_lacks name hname) ⟨ob, h1, h2, h4, .inr ⟨dx, h3, h5, h6⟩⟩ hmf rf.handed hq'
  refine load _ ?_
  obtain ⟨la, lf, rfl, hol⟩ := rf.own_inv
  obtain ⟨la', lf', g1, c, lo, fd, cv, e1, l1, l2, l3, l4⟩ := wf₁.rel lk _ hlk
  rw [hol] at g1
  cases g1
  refine callWith_def (o := lo) (fd := fd) l3 (args_cons (wpAny_Constant_int (args_nil ⟨l1, ?_⟩)))
  exact wpAny_mono (lam_call hL hlk hEs A E _ I₁ O₁ (.ref la) _ hA wft (.own hol) (.int _ _)) (fun _ _ x => x.from stt) fun _ _ e => e
end Mine
end PartJ31

section PartJ32
open PySem PySem.W PySem.Calls PyProof.Rows
set_option maxRecDepth 100000
set_option linter.unusedVariables false
namespace Mine
variable {C : Cx} {d : Nat} {sc : Sc} {ρ : Vars} {H : Store}

/-- an object is made -/
theorem ev_callCls {N mN} (K : Cls C N mN) {names body} (Mt : Meth C mN "__init__" ["self", "fp"] names body) (F : Sig ["self", "fp"] names) {f fpos e pos Q} (key : Nat) (hf : C.mg f = some (.ref C.lexC)) (hk : sc.ns.lookup f = some .globalImplicit)
    (h : Ev C (d + 2) sc ρ e H fun v H₁ => (H₁.lookup key).isSome = false ∧ Xs C d (fnSc names) [("self", .own key), ("fp", v)] body ((key, .inst []) :: H₁) (Returns fun r H₂ => r = .none ∧ Q (.own key) H₂))
    (hd : (f == ("__debug__" : Str)) = false := by decide)
    (he : ∀ env, starEach [e] env = [(false, eval e env)] := by intro _; rfl) (hp : ∀ env, (backTo pos (starEach [] env)).any (·.1) = false := by intro _; rfl) : Ev C (d + 2) sc ρ (.Call (.Name f fpos) [e] [] pos) H Q := fun A E s env fa I O hA hE wf => by
  rw [arm_eval_Call_Name']
  obtain ⟨fI, oI, fd, hi, hfI, hfc, hfd, ok⟩ := Mt
  refine wpAny_bind (name_global hE wf hk hf ?_ hd)
  refine callWith_cls K.at_ (args_cons (wpAny_mono (h A E s env fa I O hA hE wf) (fun cv s₁ ⟨I₁, O₁, H₁, v, st₁, wf₁, rv, qq⟩ => args_nil ⟨keepB wf₁, ?_⟩) fun _ _ e => e) (he env)) (he env) (hp env)
  obtain ⟨hkey, hX⟩ := qq
  obtain ⟨nm, q, bs, sn, sub, col, dd, k0, k1, k2, k3, k5, hC⟩ := (K.at_.keeps (keepB wf₁)).obj
  obtain ⟨hh, g, dr, t, os⟩ := s₁
  refine wpAny_call_obj_init PySem.F.objNew hC (K.at_.keeps (keepB wf₁)).ns hi (keepB wf₁ _ _ hfI) hfc fun h' x dx Mk => ?_
  obtain ⟨ox, hx, hcx, hncx, hdx⟩ := Mk.inst
  have hdd := Mk.dict ox hx
  have hnsd : h'.Ns1 dx fun _ => none := by
    rcases hdx with ⟨hn0, _⟩ | ⟨d', hd', _, hns'⟩
    · rw [hn0] at hdd; cases hdd
    · obtain rfl := Option.some.inj (hd'.symm.trans hdd); exact hns'
  have hne : dx ≠ x := by
    rcases hdx with ⟨hn0, _⟩ | ⟨d', hd', hne', _⟩
    · rw [hn0] at hdd; cases hdd
    · obtain rfl := Option.some.inj (hd'.symm.trans hdd); exact hne'
  have hnew : ∀ b ∈ [x, dx], hh.get? b = none ∧ (h'.get? b).isSome := fun b hb => by
    rcases List.mem_cons.mp hb with rfl | hb
    · exact ⟨Mk.newX, by rw [hx]; rfl⟩
    · cases List.mem_singleton.mp hb
      exact ⟨Mk.newD, Ns.some hnsd.ns⟩
  obtain ⟨O₂, st₂, wf₂, ho₂⟩ := adopt (tk := t) (h' := h') (a := x) (f := [dx]) (ov := .inst []) key wf₁ hkey hnew Mk.keeps
    (fun O' le e => ⟨dx, ox, fun _ => none, rfl, hx, hcx, hdd, hncx, hne, hnsd, (fun n v hl => by cases hl), fun n _ => rfl⟩)
  have hA2 : AOk (d + 1) (A.under (.builtin "type.__call__" ⟨.ref C.lexC :: [cv], []⟩)) := ⟨hA.handled, by have := hA.depth; show A.depth + 1 + (d + 1) ≤ 990; omega, by have := hA.units; have hu : (Code.builtin "type.__call__" ⟨.ref C.lexC :: [cv], []⟩).cUnits ≤ 10 := (by show (Code.builtin "type.__call__" {}).cUnits ≤ 10; decide +kernel); show A.units + (Code.builtin "type.__call__" ⟨.ref C.lexC :: [cv], []⟩).cUnits + 10 * (d + 1) ≤ 9000; omega⟩
  refine wpAny_mono (fn_callA hfI hfd ok F (vs := [.own key, v]) rfl hX _ E _ I₁ O₂ [.ref x, cv] hA2 wf₂ (.cons (.own ho₂) (.cons (rv.mono (fun _ _ e => e) st₂.oext) .nil))) (fun r s₃ ⟨I₃, O₃, H₃, rV, st₃, wf₃, rr, qq⟩ => ?_) fun _ _ e => e
  obtain ⟨e, q⟩ := qq
  subst e
  cases rr.none_inv
  exact ⟨rfl, I₃, O₃, H₃, .own key, (st₁.trans st₂).trans st₃, wf₃, .own (st₃.oext _ _ ho₂), q⟩
end Mine
end PartJ32

section PartJ33
open PySem PySem.W PySem.Calls PyProof.Rows
set_option maxRecDepth 100000
set_option linter.unusedVariables false
namespace Mine
variable {C : Cx} {d : Nat} {sc : Sc} {ρ : Vars} {H : Store}

/-- a statement, ahead of others, by what it leaves -/
theorem ex_step {A : Around} {E : Value → Shared → Prop} {I₀ O₀ s₀ I O s env fa st rest} {RR : Flow → Shared → Prop} {R : Vars → Store → Prop} (h : Ex C d sc ρ st H fun f ρ' H' => f = .next ∧ R ρ' H') (hA : AOk d A) (hE : EnvR C I O env sc fa ρ s.heap) (wf : WF C I O H s) (st0 : Step fa I₀ O₀ s₀ I O s)
    (k : ∀ I' O' H' ρ' s', Step fa I₀ O₀ s₀ I' O' s' → WF C I' O' H' s' → EnvR C I' O' env sc fa ρ' s'.heap → R ρ' H' → wpAny C.M A (execs rest env) RR E s') : wpAny C.M A (execs (st :: rest) env) RR E s := by
  refine wpAny_execs_cons (wpAny_mono (h A E s env fa I O hA hE wf) (fun fl s' ⟨I', O', H', ρ', f, st', wf', hE', rf, qq⟩ => ?_) fun _ _ e => e)
  obtain ⟨e, q⟩ := qq
  subst e
  cases rf
  exact k I' O' H' ρ' s' (st0.trans st') wf' hE' q

/-- what is needed of the program's heap to make the lambda -/
structure TabOk (C : Cx) (cd : Value) (ps : Array Value) (pos : Pos) : Prop where
  hd : ∃ c, cd = .ref c ∧ CodeHd C.B c C.tabP
  tr : TriplesOk ps.toList
  nf : codeAmong pos ps.toList = none
  gP : mainGlobals ≠ C.tabP
  bi : C.B.BuiltinsAt C.mg C.tabP

set_option maxHeartbeats 2000000 in
/-- the lambda is made; its cell and its code are frozen -/
theorem make_lam {A : Around} {E : Value → Shared → Prop} {I₀ O₀ s₀ I O s env fa} {ps : Array Value} {lpos : Pos} {v : V} {Q : Value → Shared → Prop} (key tkey : Nat) (hA : AOk d A) (hE : EnvR C I O env sc fa ρ s.heap) (wf : WF C I O H s) (st0 : Step fa I₀ O₀ s₀ I O s)
    (hfr : ∀ b ∈ fa, s₀.heap.get? b = none) (hT : TabOk C env.code ps lpos) (htk : H.lookup tkey = some (.raw (tabObj ps))) (hkey : (H.lookup key).isSome = false) (hkt : key ≠ tkey) (hLam : ∀ fd, LamFd fd → C.lamFd fd)
    (hv : ρ.lookup ("left" : Str) = some v) (hn : sc.ns.lookup ("left" : Str) = some .cell) (ho : ("left" : Str) ∈ sc.own)
    (q : ∀ I' O' s' cv ps', Step fa I₀ O₀ s₀ I' O' s' → WF C I' O' ((key, .lam v) :: upd tkey (.raw (tabObj ps')) H) s' → EnvR C I' O' env ⟨sc.ns, []⟩ [env.locals] ρ s'.heap → VRel I' O' (.own key) cv → Q cv s') :
    wpAny C.M A (eval (.Lambda lamParams lamBody lamScope lpos) env) Q E s := by
  obtain ⟨c, cv, hlk, hcell, hvr⟩ := hE.cell _ _ hv (.inl hn)
  obtain ⟨c₁, hlk₁, hcfa⟩ := hE.ownc _ ho hn
  rw [hlk] at hlk₁
  cases hlk₁
  obtain ⟨cd, hcd, hhd⟩ := hT.hd
  obtain ⟨P, f, hP, e1, e2, hPo⟩ := wf.rel tkey _ htk
  subst e1
  subst e2
  have hcl : closureFor lamScope env = pure [(("left" : Str), c)] := by
    rw [closureFor_eq (fun n hn' => ?_)]
    · show pure (clOf env.cells lamScope.names []) = _
      rw [lam_names]
      show pure [(("left" : Str), (env.cells.lookup ("left" : Str)).getD 0)] = _
      rw [hlk]; rfl
    · rw [lam_names] at hn'
      have : n = ("left" : Str) := by
        simp only [List.mem_cons, Prod.mk.injEq, reduceCtorEq, and_false, and_true, false_or, or_false, List.not_mem_nil] at hn'
        exact hn'
      rw [this, hlk]; rfl
  refine kla_eval (by rfl) (kla_makeFunction (ps := ps) hcl hE.glob wf.globals hcd (hhd.keeps (keepB wf)) hPo hT.tr hT.nf hT.gP ?_ ?_)
  · obtain ⟨bm, o, h1, h2, h3, h4, h5, h6⟩ := hT.bi
    exact ⟨bm, o, h1, h2, h3, h4, keepB wf _ _ h5, h6⟩
  intro c' ctv h' tk hext hge hlt hrec hP'
  -- the table
  obtain ⟨st₁, wf₁⟩ := own_updF (tk := tk) (h' := h') (ov' := .raw (tabObj (ps ++ #[rawInt lpos.line, rawInt lpos.col, .ref c']))) wf htk hP (fun b o hb e => hext b o (fun e' => hb (e' ▸ .head _)) e) (fun b hb => by cases List.mem_singleton.mp hb; rw [hP']; rfl) ⟨rfl, rfl, hP'⟩
  -- its code
  obtain ⟨c'', oc, vs, t, e1, hoc, hdat, hq⟩ := hrec
  cases e1
  have hnone : s.heap.get? c' = none := by
    cases q : s.heap.get? c' with
    | none => rfl
    | some o => exact absurd (Heap.lt_size q) (Nat.not_lt.mpr hge)
  have hnone₀ : s₀.heap.get? c' = none := none_of_alive (st0.alive c') hnone
  have hIc' : I c' = none := In.none wf.has hnone
  obtain ⟨st₂, wf₂, hIc, hle₂⟩ := freeze (D := c') (o := oc) (st0.trans st₁.nil) wf₁ hnone₀ hIc' (Own.notMine wf hnone) hoc
  -- its cell
  obtain ⟨hcI, hcO, hcS⟩ := hE.off c (.inr (.inr hcfa))
  have hcI := hcI (.inr hcfa)
  obtain ⟨occ, hocc, hdcc⟩ := hcell
  have hcP : c ≠ C.tabP := fun e => hcO ⟨tkey, _, hP, by rw [e]; exact .head _⟩
  have hocc' : h'.get? c = some occ := hext _ _ hcP hocc
  have hcc' : c ≠ c' := fun e => by rw [e, hnone] at hocc; cases hocc
  have hIcn : addI I c' oc c = none := by unfold addI; rw [if_neg hcc']; exact hcI
  obtain ⟨st₃, wf₃, hIcc, hle₃⟩ := freeze (D := c) (o := occ) st₂ wf₂ (hfr c hcfa) hIcn hcO hocc'
  -- the function
  have hfn : h'.get? h'.objs.size = none := get_size_none h'
  have hLamFd : C.lamFd (kla_fn "<lambda>" (env.qual ++ "<lambda>") lamParams lamBody lamScope [(("left" : Str), c)] ((C.mg "__name__").getD .none) (.ref c') ctv) := hLam _ ⟨_, _, _, _, _, rfl⟩
  obtain ⟨O₄, st₄, wf₄, hO₄⟩ := adopt (tk := tk) (h' := h'.push (kla_obj "<lambda>" (env.qual ++ "<lambda>") lamParams lamBody lamScope [(("left" : Str), c)] ((C.mg "__name__").getD .none) c' ctv)) (a := h'.objs.size) (f := []) (ov := .lam v) key wf₃
    (by rw [lookup_upd, if_neg hkt]; exact hkey) ((mem1 (⟨hfn, by rw [Heap.get?_push_size _ rfl]; rfl⟩))) (fun b o e => get_push e)
    (fun O' le e => ⟨c, _, _, cv, rfl, Heap.get?_push_size _ rfl, rfl, rfl, hLamFd, rfl, ⟨c', oc, vs, t, rfl, hle₃ _ _ hIc, hdat, hq⟩, ⟨occ, hIcc, hdcc⟩, hvr.mono (fun b o e => hle₃ _ _ (hle₂ _ _ e)) le⟩)
  have hst := st₃.trans st₄.nil
  refine q _ _ _ _ _ hst wf₄ ?_ (.own hO₄)
  -- the frame
  have hkeep : ∀ b o, b ≠ C.tabP → s.heap.get? b = some o → (h'.push (kla_obj "<lambda>" (env.qual ++ "<lambda>") lamParams lamBody lamScope [(("left" : Str), c)] ((C.mg "__name__").getD .none) c' ctv)).get? b = some o := fun b o hb e => get_push (hext b o hb e)
  have notP : ∀ a, a = env.locals ∨ (∃ x, (x, a) ∈ env.cells) ∨ a ∈ fa → a ≠ C.tabP := fun a ha e => (hE.off a ha).2.1 ⟨tkey, _, hP, by rw [e]; exact .head _⟩
  have hLe : Le I (addI (addI I c' oc) c occ) := fun b o e => hle₃ _ _ (hle₂ _ _ e)
  have cLoc : c ≠ env.locals := (hE.cells _ _ (mem_of_lookup hlk)).2
  have notO : ∀ a, a = env.locals ∨ (∃ x, (x, a) ∈ env.cells) ∨ a ∈ fa → ¬ Owns O₄ a := fun a ha ⟨k, f, e, hb⟩ => by
    obtain ⟨h1, h2, h3⟩ := hE.off a ha
    rcases st₄.newk k f e with e' | e'
    · exact h2 ⟨k, f, e', hb⟩
    · obtain ⟨o, eo⟩ := Option.isSome_iff_exists.mp h3
      have := hext a o (notP a ha) eo
      have h0 : h'.get? a = none := e' a hb
      rw [h0] at this
      cases this
  refine ⟨hE.kind, hE.ns, hE.glob, hE.blt, .head _, ?_, fun y u h1 h2 => ?_, (fun _ h => nomatch h), fun y b hy => ?_, hE.apart, fun a ha => ?_⟩
  · obtain ⟨m, hn, hvv⟩ := hE.vars
    exact ⟨m, hn.at' fun o e => hkeep _ o (notP _ (.inl rfl)) e, fun y u h1 h2 => let ⟨cu, a, b⟩ := hvv y u h1 h2; ⟨cu, a, b.mono hLe st₄.oext⟩⟩
  · obtain ⟨b, cu, h3, h4, h5⟩ := hE.cell y u h1 h2
    exact ⟨b, cu, h3, IsCell.at h4 fun o e => hkeep _ o (notP _ (.inr (.inl ⟨y, mem_of_lookup h3⟩))) e, h5.mono hLe st₄.oext⟩
  · obtain ⟨⟨u, h3⟩, h4⟩ := hE.cells y b hy
    exact ⟨⟨u, IsCell.at h3 fun o e => hkeep _ o (notP _ (.inr (.inl ⟨y, hy⟩))) e⟩, h4⟩
  · have ha' : a = env.locals ∨ (∃ x, (x, a) ∈ env.cells) ∨ a ∈ fa := ha.elim .inl fun h => h.elim (fun h => .inr (.inl h)) fun h => .inl (List.mem_singleton.mp h)
    obtain ⟨h1, h2, h3⟩ := hE.off a ha'
    refine ⟨fun hq => ?_, notO a ha', ?_⟩
    · have hq : a = env.locals := hq.elim id List.mem_singleton.mp
      subst hq
      have h1 := h1 (.inl rfl)
      unfold addI
      rw [if_neg cLoc.symm]
      by_cases e : env.locals = c'
      · rw [e, hnone] at h3; cases h3
      · rw [if_neg e]; exact h1
    · obtain ⟨o, eo⟩ := Option.isSome_iff_exists.mp h3
      rw [hkeep a o (notP a ha') eo]; rfl
end Mine
end PartJ33

section PartL1
open PySem PySem.W PySem.Calls PyProof.Rows
set_option maxRecDepth 100000
set_option linter.unusedVariables false
namespace Mine
variable {C : Cx} {d : Nat} {sc : Sc} {ρ : Vars} {H : Store}

noncomputable def leastBody : List Stmt := bodyOf (stmtAt 69)
noncomputable def leastF (ns : List Int) : List Int := ns.filter fun h => (ns.filter fun g => g != h && Builtin.bitAnd g h == g) == []

theorem least_ok {ns : List Int} {Q : V → Store → Prop} (hl : ns.length ≤ 1000) (q : Q (.list ((leastF ns).map .int)) H) :
    Xs C d (fnSc [("sets", .cell)]) [("sets", .list (ns.map .int))] leastBody H (Returns Q) := by
  refine xs_cons (ex_return ?_)
  refine ev_comp (scopeB_ok (by rfl) (by rfl)) rfl (storesB_ok (by rfl)) rfl ?_
  refine src_ev (r_name (by rfl) (by rfl) (by rfl) ?_)
  refine itr_list ?_
  refine compL_map V.int (fun h => (ns.filter fun g => g != h && Builtin.bitAnd g h == g) == []) V.int trivial ns [] (by simp; omega) (fun h hh => ⟨tests_one (tr_cmp ?_), fun _ => r_name (by rfl) (by rfl) (by rfl) ⟨rfl, rfl⟩⟩) ?_
  · refine ev_comp (scopeB_ok (by rfl) (by rfl)) rfl (storesB_ok (by rfl)) rfl ?_
    refine src_ev (r_name (by rfl) (by rfl) (by rfl) ?_)
    refine itr_list ?_
    refine compL_map V.int (fun g => g != h && Builtin.bitAnd g h == g) V.int trivial ns [] (by simp; omega) (fun g hg => ⟨tests_one ?_, fun _ => r_name (by rfl) (by rfl) (by rfl) ⟨rfl, rfl⟩⟩) ?_
    · repeat (first | (refine r_name (by rfl) (by rfl) (by rfl) ?_) | (with_reducible refine ev_bin ?_) | (refine tr_cmp ?_) | (with_reducible refine tr_bool ?_) | (with_reducible refine all_and ?_) | (with_reducible refine all_and_nil ?_) | (with_reducible refine bin_and ?_) | (with_reducible refine cmp_ne ?_) | (with_reducible refine cmp_eq ?_))
      refine ⟨fun e => ?_, fun e => ⟨by rw [e]; rfl, rfl⟩⟩
      repeat (first | (refine r_name (by rfl) (by rfl) (by rfl) ?_) | (with_reducible refine ev_bin ?_) | (refine tr_cmp ?_) | (with_reducible refine tr_bool ?_) | (with_reducible refine all_and ?_) | (with_reducible refine all_and_nil ?_) | (with_reducible refine bin_and ?_) | (with_reducible refine cmp_ne ?_) | (with_reducible refine cmp_eq ?_))
      refine ⟨fun e' => ?_, fun e' => ⟨by rw [e, e']; rfl, rfl⟩⟩
      repeat (first | (refine r_name (by rfl) (by rfl) (by rfl) ?_) | (with_reducible refine ev_bin ?_) | (refine tr_cmp ?_) | (with_reducible refine tr_bool ?_) | (with_reducible refine all_and ?_) | (with_reducible refine all_and_nil ?_) | (with_reducible refine bin_and ?_) | (with_reducible refine cmp_ne ?_) | (with_reducible refine cmp_eq ?_))
      exact ⟨by rw [e, e']; rfl, rfl⟩
    · refine ev_list (es_nil ⟨by simp, ?_⟩)
      refine cmp_eqLi (ms := []) (.of _) (.of _) ⟨rfl, rfl⟩
  · exact q
end Mine
end PartL1

section PartL2
open PySem PySem.W PySem.Calls PyProof.Rows
set_option maxRecDepth 100000
set_option linter.unusedVariables false
namespace Mine
variable {C : Cx} {d : Nat} {sc : Sc} {ρ : Vars} {H : Store}

/-- a str by its signs -/
noncomputable def S (l : List Nat) : Str := ⟨l.toArray⟩
theorem S_app (a b : List Nat) : S a ++ S b = S (a ++ b) := by
  show (⟨a.toArray ++ b.toArray⟩ : Str) = ⟨(a ++ b).toArray⟩
  simp
theorem S_len (a : List Nat) : (S a).length = a.length := by show a.toArray.size = _; simp
theorem S_inj {a b : List Nat} : S a = S b ↔ a = b := by
  constructor
  · intro h; have := congrArg (fun x : Str => x.cps.toList) h; simpa [S] using this
  · intro h; rw [h]
theorem S_beq (a b : List Nat) : (S a == S b) = (a == b) := by
  rw [Bool.eq_iff_iff]; simp [S_inj]
theorem S_signs (a : List Nat) : signs (S a) = a.map fun c => V.str (S [c]) := by simp [signs, S]
theorem S_bne (a b : List Nat) : (S a != S b) = (a != b) := by unfold bne; rw [S_beq]

noncomputable def opsBody : List Stmt := bodyOf (stmtAt 63)
noncomputable def opsL : List (List Nat) := ["(", ")", "[", "]", ":", ",", ";", "+", "-", "*", "/", "|", "&", "<", ">", "=", ".", "%", "{", "}", "==", "!=", "<=", ">=", "~", "^", "<<", ">>", "**", "+=", "-=", "*=", "/=", "%=", "&=", "|=", "^=", "<<=", ">>=", "**=", "//", "//=", "@", "@=", "->", "...", ":=", "!"].map fun s : String => s.toList.map Char.toNat
noncomputable def opsText : Str := "( ) [ ] : , ; + - * / | & < > = . % { } == != <= >= ~ ^ << >> ** += -= *= /= %= &= |= ^= <<= >>= **= // //= @ @= -> ... := !"
theorem ops_words : PySem.wordsOf opsText = opsL.map S := by decide +kernel
theorem ops_len : opsText.length ≤ 100000 := by decide +kernel
theorem ops_len2 : (Builtin.Str.spaceWords opsText (opsText.length + 1)).length ≤ 100000 := by decide +kernel
theorem ops_one : (Builtin.Str.spaceWords opsText (opsText.length + 1) == [(0, opsText.length)]) = false := by decide +kernel
theorem ops_ok {Q : V → Store → Prop} (q : Q (.list ((opsL.map S).map .str)) H) : Xs C d (fnSc []) [] opsBody H (Returns Q) := by
  refine xs_cons (ex_return ?_)
  refine ev_meth0 PySem.F.plainAttrs_str PySem.F.slot_str_split PySem.F.type_str_split (ev_str ⟨.str _, ?_⟩)
  have q' : Q (.list ((PySem.wordsOf opsText).map V.str)) H := by rw [ops_words]; exact q
  exact callv_split (x := opsText) ops_len ops_len2 ops_one q'

theorem ist_ok {n : Int} {t : Tok} (hm : C.mg "NT_OFFSET" = some (.int 256 t)) {Q : V → Store → Prop} (q : Q (.bool (decide (n < 256))) H) :
    Xs C d (fnSc (namesOf (stmtAt 52))) [("x", .int n)] (bodyOf (stmtAt 52)) H (Returns Q) := by
  refine xs_cons (ex_return ?_)
  refine ev_cmp (r_name (by rfl) (by rfl) (by rfl) ?_)
  refine ev_global (v := .int 256) (by rfl) hm (fun _ _ _ => .int _ _) ?_
  exact cmp_lt q
theorem isn_ok {n : Int} {t : Tok} (hm : C.mg "NT_OFFSET" = some (.int 256 t)) {Q : V → Store → Prop} (q : Q (.bool (decide (256 ≤ n))) H) :
    Xs C d (fnSc (namesOf (stmtAt 53))) [("x", .int n)] (bodyOf (stmtAt 53)) H (Returns Q) := by
  refine xs_cons (ex_return ?_)
  refine ev_cmp (r_name (by rfl) (by rfl) (by rfl) ?_)
  refine ev_global (v := .int 256) (by rfl) hm (fun _ _ _ => .int _ _) ?_
  exact cmp_ge q
theorem ise_ok {n : Int} {t : Tok} (hm : C.mg "ENDMARKER" = some (.int 0 t)) {Q : V → Store → Prop} (q : Q (.bool (n == 0)) H) :
    Xs C d (fnSc (namesOf (stmtAt 54))) [("x", .int n)] (bodyOf (stmtAt 54)) H (Returns Q) := by
  refine xs_cons (ex_return ?_)
  refine ev_cmp (r_name (by rfl) (by rfl) (by rfl) ?_)
  refine ev_global (v := .int 0) (by rfl) hm (fun _ _ _ => .int _ _) ?_
  exact cmp_eq q
end Mine
end PartL2

section PartL3
open PySem PySem.W PySem.Calls PyProof.Rows
set_option maxRecDepth 100000
set_option linter.unusedVariables false
namespace Mine
variable {C : Cx} {d : Nat} {sc : Sc} {ρ : Vars} {H : Store}

theorem sapp_len (a b : Str) : (a ++ b).length = a.length + b.length := strLen_append a b
/-- what a sign is prepared to -/
noncomputable def b3S (T3 : Int → Option Str) (c : Nat) : Str := match T3 c with | some y => y | none => Txt.lower (S [c])
noncomputable def plainStep (T1 : Int → Bool) (T3 : Int → Option Str) (acc : Str) (c : Nat) : Str := if T1 c then acc else acc ++ b3S T3 c
noncomputable def plainS (T1 : Int → Bool) (T3 : Int → Option Str) (w : List Nat) : Str := w.foldl (plainStep T1 T3) (S [])

theorem inb1_ok {T1 : Int → Bool} (G1 : GSet C "b1_set" T1) {c : Nat} {Q : V → Store → Prop} (q : Q (.bool (T1 c)) H) : Xs C d (fnSc (namesOf (stmtAt 59))) [("code", .str (S [c]))] (bodyOf (stmtAt 59)) H (Returns Q) := by
  refine xs_cons (ex_return ?_)
  refine ev_inG (by rfl) G1 ?_
  refine ev_callB "ord" (by decide +kernel) (by rfl) ?_
  refine es_cons ?_
  refine r_name (by rfl) (by rfl) (by rfl) ?_
  refine es_nil ?_
  exact callv_ord ⟨c, rfl, q⟩
theorem mapb3_ok {T3 : Int → Option Str} (G3 : GTab C "b3_exceptions" T3) {c : Nat} {Q : V → Store → Prop} (q : Q (.str (b3S T3 c)) H) : Xs C d (fnSc (namesOf (stmtAt 61))) [("code", .str (S [c]))] (bodyOf (stmtAt 61)) H (Returns Q) := by
  refine xs_cons (r_assign (by rfl) (by intro _ _; rfl) ?_)
  refine ev_getG (by rfl) G3 (by decide) ?_
  refine ev_callB "ord" (by decide +kernel) (by rfl) ?_
  refine es_cons ?_
  refine r_name (by rfl) (by rfl) (by rfl) ?_
  refine es_nil ?_
  refine callv_ord ⟨c, rfl, ?_⟩
  refine xs_cons (ex_if (tr_cmp (r_name (by rfl) (by rfl) (by rfl) (ev_none ?_))))
  cases h : T3 c with
  | some y =>
    refine cmp_isnotN (.inl ⟨y, rfl, ?_⟩)
    refine ⟨fun _ => xs_cons (ex_return (r_name (by rfl) (by rfl) (by rfl) ?_)), fun e => by cases e⟩
    unfold b3S at q
    rw [h] at q
    exact q
  | none =>
    refine cmp_isnotN (.inr ⟨rfl, ?_⟩)
    refine ⟨fun e => (by cases e), fun _ => xs_nil ?_⟩
    refine xs_cons (ex_return ?_)
    refine ev_meth0 PySem.F.plainAttrs_str PySem.F.slot_str_lower PySem.F.type_str_lower (r_name (by rfl) (by rfl) (by rfl) ⟨.str _, callv_lower (by rw [S_len]; simp) ?_⟩)
    unfold b3S at q
    rw [h] at q
    exact q

theorem plain_ok {T1 : Int → Bool} {T3 : Int → Option Str} (G1 : GSet C "b1_set" T1) (G3 : GTab C "b3_exceptions" T3) (F1 : Fn C "in_table_b1" ["code"] (namesOf (stmtAt 59)) (bodyOf (stmtAt 59)))
    (F3 : Fn C "map_table_b3" ["code"] (namesOf (stmtAt 61)) (bodyOf (stmtAt 61))) {w : List Nat} (hw : w.length ≤ 1000) (hb : ∀ c ∈ w, T1 c = false → (b3S T3 c).length ≤ 20) {Q : V → Store → Prop} (q : Q (.str (plainS T1 T3 w)) H) :
    Xs C (d + 1) (fnSc (namesOf (stmtAt 67))) [("word", .str (S w))] (bodyOf (stmtAt 67)) H (Returns Q) := by
  refine xs_cons (r_assign (by rfl) (by intro _ _; rfl) (ev_str ?_))
  refine xs_cons (ex_for (storesB_ok (by rfl)) (src_ev (r_name (by rfl) (by rfl) (by rfl) (itr_str ?_))))
  rw [S_signs]
  refine loop_ind (fun acc : Str => [("plain", .str acc)]) (fun _ => H) (fun vs acc => ∃ w' : List Nat, vs = w'.map (fun c => V.str (S [c])) ∧ w'.foldl (plainStep T1 T3) acc = plainS T1 T3 w ∧ acc.length + 20 * w'.length ≤ 100000 ∧ ∀ c ∈ w', T1 c = false → (b3S T3 c).length ≤ 20)
    (fun _ _ _ => trivial) ?_ ?_ _ (S []) _ ⟨w, rfl, rfl, by rw [S_len]; simp; omega, hb⟩ ?_
  · rintro v vs acc ⟨w', e, hf, hl, hb'⟩
    cases w' with
    | nil => cases e
    | cons c w' =>
      cases e
      simp only [List.length_cons] at hl
      refine xs_cons (r_assign (by rfl) (by intro _ _; rfl) ?_)
      refine ev_callF F1 (by rfl) (es_cons (r_name (by rfl) (by rfl) (by rfl) (es_nil ⟨rfl, inb1_ok G1 ?_⟩)))
      refine xs_cons (ex_if (tr_cmp (r_name (by rfl) (by rfl) (by rfl) (ev_bool (cmp_is ?_)))))
      cases hT : T1 c with
      | false =>
        refine ⟨fun _ => ?_, fun e => by cases e⟩
        refine xs_cons (r_aug (by rfl) (by rfl) ?_)
        refine ev_callF F3 (by rfl) (es_cons (r_name (by rfl) (by rfl) (by rfl) (es_nil ⟨rfl, mapb3_ok G3 ?_⟩)))
        have hc := hb' c (.head _) hT
        refine ibin_cat (by omega) (xs_nil (xs_nil ⟨acc ++ b3S T3 c, ⟨w', rfl, ?_, ?_, fun c hc => hb' c (.tail _ hc)⟩, ⟨by rfl, trivial⟩, rfl⟩))
        · rw [← hf, List.foldl_cons]
          unfold plainStep
          rw [hT]; rfl
        · rw [sapp_len]; omega
      | true =>
        refine ⟨fun e => (by cases e), fun _ => ?_⟩
        refine xs_cons (ex_if (tr_cmp (r_name (by rfl) (by rfl) (by rfl) (ev_bool (cmp_isnot ?_)))))
        refine ⟨fun e => (by cases e), fun _ => xs_nil (xs_nil (xs_nil ⟨acc, ⟨w', rfl, ?_, by omega, fun c hc => hb' c (.tail _ hc)⟩, ⟨by rfl, trivial⟩, rfl⟩))⟩
        rw [← hf, List.foldl_cons]
        unfold plainStep
        rw [hT]; rfl
  · rintro acc ⟨w', e, hf, _, _⟩ ρ' hs
    cases w' with
    | cons c w' => cases e
    | nil =>
      refine (xs_cons (ex_return (r_name (by rfl) (v := .str acc) (by rfl) (by rfl) ?_)) : Xs C (d + 1) _ [("plain", .str acc)] _ H _).weaken hs.get
      have : acc = plainS T1 T3 w := hf
      rw [this]
      exact q
  · exact ⟨by rfl, trivial⟩
end Mine
end PartL3

section PartL4
open PySem PySem.W PySem.Calls PyProof.Rows
set_option maxRecDepth 100000
set_option linter.unusedVariables false
namespace Mine
variable {C : Cx} {d : Nat} {sc : Sc} {ρ : Vars} {H : Store}

structure Sides where
  a : Int
  b : Int
  sg : List Nat
noncomputable def sideStep (names : List Nat) (s : Sides) (c : Nat) : Sides :=
  if names.any (· == c) then (if s.sg = [] then ⟨Builtin.bitOr s.a (2 ^ names.idxOf c), s.b, s.sg⟩ else ⟨s.a, Builtin.bitOr s.b (2 ^ names.idxOf c), s.sg⟩) else ⟨s.a, s.b, s.sg ++ [c]⟩
noncomputable def sidesF (names w : List Nat) : Sides := w.foldl (sideStep names) ⟨0, 0, []⟩
noncomputable def clauseI (n : Int) (s : Sides) : Int := if n.fmod 2 = 1 then 17 * s.b + 256 * s.a else 17 * s.a + 256 * s.b

theorem idx_S (names : List Nat) (c : Nat) : (names.map fun c => S [c]).idxOf (S [c]) = names.idxOf c := by
  induction names with
  | nil => rfl
  | cons x xs ih =>
    rw [List.map_cons, List.idxOf_cons, List.idxOf_cons, ih]
    have : (S [x] == S [c]) = (x == c) := by rw [S_beq]; simp
    rw [this]
theorem any_S (names : List Nat) (c : Nat) : (names.map fun c => S [c]).any (· == S [c]) = names.any (· == c) := by
  rw [List.any_map]
  congr 1
  funext x
  show (S [x] == S [c]) = _
  rw [S_beq]; simp

theorem lk0 {k : Nat} {v : OV} : ((k, v) :: H).lookup k = some v := by rw [List.lookup_cons, beq_self_eq_true]
theorem upd0 {k : Nat} {a b : OV} : upd k a ((k, b) :: H) = (k, a) :: H := by unfold upd; rw [if_pos rfl]
theorem clause_ok {T : Str → Option Int} (G : GNum C "EXACT_TOKEN_TYPES" T) {names w : List Nat} {n : Int} {kk : Nat} (hn : names.length ≤ 100) (hw : w.length ≤ 1000) (hT : T (S (sidesF names w).sg) = some n) (hk : (H.lookup kk).isSome = false)
    {Q : V → Store → Prop} (q : ∀ x, Q (.list [.int n, .int (clauseI n (sidesF names w))]) ((kk, x) :: H)) :
    Xs C (d + 1) (fnSc (namesOf (stmtAt 68))) [("plain", .str (S w)), ("names", .list ((names.map fun c => S [c]).map .str))] (bodyOf (stmtAt 68)) H (Returns Q) := by
  refine xs_cons (r_assign (by rfl) (by intro _ _; rfl) (ev_listO kk (es_cons (ev_int (es_cons (ev_int (es_nil ⟨by simp, hk, ?_⟩)))))))
  refine xs_cons (r_assign (by rfl) (by intro _ _; rfl) (ev_str ?_))
  refine xs_cons (ex_for (storesB_ok (by rfl)) (src_ev (r_name (by rfl) (by rfl) (by rfl) (itr_str ?_))))
  rw [S_signs]
  refine loop_ind (fun s : Sides => [("sides", .own kk), ("signs", .str (S s.sg)), ("names", .list ((names.map fun c => S [c]).map .str))]) (fun s => (kk, .list [.int s.a, .int s.b]) :: H)
    (fun vs s => ∃ w' : List Nat, vs = w'.map (fun c => V.str (S [c])) ∧ w'.foldl (sideStep names) s = sidesF names w ∧ s.sg.length + w'.length ≤ 1000)
    (fun _ _ _ => trivial) ?_ ?_ _ ⟨0, 0, []⟩ _ ⟨w, rfl, rfl, by simpa using hw⟩ ?_
  · rintro v vs s ⟨w', e, hf, hl⟩
    cases w' with
    | nil => cases e
    | cons c w' =>
      cases e
      simp only [List.length_cons] at hl
      rw [List.foldl_cons] at hf
      refine xs_cons (ex_if (tr_cmp (r_name (by rfl) (by rfl) (by rfl) (r_name (by rfl) (by rfl) (by rfl) (cmp_inLs ?_)))))
      rw [any_S]
      refine ⟨fun hc => ?_, fun hc => ?_⟩
      · have hidx : Ev C (d + 1) (fnSc (namesOf (stmtAt 68))) (put "letter" (.str (S [c])) [("sides", .own kk), ("signs", .str (S s.sg)), ("names", .list ((names.map fun c => S [c]).map .str))])
            (.IfExp (.Name "signs" ⟨164, 23, 164, 28⟩) (.Constant (.int 1) 0 ⟨164, 18, 164, 19⟩) (.Constant (.int 0) 0 ⟨164, 34, 164, 35⟩) ⟨164, 18, 164, 35⟩) ((kk, .list [.int s.a, .int s.b]) :: H)
            (fun iv H' => iv = .int (if s.sg = [] then 0 else 1) ∧ H' = (kk, .list [.int s.a, .int s.b]) :: H) := by
          refine ev_ifexp (tr_val (r_name (by rfl) (by rfl) (by rfl) (tru_str (by rw [S_len]; omega) ?_)))
          rw [S_len]
          cases hs : s.sg with
          | nil => exact ⟨fun e => (by cases e), fun _ => ev_int ⟨rfl, rfl⟩⟩
          | cons x xs => exact ⟨fun _ => ev_int ⟨by simp, rfl⟩, fun e => (by simp at e; omega)⟩
        have hcm : c ∈ names := by obtain ⟨x, h1, h2⟩ := List.any_eq_true.mp hc; rw [← eq_of_beq h2]; exact h1
        have hidxlt : names.idxOf c ≤ 100 := Nat.le_trans (List.idxOf_le_length) hn
        refine xs_cons (ex_augsub (r_name (by rfl) (by rfl) (by rfl) (hidx.mono ?_)))
        rintro iv H' ⟨rfl, rfl⟩
        refine ⟨kk, _, _, if s.sg = [] then .int s.a else .int s.b, rfl, rfl, lk0, ?_, ?_, ?_, ?_⟩
        · split <;> decide
        · split <;> decide
        · split <;> rfl
        · refine ev_bin (ev_int (ev_meth1 PySem.F.plainAttrs_list PySem.F.slot_list_index PySem.F.type_list_index (r_name (by rfl) (by rfl) (by rfl) ⟨.list (.of _), es_cons (r_name (by rfl) (by rfl) (by rfl) (es_nil ?_))⟩)))
          refine callv_index (.of _) (by simp; omega) (List.mem_map.mpr ⟨c, hcm, rfl⟩) ?_
          rw [idx_S]
          refine bin_pow (by omega) (pow_ok2 (by omega) (by omega)) ?_
          have e2 : ((names.idxOf c : Nat) : Int).toNat = names.idxOf c := by omega
          rw [e2]
          have hstep : sideStep names s c = if s.sg = [] then ⟨Builtin.bitOr s.a (2 ^ names.idxOf c), s.b, s.sg⟩ else ⟨s.a, Builtin.bitOr s.b (2 ^ names.idxOf c), s.sg⟩ := by
            unfold sideStep; rw [if_pos hc]
          rw [hstep] at hf
          by_cases hs : s.sg = []
          · rw [if_pos hs] at hf
            simp only [if_pos hs]
            refine ibin_or ⟨lk0, xs_nil (xs_nil ⟨_, ⟨w', rfl, hf, by show s.sg.length + _ ≤ _; omega⟩, ⟨by rfl, by rfl, by rfl, trivial⟩, by rw [upd0]; rfl⟩)⟩
          · rw [if_neg hs] at hf
            simp only [if_neg hs]
            refine ibin_or ⟨lk0, xs_nil (xs_nil ⟨_, ⟨w', rfl, hf, by show s.sg.length + _ ≤ _; omega⟩, ⟨by rfl, by rfl, by rfl, trivial⟩, by rw [upd0]; rfl⟩)⟩
      · have hstep : sideStep names s c = ⟨s.a, s.b, s.sg ++ [c]⟩ := by unfold sideStep; rw [if_neg (by rw [hc]; decide)]
        rw [hstep] at hf
        refine xs_cons (r_aug (by rfl) (by rfl) (r_name (by rfl) (by rfl) (by rfl) (ibin_cat (by rw [S_len, S_len]; simp; omega) ?_)))
        rw [S_app]
        refine xs_nil (xs_nil ⟨_, ⟨w', rfl, hf, by simp; omega⟩, ⟨by rfl, by rfl, by rfl, trivial⟩, by rfl⟩)
  · rintro s ⟨w', e, hf, _⟩ ρ' hs
    cases w' with
    | cons c w' => cases e
    | nil =>
      have hs' : s = sidesF names w := hf
      subst hs'
      have main : Xs C (d + 1) (fnSc (namesOf (stmtAt 68))) [("sides", .own kk), ("signs", .str (S (sidesF names w).sg)), ("names", .list ((names.map fun c => S [c]).map .str))] ((bodyOf (stmtAt 68)).drop 3) ((kk, .list [.int (sidesF names w).a, .int (sidesF names w).b]) :: H) (Returns Q) := by
        refine xs_cons (r_assign (by rfl) (by intro _ _; rfl) (ev_subG (by rfl) G (r_name (by rfl) (by rfl) (by rfl) ⟨_, n, rfl, hT, ?_⟩)))
        refine xs_cons (ex_if (tr_cmp (ev_bin (r_name (by rfl) (by rfl) (by rfl) (ev_int (bin_mod (by decide) (ev_int (cmp_eq ?_))))))))
        have fin : ∀ (a b : Int) (x : OV), x = .list [.int a, .int b] → Q (.list [.int n, .int (17 * a + 256 * b)]) ((kk, x) :: H) → Xs C (d + 1) (fnSc (namesOf (stmtAt 68))) [("sides", .own kk), ("number", .int n)] ((bodyOf (stmtAt 68)).drop 5) ((kk, x) :: H) (Returns Q) := fun a b x e hq => by
          subst e
          refine xs_cons (ex_return (ev_list (es_cons (r_name (by rfl) (by rfl) (by rfl) (es_cons ?_)))))
          refine ev_bin (ev_bin (ev_int (ev_sub (r_name (by rfl) (by rfl) (by rfl) (ev_int (itm_own lk0 (by decide) (by rfl) (by decide) (bin_mul (mul_okL (by decide) (by decide)) ?_)))))))
          refine ev_bin (ev_int (ev_sub (r_name (by rfl) (by rfl) (by rfl) (ev_int (itm_own lk0 (by decide) (by rfl) (by decide) (bin_mul (mul_okL (by decide) (by decide)) (bin_add (es_nil ⟨by simp, hq⟩))))))))
        unfold clauseI at q
        refine ⟨fun he => ?_, fun he => ?_⟩
        · have he' : n.fmod 2 = 1 := by simpa using he
          refine xs_cons (ex_expr (ev_meth0 PySem.F.plainAttrs_list PySem.F.slot_list_reverse PySem.F.type_list_reverse (r_name (by rfl) (by rfl) (by rfl) ⟨.list (.own (xs := [.int (sidesF names w).a, .int (sidesF names w).b]) lk0), callv_reverse lk0 (by simp) (xs_nil ?_)⟩)))
          have := q (.list [.int (sidesF names w).b, .int (sidesF names w).a])
          rw [if_pos he'] at this
          rw [upd0]
          exact (fin _ _ _ rfl this).weaken (Sub.get ⟨by rfl, by rfl, trivial⟩)
        · have he' : ¬ n.fmod 2 = 1 := by simpa using he
          have := q (.list [.int (sidesF names w).a, .int (sidesF names w).b])
          rw [if_neg he'] at this
          exact xs_nil ((fin _ _ _ rfl this).weaken (Sub.get ⟨by rfl, by rfl, trivial⟩))
      exact main.weaken hs.get
  · exact ⟨by rfl, by rfl, by rfl, trivial⟩
end Mine
end PartL4

section PartL5
open PySem PySem.W PySem.Calls PyProof.Rows
set_option maxRecDepth 100000
set_option linter.unusedVariables false
namespace Mine
variable {C : Cx} {d : Nat} {sc : Sc} {ρ : Vars} {H : Store}

noncomputable def unseenL : List Nat := [173, 847, 6150, 6155, 6156, 6157, 8203, 8204, 8205, 8288, 65279, 65024, 65025, 65026, 65027, 65028, 65029, 65030, 65031, 65032, 65033, 65034, 65035, 65036, 65037, 65038, 65039]
noncomputable def wayL : List Int := [0, 1, 2, 4, 7, 8, 9, 10, 11, 12]
/-- the sign that stands for c -/
noncomputable def varC (way : Int) (c : Nat) : Nat := if c = 102 ∨ c = 105 then (if way = 1 then c - 32 else if 1 < way then (119711 + (c : Int) + 52 * wayL.getD (way - 2).toNat 0).toNat else c) else c
noncomputable def veilS (v : Int) : Str := Txt.slice (S unseenL) (some v) (some (v + 1))
noncomputable def wordStep (form start : Int) (acc : Str) (p : Int × Nat) : Str := acc ++ (S [varC ((form + 3 * p.1).fmod 12) p.2] ++ veilS ((start + 13 * p.1).fmod 90))
noncomputable def enumL : Nat → List Nat → List (Int × Nat)
  | _, [] => []
  | i, c :: r => ((i : Int), c) :: enumL (i + 1) r
noncomputable def ligF (form : Int) (p : Str) : Str := if form < 4 then Txt.replace (Txt.replace p (S [102, 102]) (S [64256])) (S [102, 105]) (S [64257]) else p
noncomputable def wordS (p : Str) (form start : Int) : Str := (enumL 0 (ligF form p).cps.toList).foldl (wordStep form start) (S [])

theorem S_toList (x : Str) : S x.cps.toList = x := by show (⟨x.cps.toList.toArray⟩ : Str) = x; simp
theorem in_fi (c : Nat) : Txt.contains (S [102, 105]) (S [c]) = decide (c = 102 ∨ c = 105) := by
  have : Txt.contains (S [102, 105]) (S [c]) = decide (c ∈ (S [102, 105]).cps.toList) := StrLaws.found_one _ _
  rw [this]
  simp [S]
theorem zip_enum : ∀ (l : List Nat) (i : Nat), zipV i (l.map fun c => V.str (S [c])) = (enumL i l).map fun p => (V.int p.1, V.str (S [p.2]))
  | [], _ => rfl
  | c :: r, i => by
    show (_ :: _) = _
    rw [zip_enum r (i + 1)]; rfl
theorem slice_len (x : Str) (a b : Option Int) : (Txt.slice x a b).length ≤ x.length := Txt.slice_le x a b
theorem r_str {x k pos Q} (l : List Nat) (hx : x = S l) (q : Q (.str (S l)) H) : Ev C d sc ρ (.Constant (.str x) k pos) H Q := by subst hx; exact ev_str q
theorem upper_fi (c : Nat) (h : c = 102 ∨ c = 105) : Txt.upper (S [c]) = S [c - 32] := by
  rcases h with rfl | rfl <;> decide +kernel

theorem fmod_range (a : Int) {b : Int} (hb : 0 < b) : 0 ≤ a.fmod b ∧ a.fmod b < b := ⟨Int.fmod_nonneg_of_pos a hb, Int.fmod_lt_of_pos a hb⟩

set_option maxHeartbeats 4000000 in
theorem word_ok {p : Str} {form start : Int} (hf : 0 ≤ form ∧ form < 12) (hs : 0 ≤ start ∧ start ≤ 10000) (hp : p.length ≤ 1000) (hp2 : (Txt.replace p (S [102, 102]) (S [64256])).length ≤ 1000) (hl : (ligF form p).length ≤ 1000) {Q : V → Store → Prop} (q : Q (.str (wordS p form start)) H) :
    Xs C d (fnSc (namesOf (stmtAt 66))) [("plain", .str p), ("form", .int form), ("start", .int start)] (bodyOf (stmtAt 66)) H (Returns Q) := by
  refine xs_cons (r_assign (by rfl) (by intro _ _; rfl) (r_str unseenL (by decide +kernel) ?_))
  have main : ∀ ρ, Sub [("unseen", .str (S unseenL)), ("form", .int form), ("start", .int start), ("plain", .str (ligF form p))] ρ → Xs C d (fnSc (namesOf (stmtAt 66))) ρ ((bodyOf (stmtAt 66)).drop 2) H (Returns Q) := fun ρ hρ => by
    refine (?_ : Xs C d (fnSc (namesOf (stmtAt 66))) [("unseen", .str (S unseenL)), ("form", .int form), ("start", .int start), ("plain", .str (ligF form p))] ((bodyOf (stmtAt 66)).drop 2) H (Returns Q)).weaken hρ.get
    refine xs_cons (r_assign (by rfl) (by intro _ _; rfl) (ev_str ?_))
    refine xs_cons (ex_for2 (storesB_ok (by rfl)) (storesB_ok (by rfl)) (src2_enumS (by rfl) (r_name (by rfl) (by rfl) (by rfl) ⟨_, rfl, ?_⟩)))
    generalize hL : (ligF form p).cps.toList = L at *
    have hLS : ligF form p = S L := by rw [← hL, S_toList]
    have hLl : L.length ≤ 1000 := by rw [hLS, S_len] at hl; exact hl
    rw [hLS, S_signs, zip_enum]
    refine loop2_ind (fun acc : Str => [("unseen", .str (S unseenL)), ("form", .int form), ("start", .int start), ("word", .str acc)]) (fun _ => H)
      (fun vs acc => ∃ i L', vs = (enumL i L').map (fun p => (V.int p.1, V.str (S [p.2]))) ∧ (enumL i L').foldl (wordStep form start) acc = wordS p form start ∧ acc.length + 30 * L'.length ≤ 90000 ∧ i + L'.length ≤ 1000) ?_ ?_ _ (S []) _ ⟨0, L, rfl, ?_, ?_, ?_⟩ ?_
    · rintro u v vs acc ⟨i, L', e, hfo, hlen, hi⟩
      cases L' with
      | nil => cases e
      | cons c L' =>
        cases e
        simp only [List.length_cons] at hlen hi
        have hfo : (enumL (i + 1) L').foldl (wordStep form start) (wordStep form start acc ((i : Int), c)) = wordS p form start := hfo
        refine xs_cons (r_assign (by rfl) (by intro _ _; rfl) ?_)
        refine ev_bin (ev_bin (r_name (by rfl) (by rfl) (by rfl) (ev_bin (ev_int (r_name (by rfl) (by rfl) (by rfl) (bin_mul (mul_okL (by decide) (by decide)) (bin_add (ev_int (bin_mod (by decide) ?_)))))))))
        generalize hway : (form + 3 * (i : Int)).fmod 12 = way
        have hw := fmod_range (form + 3 * (i : Int)) (b := 12) (by decide)
        rw [hway] at hw
        refine xs_seq (fun ρ' H' => H' = H ∧ Sub [("unseen", .str (S unseenL)), ("form", .int form), ("start", .int start), ("word", .str acc), ("spot", .int i), ("sign", .str (S [varC way c]))] ρ') ?_ ?_
        · refine ex_if (tr_bool (all_and (tr_cmp (r_name (by rfl) (by rfl) (by rfl) (r_str [102, 105] (by decide +kernel) (cmp_ins ?_))))))
          rw [in_fi]
          by_cases hc : c = 102 ∨ c = 105
          · rw [decide_eq_true hc]
            refine ⟨fun _ => ?_, fun e => (by cases e)⟩
            refine all_and (tr_cmp (r_name (by rfl) (by rfl) (by rfl) (ev_int (cmp_eq ?_))))
            by_cases hw1 : way = 1
            · rw [show (way == 1) = true by simpa using hw1]
              refine ⟨fun _ => all_and_nil ?_, fun e => (by cases e)⟩
              refine ⟨fun _ => ?_, fun e => (by cases e)⟩
              refine xs_cons (r_assign (by rfl) (by intro _ _; rfl) ?_)
              refine ev_meth0 PySem.F.plainAttrs_str PySem.F.slot_str_upper PySem.F.type_str_upper (r_name (by rfl) (by rfl) (by rfl) ⟨.str _, callv_upper (by rw [S_len]; simp) ?_⟩)
              rw [upper_fi c hc]
              have hv : varC way c = c - 32 := by unfold varC; rw [if_pos hc, if_pos hw1]
              rw [hv]
              exact xs_nil ⟨rfl, rfl, by rfl, by rfl, by rfl, by rfl, by rfl, by rfl, trivial⟩
            · rw [show (way == 1) = false by simpa using hw1]
              refine ⟨fun e => (by cases e), fun _ => ?_⟩
              refine ⟨fun e => (by cases e), fun _ => ?_⟩
              refine xs_cons (ex_if (tr_bool (all_and (tr_cmp (r_name (by rfl) (by rfl) (by rfl) (r_str [102, 105] (by decide +kernel) (cmp_ins ?_)))))))
              rw [in_fi, decide_eq_true hc]
              refine ⟨fun _ => ?_, fun e => (by cases e)⟩
              refine all_and (tr_cmp (r_name (by rfl) (by rfl) (by rfl) (ev_int (cmp_gt ?_))))
              by_cases hw2 : 1 < way
              · rw [decide_eq_true hw2]
                refine ⟨fun _ => all_and_nil ?_, fun e => (by cases e)⟩
                refine ⟨fun _ => ?_, fun e => (by cases e)⟩
                refine xs_cons (r_assign (by rfl) (by intro _ _; rfl) ?_)
                have hget : (wayL.map V.int)[(way - 2).toNat]? = some (V.int (wayL.getD (way - 2).toNat 0)) := by
                  have h10 : (way - 2).toNat < 10 := by omega
                  rw [List.getElem?_map, List.getD_eq_getElem?_getD]
                  have : (way - 2).toNat < wayL.length := h10
                  rw [List.getElem?_eq_getElem this]; rfl
                have hr : 0 ≤ wayL.getD (way - 2).toNat 0 ∧ wayL.getD (way - 2).toNat 0 ≤ 12 := by
                  have h10 : (way - 2).toNat < 10 := by omega
                  generalize (way - 2).toNat = m at h10
                  have : ∀ m : Fin 10, 0 ≤ wayL.getD m.val 0 ∧ wayL.getD m.val 0 ≤ 12 := by decide
                  exact this ⟨m, h10⟩
                refine ev_callB "chr" (by decide +kernel) (by rfl) (es_cons ?_)
                refine ev_bin (ev_bin (ev_int (ev_callB "ord" (by decide +kernel) (by rfl) (es_cons (r_name (by rfl) (by rfl) (by rfl) (es_nil (callv_ord (c := c) (bin_add ?_))))))))
                with_reducible refine ev_bin ?_
                with_reducible refine ev_int ?_
                refine ev_sub ?_
                refine ev_list ?_
                iterate 10 refine es_cons (ev_int ?_)
                refine es_nil ⟨by simp, ?_⟩
                refine ev_bin (r_name (by rfl) (by rfl) (by rfl) (ev_int (bin_sub ?_)))
                refine itm_list (xs := wayL.map V.int) (by omega) hget (by omega) (bin_mul (mul_okL (by decide) (by decide)) (bin_add (es_nil ?_)))
                have hc' : c ≤ 105 := by omega
                refine callv_chr (by omega) (by omega) ?_
                have hv : varC way c = (119711 + (c : Int) + 52 * wayL.getD (way - 2).toNat 0).toNat := by unfold varC; rw [if_pos hc, if_neg hw1, if_pos hw2]
                rw [hv]
                exact xs_nil (xs_nil ⟨rfl, rfl, by rfl, by rfl, by rfl, by rfl, by rfl, by rfl, trivial⟩)
              · rw [decide_eq_false hw2]
                refine ⟨fun e => (by cases e), fun _ => ?_⟩
                refine ⟨fun e => (by cases e), fun _ => ?_⟩
                have hv : varC way c = c := by unfold varC; rw [if_pos hc, if_neg hw1, if_neg hw2]
                rw [hv]
                exact xs_nil (xs_nil ⟨rfl, rfl, by rfl, by rfl, by rfl, by rfl, by rfl, by rfl, trivial⟩)
          · rw [decide_eq_false hc]
            refine ⟨fun e => (by cases e), fun _ => ?_⟩
            refine ⟨fun e => (by cases e), fun _ => ?_⟩
            refine xs_cons (ex_if (tr_bool (all_and (tr_cmp (r_name (by rfl) (by rfl) (by rfl) (r_str [102, 105] (by decide +kernel) (cmp_ins ?_)))))))
            rw [in_fi, decide_eq_false hc]
            refine ⟨fun e => (by cases e), fun _ => ?_⟩
            refine ⟨fun e => (by cases e), fun _ => ?_⟩
            have hv : varC way c = c := by unfold varC; rw [if_neg hc]
            rw [hv]
            exact xs_nil (xs_nil ⟨rfl, rfl, by rfl, by rfl, by rfl, by rfl, by rfl, by rfl, trivial⟩)
        · rintro ρ' H' ⟨rfl, hρ'⟩
          refine Xs.weaken ?_ hρ'.get
          have hvr := fmod_range (start + 13 * (i : Int)) (b := 90) (by decide)
          refine xs_cons (r_assign (by rfl) (by intro _ _; rfl) (ev_bin (ev_bin (r_name (by rfl) (by rfl) (by rfl) (ev_bin (ev_int (r_name (by rfl) (by rfl) (by rfl) (bin_mul (mul_okL (by decide) (by decide)) (bin_add (ev_int (bin_mod (by decide) ?_)))))))))))
          generalize hveil : (start + 13 * (i : Int)).fmod 90 = veil at hvr
          refine xs_cons (r_aug (by rfl) (by rfl) (ev_bin (r_name (by rfl) (by rfl) (by rfl) ?_)))
          have hsl := slice_len (S unseenL) (some veil) (some (veil + 1))
          have hul : (S unseenL).length = 27 := by decide +kernel
          refine ev_sliceS (r_name (by rfl) (by rfl) (by rfl) (r_name (by rfl) (by rfl) (by rfl) ⟨veil, rfl, ?_⟩))
          refine ev_bin (r_name (by rfl) (by rfl) (by rfl) (ev_int (bin_add ⟨veil + 1, rfl, S unseenL, rfl, by omega, ?_⟩)))
          have h1l : (S [varC way c]).length = 1 := by rw [S_len]; rfl
          refine bin_cat (by omega) ?_
          refine ibin_cat (by rw [sapp_len]; omega) (xs_nil ⟨_, ⟨i + 1, L', rfl, hfo, ?_, by omega⟩, ⟨by rfl, by rfl, by rfl, ?_, trivial⟩, rfl⟩)
          · unfold wordStep
            rw [sapp_len, sapp_len]
            simp only [hveil, hway, veilS]
            omega
          · simp only [wordStep, veilS, hveil, hway]
            rfl
    · rintro acc ⟨i, L', e, hfo, _, _⟩ ρ' hs'
      cases L' with
      | cons c L' => cases e
      | nil =>
        have : acc = wordS p form start := hfo
        subst this
        refine (xs_cons (ex_return (r_name (by rfl) (v := .str (wordS p form start)) (by rfl) (by rfl) ?_)) : Xs C d (fnSc (namesOf (stmtAt 66))) [("unseen", .str (S unseenL)), ("form", .int form), ("start", .int start), ("word", .str (wordS p form start))] _ H _).weaken hs'.get
        exact q
    · unfold wordS; rw [hL]
    · rw [S_len]; simp; omega
    · omega
    · exact ⟨by rfl, by rfl, by rfl, by rfl, trivial⟩
  refine xs_cons (ex_ifP (by rfl) (by rfl) (by rfl) (by rfl) (by intro _ _; rfl) (fun hlt => ?_) fun hlt => ?_)
  · refine evp_replace (by decide) (by decide +kernel) (by decide +kernel) (evp_replace (by decide) (by decide +kernel) (by decide +kernel) (Ev.p (r_name (by rfl) (by rfl) (by rfl) ⟨p, rfl, by omega, _, rfl, Nat.le_trans hp2 (by decide), ?_⟩)))
    have hlig : ligF form p = Txt.replace (Txt.replace p (S [102, 102]) (S [64256])) (S [102, 105]) (S [64257]) := by unfold ligF; rw [if_pos hlt]
    refine main _ ⟨by rfl, by rfl, by rfl, ?_, trivial⟩
    rw [hlig]; rfl
  · have hlig : ligF form p = p := by unfold ligF; rw [if_neg hlt]
    refine main _ ⟨by rfl, by rfl, by rfl, ?_, trivial⟩
    rw [hlig]; rfl
end Mine
end PartL5

section PartL6
open PySem PySem.W PySem.Calls PyProof.Rows
set_option maxRecDepth 100000
set_option linter.unusedVariables false
namespace Mine
variable {C : Cx} {d : Nat} {sc : Sc} {ρ : Vars} {H : Store}

noncomputable def wsL : List Nat := [32, 9, 13, 10]
noncomputable def wsAt (i : Int) : Nat := wsL.getD i.toNat 0
noncomputable def escSet (q : Bool) : List Nat := if q then [34, 92] else [32, 9, 13, 10, 92]
noncomputable def escB (q : Bool) (turn spot : Int) (c : Nat) : Bool := decide (c ∈ escSet q) || ((turn + spot).fmod 4 == 0) || (spot == 0 && c == 34)
noncomputable def bodyStep (q : Bool) (turn : Int) (acc : List Nat) (p : Int × Nat) : List Nat := (if escB q turn p.1 p.2 then acc ++ [92] else acc) ++ [p.2]
noncomputable def bodyL (q : Bool) (turn : Int) (w : List Nat) : List Nat := (enumL 0 w).foldl (bodyStep q turn) []
noncomputable def quotB (turn k : Int) (w : List Nat) : Bool := (w == []) || ((turn + k).fmod 2 == 0)
noncomputable def endL (n : Nat) (turn k : Int) (q : Bool) : List Nat := if k = (n : Int) - 1 then [92] else if q then [34] else [wsAt (turn.fmod 4)]
noncomputable def pieceL (n : Nat) (turn k : Int) (w : List Nat) : List Nat :=
  List.replicate (turn.fmod 3).toNat (wsAt ((turn + k).fmod 4)) ++ (if quotB turn k w then 34 :: bodyL true turn w else bodyL false turn w) ++ endL n turn k (quotB turn k w)
noncomputable def turnAt (figs : List Int) (k : Int) : Int := figs.getD (k.fmod 9).toNat 0
noncomputable def enumW : Nat → List (List Nat) → List (Int × List Nat)
  | _, [] => []
  | i, c :: r => ((i : Int), c) :: enumW (i + 1) r
noncomputable def textL (figs : List Int) (ws : List (List Nat)) : List Nat := (enumW 0 ws).foldl (fun acc p => acc ++ pieceL ws.length (turnAt figs p.1) p.1 p.2) []

theorem item_ws {i : Int} (h : 0 ≤ i ∧ i < 4) : fitsSsize i = true ∧ (Txt.charAt (S wsL) i).isSome = true ∧ Txt.item (S wsL) i = S [wsAt i] := by
  obtain ⟨k, rfl⟩ := Int.eq_ofNat_of_zero_le h.1
  exact (by decide +kernel : ∀ k : Nat, k < 4 → fitsSsize (k : Int) = true ∧ (Txt.charAt (S wsL) (k : Int)).isSome = true ∧ Txt.item (S wsL) (k : Int) = S [wsAt (k : Int)]) k (Int.ofNat_lt.mp h.2)
theorem mul_small {c : Nat} {n : Int} (h : 0 ≤ n ∧ n < 3) : Txt.mul (S [c]) n = S (List.replicate n.toNat c) := by
  have : n = 0 ∨ n = 1 ∨ n = 2 := by omega
  rcases this with rfl | rfl | rfl <;> rfl
theorem contains_S (l : List Nat) (c : Nat) : Txt.contains (S l) (S [c]) = decide (c ∈ l) := by
  have : Txt.contains (S l) (S [c]) = decide (c ∈ (S l).cps.toList) := StrLaws.found_one _ _
  rw [this]
  exact decide_eq_decide.mpr (by simp [S])
theorem zip_enumW : ∀ (l : List (List Nat)) (i : Nat), zipV i (l.map fun c => V.str (S c)) = (enumW i l).map fun p => (V.int p.1, V.str (S p.2))
  | [], _ => rfl
  | c :: r, i => by
    show (_ :: _) = _
    rw [zip_enumW r (i + 1)]; rfl
theorem bodyStep_len (q turn acc p) : (bodyStep q turn acc p).length ≤ acc.length + 2 := by
  unfold bodyStep
  split <;> simp
theorem bodyL_len (q turn) : ∀ (w : List Nat) (i : Nat) (acc : List Nat), ((enumL i w).foldl (bodyStep q turn) acc).length ≤ acc.length + 2 * w.length
  | [], _, acc => by simp [enumL]
  | c :: r, i, acc => by
    have := bodyL_len q turn r (i + 1) (bodyStep q turn acc ((i : Int), c))
    have h2 := bodyStep_len q turn acc ((i : Int), c)
    simp only [enumL, List.foldl_cons, List.length_cons]
    omega
theorem pieceL_len (n turn k w) (ht : 0 ≤ turn ∧ turn ≤ 9) : (pieceL n turn k w).length ≤ 10 + 2 * w.length := by
  unfold pieceL endL
  have h3 := fmod_range turn (b := 3) (by decide)
  have b1 := bodyL_len true turn w 0 []
  have b2 := bodyL_len false turn w 0 []
  simp only [List.length_append, List.length_replicate]
  have e1 : (if quotB turn k w = true then 34 :: bodyL true turn w else bodyL false turn w).length ≤ 1 + 2 * w.length := by
    unfold bodyL
    split
    · simp only [List.length_cons, List.length_nil] at b1 ⊢; omega
    · simp only [List.length_nil] at b2; omega
  have e2 : (if k = (n : Int) - 1 then [92] else if quotB turn k w = true then [34] else [wsAt (turn.fmod 4)]).length ≤ 1 := by
    split
    · simp
    · split <;> simp
  omega

set_option maxHeartbeats 4000000 in
theorem text_ok {ws : List (List Nat)} {figs : List Int} (hf : figs.length = 9) (hr : ∀ x ∈ figs, 0 ≤ x ∧ x ≤ 9) (hn : ws.length ≤ 20) (hw : ∀ w ∈ ws, w.length ≤ 1000) {Q : V → Store → Prop} (q : Q (.str (S (textL figs ws))) H) :
    Xs C d (fnSc (namesOf (stmtAt 65))) [("words", .list (ws.map fun w => .str (S w))), ("figures", .list (figs.map .int))] (bodyOf (stmtAt 65)) H (Returns Q) := by
  refine xs_cons (r_assign (by rfl) (by intro _ _; rfl) (ev_str ?_))
  refine xs_cons (ex_for2 (storesB_ok (by rfl)) (storesB_ok (by rfl)) (src2_enumL (by rfl) (r_name (by rfl) (by rfl) (by rfl) ⟨_, rfl, ?_⟩)))
  rw [zip_enumW]
  have hturn : ∀ k : Int, 0 ≤ turnAt figs k ∧ turnAt figs k ≤ 9 := fun k => by
    unfold turnAt
    have hk := fmod_range k (b := 9) (by decide)
    have hlt : (k.fmod 9).toNat < figs.length := by omega
    rw [List.getD_eq_getElem?_getD, List.getElem?_eq_getElem hlt]
    exact hr _ (List.getElem_mem hlt)
  refine loop2_ind (fun acc : List Nat => [("text", .str (S acc)), ("words", .list (ws.map fun w => .str (S w))), ("figures", .list (figs.map .int))]) (fun _ => H)
    (fun vs acc => ∃ i ws', vs = (enumW i ws').map (fun p => (V.int p.1, V.str (S p.2))) ∧ (enumW i ws').foldl (fun acc p => acc ++ pieceL ws.length (turnAt figs p.1) p.1 p.2) acc = textL figs ws ∧ acc.length + 2010 * ws'.length ≤ 80000 ∧ i + ws'.length ≤ 1000 ∧ ∀ w ∈ ws', w.length ≤ 1000) ?_ ?_ _ [] _ ⟨0, ws, rfl, rfl, by simp; omega, by omega, hw⟩ ?_
  · rintro u v vs acc ⟨i, ws', e, hfo, hlen, hi, hw'⟩
    cases ws' with
    | nil => cases e
    | cons w ws' =>
      cases e
      simp only [List.length_cons] at hlen hi
      have hfo : (enumW (i + 1) ws').foldl (fun acc p => acc ++ pieceL ws.length (turnAt figs p.1) p.1 p.2) (acc ++ pieceL ws.length (turnAt figs i) i w) = textL figs ws := hfo
      have ht := hturn i
      have hwl := hw' w (.head _)
      have hk := fmod_range (i : Int) (b := 9) (by decide)
      have hget : (figs.map V.int)[((i : Int).fmod 9).toNat]? = some (V.int (turnAt figs i)) := by
        have hlt : ((i : Int).fmod 9).toNat < figs.length := by omega
        unfold turnAt
        rw [List.getElem?_map, List.getD_eq_getElem?_getD, List.getElem?_eq_getElem hlt]; rfl
      refine xs_cons (r_assign (by rfl) (by intro _ _; rfl) (ev_sub (r_name (by rfl) (by rfl) (by rfl) (ev_bin (r_name (by rfl) (by rfl) (by rfl) (ev_int (bin_mod (by decide) (itm_list hk.1 hget (by omega) ?_))))))))
      generalize hT : turnAt figs i = turn at *
      generalize hq : quotB turn i w = qd
      refine xs_seq (fun ρ' H' => H' = H ∧ Sub [("text", .str (S acc)), ("words", .list (ws.map fun w => .str (S w))), ("figures", .list (figs.map .int)), ("k", .int i), ("word", .str (S w)), ("turn", .int turn), ("quoted", .bool qd)] ρ') ?_ ?_
      · refine r_assign (by rfl) (by intro _ _; rfl) ?_
        refine ev_or2 (ev_cmp (r_name (by rfl) (by rfl) (by rfl) (r_str [] (by rfl) (cmp_eqs (tru_bool ?_)))))
        rw [S_beq]
        unfold quotB at hq
        refine ⟨fun e => ?_, fun e => ?_⟩
        · rw [e, Bool.true_or] at hq
          subst hq
          rw [e]
          exact ⟨rfl, rfl, by rfl, by rfl, by rfl, by rfl, by rfl, by rfl, by rfl, trivial⟩
        · rw [e, Bool.false_or] at hq
          refine ev_cmp (ev_bin (ev_bin (r_name (by rfl) (by rfl) (by rfl) (r_name (by rfl) (by rfl) (by rfl) (bin_add (ev_int (bin_mod (by decide) (ev_int (cmp_eq ?_)))))))))
          rw [hq]
          exact ⟨rfl, rfl, by rfl, by rfl, by rfl, by rfl, by rfl, by rfl, by rfl, trivial⟩
      rintro ρ' H' ⟨rfl, hρ'⟩
      refine Xs.weaken ?_ hρ'.get
      clear hρ' ρ'
      refine xs_cons (r_assign (by rfl) (by intro _ _; rfl) (r_str [] (by rfl) ?_))
      refine xs_cons (ex_for2 (storesB_ok (by rfl)) (storesB_ok (by rfl)) (src2_enumS (by rfl) (r_name (by rfl) (by rfl) (by rfl) ⟨_, rfl, ?_⟩)))
      rw [S_signs, zip_enum]
      · refine loop2_ind (fun b : List Nat => [("text", .str (S acc)), ("words", .list (ws.map fun w => .str (S w))), ("figures", .list (figs.map .int)), ("k", .int i), ("turn", .int turn), ("quoted", .bool qd), ("body", .str (S b))]) (fun _ => H')
          (fun vs b => ∃ j w', vs = (enumL j w').map (fun p => (V.int p.1, V.str (S [p.2]))) ∧ (enumL j w').foldl (bodyStep qd turn) b = bodyL qd turn w ∧ b.length + 2 * w'.length ≤ 80000) ?_ ?_ _ [] _ ⟨0, w, rfl, rfl, by simp; omega⟩ ?_
        · rintro u v vs b ⟨j, w', e, hfb, hbl⟩
          cases w' with
          | nil => cases e
          | cons c w' =>
            cases e
            simp only [List.length_cons] at hbl
            have hfb : (enumL (j + 1) w').foldl (bodyStep qd turn) (bodyStep qd turn b ((j : Int), c)) = bodyL qd turn w := hfb
            refine xs_seq (fun ρ' H'' => H'' = H' ∧ Sub [("text", .str (S acc)), ("words", .list (ws.map fun w => .str (S w))), ("figures", .list (figs.map .int)), ("k", .int i), ("turn", .int turn), ("quoted", .bool qd), ("body", .str (S (if escB qd turn j c then b ++ [92] else b))), ("sign", .str (S [c]))] ρ') ?_ ?_
            · refine ex_if (Tr.mono (Q := fun t H'' => t = escB qd turn j c ∧ H'' = H') ?_ ?_)
              · refine tr_bool (all_or (tr_cmp (r_name (by rfl) (by rfl) (by rfl) (Ev.mono (Q := fun v H'' => v = .str (S (escSet qd)) ∧ H'' = H') ?_ ?_))))
                · refine ev_ifexp (tr_val (r_name (by rfl) (by rfl) (by rfl) (tru_bool ?_)))
                  cases qd with
                  | true => exact ⟨fun _ => r_str [34, 92] (by decide +kernel) ⟨rfl, rfl⟩, fun e => (by cases e)⟩
                  | false => exact ⟨fun e => (by cases e), fun _ => r_str [32, 9, 13, 10, 92] (by decide +kernel) ⟨rfl, rfl⟩⟩
                · rintro v H'' ⟨rfl, rfl⟩
                  refine cmp_ins ?_
                  rw [contains_S]
                  unfold escB
                  refine ⟨fun e => ⟨by rw [e]; rfl, rfl⟩, fun e => ?_⟩
                  rw [e]
                  refine all_or (tr_cmp (ev_bin (ev_bin (r_name (by rfl) (by rfl) (by rfl) (r_name (by rfl) (by rfl) (by rfl) (bin_add (ev_int (bin_mod (by decide) (ev_int (cmp_eq ?_))))))))))
                  refine ⟨fun e2 => ⟨by rw [e2]; rfl, rfl⟩, fun e2 => ?_⟩
                  rw [e2]
                  refine all_or (tr_bool (all_and (tr_cmp (r_name (by rfl) (by rfl) (by rfl) (ev_int (cmp_eq ?_))))))
                  refine ⟨fun e3 => ?_, fun e3 => ?_⟩
                  · rw [e3]
                    refine all_and (tr_cmp (r_name (by rfl) (by rfl) (by rfl) (r_str [34] (by decide +kernel) (cmp_eqs ?_))))
                    rw [S_beq, show ([c] == [34]) = (c == 34) by simp]
                    refine ⟨fun e4 => all_and_nil ⟨fun _ => ⟨by rw [e4]; rfl, rfl⟩, fun e => (by cases e)⟩, fun e4 => ⟨fun e => (by cases e), fun _ => all_or_nil ⟨by rw [e4]; rfl, rfl⟩⟩⟩
                  · rw [e3]
                    exact ⟨fun e => (by cases e), fun _ => all_or_nil ⟨rfl, rfl⟩⟩
              · rintro t H'' ⟨rfl, rfl⟩
                refine ⟨fun e => ?_, fun e => ?_⟩
                · rw [e]
                  refine xs_cons (r_aug (by rfl) (by rfl) (r_str [92] (by decide +kernel) (ibin_cat (by rw [S_len, S_len]; simp; omega) ?_)))
                  rw [S_app]
                  exact xs_nil ⟨rfl, rfl, by rfl, by rfl, by rfl, by rfl, by rfl, by rfl, by rfl, by rfl, trivial⟩
                · rw [e]
                  exact xs_nil ⟨rfl, rfl, by rfl, by rfl, by rfl, by rfl, by rfl, by rfl, by rfl, by rfl, trivial⟩
            · rintro ρ' H'' ⟨rfl, hρ'⟩
              refine Xs.weaken ?_ hρ'.get
              have hbs := bodyStep_len qd turn b ((j : Int), c)
              have hes : (if escB qd turn j c = true then b ++ [92] else b).length ≤ b.length + 1 := by split <;> simp
              refine xs_cons (r_aug (by rfl) (by rfl) (r_name (by rfl) (by rfl) (by rfl) (ibin_cat (by rw [S_len, S_len]; simp only [List.length_cons, List.length_nil]; omega) ?_)))
              rw [S_app]
              exact xs_nil ⟨_, ⟨j + 1, w', rfl, hfb, by omega⟩, ⟨by rfl, by rfl, by rfl, by rfl, by rfl, by rfl, by rfl, trivial⟩, rfl⟩
        · rintro b ⟨j, w', e, hfb, _⟩ ρ' hs'
          cases w' with
          | cons c L' => cases e
          | nil =>
            have : b = bodyL qd turn w := hfb
            subst this
            have hpl := pieceL_len ws.length turn i w ht
            have hbl2 := bodyL_len qd turn w 0 []
            simp only [List.length_nil] at hbl2
            have hbl3 : (bodyL qd turn w).length ≤ 2 * w.length := by unfold bodyL; omega
            have h3 := fmod_range turn (b := 3) (by decide)
            obtain ⟨f1, f2, f3⟩ := item_ws (fmod_range (turn + i) (b := 4) (by decide))
            obtain ⟨g1, g2, g3⟩ := item_ws (fmod_range turn (b := 4) (by decide))
            refine Xs.weaken ?_ hs'.get
            refine xs_cons (r_aug (by rfl) (by rfl) (ev_bin (ev_bin ?_)))
            refine ev_sub (r_str wsL (by decide +kernel) ?_)
            refine ev_bin (ev_bin (r_name (by rfl) (by rfl) (by rfl) (r_name (by rfl) (by rfl) (by rfl) (bin_add (ev_int (bin_mod (by decide) ?_))))))
            refine itm_str f1 f2 ?_
            rw [f3]
            refine ev_bin (r_name (by rfl) (by rfl) (by rfl) (ev_int (bin_mod (by decide) ?_)))
            refine bin_rep (mulOk_of 1 3 (by rw [S_len]; simp) (by omega) (by omega) (by decide) (by decide)) ?_
            rw [mul_small h3]
            refine Ev.mono (Q := fun v H'' => v = .str (S (if qd then 34 :: bodyL true turn w else bodyL false turn w)) ∧ H'' = H') ?_ ?_
            · refine ev_ifexp (tr_val (r_name (by rfl) (by rfl) (by rfl) (tru_bool ?_)))
              cases qd with
              | true =>
                refine ⟨fun _ => ev_bin (r_str [34] (by decide +kernel) (r_name (by rfl) (by rfl) (by rfl) (bin_cat (by rw [S_len, S_len]; simp; omega) ?_))), fun e => (by cases e)⟩
                rw [S_app]
                exact ⟨rfl, rfl⟩
              | false => exact ⟨fun e => (by cases e), fun _ => r_name (by rfl) (by rfl) (by rfl) ⟨rfl, rfl⟩⟩
            rintro v H'' ⟨rfl, rfl⟩
            have hX : (List.replicate (turn.fmod 3).toNat (wsAt ((turn + i).fmod 4)) ++ (if qd = true then 34 :: bodyL true turn w else bodyL false turn w)).length ≤ 10 + 2 * w.length := by
              unfold pieceL at hpl
              rw [hq, List.length_append] at hpl
              omega
            have hX' := hX
            rw [List.length_append] at hX'
            refine bin_cat (by rw [S_len, S_len]; omega) ?_
            rw [S_app]
            refine ibin_cat (by rw [S_len, S_len]; omega) ?_
            rw [S_app]
            refine xs_cons (r_aug (by rfl) (by rfl) ?_)
            refine Ev.mono (Q := fun v H''' => v = .str (S (endL ws.length turn i qd)) ∧ H''' = H'') ?_ ?_
            · refine ev_ifexp (tr_cmp (r_name (by rfl) (by rfl) (by rfl) (ev_bin (ev_callB "len" (by decide +kernel) (by rfl) (es_cons (r_name (by rfl) (by rfl) (by rfl) (es_nil (callv_lenL (.of _) (by simp; omega) ?_))))))))
              refine ev_int (bin_sub (cmp_eq ?_))
              rw [List.length_map]
              refine ⟨fun e => ?_, fun e => ?_⟩
              · have hE : endL ws.length turn i qd = [92] := by unfold endL; rw [if_pos (show (i : Int) = ws.length - 1 by simpa using e)]
                rw [hE]
                exact r_str [92] (by decide +kernel) ⟨rfl, rfl⟩
              · have hE : endL ws.length turn i qd = if qd then [34] else [wsAt (turn.fmod 4)] := by unfold endL; rw [if_neg (show ¬ (i : Int) = ws.length - 1 by simpa using e)]
                rw [hE]
                refine ev_ifexp (tr_val (r_name (by rfl) (by rfl) (by rfl) (tru_bool ?_)))
                cases qd with
                | true => exact ⟨fun _ => r_str [34] (by decide +kernel) ⟨rfl, rfl⟩, fun e => (by cases e)⟩
                | false =>
                  refine ⟨fun e => (by cases e), fun _ => ?_⟩
                  refine ev_sub (r_str wsL (by decide +kernel) ?_)
                  refine ev_bin (r_name (by rfl) (by rfl) (by rfl) (ev_int (bin_mod (by decide) ?_)))
                  refine itm_str g1 g2 ?_
                  rw [g3]
                  exact ⟨rfl, rfl⟩
            rintro v H''' ⟨rfl, rfl⟩
            have hend : (endL ws.length turn i qd).length ≤ 1 := by
              unfold endL
              split
              · simp
              · split <;> simp
            refine ibin_cat (by rw [S_len, S_len, List.length_append]; omega) ?_
            rw [S_app]
            refine xs_nil ⟨_, ⟨i + 1, ws', rfl, hfo, ?_, by omega, fun w hw => hw' w (.tail _ hw)⟩, ⟨?_, by rfl, by rfl, trivial⟩, rfl⟩
            · rw [List.length_append]; omega
            · have hasc : (acc ++ (List.replicate (turn.fmod 3).toNat (wsAt ((turn + i).fmod 4)) ++ (if qd = true then 34 :: bodyL true turn w else bodyL false turn w))) ++ endL ws.length turn i qd = acc ++ pieceL ws.length turn i w := by
                unfold pieceL
                rw [hq]
                simp only [List.append_assoc]
              rw [← hasc]
              rfl
        · exact ⟨by rfl, by rfl, by rfl, by rfl, by rfl, by rfl, by rfl, trivial⟩
  · rintro acc ⟨i, ws', e, hfo, _⟩ ρ' hs'
    cases ws' with
    | cons c L' => cases e
    | nil =>
      have : acc = textL figs ws := hfo
      subst this
      refine (xs_cons (ex_return (r_name (by rfl) (v := .str (S (textL figs ws))) (by rfl) (by rfl) ?_)) : Xs C d (fnSc (namesOf (stmtAt 65))) [("text", .str (S (textL figs ws))), ("words", .list (ws.map fun w => .str (S w))), ("figures", .list (figs.map .int))] _ H _).weaken hs'.get
      exact q
  · exact ⟨by rfl, by rfl, by rfl, trivial⟩
end Mine
end PartL6

section PartL7
open PySem PySem.W PySem.Calls PyProof.Rows
set_option maxRecDepth 100000
set_option linter.unusedVariables false
namespace Mine
variable {C : Cx} {d : Nat} {sc : Sc} {ρ : Vars} {H : Store}

noncomputable def lamSc : Sc := ⟨lamScope.names, []⟩
noncomputable def chars (cs : List Nat) : List V := cs.map fun c => V.str (S [c])
theorem lam_ok {lk : Nat} {cs : List Nat} {Q : V → Store → Prop} (hl : cs.length ≤ 90000) (hk : H.lookup lk = some (.list (chars cs.reverse)))
    (q : ∀ H', (∀ j, j ≠ lk → H'.lookup j = H.lookup j) → H'.lookup lk = some (.list (chars (cs.drop 1).reverse)) → Q (.str (S (cs.take 1))) H') :
    Ev C d lamSc [("size", .int 1), ("left", .own lk)] lamBody H Q := by
  refine ev_meth1 PySem.F.plainAttrs_str PySem.F.slot_str_join PySem.F.type_str_join (r_str [] (by decide +kernel) ⟨.str _, es_cons ?_⟩)
  refine ev_comp (scopeB_ok (by rfl) (by rfl)) rfl (storesB_ok (by rfl)) rfl ?_
  refine src_range (by rfl) ?_
  refine ev_callB "min" (by decide +kernel) (by rfl) (es_cons (r_name (by rfl) (by rfl) (by rfl) (es_cons ?_)))
  refine ev_callB "len" (by decide +kernel) (by rfl) (es_cons (r_name (by rfl) (by rfl) (by rfl) (es_nil ?_)))
  refine callv_lenL (.own hk) (by simp [chars]; omega) (es_nil (callv_min ?_))
  cases cs with
  | nil =>
    refine ⟨0, by rfl, by omega, ⟨trivial, es_nil (callv_join (ys := []) (.of _) (by decide) ?_)⟩⟩
    exact q H (fun _ _ => rfl) hk
  | cons c r =>
    refine ⟨1, ?_, by omega, ⟨trivial, tests_nil ⟨fun _ => ?_, fun e => by cases e⟩⟩⟩
    · have : (chars (c :: r).reverse).length = r.length + 1 := by simp [chars]
      rw [this, if_neg (by omega)]; rfl
    · refine ev_meth0 PySem.F.plainAttrs_list PySem.F.slot_list_pop PySem.F.type_list_pop (r_name (by rfl) (by rfl) (by rfl) ⟨.list (.own hk), callv_pop (xs := chars r.reverse) (x := .str (S [c])) ?_ ?_ ?_⟩)
      · rw [hk]; simp [chars]
      · simp only [chars, List.length_map, List.length_reverse, List.length_cons] at hl ⊢; omega
      · refine ⟨by simp, trivial, es_nil (callv_join (ys := [S [c]]) (.of _) (by simp only [List.map_cons, List.map_nil, List.sum_cons, List.sum_nil, S_len, List.length_cons, List.length_nil]; omega) ?_)⟩
        refine q _ (fun j hj => by rw [lookup_upd, if_neg hj]) (by rw [lookup_upd, if_pos rfl]; rfl)

noncomputable def clsBody : List Stmt := match stmtAt 56 with
  | .ClassDef _ _ _ b _ _ _ _ _ _ _ => b
  | _ => []
noncomputable def mthAt (i : Nat) : Stmt := clsBody.getD i (.Pass ⟨0, 0, 0, 0⟩)
noncomputable def wsV : V := .str (S [10, 9, 13, 32])
noncomputable def lexA (line : Int) : List (Str × V) := [("lineno", .int line), ("instream", .own 21), ("whitespace", wsV), ("pushback", .own 22)]
noncomputable def strmA : List (Str × V) := [("lineno", .int 1), ("instream", .none), ("whitespace", wsV), ("pushback", .own 23), ("read", .own 25)]
noncomputable def nlc (cs : List Nat) : Int := (cs.count 10 : Nat)
/-- the lexer as it stands: its line, and what is left of the text -/
structure Lx (H : Store) (line : Int) (cs : List Nat) : Prop where
  lex : H.lookup 20 = some (.inst (lexA line))
  stm : H.lookup 21 = some (.inst strmA)
  left : H.lookup 24 = some (.list (chars cs.reverse))
  lam : H.lookup 25 = some (.lam (.own 24))
noncomputable def Fr2 (H H' : Store) : Prop := ∀ j, j ≠ 20 → j ≠ 24 → H'.lookup j = H.lookup j

structure Env0 (C : Cx) (N : Addr) (mN : Str → Option Value) : Prop where
  cls : Cls C N mN
  lamF : ∀ fd, C.lamFd fd → LamFd fd
  rd : ∃ o fd, mN "_read_char" = some (.ref C.readF) ∧ C.B.get? C.readF = some o ∧ o.cls = .type "function" ∧ o.data = .func fd ∧ FdOk C fd ["self"] (namesOf (mthAt 1)) (bodyOf (mthAt 1))

set_option maxHeartbeats 4000000 in
theorem rd_ok {N mN} (X : Env0 C N mN) {line : Int} {cs : List Nat} {Q : V → Store → Prop} (hl : cs.length ≤ 90000) (L : Lx H line cs)
    (q : ∀ H', Lx H' (line + nlc (cs.take 1)) (cs.drop 1) → Fr2 H H' → Q (.str (S (cs.take 1))) H') :
    Xs C (d + 1) (fnSc (namesOf (mthAt 1))) [("self", .own 20)] (bodyOf (mthAt 1)) H (Returns Q) := by
  refine xs_cons (r_assign (by rfl) (by intro _ _; rfl) ?_)
  refine ev_methL X.cls X.lamF (by decide) _ (fun _ => rfl) ?_
  refine ev_attr X.cls (by decide) (r_name (by rfl) (by rfl) (by rfl) ?_) (fun _ => rfl)
  refine ⟨20, _, _, rfl, L.lex, by rfl, 21, _, 25, .own 24, rfl, L.stm, by rfl, L.lam, lam_ok hl L.left fun H₁ f1 f2 => ?_⟩
  have L1 : Lx H₁ line (cs.drop 1) := ⟨by rw [f1 20 (by decide)]; exact L.lex, by rw [f1 21 (by decide)]; exact L.stm, f2, by rw [f1 25 (by decide)]; exact L.lam⟩
  refine xs_cons (ex_if (tr_cmp (r_name (by rfl) (by rfl) (by rfl) (r_str [10] (by decide +kernel) (cmp_eqs ?_)))))
  rw [S_beq]
  have fin : ∀ H₂, Lx H₂ (line + nlc (cs.take 1)) (cs.drop 1) → Fr2 H H₂ → Xs C (d + 1) (fnSc (namesOf (mthAt 1))) [("self", .own 20), ("ch", .str (S (cs.take 1)))] ((bodyOf (mthAt 1)).drop 2) H₂ (Returns Q) := fun H₂ g1 g2 => by
    refine xs_cons (ex_return (r_name (by rfl) (by rfl) (by rfl) ?_))
    exact q H₂ g1 g2
  refine ⟨fun e => ?_, fun e => ?_⟩
  · have e : cs.take 1 = [10] := by simpa using e
    refine xs_cons (ex_augattr X.cls (by decide) (r_name (by rfl) (by rfl) (by rfl) ⟨20, _, _, rfl, L1.lex, by rfl, (show 4 ≤ 1000 by decide), ev_int (ibin_add ⟨L1.lex, ?_⟩)⟩))
    refine xs_nil (fin _ ⟨?_, ?_, ?_, ?_⟩ ?_)
    · rw [lookup_upd, if_pos rfl, e]; rfl
    · rw [lookup_upd, if_neg (by decide)]; exact L1.stm
    · rw [lookup_upd, if_neg (by decide)]; exact L1.left
    · rw [lookup_upd, if_neg (by decide)]; exact L1.lam
    · intro j h1 h2; rw [lookup_upd, if_neg h1, f1 j h2]
  · have e : cs.take 1 ≠ [10] := by simpa using e
    have e0 : nlc (cs.take 1) = 0 := by
      cases cs with
      | nil => rfl
      | cons c r =>
        have hc : c ≠ 10 := fun h => e (by rw [h]; rfl)
        simp [nlc, hc]
    rw [e0, Int.add_zero] at fin
    exact xs_nil (fin _ L1 fun j h1 h2 => f1 j h2)
end Mine
end PartL7

section PartL8
open PySem PySem.W PySem.Calls PyProof.Rows
set_option maxRecDepth 100000
set_option linter.unusedVariables false
namespace Mine
variable {C : Cx} {d : Nat} {sc : Sc} {ρ : Vars} {H : Store}

noncomputable def isWs (c : Nat) : Bool := decide (c ∈ [10, 9, 13, 32])
noncomputable def scan (stop : Nat → Bool) : List Nat → List Nat → List Nat × List Nat
  | tok, [] => (tok, [])
  | tok, [c] => if stop c then (tok, []) else if c = 92 then (tok, []) else (tok ++ [c], [])
  | tok, c :: e :: r => if stop c then (tok, e :: r) else if c = 92 then scan stop (tok ++ [e]) r else scan stop (tok ++ [c]) (e :: r)
theorem scan_nil (stop tok) : scan stop tok [] = (tok, []) := by simp [scan]
theorem scan_stop {stop : Nat → Bool} {c : Nat} (h : stop c = true) (tok r) : scan stop tok (c :: r) = (tok, r) := by cases r <;> simp [scan, h]
theorem scan_esc {stop : Nat → Bool} (h : stop 92 = false) (tok r) : scan stop tok (92 :: r) = scan stop (tok ++ r.take 1) (r.drop 1) := by cases r <;> simp [scan, h]
theorem scan_go {stop : Nat → Bool} {c : Nat} (h : stop c = false) (hc : c ≠ 92) (tok r) : scan stop tok (c :: r) = scan stop (tok ++ [c]) r := by cases r <;> simp [scan, h, hc]

theorem nlc_step (cs : List Nat) : nlc cs = nlc (cs.take 1) + nlc (cs.drop 1) := by
  unfold nlc
  conv => lhs; rw [← List.take_append_drop 1 cs]
  rw [List.count_append]; omega

structure GS (H₀ : Store) (key : Nat) (H : Store) (tot : Int) (cs : List Nat) (e : Bool) : Prop where
  lx : Lx H (tot - nlc cs) cs
  it : H.lookup key = some (.fit 20 e)
  fr : ∀ j, j ≠ 20 → j ≠ 24 → j ≠ key → H.lookup j = H₀.lookup j
structure KeyOk (key : Nat) : Prop where
  a : key ≠ 20
  b : key ≠ 21
  c : key ≠ 24
  d : key ≠ 25
  e : key ≠ 22
theorem GS.read {H₀ key H tot cs e H'} (k : KeyOk key) (g : GS H₀ key H tot cs e) (L : Lx H' (tot - nlc cs + nlc (cs.take 1)) (cs.drop 1)) (f : Fr2 H H') : GS H₀ key H' tot (cs.drop 1) e := by
  have : tot - nlc cs + nlc (cs.take 1) = tot - nlc (cs.drop 1) := by have := nlc_step cs; omega
  rw [this] at L
  exact ⟨L, by rw [f key k.a k.c]; exact g.it, fun j h1 h2 h3 => by rw [f j h1 h2]; exact g.fr j h1 h2 h3⟩
theorem GS.ended {H₀ key H tot cs e} (k : KeyOk key) (g : GS H₀ key H tot cs e) : GS H₀ key (upd key (.fit 20 true) H) tot cs true := by
  have o : ∀ j, j ≠ key → (upd key (.fit 20 true) H).lookup j = H.lookup j := fun j hj => by rw [lookup_upd, if_neg hj]
  refine ⟨⟨?_, ?_, ?_, ?_⟩, by rw [lookup_upd, if_pos rfl], fun j h1 h2 h3 => by rw [o j h3]; exact g.fr j h1 h2 h3⟩
  · rw [o _ k.a.symm]; exact g.lx.lex
  · rw [o _ k.b.symm]; exact g.lx.stm
  · rw [o _ k.c.symm]; exact g.lx.left
  · rw [o _ k.d.symm]; exact g.lx.lam

noncomputable def gSc : Sc := fnSc (namesOf (mthAt 2))
noncomputable def gV (tok : List Nat) (key : Nat) : Vars := [("token", .str (S tok)), ("self", .own 20), ("fiter", .own key)]

theorem Env0.meth {N mN} (X : Env0 C N mN) : Meth C mN "_read_char" ["self"] (namesOf (mthAt 1)) (bodyOf (mthAt 1)) := by
  obtain ⟨o, fd, h1, h2, h3, h4, h5⟩ := X.rd
  exact ⟨_, o, fd, h1, h2, h3, h4, h5⟩
theorem sig1 : Sig ["self"] (namesOf (mthAt 1)) := ⟨nodupB_ok (by rfl), nodupB_ok (by rfl), fun x hx => by cases List.mem_singleton.mp hx; exact .inl (by rfl)⟩

noncomputable def ReadEq (p1 p2 p3 : Pos) : Prop := ∃ pl : Env → Sem Bool, ∀ env, eval (.Call (.Attribute (.Name "self" p1) "_read_char" p2) [] [] p3) env = (do
      let ov ← eval (.Name "self" p1) env
      standAt p2.atName
      let (f, first) ← holding [ov] (getMethod ov "_read_char" (pl env))
      callWith p3 f first (backTo p3 (starEach [] env)) [])
/-- self._read_char() -/
theorem ev_read {N mN} (X : Env0 C N mN) {H₀ key tot cs e p1 p2 p3 Q} (re : ReadEq p1 p2 p3) (k : KeyOk key) (hl : cs.length ≤ 90000) (g : GS H₀ key H tot cs e) (hk : nameB sc "self" = true) (hv : ρ.lookup ("self" : Str) = some (V.own 20))
    (q : ∀ H', GS H₀ key H' tot (cs.drop 1) e → Q (.str (S (cs.take 1))) H') : Ev C (d + 2) sc ρ (.Call (.Attribute (.Name "self" p1) "_read_char" p2) [] [] p3) H Q := by
  obtain ⟨pl, he⟩ := re
  refine ev_methI0 X.cls X.meth sig1 no_get_object pl he (r_name hk hv (by rfl) ⟨20, _, rfl, g.lx.lex, by rfl, rfl, ?_⟩)
  exact rd_ok X hl g.lx fun H' L f => q H' (g.read k L f)

set_option maxHeartbeats 4000000 in
theorem inner_body {N mN} (X : Env0 C N mN) {H₀ key tot tst p1 p2 p3 p4 p5 p6 p7 p8 p9 p10 p11 p12 q1 q2 q3 k1 Q} (re : ReadEq p7 p8 p9) (k : KeyOk key) {stop : Nat → Bool} {c : Nat} {tok r : List Nat} (hl : tok.length + r.length ≤ 80000) (g : GS H₀ key H tot r false)
    (htst : Tr C (d + 3) gSc (put "ch" (.str (S [c])) (gV tok key)) tst H (fun b H' => b = stop c ∧ H' = H)) (h92 : stop 92 = false)
    (h1 : stop c = true → ∀ ρ', Q (.ret (.str (S tok))) ρ' H)
    (h2 : stop c = false → c = 92 → ∀ H' ρ', GS H₀ key H' tot (r.drop 1) false → Sub (gV (tok ++ r.take 1) key) ρ' → Q .next ρ' H')
    (h3 : stop c = false → c ≠ 92 → ∀ ρ', Sub (gV (tok ++ [c]) key) ρ' → Q .next ρ' H) :
    Xs C (d + 3) gSc (put "ch" (.str (S [c])) (gV tok key))
      [.If tst [.Return (some (.Name "token" p1)) p2] [.If (.Compare (.Name "ch" p3) [.Eq] [.Constant (.str "\\") k1 p4] p5) [.Assign [.Name "ch" p6] (.Call (.Attribute (.Name "self" p7) "_read_char" p8) [] [] p9) p10] [] p11] p12, .AugAssign (.Name "token" q1) .Add (.Name "ch" q2) q3] H Q := by
  refine xs_cons (ex_if (htst.mono ?_))
  rintro b H' ⟨rfl, rfl⟩
  refine ⟨fun hs => ?_, fun hs => ?_⟩
  · exact xs_cons (ex_return (r_name (by rfl) (by rfl) (by rfl) (h1 hs _)))
  · refine xs_cons (ex_if (tr_cmp (r_name (by rfl) (by rfl) (by rfl) (r_str [92] (by decide +kernel) (cmp_eqs ?_)))))
    rw [S_beq]
    refine ⟨fun hc => ?_, fun hc => ?_⟩
    · have hc : c = 92 := by simpa using hc
      refine xs_cons (r_assign (by rfl) (by intro _ _; rfl) (ev_read X re k (by omega) g (by rfl) (by rfl) fun H₁ g₁ => ?_))
      refine xs_nil (xs_nil (xs_cons (r_aug (by rfl) (by rfl) (r_name (by rfl) (by rfl) (by rfl) (ibin_cat ?_ ?_)))))
      · rw [S_len, S_len]; have : (r.take 1).length ≤ 1 := by simp [List.length_take]; omega
        omega
      · rw [S_app]
        exact xs_nil (h2 hs hc _ _ g₁ ⟨by rfl, by rfl, by rfl, trivial⟩)
    · have hc : c ≠ 92 := by simpa using hc
      refine xs_nil (xs_nil (xs_cons (r_aug (by rfl) (by rfl) (r_name (by rfl) (by rfl) (by rfl) (ibin_cat ?_ ?_)))))
      · rw [S_len, S_len]; simp; omega
      · rw [S_app]
        exact xs_nil (h3 hs hc _ ⟨by rfl, by rfl, by rfl, trivial⟩)
set_option maxHeartbeats 4000000 in
theorem inner_for {N mN} (X : Env0 C N mN) {H₀ key tot tst p1 p2 p3 p4 p5 p6 p7 p8 p9 p10 p11 p12 q1 q2 q3 a1 a2 a3 k1 Q} (re : ReadEq p7 p8 p9) (k : KeyOk key) {stop : Nat → Bool} {tok cs : List Nat} (hl : tok.length + cs.length ≤ 80000) (g : GS H₀ key H tot cs false)
    (htst : ∀ c tok H' cs', GS H₀ key H' tot cs' false → Tr C (d + 3) gSc (put "ch" (.str (S [c])) (gV tok key)) tst H' (fun b H'' => b = stop c ∧ H'' = H')) (h92 : stop 92 = false)
    (h1 : ∀ H' ρ', GS H₀ key H' tot (scan stop tok cs).2 false → Q (.ret (.str (S (scan stop tok cs).1))) ρ' H')
    (h2 : ∀ H' ρ', (scan stop tok cs).2 = [] → GS H₀ key H' tot [] true → Sub (gV (scan stop tok cs).1 key) ρ' → Q .next ρ' H') :
    Ex C (d + 3) gSc (gV tok key) (.For (.Name "ch" a1) (.Name "fiter" a2)
      [.If tst [.Return (some (.Name "token" p1)) p2] [.If (.Compare (.Name "ch" p3) [.Eq] [.Constant (.str "\\") k1 p4] p5) [.Assign [.Name "ch" p6] (.Call (.Attribute (.Name "self" p7) "_read_char" p8) [] [] p9) p10] [] p11] p12, .AugAssign (.Name "token" q1) .Add (.Name "ch" q2) q3] [] a3) H Q := by
  obtain ⟨of, fd, _, hof, _, hfd, hok⟩ := X.rd
  refine ex_forFit hof hfd hok sig1 key 20 (storesB_ok (by rfl)) (fun n ρ H => ∃ tok' cs', n = cs'.length ∧ scan stop tok' cs' = scan stop tok cs ∧ tok'.length + cs'.length ≤ 80000 ∧ Sub (gV tok' key) ρ ∧ GS H₀ key H tot cs' false)
    (r_name (by rfl) (by rfl) (by rfl) ⟨rfl, ⟨_, g.it⟩, cs.length, tok, cs, rfl, rfl, hl, ⟨by rfl, by rfl, by rfl, trivial⟩, g⟩) ?_
  rintro n ρ H' ⟨tok', cs', rfl, hsc, hl', hs, g'⟩
  refine .inr ⟨g'.it, rd_ok X (by omega) g'.lx fun H₁ L f => ?_⟩
  have g₁ := g'.read k L f
  refine ⟨_, rfl, g₁.it, fun hne => ?_, fun he => ?_⟩
  · cases cs' with
    | nil => exact absurd rfl hne
    | cons c r =>
      simp only [List.length_cons] at hl'
      refine Xs.weaken ?_ hs.put
      refine inner_body X re k (r := r) (c := c) (stop := stop) (by omega) g₁ (htst c tok' H₁ _ g₁) h92 (fun e ρ' => ?_) (fun e hc H₂ ρ' g₂ hs₂ => ?_) (fun e hc ρ' hs₂ => ?_)
      · have : scan stop tok cs = (tok', r) := by rw [← hsc, scan_stop e]
        have := h1 H₁ ρ' (by rw [this]; exact g₁)
        rwa [show (scan stop tok cs).1 = tok' by rw [← hsc, scan_stop e]] at this
      · subst hc
        refine ⟨(r.drop 1).length, ?_, _, _, rfl, ?_, ?_, hs₂, g₂⟩
        · simp only [List.length_cons, List.length_drop]; omega
        · rw [← hsc, scan_esc h92]
        · simp only [List.length_append, List.length_take, List.length_drop]; omega
      · refine ⟨r.length, ?_, _, _, rfl, ?_, ?_, hs₂, g₁⟩
        · simp only [List.length_cons]; omega
        · rw [← hsc, scan_go e hc]
        · simp only [List.length_append, List.length_cons, List.length_nil]; omega
  · cases cs' with
    | cons c r =>
      have : (S (List.take 1 (c :: r))).cps.size = Str.empty.cps.size := by rw [he]
      cases this
    | nil =>
      rw [scan_nil] at hsc
      exact h2 _ ρ (by rw [← hsc]) (g₁.ended k) (by rw [← hsc]; exact hs)
end Mine
end PartL8

section PartL9
open PySem PySem.W PySem.Calls PyProof.Rows
set_option maxRecDepth 100000
set_option linter.unusedVariables false
namespace Mine
variable {C : Cx} {d : Nat} {sc : Sc} {ρ : Vars} {H : Store}

noncomputable def lexTok : List Nat → List Nat × List Nat
  | [] => ([], [])
  | c :: r => if isWs c then lexTok r else if c = 34 then scan (· == 34) [] r else if c = 92 then scan isWs (r.take 1) (r.drop 1) else scan isWs [c] r

theorem ws_tst {N mN} (X : Env0 C N mN) {H₀ key tot cs e p1 p2 p3 p4 tok} {c : Nat} (g : GS H₀ key H tot cs e) :
    Tr C (d + 3) gSc (put "ch" (.str (S [c])) (gV tok key)) (.Compare (.Name "ch" p1) [.In] [.Attribute (.Name "self" p2) "whitespace" p3] p4) H (fun b H' => b = isWs c ∧ H' = H) := by
  refine tr_cmp (r_name (by rfl) (by rfl) (by rfl) (ev_attr X.cls (by decide) (r_name (by rfl) (by rfl) (by rfl) ⟨20, _, _, rfl, g.lx.lex, by rfl, cmp_ins ?_⟩) (fun _ => rfl)))
  rw [contains_S]
  exact ⟨rfl, rfl⟩
theorem qt_tst {key p1 p2 p3 k1 tok} {c : Nat} :
    Tr C (d + 3) gSc (put "ch" (.str (S [c])) (gV tok key)) (.Compare (.Name "ch" p1) [.Eq] [.Constant (.str "\"") k1 p2] p3) H (fun b H' => b = (c == 34) ∧ H' = H) := by
  refine tr_cmp (r_name (by rfl) (by rfl) (by rfl) (r_str [34] (by decide +kernel) (cmp_eqs ?_)))
  rw [S_beq]
  exact ⟨by simp [Bool.beq_eq_decide_eq], rfl⟩

set_option maxHeartbeats 8000000 in
theorem get_scan {N mN} (X : Env0 C N mN) {line : Int} {cs : List Nat} {key : Nat} {Q : V → Store → Prop} (k : KeyOk key) (hl : cs.length ≤ 80000) (L : Lx H line cs) (h22 : H.lookup 22 = some (.list [])) (hkey : (H.lookup key).isSome = false)
    (q : ∀ H', Lx H' (line + nlc cs - nlc (lexTok cs).2) (lexTok cs).2 → (∀ j, j ≠ 20 → j ≠ 24 → j ≠ key → H'.lookup j = H.lookup j) → Q (.str (S (lexTok cs).1)) H') :
    Xs C (d + 3) gSc [("self", .own 20)] (bodyOf (mthAt 2)) H (Returns Q) := by
  refine xs_cons (ex_if (tr_val ?_))
  refine ev_attr X.cls (by decide) (r_name (by rfl) (by rfl) (by rfl) ⟨20, _, _, rfl, L.lex, by rfl, tru_list (.own h22) (by simp) ⟨(fun e => by cases e), fun _ => xs_nil ?_⟩⟩) (fun _ => rfl)
  refine xs_cons (r_assign (by rfl) (by intro _ _; rfl) (r_str [] (by decide +kernel) ?_))
  obtain ⟨of, fd, hmr, hof, hfc, hfd, hok⟩ := X.rd
  refine xs_cons (r_assign (by rfl) (by intro _ _; rfl) (ev_iterM X.cls hmr hof hfc key (by rfl) (by rfl) (r_name (by rfl) (by rfl) (by rfl) ⟨20, _, rfl, L.lex, by rfl, hkey, ?_⟩) (fun _ => rfl)))
  have g0 : GS H key ((key, .fit 20 false) :: H) (line + nlc cs) cs false := by
    have o : ∀ j, j ≠ key → (((key, OV.fit 20 false) :: H : Store)).lookup j = H.lookup j := fun j hj => by rw [List.lookup_cons, show (j == key) = false from by simpa using hj]
    refine ⟨⟨?_, ?_, ?_, ?_⟩, by rw [List.lookup_cons, beq_self_eq_true], fun j _ _ hj => o j hj⟩
    · rw [o _ k.a.symm, L.lex]; congr 3; omega
    · rw [o _ k.b.symm]; exact L.stm
    · rw [o _ k.c.symm]; exact L.left
    · rw [o _ k.d.symm]; exact L.lam
  have fin : ∀ H' ρ', (lexTok cs).2 = [] → GS H key H' (line + nlc cs) [] true → Sub (gV (lexTok cs).1 key) ρ' → Xs C (d + 3) gSc ρ' ((bodyOf (mthAt 2)).drop 4) H' (Returns Q) := fun H' ρ' e g hs => by
    refine Xs.weaken ?_ hs.get
    refine xs_cons (ex_return (r_name (by rfl) (by rfl) (by rfl) (q H' ?_ g.fr)))
    rw [e]; exact g.lx
  have retQ : ∀ H' ρ' tok r, GS H key H' (line + nlc cs) r false → lexTok cs = (tok, r) → Returns Q (.ret (.str (S tok))) ρ' H' := fun H' ρ' tok r g e => by
    have := q H' (by rw [e]; exact g.lx) g.fr
    rwa [e] at this
  have tk1 : ∀ r : List Nat, (r.take 1).length + (r.drop 1).length = r.length := fun r => by rw [← List.length_append, List.take_append_drop]
  refine xs_cons ?_
  refine ex_forFit hof hfd hok sig1 key 20 (storesB_ok (by rfl)) (fun n ρ H' => (∃ cs', n = cs'.length + 1 ∧ lexTok cs' = lexTok cs ∧ cs'.length ≤ 80000 ∧ Sub (gV [] key) ρ ∧ GS H key H' (line + nlc cs) cs' false) ∨
      (n = 0 ∧ (lexTok cs).2 = [] ∧ Sub (gV (lexTok cs).1 key) ρ ∧ GS H key H' (line + nlc cs) [] true)) (r_name (by rfl) (by rfl) (by rfl) ⟨rfl, ⟨_, g0.it⟩, cs.length + 1, .inl ⟨cs, rfl, rfl, hl, ⟨by rfl, by rfl, by rfl, trivial⟩, g0⟩⟩) ?_
  rintro n ρ H' (⟨cs', rfl, hsc, hl', hs, g'⟩ | ⟨rfl, e, hs, g'⟩)
  · refine .inr ⟨g'.it, rd_ok X (by omega) g'.lx fun H₁ L₁ f => ?_⟩
    have g₁ := g'.read k L₁ f
    refine ⟨_, rfl, g₁.it, fun hne => ?_, fun he => ?_⟩
    · cases cs' with
      | nil => exact absurd rfl hne
      | cons c r =>
        simp only [List.length_cons] at hl'
        simp only [lexTok] at hsc
        refine Xs.weaken ?_ hs.put
        refine xs_cons (ex_if ((ws_tst X g₁).mono ?_))
        rintro b H₂ ⟨rfl, rfl⟩
        refine ⟨fun hw => ?_, fun hw => xs_nil ?_⟩
        · rw [if_pos hw] at hsc
          refine xs_cons (ex_cont ⟨r.length + 1, by simp, .inl ⟨r, rfl, hsc, by omega, ⟨by rfl, by rfl, by rfl, trivial⟩, g₁⟩⟩)
        · rw [if_neg (by rw [hw]; decide)] at hsc
          refine xs_cons (ex_if (qt_tst.mono ?_))
          rintro b H₂ ⟨rfl, rfl⟩
          refine ⟨fun hq => ?_, fun hq => ?_⟩
          · have hc : c = 34 := by simpa using hq
            rw [if_pos hc] at hsc
            refine Xs.weaken (ρ' := gV [] key) ?_ (Sub.get ⟨by rfl, by rfl, by rfl, trivial⟩)
            refine xs_cons (inner_for X ⟨_, fun _ => rfl⟩ k (stop := (· == 34)) (tok := []) (cs := r) (by simp; omega) g₁ (fun _ _ _ _ _ => qt_tst) (by decide) (fun H₃ ρ' g₃ => ?_) fun H₃ ρ' e g₃ hs₃ => xs_nil ?_)
            · exact retQ _ ρ' _ _ g₃ (by rw [← hsc])
            · rw [hsc] at e hs₃
              exact xs_nil ⟨0, by simp, .inr ⟨rfl, e, hs₃, g₃⟩⟩
          · have hc : c ≠ 34 := by simpa using hq
            rw [if_neg hc] at hsc
            have tail : ∀ H₂ tok r', tok.length + r'.length ≤ 80000 → GS H key H₂ (line + nlc cs) r' false → scan isWs tok r' = lexTok cs → ∀ ρ', Sub (gV tok key) ρ' →
                Xs C (d + 3) gSc ρ' [((((match (bodyOf (mthAt 2)).getD 3 (.Pass ⟨0, 0, 0, 0⟩) with | .For _ _ b _ _ => (match b.getD 1 (.Pass ⟨0, 0, 0, 0⟩) with | .If _ _ o _ => o | _ => []) | _ => []) : List Stmt).getD 2 (.Pass ⟨0, 0, 0, 0⟩)))] H₂
                  (fun f ρ' H'' => match f with
                    | .next | .cont => ∃ m, m < r.length + 1 + 1 ∧ ((∃ cs', m = cs'.length + 1 ∧ lexTok cs' = lexTok cs ∧ cs'.length ≤ 80000 ∧ Sub (gV [] key) ρ' ∧ GS H key H'' (line + nlc cs) cs' false) ∨
                        (m = 0 ∧ (lexTok cs).2 = [] ∧ Sub (gV (lexTok cs).1 key) ρ' ∧ GS H key H'' (line + nlc cs) [] true))
                    | .brk => Xs C (d + 3) gSc ρ' ((bodyOf (mthAt 2)).drop 4) H'' (Returns Q)
                    | .ret v => Returns Q (.ret v) ρ' H'') := fun H₂ tok r' hl₂ g₂ e₂ ρ' hs₂ => by
              refine Xs.weaken ?_ hs₂.get
              refine xs_cons (inner_for X ⟨_, fun _ => rfl⟩ k (stop := isWs) (tok := tok) (cs := r') hl₂ g₂ (fun _ _ _ _ g => ws_tst X g) (by decide) (fun H₃ ρ' g₃ => ?_) fun H₃ ρ' e g₃ hs₃ => xs_nil ?_)
              · exact retQ _ ρ' _ _ g₃ (by rw [← e₂])
              · rw [e₂] at e hs₃
                exact ⟨0, by simp, .inr ⟨rfl, e, hs₃, g₃⟩⟩
            refine xs_cons (ex_if (tr_cmp (r_name (by rfl) (by rfl) (by rfl) (r_str [92] (by decide +kernel) (cmp_eqs ?_)))))
            rw [S_beq]
            refine ⟨fun hb => ?_, fun hb => xs_nil ?_⟩
            · have hb : c = 92 := by simpa using hb
              rw [if_pos hb] at hsc
              refine xs_cons (r_assign (by rfl) (by intro _ _; rfl) (ev_read X ⟨_, fun _ => rfl⟩ k (by simp; omega) g₁ (by rfl) (by rfl) fun H₂ g₂ => ?_))
              refine xs_nil (xs_cons (r_aug (by rfl) (by rfl) (r_name (by rfl) (by rfl) (by rfl) (ibin_cat ?_ ?_))))
              · rw [S_len, S_len]; have := tk1 r; simp only [List.drop_one, List.tail_cons, List.length_nil]; omega
              · rw [S_app]
                refine (tail H₂ _ _ ?_ g₂ hsc _ ⟨by rfl, by rfl, by rfl, trivial⟩).mono ?_
                · have := tk1 r; show (r.take 1).length + (r.drop 1).length ≤ _; omega
                · rintro f ρ' H'' hf
                  cases f <;> first | exact xs_nil hf | exact hf
            · have hb : c ≠ 92 := by simpa using hb
              rw [if_neg hb] at hsc
              refine xs_cons (r_aug (by rfl) (by rfl) (r_name (by rfl) (by rfl) (by rfl) (ibin_cat ?_ ?_)))
              · rw [S_len, S_len]; simp
              · rw [S_app]
                refine (tail _ [c] _ ?_ g₁ hsc _ ⟨by rfl, by rfl, by rfl, trivial⟩).mono ?_
                · simp; omega
                · rintro f ρ' H'' hf
                  cases f <;> first | exact xs_nil hf | exact hf
    · cases cs' with
      | cons c r =>
        have : (S (List.take 1 (c :: r))).cps.size = Str.empty.cps.size := by rw [he]
        cases this
      | nil =>
        have e2 : (lexTok cs) = ([], []) := by rw [← hsc]; rfl
        exact fin _ ρ (by rw [e2]) (g₁.ended k) (by rw [e2]; exact hs)
  · exact .inl ⟨g'.it, fin _ ρ e g' hs⟩
end Mine
end PartL9

section PartL10
open PySem PySem.W PySem.Calls PyProof.Rows
set_option maxRecDepth 100000
set_option linter.unusedVariables false
namespace Mine
variable {C : Cx} {d : Nat} {sc : Sc} {ρ : Vars} {H : Store}

structure Env1 (C : Cx) (N : Addr) (mN : Str → Option Value) : Prop extends Env0 C N mN where
  gl : C.mg "_netrclex" = some (.ref C.lexC)
  init : Meth C mN "__init__" ["self", "fp"] (namesOf (mthAt 0)) (bodyOf (mthAt 0))
  get : Meth C mN "get_token" ["self"] (namesOf (mthAt 2)) (bodyOf (mthAt 2))
  push : Meth C mN "push_token" ["self", "token"] (namesOf (mthAt 3)) (bodyOf (mthAt 3))
theorem sig0 : Sig ["self", "fp"] (namesOf (mthAt 0)) := ⟨nodupB_ok (by rfl), nodupB_ok (by rfl), fun x hx => by
  rcases List.mem_cons.mp hx with rfl | hx
  · exact .inl (by rfl)
  · cases List.mem_singleton.mp hx; exact .inl (by rfl)⟩
theorem sig2 : Sig ["self"] (namesOf (mthAt 2)) := ⟨nodupB_ok (by rfl), nodupB_ok (by rfl), fun x hx => by cases List.mem_singleton.mp hx; exact .inl (by rfl)⟩
theorem sig3 : Sig ["self", "token"] (namesOf (mthAt 3)) := ⟨nodupB_ok (by rfl), nodupB_ok (by rfl), fun x hx => by
  rcases List.mem_cons.mp hx with rfl | hx
  · exact .inl (by rfl)
  · cases List.mem_singleton.mp hx; exact .inl (by rfl)⟩
theorem no_gt_object : typeLookup (.type "object") "get_token" = pure none := by rw [typeLookup_type, builtinLookup_eq_fast]; kernel_rfl
theorem no_pt_object : typeLookup (.type "object") "push_token" = pure none := by rw [typeLookup_type, builtinLookup_eq_fast]; kernel_rfl

theorem push_ok {N mN} (X : Env1 C N mN) {k p : Nat} {at_ : List (Str × V)} {xs : List V} {v : V} {Q : V → Store → Prop} (hk : H.lookup k = some (.inst at_)) (ha : at_.lookup ("pushback" : Str) = some (V.own p)) (hp : H.lookup p = some (.list xs)) (hl : xs.length ≤ 100000)
    (q : Q .none (upd p (.list (xs ++ [v])) H)) : Xs C d (fnSc (namesOf (mthAt 3))) [("self", .own k), ("token", v)] (bodyOf (mthAt 3)) H (Returns Q) := by
  refine xs_cons (ex_expr (ev_meth1 PySem.F.plainAttrs_list PySem.F.slot_list_append PySem.F.type_list_append (ev_attr X.cls (by decide) (r_name (by rfl) (by rfl) (by rfl) ⟨k, _, _, rfl, hk, ha, ?_⟩) (fun _ => rfl))))
  exact ⟨.list (.own hp), es_cons (r_name (by rfl) (by rfl) (by rfl) (es_nil (callv_append hp hl (xs_nil q))))⟩

theorem get_pend {N mN} (X : Env1 C N mN) {line : Int} {x : V} {xs : List V} {Q : V → Store → Prop} (hk : H.lookup 20 = some (.inst (lexA line))) (hp : H.lookup 22 = some (.list (x :: xs))) (hl : xs.length ≤ 99999)
    (q : Q x (upd 22 (.list xs) H)) : Xs C d (fnSc (namesOf (mthAt 2))) [("self", .own 20)] (bodyOf (mthAt 2)) H (Returns Q) := by
  refine xs_cons (ex_if (tr_val ?_))
  refine ev_attr X.cls (by decide) (r_name (by rfl) (by rfl) (by rfl) ⟨20, _, _, rfl, hk, by rfl, tru_list (.own hp) (by simp; omega) ⟨fun _ => ?_, (fun e => by cases e)⟩⟩) (fun _ => rfl)
  refine xs_cons (ex_return (ev_meth1 PySem.F.plainAttrs_list PySem.F.slot_list_pop PySem.F.type_list_pop (ev_attr X.cls (by decide) (r_name (by rfl) (by rfl) (by rfl) ⟨20, _, _, rfl, hk, by rfl, ?_⟩) (fun _ => rfl))))
  exact ⟨.list (.own hp), es_cons (ev_int (es_nil (callv_pop0 hp (by omega) q)))⟩

theorem init_ok {N mN} (X : Env1 C N mN) {k p : Nat} {v : V} {Q : V → Store → Prop} (hkp : p ≠ k) (hp : (H.lookup p).isSome = false)
    (q : ∀ H', H'.lookup k = some (.inst [("lineno", .int 1), ("instream", v), ("whitespace", wsV), ("pushback", .own p)]) → H'.lookup p = some (.list []) → (∀ j, j ≠ k → j ≠ p → H'.lookup j = H.lookup j) → Q .none H') :
    Xs C d (fnSc (namesOf (mthAt 0))) [("self", .own k), ("fp", v)] (bodyOf (mthAt 0)) ((k, .inst []) :: H) (Returns Q) := by
  have u : ∀ (a b : OV), upd k a ((k, b) :: H) = (k, a) :: H := fun a b => by unfold upd; rw [if_pos rfl]
  have l : ∀ (b : OV), ((k, b) :: H).lookup k = some b := fun b => by rw [List.lookup_cons, beq_self_eq_true]
  refine xs_cons (ex_setattr X.cls (by decide) (ev_int (r_name (by rfl) (by rfl) (by rfl) ⟨k, _, rfl, l _, (by decide), ?_⟩)))
  rw [u]
  refine xs_cons (ex_setattr X.cls (by decide) (r_name (by rfl) (by rfl) (by rfl) (r_name (by rfl) (by rfl) (by rfl) ⟨k, _, rfl, l _, (show 1 ≤ 1000 by decide), ?_⟩)))
  rw [u]
  refine xs_cons (ex_setattr X.cls (by decide) (r_str [10, 9, 13, 32] (by decide +kernel) (r_name (by rfl) (by rfl) (by rfl) ⟨k, _, rfl, l _, (show 2 ≤ 1000 by decide), ?_⟩)))
  rw [u]
  have hp' : ∀ b : OV, (((k, b) :: H).lookup p).isSome = false := fun b => by rw [List.lookup_cons, show (p == k) = false from by simpa using hkp]; exact hp
  have l2 : ∀ b : OV, ((p, OV.list []) :: (k, b) :: H).lookup k = some b := fun b => by rw [List.lookup_cons, show (k == p) = false from by simpa using hkp.symm]; exact l _
  refine xs_cons (ex_setattr X.cls (by decide) (ev_listO p (es_nil ⟨by simp, hp' _, r_name (by rfl) (by rfl) (by rfl) ⟨k, _, rfl, l2 _, (show 3 ≤ 1000 by decide), ?_⟩⟩)))
  refine xs_nil (q _ ?_ ?_ fun j h1 h2 => ?_)
  · rw [lookup_upd, if_pos rfl]; rfl
  · rw [lookup_upd, if_neg hkp, List.lookup_cons, beq_self_eq_true]
  · rw [lookup_upd, if_neg h1, List.lookup_cons, show (j == p) = false from by simpa using h2, List.lookup_cons, show (j == k) = false from by simpa using h1]
end Mine
end PartL10

section PartL11
open PySem PySem.W PySem.Calls PyProof.Rows
set_option maxRecDepth 100000
set_option linter.unusedVariables false
namespace Mine
variable {C : Cx} {d : Nat} {sc : Sc} {ρ : Vars} {H : Store}

noncomputable def lamPos : Pos := ((lamOf lamStmt).getD (default, .Constant .none 0 ⟨0, 0, 0, 0⟩, default, ⟨0, 0, 0, 0⟩)).2.2.2
theorem sig64 : Sig ["text"] (namesOf (stmtAt 64)) := ⟨nodupB_ok (by rfl), nodupB_ok (by rfl), fun x hx => by cases List.mem_singleton.mp hx; exact .inl (by rfl)⟩
noncomputable def lxSc : Sc := fnSc (namesOf (stmtAt 64))
theorem lk_ne {j k : Nat} {v : OV} (h : j ≠ k) : ((k, v) :: H).lookup j = H.lookup j := by rw [List.lookup_cons, show (j == k) = false from by simpa using h]

structure LR (H₀ H : Store) (cs : List Nat) : Prop where
  stm : H.lookup 21 = some (.inst [("lineno", .int 1), ("instream", .none), ("whitespace", wsV), ("pushback", .own 23)])
  left : H.lookup 24 = some (.list (chars cs.reverse))
  rest : ∀ j, j ≠ 21 → j ≠ 23 → j ≠ 24 → H.lookup j = H₀.lookup j

set_option maxHeartbeats 4000000 in
theorem lexer_code {N mN} (X : Env1 C N mN) {a : Addr} {o : Obj} {fd : FuncData} (hB : C.B.get? a = some o) (hdat : o.data = .func fd) (ok : FdOk C fd ["text"] (namesOf (stmtAt 64)) (bodyOf (stmtAt 64))) {ps : Array Value} (hT : TabOk C fd.code ps lamPos) (hLam : ∀ fd, LamFd fd → C.lamFd fd)
    (htk : H.lookup 30 = some (.raw (tabObj ps))) (hfree : ∀ j, 20 ≤ j → j ≤ 25 → (H.lookup j).isSome = false) {cs : List Nat} (hl : cs.length ≤ 80000) {Q : V → Store → Prop}
    (q : ∀ H', Lx H' 1 cs → H'.lookup 22 = some (.list []) → (∀ j, j < 20 ∨ 30 < j → H'.lookup j = H.lookup j) → (∃ ps', H'.lookup 30 = some (.raw (tabObj ps'))) → Q (.own 20) H') : CodeV C (d + 3) (.ref a) [.str (S cs)] H Q := by
  refine fn_codeG hB hdat ok sig64 rfl fun A E s s₁ env I O hA wf0 st₁ wf₁ hcode hfr hE => ?_
  rw [← hcode] at hT
  show wpAny C.M A (execs (bodyOf (stmtAt 64)) env) _ _ _
  refine ex_step (sc := lxSc) (R := fun ρ' H' => ρ' = ([("text", .str (S cs)), ("left", .own 24)] : Vars) ∧ H' = (24, .list (chars cs)) :: H) ?_ hA hE wf₁ st₁.nil fun I₂ O₂ H₂ ρ₂ s₂ st₂ wf₂ hE₂ ⟨e1, e2⟩ => ?_
  · refine r_assign (by rfl) (by intro _ _; rfl) ?_
    refine ev_callT "list" (by decide +kernel) (by rfl) (es_cons (r_name (by rfl) (by rfl) (by rfl) (es_nil (callv_listS 24 (by simp [S]; omega) (hfree 24 (by decide) (by decide)) ?_))))
    rw [S_signs]
    exact ⟨rfl, rfl, rfl⟩
  subst e1 e2
  refine ex_step (sc := lxSc) (R := fun ρ' H' => ρ' = ([("text", .str (S cs)), ("left", .own 24)] : Vars) ∧ H' = (24, .list (chars cs.reverse)) :: H) ?_ hA hE₂ wf₂ st₂ fun I₃ O₃ H₃ ρ₃ s₃ st₃ wf₃ hE₃ ⟨e1, e2⟩ => ?_
  · refine ex_expr (ev_meth0 PySem.F.plainAttrs_list PySem.F.slot_list_reverse PySem.F.type_list_reverse (r_name (by rfl) (by rfl) (by rfl) ⟨.list (.own (xs := chars cs) (by rfl)), callv_reverse (xs := chars cs) (by rfl) (by simp [chars]; omega) ⟨rfl, rfl, ?_⟩⟩))
    show (24, OV.list (chars cs).reverse) :: H = _
    rw [chars, chars, List.map_reverse]
  subst e1 e2
  refine ex_step (sc := lxSc) (R := fun ρ' H' => ρ' = ([("text", .str (S cs)), ("left", .own 24), ("stream", .own 21)] : Vars) ∧ LR H H' cs ∧ H'.lookup 23 = some (.list [])) ?_ hA hE₃ wf₃ st₃ fun I₄ O₄ H₄ ρ₄ s₄ st₄ wf₄ hE₄ ⟨e1, r4, hp4⟩ => ?_
  · refine r_assign (by rfl) (by intro _ _; rfl) ?_
    refine ev_callCls X.cls X.init sig0 21 X.gl (by rfl) (ev_none ⟨?_, ?_⟩)
    · rw [lk_ne (by decide)]; exact hfree 21 (by decide) (by decide)
    · refine init_ok X (p := 23) (by decide) ?_ fun H' h1 h2 h3 => ⟨rfl, rfl, rfl, ⟨h1, ?_, fun j g1 g2 g3 => ?_⟩, h2⟩
      · rw [lk_ne (by decide)]; exact hfree 23 (by decide) (by decide)
      · rw [h3 24 (by decide) (by decide)]; rfl
      · rw [h3 j g1 g2, lk_ne g3]
  subst e1
  refine ex_step (sc := lxSc) (R := fun ρ' H' => ρ' = ([("text", .str (S cs)), ("left", .own 24), ("stream", .own 21)] : Vars) ∧ LR H H' cs) ?_ hA hE₄ wf₄ st₄ fun I₅ O₅ H₅ ρ₅ s₅ st₅ wf₅ hE₅ ⟨e1, r5⟩ => ?_
  · refine ex_expr (ev_methI X.cls X.push sig3 no_pt_object _ (fun _ => rfl) (fun _ => rfl) (r_name (by rfl) (by rfl) (by rfl) ⟨21, _, rfl, r4.stm, by rfl, es_cons (r_str [63] (by decide +kernel) (es_nil ⟨rfl, ?_⟩))⟩))
    refine push_ok X r4.stm (by rfl) hp4 (by simp) ⟨rfl, rfl, ⟨?_, ?_, fun j g1 g2 g3 => ?_⟩⟩
    · rw [lookup_upd, if_neg (by decide)]; exact r4.stm
    · rw [lookup_upd, if_neg (by decide)]; exact r4.left
    · rw [lookup_upd, if_neg g2]; exact r4.rest j g1 g2 g3
  subst e1
  refine wpAny_execs_cons (plainObj_wpAny_Assign_Attribute ?_ (by rfl))
  refine make_lam (sc := lxSc) (d := d + 2) (ps := ps) 25 30 hA hE₅ wf₅ st₅ hfr hT ?_ ?_ (by decide) hLam (v := .own 24) (by rfl) (by rfl) (by decide) fun I₆ O₆ s₆ cf ps' st₆ wf₆ hE₆ rf => ?_
  · rw [r5.rest 30 (by decide) (by decide) (by decide)]; exact htk
  · rw [r5.rest 25 (by decide) (by decide) (by decide)]; exact hfree 25 (by decide) (by decide)
  have h6 : ∀ j, j ≠ 25 → j ≠ 30 → (((25, OV.lam (.own 24)) :: upd 30 (.raw (tabObj ps')) H₅ : Store)).lookup j = H₅.lookup j := fun j g1 g2 => by rw [lk_ne g1, lookup_upd, if_neg g2]
  have h25 : (((25, OV.lam (.own 24)) :: upd 30 (.raw (tabObj ps')) H₅ : Store)).lookup 25 = some (OV.lam (.own 24)) := rfl
  have h30 : (((25, OV.lam (.own 24)) :: upd 30 (.raw (tabObj ps')) H₅ : Store)).lookup 30 = some (.raw (tabObj ps')) := by rw [lk_ne (by decide), lookup_upd, if_pos rfl]
  generalize ((25, OV.lam (.own 24)) :: upd 30 (.raw (tabObj ps')) H₅ : Store) = H₆ at wf₆ h6 h25 h30
  refine wpAny_mono ((r_name (sc := ⟨lxSc.ns, []⟩) (ρ := [("text", .str (S cs)), ("left", .own 24), ("stream", .own 21)]) (Q := fun v H' => v = .own 21 ∧ H' = H₆) (by rfl) (by rfl) (by rfl) ⟨rfl, rfl⟩ : Ev C (d + 2) _ _ _ _ _) A _ s₆ env _ I₆ O₆ hA hE₆ wf₆) (fun cu s₇ ⟨I₇, O₇, H₇, u, st₇, wf₇, ru, qq⟩ => ?_) fun _ _ e => e
  obtain ⟨e1, e2⟩ := qq
  subst e1 e2
  refine set_attr X.cls (name := "read") (by decide) wf₇ (k := 21) (at_ := [("lineno", .int 1), ("instream", .none), ("whitespace", wsV), ("pushback", .own 23)]) (v := .own 25) ?_ ru (rf.mono st₇.sub st₇.oext) (show 4 ≤ 1000 by decide) fun s₈ st₈ wf₈ => ?_
  · rw [h6 21 (by decide) (by decide)]; exact r5.stm
  have hE₈ := hE₆.step (st₇.trans st₈)
  have stA := (st₆.trans (st₇.trans st₈).nil)
  refine wpAny_execs_cons ?_
  have Lr : ∀ j, j ≠ 21 → j ≠ 23 → j ≠ 24 → j ≠ 25 → j ≠ 30 → (upd 21 (OV.inst strmA) H₇).lookup j = H.lookup j := fun j g1 g2 g3 g4 g5 => by rw [lookup_upd, if_neg g1, h6 j g4 g5, r5.rest j g1 g2 g3]
  have body : Ex C (d + 2) ⟨lxSc.ns, []⟩ [("text", .str (S cs)), ("left", .own 24), ("stream", .own 21)] ((bodyOf (stmtAt 64)).getD 5 (.Pass ⟨0, 0, 0, 0⟩)) (upd 21 (OV.inst strmA) H₇) (fun f ρ' H' => ∃ v, f = .ret v ∧ Q v H') := by
    refine ex_return (ev_callCls X.cls X.init sig0 20 X.gl (by rfl) (r_name (by rfl) (by rfl) (by rfl) ⟨?_, ?_⟩))
    · rw [Lr 20 (by decide) (by decide) (by decide) (by decide) (by decide)]; exact hfree 20 (by decide) (by decide)
    · refine init_ok X (p := 22) (by decide) ?_ fun H' h1 h2 h3 => ⟨rfl, _, rfl, q H' ⟨h1, ?_, ?_, ?_⟩ h2 (fun j hj => ?_) ⟨ps', ?_⟩⟩
      · rw [Lr 22 (by decide) (by decide) (by decide) (by decide) (by decide)]; exact hfree 22 (by decide) (by decide)
      · rw [h3 21 (by decide) (by decide), lookup_upd, if_pos rfl]
      · rw [h3 24 (by decide) (by decide), lookup_upd, if_neg (by decide), h6 24 (by decide) (by decide)]; exact r5.left
      · rw [h3 25 (by decide) (by decide), lookup_upd, if_neg (by decide)]; exact h25
      · rw [h3 j (by omega) (by omega), Lr j (by omega) (by omega) (by omega) (by omega) (by omega)]
      · rw [h3 30 (by decide) (by decide), lookup_upd, if_neg (by decide)]; exact h30
  refine wpAny_mono (body A _ s₈ env [env.locals] I₇ O₇ hA hE₈ wf₈) (fun fl s₉ ⟨I₉, O₉, H₉, ρ₉, f, st₉, wf₉, hE₉, rf₉, qq⟩ => ?_) fun _ _ e => e
  obtain ⟨v, e, hQ⟩ := qq
  subst e
  cases rf₉ with
  | ret r => exact ⟨I₉, O₉, H₉, v, (stA.trans (st₉.wide (mem1 (.head _)))).shut hfr, wf₉, r, hQ⟩
end Mine
end PartL11

section PartL12
open PySem PySem.W PySem.Calls PyProof.Rows
set_option maxRecDepth 100000
set_option linter.unusedVariables false
namespace Mine
variable {C : Cx} {d : Nat} {sc : Sc} {ρ : Vars} {H : Store}

theorem compL2_map {α : Type} {x y : Str} {elt : Expr} {Q : List V → Store → Prop} (e1 e2 : α → V) (f : α → V) : ∀ (as : List α) (ys : List V), ys.length + as.length ≤ 100000 →
    (∀ a ∈ as, Ev C d sc (put y (e2 a) (put x (e1 a) ρ)) elt H fun z H' => z = f a ∧ H' = H) → Q (ys ++ as.map f) H → CompL2 C d sc ρ x y elt Q (as.map fun a => (e1 a, e2 a)) ys H
  | [], ys, _, _, q => by simpa [CompL2] using q
  | a :: as, ys, hl, h, q => by
    refine (h a (.head _)).mono fun z H' ⟨e, e'⟩ => ?_
    replace e' := e'.symm
    subst e e'
    refine ⟨by simp only [List.length_cons] at hl; omega, compL2_map e1 e2 f as _ (by simp only [List.length_cons, List.length_append, List.length_nil] at hl ⊢; omega) (fun a ha => h a (.tail _ ha)) ?_⟩
    simpa using q

noncomputable def fixedL : List Int := [312109744, 627826015, 51732138, 983703222, 148317645, 2135080]
noncomputable def cellsF (xs : List Int) : List Int := ((xs.take 6 ++ List.replicate 6 0).zip fixedL).map fun p : Int × Int => (p.1 + p.2).fmod 1000000000
noncomputable def figF (x : Int) : List Int := (List.range 9).map fun k => (x.fdiv (10 ^ k)).fmod 10
noncomputable def figsF (xs : List Int) : List (List Int) := (cellsF xs).map figF
noncomputable def besideL : List Nat := [172, 174, 846, 848, 6149, 6151, 6154, 6158, 8202, 8206, 8287, 8289, 65023, 65040, 65278, 65280]
noncomputable def quoL : List Nat := [34, 92, 35, 10, 9, 13, 11, 12]
noncomputable def f5 (F : List (List Int)) (i : Nat) : Int := (F.getD 5 []).getD i 0
noncomputable def namesF (F : List (List Int)) : List Nat := [102, 105, quoL.getD ((f5 F 0).fmod 8).toNat 0, besideL.getD ((f5 F 1 + 10 * f5 F 2).fmod 16).toNat 0]
noncomputable def lawB : List Stmt := bodyOf (stmtAt 70)
noncomputable def lawSc : Sc := fnSc (namesOf (stmtAt 70))
noncomputable def strsV (l : List (List Nat)) : V := .list (l.map fun w => .str (S w))
noncomputable def namesV (N : List Nat) : V := .list ((N.map fun c => S [c]).map .str)
noncomputable def figsV (F : List (List Int)) : V := .list (F.map fun d => .list (d.map .int))
noncomputable def opsV : V := .list ((opsL.map S).map .str)

theorem sw_comp {elt gens scope pos t tpos line} {env : Env} (h1 : env.scope.kind = .function) (h2 : env.scope.names = sc.ns) (hb : (sc.ns.lookup t == some .local && tpos.line == pos.line && !(scope.names.any fun (n, k) => n == t && (k == .local || k == .cell))) = true) :
    swapsWith (.ListComp elt gens scope pos) (some (.Name t tpos)) line env = pure true := by
  show (pure (env.blockKind == .function && env.kindOf t == some .local && tpos.line == pos.line && !(scope.names.any fun (n, k) => n == t && (k == .local || k == .cell))) : Sem Bool) = pure true
  unfold Env.blockKind Env.kindOf
  rw [h1, h2]
  exact congrArg pure hb
theorem slice_to (xs : List V) (n : Nat) : sliceV xs none (some (n : Int)) = xs.take n := by
  unfold sliceV kms_lo kms_hi
  simp only [List.drop_zero, Nat.sub_zero]
  rw [if_neg (by omega), Int.toNat_natCast]
  by_cases h : n ≤ xs.length
  · rw [Nat.min_eq_left h]
  · rw [Nat.min_eq_right (by omega), List.take_of_length_le (Nat.le_refl _), List.take_of_length_le (by omega)]
theorem law1 {xs : List Int} (hl : xs.length ≤ 63) {Q} (q : ∀ ρ', Sub [("cells", .list ((cellsF xs).map .int))] ρ' → Xs C (d + 1) lawSc ρ' (lawB.drop 2) H Q) :
    Xs C (d + 1) lawSc [("script", .list (xs.map .int))] lawB H Q := by
  refine xs_cons (r_assign (by rfl) (by intro _ _; rfl) (ev_list (es_cons (ev_int (es_cons (ev_int (es_cons (ev_int (es_cons (ev_int (es_cons (ev_int (es_cons (ev_int (es_nil ⟨by simp, ?_⟩)))))))))))))))
  refine xs_cons (ex_assignC2 (storesB_ok (by rfl)) (scopeB_ok (by rfl) (by rfl)) rfl (storesB_ok (by rfl)) (storesB_ok (by rfl)) rfl rfl ?_ (fun env h1 h2 => sw_comp h1 h2 (by rfl)))
  refine src2_zip (by rfl) ?_
  refine es_cons (ev_bin (ev_sliceL (r_name (by rfl) (by rfl) (by rfl) ?_)))
  refine (show EvO _ _ _ _ _ _ _ from (show Ev _ _ _ _ _ _ _ from ev_int ⟨6, rfl, _, rfl, by simp; omega, ?_⟩))
  refine ev_bin (ev_list (es_cons (ev_int (es_nil ⟨by simp, ev_int (bin_mulL (by decide) (by decide) (by decide) ?_)⟩))))
  have e6 : sliceV (xs.map V.int) none (some 6) = (xs.take 6).map V.int := by
    rw [show (6 : Int) = ((6 : Nat) : Int) from rfl, slice_to, List.map_take]
  rw [e6]
  refine bin_addL (.of _) (.of _) (by simp; omega) (es_cons (r_name (by rfl) (by rfl) (by rfl) (es_nil ⟨_, _, rfl, ?_⟩)))
  have ez : (((xs.take 6).map V.int ++ (List.replicate (Int.toNat 6) [V.int 0]).flatten).zip [V.int 312109744, .int 627826015, .int 51732138, .int 983703222, .int 148317645, .int 2135080]) =
      ((xs.take 6 ++ List.replicate 6 0).zip fixedL).map fun p : Int × Int => (V.int p.1, V.int p.2) := by
    rw [show (List.replicate (Int.toNat 6) [V.int 0]).flatten = (List.replicate 6 (0 : Int)).map V.int from rfl, ← List.map_append, show [V.int 312109744, .int 627826015, .int 51732138, .int 983703222, .int 148317645, .int 2135080] = fixedL.map V.int from rfl, List.zip_map]
    rfl
  rw [ez]
  refine compL2_map (fun p : Int × Int => V.int p.1) (fun p => V.int p.2) (fun p => V.int ((p.1 + p.2).fmod 1000000000)) _ [] (by simp [fixedL]) (fun p _ => ?_) ?_
  · refine ev_bin (ev_bin (r_name (by rfl) (by rfl) (by rfl) (r_name (by rfl) (by rfl) (by rfl) (bin_add (ev_bin (ev_int (ev_int (bin_pow (by decide) (pow_ok10 (by decide) (by decide)) (bin_mod (by decide) ⟨rfl, rfl⟩)))))))))
  · refine q _ ⟨?_, trivial⟩
    rw [lookup_put, if_pos rfl]
    simp only [cellsF, List.map_map, List.nil_append]
    rfl
theorem compL_map' {K : Store → Prop} {x : Str} {ifs : List Expr} {elt : Expr} {Q : List V → Store → Prop} {α : Type} (e : α → V) (f : α → V) (hK : K H) (as : List α) (hl : as.length ≤ 99999) (h : ∀ a ∈ as, Ev C d sc (put x (e a) ρ) elt H fun y H' => y = f a ∧ H' = H) (he : ifs = []) (q : Q (as.map f) H) : CompL C d sc K ρ x ifs elt Q (as.map e) [] H := by
  subst he
  refine compL_map e (fun _ => true) f hK as [] (by simp; omega) (fun a ha => ⟨tests_nil ⟨rfl, rfl⟩, fun _ => h a ha⟩) ?_
  rw [show (as.filter fun _ => true) = as from List.filter_eq_self.mpr (fun _ _ => rfl)]
  exact q
theorem cells_range {xs : List Int} : ∀ x ∈ cellsF xs, 0 ≤ x ∧ x < 1000000000 := fun x hx => by
  obtain ⟨p, _, rfl⟩ := List.mem_map.mp hx
  exact fmod_range _ (by decide)
theorem cells_len {xs : List Int} : (cellsF xs).length = 6 := by
  simp [cellsF, fixedL, List.length_zip, List.length_take]
theorem law2 {xs : List Int} {Q} (q : ∀ ρ', Sub [("figures", figsV (figsF xs))] ρ' → Xs C (d + 1) lawSc ρ' (lawB.drop 3) H Q) :
    Xs C (d + 1) lawSc [("cells", .list ((cellsF xs).map .int))] (lawB.drop 2) H Q := by
  refine xs_cons (ex_assignC (storesB_ok (by rfl)) (scopeB_ok (by rfl) (by rfl)) rfl (storesB_ok (by rfl)) rfl ?_ (fun env h1 h2 => sw_comp h1 h2 (by rfl)))
  refine src_ev (r_name (by rfl) (by rfl) (by rfl) (itr_list ?_))
  refine compL_map' V.int (fun x => V.list ((figF x).map V.int)) trivial _ (by rw [cells_len]; decide) (fun x hx => ?_) rfl ?_
  · refine ev_comp (scopeB_ok (by rfl) (by rfl)) rfl (storesB_ok (by rfl)) rfl ?_
    refine src_range (by rfl) (ev_int ⟨9, rfl, by decide, ?_⟩)
    refine compL_map' (fun k : Nat => V.int k) (fun k => V.int ((x.fdiv (10 ^ k)).fmod 10)) trivial _ (by simp) (fun k hk => ?_) rfl ⟨?_, rfl⟩
    · have hk : k < 9 := List.mem_range.mp hk
      refine ev_bin (ev_bin (r_name (by rfl) (by rfl) (by rfl) (ev_bin (ev_int (r_name (by rfl) (by rfl) (by rfl) (bin_pow (by omega) (pow_ok10 (by omega) (by omega)) ?_))))))
      have e : ((k : Int)).toNat = k := Int.toNat_natCast k
      rw [e]
      have hk' : k = 0 ∨ k = 1 ∨ k = 2 ∨ k = 3 ∨ k = 4 ∨ k = 5 ∨ k = 6 ∨ k = 7 ∨ k = 8 := (by decide : ∀ k : Nat, k < 9 → k = 0 ∨ k = 1 ∨ k = 2 ∨ k = 3 ∨ k = 4 ∨ k = 5 ∨ k = 6 ∨ k = 7 ∨ k = 8) k hk
      refine bin_div ?_ ?_ (ev_int (bin_mod (by decide) ⟨rfl, rfl⟩))
      · rcases hk' with rfl | rfl | rfl | rfl | rfl | rfl | rfl | rfl | rfl <;> decide
      · rcases hk' with rfl | rfl | rfl | rfl | rfl | rfl | rfl | rfl | rfl <;> decide
    · simp only [figF, List.map_map]; rfl
  · refine q _ ⟨?_, trivial⟩
    rw [lookup_put, if_pos rfl]
    simp only [figsV, figsF, List.map_map]
    rfl
end Mine
end PartL12

section PartL13
open PySem PySem.W PySem.Calls PyProof.Rows
set_option maxRecDepth 100000
set_option linter.unusedVariables false
namespace Mine
variable {C : Cx} {d : Nat} {sc : Sc} {ρ : Vars} {H : Store}

/-- the program's own names, as they stand -/
structure PF (C : Cx) (T1 : Int → Bool) (T3 : Int → Option Str) (T : Str → Option Int) : Prop where
  ist : Fn C "ISTERMINAL" ["x"] (namesOf (stmtAt 52)) (bodyOf (stmtAt 52))
  isn : Fn C "ISNONTERMINAL" ["x"] (namesOf (stmtAt 53)) (bodyOf (stmtAt 53))
  ise : Fn C "ISEOF" ["x"] (namesOf (stmtAt 54)) (bodyOf (stmtAt 54))
  inb1 : Fn C "in_table_b1" ["code"] (namesOf (stmtAt 59)) (bodyOf (stmtAt 59))
  mapb3 : Fn C "map_table_b3" ["code"] (namesOf (stmtAt 61)) (bodyOf (stmtAt 61))
  ops : Fn C "_law_operators" [] (namesOf (stmtAt 63)) (bodyOf (stmtAt 63))
  text : Fn C "_law_text" ["words", "figures"] (namesOf (stmtAt 65)) (bodyOf (stmtAt 65))
  word : Fn C "_law_word" ["plain", "form", "start"] (namesOf (stmtAt 66)) (bodyOf (stmtAt 66))
  plain : Fn C "_law_plain" ["word"] (namesOf (stmtAt 67)) (bodyOf (stmtAt 67))
  clause : Fn C "_law_clause" ["plain", "names"] (namesOf (stmtAt 68)) (bodyOf (stmtAt 68))
  least : Fn C "_law_least" ["sets"] (namesOf (stmtAt 69)) (bodyOf (stmtAt 69))
  b1 : GSet C "b1_set" T1
  b3 : GTab C "b3_exceptions" T3
  ex : GNum C "EXACT_TOKEN_TYPES" T
  nt : ∃ t, C.mg "NT_OFFSET" = some (.int 256 t)
  em : ∃ t, C.mg "ENDMARKER" = some (.int 0 t)

theorem sw_none {ts value} {env : Env} (h1 : env.scope.kind = .function) (h2 : env.scope.names = sc.ns) (hh : swappedStores ts value { env with scope := { env.scope with kind := .function, names := sc.ns } } = pure none) : swappedStores ts value env = pure none := by
  rw [← hh]
  congr 1
  obtain ⟨sc', _⟩ := env
  obtain ⟨_, _⟩ := sc'
  cases h1
  cases h2
  rfl
theorem item_quo {i : Int} (h : 0 ≤ i ∧ i < 8) : fitsSsize i = true ∧ (Txt.charAt (S quoL) i).isSome = true ∧ Txt.item (S quoL) i = S [quoL.getD i.toNat 0] := by
  obtain ⟨k, rfl⟩ := Int.eq_ofNat_of_zero_le h.1
  exact (by decide +kernel : ∀ k : Nat, k < 8 → fitsSsize (k : Int) = true ∧ (Txt.charAt (S quoL) (k : Int)).isSome = true ∧ Txt.item (S quoL) (k : Int) = S [quoL.getD (k : Int).toNat 0]) k (Int.ofNat_lt.mp h.2)
theorem item_beside {i : Int} (h : 0 ≤ i ∧ i < 16) : fitsSsize i = true ∧ (Txt.charAt (S besideL) i).isSome = true ∧ Txt.item (S besideL) i = S [besideL.getD i.toNat 0] := by
  obtain ⟨k, rfl⟩ := Int.eq_ofNat_of_zero_le h.1
  exact (by decide +kernel : ∀ k : Nat, k < 16 → fitsSsize (k : Int) = true ∧ (Txt.charAt (S besideL) (k : Int)).isSome = true ∧ Txt.item (S besideL) (k : Int) = S [besideL.getD (k : Int).toNat 0]) k (Int.ofNat_lt.mp h.2)

noncomputable def namesG (g0 g1 g2 : Int) : List Nat := [102, 105, quoL.getD (g0.fmod 8).toNat 0, besideL.getD ((g1 + 10 * g2).fmod 16).toNat 0]
theorem law3 {T1 T3 T} (P : PF C T1 T3 T) {e0 e1 e2 e3 e4 : V} {g0 g1 g2 : Int} {gs : List V} (h1 : (H.lookup 1).isSome = false) (h2 : (H.lookup 2).isSome = false) (h3 : (H.lookup 3).isSome = false) {Q}
    (q : ∀ ρ', Sub [("figures", .list [e0, e1, e2, e3, e4, .list (.int g0 :: .int g1 :: .int g2 :: gs)]), ("names", namesV (namesG g0 g1 g2)), ("operators", opsV), ("raws", .own 1), ("due", .own 2), ("clauses", .own 3)] ρ' →
      Xs C (d + 1) lawSc ρ' (lawB.drop 7) ((3, .list []) :: (2, .list []) :: (1, .list []) :: H) Q) :
    Xs C (d + 1) lawSc [("figures", .list [e0, e1, e2, e3, e4, .list (.int g0 :: .int g1 :: .int g2 :: gs)])] (lawB.drop 3) H Q := by
  refine xs_cons (r_assign (by rfl) (by intro _ _; rfl) (r_str besideL (by decide +kernel) ?_))
  have r0 := fmod_range g0 (b := 8) (by decide)
  have r1 := fmod_range (g1 + 10 * g2) (b := 16) (by decide)
  obtain ⟨a0, a1, a2⟩ := item_quo r0
  obtain ⟨b0, b1, b2⟩ := item_beside r1
  refine xs_cons (r_assign (by rfl) (by intro _ _; rfl) (ev_list (es_cons (r_str [102] (by decide +kernel) (es_cons (r_str [105] (by decide +kernel) (es_cons ?_)))))))
  refine ev_sub (r_str quoL (by decide +kernel) ?_)
  refine ev_bin ?_
  refine ev_sub ?_
  refine ev_sub (r_name (by rfl) (by rfl) (by rfl) (ev_int (itm_list (by decide) (by rfl) (by decide) (ev_int (itm_list (by decide) (by rfl) (by decide) (ev_int (bin_mod (by decide) (itm_str a0 a1 ?_))))))))
  rw [a2]
  refine es_cons ?_
  refine ev_sub (r_name (by rfl) (by rfl) (by rfl) ?_)
  refine ev_bin ?_
  refine ev_bin ?_
  refine ev_sub ?_
  refine ev_sub (r_name (by rfl) (by rfl) (by rfl) (ev_int (itm_list (by decide) (by rfl) (by decide) (ev_int (itm_list (by decide) (by rfl) (by decide) ?_)))))
  refine ev_bin (ev_int ?_)
  refine ev_sub ?_
  refine ev_sub (r_name (by rfl) (by rfl) (by rfl) (ev_int (itm_list (by decide) (by rfl) (by decide) (ev_int (itm_list (by decide) (by rfl) (by decide) ?_)))))
  refine bin_mul (mul_okL (by decide) (by decide)) (bin_add (ev_int (bin_mod (by decide) (itm_str b0 b1 ?_))))
  rw [b2]
  refine es_nil ⟨by simp, ?_⟩
  refine xs_cons (r_assign (by rfl) (by intro _ _; rfl) (ev_callF0 P.ops (by rfl) (ops_ok ?_)))
  refine xs_cons (ex_assignT (.cons (.cons (.cons .nil))) (by intro x hx; simp only [List.mem_cons, List.not_mem_nil, or_false] at hx; rcases hx with rfl | rfl | rfl <;> exact storesB_ok (by rfl)) ?_ (hw := fun env h1 h2 => sw_none h1 h2 (by rfl)))
  refine ev_tuple (es_cons (ev_listO 1 (es_nil ⟨by simp, h1, es_cons (ev_listO 2 (es_nil ⟨by simp, ?_, es_cons (ev_listO 3 (es_nil ⟨by simp, ?_, es_nil ⟨by simp, _, .inl rfl, rfl, ?_⟩⟩))⟩))⟩)))
  · rw [lk_ne (by decide)]; exact h2
  · rw [lk_ne (by decide), lk_ne (by decide)]; exact h3
  · refine q _ ⟨by rfl, by rfl, by rfl, by rfl, by rfl, by rfl, trivial⟩
end Mine
end PartL13

section PartL14
open PySem PySem.W PySem.Calls PyProof.Rows
set_option maxRecDepth 100000
set_option linter.unusedVariables false
namespace Mine
variable {C : Cx} {d : Nat} {sc : Sc} {ρ : Vars} {H : Store}

structure Row where
  w : List Nat
  said : List Nat
  num : Int
  c : Int
noncomputable def nmF (N : List Nat) (l : List Int) : List Nat := l.map fun s => N.getD s.toNat 0
noncomputable def clF (m : Int) (l : List Int) : Int := (((List.range 4).filter fun s : Nat => l.any (· == (s : Int))).map fun s : Nat => m * 2 ^ s).sum
noncomputable def opF (place : Int) : List Nat := opsL.getD place.toNat []
noncomputable def wordL (said : List Nat) (form start : Int) : List Nat := (wordS (S said) form start).cps.toList
noncomputable def rowG (N : List Nat) (place : Int) (den aff : List Int) (form start : Int) : Row :=
  let said := if place.fmod 2 = 0 then nmF N den ++ opF place ++ nmF N aff else nmF N aff ++ opF place ++ nmF N den
  ⟨wordL said form start, said, 7 + place, clF 17 aff + clF 256 den⟩
noncomputable def rowF (N : List Nat) (d : List Int) : Row :=
  rowG N ((d.getD 0 0 + 10 * d.getD 1 0).fmod 48) ([d.getD 2 0, d.getD 3 0].filter fun s => decide (s < 4)) (([d.getD 4 0, d.getD 5 0].filter fun s => decide (s < 7)).map fun s => s.fmod 4) (d.getD 6 0) (d.getD 7 0 + 10 * d.getD 8 0)
noncomputable def Row.v (r : Row) : V := tri (S r.w, S r.said, r.num)

noncomputable abbrev rowsSt (rs : List Row) (H : Store) : Store := (3, .list (rs.map fun r => .int r.c)) :: (2, .list (rs.map Row.v)) :: (1, .list (rs.map fun r => .str (S r.w))) :: H
/-- what the plain laws say of the words' lengths -/
structure PL : Prop where
  lig : ∀ (l : List Nat) (form : Int), l.length ≤ 20 → (Txt.replace (S l) (S [102, 102]) (S [64256])).length ≤ 1000 ∧ (ligF form (S l)).length ≤ 1000
  wlen : ∀ (l : List Nat) (form start : Int), l.length ≤ 20 → (wordL l form start).length ≤ 1000

theorem sjoin_nil : ∀ l : List Nat, Str.join (S []) (l.map fun c => S [c]) = S l
  | [] => rfl
  | [c] => rfl
  | c :: e :: r => by
    have ih := sjoin_nil (e :: r)
    simp only [List.map_cons] at ih ⊢
    rw [Str.join]
    · rw [ih, S_app, S_app]; rfl
    · simp
theorem join_nil (l : List Nat) : Txt.join (S []) (l.map fun c => S [c]) = S l := (StrLaws.glued_eq_join _ _).trans (sjoin_nil l)
theorem opsL_get {place : Int} (h : 0 ≤ place ∧ place < 48) : ((opsL.map S).map V.str)[place.toNat]? = some (.str (S (opF place))) := by
  have hl : opsL.length = 48 := by decide +kernel
  have : place.toNat < opsL.length := by omega
  unfold opF
  rw [List.getElem?_map, List.getElem?_map, List.getD_eq_getElem?_getD, List.getElem?_eq_getElem this]; rfl
theorem opF_len {place : Int} (h : 0 ≤ place ∧ place < 48) : (opF place).length ≤ 3 := by
  have : ∀ x ∈ opsL, x.length ≤ 3 := by decide +kernel
  have hl : opsL.length = 48 := by decide +kernel
  have hlt : place.toNat < opsL.length := by omega
  unfold opF
  rw [List.getD_eq_getElem?_getD, List.getElem?_eq_getElem hlt]
  exact this _ (List.getElem_mem hlt)

noncomputable def NameOk (N : List Nat) (l : List Int) : Prop := N.length = 4 ∧ ∀ s ∈ l, 0 ≤ s ∧ s < 4
theorem names_get {N : List Nat} {s : Int} (hN : N.length = 4) (h : 0 ≤ s ∧ s < 4) : ((N.map fun c => S [c]).map V.str)[s.toNat]? = some (.str (S [N.getD s.toNat 0])) := by
  have : s.toNat < N.length := by omega
  rw [List.getElem?_map, List.getElem?_map, List.getD_eq_getElem?_getD, List.getElem?_eq_getElem this]; rfl

set_option maxHeartbeats 8000000 in
/-- one of the five clauses -/
theorem law_turn {T1 T3 T} (P : PF C T1 T3 T) (L : PL) {N : List Nat} (hN : N.length = 4) {d0 d1 d2 d3 d4 d5 d6 d7 d8 : Int} {F : V} {rs : List Row} (hd : ∀ x ∈ [d0, d1, d2, d3, d4, d5, d6, d7, d8], 0 ≤ x ∧ x ≤ 9) (hrs : rs.length ≤ 10) {Q : Fl → Vars → Store → Prop}
    (q : ∀ ρ', Sub [("figures", F), ("names", namesV N), ("operators", opsV), ("raws", .own 1), ("due", .own 2), ("clauses", .own 3)] ρ' →
      Q .next ρ' (rowsSt (rs ++ [rowF N [d0, d1, d2, d3, d4, d5, d6, d7, d8]]) H)) :
    Xs C (d + 1) lawSc [("figures", F), ("names", namesV N), ("operators", opsV), ("raws", .own 1), ("due", .own 2), ("clauses", .own 3), ("d", .list [.int d0, .int d1, .int d2, .int d3, .int d4, .int d5, .int d6, .int d7, .int d8])]
      (match lawB.getD 7 (.Pass ⟨0, 0, 0, 0⟩) with | .For _ _ b _ _ => b | _ => []) (rowsSt rs H) Q := by
  have bd : ∀ x, x ∈ [d0, d1, d2, d3, d4, d5, d6, d7, d8] → 0 ≤ x ∧ x ≤ 9 := hd
  have hpl := fmod_range (d0 + 10 * d1) (b := 48) (by decide)
  refine xs_cons (r_assign (by rfl) (by intro _ _; rfl) ?_)
  refine ev_bin (ev_bin ?_)
  refine ev_sub (r_name (by rfl) (by rfl) (by rfl) (ev_int (itm_list (by decide) (by rfl) (by decide) ?_)))
  refine ev_bin (ev_int ?_)
  refine ev_sub (r_name (by rfl) (by rfl) (by rfl) (ev_int (itm_list (by decide) (by rfl) (by decide) ?_)))
  refine bin_mul (mul_okL (by decide) (by decide)) (bin_add (ev_int (bin_mod (by decide) ?_)))
  generalize hplace : (d0 + 10 * d1).fmod 48 = place at hpl
  refine xs_cons (ex_assignT (.cons (.cons .nil)) (by intro x hx; simp only [List.mem_cons, List.not_mem_nil, or_false] at hx; rcases hx with rfl | rfl <;> exact storesB_ok (by rfl)) ?_ (hw := fun env h1 h2 => sw_none h1 h2 (by rfl)))
  refine ev_tuple (es_cons ?_)
  refine ev_comp (scopeB_ok (by rfl) (by rfl)) rfl (storesB_ok (by rfl)) rfl ?_
  refine src_ev (ev_sliceL (r_name (by rfl) (by rfl) (by rfl) ?_))
  refine (show Ev _ _ _ _ _ _ _ from ev_int ⟨2, rfl, ?_⟩)
  refine (show Ev _ _ _ _ _ _ _ from ev_int ⟨4, rfl, _, rfl, by simp, itr_list ?_⟩)
  refine compL_map V.int (fun s => decide (s < 4)) V.int trivial [d2, d3] [] (by simp) (fun s hs => ⟨tests_one (tr_cmp (r_name (by rfl) (by rfl) (by rfl) (ev_int (cmp_lt ⟨rfl, rfl⟩)))), fun _ => r_name (by rfl) (by rfl) (by rfl) ⟨rfl, rfl⟩⟩) ?_
  refine es_cons ?_
  refine ev_comp (scopeB_ok (by rfl) (by rfl)) rfl (storesB_ok (by rfl)) rfl ?_
  refine src_ev (ev_sliceL (r_name (by rfl) (by rfl) (by rfl) ?_))
  refine (show Ev _ _ _ _ _ _ _ from ev_int ⟨4, rfl, ?_⟩)
  refine (show Ev _ _ _ _ _ _ _ from ev_int ⟨6, rfl, _, rfl, by simp, itr_list ?_⟩)
  refine compL_map V.int (fun s => decide (s < 7)) (fun s => V.int (s.fmod 4)) trivial [d4, d5] [] (by simp) (fun s hs => ⟨tests_one (tr_cmp (r_name (by rfl) (by rfl) (by rfl) (ev_int (cmp_lt ⟨rfl, rfl⟩)))), fun _ => ev_bin (r_name (by rfl) (by rfl) (by rfl) (ev_int (bin_mod (by decide) ⟨rfl, rfl⟩)))⟩) ?_
  refine es_nil ⟨by simp, _, .inl rfl, rfl, ?_⟩
  have eA : ([] ++ ([d2, d3].filter fun s => decide (s < 4)).map V.int) = ([d2, d3].filter fun s => decide (s < 4)).map V.int := by simp
  have eB : ([] ++ ([d4, d5].filter fun s => decide (s < 7)).map fun s => V.int (s.fmod 4)) = (([d4, d5].filter fun s => decide (s < 7)).map fun s => s.fmod 4).map V.int := by simp [List.map_map]
  rw [eA, eB]
  have hrow : rowF N [d0, d1, d2, d3, d4, d5, d6, d7, d8] = rowG N place ([d2, d3].filter fun s => decide (s < 4)) (([d4, d5].filter fun s => decide (s < 7)).map fun s => s.fmod 4) d6 (d7 + 10 * d8) := by rw [← hplace]; rfl
  rw [hrow] at q
  have hden : ∀ s ∈ [d2, d3].filter fun s => decide (s < 4), 0 ≤ s ∧ s < 4 := fun s hs => by
    obtain ⟨h1, h2⟩ := List.mem_filter.mp hs
    refine ⟨(bd s ?_).1, of_decide_eq_true h2⟩
    simp only [List.mem_cons, List.not_mem_nil, or_false] at h1 ⊢
    rcases h1 with rfl | rfl <;> simp
  have haff : ∀ s ∈ ([d4, d5].filter fun s => decide (s < 7)).map fun s => s.fmod 4, 0 ≤ s ∧ s < 4 := fun s hs => by
    obtain ⟨x, _, rfl⟩ := List.mem_map.mp hs
    exact fmod_range x (by decide)
  have lden : ([d2, d3].filter fun s => decide (s < 4)).length ≤ 2 := List.length_filter_le _ _
  have laff : (([d4, d5].filter fun s => decide (s < 7)).map fun s => s.fmod 4).length ≤ 2 := by rw [List.length_map]; exact List.length_filter_le _ _
  generalize ([d2, d3].filter fun s => decide (s < 4)) = den at q hden lden
  generalize (([d4, d5].filter fun s => decide (s < 7)).map fun s => s.fmod 4) = aff at q haff laff
  obtain ⟨left, right, hlr⟩ : ∃ left right : List Int, (left, right) = if place.fmod 2 = 0 then (den, aff) else (aff, den) := ⟨_, _, rfl⟩
  have hsaid : (rowG N place den aff d6 (d7 + 10 * d8)).said = nmF N left ++ opF place ++ nmF N right := by
    unfold rowG
    by_cases h : place.fmod 2 = 0
    · rw [if_pos h] at hlr; cases hlr; simp only [if_pos h]
    · rw [if_neg h] at hlr; cases hlr; simp only [if_neg h]
  have hlf : (∀ s ∈ left, 0 ≤ s ∧ s < 4) ∧ (∀ s ∈ right, 0 ≤ s ∧ s < 4) ∧ left.length ≤ 2 ∧ right.length ≤ 2 := by
    by_cases h : place.fmod 2 = 0
    · rw [if_pos h] at hlr; cases hlr; exact ⟨hden, haff, lden, laff⟩
    · rw [if_neg h] at hlr; cases hlr; exact ⟨haff, hden, laff, lden⟩
  obtain ⟨hl1, hl2, hl3, hl4⟩ := hlf
  refine xs_seq (fun ρ' H' => H' = rowsSt rs H ∧ Sub [("figures", F), ("names", namesV N), ("operators", opsV), ("raws", .own 1), ("due", .own 2), ("clauses", .own 3), ("d", .list [.int d0, .int d1, .int d2, .int d3, .int d4, .int d5, .int d6, .int d7, .int d8]), ("place", .int place), ("denied", .list (den.map V.int)), ("affirmed", .list (aff.map V.int)), ("left", .list (left.map V.int)), ("right", .list (right.map V.int))] ρ') ?_ ?_
  · refine ex_assignT (.cons (.cons .nil)) (by intro x hx; simp only [List.mem_cons, List.not_mem_nil, or_false] at hx; rcases hx with rfl | rfl <;> exact storesB_ok (by rfl)) ?_
    refine ev_ifexp (tr_cmp (ev_bin (r_name (by rfl) (by rfl) (by rfl) (ev_int (bin_mod (by decide) (ev_int (cmp_eq ?_)))))))
    refine ⟨fun h => ?_, fun h => ?_⟩
    · have h : place.fmod 2 = 0 := by simpa using h
      rw [if_pos h] at hlr
      cases hlr
      exact ev_tuple (es_cons (r_name (by rfl) (by rfl) (by rfl) (es_cons (r_name (by rfl) (by rfl) (by rfl) (es_nil ⟨by simp, _, .inl rfl, rfl, rfl, rfl, by rfl, by rfl, by rfl, by rfl, by rfl, by rfl, by rfl, by rfl, by rfl, by rfl, by rfl, by rfl, trivial⟩)))))
    · have h : ¬ place.fmod 2 = 0 := by simpa using h
      rw [if_neg h] at hlr
      cases hlr
      exact ev_tuple (es_cons (r_name (by rfl) (by rfl) (by rfl) (es_cons (r_name (by rfl) (by rfl) (by rfl) (es_nil ⟨by simp, _, .inl rfl, rfl, rfl, rfl, by rfl, by rfl, by rfl, by rfl, by rfl, by rfl, by rfl, by rfl, by rfl, by rfl, by rfl, by rfl, trivial⟩)))))
  rintro ρ' H' ⟨rfl, hs⟩
  refine Xs.weaken ?_ hs.get
  clear hs ρ'
  have hjoin : ∀ l : List Int, l.length ≤ 2 → ((l.map fun s => S [N.getD s.toNat 0]).map (·.length)).sum + (l.map fun s => S [N.getD s.toNat 0]).length * (S []).length ≤ 16777216 := fun l hl => by
    have e : (l.map fun s => S [N.getD s.toNat 0]).map (·.length) = l.map fun _ => 1 := by rw [List.map_map]; apply List.map_congr_left; intro s _; exact S_len _
    rw [e, S_len]
    have es : ∀ l : List Int, (l.map fun _ => 1).sum = l.length := fun l => by
      induction l with
      | nil => rfl
      | cons x l ih => rw [List.map_cons, List.sum_cons, ih, List.length_cons]; omega
    rw [es, List.length_nil, Nat.mul_zero]; omega
  have hjv : ∀ l : List Int, Txt.join (S []) (l.map fun s => S [N.getD s.toNat 0]) = S (nmF N l) := fun l => by
    have := join_nil (nmF N l)
    unfold nmF at this ⊢
    rwa [List.map_map] at this
  have lenN : ∀ l : List Int, (nmF N l).length = l.length := fun l => by unfold nmF; rw [List.length_map]
  have hopl := opF_len hpl
  refine xs_cons (r_assign (by rfl) (by intro _ _; rfl) ?_)
  refine ev_bin (ev_bin ?_)
  refine ev_meth1 PySem.F.plainAttrs_str PySem.F.slot_str_join PySem.F.type_str_join (r_str [] (by decide +kernel) ⟨.str _, es_cons ?_⟩)
  refine ev_comp (scopeB_ok (by rfl) (by rfl)) rfl (storesB_ok (by rfl)) rfl ?_
  refine src_ev (r_name (by rfl) (by rfl) (by rfl) (itr_list ?_))
  refine compL_map' V.int (fun s => V.str (S [N.getD s.toNat 0])) trivial left (by omega) (fun s hs => ?_) rfl ?_
  · refine ev_sub (r_name (by rfl) (by rfl) (by rfl) (r_name (by rfl) (by rfl) (by rfl) (itm_list (hl1 s hs).1 (names_get hN (hl1 s hs)) (by have := hl1 s hs; omega) ⟨rfl, rfl⟩)))
  rw [show (left.map fun s => V.str (S [N.getD s.toNat 0])) = (left.map fun s => S [N.getD s.toNat 0]).map V.str from by rw [List.map_map]; rfl]
  refine es_nil (callv_join (.of _) (hjoin _ hl3) ?_)
  rw [hjv]
  refine ev_sub (r_name (by rfl) (by rfl) (by rfl) (r_name (by rfl) (by rfl) (by rfl) (itm_list hpl.1 (opsL_get hpl) (by omega) (bin_cat (by rw [S_len, S_len, lenN]; omega) ?_))))
  rw [S_app]
  refine ev_meth1 PySem.F.plainAttrs_str PySem.F.slot_str_join PySem.F.type_str_join (r_str [] (by decide +kernel) ⟨.str _, es_cons ?_⟩)
  refine ev_comp (scopeB_ok (by rfl) (by rfl)) rfl (storesB_ok (by rfl)) rfl ?_
  refine src_ev (r_name (by rfl) (by rfl) (by rfl) (itr_list ?_))
  refine compL_map' V.int (fun s => V.str (S [N.getD s.toNat 0])) trivial right (by omega) (fun s hs => ?_) rfl ?_
  · refine ev_sub (r_name (by rfl) (by rfl) (by rfl) (r_name (by rfl) (by rfl) (by rfl) (itm_list (hl2 s hs).1 (names_get hN (hl2 s hs)) (by have := hl2 s hs; omega) ⟨rfl, rfl⟩)))
  rw [show (right.map fun s => V.str (S [N.getD s.toNat 0])) = (right.map fun s => S [N.getD s.toNat 0]).map V.str from by rw [List.map_map]; rfl]
  refine es_nil (callv_join (.of _) (hjoin _ hl4) ?_)
  rw [hjv]
  refine bin_cat (by rw [S_len, S_len, List.length_append, lenN, lenN]; omega) ?_
  rw [S_app, ← hsaid]
  have hsl : (rowG N place den aff d6 (d7 + 10 * d8)).said.length ≤ 7 := by rw [hsaid]; simp only [List.length_append, lenN]; omega
  have hw : (rowG N place den aff d6 (d7 + 10 * d8)).w = wordL (rowG N place den aff d6 (d7 + 10 * d8)).said d6 (d7 + 10 * d8) := rfl
  have hnum : (rowG N place den aff d6 (d7 + 10 * d8)).num = 7 + place := rfl
  have hc : (rowG N place den aff d6 (d7 + 10 * d8)).c = clF 17 aff + clF 256 den := rfl
  generalize rowG N place den aff d6 (d7 + 10 * d8) = r at *
  have hd6 := bd d6 (by simp)
  have hd7 := bd d7 (by simp)
  have hd8 := bd d8 (by simp)
  obtain ⟨lg1, lg2⟩ := L.lig r.said d6 (by omega)
  refine xs_cons (ex_expr (ev_meth1 PySem.F.plainAttrs_list PySem.F.slot_list_append PySem.F.type_list_append (r_name (by rfl) (by rfl) (by rfl) ⟨.list (.own (xs := rs.map fun r => .str (S r.w)) (by rfl)), es_cons ?_⟩)))
  refine ev_callF P.word (by rfl) (es_cons (r_name (by rfl) (by rfl) (by rfl) (es_cons ?_)))
  refine ev_sub (r_name (by rfl) (by rfl) (by rfl) (ev_int (itm_list (by decide) (by rfl) (by decide) (es_cons ?_))))
  refine ev_bin ?_
  refine ev_sub (r_name (by rfl) (by rfl) (by rfl) (ev_int (itm_list (by decide) (by rfl) (by decide) ?_)))
  refine ev_bin (ev_int ?_)
  refine ev_sub (r_name (by rfl) (by rfl) (by rfl) (ev_int (itm_list (by decide) (by rfl) (by decide) ?_)))
  refine bin_mul (mul_okL (by decide) (by decide)) (bin_add (es_nil ⟨rfl, ?_⟩))
  refine word_ok (by omega) (by omega) (by rw [S_len]; omega) lg1 lg2 ?_
  rw [show wordS (S r.said) d6 (d7 + 10 * d8) = S r.w from by rw [hw]; exact (S_toList _).symm]
  refine es_nil (callv_append (xs := rs.map fun r => .str (S r.w)) (by rfl) (by simp; omega) ?_)
  have e1 : upd 1 (.list ((rs.map fun r => V.str (S r.w)) ++ [.str (S r.w)])) (rowsSt rs H) = (3, .list (rs.map fun r => .int r.c)) :: (2, .list (rs.map Row.v)) :: (1, .list ((rs ++ [r]).map fun r => .str (S r.w))) :: H := by
    simp only [List.map_append]; rfl
  rw [e1]
  refine xs_cons (ex_expr (ev_meth1 PySem.F.plainAttrs_list PySem.F.slot_list_append PySem.F.type_list_append (r_name (by rfl) (by rfl) (by rfl) ⟨.list (.own (xs := rs.map Row.v) (by rfl)), es_cons (ev_list (es_cons ?_))⟩)))
  refine ev_sub (r_name (by rfl) (by rfl) (by rfl) (ev_neg (ev_int ⟨1, rfl, ?_⟩)))
  refine itm_ownN (xs := (rs ++ [r]).map fun r => .str (S r.w)) (by rfl) (by decide) (by simp; omega) (x := .str (S r.w)) ?_ (by decide) ?_
  · rw [show ((-1 : Int) + (((rs ++ [r]).map fun r => V.str (S r.w)).length : Nat)).toNat = rs.length from by rw [List.length_map, List.length_append, List.length_singleton]; omega]
    simp
  refine es_cons (r_name (by rfl) (by rfl) (by rfl) (es_cons (ev_bin (ev_int (r_name (by rfl) (by rfl) (by rfl) (bin_add (es_nil ⟨by simp, ?_⟩)))))))
  rw [← hnum]
  refine es_nil (callv_append (xs := rs.map Row.v) (by rfl) (by simp; omega) ?_)
  have e2 : upd 2 (.list (rs.map Row.v ++ [.list [.str (S r.w), .str (S r.said), .int r.num]])) ((3, .list (rs.map fun r => .int r.c)) :: (2, .list (rs.map Row.v)) :: (1, .list ((rs ++ [r]).map fun r => .str (S r.w))) :: H) =
      (3, .list (rs.map fun r => .int r.c)) :: (2, .list ((rs ++ [r]).map Row.v)) :: (1, .list ((rs ++ [r]).map fun r => .str (S r.w))) :: H := by
    simp only [List.map_append]; rfl
  rw [e2]
  have hset : ∀ (m : Int) (l : List Int), (List.filter (fun s : Nat => l.any (· == (s : Int))) (List.range 4)).map (fun s : Nat => V.int (m * 2 ^ s)) = (((List.range 4).filter fun s : Nat => l.any (· == (s : Int))).map fun s : Nat => m * 2 ^ s).map V.int := fun m l => by rw [List.map_map]; rfl
  refine xs_cons (ex_expr (ev_meth1 PySem.F.plainAttrs_list PySem.F.slot_list_append PySem.F.type_list_append (r_name (by rfl) (by rfl) (by rfl) ⟨.list (.own (xs := rs.map fun r => .int r.c) (by rfl)), es_cons (ev_bin ?_)⟩)))
  refine ev_callB "sum" (by decide +kernel) (by rfl) (es_cons ?_)
  refine ev_comp (scopeB_ok (by rfl) (by rfl)) rfl (storesB_ok (by rfl)) rfl ?_
  refine src_range (by rfl) (ev_int ⟨4, rfl, by decide, ?_⟩)
  refine compL_map (fun s : Nat => V.int s) (fun s : Nat => aff.any (· == (s : Int))) (fun s : Nat => V.int (17 * 2 ^ s)) trivial _ [] (by simp) (fun s hs => ⟨tests_one (tr_cmp (r_name (by rfl) (by rfl) (by rfl) (r_name (by rfl) (by rfl) (by rfl) (cmp_inL ⟨rfl, rfl⟩)))), fun _ => ?_⟩) ?_
  · have hs : s < 4 := List.mem_range.mp hs
    refine ev_bin (ev_int (ev_bin (ev_int (r_name (by rfl) (by rfl) (by rfl) (bin_pow (by omega) (pow_ok2 (by omega) (by omega)) (bin_mul (mul_okL (by decide) (by decide)) ⟨?_, rfl⟩))))))
    rw [Int.toNat_natCast]
  rw [List.nil_append, hset]
  refine es_nil (callv_sum ?_)
  refine ev_callB "sum" (by decide +kernel) (by rfl) (es_cons ?_)
  refine ev_comp (scopeB_ok (by rfl) (by rfl)) rfl (storesB_ok (by rfl)) rfl ?_
  refine src_range (by rfl) (ev_int ⟨4, rfl, by decide, ?_⟩)
  refine compL_map (fun s : Nat => V.int s) (fun s : Nat => den.any (· == (s : Int))) (fun s : Nat => V.int (256 * 2 ^ s)) trivial _ [] (by simp) (fun s hs => ⟨tests_one (tr_cmp (r_name (by rfl) (by rfl) (by rfl) (r_name (by rfl) (by rfl) (by rfl) (cmp_inL ⟨rfl, rfl⟩)))), fun _ => ?_⟩) ?_
  · have hs : s < 4 := List.mem_range.mp hs
    refine ev_bin (ev_int (ev_bin (ev_int (r_name (by rfl) (by rfl) (by rfl) (bin_pow (by omega) (pow_ok2 (by omega) (by omega)) (bin_mul (mul_okL (by decide) (by decide)) ⟨?_, rfl⟩))))))
    rw [Int.toNat_natCast]
  rw [List.nil_append, hset]
  refine es_nil (callv_sum (bin_add (es_nil (callv_append (xs := rs.map fun r => .int r.c) (by rfl) (by simp; omega) ?_))))
  have e3 : upd 3 (.list ((rs.map fun r => V.int r.c) ++ [.int (clF 17 aff + clF 256 den)])) ((3, .list (rs.map fun r => .int r.c)) :: (2, .list ((rs ++ [r]).map Row.v)) :: (1, .list ((rs ++ [r]).map fun r => .str (S r.w))) :: H) = rowsSt (rs ++ [r]) H := by
    rw [← hc]; unfold rowsSt; simp only [List.map_append]; rfl
  refine xs_nil ?_
  show Q .next _ (upd 3 (.list ((rs.map fun r => V.int r.c) ++ [.int (clF 17 aff + clF 256 den)])) _)
  rw [e3]
  exact q _ ⟨by rfl, by rfl, by rfl, by rfl, by rfl, by rfl, trivial⟩
end Mine
end PartL14

section PartL15
open PySem PySem.W PySem.Calls PyProof.Rows
set_option maxRecDepth 100000
set_option linter.unusedVariables false
namespace Mine
variable {C : Cx} {d : Nat} {sc : Sc} {ρ : Vars} {H : Store}

/-- the lexer, by what it will give -/
noncomputable def TabH (H : Store) : Prop := ∃ ps, H.lookup 30 = some (.raw (tabObj ps))
theorem TabH.of {H H' : Store} (e : H'.lookup 30 = H.lookup 30) (h : TabH H) : TabH H' := let ⟨ps, h⟩ := h; ⟨ps, e.trans h⟩
structure LS (H : Store) (tot : Int) (cs : List Nat) (pend : List (List Nat)) (N : Nat) : Prop where
  lx : Lx H (tot - nlc cs) cs
  pb : H.lookup 22 = some (.list (pend.map fun w => .str (S w)))
  free : ∀ j, N ≤ j → (H.lookup j).isSome = false
  big : 40 ≤ N
  len : cs.length ≤ 80000
  tab : TabH H
noncomputable def Low (H H' : Store) : Prop := ∀ j, j < 20 → H'.lookup j = H.lookup j
theorem Low.trans {H H' H'' : Store} (a : Low H H') (b : Low H' H'') : Low H H'' := fun j hj => (b j hj).trans (a j hj)
theorem Low.refl (H : Store) : Low H H := fun _ _ => rfl

noncomputable def CallEq0 (o : Expr) (name : Str) (p2 p3 : Pos) : Prop := ∃ pl : Env → Sem Bool, ∀ env, eval (.Call (.Attribute o name p2) [] [] p3) env = (do
      let ov ← eval o env
      standAt p2.atName
      let (f, first) ← holding [ov] (getMethod ov name (pl env))
      callWith p3 f first (backTo p3 (starEach [] env)) [])
theorem scan_len (stop : Nat → Bool) : ∀ (tok cs : List Nat), (scan stop tok cs).2.length ≤ cs.length
  | tok, [] => by simp [scan]
  | tok, [c] => by
    unfold scan
    split
    · simp
    · split <;> simp
  | tok, c :: e :: r => by
    unfold scan
    split
    · simp
    · split
      · have := scan_len stop (tok ++ [e]) r; simp only [List.length_cons]; omega
      · have := scan_len stop (tok ++ [c]) (e :: r); simp only [List.length_cons] at this ⊢; omega
theorem lexTok_len : ∀ cs : List Nat, (lexTok cs).2.length ≤ cs.length
  | [] => by simp [lexTok]
  | c :: r => by
    unfold lexTok
    split
    · have := lexTok_len r; simp only [List.length_cons]; omega
    · split
      · have := scan_len (· == 34) [] r; simp only [List.length_cons]; omega
      · split
        · have := scan_len isWs (r.take 1) (r.drop 1); simp only [List.length_cons, List.length_drop] at this ⊢; omega
        · have := scan_len isWs [c] r; simp only [List.length_cons]; omega

theorem ev_getS {N' mN} (X : Env1 C N' mN) {x p1 p2 p3 Q} {tot : Int} {cs : List Nat} {N : Nat} (he : CallEq0 (.Name x p1) "get_token" p2 p3) (hx : nameB sc x = true) (hv : ρ.lookup x = some (.own 20)) (hd : ((x == ("__debug__" : Str)) || (x == ("__classdict__" : Str))) = false) (L : LS H tot cs [] N)
    (q : ∀ H', LS H' tot (lexTok cs).2 [] (N + 1) → Low H H' → Q (.str (S (lexTok cs).1)) H') : Ev C (d + 4) sc ρ (.Call (.Attribute (.Name x p1) "get_token" p2) [] [] p3) H Q := by
  obtain ⟨pl, he⟩ := he
  have hb := L.big
  refine ev_methI0 X.cls X.get sig2 no_gt_object pl he (r_name hx hv hd ⟨20, _, rfl, L.lx.lex, by rfl, rfl, ?_⟩)
  refine get_scan X.toEnv0 (key := N) ⟨by omega, by omega, by omega, by omega, by omega⟩ L.len L.lx L.pb (L.free N (Nat.le_refl _)) fun H' L' f => ?_
  refine q H' ⟨?_, ?_, ?_, by omega, Nat.le_trans (lexTok_len cs) L.len, TabH.of (f 30 (by omega) (by omega) (by omega)) L.tab⟩ fun j hj => f j (by omega) (by omega) (by omega)
  · rw [show tot - nlc (lexTok cs).2 = tot - nlc cs + nlc cs - nlc (lexTok cs).2 by omega]; exact L'
  · rw [f 22 (by omega) (by omega) (by omega)]; exact L.pb
  · intro j hj
    rw [f j (by omega) (by omega) (by omega)]; exact L.free j (by omega)
theorem ev_getP {N' mN} (X : Env1 C N' mN) {x p1 p2 p3 Q} {tot : Int} {cs : List Nat} {w : List Nat} {pend : List (List Nat)} {N : Nat} (he : CallEq0 (.Name x p1) "get_token" p2 p3) (hx : nameB sc x = true) (hv : ρ.lookup x = some (.own 20)) (hd : ((x == ("__debug__" : Str)) || (x == ("__classdict__" : Str))) = false) (L : LS H tot cs (w :: pend) N) (hl : pend.length ≤ 90000)
    (q : ∀ H', LS H' tot cs pend N → Low H H' → Q (.str (S w)) H') : Ev C (d + 4) sc ρ (.Call (.Attribute (.Name x p1) "get_token" p2) [] [] p3) H Q := by
  obtain ⟨pl, he⟩ := he
  have hb := L.big
  refine ev_methI0 X.cls X.get sig2 no_gt_object pl he (r_name hx hv hd ⟨20, _, rfl, L.lx.lex, by rfl, rfl, ?_⟩)
  have u : ∀ j, j ≠ 22 → (upd 22 (.list (pend.map fun w => V.str (S w))) H).lookup j = H.lookup j := fun j hj => by rw [lookup_upd, if_neg hj]
  refine get_pend X L.lx.lex L.pb (by simp; omega) (q _ ⟨⟨?_, ?_, ?_, ?_⟩, ?_, ?_, L.big, L.len, TabH.of (u 30 (by decide)) L.tab⟩ fun j hj => u j (by omega))
  · rw [u _ (by decide)]; exact L.lx.lex
  · rw [u _ (by decide)]; exact L.lx.stm
  · rw [u _ (by decide)]; exact L.lx.left
  · rw [u _ (by decide)]; exact L.lx.lam
  · rw [lookup_upd, if_pos rfl]
  · intro j hj; rw [u j (by omega)]; exact L.free j hj
noncomputable def CallEq1 (o : Expr) (name : Str) (e : Expr) (p2 p3 : Pos) : Prop := (∃ pl : Env → Sem Bool, ∀ env, eval (.Call (.Attribute o name p2) [e] [] p3) env = (do
      let ov ← eval o env
      standAt p2.atName
      let (f, first) ← holding [ov] (getMethod ov name (pl env))
      callWith p3 f first (backTo p3 (starEach [e] env)) [])) ∧ (∀ env, starEach [e] env = (false, eval e env) :: starEach [] env)
theorem ev_push {N' mN} (X : Env1 C N' mN) {x p1 p2 p3 e Q} {tot : Int} {cs : List Nat} {pend : List (List Nat)} {N : Nat} (he : CallEq1 (.Name x p1) "push_token" e p2 p3) (hx : nameB sc x = true) (hv : ρ.lookup x = some (.own 20)) (hd : ((x == ("__debug__" : Str)) || (x == ("__classdict__" : Str))) = false) (L : LS H tot cs pend N) (hl : pend.length ≤ 90000)
    (h : Ev C (d + 1) sc ρ e H fun v H₁ => ∃ w, v = .str (S w) ∧ H₁ = H ∧ ∀ H', LS H' tot cs (pend ++ [w]) N → Low H H' → Q .none H') : Ev C (d + 1) sc ρ (.Call (.Attribute (.Name x p1) "push_token" p2) [e] [] p3) H Q := by
  obtain ⟨⟨pl, he⟩, hst⟩ := he
  have hb := L.big
  refine ev_methI X.cls X.push sig3 no_pt_object pl he hst (r_name hx hv hd ⟨20, _, rfl, L.lx.lex, by rfl, es_cons (he := hst) (h.mono ?_)⟩)
  rintro v H₁ ⟨w, rfl, rfl, q⟩
  have u : ∀ j, j ≠ 22 → (upd 22 (.list ((pend.map fun w => V.str (S w)) ++ [.str (S w)])) H₁).lookup j = H₁.lookup j := fun j hj => by rw [lookup_upd, if_neg hj]
  refine es_nil ⟨rfl, push_ok X L.lx.lex (by rfl) L.pb (by simp; omega) (q _ ⟨⟨?_, ?_, ?_, ?_⟩, ?_, ?_, L.big, L.len, TabH.of (u 30 (by decide)) L.tab⟩ fun j hj => u j (by omega))⟩
  · rw [u _ (by decide)]; exact L.lx.lex
  · rw [u _ (by decide)]; exact L.lx.stm
  · rw [u _ (by decide)]; exact L.lx.left
  · rw [u _ (by decide)]; exact L.lx.lam
  · rw [lookup_upd, if_pos rfl, List.map_append]; rfl
  · intro j hj; rw [u j (by omega)]; exact L.free j hj

/-- a call of the function that makes the lexer -/
theorem ev_callCode {f fpos e es pos Q} {a : Addr} {o : Obj} {fd : FuncData} (hg : C.mg f = some (.ref a)) (hB : C.B.get? a = some o) (hdat : o.data = .func fd) (hk : sc.ns.lookup f = some .globalImplicit)
    (h : Es C (d + 1) sc ρ (e :: es) H fun vs H₁ => CodeV C (d + 1) (.ref a) vs H₁ Q) (hd : (f == ("__debug__" : Str)) = false := by decide)
    (he : ∀ env, starEach (e :: es) env = (false, eval e env) :: starEach es env := by intro _; rfl) : Ev C (d + 1) sc ρ (.Call (.Name f fpos) (e :: es) [] pos) H Q := fun A E s env fa I O hA hE wf => by
  rw [arm_eval_Call_Name']
  refine wpAny_bind (name_global hE wf hk hg ?_ hd)
  refine PyProof.Rows.callWith_def (o := o) (fd := fd) hdat (wpAny_mono (h A E s env fa I O pos hA hE wf) (fun cvs s₁ ⟨I₁, O₁, H₁, vs, st₁, wf₁, rv, hc⟩ => ?_) fun _ _ e => e) (he env)
  refine ⟨wf₁.has _ _ (wf₁.base _ _ hB), ?_⟩
  exact wpAny_mono (hc.call A E s₁ I₁ O₁ cvs hA wf₁ rv) (fun _ _ x => x.from st₁) fun _ _ e => e
end Mine
end PartL15

section PartL16
open PySem PySem.W PySem.Calls PyProof.Rows
set_option maxRecDepth 100000
set_option linter.unusedVariables false
namespace Mine
variable {C : Cx} {d : Nat} {sc : Sc} {ρ : Vars} {H : Store}

noncomputable def Dig (d : List Int) : Prop := d.length = 9 ∧ ∀ x ∈ d, 0 ≤ x ∧ x ≤ 9
theorem cons_of {α : Type} {l : List α} {n : Nat} (h : l.length = n + 1) : ∃ a r, l = a :: r ∧ r.length = n := by
  cases l with
  | nil => cases h
  | cons a r => exact ⟨a, r, rfl, Nat.succ.inj h⟩
theorem nine {d : List Int} (h : d.length = 9) : ∃ d0 d1 d2 d3 d4 d5 d6 d7 d8, d = [d0, d1, d2, d3, d4, d5, d6, d7, d8] := by
  obtain ⟨d0, r0, rfl, h0⟩ := cons_of h
  obtain ⟨d1, r1, rfl, h1⟩ := cons_of h0
  obtain ⟨d2, r2, rfl, h2⟩ := cons_of h1
  obtain ⟨d3, r3, rfl, h3⟩ := cons_of h2
  obtain ⟨d4, r4, rfl, h4⟩ := cons_of h3
  obtain ⟨d5, r5, rfl, h5⟩ := cons_of h4
  obtain ⟨d6, r6, rfl, h6⟩ := cons_of h5
  obtain ⟨d7, r7, rfl, h7⟩ := cons_of h6
  obtain ⟨d8, r8, rfl, h8⟩ := cons_of h7
  rw [List.eq_nil_of_length_eq_zero h8]
  exact ⟨_, _, _, _, _, _, _, _, _, rfl⟩
noncomputable def baseV (F : List (List Int)) (N : List Nat) : Vars := [("figures", figsV F), ("names", namesV N), ("operators", opsV), ("raws", .own 1), ("due", .own 2), ("clauses", .own 3)]

theorem law4 {T1 T3 T} (P : PF C T1 T3 T) (L : PL) {N : List Nat} (hN : N.length = 4) {F : List (List Int)} (hF : ∀ d ∈ F, Dig d) (hl : F.length ≤ 63) {Q}
    (q : ∀ ρ', Sub (baseV F N) ρ' → Xs C (d + 1) lawSc ρ' (lawB.drop 8) (rowsSt ((F.take 5).map (rowF N)) H) Q) : Xs C (d + 1) lawSc (baseV F N) (lawB.drop 7) (rowsSt [] H) Q := by
  refine xs_cons (ex_for (storesB_ok (by rfl)) (src_ev (ev_sliceL (r_name (by rfl) (by rfl) (by rfl) ?_))))
  refine (show Ev _ _ _ _ _ _ _ from ev_int ⟨5, rfl, _, rfl, by simp; omega, itr_list ?_⟩)
  rw [show (5 : Int) = ((5 : Nat) : Int) from rfl, slice_to, ← List.map_take]
  refine loop_ind (fun _ : List Row => baseV F N) (fun rows => rowsSt rows H) (fun vs rows => ∃ ds : List (List Int), vs = ds.map (fun d => V.list (d.map .int)) ∧ rows ++ ds.map (rowF N) = (F.take 5).map (rowF N) ∧ rows.length + ds.length ≤ 10 ∧ ∀ d ∈ ds, Dig d)
    (fun _ _ _ => trivial) ?_ ?_ _ [] _ ⟨F.take 5, rfl, rfl, by simp [List.length_take]; omega, fun d hd => hF d (List.mem_of_mem_take hd)⟩ ?_
  · rintro v vs rows ⟨ds, e, hr, hlen, hdig⟩
    cases ds with
    | nil => cases e
    | cons dd ds =>
      cases e
      simp only [List.length_cons] at hlen
      obtain ⟨h9, hx⟩ := hdig dd (.head _)
      obtain ⟨d0, d1, d2, d3, d4, d5, d6, d7, d8, rfl⟩ := nine h9
      refine law_turn P L hN hx (by omega) fun ρ' hs => ⟨_, ⟨ds, rfl, ?_, ?_, fun d hd => hdig d (.tail _ hd)⟩, hs, rfl⟩
      · rw [← hr]; simp
      · rw [List.length_append, List.length_singleton]; omega
  · rintro rows ⟨ds, e, hr, _, _⟩ ρ' hs
    cases ds with
    | cons dd ds => cases e
    | nil =>
      rw [List.map_nil, List.append_nil] at hr
      subst hr
      exact q ρ' hs
  · exact ⟨by rfl, by rfl, by rfl, by rfl, by rfl, by rfl, trivial⟩

structure LexF (C : Cx) (ps : Array Value) : Prop where
  ex : ∃ a o fd, C.mg "_law_lexer" = some (.ref a) ∧ C.B.get? a = some o ∧ o.data = .func fd ∧ FdOk C fd ["text"] (namesOf (stmtAt 64)) (bodyOf (stmtAt 64)) ∧ TabOk C fd.code ps lamPos
  lam : ∀ fd, LamFd fd → C.lamFd fd
noncomputable def wsF (rows : List Row) (r0 : Row) : List (List Nat) := rows.map (·.w) ++ [[], r0.w]
theorem textL_len (figs : List Int) (ht : ∀ k, 0 ≤ turnAt figs k ∧ turnAt figs k ≤ 9) (n : Nat) : ∀ (ws : List (List Nat)) (i : Nat) (acc : List Nat), (∀ w ∈ ws, w.length ≤ 1000) →
    ((enumW i ws).foldl (fun acc p => acc ++ pieceL n (turnAt figs p.1) p.1 p.2) acc).length ≤ acc.length + 2010 * ws.length
  | [], _, acc, _ => by simp [enumW]
  | w :: ws, i, acc, h => by
    have ih := textL_len figs ht n ws (i + 1) (acc ++ pieceL n (turnAt figs i) i w) fun w hw => h w (.tail _ hw)
    have hp := pieceL_len n (turnAt figs i) i w (ht i)
    have := h w (.head _)
    simp only [enumW, List.foldl_cons, List.length_cons]
    rw [List.length_append] at ih
    omega
theorem turnAt_range {figs : List Int} (hf : Dig figs) (k : Int) : 0 ≤ turnAt figs k ∧ turnAt figs k ≤ 9 := by
  unfold turnAt
  have hk := fmod_range k (b := 9) (by decide)
  have := hf.1
  have hlt : (k.fmod 9).toNat < figs.length := by omega
  rw [List.getD_eq_getElem?_getD, List.getElem?_eq_getElem hlt]
  exact hf.2 _ (List.getElem_mem hlt)

noncomputable def baseW (F : List (List Int)) (N txt : List Nat) : Vars := [("figures", figsV F), ("names", namesV N), ("operators", opsV), ("raws", .own 1), ("due", .own 2), ("clauses", .own 3), ("text", .str (S txt)), ("lexer", .own 20)]
noncomputable def H0 (ps : Array Value) : Store := [(30, .raw (tabObj ps))]
theorem law5 {T1 T3 T} (P : PF C T1 T3 T) {N' mN} (X : Env1 C N' mN) {ps} (LF : LexF C ps) {N : List Nat} {F : List (List Int)} {g : List Int} (hg : F[5]? = some g) (hdig : Dig g) {rows : List Row} {r0 : Row} (hr0 : rows[0]? = some r0) (hr : rows.length = 5) (hw : ∀ r ∈ rows, r.w.length ≤ 1000) {Q}
    (q : ∀ ρ' H', Sub (baseW F N (textL g (wsF rows r0))) ρ' → LS H' (1 + nlc (textL g (wsF rows r0))) (textL g (wsF rows r0)) [] 40 → Low (rowsSt rows (H0 ps)) H' → Xs C (d + 4) lawSc ρ' (lawB.drop 10) H' Q) :
    Xs C (d + 4) lawSc (baseV F N) (lawB.drop 8) (rowsSt rows (H0 ps)) Q := by
  have hr0m : r0 ∈ rows := by
    have : 0 < rows.length := by omega
    rw [List.getElem?_eq_getElem this] at hr0
    cases hr0
    exact List.getElem_mem this
  have hwl : ∀ w ∈ wsF rows r0, w.length ≤ 1000 := fun w hw' => by
    unfold wsF at hw'
    rcases List.mem_append.mp hw' with h | h
    · obtain ⟨r, hr', rfl⟩ := List.mem_map.mp h
      exact hw r hr'
    · simp only [List.mem_cons, List.not_mem_nil, or_false] at h
      rcases h with rfl | rfl
      · simp
      · exact hw _ hr0m
  have hwn : (wsF rows r0).length = 7 := by simp [wsF, hr]
  have htl : (textL g (wsF rows r0)).length ≤ 80000 := by
    have := textL_len g (turnAt_range hdig) (wsF rows r0).length (wsF rows r0) 0 [] hwl
    unfold textL
    simp only [List.length_nil] at this
    omega
  refine xs_cons (r_assign (by rfl) (by intro _ _; rfl) (ev_callF P.text (by rfl) (es_cons (ev_bin (r_name (by rfl) (by rfl) (by rfl) (ev_list (es_cons (r_str [] (by decide +kernel) (es_cons ?_)))))))))
  refine ev_sub (r_name (by rfl) (by rfl) (by rfl) (ev_int (itm_own (xs := rows.map fun r => .str (S r.w)) (by rfl) (by decide) (x := .str (S r0.w)) ?_ (by decide) ?_)))
  · rw [List.getElem?_map, show (0 : Int).toNat = 0 from rfl, hr0]; rfl
  refine es_nil ⟨by simp, bin_addL (.own (xs := rows.map fun r => .str (S r.w)) (by rfl)) (.of _) (by simp; omega) ?_⟩
  refine es_cons ?_
  refine ev_sub (r_name (by rfl) (by rfl) (by rfl) (ev_int (itm_list (by decide) (x := .list (g.map V.int)) ?_ (by decide) ?_)))
  · rw [List.getElem?_map, show (5 : Int).toNat = 5 from rfl, hg]; rfl
  have ews : (rows.map fun r => V.str (S r.w)) ++ [V.str (S []), .str (S r0.w)] = (wsF rows r0).map fun w => V.str (S w) := by unfold wsF; rw [List.map_append, List.map_map]; rfl
  rw [ews]
  refine es_nil ⟨rfl, text_ok hdig.1 hdig.2 (by omega) hwl ?_⟩
  obtain ⟨a, o, fd, hg', hB, hdat, ok, hT⟩ := LF.ex
  refine xs_cons (r_assign (by rfl) (by intro _ _; rfl) ?_)
  refine ev_callCode hg' hB hdat (by rfl) (es_cons (r_name (by rfl) (by rfl) (by rfl) (es_nil ?_)))
  refine lexer_code X hB hdat ok hT LF.lam (by rfl) ?_ htl fun H' Lx h22 hlow h30 => ?_
  · intro j h1 h2
    have : j = 20 ∨ j = 21 ∨ j = 22 ∨ j = 23 ∨ j = 24 ∨ j = 25 := (by decide : ∀ j : Nat, j < 26 → 20 ≤ j → j = 20 ∨ j = 21 ∨ j = 22 ∨ j = 23 ∨ j = 24 ∨ j = 25) j (by omega) (by omega)
    rcases this with rfl | rfl | rfl | rfl | rfl | rfl <;> rfl
  · refine q _ H' ⟨by rfl, by rfl, by rfl, by rfl, by rfl, by rfl, by rfl, by rfl, trivial⟩ ⟨?_, h22, fun j hj => ?_, by omega, htl, h30⟩ fun j hj => hlow j (.inl hj)
    · rw [show (1 : Int) + nlc (textL g (wsF rows r0)) - nlc (textL g (wsF rows r0)) = 1 by omega]; exact Lx
    · rw [hlow j (.inr (by omega))]
      have : ∀ k : Nat, k < 40 → (j == k) = false := fun k hk => by simp; omega
      unfold H0
      rw [List.lookup_cons, this 3 (by decide), List.lookup_cons, this 2 (by decide), List.lookup_cons, this 1 (by decide), List.lookup_cons, this 30 (by decide)]; rfl
end Mine
end PartL16

section PartL17
open PySem PySem.W PySem.Calls PyProof.Rows
set_option maxRecDepth 100000
set_option linter.unusedVariables false
namespace Mine
variable {C : Cx} {d : Nat} {sc : Sc} {ρ : Vars} {H : Store}

noncomputable def ReadsTo : List Nat → List (List Nat) → List Nat → Prop
  | cs, [], rest => cs = rest
  | cs, w :: ws, rest => (lexTok cs).1 = w ∧ ReadsTo (lexTok cs).2 ws rest
noncomputable def strL (ws : List (List Nat)) : List V := ws.map fun w => V.str (S w)

theorem comp_get {N' mN} (X : Env1 C N' mN) {p1 p2 p3} (he : CallEq0 (.Name "lexer" p1) "get_token" p2 p3) (hx : nameB sc "lexer" = true) (hv : ρ.lookup ("lexer" : Str) = some (V.own 20)) {tot : Int} {rest : List Nat} {H₁ : Store} {K : Store → Prop} (hK : ∀ H', Low H₁ H' → K H') {Q : List V → Store → Prop} :
    ∀ (vs : List V) (ws : List (List Nat)) (ys : List V) (H : Store) (cs : List Nat) (N : Nat), vs.length = ws.length → LS H tot cs [] N → ReadsTo cs ws rest → ys.length + ws.length ≤ 100 → Low H₁ H →
      (∀ H', LS H' tot rest [] (N + ws.length) → Low H₁ H' → Q (ys ++ strL ws) H') → CompL C (d + 4) sc K ρ "raw" [] (.Call (.Attribute (.Name "lexer" p1) "get_token" p2) [] [] p3) Q vs ys H
  | [], [], ys, H, cs, N, _, L, r, _, hl, q => ⟨hK _ hl, by have r : cs = rest := r; subst r; simpa [strL] using q H L hl⟩
  | v :: vs, w :: ws, ys, H, cs, N, hlen, L, r, hy, hl, q => by
    obtain ⟨r1, r2⟩ := r
    simp only [List.length_cons] at hy
    refine ⟨hK _ hl, tests_nil ⟨fun _ => ?_, fun e => by cases e⟩⟩
    refine ev_getS X he hx (by rw [lookup_put, if_neg (by decide)]; exact hv) (by rfl) L fun H' L' lo => ?_
    rw [r1]
    refine ⟨by omega, comp_get X he hx hv hK vs ws _ H' _ (N + 1) (Nat.succ.inj hlen) L' r2 (by rw [List.length_append, List.length_singleton]; omega) (hl.trans lo) fun H'' L'' lo' => ?_⟩
    have := q H'' (by rw [List.length_cons, show N + (ws.length + 1) = N + 1 + ws.length by omega]; exact L'') lo'
    simpa [strL] using this
theorem comp_push {N' mN} (X : Env1 C N' mN) {p1 p2 p3 p4} (he : CallEq1 (.Name "lexer" p1) "push_token" (.Name "raw" p4) p2 p3) (hx : nameB sc "lexer" = true) (hx2 : nameB sc "raw" = true) (hv : ρ.lookup ("lexer" : Str) = some (V.own 20)) {tot : Int} {cs : List Nat} {H₁ : Store} {K : Store → Prop} (hK : ∀ H', Low H₁ H' → K H') {Q : List V → Store → Prop} {N : Nat} :
    ∀ (ws : List (List Nat)) (ys : List V) (H : Store) (pend : List (List Nat)), LS H tot cs pend N → ys.length + ws.length ≤ 100 → pend.length + ws.length ≤ 1000 → Low H₁ H →
      (∀ H', LS H' tot cs (pend ++ ws) N → Low H₁ H' → Q (ys ++ ws.map fun _ => V.none) H') → CompL C (d + 1) sc K ρ "raw" [] (.Call (.Attribute (.Name "lexer" p1) "push_token" p2) [.Name "raw" p4] [] p3) Q (strL ws) ys H
  | [], ys, H, pend, L, _, _, hl, q => ⟨hK _ hl, by simpa using q H (by simpa using L) hl⟩
  | w :: ws, ys, H, pend, L, hy, hp, hl, q => by
    simp only [List.length_cons] at hy hp
    refine ⟨hK _ hl, tests_nil ⟨fun _ => ?_, fun e => by cases e⟩⟩
    refine ev_push X he hx (by rw [lookup_put, if_neg (by decide)]; exact hv) (by rfl) L (by omega) (r_name hx2 (by rw [lookup_put, if_pos rfl]) (by rfl) ⟨w, rfl, rfl, fun H' L' lo => ?_⟩)
    refine ⟨by omega, comp_push X he hx hx2 hv hK ws _ H' (pend ++ [w]) L' (by rw [List.length_append, List.length_singleton]; omega) (by rw [List.length_append, List.length_singleton]; omega) (hl.trans lo) fun H'' L'' lo' => ?_⟩
    have := q H'' (by simpa using L'') lo'
    simpa using this

theorem law6 {N' mN} (X : Env1 C N' mN) {N : List Nat} {F : List (List Int)} {txt rest : List Nat} {tot : Int} {ws : List (List Nat)} (hread : ReadsTo txt ws rest) (hu : ∀ w ∈ ws, Uni (S w)) (hr : ws.length = 5) (L : LS H tot txt [] 40) (h1 : H.lookup 1 = some (.list (strL ws))) {Q}
    (q : ∀ ρ' H', Sub (baseW F N txt) ρ' → LS H' tot rest ws 45 → Low H H' → Xs C (d + 4) lawSc ρ' (lawB.drop 11) H' Q) : Xs C (d + 4) lawSc (baseW F N txt) (lawB.drop 10) H Q := by
  refine xs_cons (ex_if (tr_bool (all_or (tr_cmp ?_))))
  refine ev_comp (scopeB_ok (by rfl) (by rfl)) rfl (storesB_ok (by rfl)) rfl ?_
  refine src_ev (r_name (by rfl) (by rfl) (by rfl) (itr_own h1 ?_))
  refine comp_get X ⟨_, fun _ => rfl⟩ (by rfl) (by rfl) (H₁ := H) (fun H' lo => by rw [lo 1 (by decide)]; exact h1) _ ws [] H txt 40 (by simp [strL]) L hread (by simp; omega) (Low.refl H) fun H₂ L₂ lo₂ => ?_
  have h1₂ : H₂.lookup 1 = some (.list (strL ws)) := by rw [lo₂ 1 (by decide)]; exact h1
  rw [List.nil_append]
  have es : strL ws = (ws.map S).map V.str := by unfold strL; rw [List.map_map]; rfl
  refine r_name (by rfl) (by rfl) (by rfl) (cmp_neLs (ns := ws.map S) (ms := ws.map S) (by rw [es]; exact .of _) (.own (by rw [← es]; exact h1₂)) (fun x hx => ?_) (fun x hx => ?_) ?_)
  · obtain ⟨w, hw, rfl⟩ := List.mem_map.mp hx; exact hu w hw
  · obtain ⟨w, hw, rfl⟩ := List.mem_map.mp hx; exact hu w hw
  rw [show (ws.map S != ws.map S) = false from by simp]
  refine ⟨fun e => (by cases e), fun _ => ?_⟩
  refine all_or (tr_cmp ?_)
  refine ev_comp (scopeB_ok (by rfl) (by rfl)) rfl (storesB_ok (by rfl)) rfl ?_
  refine src_ev (r_name (by rfl) (by rfl) (by rfl) (itr_own h1₂ ?_))
  refine comp_push X ⟨⟨_, fun _ => rfl⟩, fun _ => rfl⟩ (by rfl) (by rfl) (by rfl) (H₁ := H) (fun H' lo => by rw [lo 1 (by decide)]; exact h1) ws [] H₂ [] L₂ (by simp; omega) (by simp; omega) lo₂ fun H₃ L₃ lo₃ => ?_
  rw [List.nil_append]
  refine ev_bin (ev_list (es_cons (ev_none (es_nil ⟨by simp, ev_int (bin_mulL (by decide) (by decide) (by decide) ?_)⟩))))
  have e5 : (ws.map fun _ => V.none) = [.none, .none, .none, .none, .none] := by
    rw [List.map_const', hr]; rfl
  rw [e5]
  refine cmp_neD (D := .list [.none, .none, .none, .none, .none]) (D' := .list [.none, .none, .none, .none, .none]) (.inl ⟨by rfl, by rfl⟩) (.inl ⟨by rfl, by rfl⟩) (by rfl) (by rfl) (by decide +kernel) ?_
  refine ⟨fun e => absurd e (by decide +kernel), fun _ => all_or_nil ⟨fun e => (by cases e), fun _ => xs_nil ?_⟩⟩
  refine q _ H₃ ⟨by rfl, by rfl, by rfl, by rfl, by rfl, by rfl, by rfl, by rfl, trivial⟩ ?_ lo₃
  rw [hr] at L₃
  simpa using L₃
end Mine
end PartL17

section PartL18
open PySem PySem.W PySem.Calls PyProof.Rows
set_option maxRecDepth 100000
set_option linter.unusedVariables false
namespace Mine
variable {C : Cx} {d : Nat} {sc : Sc} {ρ : Vars} {H : Store}

/-- the clauses' numbers -/
noncomputable def allC : List Int := (List.range 256).map fun k : Nat => 17 * ((k % 16 : Nat) : Int) + 256 * ((k / 16 : Nat) : Int)
structure Mch where
  due : List Row
  pure : List Int
  mixed : List Int
noncomputable def bitF (minus : Int) : Int := ([1, 2, 4, 8].filter fun b => Builtin.bitAnd (minus.fdiv 256) b != 0).getD 0 0
noncomputable def freshF (plus minus : Int) : Int := 17 * Builtin.bitOr (plus.fdiv 17 - bitF minus) ((minus.fmod 256).fdiv 17) + 256 * (minus.fdiv 256 - bitF minus)
noncomputable def partF (part : Int) : List Int := ((List.range 4).filter fun s : Nat => (part.fdiv (2 ^ s)).fmod 2 == 1).map fun s : Nat => (s : Int)
noncomputable def mkRow (N : List Nat) (n : Nat) (fresh : Int) : Row :=
  { rowG N ((n : Int).fmod 48) (partF (fresh.fdiv 256)) (partF ((fresh.fmod 256).fdiv 17)) ((n : Int).fmod 10) (7 * (n : Int)) with c := fresh }
noncomputable def addRow (N : List Nat) (c : Int) (due : List Row) (one : Int) : List Row :=
  let plus := if one < c then one else c
  let minus := if one > c then one else c
  if Builtin.bitAnd (plus.fdiv 17) (bitF minus) == 0 then due else if due.any (·.c == freshF plus minus) then due else due ++ [mkRow N due.length (freshF plus minus)]
noncomputable def newB (m : Mch) (c : Int) : Bool := Builtin.bitAnd (c.fdiv 256) ((c.fmod 256).fdiv 17) == 0 && !((m.pure ++ m.mixed).any (· == c))
noncomputable def stepM (N : List Nat) (m : Mch) (c : Int) : Mch :=
  if newB m c then
    let due := (if c < 256 then m.mixed else m.pure).foldl (addRow N c) m.due
    if 256 ≤ c then ⟨due, m.pure, m.mixed ++ [c]⟩ else ⟨due, m.pure ++ [c], m.mixed⟩
  else m

/-- what is asked of a word -/
structure Good (T1 : Int → Bool) (T3 : Int → Option Str) (T : Str → Option Int) (N : List Nat) (r : Row) : Prop where
  ne : r.w ≠ []
  pl : plainS T1 T3 r.w = S r.said
  sg : T (S (sidesF N r.said).sg) = some r.num
  cl : clauseI r.num (sidesF N r.said) = r.c
  lw : r.w.length ≤ 1000
  ls : r.said.length ≤ 20
  lb : ∀ c ∈ r.w, T1 c = false → (b3S T3 c).length ≤ 20
  uw : Uni (S r.w)
  us : Uni (S r.said)
  ok : r.c ∈ allC
/-- the store in the main loop -/
structure MS (H : Store) (rows : List Row) (m : Mch) (told : List Row) (tot : Int) (cs : List Nat) (pend : List Row) (K : Nat) : Prop where
  l1 : H.lookup 1 = some (.list (strL (rows.map (·.w))))
  l2 : H.lookup 2 = some (.list (m.due.map Row.v))
  l3 : H.lookup 3 = some (.list ((rows.map (·.c)).map V.int))
  l4 : H.lookup 4 = some (.list (told.map Row.v))
  l5 : H.lookup 5 = some (.list (m.pure.map V.int))
  l6 : H.lookup 6 = some (.list (m.mixed.map V.int))
  l7 : ∃ n, H.lookup 7 = some (.set (fun i => m.due.any (·.c == i)) n) ∧ n ≤ m.due.length
  ls : LS H tot cs (pend.map (·.w)) K
noncomputable def vW (N txt wd : List Nat) : Vars := [("names", namesV N), ("operators", opsV), ("raws", .own 1), ("due", .own 2), ("clauses", .own 3), ("text", .str (S txt)), ("lexer", .own 20), ("told", .own 4), ("pure", .own 5), ("mixed", .own 6), ("seen", .own 7), ("word", .str (S wd))]

theorem LS.cons {tot cs pend K k ov} (L : LS H tot cs pend K) (hk : k < 20) : LS ((k, ov) :: H) tot cs pend K := by
  have e : ∀ j, j ≠ k → ((k, ov) :: H : Store).lookup j = H.lookup j := fun j hj => lk_ne hj
  have hb := L.big
  exact ⟨⟨by rw [e _ (by omega)]; exact L.lx.lex, by rw [e _ (by omega)]; exact L.lx.stm, by rw [e _ (by omega)]; exact L.lx.left, by rw [e _ (by omega)]; exact L.lx.lam⟩,
    by rw [e _ (by omega)]; exact L.pb, fun j hj => by rw [e _ (by omega)]; exact L.free j hj, hb, L.len, TabH.of (e 30 (by omega)) L.tab⟩
theorem LS.upd {tot cs pend K k ov} (L : LS H tot cs pend K) (hk : k < 20) : LS (Mine.upd k ov H) tot cs pend K := by
  have e : ∀ j, j ≠ k → (Mine.upd k ov H).lookup j = H.lookup j := fun j hj => by rw [lookup_upd, if_neg hj]
  have hb := L.big
  exact ⟨⟨by rw [e _ (by omega)]; exact L.lx.lex, by rw [e _ (by omega)]; exact L.lx.stm, by rw [e _ (by omega)]; exact L.lx.left, by rw [e _ (by omega)]; exact L.lx.lam⟩,
    by rw [e _ (by omega)]; exact L.pb, fun j hj => by rw [e _ (by omega)]; exact L.free j hj, hb, L.len, TabH.of (e 30 (by omega)) L.tab⟩

theorem law7 {N' mN} (X : Env1 C N' mN) {N : List Nat} {F : List (List Int)} {txt cs : List Nat} {tot : Int} {r : Row} {rs : List Row} (hn : (r :: rs).length = 5) (L : LS H tot cs ((r :: rs).map (·.w)) 45) (h1 : H.lookup 1 = some (.list (strL ((r :: rs).map (·.w))))) (h2 : H.lookup 2 = some (.list ((r :: rs).map Row.v)))
    (h3 : H.lookup 3 = some (.list (((r :: rs).map (·.c)).map V.int))) (hf : ∀ j, 4 ≤ j → j < 20 → (H.lookup j).isSome = false) {Q}
    (q : ∀ ρ' H', Sub (vW N txt r.w) ρ' → MS H' (r :: rs) ⟨r :: rs, [], []⟩ [] tot cs rs 45 → Xs C (d + 4) lawSc ρ' (lawB.drop 14) H' Q) : Xs C (d + 4) lawSc (baseW F N txt) (lawB.drop 11) H Q := by
  refine xs_cons (ex_assignT (.cons (.cons (.cons .nil))) (by intro x hx; simp only [List.mem_cons, List.not_mem_nil, or_false] at hx; rcases hx with rfl | rfl | rfl <;> exact storesB_ok (by rfl)) ?_ (hw := fun env h1 h2 => sw_none h1 h2 (by rfl)))
  refine ev_tuple (es_cons (ev_listO 4 (es_nil ⟨by simp, hf 4 (by decide) (by decide), es_cons (ev_listO 5 (es_nil ⟨by simp, ?_, es_cons (ev_listO 6 (es_nil ⟨by simp, ?_, es_nil ⟨by simp, _, .inl rfl, rfl, ?_⟩⟩))⟩))⟩)))
  · rw [lk_ne (by decide)]; exact hf 5 (by decide) (by decide)
  · rw [lk_ne (by decide), lk_ne (by decide)]; exact hf 6 (by decide) (by decide)
  have e3 : ∀ j, j ≠ 4 → j ≠ 5 → j ≠ 6 → ((6, OV.list []) :: (5, OV.list []) :: (4, OV.list []) :: H : Store).lookup j = H.lookup j := fun j a b c => by rw [lk_ne c, lk_ne b, lk_ne a]
  refine xs_cons (r_assign (by rfl) (by intro _ _; rfl) ?_)
  refine ev_callT "set" (by decide +kernel) (by rfl) (es_cons (r_name (by rfl) (by rfl) (by rfl) (es_nil (callv_set 7 (ns := (r :: rs).map (·.c)) (.own ?_) ?_ ?_ fun n hle => ?_))))
  · rw [e3 3 (by decide) (by decide) (by decide)]; exact h3
  · rw [List.length_map, hn]; decide +kernel
  · rw [e3 7 (by decide) (by decide) (by decide)]; exact hf 7 (by decide) (by decide)
  have L4 := (((L.cons (k := 4) (ov := .list []) (by decide)).cons (k := 5) (ov := .list []) (by decide)).cons (k := 6) (ov := .list []) (by decide)).cons (k := 7) (ov := .set (fun i => ((r :: rs).map (·.c)).any (· == i)) n) (by decide)
  refine xs_cons (r_assign (by rfl) (by intro _ _; rfl) ?_)
  refine ev_getP X ⟨_, fun _ => rfl⟩ (by rfl) (by rfl) (by rfl) L4 (by simp at hn ⊢; omega) fun H' L' lo => ?_
  refine q _ H' ⟨by rfl, by rfl, by rfl, by rfl, by rfl, by rfl, by rfl, by rfl, by rfl, by rfl, by rfl, by rfl, trivial⟩ ⟨?_, ?_, ?_, ?_, ?_, ?_, ⟨n, ?_, ?_⟩, L'⟩
  · rw [lo 1 (by decide), lk_ne (by decide), e3 1 (by decide) (by decide) (by decide)]; exact h1
  · rw [lo 2 (by decide), lk_ne (by decide), e3 2 (by decide) (by decide) (by decide)]; exact h2
  · rw [lo 3 (by decide), lk_ne (by decide), e3 3 (by decide) (by decide) (by decide)]; exact h3
  · rw [lo 4 (by decide)]; rfl
  · rw [lo 5 (by decide)]; rfl
  · rw [lo 6 (by decide)]; rfl
  · rw [lo 7 (by decide), lk0]
    congr 2
    funext i
    rw [List.any_map]; rfl
  · rw [List.length_map] at hle; exact hle
end Mine
end PartL18

section PartL19
open PySem PySem.W PySem.Calls PyProof.Rows
set_option maxRecDepth 100000
set_option linter.unusedVariables false
namespace Mine
variable {C : Cx} {d : Nat} {sc : Sc} {ρ : Vars} {H : Store}

theorem loop_indP {x : Str} {body : List Stmt} {K : Store → Prop} {Q : Fl → Vars → Store → Prop} (W : List V → Vars → Store → Prop) (hK : ∀ vs ρ H, W vs ρ H → K H)
    (step : ∀ v vs ρ H, W (v :: vs) ρ H → Xs C d sc (put x v ρ) body H fun f ρ' H' => (f = .next ∨ f = .cont) ∧ W vs ρ' H') (fin : ∀ ρ H, W [] ρ H → Q .next ρ H) :
    ∀ (vs : List V) (ρ : Vars) (H : Store), W vs ρ H → Loop C d sc K (put x) body Q vs ρ H
  | [], ρ, H, w => ⟨hK _ _ _ w, fin _ _ w⟩
  | v :: vs, ρ, H, w => ⟨hK _ _ _ w, (step v vs ρ H w).mono fun f ρ' H' ⟨e, w'⟩ => by
      have := loop_indP W hK step fin vs ρ' H' w'
      rcases e with rfl | rfl <;> exact this⟩

noncomputable def vI (N txt wd : List Nat) (c : Int) : Vars := [("names", namesV N), ("operators", opsV), ("raws", .own 1), ("due", .own 2), ("clauses", .own 3), ("text", .str (S txt)), ("lexer", .own 20), ("told", .own 4), ("pure", .own 5), ("mixed", .own 6), ("seen", .own 7), ("word", .str (S wd)), ("clause", .int c)]
noncomputable def whileBody : List Stmt := match lawB.getD 14 (.Pass ⟨0, 0, 0, 0⟩) with | .While _ b _ _ => b | _ => []
noncomputable def newBody : List Stmt := match whileBody.getD 3 (.Pass ⟨0, 0, 0, 0⟩) with | .If _ b _ _ => b | _ => []
noncomputable def resBody : List Stmt := match newBody.getD 0 (.Pass ⟨0, 0, 0, 0⟩) with | .For _ _ b _ _ => b | _ => []

/-- of two clauses -/
structure Pair (c one : Int) : Prop where
  bit : ([1, 2, 4, 8].filter fun b => Builtin.bitAnd ((if one > c then one else c).fdiv 256) b != 0) ≠ []
  fresh : Builtin.bitAnd ((if one < c then one else c).fdiv 17) (bitF (if one > c then one else c)) ≠ 0 → freshF (if one < c then one else c) (if one > c then one else c) ∈ allC

theorem MS.upd2 {rows m told tot cs pend K r} (h : MS H rows m told tot cs pend K) {n : Nat} (hnew : (m.due.any (·.c == r.c)) = false) (hn : H.lookup 7 = some (.set (fun i => m.due.any (·.c == i)) n)) (hle : n ≤ m.due.length) :
    MS (Mine.upd 2 (.list (m.due.map Row.v ++ [r.v])) (Mine.upd 7 (.set (fun j => m.due.any (·.c == j) || decide (j = r.c)) (n + 1)) H)) rows { m with due := m.due ++ [r] } told tot cs pend K := by
  have o : ∀ j, j ≠ 2 → j ≠ 7 → (Mine.upd 2 (.list (m.due.map Row.v ++ [r.v])) (Mine.upd 7 (.set (fun j => m.due.any (·.c == j) || decide (j = r.c)) (n + 1)) H)).lookup j = H.lookup j := fun j h1 h2 => by rw [lookup_upd, if_neg h1, lookup_upd, if_neg h2]
  refine ⟨by rw [o _ (by decide) (by decide)]; exact h.l1, ?_, by rw [o _ (by decide) (by decide)]; exact h.l3, by rw [o _ (by decide) (by decide)]; exact h.l4, by rw [o _ (by decide) (by decide)]; exact h.l5, by rw [o _ (by decide) (by decide)]; exact h.l6, ⟨n + 1, ?_, ?_⟩, (h.ls.upd (by decide)).upd (by decide)⟩
  · rw [lookup_upd, if_pos rfl, List.map_append]; rfl
  · rw [lookup_upd, if_neg (by decide), lookup_upd, if_pos rfl]
    congr 2
    funext i
    rw [List.any_append]
    simp only [List.any_cons, List.any_nil, Bool.or_false]
    congr 1
    rw [Bool.eq_iff_iff, beq_iff_eq, decide_eq_true_iff]
    exact eq_comm
  · show n + 1 ≤ (m.due ++ [r]).length
    rw [List.length_append, List.length_singleton]; omega

theorem sum_ones {α : Type} (l : List α) : (l.map fun _ => 1).sum = l.length := by
  induction l with
  | nil => rfl
  | cons x l ih => rw [List.map_cons, List.sum_cons, ih, List.length_cons]; omega
theorem part_len (p : Int) : (partF p).length ≤ 4 := by
  unfold partF
  rw [List.length_map]
  exact Nat.le_trans (List.length_filter_le _ _) (by simp)

theorem MS.low {rows m told tot cs pend pend' K K' H'} (h : MS H rows m told tot cs pend K) (lo : Low H H') (L : LS H' tot cs (pend'.map (·.w)) K') : MS H' rows m told tot cs pend' K' :=
  ⟨by rw [lo _ (by decide)]; exact h.l1, by rw [lo _ (by decide)]; exact h.l2, by rw [lo _ (by decide)]; exact h.l3, by rw [lo _ (by decide)]; exact h.l4, by rw [lo _ (by decide)]; exact h.l5, by rw [lo _ (by decide)]; exact h.l6, by rw [lo _ (by decide)]; exact h.l7, L⟩
theorem callv_addNew {k : Nat} {i : Int} {St : Int → Bool} {n : Nat} {Q} (hk : H.lookup k = some (.set St n)) (hb : n + 1 < scanBound) (hS : St i = false) (q : Q .none (Mine.upd k (.set (fun j => St j || decide (j = i)) (n + 1)) H)) :
    CallV C d (.builtin "set.add") [.own k, .int i] H Q := callv_add hk hb (by rw [if_neg (by rw [hS]; decide)]; exact q)
theorem join_ok (N : List Nat) (l : List Int) (hl : l.length ≤ 4) : ((l.map fun s => S [N.getD s.toNat 0]).map (·.length)).sum + (l.map fun s => S [N.getD s.toNat 0]).length * (S []).length ≤ 16777216 := by
  have e : (l.map fun s => S [N.getD s.toNat 0]).map (·.length) = l.map fun _ => 1 := by rw [List.map_map]; apply List.map_congr_left; intro s _; exact S_len _
  rw [e, S_len, sum_ones, List.length_nil, Nat.mul_zero]; omega
theorem join_nm (N : List Nat) (l : List Int) : Txt.join (S []) (l.map fun s => S [N.getD s.toNat 0]) = S (nmF N l) := by
  have := join_nil (nmF N l)
  unfold nmF at this ⊢
  rwa [List.map_map] at this
theorem nmF_len (N : List Nat) (l : List Int) : (nmF N l).length = l.length := by unfold nmF; rw [List.length_map]
theorem mkRow_said (N : List Nat) (n : Nat) (fresh : Int) : ∃ A B : List Nat, A.length ≤ 4 ∧ B.length ≤ 4 ∧ ([fresh.fdiv 256, (fresh.fmod 256).fdiv 17].map fun p => V.str (S (nmF N (partF p))))[(((n : Int).fmod 48).fmod 2).toNat]? = some (.str (S A)) ∧
    ([fresh.fdiv 256, (fresh.fmod 256).fdiv 17].map fun p => V.str (S (nmF N (partF p))))[(1 - ((n : Int).fmod 48).fmod 2).toNat]? = some (.str (S B)) ∧ (mkRow N n fresh).said = A ++ opF ((n : Int).fmod 48) ++ B := by
  have h2 := fmod_range ((n : Int).fmod 48) (b := 2) (by decide)
  have l1 := part_len (fresh.fdiv 256)
  have l2 := part_len ((fresh.fmod 256).fdiv 17)
  by_cases h : ((n : Int).fmod 48).fmod 2 = 0
  · refine ⟨nmF N (partF (fresh.fdiv 256)), nmF N (partF ((fresh.fmod 256).fdiv 17)), by rw [nmF_len]; exact l1, by rw [nmF_len]; exact l2, by rw [h]; rfl, by rw [h]; rfl, ?_⟩
    unfold mkRow rowG
    simp only [if_pos h]
  · have h1 : ((n : Int).fmod 48).fmod 2 = 1 := by omega
    refine ⟨nmF N (partF ((fresh.fmod 256).fdiv 17)), nmF N (partF (fresh.fdiv 256)), by rw [nmF_len]; exact l2, by rw [nmF_len]; exact l1, by rw [h1]; rfl, by rw [h1]; rfl, ?_⟩
    unfold mkRow rowG
    simp only [if_neg h]

set_option maxHeartbeats 8000000 in
theorem res_turn {T1 T3 T} (P : PF C T1 T3 T) (PLw : PL) {N' mN} (X : Env1 C N' mN) {N txt wd : List Nat} (hN : N.length = 4) {c one : Int} (hp : Pair c one) {rows m told tot cs pend K} (h : MS H rows m told tot cs pend K) (hlen : m.due.length ≤ 400) (hpl : pend.length ≤ 400) {Q : Fl → Vars → Store → Prop}
    (q : ∀ f ρ' H' new, f = .next ∨ f = .cont → addRow N c m.due one = m.due ++ new → Sub (vI N txt wd c) ρ' → MS H' rows { m with due := m.due ++ new } told tot cs (pend ++ new) K → Q f ρ' H') :
    Xs C (d + 4) lawSc (put "one" (.int one) (vI N txt wd c)) resBody H Q := by
  refine xs_cons (ex_assignT (.cons (.cons .nil)) (by intro x hx; simp only [List.mem_cons, List.not_mem_nil, or_false] at hx; rcases hx with rfl | rfl <;> exact storesB_ok (by rfl)) ?_ (hw := fun env h1 h2 => sw_none h1 h2 (by rfl)))
  refine ev_tuple (es_cons (ev_callB "min" (by decide +kernel) (by rfl) (es_cons (r_name (by rfl) (by rfl) (by rfl) (es_cons (r_name (by rfl) (by rfl) (by rfl) (es_nil (callv_min ?_))))))))
  refine es_cons (ev_callB "max" (by decide +kernel) (by rfl) (es_cons (r_name (by rfl) (by rfl) (by rfl) (es_cons (r_name (by rfl) (by rfl) (by rfl) (es_nil (callv_max ?_)))))))
  refine es_nil ⟨by simp, _, .inl rfl, rfl, ?_⟩
  have hb := hp.bit
  have hfr := hp.fresh
  have hadd : addRow N c m.due one = if Builtin.bitAnd ((if one < c then one else c).fdiv 17) (bitF (if one > c then one else c)) == 0 then m.due else if m.due.any (·.c == freshF (if one < c then one else c) (if one > c then one else c)) then m.due else m.due ++ [mkRow N m.due.length (freshF (if one < c then one else c) (if one > c then one else c))] := rfl
  generalize (if one < c then one else c) = plus at *
  generalize (if one > c then one else c) = minus at *
  refine xs_cons (r_assign (by rfl) (by intro _ _; rfl) ?_)
  refine ev_sub ?_
  refine ev_comp (scopeB_ok (by rfl) (by rfl)) rfl (storesB_ok (by rfl)) rfl ?_
  refine src_ev (ev_tuple (es_cons (ev_int (es_cons (ev_int (es_cons (ev_int (es_cons (ev_int (es_nil ⟨by simp, itr_tup ?_⟩))))))))))
  refine compL_map V.int (fun b => Builtin.bitAnd (minus.fdiv 256) b != 0) V.int trivial [1, 2, 4, 8] [] (by simp) (fun b _ => ⟨tests_one (tr_cmp (ev_bin (ev_bin (r_name (by rfl) (by rfl) (by rfl) (ev_int (bin_div (by decide) (by decide) (r_name (by rfl) (by rfl) (by rfl) (bin_and (ev_int (cmp_ne ⟨rfl, rfl⟩)))))))))), fun _ => r_name (by rfl) (by rfl) (by rfl) ⟨rfl, rfl⟩⟩) ?_
  rw [List.nil_append]
  refine ev_int (itm_list (by decide) (x := .int (bitF minus)) ?_ (by decide) ?_)
  · unfold bitF
    rw [show (0 : Int).toNat = 0 from rfl, List.getElem?_map]
    cases hl : [1, 2, 4, 8].filter (fun b => Builtin.bitAnd (minus.fdiv 256) b != 0) with
    | nil => exact absurd hl hb
    | cons x xs => rfl
  generalize hbit : bitF minus = bit at *
  refine xs_cons (ex_if (tr_cmp (ev_bin (ev_bin (r_name (by rfl) (by rfl) (by rfl) (ev_int (bin_div (by decide) (by decide) (r_name (by rfl) (by rfl) (by rfl) (bin_and (ev_int (cmp_eq ?_)))))))))))
  refine ⟨fun e => ?_, fun e => xs_nil ?_⟩
  · rw [if_pos e] at hadd
    refine xs_cons (ex_cont (q _ _ H [] (.inr rfl) (by rw [hadd, List.append_nil]) ⟨by rfl, by rfl, by rfl, by rfl, by rfl, by rfl, by rfl, by rfl, by rfl, by rfl, by rfl, by rfl, by rfl, trivial⟩ ?_))
    rw [List.append_nil, List.append_nil]; exact h
  rw [if_neg (by rw [e]; decide)] at hadd
  have hfr := hfr (by intro e'; rw [e'] at e; exact absurd e (by decide))
  refine xs_cons (r_assign (by rfl) (by intro _ _; rfl) ?_)
  refine ev_bin (ev_bin (ev_int (ev_bin (ev_bin (ev_bin (r_name (by rfl) (by rfl) (by rfl) (ev_int (bin_div (by decide) (by decide) (r_name (by rfl) (by rfl) (by rfl) (bin_sub ?_))))))))))
  refine ev_bin (ev_bin (r_name (by rfl) (by rfl) (by rfl) (ev_int (bin_mod (by decide) (ev_int (bin_div (by decide) (by decide) (bin_or (bin_mul (mul_okL (by decide) (by decide)) ?_))))))))
  refine ev_bin (ev_int (ev_bin (ev_bin (r_name (by rfl) (by rfl) (by rfl) (ev_int (bin_div (by decide) (by decide) (r_name (by rfl) (by rfl) (by rfl) (bin_sub (bin_mul (mul_okL (by decide) (by decide)) (bin_add ?_)))))))))) 
  have efr : 17 * Builtin.bitOr (plus.fdiv 17 - bit) ((minus.fmod 256).fdiv 17) + 256 * (minus.fdiv 256 - bit) = freshF plus minus := by unfold freshF; rw [hbit]
  rw [efr]
  generalize freshF plus minus = fresh at *
  obtain ⟨n, hn7, hnle⟩ := h.l7
  have hsb : n + 1 < scanBound := by
    have : (402 : Nat) < scanBound := by decide +kernel
    omega
  refine xs_cons (ex_if (tr_cmp (r_name (by rfl) (by rfl) (by rfl) (r_name (by rfl) (by rfl) (by rfl) (cmp_notinSet hn7 (by omega) ?_)))))
  refine ⟨fun e => ?_, fun e => xs_nil (xs_nil ?_)⟩
  rotate_left
  · have e : m.due.any (·.c == fresh) = true := by simpa using e
    rw [if_pos e] at hadd
    refine q _ _ H [] (.inl rfl) (by rw [hadd, List.append_nil]) ⟨by rfl, by rfl, by rfl, by rfl, by rfl, by rfl, by rfl, by rfl, by rfl, by rfl, by rfl, by rfl, by rfl, trivial⟩ ?_
    rw [List.append_nil, List.append_nil]; exact h
  have e : m.due.any (·.c == fresh) = false := by simpa using e
  rw [if_neg (by rw [e]; decide)] at hadd
  have hMS := h.upd2 (r := mkRow N m.due.length fresh) (n := n) e hn7 hnle
  have hrv : (mkRow N m.due.length fresh).v = .list [.str (wordS (S (mkRow N m.due.length fresh).said) ((m.due.length : Int).fmod 10) (7 * (m.due.length : Int))), .str (S (mkRow N m.due.length fresh).said), .int (7 + (m.due.length : Int).fmod 48)] := by
    show V.list [.str (S (wordS (S (mkRow N m.due.length fresh).said) ((m.due.length : Int).fmod 10) (7 * (m.due.length : Int))).cps.toList), _, _] = _
    rw [S_toList]; rfl
  obtain ⟨A, B, hA4, hB4, hA, hB, hsd⟩ := mkRow_said N m.due.length fresh
  have hpl48 := fmod_range (m.due.length : Int) (b := 48) (by decide)
  have hopl := opF_len hpl48
  have hsl : (mkRow N m.due.length fresh).said.length ≤ 11 := by rw [hsd, List.length_append, List.length_append]; omega
  obtain ⟨lg1, lg2⟩ := PLw.lig (mkRow N m.due.length fresh).said ((m.due.length : Int).fmod 10) (by omega)
  have hf10 := fmod_range (m.due.length : Int) (b := 10) (by decide)
  have hc : (mkRow N m.due.length fresh).c = fresh := rfl
  rw [hc] at hMS
  generalize mkRow N m.due.length fresh = row at *
  have hlen' : (m.due.map Row.v).length = m.due.length := List.length_map ..
  have h2a : H.lookup 2 = some (.list (m.due.map Row.v)) := h.l2
  refine xs_cons (ex_expr (ev_meth1 PySem.F.plainAttrs_set PySem.F.slot_set_add PySem.F.type_set_add (r_name (by rfl) (by rfl) (by rfl) ⟨.set hn7, es_cons (r_name (by rfl) (by rfl) (by rfl) (es_nil (callv_addNew hn7 hsb e ?_)))⟩)))
  have h2b : (Mine.upd 7 (.set (fun j => m.due.any (·.c == j) || decide (j = fresh)) (n + 1)) H).lookup 2 = some (.list (m.due.map Row.v)) := by rw [lookup_upd, if_neg (by decide)]; exact h2a
  generalize (Mine.upd 7 (.set (fun j => m.due.any (·.c == j) || decide (j = fresh)) (n + 1)) H) = H₁ at *
  refine xs_cons (r_assign (by rfl) (by intro _ _; rfl) (ev_bin ?_))
  refine ev_callB "len" (by decide +kernel) (by rfl) (es_cons (r_name (by rfl) (by rfl) (by rfl) (es_nil (callv_lenL (.own h2b) (by omega) ?_))))
  rw [hlen']
  refine ev_int (bin_mod (by decide) ?_)
  refine xs_cons (ex_assignC (storesB_ok (by rfl)) (scopeB_ok (by rfl) (by rfl)) rfl (storesB_ok (by rfl)) rfl ?_ (fun env h1 h2 => sw_comp h1 h2 (by rfl)))
  refine src_ev (ev_tuple (es_cons (ev_bin (r_name (by rfl) (by rfl) (by rfl) (ev_int (bin_div (by decide) (by decide) (es_cons (ev_bin (ev_bin ?_)))))))))
  refine r_name (by rfl) (by rfl) (by rfl) (ev_int (bin_mod (by decide) (ev_int (bin_div (by decide) (by decide) (es_nil ⟨by simp, itr_tup ?_⟩)))))
  refine compL_map' V.int (fun p => V.str (S (nmF N (partF p)))) trivial [fresh.fdiv 256, (fresh.fmod 256).fdiv 17] (by simp) (fun p _ => ?_) rfl ?_
  · refine ev_meth1 PySem.F.plainAttrs_str PySem.F.slot_str_join PySem.F.type_str_join (r_str [] (by decide +kernel) ⟨.str _, es_cons ?_⟩)
    refine ev_comp (scopeB_ok (by rfl) (by rfl)) rfl (storesB_ok (by rfl)) rfl ?_
    refine src_range (by rfl) (ev_int ⟨4, rfl, by decide, ?_⟩)
    refine compL_map (fun s : Nat => V.int s) (fun s : Nat => (p.fdiv (2 ^ s)).fmod 2 == 1) (fun s : Nat => V.str (S [N.getD ((s : Int)).toNat 0])) trivial _ [] (by simp) (fun s hs => ?_) ?_
    · have hs : s < 4 := List.mem_range.mp hs
      have hs' : s = 0 ∨ s = 1 ∨ s = 2 ∨ s = 3 := (by decide : ∀ s : Nat, s < 4 → s = 0 ∨ s = 1 ∨ s = 2 ∨ s = 3) s hs
      refine ⟨tests_one (tr_cmp (ev_bin (ev_bin (r_name (by rfl) (by rfl) (by rfl) (ev_bin (ev_int (r_name (by rfl) (by rfl) (by rfl) (bin_pow (by omega) (pow_ok2 (by omega) (by omega)) ?_)))))))), fun _ => ev_sub (r_name (by rfl) (by rfl) (by rfl) (r_name (by rfl) (by rfl) (by rfl) (itm_list (by omega) (names_get hN (by omega)) (by omega) ⟨rfl, rfl⟩)))⟩
      rw [Int.toNat_natCast]
      refine bin_div ?_ ?_ (ev_int (bin_mod (by decide) (ev_int (cmp_eq ⟨rfl, rfl⟩))))
      · rcases hs' with rfl | rfl | rfl | rfl <;> decide
      · rcases hs' with rfl | rfl | rfl | rfl <;> decide
    · have ev : (((List.range 4).filter fun s : Nat => (p.fdiv (2 ^ s)).fmod 2 == 1).map fun s : Nat => V.str (S [N.getD ((s : Int)).toNat 0])) = ((partF p).map fun s => S [N.getD s.toNat 0]).map V.str := by
        unfold partF; rw [List.map_map, List.map_map]; rfl
      rw [List.nil_append, ev]
      refine es_nil (callv_join (.of _) (join_ok N _ (part_len p)) ?_)
      rw [join_nm]
      exact ⟨rfl, rfl⟩
  have h2r := fmod_range ((m.due.length : Int).fmod 48) (b := 2) (by decide)
  generalize ([fresh.fdiv 256, (fresh.fmod 256).fdiv 17].map fun p => V.str (S (nmF N (partF p)))) = sidesL at *
  generalize hplace : (m.due.length : Int).fmod 48 = place at *
  refine xs_cons (r_assign (by rfl) (by intro _ _; rfl) (ev_bin (ev_bin ?_)))
  refine ev_sub (r_name (by rfl) (by rfl) (by rfl) ?_)
  refine ev_bin (r_name (by rfl) (by rfl) (by rfl) (ev_int (bin_mod (by decide) (itm_list h2r.1 hA (by omega) ?_))))
  refine ev_sub (r_name (by rfl) (by rfl) (by rfl) (r_name (by rfl) (by rfl) (by rfl) (itm_list hpl48.1 (opsL_get hpl48) (by omega) (bin_cat (by rw [S_len, S_len]; omega) ?_))))
  rw [S_app]
  refine ev_sub (r_name (by rfl) (by rfl) (by rfl) ?_)
  refine ev_bin (ev_int (ev_bin ?_))
  refine r_name (by rfl) (by rfl) (by rfl) (ev_int (bin_mod (by decide) (bin_sub (itm_list (by omega) hB (by omega) (bin_cat (by rw [S_len, S_len, List.length_append]; omega) ?_)))))
  rw [S_app, ← hsd]
  refine xs_cons (ex_expr (ev_meth1 PySem.F.plainAttrs_list PySem.F.slot_list_append PySem.F.type_list_append (r_name (by rfl) (by rfl) (by rfl) ⟨.list (.own h2b), es_cons (ev_list (es_cons ?_))⟩)))
  refine ev_callF P.word (by rfl) (es_cons (r_name (by rfl) (by rfl) (by rfl) (es_cons (ev_bin ?_))))
  refine ev_callB "len" (by decide +kernel) (by rfl) (es_cons (r_name (by rfl) (by rfl) (by rfl) (es_nil (callv_lenL (.own h2b) (by omega) ?_))))
  rw [hlen']
  refine ev_int (bin_mod (by decide) (es_cons (ev_bin (ev_int ?_))))
  refine ev_callB "len" (by decide +kernel) (by rfl) (es_cons (r_name (by rfl) (by rfl) (by rfl) (es_nil (callv_lenL (.own h2b) (by omega) ?_))))
  rw [hlen']
  refine bin_mul (mul_okL (by decide) (by decide)) (es_nil ⟨rfl, word_ok (by omega) (by omega) (by rw [S_len]; omega) lg1 lg2 ?_⟩)
  refine es_cons (r_name (by rfl) (by rfl) (by rfl) (es_cons (ev_bin (ev_int (r_name (by rfl) (by rfl) (by rfl) (bin_add (es_nil ⟨by simp, ?_⟩)))))))
  rw [← hrv]
  refine es_nil (callv_append h2b (by omega) ?_)
  generalize (Mine.upd 2 (.list (m.due.map Row.v ++ [row.v])) H₁) = H₂ at *
  refine xs_cons (ex_expr (ev_push X ⟨⟨_, fun _ => rfl⟩, fun _ => rfl⟩ (by rfl) (by rfl) (by rfl) hMS.ls (by rw [List.length_map]; omega) ?_))
  refine ev_sub ?_
  refine ev_sub (r_name (by rfl) (by rfl) (by rfl) (ev_neg (ev_int ⟨1, rfl, itm_ownN hMS.l2 (by decide) ?_ (x := row.v) ?_ (by decide) ?_⟩)))
  · show -(((m.due ++ [row]).map Row.v).length : Int) ≤ -1
    rw [List.length_map, List.length_append, List.length_singleton]; omega
  · show (((m.due ++ [row]).map Row.v))[(-1 + (((m.due ++ [row]).map Row.v).length : Int)).toNat]? = some row.v
    rw [List.length_map, List.length_append, List.length_singleton, List.getElem?_map, show (-1 + ((m.due.length + 1 : Nat) : Int)).toNat = m.due.length by omega]
    simp
  refine ev_int (itm_list (by decide) (by rfl) (by decide) ⟨row.w, rfl, rfl, fun H' L' lo => ?_⟩)
  refine xs_nil (xs_nil (q _ _ H' [row] (.inl rfl) hadd ⟨by rfl, by rfl, by rfl, by rfl, by rfl, by rfl, by rfl, by rfl, by rfl, by rfl, by rfl, by rfl, by rfl, trivial⟩ (hMS.low lo ?_)))
  rw [List.map_append]; exact L'
end Mine
end PartL19

section PartL20
open PySem PySem.W PySem.Calls PyProof.Rows
set_option maxRecDepth 100000
set_option linter.unusedVariables false
namespace Mine
variable {C : Cx} {d : Nat} {sc : Sc} {ρ : Vars} {H : Store}

noncomputable def remC (due : List Row) : Nat := (allC.filter fun v => !due.any (·.c == v)).length
theorem filter_lt {α : Type} (p q : α → Bool) (hpq : ∀ x, q x = true → p x = true) : ∀ (l : List α) (x : α), x ∈ l → p x = true → q x = false → (l.filter q).length + 1 ≤ (l.filter p).length
  | y :: l, x, hm, h1, h2 => by
    have le : (l.filter q).length ≤ (l.filter p).length := by
      clear hm
      induction l with
      | nil => simp
      | cons z l ih =>
        rw [List.filter_cons, List.filter_cons]
        by_cases hz : q z = true
        · rw [if_pos hz, if_pos (hpq z hz)]; simp only [List.length_cons]; omega
        · rw [if_neg hz]
          split
          · simp only [List.length_cons]; omega
          · exact ih
    rw [List.filter_cons, List.filter_cons]
    rcases List.mem_cons.mp hm with rfl | hm
    · rw [if_pos h1, if_neg (by rw [h2]; decide)]; simp only [List.length_cons]; omega
    · have ih := filter_lt p q hpq l x hm h1 h2
      by_cases hz : q y = true
      · rw [if_pos hz, if_pos (hpq y hz)]; simp only [List.length_cons]; omega
      · rw [if_neg hz]
        split
        · simp only [List.length_cons]; omega
        · exact ih
theorem rem_add {due : List Row} {r : Row} (h1 : r.c ∈ allC) (h2 : due.any (·.c == r.c) = false) : remC (due ++ [r]) + 1 ≤ remC due := by
  unfold remC
  refine filter_lt _ _ (fun v hv => ?_) allC r.c h1 (by rw [h2]; rfl) ?_
  · rw [List.any_append] at hv
    cases h : due.any (·.c == v)
    · rfl
    · rw [h] at hv; cases hv
  · rw [List.any_append]; simp

/-- the rows, as they come -/
structure Inv (G : Row → Prop) (due : List Row) : Prop where
  good : ∀ r ∈ due, G r
  bound : due.length + remC due ≤ 261
theorem Inv.add {G : Row → Prop} {N : List Nat} (hG : ∀ n fresh, n ≤ 300 → fresh ∈ allC → G (mkRow N n fresh)) {c one : Int} (hp : Pair c one) {due new : List Row} (i : Inv G due) (h : addRow N c due one = due ++ new) : Inv G (due ++ new) := by
  have hfr := hp.fresh
  unfold addRow at h
  generalize (if one < c then one else c) = plus at *
  generalize (if one > c then one else c) = minus at *
  simp only at h
  by_cases h1 : (Builtin.bitAnd (plus.fdiv 17) (bitF minus) == 0) = true
  · rw [if_pos h1] at h; rw [← h]; exact i
  · rw [if_neg h1] at h
    by_cases h2 : due.any (·.c == freshF plus minus) = true
    · rw [if_pos h2] at h; rw [← h]; exact i
    · rw [if_neg h2] at h
      have hf := hfr (by simpa using h1)
      have hb := i.bound
      rw [← h]
      have hg : (mkRow N due.length (freshF plus minus)).c = freshF plus minus := rfl
      have := rem_add (due := due) (r := mkRow N due.length (freshF plus minus)) (by rw [hg]; exact hf) (by rw [hg]; simpa using h2)
      refine ⟨fun r hr => ?_, ?_⟩
      · rcases List.mem_append.mp hr with hr | hr
        · exact i.good r hr
        · cases List.mem_singleton.mp hr
          exact hG _ _ (by omega) hf
      · rw [List.length_append, List.length_singleton]; omega
theorem inner_ok {T1 T3 T} (P : PF C T1 T3 T) (PLw : PL) {N' mN} (X : Env1 C N' mN) {G : Row → Prop} {N txt wd : List Nat} (hN : N.length = 4) (hG : ∀ n fresh, n ≤ 300 → fresh ∈ allC → G (mkRow N n fresh)) {c : Int} {rows m told tot cs pend K} {kk : Nat} {L : List Int} (hp : ∀ one ∈ L, Pair c one)
    (hkk : ∀ H' m', MS H' rows m' told tot cs (pend ++ (m'.due.drop m.due.length)) K → m'.pure = m.pure → m'.mixed = m.mixed → H'.lookup kk = some (.list (L.map V.int)))
    (hi : Inv G m.due) (hpd : pend.length ≤ m.due.length) {Q : Fl → Vars → Store → Prop}
    (q : ∀ ρ' H' new, Sub (vI N txt wd c) ρ' → L.foldl (addRow N c) m.due = m.due ++ new → Inv G (m.due ++ new) → MS H' rows { m with due := m.due ++ new } told tot cs (pend ++ new) K → Q .next ρ' H') (h : MS H rows m told tot cs pend K) (hs : Sub (vI N txt wd c) ρ) :
    Loop C (d + 4) lawSc (fun H' => H'.lookup kk = some (.list (L.map V.int))) (put "one") resBody Q (L.map V.int) ρ H := by
  refine loop_indP (fun vs ρ H' => ∃ new rest, vs = rest.map V.int ∧ (∀ one ∈ rest, Pair c one) ∧ rest.foldl (addRow N c) (m.due ++ new) = L.foldl (addRow N c) m.due ∧ Sub (vI N txt wd c) ρ ∧ Inv G (m.due ++ new) ∧ MS H' rows { m with due := m.due ++ new } told tot cs (pend ++ new) K) ?_ ?_ ?_ _ _ _
    ⟨[], L, rfl, hp, by rw [List.append_nil], hs, by rw [List.append_nil]; exact hi, by rw [List.append_nil, List.append_nil]; exact h⟩
  · rintro vs ρ H' ⟨new, rest, _, _, _, _, _, hm⟩
    refine hkk H' _ (?_ : MS H' rows { m with due := m.due ++ new } told tot cs _ K) rfl rfl
    show MS H' rows { m with due := m.due ++ new } told tot cs (pend ++ ((m.due ++ new).drop m.due.length)) K
    rw [List.drop_left]; exact hm
  · rintro v vs ρ H' ⟨new, rest, e, hp', hfo, hs', hi', hm⟩
    cases rest with
    | nil => cases e
    | cons one rest =>
      cases e
      have hb := hi'.bound
      rw [List.length_append] at hb
      refine Xs.weaken ?_ hs'.put
      refine res_turn P PLw X hN (hp' one (.head _)) hm (by show (m.due ++ new).length ≤ 400; rw [List.length_append]; omega) (by rw [List.length_append]; omega) fun f ρ' H'' new' hf ha hs'' hm' => ⟨hf, new ++ new', rest, rfl, fun o ho => hp' o (.tail _ ho), ?_, hs'', ?_, ?_⟩
      · rw [← hfo, List.foldl_cons, ← List.append_assoc]
        exact congrArg (fun l => rest.foldl (addRow N c) l) ha.symm
      · rw [← List.append_assoc]; exact hi'.add hG (hp' one (.head _)) ha
      · have hm' : MS H'' rows { m with due := (m.due ++ new) ++ new' } told tot cs ((pend ++ new) ++ new') K := hm'
        rw [List.append_assoc, List.append_assoc] at hm'
        exact hm'
  · rintro ρ H' ⟨new, rest, e, _, hfo, hs', hi', hm⟩
    cases rest with
    | cons _ _ => cases e
    | nil => exact q ρ H' new hs' hfo.symm hi' hm
end Mine
end PartL20

section PartL21
open PySem PySem.W PySem.Calls PyProof.Rows
set_option maxRecDepth 100000
set_option linter.unusedVariables false
namespace Mine
variable {C : Cx} {d : Nat} {sc : Sc} {ρ : Vars} {H : Store}

theorem MS.app5 {rows m told tot cs pend K} (h : MS H rows m told tot cs pend K) (c : Int) : MS (Mine.upd 5 (.list (m.pure.map V.int ++ [.int c])) H) rows { m with pure := m.pure ++ [c] } told tot cs pend K := by
  have o : ∀ j, j ≠ 5 → (Mine.upd 5 (.list (m.pure.map V.int ++ [.int c])) H).lookup j = H.lookup j := fun j h1 => by rw [lookup_upd, if_neg h1]
  refine ⟨by rw [o _ (by decide)]; exact h.l1, by rw [o _ (by decide)]; exact h.l2, by rw [o _ (by decide)]; exact h.l3, by rw [o _ (by decide)]; exact h.l4, ?_, by rw [o _ (by decide)]; exact h.l6, by rw [o _ (by decide)]; exact h.l7, h.ls.upd (by decide)⟩
  rw [lookup_upd, if_pos rfl, List.map_append]; rfl
theorem MS.app6 {rows m told tot cs pend K} (h : MS H rows m told tot cs pend K) (c : Int) : MS (Mine.upd 6 (.list (m.mixed.map V.int ++ [.int c])) H) rows { m with mixed := m.mixed ++ [c] } told tot cs pend K := by
  have o : ∀ j, j ≠ 6 → (Mine.upd 6 (.list (m.mixed.map V.int ++ [.int c])) H).lookup j = H.lookup j := fun j h1 => by rw [lookup_upd, if_neg h1]
  refine ⟨by rw [o _ (by decide)]; exact h.l1, by rw [o _ (by decide)]; exact h.l2, by rw [o _ (by decide)]; exact h.l3, by rw [o _ (by decide)]; exact h.l4, by rw [o _ (by decide)]; exact h.l5, ?_, by rw [o _ (by decide)]; exact h.l7, h.ls.upd (by decide)⟩
  rw [lookup_upd, if_pos rfl, List.map_append]; rfl
theorem MS.app4 {rows m told tot cs pend K} (h : MS H rows m told tot cs pend K) (r : Row) : MS (Mine.upd 4 (.list (told.map Row.v ++ [r.v])) H) rows m (told ++ [r]) tot cs pend K := by
  have o : ∀ j, j ≠ 4 → (Mine.upd 4 (.list (told.map Row.v ++ [r.v])) H).lookup j = H.lookup j := fun j h1 => by rw [lookup_upd, if_neg h1]
  refine ⟨by rw [o _ (by decide)]; exact h.l1, by rw [o _ (by decide)]; exact h.l2, by rw [o _ (by decide)]; exact h.l3, ?_, by rw [o _ (by decide)]; exact h.l5, by rw [o _ (by decide)]; exact h.l6, by rw [o _ (by decide)]; exact h.l7, h.ls.upd (by decide)⟩
  rw [lookup_upd, if_pos rfl, List.map_append]; rfl
theorem MS.key {rows m told tot cs pend K x} (h : MS H rows m told tot cs pend K) : MS ((K, x) :: H) rows m told tot cs pend (K + 1) := by
  have hb := h.ls.big
  have e : ∀ j, j ≠ K → ((K, x) :: H : Store).lookup j = H.lookup j := fun j hj => lk_ne hj
  refine h.low (fun j hj => e j (by omega)) ⟨⟨by rw [e _ (by omega)]; exact h.ls.lx.lex, by rw [e _ (by omega)]; exact h.ls.lx.stm, by rw [e _ (by omega)]; exact h.ls.lx.left, by rw [e _ (by omega)]; exact h.ls.lx.lam⟩,
    by rw [e _ (by omega)]; exact h.ls.pb, fun j hj => by rw [e _ (by omega)]; exact h.ls.free j (by omega), by omega, h.ls.len, TabH.of (e 30 (by omega)) h.ls.tab⟩

/-- the clauses met so far -/
structure PM (m : Mch) : Prop where
  p : ∀ x ∈ m.pure, x ∈ allC ∧ x < 256
  q : ∀ x ∈ m.mixed, x ∈ allC ∧ 256 ≤ x
theorem PM.step {N m c} (h : PM m) (hc : c ∈ allC) : PM (stepM N m c) := by
  unfold stepM
  by_cases hn : newB m c = true
  · rw [if_pos hn]
    simp only
    by_cases h2 : 256 ≤ c
    · rw [if_pos h2]
      exact ⟨h.p, fun x hx => (List.mem_append.mp hx).elim (h.q x) fun hx => by cases List.mem_singleton.mp hx; exact ⟨hc, h2⟩⟩
    · rw [if_neg h2]
      exact ⟨fun x hx => (List.mem_append.mp hx).elim (h.p x) fun hx => by cases List.mem_singleton.mp hx; exact ⟨hc, by omega⟩, h.q⟩
  · rw [if_neg hn]; exact h
noncomputable def PairLaw : Prop := ∀ p ∈ allC, p < 256 → ∀ m ∈ allC, 256 ≤ m → Pair p m ∧ Pair m p

set_option maxHeartbeats 4000000 in
theorem new_ok {T1 T3 T} (P : PF C T1 T3 T) (PLw : PL) (PP : PairLaw) {N' mN} (X : Env1 C N' mN) {G : Row → Prop} {N txt wd : List Nat} (hN : N.length = 4) (hG : ∀ n fresh, n ≤ 300 → fresh ∈ allC → G (mkRow N n fresh)) {c : Int} (hc : c ∈ allC) {rows m told tot cs pend K} (pm : PM m) (hsz : m.pure.length + m.mixed.length ≤ 1000)
    (hi : Inv G m.due) (hpd : pend.length ≤ m.due.length) (hnew : newB m c = true) (h : MS H rows m told tot cs pend K) {Q : Fl → Vars → Store → Prop}
    (q : ∀ ρ' H' new, Sub (vI N txt wd c) ρ' → (stepM N m c).due = m.due ++ new → Inv G (m.due ++ new) → MS H' rows (stepM N m c) told tot cs (pend ++ new) K → Q .next ρ' H') :
    Xs C (d + 4) lawSc (vI N txt wd c) newBody H Q := by
  obtain ⟨tn, hnt⟩ := P.nt
  have hst : stepM N m c = (if 256 ≤ c then ⟨(if c < 256 then m.mixed else m.pure).foldl (addRow N c) m.due, m.pure, m.mixed ++ [c]⟩ else ⟨(if c < 256 then m.mixed else m.pure).foldl (addRow N c) m.due, m.pure ++ [c], m.mixed⟩) := by
    unfold stepM; rw [if_pos hnew]
  have tail : ∀ ρ' H' new, Sub (vI N txt wd c) ρ' → (if c < 256 then m.mixed else m.pure).foldl (addRow N c) m.due = m.due ++ new → Inv G (m.due ++ new) → MS H' rows { m with due := m.due ++ new } told tot cs (pend ++ new) K → Xs C (d + 4) lawSc ρ' (newBody.drop 1) H' Q := fun ρ' H' new hs hf hi' hm => by
    refine Xs.weaken ?_ hs.get
    rw [hf] at hst
    refine xs_cons (ex_if (tr_cmp (ev_callF P.isn (by rfl) (es_cons (r_name (by rfl) (by rfl) (by rfl) (es_nil ⟨rfl, isn_ok hnt ?_⟩))))))
    refine ev_bool (cmp_is ⟨fun e => ?_, fun e => ?_⟩)
    · have e : 256 ≤ c := by simpa using e
      rw [if_pos e] at hst
      refine xs_cons (ex_expr (ev_meth1 PySem.F.plainAttrs_list PySem.F.slot_list_append PySem.F.type_list_append (r_name (by rfl) (by rfl) (by rfl) ⟨.list (.own hm.l6), es_cons (r_name (by rfl) (by rfl) (by rfl) (es_nil (callv_append hm.l6 (by rw [List.length_map]; show m.mixed.length ≤ _; omega) ?_)))⟩)))
      refine xs_nil (xs_nil (q _ _ new ⟨by rfl, by rfl, by rfl, by rfl, by rfl, by rfl, by rfl, by rfl, by rfl, by rfl, by rfl, by rfl, by rfl, trivial⟩ (by rw [hst]) hi' ?_))
      rw [hst]; exact hm.app6 c
    · have e : ¬ 256 ≤ c := by simpa using e
      rw [if_neg e] at hst
      refine xs_cons (ex_expr (ev_meth1 PySem.F.plainAttrs_list PySem.F.slot_list_append PySem.F.type_list_append (r_name (by rfl) (by rfl) (by rfl) ⟨.list (.own hm.l5), es_cons (r_name (by rfl) (by rfl) (by rfl) (es_nil (callv_append hm.l5 (by rw [List.length_map]; show m.pure.length ≤ _; omega) ?_)))⟩)))
      refine xs_nil (xs_nil (q _ _ new ⟨by rfl, by rfl, by rfl, by rfl, by rfl, by rfl, by rfl, by rfl, by rfl, by rfl, by rfl, by rfl, by rfl, trivial⟩ (by rw [hst]) hi' ?_))
      rw [hst]; exact hm.app5 c
  refine xs_cons (ex_for (storesB_ok (by rfl)) (src_ev (ev_ifexp (tr_cmp (ev_callF P.ist (by rfl) (es_cons (r_name (by rfl) (by rfl) (by rfl) (es_nil ⟨rfl, ist_ok hnt ?_⟩))))))))
  refine ev_bool (cmp_is ⟨fun e => ?_, fun e => ?_⟩)
  · have e : ¬ c < 256 := by simpa using e
    rw [if_neg e] at tail
    refine r_name (by rfl) (by rfl) (by rfl) (itr_own h.l5 ?_)
    refine inner_ok P PLw X hN hG (L := m.pure) (fun one ho => ((PP one (pm.p one ho).1 (pm.p one ho).2 c hc (by omega)).2)) (fun H' m' hm e1 e2 => by rw [← e1]; exact hm.l5) hi hpd tail h ⟨by rfl, by rfl, by rfl, by rfl, by rfl, by rfl, by rfl, by rfl, by rfl, by rfl, by rfl, by rfl, by rfl, trivial⟩
  · have e : c < 256 := by simpa using e
    rw [if_pos e] at tail
    refine r_name (by rfl) (by rfl) (by rfl) (itr_own h.l6 ?_)
    refine inner_ok P PLw X hN hG (L := m.mixed) (fun one ho => ((PP c hc e one (pm.q one ho).1 (pm.q one ho).2).1)) (fun H' m' hm e1 e2 => by rw [← e2]; exact hm.l6) hi hpd tail h ⟨by rfl, by rfl, by rfl, by rfl, by rfl, by rfl, by rfl, by rfl, by rfl, by rfl, by rfl, by rfl, by rfl, trivial⟩
end Mine
end PartL21

section PartL22
open PySem PySem.W PySem.Calls PyProof.Rows
set_option maxRecDepth 100000
set_option linter.unusedVariables false
namespace Mine
variable {C : Cx} {d : Nat} {sc : Sc} {ρ : Vars} {H : Store}

theorem MS.low2 {rows m told tot cs cs' pend pend' K K' H'} (h : MS H rows m told tot cs pend K) (lo : Low H H') (L : LS H' tot cs' (pend'.map (·.w)) K') : MS H' rows m told tot cs' pend' K' :=
  ⟨by rw [lo _ (by decide)]; exact h.l1, by rw [lo _ (by decide)]; exact h.l2, by rw [lo _ (by decide)]; exact h.l3, by rw [lo _ (by decide)]; exact h.l4, by rw [lo _ (by decide)]; exact h.l5, by rw [lo _ (by decide)]; exact h.l6, by rw [lo _ (by decide)]; exact h.l7, L⟩
/-- how the state came to be -/
inductive Hist (N : List Nat) (rows : List Row) : Mch → List Row → Prop
  | nil : Hist N rows ⟨rows, [], []⟩ []
  | step {m : Mch} {told : List Row} {r : Row} : Hist N rows m told → r ∈ m.due → Hist N rows (stepM N m r.c) (told ++ [r])
structure WI (G : Row → Prop) (N : List Nat) (rows : List Row) (m : Mch) (told rest : List Row) : Prop where
  due : m.due = told ++ rest
  run : m = (told.map (·.c)).foldl (stepM N) ⟨rows, [], []⟩
  inv : Inv G m.due
  pm : PM m
  sz : m.pure.length + m.mixed.length ≤ told.length
  hist : Hist N rows m told
theorem step_sz (N m c) : (stepM N m c).pure.length + (stepM N m c).mixed.length ≤ m.pure.length + m.mixed.length + 1 := by
  unfold stepM
  split
  · simp only
    split
    · simp only [List.length_append, List.length_singleton]; omega
    · simp only [List.length_append, List.length_singleton]; omega
  · omega
theorem WI.next {G N rows m told r rest new} (w : WI G N rows m told (r :: rest)) (hc : r.c ∈ allC) (h1 : (stepM N m r.c).due = m.due ++ new) (h2 : Inv G (m.due ++ new)) : WI G N rows (stepM N m r.c) (told ++ [r]) (rest ++ new) := by
  refine ⟨by rw [h1, w.due]; simp, ?_, by rw [h1]; exact h2, w.pm.step hc, ?_, .step w.hist (by rw [w.due]; simp)⟩
  · rw [List.map_append, List.foldl_append, ← w.run]; rfl
  · have := step_sz N m r.c
    have := w.sz
    rw [List.length_append, List.length_singleton]; omega

noncomputable def WLoop (G : Row → Prop) (N txt : List Nat) (rows : List Row) (tot : Int) (cs5 cs6 : List Nat) (k : Nat) (ρ : Vars) (H : Store) : Prop :=
  (∃ m told r pend K, WI G N rows m told (r :: pend) ∧ MS H rows m told tot cs5 pend K ∧ Sub (vW N txt r.w) ρ ∧ k = 2 * (261 - m.due.length) + pend.length + 1) ∨
  (∃ m told K, WI G N rows m told [] ∧ MS H rows m told tot cs6 [] K ∧ Sub (vW N txt []) ρ ∧ k = 0)

set_option maxHeartbeats 8000000 in
theorem while_turn {T1 T3 T} (P : PF C T1 T3 T) (PLw : PL) (PP : PairLaw) {N' mN} (X : Env1 C N' mN) {N txt : List Nat} (hN : N.length = 4) (hG : ∀ n fresh, n ≤ 300 → fresh ∈ allC → Good T1 T3 T N (mkRow N n fresh)) {cs5 cs6 : List Nat} (hread : lexTok cs5 = ([], cs6)) {rows m told tot r pend K}
    (w : WI (Good T1 T3 T N) N rows m told (r :: pend)) (h : MS H rows m told tot cs5 pend K) :
    Xs C (d + 4) lawSc (vW N txt r.w) whileBody H (fun f ρ' H' => f = .next ∧ ∃ k, k < 2 * (261 - m.due.length) + pend.length + 1 ∧ WLoop (Good T1 T3 T N) N txt rows tot cs5 cs6 k ρ' H') := by
  have g : Good T1 T3 T N r := w.inv.good r (by rw [w.due]; simp)
  have hdl : told.length + (pend.length + 1) = m.due.length := by rw [w.due]; simp
  have hbd := w.inv.bound
  have hsz := w.sz
  refine xs_cons (r_assign (by rfl) (by intro _ _; rfl) (ev_callF P.plain (by rfl) (es_cons (r_name (by rfl) (by rfl) (by rfl) (es_nil ⟨rfl, plain_ok P.b1 P.b3 P.inb1 P.mapb3 g.lw g.lb ?_⟩)))))
  rw [g.pl]
  refine xs_cons (ex_assignT (.cons (.cons .nil)) (by intro x hx; simp only [List.mem_cons, List.not_mem_nil, or_false] at hx; rcases hx with rfl | rfl <;> exact storesB_ok (by rfl)) ?_)
  refine ev_callF P.clause (by rfl) (es_cons (r_name (by rfl) (by rfl) (by rfl) (es_cons (r_name (by rfl) (by rfl) (by rfl) (es_nil ⟨rfl, clause_ok P.ex (kk := K) (names := N) (by omega) (by have := g.ls; omega) g.sg (h.ls.free K (Nat.le_refl _)) fun x => ?_⟩)))))
  rw [g.cl]
  refine ⟨_, .inr rfl, rfl, ?_⟩
  have hk := h.key (x := x)
  generalize ((K, x) :: H : Store) = H₁ at hk
  refine xs_cons (ex_expr (ev_meth1 PySem.F.plainAttrs_list PySem.F.slot_list_append PySem.F.type_list_append (r_name (by rfl) (by rfl) (by rfl) ⟨.list (.own hk.l4), es_cons (ev_list (es_cons (r_name (by rfl) (by rfl) (by rfl) (es_cons (r_name (by rfl) (by rfl) (by rfl) (es_cons (r_name (by rfl) (by rfl) (by rfl) (es_nil ⟨by simp, es_nil (callv_append hk.l4 (by rw [List.length_map]; omega) ?_)⟩))))))))⟩)))
  have h4 : MS (Mine.upd 4 (.list (told.map Row.v ++ [.list [.str (S r.w), .str (S r.said), .int r.num]])) H₁) rows m (told ++ [r]) tot cs5 pend (K + 1) := hk.app4 r
  generalize (Mine.upd 4 (.list (told.map Row.v ++ [.list [.str (S r.w), .str (S r.said), .int r.num]])) H₁) = H₂ at h4
  have fin : ∀ ρ' H' new, Sub (vI N txt r.w r.c) ρ' → WI (Good T1 T3 T N) N rows (stepM N m r.c) (told ++ [r]) (pend ++ new) → (stepM N m r.c).due = m.due ++ new → MS H' rows (stepM N m r.c) (told ++ [r]) tot cs5 (pend ++ new) (K + 1) →
      Xs C (d + 4) lawSc ρ' (whileBody.drop 4) H' (fun f ρ' H' => f = .next ∧ ∃ k, k < 2 * (261 - m.due.length) + pend.length + 1 ∧ WLoop (Good T1 T3 T N) N txt rows tot cs5 cs6 k ρ' H') := fun ρ' H' new hs hw hd' hm => by
    refine Xs.weaken ?_ hs.get
    have hb' := hw.inv.bound
    have hdl' : (stepM N m r.c).due.length = m.due.length + new.length := by rw [hd', List.length_append]
    cases hpn : pend ++ new with
    | cons r' pend' =>
      rw [hpn] at hm hw
      have hl' : pend.length + new.length = pend'.length + 1 := by rw [← List.length_append, hpn]; rfl
      refine xs_cons (r_assign (by rfl) (by intro _ _; rfl) (ev_getP X ⟨_, fun _ => rfl⟩ (by rfl) (by rfl) (by rfl) (w := r'.w) (pend := pend'.map (·.w)) hm.ls (by rw [List.length_map]; omega) fun H₃ L₃ lo => ?_))
      refine xs_nil ⟨rfl, _, ?_, .inl ⟨_, _, r', pend', K + 1, hw, hm.low lo L₃, ⟨by rfl, by rfl, by rfl, by rfl, by rfl, by rfl, by rfl, by rfl, by rfl, by rfl, by rfl, by rfl, trivial⟩, rfl⟩⟩
      omega
    | nil =>
      rw [hpn] at hm hw
      refine xs_cons (r_assign (by rfl) (by intro _ _; rfl) (ev_getS X ⟨_, fun _ => rfl⟩ (by rfl) (by rfl) (by rfl) hm.ls fun H₃ L₃ lo => ?_))
      rw [hread] at L₃
      rw [hread]
      refine xs_nil ⟨rfl, 0, by omega, .inr ⟨_, _, K + 1 + 1, hw, hm.low2 lo (pend' := []) L₃, ⟨by rfl, by rfl, by rfl, by rfl, by rfl, by rfl, by rfl, by rfl, by rfl, by rfl, by rfl, by rfl, trivial⟩, rfl⟩⟩
  refine xs_cons (ex_if (tr_bool (all_and (tr_cmp ?_))))
  refine ev_bin (ev_bin (r_name (by rfl) (by rfl) (by rfl) (ev_int (bin_div (by decide) (by decide) (ev_bin (ev_bin ?_))))))
  refine r_name (by rfl) (by rfl) (by rfl) (ev_int (bin_mod (by decide) (ev_int (bin_div (by decide) (by decide) (bin_and (ev_int (cmp_eq ?_)))))))
  have hno : newB m r.c = false → stepM N m r.c = m := fun e => by unfold stepM; rw [if_neg (by rw [e]; decide)]
  have no : newB m r.c = false → ∀ ρ', Sub (vI N txt r.w r.c) ρ' → Xs C (d + 4) lawSc ρ' (whileBody.drop 4) H₂ (fun f ρ' H' => f = .next ∧ ∃ k, k < 2 * (261 - m.due.length) + pend.length + 1 ∧ WLoop (Good T1 T3 T N) N txt rows tot cs5 cs6 k ρ' H') := fun e ρ' hs => by
    have e2 := hno e
    refine fin ρ' H₂ [] hs (w.next (new := []) g.ok (by rw [e2, List.append_nil]) (by rw [List.append_nil]; exact w.inv)) (by rw [e2, List.append_nil]) ?_
    rw [e2, List.append_nil]; exact h4
  refine ⟨fun e1 => ?_, fun e1 => ⟨fun e => (by cases e), fun _ => xs_nil ?_⟩⟩
  · refine all_and (tr_cmp (r_name (by rfl) (by rfl) (by rfl) (ev_bin (r_name (by rfl) (by rfl) (by rfl) (r_name (by rfl) (by rfl) (by rfl) (bin_addL (.own h4.l5) (.own h4.l6) (by rw [List.length_map, List.length_map]; omega) ?_))))))
    rw [← List.map_append]
    refine cmp_notinL ?_
    refine ⟨fun e2 => all_and_nil ⟨fun _ => ?_, fun e => (by cases e)⟩, fun e2 => ⟨fun e => (by cases e), fun _ => xs_nil ?_⟩⟩
    · have hnew : newB m r.c = true := by unfold newB; rw [e1, e2]; rfl
      refine Xs.weaken (ρ' := vI N txt r.w r.c) ?_ (Sub.get ⟨by rfl, by rfl, by rfl, by rfl, by rfl, by rfl, by rfl, by rfl, by rfl, by rfl, by rfl, by rfl, by rfl, trivial⟩)
      refine new_ok P PLw PP X hN hG g.ok w.pm (by omega) w.inv (by omega) hnew h4 fun ρ' H' new hs hd' hi' hm => ?_
      exact fin ρ' H' new hs (w.next g.ok hd' hi') hd' hm
    · exact no (by unfold newB; rw [e1, e2]; rfl) _ ⟨by rfl, by rfl, by rfl, by rfl, by rfl, by rfl, by rfl, by rfl, by rfl, by rfl, by rfl, by rfl, by rfl, trivial⟩
  · exact no (by unfold newB; rw [e1]; rfl) _ ⟨by rfl, by rfl, by rfl, by rfl, by rfl, by rfl, by rfl, by rfl, by rfl, by rfl, by rfl, by rfl, by rfl, trivial⟩

/-- the main loop -/
theorem law8 {T1 T3 T} (P : PF C T1 T3 T) (PLw : PL) (PP : PairLaw) {N' mN} (X : Env1 C N' mN) {N txt : List Nat} (hN : N.length = 4) (hG : ∀ n fresh, n ≤ 300 → fresh ∈ allC → Good T1 T3 T N (mkRow N n fresh)) {cs5 cs6 : List Nat} (hread : lexTok cs5 = ([], cs6)) {r : Row} {rs : List Row} {tot : Int} {K : Nat}
    (hi : Inv (Good T1 T3 T N) (r :: rs)) (h : MS H (r :: rs) ⟨r :: rs, [], []⟩ [] tot cs5 rs K) {Q}
    (q : ∀ ρ' H' m told K, Sub (vW N txt []) ρ' → WI (Good T1 T3 T N) N (r :: rs) m told [] → MS H' (r :: rs) m told tot cs6 [] K → Xs C (d + 4) lawSc ρ' (lawB.drop 15) H' Q) : Xs C (d + 4) lawSc (vW N txt r.w) (lawB.drop 14) H Q := by
  refine xs_cons (ex_while (WLoop (Good T1 T3 T N) N txt (r :: rs) tot cs5 cs6) (2 * (261 - (r :: rs).length) + rs.length + 1) (.inl ⟨⟨r :: rs, [], []⟩, [], r, rs, K, ⟨rfl, rfl, hi, ⟨(fun _ h => nomatch h), fun _ h => nomatch h⟩, Nat.le_refl _, .nil⟩, h, ⟨by rfl, by rfl, by rfl, by rfl, by rfl, by rfl, by rfl, by rfl, by rfl, by rfl, by rfl, by rfl, trivial⟩, rfl⟩) ?_)
  rintro k ρ H' (⟨m, told, r', pend, K', w, hm, hs, rfl⟩ | ⟨m, told, K', w, hm, hs, rfl⟩)
  · have g : Good T1 T3 T N r' := w.inv.good r' (by rw [w.due]; simp)
    refine Tr.weaken (ρ' := vW N txt r'.w) ?_ hs.get
    refine tr_cmp (r_name (by rfl) (by rfl) (by rfl) (r_str [] (by decide +kernel) (cmp_nes ?_)))
    rw [S_bne]
    refine ⟨fun _ => ?_, fun e => absurd g.ne (by simpa using e)⟩
    refine Xs.weaken ?_ hs.get
    refine (while_turn P PLw PP X hN hG hread w hm).mono ?_
    rintro f ρ' H'' ⟨rfl, hk⟩
    exact hk
  · refine Tr.weaken (ρ' := vW N txt []) ?_ hs.get
    refine tr_cmp (r_name (by rfl) (by rfl) (by rfl) (r_str [] (by decide +kernel) (cmp_nes ?_)))
    rw [S_bne]
    exact ⟨fun e => (by cases e), fun _ => q ρ H' m told K' hs w hm⟩
end Mine
end PartL22

section PartL23
open PySem PySem.W PySem.Calls PyProof.Rows
set_option maxRecDepth 100000
set_option linter.unusedVariables false
namespace Mine
variable {C : Cx} {d : Nat} {sc : Sc} {ρ : Vars} {H : Store}

noncomputable def falseB (h : Int) (c : Int) : Bool := Builtin.bitAnd ((c.fmod 256).fdiv 17) h == 0 && Builtin.bitAnd (c.fdiv 256) (15 - h) == 0
noncomputable def modelsF (cls : List Int) : List Int := ((List.range 16).filter fun h : Nat => cls.filter (falseB h) == []).map fun h : Nat => (h : Int)
noncomputable def meetsF (pure : List Int) : List Int := ((List.range 16).filter fun h : Nat => decide ((17 * (h : Int)) < 256) && (!decide (256 ≤ (17 * (h : Int))) && (pure.filter fun c => Builtin.bitAnd (c.fdiv 17) h == 0) == [])).map fun h : Nat => (h : Int)
noncomputable def endsF (l : List Int) : List Int := l.filter fun c => c == 0 || -c == 0

theorem law9 {T1 T3 T} (P : PF C T1 T3 T) {N' mN} (X : Env1 C N' mN) {N txt : List Nat} {cs6 cs7 : List Nat} {r0 : Row} {rows : List Row} (hr0 : rows[0]? = some r0) (hread6 : lexTok cs6 = (r0.w, cs7)) (hread7 : lexTok cs7 = ([], [])) (hcount : (Txt.count (S txt) (S [10]) : Int) = nlc txt) {m : Mch} {told : List Row} {K : Nat}
    (hdt : m.due = told) (hu : ∀ r ∈ told, Uni (S r.w) ∧ Uni (S r.said)) (h : MS H rows m told (1 + nlc txt) cs6 [] K) {Q : Fl → Vars → Store → Prop}
    (q : ∀ ρ' H', Sub [("clauses", .own 3), ("pure", .own 5), ("mixed", .own 6)] ρ' → TabH H' → H'.lookup 3 = some (.list ((rows.map (·.c)).map V.int)) → H'.lookup 5 = some (.list (m.pure.map V.int)) → H'.lookup 6 = some (.list (m.mixed.map V.int)) → Xs C (d + 4) lawSc ρ' (lawB.drop 16) H' Q) :
    Xs C (d + 4) lawSc (vW N txt []) (lawB.drop 15) H Q := by
  refine xs_cons (ex_if (tr_bool (all_or (tr_cmp (r_name (by rfl) (by rfl) (by rfl) (r_name (by rfl) (by rfl) (by rfl) ?_))))))
  have et : told.map Row.v = (told.map fun r => (S r.w, S r.said, r.num)).map tri := by rw [List.map_map]; rfl
  refine cmp_neLt (ns := told.map fun r => (S r.w, S r.said, r.num)) (ms := told.map fun r => (S r.w, S r.said, r.num)) (.own (by rw [← et]; exact h.l4)) (.own (by rw [← et, ← hdt]; exact h.l2)) (fun x hx => ?_) (fun x hx => ?_) ?_
  · obtain ⟨r, hr, rfl⟩ := List.mem_map.mp hx; exact hu r hr
  · obtain ⟨r, hr, rfl⟩ := List.mem_map.mp hx; exact hu r hr
  rw [show ((told.map fun r => (S r.w, S r.said, r.num)) != (told.map fun r => (S r.w, S r.said, r.num))) = false from by simp]
  refine ⟨fun e => (by cases e), fun _ => all_or (tr_cmp (ev_getS X ⟨_, fun _ => rfl⟩ (by rfl) (by rfl) (by rfl) h.ls fun H₁ L₁ lo₁ => ?_))⟩
  rw [hread6] at L₁
  rw [hread6]
  have h1 : H₁.lookup 1 = some (.list (strL (rows.map (·.w)))) := by rw [lo₁ 1 (by decide)]; exact h.l1
  refine ev_sub (r_name (by rfl) (by rfl) (by rfl) (ev_int (itm_own h1 (by decide) (x := .str (S r0.w)) ?_ (by decide) (cmp_nes ?_))))
  · unfold strL; rw [show (0 : Int).toNat = 0 from rfl, List.getElem?_map, List.getElem?_map, hr0]; rfl
  rw [show (S r0.w != S r0.w) = false from by simp]
  refine ⟨fun e => (by cases e), fun _ => all_or (tr_cmp (ev_getS X ⟨_, fun _ => rfl⟩ (by rfl) (by rfl) (by rfl) L₁ fun H₂ L₂ lo₂ => ?_))⟩
  rw [hread7] at L₂
  rw [hread7]
  refine r_str [] (by decide +kernel) (cmp_nes ?_)
  rw [show (S [] != S []) = false from by simp]
  refine ⟨fun e => (by cases e), fun _ => all_or (tr_cmp ?_)⟩
  refine ev_attr X.cls (by decide) (r_name (by rfl) (by rfl) (by rfl) ⟨20, _, _, rfl, L₂.lx.lex, by rfl, ?_⟩) (fun _ => rfl)
  refine ev_bin (ev_int (ev_meth1 PySem.F.plainAttrs_str PySem.F.slot_str_count PySem.F.type_str_count (r_name (by rfl) (by rfl) (by rfl) ⟨.str _, es_cons (r_str [10] (by decide +kernel) (es_nil (callv_count (bin_add (cmp_ne ?_)))))⟩)))
  rw [hcount, show ((1 : Int) + nlc txt - nlc [] != 1 + nlc txt) = false from by simp [nlc]]
  refine ⟨fun e => (by cases e), fun _ => all_or_nil ⟨fun e => (by cases e), fun _ => xs_nil ?_⟩⟩
  have lo := lo₁.trans lo₂
  refine q _ H₂ ⟨by rfl, by rfl, by rfl, trivial⟩ L₂.tab ?_ ?_ ?_
  · rw [lo 3 (by decide)]; exact h.l3
  · rw [lo 5 (by decide)]; exact h.l5
  · rw [lo 6 (by decide)]; exact h.l6

theorem law10 {T1 T3 T} (P : PF C T1 T3 T) {cls pure mixed : List Int} (hl1 : cls.length ≤ 1000) (hl2 : pure.length + mixed.length ≤ 1000) (h3 : H.lookup 3 = some (.list (cls.map V.int))) (h5 : H.lookup 5 = some (.list (pure.map V.int))) (h6 : H.lookup 6 = some (.list (mixed.map V.int)))
    (hE : endsF (pure ++ mixed) = if modelsF cls = [] then [0] else []) (hL : leastF (meetsF pure) = leastF (modelsF cls)) {Q : V → Store → Prop} (q : Q (.bool true) H) :
    Xs C (d + 4) lawSc [("clauses", .own 3), ("pure", .own 5), ("mixed", .own 6)] (lawB.drop 16) H (Returns Q) := by
  obtain ⟨tn, hnt⟩ := P.nt
  obtain ⟨te, hem⟩ := P.em
  refine xs_cons (ex_assignC (storesB_ok (by rfl)) (scopeB_ok (by rfl) (by rfl)) rfl (storesB_ok (by rfl)) rfl ?_ (fun env h1 h2 => sw_comp h1 h2 (by rfl)))
  refine src_range (by rfl) (ev_int ⟨16, rfl, by decide, ?_⟩)
  refine compL_map (fun h : Nat => V.int h) (fun h : Nat => cls.filter (falseB h) == []) (fun h : Nat => V.int h) trivial _ [] (by simp) (fun hh _ => ⟨tests_one (tr_cmp ?_), fun _ => r_name (by rfl) (by rfl) (by rfl) ⟨rfl, rfl⟩⟩) ?_
  · refine ev_comp (scopeB_ok (by rfl) (by rfl)) rfl (storesB_ok (by rfl)) rfl ?_
    refine src_ev (r_name (by rfl) (by rfl) (by rfl) (itr_own h3 ?_))
    refine compL_map V.int (falseB hh) V.int h3 cls [] (by simp; omega) (fun c _ => ⟨tests_one (tr_bool (all_and (tr_cmp ?_))), fun _ => r_name (by rfl) (by rfl) (by rfl) ⟨rfl, rfl⟩⟩) ?_
    · refine ev_bin (ev_bin (ev_bin (r_name (by rfl) (by rfl) (by rfl) (ev_int (bin_mod (by decide) (ev_int (bin_div (by decide) (by decide) (r_name (by rfl) (by rfl) (by rfl) (bin_and (ev_int (cmp_eq ?_))))))))))) 
      unfold falseB
      refine ⟨fun e => ?_, fun e => ⟨by rw [e]; rfl, rfl⟩⟩
      rw [e]
      refine all_and (tr_cmp (ev_bin (ev_bin (r_name (by rfl) (by rfl) (by rfl) (ev_int (bin_div (by decide) (by decide) (ev_bin (ev_int (r_name (by rfl) (by rfl) (by rfl) (bin_sub (bin_and (ev_int (cmp_eq ?_)))))))))))))
      exact ⟨fun e => all_and_nil ⟨by rw [e]; rfl, rfl⟩, fun e => ⟨by rw [e]; rfl, rfl⟩⟩
    · rw [List.nil_append]
      refine ev_list (es_nil ⟨by simp, cmp_eqLi (ns := cls.filter (falseB hh)) (ms := []) (.of _) (.of _) ⟨rfl, rfl⟩⟩)
  have em : ([] ++ ((List.range 16).filter fun h : Nat => cls.filter (falseB h) == []).map fun h : Nat => V.int h) = (modelsF cls).map V.int := by rw [List.nil_append]; unfold modelsF; rw [List.map_map]; rfl
  rw [em]
  refine xs_cons (ex_assignC (storesB_ok (by rfl)) (scopeB_ok (by rfl) (by rfl)) rfl (storesB_ok (by rfl)) rfl ?_ (fun env h1 h2 => sw_comp h1 h2 (by rfl)))
  refine src_range (by rfl) (ev_int ⟨16, rfl, by decide, ?_⟩)
  refine compL_map (fun h : Nat => V.int h) (fun h : Nat => decide ((17 * (h : Int)) < 256) && (!decide (256 ≤ (17 * (h : Int))) && (pure.filter fun c => Builtin.bitAnd (c.fdiv 17) h == 0) == [])) (fun h : Nat => V.int h) trivial _ [] (by simp) (fun hh _ => ⟨tests_one (tr_bool (all_and (tr_cmp ?_))), fun _ => r_name (by rfl) (by rfl) (by rfl) ⟨rfl, rfl⟩⟩) ?_
  · refine ev_callF P.ist (by rfl) (es_cons (ev_bin (ev_int (r_name (by rfl) (by rfl) (by rfl) (bin_mul (mul_okL (by decide) (by decide)) (es_nil ⟨rfl, ist_ok hnt (ev_bool (cmp_is ?_))⟩))))))
    rw [show (decide (17 * (hh : Int) < 256) == true) = decide (17 * (hh : Int) < 256) from by simp]
    refine ⟨fun e => ?_, fun e => ⟨by rw [e]; rfl, rfl⟩⟩
    rw [e]
    refine all_and (tr_cmp (ev_callF P.isn (by rfl) (es_cons (ev_bin (ev_int (r_name (by rfl) (by rfl) (by rfl) (bin_mul (mul_okL (by decide) (by decide)) (es_nil ⟨rfl, isn_ok hnt (ev_bool (cmp_is ?_))⟩))))))))
    rw [show (decide (256 ≤ 17 * (hh : Int)) == false) = !decide (256 ≤ 17 * (hh : Int)) from by simp]
    refine ⟨fun e => ?_, fun e => ⟨by rw [e]; rfl, rfl⟩⟩
    rw [e]
    refine all_and (tr_cmp ?_)
    refine ev_comp (scopeB_ok (by rfl) (by rfl)) rfl (storesB_ok (by rfl)) rfl ?_
    refine src_ev (r_name (by rfl) (by rfl) (by rfl) (itr_own h5 ?_))
    refine compL_map V.int (fun c => Builtin.bitAnd (c.fdiv 17) hh == 0) V.int h5 pure [] (by simp; omega) (fun c _ => ⟨tests_one (tr_cmp ?_), fun _ => r_name (by rfl) (by rfl) (by rfl) ⟨rfl, rfl⟩⟩) ?_
    · refine ev_bin (ev_bin (r_name (by rfl) (by rfl) (by rfl) (ev_int (bin_div (by decide) (by decide) (r_name (by rfl) (by rfl) (by rfl) (bin_and (ev_int (cmp_eq ⟨rfl, rfl⟩)))))))) 
    · rw [List.nil_append]
      refine ev_list (es_nil ⟨by simp, cmp_eqLi (ns := pure.filter fun c => Builtin.bitAnd (c.fdiv 17) hh == 0) (ms := []) (.of _) (.of _) ⟨fun e => all_and_nil ⟨by rw [e]; rfl, rfl⟩, fun e => ⟨by rw [e]; rfl, rfl⟩⟩⟩)
  have em2 : ([] ++ ((List.range 16).filter fun h : Nat => decide ((17 * (h : Int)) < 256) && (!decide (256 ≤ (17 * (h : Int))) && (pure.filter fun c => Builtin.bitAnd (c.fdiv 17) h == 0) == [])).map fun h : Nat => V.int h) = (meetsF pure).map V.int := by rw [List.nil_append]; unfold meetsF; rw [List.map_map]; rfl
  rw [em2]
  refine xs_cons (ex_assignC (storesB_ok (by rfl)) (scopeB_ok (by rfl) (by rfl)) rfl (storesB_ok (by rfl)) rfl ?_ (fun env h1 h2 => sw_comp h1 h2 (by rfl)))
  refine src_ev (ev_bin (r_name (by rfl) (by rfl) (by rfl) (r_name (by rfl) (by rfl) (by rfl) (bin_addL (.own h5) (.own h6) (by rw [List.length_map, List.length_map]; omega) ?_))))
  rw [← List.map_append]
  refine itr_list ?_
  refine compL_map V.int (fun c => c == 0 || -c == 0) V.int trivial (pure ++ mixed) [] (by simp; omega) (fun c _ => ⟨tests_one (tr_bool (all_or (tr_cmp ?_))), fun _ => r_name (by rfl) (by rfl) (by rfl) ⟨rfl, rfl⟩⟩) ?_
  · refine ev_callF P.ise (by rfl) (es_cons (r_name (by rfl) (by rfl) (by rfl) (es_nil ⟨rfl, ise_ok hem (ev_bool (cmp_isnot ?_))⟩)))
    rw [show ((c == 0) != false) = (c == 0) from by simp]
    refine ⟨fun e => ⟨by rw [e]; rfl, rfl⟩, fun e => ?_⟩
    rw [e]
    refine all_or (tr_cmp (ev_callF P.ise (by rfl) (es_cons (ev_neg (r_name (by rfl) (by rfl) (by rfl) ⟨c, rfl, es_nil ⟨rfl, ise_ok hem (ev_bool (cmp_isnot ?_))⟩⟩)))))
    rw [show ((-c == 0) != false) = (-c == 0) from by simp]
    exact ⟨fun e => ⟨by rw [e]; rfl, rfl⟩, fun e => all_or_nil ⟨by rw [e]; rfl, rfl⟩⟩
  rw [List.nil_append, show ((pure ++ mixed).filter fun c => c == 0 || -c == 0) = endsF (pure ++ mixed) from rfl, hE]
  refine xs_cons (ex_if (tr_bool (all_or (tr_cmp (ev_callF P.ise (by rfl) (es_cons (ev_int (es_nil ⟨rfl, ise_ok hem (ev_bool (cmp_isnot ?_))⟩))))))))
  refine ⟨fun e => absurd e (by decide), fun _ => all_or (tr_cmp (r_name (by rfl) (by rfl) (by rfl) ?_))⟩
  refine Ev.mono (Q := fun v H' => v = .list ((if modelsF cls = [] then [0] else []).map V.int) ∧ H' = H) ?_ ?_
  · refine ev_ifexp (tr_cmp (r_name (by rfl) (by rfl) (by rfl) (ev_list (es_nil ⟨by simp, cmp_eqLi (ns := modelsF cls) (ms := []) (.of _) (.of _) ⟨fun e => ?_, fun e => ?_⟩⟩))))
    · have e : modelsF cls = [] := by simpa using e
      rw [if_pos e]
      exact ev_list (es_cons (ev_int (es_nil ⟨by simp, rfl, rfl⟩)))
    · have e : ¬ modelsF cls = [] := by simpa using e
      rw [if_neg e]
      exact ev_list (es_nil ⟨by simp, rfl, rfl⟩)
  rintro v H' ⟨rfl, rfl⟩
  refine cmp_neLi (.of _) (.of _) ?_
  rw [show ∀ l : List Int, (l != l) = false from fun l => by simp]
  refine ⟨fun e => (by cases e), fun _ => all_or_nil ⟨fun e => (by cases e), fun _ => xs_nil ?_⟩⟩
  have lf : ∀ l : List Int, (leastF l).length ≤ l.length := fun l => List.length_filter_le _ _
  have lm : (modelsF cls).length ≤ 16 := by unfold modelsF; rw [List.length_map]; exact Nat.le_trans (List.length_filter_le _ _) (by simp)
  have lm2 : (meetsF pure).length ≤ 16 := by unfold meetsF; rw [List.length_map]; exact Nat.le_trans (List.length_filter_le _ _) (by simp)
  refine xs_cons (ex_return (ev_cmp ?_))
  refine ev_callF P.least (by rfl) (es_cons (r_name (by rfl) (by rfl) (by rfl) (es_nil ⟨rfl, least_ok (ns := meetsF pure) (by omega) ?_⟩)))
  refine ev_callF P.least (by rfl) (es_cons (r_name (by rfl) (by rfl) (by rfl) (es_nil ⟨rfl, least_ok (ns := modelsF cls) (by omega) ?_⟩)))
  refine cmp_eqLi (.of _) (.of _) ?_
  rw [hL, show ∀ l : List Int, (l == l) = true from fun l => by simp]
  exact q
end Mine
end PartL23

section PartL24
open PySem PySem.W PySem.Calls PyProof.Rows
set_option maxRecDepth 100000
set_option linter.unusedVariables false
namespace Mine
variable {C : Cx} {d : Nat} {sc : Sc} {ρ : Vars} {H : Store}

noncomputable def NOk (N : List Nat) : Prop := ∃ q ∈ quoL, ∃ b ∈ besideL, N = [102, 105, q, b]
/-- the plain laws -/
structure Laws (T1 : Int → Bool) (T3 : Int → Option Str) (T : Str → Option Int) : Prop where
  pl : PL
  pp : PairLaw
  good : ∀ N, NOk N → ∀ n fresh, n ≤ 300 → fresh ∈ allC → Good T1 T3 T N (mkRow N n fresh)
  good0 : ∀ N, NOk N → ∀ d, Dig d → Good T1 T3 T N (rowF N d)
  read : ∀ g, Dig g → ∀ (rows : List Row) r0, rows.length = 5 → (∀ r ∈ rows, r.w ≠ []) → rows[0]? = some r0 → ∃ cs5 cs6 cs7, ReadsTo (textL g (wsF rows r0)) (rows.map (·.w)) cs5 ∧ lexTok cs5 = ([], cs6) ∧ lexTok cs6 = (r0.w, cs7) ∧ lexTok cs7 = ([], [])
  count : ∀ txt : List Nat, (Txt.count (S txt) (S [10]) : Int) = nlc txt
  res : ∀ N (rows : List Row) m told, (∀ r ∈ rows, r.c ∈ allC) → WI (fun r => r.c ∈ allC) N rows m told [] → endsF (m.pure ++ m.mixed) = (if modelsF (rows.map (·.c)) = [] then [0] else []) ∧ leastF (meetsF m.pure) = leastF (modelsF (rows.map (·.c)))

theorem remC_le (due : List Row) : remC due ≤ 256 := Nat.le_trans (List.length_filter_le _ _) (by decide +kernel)
theorem figs_dig {xs : List Int} : ∀ dd ∈ figsF xs, Dig dd := fun dd hd => by
  obtain ⟨x, hx, rfl⟩ := List.mem_map.mp hd
  obtain ⟨h0, h1⟩ := cells_range x hx
  refine ⟨by simp [figF], fun y hy => ?_⟩
  obtain ⟨k, hk, rfl⟩ := List.mem_map.mp hy
  have := fmod_range (x.fdiv (10 ^ k)) (b := 10) (by decide)
  omega
theorem namesG_ok {g0 g1 g2 : Int} : NOk (namesG g0 g1 g2) := by
  have r0 := fmod_range g0 (b := 8) (by decide)
  have r1 := fmod_range (g1 + 10 * g2) (b := 16) (by decide)
  refine ⟨_, ?_, _, ?_, rfl⟩
  · have hl : (g0.fmod 8).toNat < quoL.length := by show _ < 8; omega
    rw [List.getD_eq_getElem?_getD, List.getElem?_eq_getElem hl]
    exact List.getElem_mem hl
  · have hl : ((g1 + 10 * g2).fmod 16).toNat < besideL.length := by show _ < 16; omega
    rw [List.getD_eq_getElem?_getD, List.getElem?_eq_getElem hl]
    exact List.getElem_mem hl

theorem law_all {T1 T3 T} (L : Laws T1 T3 T) (P : PF C T1 T3 T) {N' mN} (X : Env1 C N' mN) {ps} (LF : LexF C ps) {xs : List Int} (hl : xs.length ≤ 63) {Q : V → Store → Prop} (q : ∀ H, TabH H → Q (.bool true) H) :
    Xs C (d + 4) lawSc [("script", .list (xs.map .int))] lawB (H0 ps) (Returns Q) := by
  refine law1 hl fun ρ1 s1 => ?_
  refine Xs.weaken ?_ s1.get
  refine law2 fun ρ2 s2 => ?_
  refine Xs.weaken ?_ s2.get
  have hdig := figs_dig (xs := xs)
  have h6 : (figsF xs).length = 6 := by unfold figsF; rw [List.length_map, cells_len]
  generalize figsF xs = F at hdig h6
  match F, h6, hdig with
  | [f0, f1, f2, f3, f4, g], _, hdig =>
  obtain ⟨g0, g1, g2, g3, g4, g5, g6, g7, g8, rfl⟩ := nine (hdig g (by simp)).1
  have hg := hdig _ (show [g0, g1, g2, g3, g4, g5, g6, g7, g8] ∈ _ by simp)
  refine law3 P (by rfl) (by rfl) (by rfl) fun ρ3 s3 => ?_
  have hN := namesG_ok (g0 := g0) (g1 := g1) (g2 := g2)
  have hN4 : (namesG g0 g1 g2).length = 4 := rfl
  generalize namesG g0 g1 g2 = N at hN hN4 s3
  refine Xs.weaken (ρ' := baseV [f0, f1, f2, f3, f4, [g0, g1, g2, g3, g4, g5, g6, g7, g8]] N) ?_ (Sub.get s3)
  refine law4 (H := H0 ps) P L.pl hN4 hdig (by simp) fun ρ4 s4 => ?_
  refine Xs.weaken ?_ s4.get
  have hrows : ([f0, f1, f2, f3, f4, [g0, g1, g2, g3, g4, g5, g6, g7, g8]].take 5).map (rowF N) = [rowF N f0, rowF N f1, rowF N f2, rowF N f3, rowF N f4] := rfl
  rw [hrows]
  have hgood : ∀ r ∈ [rowF N f0, rowF N f1, rowF N f2, rowF N f3, rowF N f4], Good T1 T3 T N r := fun r hr => by
    have hm : r ∈ [f0, f1, f2, f3, f4].map (rowF N) := hr
    obtain ⟨dd, hd, rfl⟩ := List.mem_map.mp hm
    refine L.good0 N hN dd (hdig dd ?_)
    simp only [List.mem_cons, List.not_mem_nil, or_false] at hd ⊢
    rcases hd with h | h | h | h | h <;> simp [h]
  generalize hr : rowF N f0 = r at hgood
  generalize hrs : [rowF N f1, rowF N f2, rowF N f3, rowF N f4] = rs at hgood
  have hlen : (r :: rs).length = 5 := by rw [← hrs]; rfl
  obtain ⟨cs5, cs6, cs7, hr5, hr6, hr7, hr8⟩ := L.read _ hg (r :: rs) r hlen (fun r hr => (hgood r hr).ne) rfl
  refine law5 P X LF (rows := r :: rs) (r0 := r) (by rfl) hg rfl hlen (fun r hr => (hgood r hr).lw) fun ρ5 H5 s5 L5 lo5 => ?_
  refine Xs.weaken ?_ s5.get
  have hcnt := L.count (textL [g0, g1, g2, g3, g4, g5, g6, g7, g8] (wsF (r :: rs) r))
  generalize (textL [g0, g1, g2, g3, g4, g5, g6, g7, g8] (wsF (r :: rs) r)) = txt at *
  refine law6 X hr5 (fun w hw => by obtain ⟨r, hr, rfl⟩ := List.mem_map.mp hw; exact (hgood r hr).uw) (by rw [List.length_map]; exact hlen) L5 (by rw [lo5 1 (by decide)]; show some (OV.list ((r :: rs).map fun r => V.str (S r.w))) = _; unfold strL; rw [List.map_map]; rfl) fun ρ6 H6 s6 L6 lo6 => ?_
  refine Xs.weaken ?_ s6.get
  have lo := lo5.trans lo6
  refine law7 X hlen L6 ?_ ?_ ?_ ?_ fun ρ7 H7 s7 M7 => ?_
  · rw [lo 1 (by decide)]; show some (OV.list ((r :: rs).map fun r => V.str (S r.w))) = _; unfold strL; rw [List.map_map]; rfl
  · rw [lo 2 (by decide)]; rfl
  · rw [lo 3 (by decide)]; show some (OV.list ((r :: rs).map fun r => V.int r.c)) = _; rw [List.map_map]; rfl
  · intro j h1 h2
    rw [lo j h2]
    have : ∀ k : Nat, j ≠ k → (j == k) = false := fun k hk => by simpa using hk
    show (List.lookup j (_ :: _ :: _ :: _ :: [])).isSome = false
    rw [List.lookup_cons, this 3 (by omega), List.lookup_cons, this 2 (by omega), List.lookup_cons, this 1 (by omega), List.lookup_cons, this 30 (by omega)]; rfl
  refine Xs.weaken ?_ s7.get
  have hinv : Inv (Good T1 T3 T N) (r :: rs) := ⟨hgood, by have := remC_le (r :: rs); omega⟩
  refine law8 P L.pl L.pp X hN4 (L.good N hN) hr6 hinv M7 fun ρ8 H8 m told K s8 w8 M8 => ?_
  refine Xs.weaken ?_ s8.get
  have hdt : m.due = told := by rw [w8.due, List.append_nil]
  refine law9 P X (r0 := r) (rows := r :: rs) rfl hr7 hr8 hcnt hdt (fun r hr => ?_) M8 fun ρ9 H9 s9 t9 h3 h5 h6 => ?_
  · have := w8.inv.good r (by rw [hdt]; exact hr)
    exact ⟨this.uw, this.us⟩
  refine Xs.weaken ?_ s9.get
  have w8' : WI (fun r => r.c ∈ allC) N (r :: rs) m told [] := ⟨w8.due, w8.run, ⟨fun r hr => (w8.inv.good r hr).ok, w8.inv.bound⟩, w8.pm, w8.sz, w8.hist⟩
  obtain ⟨hE, hLs⟩ := L.res N (r :: rs) m told (fun r hr => (hgood r hr).ok) w8'
  have hb := w8.inv.bound
  have hs := w8.sz
  rw [hdt] at hb
  exact law10 P (by rw [List.length_map, hlen]; decide) (by omega) h3 h5 h6 hE hLs (q _ t9)
end Mine
end PartL24

section PartM1
open PySem PySem.W PySem.Calls PyProof.Rows PySem.Builtin.Str
set_option maxRecDepth 100000
set_option linter.unusedVariables false
namespace Mine
theorem cnt_count (c : Nat) : ∀ l : List Nat, cnt c l = ((l.count c : Nat) : Int)
  | [] => rfl
  | x :: l => by
    rw [List.count_cons, cnt_cons, cnt_count c l]
    by_cases h : x = c <;> simp [h] <;> omega
theorem count_nl (txt : List Nat) : (Txt.count (S txt) (S [10]) : Int) = nlc txt := by
  have := count_cnt (S txt) 10
  rw [show S [10] = (⟨#[10]⟩ : Str) from rfl, this, cnt_count]
  rfl
theorem rep_len {x y z : Str} (h : z.length ≤ y.length) : (Txt.replace x y z).length ≤ x.length := by
  unfold Txt.replace
  split
  · exact Nat.le_refl _
  · have e := StrLaws.glued_between_self x y (x.length + 1)
    have h1 := size_glued y (partsBetween x (occurrences x y 0 x.length (x.length + 1)) y.length)
    rw [e] at h1
    have h2 := size_glued z (partsBetween x (occurrences x y 0 x.length (x.length + 1)) y.length)
    rw [h2]
    refine Nat.le_trans ?_ (Nat.le_of_eq h1.symm)
    exact Nat.add_le_add_left (Nat.mul_le_mul_left _ h) _
theorem lig_len (form : Int) (x : Str) : (ligF form x).length ≤ x.length := by
  unfold ligF
  split
  · exact Nat.le_trans (rep_len (by decide)) (rep_len (by decide))
  · exact Nat.le_refl _
theorem enum_len : ∀ (l : List Nat) (i : Nat), (enumL i l).length = l.length
  | [], _ => rfl
  | c :: l, i => by unfold enumL; rw [List.length_cons, List.length_cons, enum_len l (i + 1)]
theorem str_app_len (a b : Str) : (a ++ b).length = a.length + b.length := by
  show (a ++ b).cps.size = _
  rw [Str.cps_append, Array.size_append]; rfl
theorem veil_len (v : Int) (h : 0 ≤ v ∧ v < 90) : (veilS v).length ≤ 1 := by
  have : ∀ k : Fin 90, (veilS (k.val : Int)).length ≤ 1 := by decide +kernel
  have := this ⟨v.toNat, by omega⟩
  simpa [show ((v.toNat : Nat) : Int) = v by omega] using this
theorem wstep_len (form start : Int) : ∀ (l : List (Int × Nat)) (acc : Str), (l.foldl (wordStep form start) acc).length ≤ acc.length + 2 * l.length
  | [], acc => by simp
  | p :: l, acc => by
    rw [List.foldl_cons]
    refine Nat.le_trans (wstep_len form start l _) ?_
    have h := veil_len ((start + 13 * p.1).fmod 90) (fmod_range _ (by decide))
    unfold wordStep
    rw [str_app_len, str_app_len, S_len, List.length_cons]
    simp only [List.length_cons, List.length_nil]
    omega
theorem word_len (l : List Nat) (form start : Int) : (wordL l form start).length ≤ 2 * l.length := by
  unfold wordL wordS
  have h := wstep_len form start (enumL 0 (ligF form (S l)).cps.toList) (S [])
  have h2 := lig_len form (S l)
  have e1 : ∀ x : Str, x.cps.toList.length = x.length := fun x => by simp [Str.length]
  rw [enum_len, e1] at h
  rw [S_len] at h2
  rw [e1]
  rw [S_len] at h
  simp only [List.length_nil] at h
  omega
theorem pl : PL where
  lig := fun l form h => by
    have h1 := rep_len (x := S l) (y := S [102, 102]) (z := S [64256]) (by decide)
    have h2 := lig_len form (S l)
    rw [S_len] at h1 h2
    exact ⟨by omega, by omega⟩
  wlen := fun l form start h => by have := word_len l form start; omega
theorem mem_allC {a b : Nat} (ha : a < 16) (hb : b < 16) : 17 * (a : Int) + 256 * (b : Int) ∈ allC := by
  refine List.mem_map.mpr ⟨a + 16 * b, List.mem_range.mpr (by omega), ?_⟩
  rw [show (a + 16 * b) % 16 = a by omega, show (a + 16 * b) / 16 = b by omega]
theorem of_allC {c : Int} (h : c ∈ allC) : ∃ a b : Nat, a < 16 ∧ b < 16 ∧ c = 17 * (a : Int) + 256 * (b : Int) := by
  obtain ⟨k, hk, rfl⟩ := List.mem_map.mp h
  have := List.mem_range.mp hk
  exact ⟨k % 16, k / 16, by omega, by omega, rfl⟩
noncomputable def pairB (p m : Int) : Bool := !([1, 2, 4, 8].filter fun b => Builtin.bitAnd (m.fdiv 256) b != 0).isEmpty && (Builtin.bitAnd (p.fdiv 17) (bitF m) == 0 || (decide (0 ≤ Builtin.bitOr (p.fdiv 17 - bitF m) ((m.fmod 256).fdiv 17)) && decide (Builtin.bitOr (p.fdiv 17 - bitF m) ((m.fmod 256).fdiv 17) < 16) && decide (0 ≤ m.fdiv 256 - bitF m) && decide (m.fdiv 256 - bitF m < 16)))
theorem pair_all : ((List.range 16).all fun p => (List.range 16).all fun a => (List.range 15).all fun b => pairB (17 * (p : Int)) (17 * (a : Int) + 256 * ((b + 1 : Nat) : Int))) = true := by decide +kernel
theorem pair_of {p m : Int} (h : pairB p m = true) (c one : Int) (h1 : (if one > c then one else c) = m) (h2 : (if one < c then one else c) = p) : Pair c one := by
  unfold pairB at h
  obtain ⟨ha, hb⟩ := Bool.and_eq_true_iff.mp h
  refine ⟨?_, fun hn => ?_⟩
  · rw [h1]; intro e; rw [e] at ha; cases ha
  · rw [h1, h2] at hn ⊢
    rcases Bool.or_eq_true_iff.mp hb with hb | hb
    · exact absurd (beq_iff_eq.mp hb) hn
    · simp only [Bool.and_eq_true, decide_eq_true_eq] at hb
      obtain ⟨⟨⟨g1, g2⟩, g3⟩, g4⟩ := hb
      unfold freshF
      generalize Builtin.bitOr (p.fdiv 17 - bitF m) ((m.fmod 256).fdiv 17) = A at *
      generalize m.fdiv 256 - bitF m = B at *
      have := mem_allC (a := A.toNat) (b := B.toNat) (by omega) (by omega)
      rwa [show ((A.toNat : Nat) : Int) = A by omega, show ((B.toNat : Nat) : Int) = B by omega] at this
theorem pp : PairLaw := fun p hp hp2 m hm hm2 => by
  obtain ⟨p1, p2, h1, h2, rfl⟩ := of_allC hp
  obtain ⟨m1, m2, h3, h4, rfl⟩ := of_allC hm
  have e0 : p2 = 0 := by omega
  subst e0
  have hm0 : 1 ≤ m2 := by omega
  have h := List.all_eq_true.mp (List.all_eq_true.mp (List.all_eq_true.mp pair_all p1 (List.mem_range.mpr h1)) m1 (List.mem_range.mpr h3)) (m2 - 1) (List.mem_range.mpr (by omega))
  rw [show m2 - 1 + 1 = m2 by omega] at h
  have e : 17 * (p1 : Int) + 256 * ((0 : Nat) : Int) = 17 * (p1 : Int) := by omega
  rw [e] at *
  have hlt : 17 * (p1 : Int) < 17 * (m1 : Int) + 256 * (m2 : Int) := by omega
  exact ⟨pair_of h _ _ (by rw [if_pos hlt]) (by rw [if_neg (by omega)]), pair_of h _ _ (by rw [if_neg (by omega)]) (by rw [if_pos hlt])⟩
end Mine
end PartM1

section PartM2
open PySem PySem.W PySem.Calls PyProof.Rows PySem.Builtin.Str
set_option maxRecDepth 100000
set_option linter.unusedVariables false
namespace Mine
theorem ws_is (x : Int) : isWs (wsAt (x.fmod 4)) = true := by
  have := fmod_range x (b := 4) (by decide)
  have : x.fmod 4 = 0 ∨ x.fmod 4 = 1 ∨ x.fmod 4 = 2 ∨ x.fmod 4 = 3 := by omega
  rcases this with h | h | h | h <;> rw [h] <;> rfl
theorem lex_ws (c : Nat) (h : isWs c = true) (m : Nat) (r : List Nat) : lexTok (List.replicate m c ++ r) = lexTok r := by
  induction m with
  | zero => rfl
  | succ m ih => rw [List.replicate_succ, List.cons_append, lexTok, if_pos h]; exact ih
noncomputable def bodyF (q : Bool) (turn : Int) : Nat → List Nat → List Nat
  | _, [] => []
  | i, c :: r => (if escB q turn i c then [92, c] else [c]) ++ bodyF q turn (i + 1) r
theorem body_fold (q : Bool) (turn : Int) : ∀ (w : List Nat) (i : Nat) (acc : List Nat), (enumL i w).foldl (bodyStep q turn) acc = acc ++ bodyF q turn i w
  | [], i, acc => by simp [enumL, bodyF]
  | c :: r, i, acc => by
    rw [enumL, List.foldl_cons, body_fold q turn r (i + 1), bodyF]
    unfold bodyStep
    simp only
    split <;> simp
theorem body_eq (q : Bool) (turn : Int) (w : List Nat) : bodyL q turn w = bodyF q turn 0 w := by
  unfold bodyL; rw [body_fold]; rfl
noncomputable def stopB (q : Bool) : Nat → Bool := if q then (· == 34) else isWs
theorem stop_92 (q : Bool) : stopB q 92 = false := by cases q <;> rfl
theorem esc_no {q : Bool} {turn spot : Int} {c : Nat} (h : escB q turn spot c = false) : stopB q c = false ∧ c ≠ 92 := by
  unfold escB at h
  simp only [Bool.or_eq_false_iff, decide_eq_false_iff_not] at h
  obtain ⟨⟨h1, _⟩, _⟩ := h
  cases q
  · simp only [escSet, Bool.false_eq_true, if_false, List.mem_cons, List.not_mem_nil, or_false, not_or] at h1
    refine ⟨?_, h1.2.2.2.2⟩
    show isWs c = false
    unfold isWs
    simp only [List.mem_cons, List.not_mem_nil, or_false, decide_eq_false_iff_not, not_or]
    exact ⟨h1.2.2.2.1, h1.2.1, h1.2.2.1, h1.1⟩
  · simp only [escSet, if_true, List.mem_cons, List.not_mem_nil, or_false, not_or] at h1
    exact ⟨by show (c == 34) = false; simpa using h1.1, h1.2⟩
theorem scan_body (q : Bool) (turn : Int) : ∀ (w : List Nat) (i : Nat) (tok x : List Nat), scan (stopB q) tok (bodyF q turn i w ++ x) = scan (stopB q) (tok ++ w) x
  | [], i, tok, x => by simp [bodyF]
  | c :: r, i, tok, x => by
    rw [bodyF]
    cases h : escB q turn i c with
    | true =>
      rw [if_pos rfl]
      show scan (stopB q) tok (92 :: c :: (bodyF q turn (i + 1) r ++ x)) = _
      rw [scan_esc (stop_92 q), List.take_succ_cons, List.take_zero, List.drop_succ_cons, List.drop_zero, scan_body q turn r (i + 1), List.append_assoc]; rfl
    | false =>
      rw [if_neg (by decide)]
      obtain ⟨h1, h2⟩ := esc_no h
      show scan (stopB q) tok (c :: (bodyF q turn (i + 1) r ++ x)) = _
      rw [scan_go h1 h2, scan_body q turn r (i + 1), List.append_assoc]; rfl
/-- a word read back, up to its end -/
theorem lex_word (m : Nat) (a turn : Int) (q : Bool) (w x : List Nat) (hq : q = false → w ≠ []) :
    lexTok (List.replicate m (wsAt (a.fmod 4)) ++ (if q then 34 :: bodyL true turn w else bodyL false turn w) ++ x) = scan (stopB q) w x := by
  rw [List.append_assoc, lex_ws _ (ws_is a)]
  cases q with
  | true =>
    rw [if_pos rfl, List.cons_append, lexTok, if_neg (by decide), if_pos rfl, body_eq]
    exact (scan_body true turn w 0 [] x).trans (by rw [List.nil_append])
  | false =>
    rw [if_neg (by decide), body_eq]
    cases w with
    | nil => exact absurd rfl (hq rfl)
    | cons c r =>
      rw [bodyF]
      cases h : escB false turn (0 : Nat) c with
      | true =>
        rw [if_pos rfl]
        show lexTok (92 :: c :: (bodyF false turn (0 + 1) r ++ x)) = _
        rw [lexTok, if_neg (by decide), if_neg (by decide), if_pos rfl]
        exact scan_body false turn r (0 + 1) [c] x
      | false =>
        rw [if_neg (by decide)]
        obtain ⟨h1, h2⟩ := esc_no h
        have h3 : c ≠ 34 := fun e => by
          subst e
          unfold escB at h
          simp at h
        show lexTok (c :: (bodyF false turn (0 + 1) r ++ x)) = _
        have h1 : isWs c = false := h1
        rw [lexTok, if_neg (by rw [h1]; decide), if_neg h3, if_neg h2]
        exact scan_body false turn r (0 + 1) [c] x
theorem quot_ne {turn k : Int} {w : List Nat} (h : quotB turn k w = false) : w ≠ [] := fun e => by
  subst e
  unfold quotB at h
  simp at h
theorem lex_piece {n : Nat} {turn k : Int} {w rest : List Nat} (hk : k ≠ (n : Int) - 1) : lexTok (pieceL n turn k w ++ rest) = (w, rest) := by
  unfold pieceL
  rw [List.append_assoc, lex_word _ _ _ _ _ _ quot_ne]
  unfold endL
  rw [if_neg hk]
  cases h : quotB turn k w with
  | true => rw [if_pos rfl]; exact scan_stop (by rfl) _ _
  | false => rw [if_neg (by decide)]; exact scan_stop (ws_is turn) _ _
theorem lex_last {n : Nat} {turn k : Int} {w : List Nat} (hk : k = (n : Int) - 1) : lexTok (pieceL n turn k w) = (w, []) := by
  unfold pieceL
  rw [lex_word _ _ _ _ _ _ quot_ne]
  unfold endL
  rw [if_pos hk]
  simp [scan, stop_92]
noncomputable def textFrom (n : Nat) (figs : List Int) (i : Nat) (ws : List (List Nat)) : List Nat := (enumW i ws).flatMap fun p => pieceL n (turnAt figs p.1) p.1 p.2
theorem text_fold (n : Nat) (figs : List Int) : ∀ (l : List (Int × List Nat)) (acc : List Nat), l.foldl (fun acc p => acc ++ pieceL n (turnAt figs p.1) p.1 p.2) acc = acc ++ l.flatMap fun p => pieceL n (turnAt figs p.1) p.1 p.2
  | [], acc => by simp
  | p :: l, acc => by rw [List.foldl_cons, text_fold n figs l, List.flatMap_cons, List.append_assoc]
theorem text_eq (figs : List Int) (ws : List (List Nat)) : textL figs ws = textFrom ws.length figs 0 ws := by
  unfold textL; rw [text_fold]; rfl
theorem reads (n : Nat) (figs : List Int) (tail : List (List Nat)) : ∀ (ws : List (List Nat)) (i : Nat), i + ws.length < n → ReadsTo (textFrom n figs i (ws ++ tail)) ws (textFrom n figs (i + ws.length) tail)
  | [], i, _ => rfl
  | w :: ws, i, h => by
    rw [List.length_cons] at h
    have e : textFrom n figs i ((w :: ws) ++ tail) = pieceL n (turnAt figs (i : Int)) (i : Int) w ++ textFrom n figs (i + 1) (ws ++ tail) := rfl
    have hl := lex_piece (n := n) (turn := turnAt figs (i : Int)) (k := (i : Int)) (w := w) (rest := textFrom n figs (i + 1) (ws ++ tail)) (by omega)
    rw [e]
    refine ⟨by rw [hl], ?_⟩
    rw [hl]
    have := reads n figs tail ws (i + 1) (by omega)
    rwa [show i + (w :: ws).length = i + 1 + ws.length by rw [List.length_cons]; omega]
theorem read_law (g : List Int) (rows : List Row) (r0 : Row) (hl : rows.length = 5) : ∃ cs5 cs6 cs7, ReadsTo (textL g (wsF rows r0)) (rows.map (·.w)) cs5 ∧ lexTok cs5 = ([], cs6) ∧ lexTok cs6 = (r0.w, cs7) ∧ lexTok cs7 = ([], []) := by
  have hn : (wsF rows r0).length = 7 := by simp [wsF, hl]
  refine ⟨textFrom 7 g 5 [[], r0.w], pieceL 7 (turnAt g 6) 6 r0.w, [], ?_, ?_, lex_last (by decide), rfl⟩
  · rw [text_eq, hn]
    have := reads 7 g [[], r0.w] (rows.map (·.w)) 0 (by rw [List.length_map, hl]; decide)
    rw [List.length_map, hl] at this
    exact this
  · have e : textFrom 7 g 5 [[], r0.w] = pieceL 7 (turnAt g 5) 5 [] ++ pieceL 7 (turnAt g 6) 6 r0.w := by
      show pieceL 7 (turnAt g 5) 5 [] ++ (pieceL 7 (turnAt g 6) 6 r0.w ++ []) = _
      rw [List.append_nil]
    rw [e]
    exact lex_piece (by decide)
end Mine
end PartM2

section PartM3
open PySem PySem.W PySem.Calls PyProof.Rows
set_option maxRecDepth 100000
set_option linter.unusedVariables false
namespace Mine
theorem and_nat (x y : Nat) : Builtin.bitAnd (x : Int) (y : Int) = ((x &&& y : Nat) : Int) := by
  unfold Builtin.bitAnd
  rw [show decide (0 ≤ (x : Int)) = true from decide_eq_true (by omega), show decide (0 ≤ (y : Int)) = true from decide_eq_true (by omega)]
  rfl
theorem or_fin : ∀ x y : Fin 16, Builtin.bitOr ((x.val : Nat) : Int) ((y.val : Nat) : Int) = ((x.val ||| y.val : Nat) : Int) := by decide +kernel
theorem or_nat {x y : Nat} (hx : x < 16) (hy : y < 16) : Builtin.bitOr (x : Int) (y : Int) = ((x ||| y : Nat) : Int) := or_fin ⟨x, hx⟩ ⟨y, hy⟩
noncomputable def mkc (a b : Nat) : Int := 17 * (a : Int) + 256 * (b : Int)
theorem mkc_p {a b : Nat} (ha : a < 16) : ((mkc a b).fmod 256).fdiv 17 = (a : Int) := by
  unfold mkc
  rw [Int.fmod_eq_emod_of_nonneg _ (by decide), Int.fdiv_eq_ediv_of_nonneg _ (by decide)]
  omega
theorem mkc_m {a b : Nat} (ha : a < 16) : (mkc a b).fdiv 256 = (b : Int) := by
  unfold mkc
  rw [Int.fdiv_eq_ediv_of_nonneg _ (by decide)]
  omega
theorem mkc_17 {a : Nat} : (mkc a 0).fdiv 17 = (a : Int) := by
  unfold mkc
  rw [Int.fdiv_eq_ediv_of_nonneg _ (by decide)]
  omega
noncomputable def lowB (b : Nat) : Nat := if b % 2 = 1 then 1 else if b / 2 % 2 = 1 then 2 else if b / 4 % 2 = 1 then 4 else if b / 8 % 2 = 1 then 8 else 0
theorem low_fin : ∀ b : Fin 16, ([1, 2, 4, 8].filter fun x => Builtin.bitAnd ((b.val : Nat) : Int) x != 0).getD 0 0 = (lowB b.val : Int) := by decide +kernel
theorem bitF_mkc {a b : Nat} (ha : a < 16) (hb : b < 16) : bitF (mkc a b) = (lowB b : Int) := by
  unfold bitF
  rw [mkc_m ha]
  exact low_fin ⟨b, hb⟩
theorem low_le : ∀ b : Fin 16, lowB b.val ≤ b.val := by decide +kernel
theorem low_in : ∀ (b : Fin 16) (p : Fin 16), p.val &&& lowB b.val ≠ 0 → lowB b.val ≤ p.val ∧ (p.val - lowB b.val ||| 0) < 16 := by decide +kernel
theorem or_lt : ∀ (x y : Fin 16), x.val ||| y.val < 16 := by decide +kernel
theorem false_mkc {a b h : Nat} (ha : a < 16) (hh : h < 16) : falseB (h : Int) (mkc a b) = (a &&& h == 0 && b &&& (15 - h) == 0) := by
  unfold falseB
  rw [mkc_p ha, mkc_m ha, show (15 : Int) - (h : Int) = ((15 - h : Nat) : Int) by omega, and_nat, and_nat]
  rw [Bool.eq_iff_iff]
  simp only [Bool.and_eq_true, beq_iff_eq]
  omega
theorem fresh_mkc {p a b : Nat} (hp : p < 16) (ha : a < 16) (hb : b < 16) (hl : lowB b ≤ p) : freshF (mkc p 0) (mkc a b) = mkc (p - lowB b ||| a) (b - lowB b) := by
  have := low_le ⟨b, hb⟩
  unfold freshF
  rw [bitF_mkc ha hb, mkc_17, mkc_p ha, mkc_m ha, show (p : Int) - (lowB b : Int) = ((p - lowB b : Nat) : Int) by omega, or_nat (by omega) ha, show (b : Int) - (lowB b : Int) = ((b - lowB b : Nat) : Int) by simp at this; omega]
  rfl
/-- one step of resolution, told by bits -/
noncomputable def stepB (b h p a : Nat) : Bool :=
  let l := lowB b
  (Nat.beq (p &&& l) 0 || Nat.beq (p &&& h) 0 || (Nat.beq (a &&& h) 0 && Nat.beq (b &&& (15 - h)) 0) || !(Nat.beq ((p - l ||| a) &&& h) 0 && Nat.beq ((b - l) &&& (15 - h)) 0)) &&
  (!Nat.beq (a &&& h) 0 || !Nat.beq (b &&& (15 - h)) 0 || Nat.beq (p &&& h) 0 || !Nat.beq (p &&& (h - l)) 0 || (!Nat.beq (p &&& l) 0 && Nat.beq ((p - l ||| a) &&& h) 0 && Nat.beq ((b - l) &&& (15 - h)) 0))
theorem step_all : ((List.range 15).all fun b => (List.range 16).all fun h => (List.range 16).all fun p => (List.range 16).all fun a => stepB (b + 1) h p a) = true := by decide +kernel
noncomputable def lowOk (b h : Nat) : Bool := Nat.beq (b &&& (15 - h)) 0 == false || (Nat.blt (h - lowB b) h && Nat.beq ((h - lowB b) &&& h) (h - lowB b) && Nat.blt (b - lowB b) b)
theorem low_all : ((List.range 15).all fun b => (List.range 16).all fun h => lowOk (b + 1) h) = true := by decide +kernel
theorem taut_all : ((List.range 16).all fun a => (List.range 16).all fun b => (List.range 16).all fun h => Nat.beq (b &&& a) 0 || !(Nat.beq (a &&& h) 0 && Nat.beq (b &&& (15 - h)) 0)) = true := by decide +kernel
end Mine
end PartM3

section PartM4
open PySem PySem.W PySem.Calls PyProof.Rows
set_option maxRecDepth 100000
set_option linter.unusedVariables false
namespace Mine
noncomputable def Sat (h : Nat) (c : Int) : Prop := falseB (h : Int) c = false
theorem allC_mkc {c : Int} (h : c ∈ allC) : ∃ a b, a < 16 ∧ b < 16 ∧ c = mkc a b := of_allC h
theorem mkc_all {a b : Nat} (ha : a < 16) (hb : b < 16) : mkc a b ∈ allC := mem_allC ha hb
theorem sat_mkc {a b h : Nat} (ha : a < 16) (hh : h < 16) : Sat h (mkc a b) ↔ ¬ (a &&& h = 0 ∧ b &&& (15 - h) = 0) := by
  unfold Sat
  rw [false_mkc ha hh]
  simp only [Bool.and_eq_false_iff, beq_eq_false_iff_ne]
  exact ⟨fun g ⟨x, y⟩ => g.elim (fun q => q x) (fun q => q y), fun g => by by_cases x : a &&& h = 0; exact .inr fun y => g ⟨x, y⟩; exact .inl x⟩
theorem sat_pure {a h : Nat} (ha : a < 16) (hh : h < 16) : Sat h (mkc a 0) ↔ a &&& h ≠ 0 := by
  rw [sat_mkc ha hh]
  simp
theorem nbeq {x y : Nat} : Nat.beq x y = true ↔ x = y := ⟨Nat.eq_of_beq_eq_true, fun e => by subst e; exact Nat.beq_refl x⟩
theorem step_get {b h p a : Nat} (h0 : b ≠ 0) (hb : b < 16) (hh : h < 16) (hp : p < 16) (ha : a < 16) : stepB b h p a = true := by
  have := List.all_eq_true.mp (List.all_eq_true.mp (List.all_eq_true.mp (List.all_eq_true.mp step_all (b - 1) (List.mem_range.mpr (by omega))) h (List.mem_range.mpr hh)) p (List.mem_range.mpr hp)) a (List.mem_range.mpr ha)
  rwa [show b - 1 + 1 = b by omega] at this
theorem step_sound {b h p a : Nat} (h0 : b ≠ 0) (hb : b < 16) (hh : h < 16) (hp : p < 16) (ha : a < 16) (h1 : p &&& lowB b ≠ 0) (h2 : p &&& h ≠ 0) (h3 : ¬ (a &&& h = 0 ∧ b &&& (15 - h) = 0)) : ¬ ((p - lowB b ||| a) &&& h = 0 ∧ (b - lowB b) &&& (15 - h) = 0) := by
  have hs := (Bool.and_eq_true_iff.mp (step_get h0 hb hh hp ha)).1
  simp only [Bool.or_eq_true, Bool.and_eq_true, Bool.not_eq_true', nbeq] at hs
  rcases hs with ((hs | hs) | hs) | hs
  · exact absurd hs h1
  · exact absurd hs h2
  · exact absurd hs h3
  · rintro ⟨x, y⟩
    rw [nbeq.mpr x, nbeq.mpr y] at hs; cases hs
theorem step_full {b h p a : Nat} (h0 : b ≠ 0) (hb : b < 16) (hh : h < 16) (hp : p < 16) (ha : a < 16) (h1 : a &&& h = 0) (h2 : b &&& (15 - h) = 0) (h3 : p &&& h ≠ 0) (h4 : p &&& (h - lowB b) = 0) :
    p &&& lowB b ≠ 0 ∧ (p - lowB b ||| a) &&& h = 0 ∧ (b - lowB b) &&& (15 - h) = 0 := by
  have hs := (Bool.and_eq_true_iff.mp (step_get h0 hb hh hp ha)).2
  have e3 : Nat.beq (p &&& h) 0 = false := by cases q : Nat.beq (p &&& h) 0 with | false => rfl | true => exact absurd (nbeq.mp q) h3
  rw [nbeq.mpr h1, nbeq.mpr h2, nbeq.mpr h4, e3] at hs
  have hs : (!Nat.beq (p &&& lowB b) 0 && Nat.beq ((p - lowB b ||| a) &&& h) 0 && Nat.beq ((b - lowB b) &&& (15 - h)) 0) = true := hs
  obtain ⟨hs, z⟩ := Bool.and_eq_true_iff.mp hs
  obtain ⟨x, y⟩ := Bool.and_eq_true_iff.mp hs
  exact ⟨fun e => (by rw [nbeq.mpr e] at x; cases x), nbeq.mp y, nbeq.mp z⟩
theorem low_full {b h : Nat} (h0 : b ≠ 0) (hb : b < 16) (hh : h < 16) (h2 : b &&& (15 - h) = 0) : h - lowB b < h ∧ (h - lowB b) &&& h = h - lowB b ∧ b - lowB b < b := by
  have hs := List.all_eq_true.mp (List.all_eq_true.mp low_all (b - 1) (List.mem_range.mpr (by omega))) h (List.mem_range.mpr hh)
  rw [show b - 1 + 1 = b by omega] at hs
  unfold lowOk at hs
  rw [nbeq.mpr h2] at hs
  simp only [Bool.or_eq_true, Bool.and_eq_true, nbeq, show (true == false) = false from rfl, Bool.false_eq_true, false_or] at hs
  obtain ⟨⟨x, y⟩, z⟩ := hs
  exact ⟨by simp [Nat.blt] at x; omega, y, by simp [Nat.blt] at z; omega⟩
theorem taut_sat {a b h : Nat} (ha : a < 16) (hb : b < 16) (hh : h < 16) (ht : b &&& a ≠ 0) : Sat h (mkc a b) := by
  rw [sat_mkc ha hh]
  have hs := List.all_eq_true.mp (List.all_eq_true.mp (List.all_eq_true.mp taut_all a (List.mem_range.mpr ha)) b (List.mem_range.mpr hb)) h (List.mem_range.mpr hh)
  rintro ⟨x, y⟩
  rw [nbeq.mpr x, nbeq.mpr y] at hs
  simp only [Bool.or_eq_true, nbeq] at hs
  rcases hs with hs | hs
  · exact ht hs
  · cases hs
/-- the rows that come of one clause -/
theorem add_fold (N : List Nat) (c : Int) (pl mi : Int → Int) (hp : ∀ one, (if one < c then one else c) = pl one) (hm : ∀ one, (if one > c then one else c) = mi one) : ∀ (l : List Int) (due : List Row), (∀ r ∈ due, r ∈ l.foldl (addRow N c) due) ∧
    (∀ r ∈ l.foldl (addRow N c) due, r ∈ due ∨ ∃ one ∈ l, Builtin.bitAnd ((pl one).fdiv 17) (bitF (mi one)) ≠ 0 ∧ r.c = freshF (pl one) (mi one)) ∧
    (∀ one ∈ l, Builtin.bitAnd ((pl one).fdiv 17) (bitF (mi one)) ≠ 0 → ∃ r ∈ l.foldl (addRow N c) due, r.c = freshF (pl one) (mi one))
  | [], due => ⟨fun r h => h, fun r h => .inl h, fun _ h => nomatch h⟩
  | one :: l, due => by
    obtain ⟨h1, h2, h3⟩ := add_fold N c pl mi hp hm l (addRow N c due one)
    have e : addRow N c due one = if Builtin.bitAnd ((pl one).fdiv 17) (bitF (mi one)) == 0 then due else if due.any (·.c == freshF (pl one) (mi one)) then due else due ++ [mkRow N due.length (freshF (pl one) (mi one))] := by
      unfold addRow; simp only [hp, hm]
    have sub : ∀ r ∈ due, r ∈ addRow N c due one := fun r hr => by
      rw [e]; split
      · exact hr
      · split
        · exact hr
        · exact List.mem_append_left _ hr
    rw [List.foldl_cons]
    refine ⟨fun r hr => h1 r (sub r hr), fun r hr => ?_, fun o ho hb => ?_⟩
    · rcases h2 r hr with hr | ⟨o, ho, g⟩
      · rw [e] at hr
        split at hr
        · exact .inl hr
        · rename_i hb
          split at hr
          · exact .inl hr
          · rcases List.mem_append.mp hr with hr | hr
            · exact .inl hr
            · cases List.mem_singleton.mp hr
              exact .inr ⟨one, .head _, by simpa using hb, rfl⟩
      · exact .inr ⟨o, .tail _ ho, g⟩
    · rcases List.mem_cons.mp ho with rfl | ho
      · have : ∃ r ∈ addRow N c due o, r.c = freshF (pl o) (mi o) := by
          rw [e, if_neg (by simpa using hb)]
          by_cases ha : due.any (·.c == freshF (pl o) (mi o)) = true
          · rw [if_pos ha]
            obtain ⟨r, hr, hc⟩ := List.any_eq_true.mp ha
            exact ⟨r, hr, beq_iff_eq.mp hc⟩
          · rw [if_neg ha]
            exact ⟨_, List.mem_append_right _ (.head _), rfl⟩
        obtain ⟨r, hr, hc⟩ := this
        exact ⟨r, h1 r hr, hc⟩
      · exact h3 o ho hb
structure Jv (N : List Nat) (rows : List Row) (m : Mch) (told : List Row) : Prop where
  sub : ∀ r ∈ rows, r ∈ m.due
  all : ∀ r ∈ m.due, r.c ∈ allC
  p : ∀ c ∈ m.pure, ∃ a, a < 16 ∧ c = mkc a 0
  q : ∀ c ∈ m.mixed, ∃ a b, a < 16 ∧ b < 16 ∧ b ≠ 0 ∧ c = mkc a b
  snd : ∀ h, h < 16 → (∀ r ∈ rows, Sat h r.c) → (∀ r ∈ m.due, Sat h r.c) ∧ ∀ c ∈ m.pure ++ m.mixed, Sat h c
  done : ∀ r ∈ told, (∀ h, h < 16 → Sat h r.c) ∨ r.c ∈ m.pure ++ m.mixed
  cl : ∀ x ∈ m.pure, ∀ y ∈ m.mixed, Builtin.bitAnd (x.fdiv 17) (bitF y) ≠ 0 → ∃ r ∈ m.due, r.c = freshF x y
  nd : m.pure.Nodup
theorem bit_nat {p a b : Nat} (ha : a < 16) (hb : b < 16) : Builtin.bitAnd ((mkc p 0).fdiv 17) (bitF (mkc a b)) ≠ 0 ↔ p &&& lowB b ≠ 0 := by
  rw [bitF_mkc ha hb, mkc_17, and_nat]; omega
/-- what comes of a pure and a mixed clause -/
theorem fresh_ok {x y : Int} (hx : ∃ a, a < 16 ∧ x = mkc a 0) (hy : ∃ a b, a < 16 ∧ b < 16 ∧ b ≠ 0 ∧ y = mkc a b) (hb : Builtin.bitAnd (x.fdiv 17) (bitF y) ≠ 0) : freshF x y ∈ allC ∧ ∀ h, h < 16 → Sat h x → Sat h y → Sat h (freshF x y) := by
  obtain ⟨p, hp, rfl⟩ := hx
  obtain ⟨a, b, ha, hb', h0, rfl⟩ := hy
  rw [bit_nat ha hb'] at hb
  have hl := (low_in ⟨b, hb'⟩ ⟨p, hp⟩ hb).1
  have hl : lowB b ≤ p := hl
  rw [fresh_mkc hp ha hb' hl]
  have ho := or_lt ⟨p - lowB b, by omega⟩ ⟨a, ha⟩
  refine ⟨mkc_all ho (by omega), fun h hh s1 s2 => ?_⟩
  rw [sat_pure hp hh] at s1
  rw [sat_mkc ha hh] at s2
  rw [sat_mkc ho hh]
  exact step_sound h0 hb' hh hp ha hb s1 s2
end Mine
end PartM4

section PartM5
open PySem PySem.W PySem.Calls PyProof.Rows
set_option maxRecDepth 100000
set_option linter.unusedVariables false
namespace Mine
theorem mkc_ge {a b : Nat} (ha : a < 16) : 256 ≤ mkc a b ↔ b ≠ 0 := by unfold mkc; omega
theorem newB_mkc {a b : Nat} (ha : a < 16) (m : Mch) : newB m (mkc a b) = (b &&& a == 0 && !((m.pure ++ m.mixed).any (· == mkc a b))) := by
  unfold newB
  rw [mkc_m ha, mkc_p ha, and_nat]
  congr 1
  rw [Bool.eq_iff_iff, beq_iff_eq, beq_iff_eq]; omega
theorem jv {N : List Nat} {rows : List Row} (h0 : ∀ r ∈ rows, r.c ∈ allC) {m : Mch} {told : List Row} (h : Hist N rows m told) : Jv N rows m told := by
  induction h with
  | nil => exact ⟨fun _ h => h, h0, fun _ h => (nomatch h), fun _ h => (nomatch h), fun h hh hs => ⟨hs, fun _ h => (nomatch h)⟩, fun _ h => (nomatch h), fun _ h => (nomatch h), List.nodup_nil⟩
  | @step m told r h hr ih =>
    have hc := ih.all r hr
    obtain ⟨a, b, ha, hb, e⟩ := allC_mkc hc
    unfold stepM
    by_cases hn : newB m r.c = true
    · rw [if_pos hn]
      rw [e, newB_mkc ha] at hn
      obtain ⟨ht, hnot⟩ := Bool.and_eq_true_iff.mp hn
      have hno : r.c ∉ m.pure ++ m.mixed := fun hm => by
        rw [e] at hm
        have q : ((m.pure ++ m.mixed).any fun x => x == mkc a b) = true := List.any_eq_true.mpr ⟨_, hm, beq_self_eq_true _⟩
        rw [q] at hnot; cases hnot
      by_cases hb0 : b = 0
      · subst hb0
        have hlt : ¬ 256 ≤ r.c := fun g => (mkc_ge ha).mp (e ▸ g) rfl
        have hlt' : r.c < 256 := by omega
        simp only [if_neg hlt, if_pos hlt']
        obtain ⟨f1, f2, f3⟩ := add_fold N r.c (fun one => if one < r.c then one else r.c) (fun one => if one > r.c then one else r.c) (fun _ => rfl) (fun _ => rfl) m.mixed m.due
        have hpl : ∀ y ∈ m.mixed, (if y < r.c then y else r.c) = r.c ∧ (if y > r.c then y else r.c) = y := fun y hy => by
          obtain ⟨a', b', ha', hb', h0', e'⟩ := ih.q y hy
          have := (mkc_ge (b := b') ha').mpr h0'
          rw [← e'] at this
          exact ⟨if_neg (by omega), if_pos (by omega)⟩
        refine ⟨fun x hx => f1 x (ih.sub x hx), fun x hx => ?_, fun x hx => ?_, ih.q, fun h hh hs => ?_, fun x hx => ?_, fun x hx y hy hbit => ?_, ?_⟩
        · rcases f2 x hx with hx | ⟨y, hy, hbit, ec⟩
          · exact ih.all x hx
          · simp only [(hpl y hy).1, (hpl y hy).2] at hbit ec
            rw [ec]; exact (fresh_ok ⟨a, ha, e⟩ (ih.q y hy) hbit).1
        · rcases List.mem_append.mp hx with hx | hx
          · exact ih.p x hx
          · cases List.mem_singleton.mp hx; exact ⟨a, ha, e⟩
        · obtain ⟨s1, s2⟩ := ih.snd h hh hs
          refine ⟨fun x hx => ?_, fun x hx => ?_⟩
          · rcases f2 x hx with hx | ⟨y, hy, hbit, ec⟩
            · exact s1 x hx
            · simp only [(hpl y hy).1, (hpl y hy).2] at hbit ec
              rw [ec]; exact (fresh_ok ⟨a, ha, e⟩ (ih.q y hy) hbit).2 h hh (s1 r hr) (s2 y (List.mem_append_right _ hy))
          · simp only [List.mem_append, List.mem_singleton] at hx
            rcases hx with (hx | rfl) | hx
            · exact s2 x (List.mem_append_left _ hx)
            · exact s1 r hr
            · exact s2 x (List.mem_append_right _ hx)
        · rcases List.mem_append.mp hx with hx | hx
          · refine (ih.done x hx).imp id fun g => ?_
            simp only [List.mem_append, List.mem_singleton] at g ⊢
            rcases g with g | g
            · exact .inl (.inl g)
            · exact .inr g
          · cases List.mem_singleton.mp hx
            exact .inr (List.mem_append_left _ (List.mem_append_right _ (.head _)))
        · rcases List.mem_append.mp hx with hx | hx
          · obtain ⟨z, hz, ez⟩ := ih.cl x hx y hy hbit
            exact ⟨z, f1 z hz, ez⟩
          · cases List.mem_singleton.mp hx
            have g := f3 y hy
            simp only [(hpl y hy).1, (hpl y hy).2] at g
            exact g hbit
        · rw [List.nodup_append]
          exact ⟨ih.nd, by simp, fun x hx y hy => by cases List.mem_singleton.mp hy; exact fun q => hno (q ▸ List.mem_append_left _ hx)⟩
      · have hge : 256 ≤ r.c := e ▸ (mkc_ge ha).mpr hb0
        have hlt' : ¬ r.c < 256 := by omega
        simp only [if_pos hge, if_neg hlt']
        obtain ⟨f1, f2, f3⟩ := add_fold N r.c (fun one => if one < r.c then one else r.c) (fun one => if one > r.c then one else r.c) (fun _ => rfl) (fun _ => rfl) m.pure m.due
        have hpl : ∀ y ∈ m.pure, (if y < r.c then y else r.c) = y ∧ (if y > r.c then y else r.c) = r.c := fun y hy => by
          obtain ⟨a', ha', e'⟩ := ih.p y hy
          have : ¬ 256 ≤ y := fun g => (mkc_ge ha').mp (e' ▸ g) rfl
          exact ⟨if_pos (by omega), if_neg (by omega)⟩
        have hm : ∃ a b, a < 16 ∧ b < 16 ∧ b ≠ 0 ∧ r.c = mkc a b := ⟨a, b, ha, hb, hb0, e⟩
        refine ⟨fun x hx => f1 x (ih.sub x hx), fun x hx => ?_, ih.p, fun x hx => ?_, fun h hh hs => ?_, fun x hx => ?_, fun x hx y hy hbit => ?_, ih.nd⟩
        · rcases f2 x hx with hx | ⟨y, hy, hbit, ec⟩
          · exact ih.all x hx
          · simp only [(hpl y hy).1, (hpl y hy).2] at hbit ec
            rw [ec]; exact (fresh_ok (ih.p y hy) hm hbit).1
        · rcases List.mem_append.mp hx with hx | hx
          · exact ih.q x hx
          · cases List.mem_singleton.mp hx; exact hm
        · obtain ⟨s1, s2⟩ := ih.snd h hh hs
          refine ⟨fun x hx => ?_, fun x hx => ?_⟩
          · rcases f2 x hx with hx | ⟨y, hy, hbit, ec⟩
            · exact s1 x hx
            · simp only [(hpl y hy).1, (hpl y hy).2] at hbit ec
              rw [ec]; exact (fresh_ok (ih.p y hy) hm hbit).2 h hh (s2 y (List.mem_append_left _ hy)) (s1 r hr)
          · simp only [List.mem_append, List.mem_singleton] at hx
            rcases hx with hx | hx | rfl
            · exact s2 x (List.mem_append_left _ hx)
            · exact s2 x (List.mem_append_right _ hx)
            · exact s1 r hr
        · rcases List.mem_append.mp hx with hx | hx
          · refine (ih.done x hx).imp id fun g => ?_
            simp only [List.mem_append, List.mem_singleton] at g ⊢
            rcases g with g | g
            · exact .inl g
            · exact .inr (.inl g)
          · cases List.mem_singleton.mp hx
            exact .inr (List.mem_append_right _ (List.mem_append_right _ (.head _)))
        · rcases List.mem_append.mp hy with hy | hy
          · obtain ⟨z, hz, ez⟩ := ih.cl x hx y hy hbit
            exact ⟨z, f1 z hz, ez⟩
          · cases List.mem_singleton.mp hy
            have g := f3 x hx
            simp only [(hpl x hx).1, (hpl x hx).2] at g
            exact g hbit
    · rw [if_neg hn]
      refine ⟨ih.sub, ih.all, ih.p, ih.q, ih.snd, fun x hx => ?_, ih.cl, ih.nd⟩
      rcases List.mem_append.mp hx with hx | hx
      · exact ih.done x hx
      · cases List.mem_singleton.mp hx
        rw [e, newB_mkc ha] at hn
        by_cases ht : b &&& a = 0
        · right
          rw [ht] at hn
          have : ((m.pure ++ m.mixed).any (· == mkc a b)) = true := by rw [← Bool.not_eq_false]; exact fun q => hn (by rw [q]; rfl)
          obtain ⟨z, hz, ez⟩ := List.any_eq_true.mp this
          rw [e, ← beq_iff_eq.mp ez]; exact hz
        · left
          intro h hh
          rw [e]; exact taut_sat ha hb hh ht
end Mine
end PartM5

section PartM6
open PySem PySem.W PySem.Calls PyProof.Rows
set_option maxRecDepth 100000
set_option linter.unusedVariables false
namespace Mine
theorem land_le (g h : Nat) (e : g &&& h = g) : g ≤ h := by rw [← e]; exact Nat.and_le_right
theorem min_below (A : Nat → Prop) : ∀ n g, g ≤ n → A g → ∃ m, A m ∧ m &&& g = m ∧ ∀ x, A x → x ≠ m → x &&& m ≠ x
  | n, g, hg, ha => by
    by_cases h : ∃ x, A x ∧ x ≠ g ∧ x &&& g = x
    · obtain ⟨x, hx, hne, hand⟩ := h
      have hlt : x < g := Nat.lt_of_le_of_ne (land_le x g hand) hne
      match n, hg with
      | 0, hg => omega
      | n + 1, hg =>
        obtain ⟨m, h1, h2, h3⟩ := min_below A n x (by omega) hx
        exact ⟨m, h1, by rw [← h2, Nat.and_assoc, hand], h3⟩
    · exact ⟨g, ha, Nat.and_self g, fun x hx hne e => h ⟨x, hx, hne, e⟩⟩
theorem cast_test (x h : Nat) : ((x : Int) != (h : Int) && Builtin.bitAnd (x : Int) (h : Int) == (x : Int)) = (x != h && (x &&& h == x)) := by
  rw [and_nat]
  have e1 : ((x : Int) != (h : Int)) = (x != h) := by
    rw [Bool.eq_iff_iff, bne_iff_ne, bne_iff_ne]; omega
  have e2 : (((x &&& h : Nat) : Int) == (x : Int)) = (x &&& h == x) := by
    rw [Bool.eq_iff_iff, beq_iff_eq, beq_iff_eq]; omega
  rw [e1, e2]
theorem least_eq (A : Nat → Bool) : leastF (((List.range 16).filter A).map fun h : Nat => (h : Int)) = ((List.range 16).filter fun h => A h && !(List.range 16).any fun g => A g && (g != h && (g &&& h == g))).map fun h : Nat => (h : Int) := by
  unfold leastF
  rw [List.filter_map, List.filter_filter]
  congr 1
  apply List.filter_congr
  intro h hh
  simp only [Function.comp]
  rw [Bool.and_comm]
  congr 1
  rw [Bool.eq_iff_iff, beq_iff_eq, List.filter_map, List.map_eq_nil_iff, List.filter_eq_nil_iff]
  simp only [Function.comp, cast_test]
  constructor
  · intro g
    cases q : ((List.range 16).any fun g => A g && (g != h && (g &&& h == g))) with
    | false => rfl
    | true =>
      obtain ⟨x, hx, hb⟩ := List.any_eq_true.mp q
      obtain ⟨h1, h2⟩ := Bool.and_eq_true_iff.mp hb
      exact absurd h2 (g x (List.mem_filter.mpr ⟨hx, h1⟩))
  · intro g x hx hb
    obtain ⟨h1, h2⟩ := List.mem_filter.mp hx
    rw [List.any_eq_true.mpr ⟨x, h1, by rw [h2, hb]; rfl⟩] at g
    cases g
noncomputable def meetB (pure : List Int) (h : Nat) : Bool := decide ((17 * (h : Int)) < 256) && (!decide (256 ≤ (17 * (h : Int))) && (pure.filter fun c => Builtin.bitAnd (c.fdiv 17) h == 0) == [])
noncomputable def modB (cls : List Int) (h : Nat) : Bool := cls.filter (falseB h) == []
theorem modB_iff {cls : List Int} {h : Nat} : modB cls h = true ↔ ∀ c ∈ cls, Sat h c := by
  unfold modB
  rw [beq_iff_eq, List.filter_eq_nil_iff]
  exact ⟨fun g c hc => by have := g c hc; unfold Sat; simpa using this, fun g c hc => by have := g c hc; unfold Sat at this; simp [this]⟩
theorem meetB_iff {pure : List Int} {h : Nat} (hp : ∀ c ∈ pure, ∃ a, a < 16 ∧ c = mkc a 0) (hh : h < 16) : meetB pure h = true ↔ ∀ c ∈ pure, Sat h c := by
  unfold meetB
  rw [decide_eq_true (show (17 * (h : Int)) < 256 by omega), decide_eq_false (show ¬ 256 ≤ (17 * (h : Int)) by omega), Bool.true_and, Bool.not_false, Bool.true_and, beq_iff_eq, List.filter_eq_nil_iff]
  refine ⟨fun g c hc => ?_, fun g c hc => ?_⟩
  · have := g c hc
    obtain ⟨a, ha, rfl⟩ := hp c hc
    rw [mkc_17, and_nat] at this
    rw [sat_pure ha hh]
    intro e; rw [e] at this; exact this rfl
  · have := g c hc
    obtain ⟨a, ha, rfl⟩ := hp c hc
    rw [sat_pure ha hh] at this
    rw [mkc_17, and_nat]
    intro e
    exact this (by have := beq_iff_eq.mp e; exact_mod_cast this)
/-- a least meeting set is a model -/
theorem least_model {N : List Nat} {rows : List Row} {m : Mch} (J : Jv N rows m m.due) {h : Nat} (hh : h < 16) (hm : ∀ c ∈ m.pure, Sat h c) (hmin : ∀ x, x < 16 → (∀ c ∈ m.pure, Sat x c) → x ≠ h → x &&& h ≠ x) :
    ∀ n a b, b ≤ n → a < 16 → b < 16 → (∃ r ∈ m.due, r.c = mkc a b) → Sat h (mkc a b) := by
  intro n
  induction n with
  | zero =>
    rintro a b hb0 ha hb ⟨r, hr, e⟩
    have : b = 0 := by omega
    subst this
    rcases J.done r hr with g | g
    · rw [← e]; exact g h hh
    · rw [e] at g
      rcases List.mem_append.mp g with g | g
      · exact hm _ g
      · obtain ⟨a', b', ha', hb', h0', e'⟩ := J.q _ g
        exfalso
        have h1 := (mkc_ge (b := b') ha').mpr h0'
        rw [← e'] at h1
        exact (mkc_ge ha).mp h1 rfl
  | succ n ih =>
    rintro a b hbn ha hb ⟨r, hr, e⟩
    by_cases hb0 : b = 0
    · subst hb0; exact ih a 0 (by omega) ha hb ⟨r, hr, e⟩
    · rcases J.done r hr with g | g
      · rw [← e]; exact g h hh
      · rw [e] at g
        rcases List.mem_append.mp g with g | g
        · exact hm _ g
        · rw [sat_mkc ha hh]
          rintro ⟨h1, h2⟩
          obtain ⟨l1, l2, l3⟩ := low_full hb0 hb hh h2
          have hnot : ¬ ∀ c ∈ m.pure, Sat (h - lowB b) c := fun q => hmin _ (by omega) q (by omega) l2
          obtain ⟨c, hc⟩ := Classical.not_forall.mp hnot
          obtain ⟨hc, hs⟩ := Classical.not_imp.mp hc
          obtain ⟨p, hp, rfl⟩ := J.p c hc
          have s1 := hm _ hc
          rw [sat_pure hp hh] at s1
          rw [sat_pure hp (by omega)] at hs
          have hs : p &&& (h - lowB b) = 0 := Classical.not_not.mp hs
          obtain ⟨f1, f2, f3⟩ := step_full hb0 hb hh hp ha h1 h2 s1 hs
          obtain ⟨z, hz, ez⟩ := J.cl _ hc _ g ((bit_nat ha hb).mpr f1)
          have hl : lowB b ≤ p := (low_in ⟨b, hb⟩ ⟨p, hp⟩ f1).1
          rw [fresh_mkc hp ha hb hl] at ez
          have ho := or_lt ⟨p - lowB b, by omega⟩ ⟨a, ha⟩
          have := ih (p - lowB b ||| a) (b - lowB b) (by omega) ho (by omega) ⟨z, hz, ez⟩
          rw [sat_mkc ho hh] at this
          exact this ⟨f2, f3⟩
theorem filter_zero : ∀ l : List Int, l.Nodup → (l.filter fun c => c == 0 || -c == 0) = if (0 : Int) ∈ l then [0] else []
  | [], _ => rfl
  | x :: l, h => by
    obtain ⟨h1, h2⟩ := List.nodup_cons.mp h
    have ih := filter_zero l h2
    by_cases hx : x = 0
    · subst hx
      rw [List.filter_cons, if_pos (by rfl), ih, if_neg h1, if_pos (.head _)]
    · have e : (x == 0 || -x == 0) = false := by simp; omega
      rw [List.filter_cons, e, if_neg (by decide), ih]
      by_cases h0 : (0 : Int) ∈ l
      · rw [if_pos h0, if_pos (.tail _ h0)]
      · rw [if_neg h0, if_neg (fun q => (List.mem_cons.mp q).elim (fun e => hx e.symm) h0)]
theorem res_law (N : List Nat) (rows : List Row) (m : Mch) (told : List Row) (h0 : ∀ r ∈ rows, r.c ∈ allC) (w : WI (fun r => r.c ∈ allC) N rows m told []) :
    endsF (m.pure ++ m.mixed) = (if modelsF (rows.map (·.c)) = [] then [0] else []) ∧ leastF (meetsF m.pure) = leastF (modelsF (rows.map (·.c))) := by
  have hdue : m.due = told := by rw [w.due, List.append_nil]
  have J := jv h0 w.hist
  rw [← hdue] at J
  have hmod : ∀ h, modB (rows.map (·.c)) h = true ↔ ∀ r ∈ rows, Sat h r.c := fun h => by
    rw [modB_iff]
    exact ⟨fun g r hr => g _ (List.mem_map_of_mem hr), fun g c hc => by obtain ⟨r, hr, rfl⟩ := List.mem_map.mp hc; exact g r hr⟩
  have hmt : ∀ h, h < 16 → (meetB m.pure h = true ↔ ∀ c ∈ m.pure, Sat h c) := fun h hh => meetB_iff J.p hh
  have sub : ∀ h, h < 16 → modB (rows.map (·.c)) h = true → meetB m.pure h = true := fun h hh g => (hmt h hh).mpr fun c hc => (J.snd h hh ((hmod h).mp g)).2 c (List.mem_append_left _ hc)
  have lst : ∀ h, h < 16 → meetB m.pure h = true → (∀ x, x < 16 → meetB m.pure x = true → x ≠ h → x &&& h ≠ x) → modB (rows.map (·.c)) h = true := fun h hh g hmin => by
    refine (hmod h).mpr fun r hr => ?_
    obtain ⟨a, b, ha, hb, e⟩ := allC_mkc (h0 r hr)
    rw [e]
    exact least_model J hh ((hmt h hh).mp g) (fun x hx q => hmin x hx ((hmt x hx).mpr q)) b a b (Nat.le_refl _) ha hb ⟨r, J.sub r hr, e⟩
  have ex : ∀ h, h < 16 → meetB m.pure h = true → ∃ x, x < 16 ∧ meetB m.pure x = true ∧ x &&& h = x ∧ modB (rows.map (·.c)) x = true ∧ ∀ y, y < 16 → meetB m.pure y = true → y ≠ x → y &&& x ≠ y := fun h hh g => by
    obtain ⟨x, ⟨h1, h2⟩, h3, h4⟩ := min_below (fun y => y < 16 ∧ meetB m.pure y = true) h h (Nat.le_refl _) ⟨hh, g⟩
    exact ⟨x, h1, h2, h3, lst x h1 h2 fun y hy q => h4 y ⟨hy, q⟩, fun y hy q => h4 y ⟨hy, q⟩⟩
  constructor
  · unfold endsF
    have hmx : (m.mixed.filter fun c => c == 0 || -c == 0) = [] := by
      rw [List.filter_eq_nil_iff]
      intro c hc
      obtain ⟨a, b, ha, hb, hne, e⟩ := J.q c hc
      have := (mkc_ge (b := b) ha).mpr hne
      rw [← e] at this
      simp; omega
    rw [List.filter_append, hmx, List.append_nil, filter_zero _ J.nd]
    have key : (0 : Int) ∈ m.pure ↔ modelsF (rows.map (·.c)) = [] := by
      have em : modelsF (rows.map (·.c)) = [] ↔ ∀ h, h < 16 → modB (rows.map (·.c)) h = false := by
        unfold modelsF
        rw [List.map_eq_nil_iff, List.filter_eq_nil_iff]
        exact ⟨fun g h hh => (Bool.not_eq_true _).mp (g h (List.mem_range.mpr hh)), fun g h hh => by have := g h (List.mem_range.mp hh); unfold modB at this; rw [this]; decide⟩
      rw [em]
      constructor
      · intro hz h hh
        cases q : modB (rows.map (·.c)) h with
        | false => rfl
        | true =>
          have := (hmt h hh).mp (sub h hh q) 0 hz
          have e : (0 : Int) = mkc 0 0 := rfl
          rw [e, sat_pure (by decide) hh] at this
          exact absurd (Nat.zero_and h) this
      · intro g
        have hn : ¬ meetB m.pure 15 = true := fun q => by
          obtain ⟨x, hx, _, _, hm, _⟩ := ex 15 (by decide) q
          rw [g x hx] at hm; cases hm
        rw [hmt 15 (by decide)] at hn
        obtain ⟨c, hc⟩ := Classical.not_forall.mp hn
        obtain ⟨hc, hs⟩ := Classical.not_imp.mp hc
        obtain ⟨a, ha, rfl⟩ := J.p c hc
        rw [sat_pure ha (by decide)] at hs
        have h15 : ∀ a : Fin 16, a.val &&& 15 = a.val := by decide
        have hs := Classical.not_not.mp hs
        rw [h15 ⟨a, ha⟩] at hs
        have hs : a = 0 := hs
        subst hs
        exact hc
    by_cases hz : (0 : Int) ∈ m.pure
    · rw [if_pos hz, if_pos (key.mp hz)]
    · rw [if_neg hz, if_neg (fun q => hz (key.mpr q))]
  · have e1 : meetsF m.pure = ((List.range 16).filter (meetB m.pure)).map fun h : Nat => (h : Int) := rfl
    have e2 : modelsF (rows.map (·.c)) = ((List.range 16).filter (modB (rows.map (·.c)))).map fun h : Nat => (h : Int) := rfl
    rw [e1, e2, least_eq, least_eq]
    congr 1
    apply List.filter_congr
    intro h hh
    have hh := List.mem_range.mp hh
    have any_iff : ∀ A : Nat → Bool, (!(List.range 16).any fun g => A g && (g != h && (g &&& h == g))) = true ↔ ∀ x, x < 16 → A x = true → x ≠ h → x &&& h ≠ x := fun A => by
      rw [Bool.not_eq_true', ← Bool.not_eq_true, List.any_eq_true]
      simp only [not_exists, not_and, List.mem_range, Bool.and_eq_true, bne_iff_ne, beq_iff_eq, ne_eq]
    rw [Bool.eq_iff_iff, Bool.and_eq_true, Bool.and_eq_true, any_iff, any_iff]
    constructor
    · rintro ⟨g1, g2⟩
      exact ⟨lst h hh g1 g2, fun x hx q => g2 x hx (sub x hx q)⟩
    · rintro ⟨g1, g2⟩
      refine ⟨sub h hh g1, fun x hx q hne he => ?_⟩
      obtain ⟨y, hy, _, y2, y3, _⟩ := ex x hx q
      have h1 : y &&& h = y := by rw [← y2, Nat.and_assoc, he]
      have hxl := land_le x h he
      have hyl := land_le y x y2
      exact g2 y hy y3 (by omega) h1
end Mine
end PartM6

section PartH3
open PySem PySem.W PySem.Calls PyProof.Rows
set_option maxRecDepth 100000
set_option linter.unusedVariables false
namespace Mine

/-- a run without a frame of its own, step by step -/
inductive Xr (den : Code → Sem Fin) (prm : Setting) (n₀ : Nat) : ∀ {α : Type}, Sem α → Shared → Pos → α → Shared → Pos → Nat → Prop
  | pure {α : Type} (a : α) (s q) : Xr den prm n₀ (.pure a) s q a s q 0
  | atp {α : Type} {k : Unit → Sem α} {q' s q a s' q'' n} : Xr den prm n₀ (k ()) s q' a s' q'' n → Xr den prm n₀ (.at q' k) s q a s' q'' (n + 1)
  | rule {α : Type} {k : Unit → Sem α} {t s q a s' q'' n} : Xr den prm n₀ (k ()) s q a s' q'' n → Xr den prm n₀ (.rule t k) s q a s' q'' (n + 1)
  | point {α : Type} {k : Unit → Sem α} {l s q a s' q'' n} : Xr den prm n₀ (k ()) s q a s' q'' n → Xr den prm n₀ (.point l k) s q a s' q'' (n + 1)
  | ask {α : Type} {k : Setting → Sem α} {s q a s' q'' n} : Xr den prm n₀ (k prm) s q a s' q'' n → Xr den prm n₀ (.ask k) s q a s' q'' (n + 1)
  | fresh {α : Type} {k : Tok → Sem α} {s : Shared} {q a s' q'' n} : Xr den prm n₀ (k s.toks) { s with toks := s.toks + 1 } q a s' q'' n → Xr den prm n₀ (.fresh k) s q a s' q'' (n + 1)
  | alloc {α : Type} {k : Addr → Sem α} {o} {s : Shared} {q a s' q'' n} : Xr den prm n₀ (k s.heap.objs.size) { s with heap := s.heap.push o } q a s' q'' n → Xr den prm n₀ (.alloc o k) s q a s' q'' (n + 1)
  | load {α : Type} {k : Obj → Sem α} {d part o} {s : Shared} {q a s' q'' n} : s.heap.get? d = some o → Xr den prm n₀ (k o) s q a s' q'' n → Xr den prm n₀ (.load d part k) s q a s' q'' (n + 1)
  | update {α : Type} {k : Unit → Sem α} {d part f} {s : Shared} {q a s' q'' n} : (s.heap.get? d).isSome = true → n₀ ≤ d ∨ d = mainNs → Xr den prm n₀ (k ()) { s with heap := s.heap.update d f } q a s' q'' n → Xr den prm n₀ (.update d part f k) s q a s' q'' (n + 1)
  | leaf {α : Type} {k : Result → Sem α} {c : Code} {id : String} {args : Args} {hd g l} {g' : Tok → Sem Fin} {r : Tok → Flow} {s : Shared} {q a s' q'' n} : den c = .pure (.again (.builtin id args)) → id.startsWith "lifetime." = false → den (.builtin id args) = .fresh g' → (∀ t, g' t = .pure (.done (r t))) →
      Xr den prm n₀ (k (.ok (r s.toks))) { s with toks := s.toks + 1 } q a s' q'' n → Xr den prm n₀ (.call c hd g l k) s q a s' q'' (n + 4)

theorem segGo_step {tb : String → Option Builtin} {p : Program} {w : World} {n₀ : Nat} {ann : Option Value} {b n : Nat} {s s' : Shared} {t t' : Thread} (h1 : endAt b t = none) (h2 : stepOk n₀ ann t = true) (h3 : step (denote tb) p w s t = .go s' t') :
    segGo tb p w n₀ ann b (n + 1) s t = segGo tb p w n₀ ann b n s' t' := by
  rw [segGo, h1]
  simp only [h2, h3]
theorem Xr.run {tb : String → Option Builtin} {p : Program} {w : World} {n₀ : Nat} {ann : Option Value} {α : Type} {x : Sem α} {s : Shared} {q : Pos} {a : α} {s' : Shared} {q' : Pos} {n : Nat} (e : Xr (denote tb) ⟨p, w.params⟩ n₀ x s q a s' q' n) :
    ∀ (K : α → Sem Fin) (H : Value → Sem Fin) (gd : Bool → Bool) (lv : List Value → List Value) (code : Code) (fr : Frame), segGo tb p w n₀ ann 1 n s ⟨x.wrap K H gd lv, code, q, [fr]⟩ = some (s', ⟨K a, code, q', [fr]⟩) := by
  induction e with
  | pure a s q => intro K H gd lv code fr; rfl
  | atp _ ih => intro K H gd lv code fr; exact ih K H gd lv code fr
  | rule _ ih => intro K H gd lv code fr; exact ih K H gd lv code fr
  | point _ ih => intro K H gd lv code fr; exact ih K H gd lv code fr
  | ask _ ih => intro K H gd lv code fr; exact ih K H gd lv code fr
  | fresh _ ih => intro K H gd lv code fr; exact ih K H gd lv code fr
  | alloc _ ih => intro K H gd lv code fr; exact ih K H gd lv code fr
  | @load k d part o s q a s' q'' n h _ ih =>
    intro K H gd lv code fr
    have ih := ih K H gd lv code fr
    obtain ⟨hp, gs, dr, tk, os⟩ := s
    show (match step (denote tb) p w ⟨hp, gs, dr, tk, os⟩ ⟨.load d part (fun x => (k x).wrap K H gd lv), code, q, [fr]⟩ with | .go s' t' => segGo tb p w n₀ ann 1 n s' t' | .halt _ _ => none) = _
    have h : hp.get? d = some o := h
    simp only [step, h]
    exact ih
  | @update k d part f s q a s' q'' n h h2 _ ih =>
    intro K H gd lv code fr
    have ih := ih K H gd lv code fr
    obtain ⟨hp, gs, dr, tk, os⟩ := s
    have h : (hp.get? d).isSome = true := h
    have hok : stepOk n₀ ann ⟨.update d part f (fun x => (k x).wrap K H gd lv), code, q, [fr]⟩ = true := by
      show (true && (Nat.ble n₀ d || d == mainNs || d == cStatics || ann == some (.ref d))) = true
      rcases h2 with h2 | h2
      · rw [Nat.ble_eq_true_of_le h2]; rfl
      · subst h2; simp
    show (match stepOk n₀ ann ⟨.update d part f (fun x => (k x).wrap K H gd lv), code, q, [fr]⟩ with | false => none | true => match step (denote tb) p w ⟨hp, gs, dr, tk, os⟩ ⟨.update d part f (fun x => (k x).wrap K H gd lv), code, q, [fr]⟩ with | .go s' t' => segGo tb p w n₀ ann 1 n s' t' | .halt _ _ => none) = _
    rw [hok]
    simp only [step, h, if_true]
    exact ih
  | @leaf k c id args hd g l g' r s q a s' q'' n h1 h2 h3 h4 _ ih =>
    intro K H gd lv code fr
    have ih := ih K H gd lv code fr
    obtain ⟨hp, gs, dr, tk, os⟩ := s
    rw [show n + 4 = n + 1 + 1 + 1 + 1 from rfl]
    obtain ⟨kept, hs1⟩ : ∃ kept, step (denote tb) p w ⟨hp, gs, dr, tk, os⟩ ⟨(Sem.call c hd g l k).wrap K H gd lv, code, q, [fr]⟩ = .go ⟨hp, gs, dr, tk, os⟩ ⟨denote tb c, c, q, .ret (fun r => (k r).wrap K H gd lv) hd (gd g) (lv l) code q kept :: [fr]⟩ := ⟨_, rfl⟩
    rw [segGo_step rfl rfl hs1]
    rw [h1]
    have hc1 : stepOk n₀ ann ⟨.pure (.again (.builtin id args)), c, q, .ret (fun r => (k r).wrap K H gd lv) hd (gd g) (lv l) code q kept :: [fr]⟩ = true := by
      show ((((!(id.startsWith "lifetime.") || Thread.atExit _) && !Thread.yieldsInsideHandler _) && _) && _) = true
      rw [h2]
      rfl
    rw [segGo_step (s' := ⟨hp, gs, dr, tk, os⟩) (t' := ⟨denote tb (.builtin id args), .builtin id args, q, .ret (fun r => (k r).wrap K H gd lv) hd (gd g) (lv l) code q (keptBy c (.builtin id args) (lv l) kept) :: [fr]⟩) rfl hc1 step_again]
    rw [h3]
    rw [segGo_step (s' := ⟨hp, gs, dr, tk + 1, os⟩) (t' := ⟨g' tk, .builtin id args, q, .ret (fun r => (k r).wrap K H gd lv) hd (gd g) (lv l) code q (keptBy c (.builtin id args) (lv l) kept) :: [fr]⟩) rfl rfl rfl]
    rw [h4]
    rw [segGo_step (s' := ⟨hp, gs, dr, tk + 1, os⟩) (t' := ⟨(k (.ok (r tk))).wrap K H gd lv, code, q, [fr]⟩) rfl rfl rfl]
    exact ih
end Mine
end PartH3

section PartH4
open PySem PySem.W PySem.Calls PyProof.Rows
set_option maxRecDepth 100000
set_option linter.unusedVariables false
namespace Mine
variable {den : Code → Sem Fin} {prm : Setting} {n₀ : Nat} {α β : Type}

theorem Xr.wrap {x : Sem α} {K : α → Sem β} {H : Value → Sem β} {gd lv} {s q a s₁ q₁ n} (e : Xr den prm n₀ x s q a s₁ q₁ n) : ∀ {b s₂ q₂ m}, Xr den prm n₀ (K a) s₁ q₁ b s₂ q₂ m → Xr den prm n₀ (x.wrap K H gd lv) s q b s₂ q₂ (n + m) := by
  have sw : ∀ n m : Nat, n + 1 + m = n + m + 1 := fun n m => by omega
  induction e with
  | pure a s q => intro b s₂ q₂ m h; rw [Nat.zero_add]; exact h
  | atp _ ih => intro b s₂ q₂ m h; rw [sw]; exact .atp (ih h)
  | rule _ ih => intro b s₂ q₂ m h; rw [sw]; exact .rule (ih h)
  | point _ ih => intro b s₂ q₂ m h; rw [sw]; exact .point (ih h)
  | ask _ ih => intro b s₂ q₂ m h; rw [sw]; exact .ask (ih h)
  | fresh _ ih => intro b s₂ q₂ m h; rw [sw]; exact .fresh (ih h)
  | alloc _ ih => intro b s₂ q₂ m h; rw [sw]; exact .alloc (ih h)
  | load h1 _ ih => intro b s₂ q₂ m h; rw [sw]; exact .load h1 (ih h)
  | update h1 h2 _ ih => intro b s₂ q₂ m h; rw [sw]; exact .update h1 h2 (ih h)
  | @leaf k c id args hd g l g' r s q a s' q'' n h1 h2 h3 h4 _ ih => intro b s₂ q₂ m h; rw [show n + 4 + m = n + m + 4 by omega]; exact .leaf h1 h2 h3 h4 (ih h)
theorem Xr.bind {x : Sem α} {f : α → Sem β} {s q a s₁ q₁ n b s₂ q₂ m} (e : Xr den prm n₀ x s q a s₁ q₁ n) (h : Xr den prm n₀ (f a) s₁ q₁ b s₂ q₂ m) : Xr den prm n₀ (x >>= f) s q b s₂ q₂ (n + m) := by
  rw [Sem.bind_eq_wrap']; exact e.wrap h
theorem Xr.keep {x : Sem α} {vs : List Value} {s q a s₁ q₁ n} (e : Xr den prm n₀ x s q a s₁ q₁ n) : Xr den prm n₀ (x.keep vs) s q a s₁ q₁ n := by
  rw [Sem.keep_eq_wrap]; exact e.wrap (.pure _ _ _)
theorem Xr.holding {x : Sem α} {vs : List Value} {s q a s₁ q₁ n} (e : Xr den prm n₀ x s q a s₁ q₁ n) : Xr den prm n₀ (PySem.holding vs x) s q a s₁ q₁ n := by
  unfold PySem.holding
  split
  · exact e
  · exact e.keep
theorem Xr.tryCatch {x : Sem α} {h : Value → Sem α} {s q a s₁ q₁ n} (e : Xr den prm n₀ x s q a s₁ q₁ n) : Xr den prm n₀ (x.tryCatch h) s q a s₁ q₁ n := by
  rw [Sem.tryCatch_eq_wrap]; exact e.wrap (.pure _ _ _)
theorem Xr.onRaise {x : Sem α} {h : Value → Sem Unit} {s q a s₁ q₁ n} (e : Xr den prm n₀ x s q a s₁ q₁ n) : Xr den prm n₀ (x.onRaise h) s q a s₁ q₁ n := by
  rw [Sem.onRaise_eq_wrap]; exact e.wrap (.pure _ _ _)
theorem Xr.pure' {a : α} {s q} : Xr den prm n₀ (Pure.pure a) s q a s q 0 := .pure _ _ _

theorem den_hash (k : Int) (t : Tok) : denote treeTable (.call (.builtin "int.__hash__") ⟨[.int k t], []⟩) = .pure (.again (.builtin "int.__hash__" ⟨[.int k t], []⟩)) := by kernel_rfl
theorem den_hash2 (k : Int) (t : Tok) : denote treeTable (.builtin "int.__hash__" ⟨[.int k t], []⟩) = .fresh (fun u => .pure (.done (.ret (.int (rawHash k) u)))) := by kernel_rfl
theorem special_hash (k : Int) (t : Tok) : specialOf (.int k t) "__hash__" = pure (some (.builtin "int.__hash__")) := by
  unfold specialOf
  show typeLookup (.type "int") "__hash__" = _
  exact slot_int_hash.lookup
theorem Xr.cast {x : Sem α} {s q a s' q' n m} (h : Xr den prm n₀ x s q a s' q' n) (e : n = m) : Xr den prm n₀ x s q a s' q' m := e ▸ h
theorem xr_rule {tag : String} {s q} : Xr den prm n₀ (PySem.rule tag) s q () s q 1 := .rule (.pure _ _ _)
theorem xr_call_hash {p : Program} {w : World} {k : Int} {t : Tok} {s : Shared} {q : Pos} : Xr (denote treeTable) ⟨p, w.params⟩ n₀ (call (.builtin "int.__hash__") [.int k t]) s q (.int (rawHash k) s.toks) { s with toks := s.toks + 1 } q 4 :=
  .leaf (den_hash k t) (by decide +kernel) (den_hash2 k t) (fun _ => rfl) (.pure _ _ _)
theorem xr_hash {p : Program} {w : World} {k : Int} {t : Tok} {s : Shared} {q : Pos} : Xr (denote treeTable) ⟨p, w.params⟩ n₀ (pyHash (.int k t)) s q (hashInt k) { s with toks := s.toks + 1 } q 5 := by
  have hr := rawHash_range k
  have hv : [Value.int k t].any Value.onHeap = false := rfl
  have e1 : cRoomFor "hash" [Value.int k t] = pure () := by rw [cRoomFor, if_neg (by rw [hv]; exact Bool.false_ne_true)]
  have sp := special_hash k t
  have e2 : bindSpecial (.builtin "int.__hash__") (.int k t) = pure (.builtin "int.__hash__", [.int k t]) := slot_int_hash.bind _
  have hb : Xr (denote treeTable) ⟨p, w.params⟩ n₀ (bindSpecialIfBound? (.int k t) "__hash__") s q (some (.builtin "int.__hash__", [.int k t])) s q 1 := by
    unfold bindSpecialIfBound?
    rw [sp]
    show Xr _ _ _ (Sem.ask fun st => _) s q _ s q (0 + 1)
    refine .ask ?_
    rw [e2]
    show Xr _ _ _ (if w.params.followText "special-get-raises" = true then _ else _) _ _ _ _ _ _
    split
    · exact .pure _ _ _
    · exact .tryCatch (.pure _ _ _)
  have hc : Xr (denote treeTable) ⟨p, w.params⟩ n₀ (callSpecialIfBoundUnlessNone? (.int k t) "__hash__" (do rule "hash.unhashable"; raiseError "TypeError" s!"unhashable type: '{← typeNameOf (.int k t)}'")) s q (some (.int (rawHash k) s.toks)) { s with toks := s.toks + 1 } q 5 := by
    unfold callSpecialIfBoundUnlessNone?
    refine .holding (.cast (hb.bind (b := _) (m := 4) ?_) rfl)
    show Xr _ _ _ (if (Value.builtin "int.__hash__" == Value.none) = true then _ else _) _ _ _ _ _ _
    rw [if_neg (by rw [show (Value.builtin "int.__hash__" == Value.none) = false from by rfl]; exact Bool.false_ne_true)]
    exact .cast (xr_call_hash.bind (.pure _ _ _)) rfl
  show Xr _ _ _ (pyHashByItsType (.int k t)) _ _ _ _ _ _
  unfold pyHashByItsType
  rw [e1, sp]
  have b1 : (some (Value.builtin "int.__hash__") == some Value.none) = false := beq_builtin_none _
  simp only [pure_bind, b1, Option.isNone_some, Bool.false_eq_true, if_false]
  refine .cast (hc.bind (b := hashInt k) (m := 0) ?_) rfl
  show Xr _ _ _ (if (decide (-(2 : Int) ^ 63 ≤ rawHash k) && decide (rawHash k < 2 ^ 63)) = true then pure (if (rawHash k == -1) = true then -2 else rawHash k) else _) _ _ _ _ _ _
  rw [if_pos (by rw [decide_eq_true hr.1, decide_eq_true hr.2]; rfl)]
  exact .pure _ _ _
end Mine
end PartH4

section PartH5
open PySem PySem.W PySem.Calls PyProof.Rows
set_option maxRecDepth 100000
set_option linter.unusedVariables false
namespace Mine
variable {den : Code → Sem Fin} {prm : Setting} {n₀ : Nat} {α β : Type}

noncomputable abbrev dob (es : Array DictEntry) (ep : Nat) : Obj := { cls := .type "dict", data := .dict es ep }
theorem xr_entries {a part es ep} {s : Shared} {q} (ho : s.heap.get? a = some (dob es ep)) : Xr den prm n₀ (dictEntries a part) s q es s q 1 := .load ho (.pure _ _ _)
theorem xr_epoch {a part es ep} {s : Shared} {q} (ho : s.heap.get? a = some (dob es ep)) : Xr den prm n₀ (dictEpoch a part) s q ep s q 1 := .load ho (.pure _ _ _)
theorem xr_updKeys {a part es ep} {f : Array DictEntry → Array DictEntry} {s : Shared} {q} (ho : s.heap.get? a = some (dob es ep)) (ha : n₀ ≤ a) (hz : (f es).size ≤ sizeLine + 1) :
    Xr den prm n₀ (updateDictKeys a f part) s q () { s with heap := s.heap.update a (Obj.mapDictKeys f) } q 3 := by
  unfold updateDictKeys
  refine .load ho (.update (by rw [ho]; rfl) (.inl ha) ?_)
  have h2 : (s.heap.update a (Obj.mapDictKeys f)).get? a = some (dob (f es) (ep + 1)) := Heap.get?_update_self _ ho rfl
  refine .load h2 ?_
  have : (dob (f es) (ep + 1)).data.pastItsLine = none := pastItsLine_dict hz
  simp only [Sem.bind]
  rw [this]
  exact .pure _ _ _
theorem xr_findNone {a es ep} {k h : Int} {t : Tok} {s : Shared} {q} (ho : s.heap.get? a = some (dob es ep)) (hp : placesWithHash es.size (fun i => es[i]?.map (·.hash)) h = []) : Xr den prm n₀ (dictFind a (.int k t) h) s q none s q 1 := by
  unfold dictFind
  refine .holding (.load ho ?_)
  show Xr _ _ _ (if (Value.int k t :: (placesWithHash es.size (fun i => es[i]?.map (·.hash)) h).filterMap fun i => es[i]?.map (·.key)).all carriedByValue then dictWalkPlain a (.int k t) h es (placesWithHash es.size (fun i => es[i]?.map (·.hash)) h) else _) _ _ _ _ _ _
  rw [hp]
  exact .pure _ _ _
theorem xr_dictSet {p : Program} {w : World} {a es ep} {k : Int} {t : Tok} {v : Value} {s : Shared} {q} (ho : s.heap.get? a = some (dob es ep)) (ha : n₀ ≤ a) (hz : es.size ≤ 100000) (hp : placesWithHash es.size (fun i => es[i]?.map (·.hash)) (hashInt k) = []) :
    Xr (denote treeTable) ⟨p, w.params⟩ n₀ (dictSet a (.int k t) v) s q () { s with heap := s.heap.update a (Obj.mapDictKeys (·.push ⟨hashInt k, .int k t, v⟩)), toks := s.toks + 1 } q 10 := by
  unfold dictSet dictSetHashed
  refine .holding (.cast (xr_hash.bind (.holding ((xr_findNone (s := { s with toks := s.toks + 1 }) ho hp).bind (xr_rule.bind (xr_updKeys (s := { s with toks := s.toks + 1 }) ho ha ?_))))) rfl)
  rw [Array.size_push, sizeLine_eq]; omega
theorem xr_dictPut {a es ep} {k h : Int} {t : Tok} {v : Value} {s : Shared} {q} (ho : s.heap.get? a = some (dob es ep)) (ha : n₀ ≤ a) (hz : es.size ≤ 100000) (hp : placesWithHash es.size (fun i => es[i]?.map (·.hash)) h = []) :
    Xr den prm n₀ (dictPut a h (.int k t) v) s q () { s with heap := s.heap.update a (Obj.mapDictKeys (·.push ⟨h, .int k t, v⟩)) } q 4 := by
  unfold dictPut
  refine .cast ((xr_findNone ho hp).bind (xr_updKeys ho ha ?_)) rfl
  rw [Array.size_push, sizeLine_eq]; omega
end Mine
end PartH5

section PartH6
open PySem PySem.W PySem.Calls PyProof.Rows
set_option maxRecDepth 100000
set_option linter.unusedVariables false
namespace Mine
variable {den : Code → Sem Fin} {prm : Setting} {n₀ : Nat} {α β : Type}

noncomputable def setAt (h : Heap) (a : Addr) (o : Obj) : Heap := h.update a fun _ => o
theorem update_setAt {h : Heap} {a : Addr} {o : Obj} (e : h.get? a = some o) (f : Obj → Obj) : h.update a f = setAt h a (f o) := by
  obtain ⟨e1, _⟩ := Heap.get?_some_iff.mp e
  obtain ⟨objs, l⟩ := h
  show (⟨objs.modify a f, l⟩ : Heap) = ⟨objs.modify a fun _ => f o, l⟩
  congr 1
  apply Array.ext
  · simp
  · intro i h1 h2
    rw [Array.getElem_modify, Array.getElem_modify]
    split
    · rename_i hi
      subst hi
      have h3 : objs[a]? = some o := e1
      have h1' : a < objs.size := by simpa using h1
      rw [Array.getElem?_eq_getElem h1'] at h3
      rw [Option.some.inj h3]
    · rfl
theorem setAt_setAt (h : Heap) (a : Addr) (o o' : Obj) : setAt (setAt h a o) a o' = setAt h a o' := by
  obtain ⟨objs, l⟩ := h
  show (⟨(objs.modify a fun _ => o).modify a fun _ => o', l⟩ : Heap) = ⟨objs.modify a fun _ => o', l⟩
  congr 1
  apply Array.ext
  · simp
  · intro i h1 h2
    simp only [Array.getElem_modify]
    split <;> rfl
theorem setAt_push (h : Heap) (o o' : Obj) : setAt (h.push o) h.objs.size o' = h.push o' := by
  obtain ⟨objs, l⟩ := h
  show (⟨(objs.push o).modify objs.size fun _ => o', l⟩ : Heap) = ⟨objs.push o', l⟩
  congr 1
  apply Array.ext
  · simp
  · intro i h1 h2
    have h1' : i < objs.size + 1 := by simpa using h1
    rw [Array.getElem_modify]
    split
    · rename_i hi; subst hi; simp
    · rename_i hi
      have : i < objs.size := by omega
      rw [Array.getElem_push_lt this, Array.getElem_push_lt this]
theorem get_setAt {h : Heap} {a : Addr} {o o' : Obj} (e : h.get? a = some o) (hf : o'.isFreed = false) : (setAt h a o').get? a = some o' := Heap.get?_update_self _ e hf
theorem get_setAt_ne {h : Heap} {a b : Addr} {o' : Obj} (hb : b ≠ a) : (setAt h a o').get? b = h.get? b := Heap.get?_update_ne _ _ _ _ hb

noncomputable abbrev de (x : Int × Str) (t : Nat) : DictEntry := ⟨hashInt x.1, .int x.1 t, .str x.2 (t + 1)⟩
noncomputable def ents : Nat → List (Int × Str) → List DictEntry
  | _, [] => []
  | t, (k, v) :: r => ⟨hashInt k, .int k t, .str v (t + 1)⟩ :: ents (t + 3) r
theorem ents_hash : ∀ (t : Nat) (L : List (Int × Str)), (ents t L).map (·.hash) = L.map fun p => hashInt p.1
  | _, [] => rfl
  | t, (k, v) :: r => by rw [ents, List.map_cons, ents_hash (t + 3) r]; rfl
theorem ents_len : ∀ (t : Nat) (L : List (Int × Str)), (ents t L).length = L.length
  | _, [] => rfl
  | t, (k, v) :: r => by rw [ents, List.length_cons, ents_len (t + 3) r]; rfl
theorem places_none {es : List DictEntry} {h : Int} (hn : h ∉ es.map (·.hash)) : placesWithHash es.toArray.size (fun i => es.toArray[i]?.map (·.hash)) h = [] := by
  unfold placesWithHash
  rw [List.filter_eq_nil_iff]
  intro i hi he
  rw [List.mem_range, List.size_toArray] at hi
  have he : es.toArray[i]?.map (·.hash) = some h := by simpa using he
  rw [List.getElem?_toArray, List.getElem?_eq_getElem hi, Option.map_some, Option.some.injEq] at he
  exact hn (List.mem_map.mpr ⟨_, List.getElem_mem hi, he⟩)

/-- pairs of constants, as trees -/
noncomputable def pts (env : Env) (pos : Pos) : List ((Int × Str) × (Pos × Pos)) → List (Sem Value × Sem Value)
  | [] => []
  | (p, q) :: r => (eval (.Constant (.int p.1) 0 q.1) env, (do let x ← eval (.Constant (.str p.2) 0 q.2) env; standAt pos; pure x)) :: pts env pos r

theorem xr_key {p : Int × Str} {q : Pos × Pos} {env : Env} {s : Shared} {r : Pos} : Xr den prm n₀ (eval (.Constant (.int p.1) 0 q.1) env) s r (.int p.1 s.toks) { s with toks := s.toks + 1 } r 1 := .fresh (.pure _ _ _)
theorem xr_val {p : Int × Str} {q : Pos × Pos} {env : Env} {pos : Pos} {s : Shared} {r : Pos} : Xr den prm n₀ (do let x ← eval (.Constant (.str p.2) 0 q.2) env; standAt pos; pure x : Sem Value) s r (.str p.2 s.toks) { s with toks := s.toks + 1 } pos 2 := .fresh (.atp (.pure _ _ _))

theorem xr_long {p : Program} {w : World} {a : Addr} {env : Env} {pos : Pos} (ha : n₀ ≤ a) : ∀ (L : List ((Int × Str) × (Pos × Pos))) (es : List DictEntry) (ep : Nat) (s : Shared), s.heap.get? a = some (dob es.toArray ep) → es.length + L.length ≤ 100000 →
    (es.map (·.hash) ++ L.map fun x => hashInt x.1.1).Nodup →
    Xr (denote treeTable) ⟨p, w.params⟩ n₀ (forIn (pts env pos L) () fun kv _ => do let kv' ← kv.1; let vv ← holding [kv'] kv.2; holding [kv', vv] (dictSet a kv' vv); pure (ForInStep.yield ())) s pos ()
      { s with heap := setAt s.heap a (dob (es ++ ents s.toks (L.map (·.1))).toArray (ep + L.length)), toks := s.toks + 3 * L.length } pos (13 * L.length)
  | [], es, ep, s, ho, _, _ => by
    have e1 : setAt s.heap a (dob (es ++ ents s.toks []).toArray (ep + 0)) = s.heap := by
      rw [ents, List.append_nil]
      show s.heap.update a (fun _ => dob es.toArray ep) = s.heap
      have := update_setAt ho id
      rw [show setAt s.heap a (id (dob es.toArray ep)) = s.heap.update a (fun _ => dob es.toArray ep) from rfl] at this
      rw [← this]
      obtain ⟨⟨objs, l⟩, g, dr, t, os⟩ := s
      show (⟨objs.modify a id, l⟩ : Heap) = ⟨objs, l⟩
      congr 1
      apply Array.ext
      · simp
      · intro i h1 h2; rw [Array.getElem_modify]; split <;> rfl
    rw [List.map_nil, List.length_nil, e1]
    exact .pure _ _ _
  | (x, q) :: L, es, ep, s, ho, hl, hnd => by
    simp only [List.map_cons] at hnd
    have hno : hashInt x.1 ∉ es.map (·.hash) := fun hm => by
      have := (List.nodup_append.mp hnd).2.2 _ hm _ (.head _)
      exact this rfl
    simp only [List.length_cons] at hl
    have st := xr_dictSet (p := p) (w := w) (n₀ := n₀) (a := a) (es := es.toArray) (ep := ep) (k := x.1) (t := s.toks) (v := .str x.2 (s.toks + 1)) (s := { s with toks := s.toks + 1 + 1 }) (q := pos) ho ha (by rw [List.size_toArray]; omega) (places_none hno)
    rw [update_setAt (o := dob es.toArray ep) ho] at st
    have ho' : (setAt s.heap a (Obj.mapDictKeys (·.push (de x s.toks)) (dob es.toArray ep))).get? a = some (dob (es ++ [de x s.toks]).toArray (ep + 1)) := by
      rw [get_setAt ho rfl]
      show some (dob (es.toArray.push (de x s.toks)) (ep + 1)) = _
      rw [List.push_toArray]
    have ih := xr_long (p := p) (w := w) (env := env) (pos := pos) ha L (es ++ [de x s.toks]) (ep + 1) { s with heap := setAt s.heap a (Obj.mapDictKeys (·.push (de x s.toks)) (dob es.toArray ep)), toks := s.toks + 1 + 1 + 1 } ho' (by rw [List.length_append, List.length_singleton]; omega)
      (by rw [List.map_append, List.append_assoc]; exact hnd)
    rw [show pts env pos ((x, q) :: L) = (eval (.Constant (.int x.1) 0 q.1) env, (do let y ← eval (.Constant (.str x.2) 0 q.2) env; standAt pos; pure y)) :: pts env pos L from rfl, List.forIn_cons]
    have body := ((xr_key (den := denote treeTable) (prm := ⟨p, w.params⟩) (n₀ := n₀) (p := x) (q := q) (env := env) (s := s) (r := pos)).bind (f := fun kv' => do let vv ← holding [kv'] (do let y ← eval (.Constant (.str x.2) 0 q.2) env; standAt pos; pure y); holding [kv', vv] (dictSet a kv' vv); pure (ForInStep.yield ()))
      ((xr_val (p := x) (q := q) (s := { s with toks := s.toks + 1 })).holding.bind (st.holding.bind (.pure' (a := ForInStep.yield ())))))
    refine .cast (m := 13 * (L.length + 1)) (body.bind (m := 13 * L.length) ?_) (by omega)
    have e2 : es ++ ents s.toks (x :: L.map (·.1)) = es ++ [de x s.toks] ++ ents (s.toks + 3) (L.map (·.1)) := by
      rw [List.append_assoc]; rfl
    rw [List.map_cons, e2, List.length_cons, show ep + (L.length + 1) = ep + 1 + L.length by omega, show s.toks + 3 * (L.length + 1) = s.toks + 1 + 1 + 1 + 3 * L.length by omega]
    rw [setAt_setAt] at ih
    exact ih
end Mine
end PartH6

section PartH7
open PySem PySem.W PySem.Calls PyProof.Rows
set_option maxRecDepth 100000
set_option linter.unusedVariables false
namespace Mine
variable {den : Code → Sem Fin} {prm : Setting} {n₀ : Nat} {α β : Type}

theorem pts_len (env : Env) (pos : Pos) : ∀ L : List ((Int × Str) × (Pos × Pos)), (pts env pos L).length = L.length
  | [] => rfl
  | _ :: L => congrArg (· + 1) (pts_len env pos L)
theorem get_new (h : Heap) : (h.push (dob #[] 0)).get? h.objs.size = some (dob #[] 0) := Heap.get?_push_size _ rfl
theorem xr_sub {p : Program} {w : World} {env : Env} {pos : Pos} {L : List ((Int × Str) × (Pos × Pos))} {s : Shared} (ha : n₀ ≤ s.heap.objs.size) (hl : 15 < L.length) (hl2 : L.length ≤ 100) (hnd : (L.map fun x => hashInt x.1.1).Nodup) :
    Xr (denote treeTable) ⟨p, w.params⟩ n₀ (subDict (pts env pos L)) s pos s.heap.objs.size { s with heap := s.heap.push (dob (ents s.toks (L.map (·.1))).toArray L.length), toks := s.toks + 3 * L.length } pos (13 * L.length + 2) := by
  have h := xr_long (p := p) (w := w) (env := env) (pos := pos) ha L [] 0 { s with heap := s.heap.push (dob #[] 0) } (get_new s.heap) (by simp; omega) (by simpa using hnd)
  rw [List.nil_append, Nat.zero_add, setAt_push] at h
  unfold subDict
  refine .cast (.alloc (n := 1 + (13 * L.length)) ?_) (by omega)
  rw [show (pts env pos L).length = L.length from pts_len env pos L]
  simp only [Sem.bind]
  rw [if_neg (by omega)]
  exact .cast (((xr_rule.bind (h.bind (.pure _ _ _))).holding).bind (.pure _ _ _)) (by omega)

noncomputable def entsS : Nat → List (Int × Str) → List DictEntry
  | _, [] => []
  | t, x :: r => de x t :: entsS (t + 2) r
noncomputable def valsS : Nat → List (Int × Str) → List (Value × Value)
  | _, [] => []
  | t, x :: r => (.int x.1 t, .str x.2 (t + 1)) :: valsS (t + 2) r
theorem entsS_hash : ∀ (t : Nat) (L : List (Int × Str)), (entsS t L).map (·.hash) = L.map fun p => hashInt p.1
  | _, [] => rfl
  | t, x :: r => by rw [entsS, List.map_cons, entsS_hash (t + 2) r]; rfl
theorem entsS_len : ∀ (t : Nat) (L : List (Int × Str)), (entsS t L).length = L.length
  | _, [] => rfl
  | t, x :: r => by rw [entsS, List.length_cons, entsS_len (t + 2) r]; rfl
theorem xr_pairs {env : Env} {pos : Pos} : ∀ (L : List ((Int × Str) × (Pos × Pos))) (s : Shared), Xr den prm n₀ (evalPairs (pts env pos L)) s pos (valsS s.toks (L.map (·.1))) { s with toks := s.toks + 2 * L.length } pos (3 * L.length)
  | [], s => .pure _ _ _
  | (x, q) :: L, s => by
    have ih := xr_pairs (env := env) (pos := pos) L { s with toks := s.toks + 1 + 1 }
    refine .cast ((xr_key (p := x) (q := q) (env := env) (s := s) (r := pos)).bind (((xr_val (p := x) (q := q) (s := { s with toks := s.toks + 1 })).holding).bind ((ih.holding).bind (b := valsS s.toks (x :: L.map (·.1))) (m := 0) ?_))) (by rw [List.length_cons]; omega)
    rw [List.length_cons, show s.toks + 2 * (L.length + 1) = s.toks + 1 + 1 + 2 * L.length by omega]
    exact .pure _ _ _
theorem xr_short {p : Program} {w : World} {a : Addr} {pos : Pos} (ha : n₀ ≤ a) : ∀ (L : List (Int × Str)) (t : Nat) (es : List DictEntry) (ep : Nat) (s : Shared), s.heap.get? a = some (dob es.toArray ep) → es.length + L.length ≤ 100000 →
    (es.map (·.hash) ++ L.map fun x => hashInt x.1).Nodup →
    Xr (denote treeTable) ⟨p, w.params⟩ n₀ (forIn (valsS t L) () fun kv _ => do dictSet a kv.1 kv.2; pure (ForInStep.yield ())) s pos ()
      { s with heap := setAt s.heap a (dob (es ++ entsS t L).toArray (ep + L.length)), toks := s.toks + L.length } pos (10 * L.length)
  | [], t, es, ep, s, ho, hl, hnd => by
    have h := xr_long (p := p) (w := w) (env := default) (pos := pos) ha [] es ep s ho hl hnd
    exact h
  | x :: L, t, es, ep, s, ho, hl, hnd => by
    simp only [List.map_cons] at hnd
    have hno : hashInt x.1 ∉ es.map (·.hash) := fun hm => (List.nodup_append.mp hnd).2.2 _ hm _ (.head _) rfl
    simp only [List.length_cons] at hl
    have st := xr_dictSet (p := p) (w := w) (n₀ := n₀) (a := a) (es := es.toArray) (ep := ep) (k := x.1) (t := t) (v := .str x.2 (t + 1)) (s := s) (q := pos) ho ha (by rw [List.size_toArray]; omega) (places_none hno)
    rw [update_setAt (o := dob es.toArray ep) ho] at st
    have ho' : (setAt s.heap a (Obj.mapDictKeys (·.push (de x t)) (dob es.toArray ep))).get? a = some (dob (es ++ [de x t]).toArray (ep + 1)) := by
      rw [get_setAt ho rfl]
      show some (dob (es.toArray.push (de x t)) (ep + 1)) = _
      rw [List.push_toArray]
    have ih := xr_short (p := p) (w := w) (pos := pos) ha L (t + 2) (es ++ [de x t]) (ep + 1) { s with heap := setAt s.heap a (Obj.mapDictKeys (·.push (de x t)) (dob es.toArray ep)), toks := s.toks + 1 } ho' (by rw [List.length_append, List.length_singleton]; omega)
      (by rw [List.map_append, List.append_assoc]; exact hnd)
    rw [valsS, List.forIn_cons]
    refine .cast (m := 10 * (L.length + 1)) ((st.bind (f := fun _ => pure (ForInStep.yield ())) (.pure' (a := ForInStep.yield ()))).bind (m := 10 * L.length) ?_) (by omega)
    have e2 : es ++ entsS t (x :: L) = es ++ [de x t] ++ entsS (t + 2) L := by rw [List.append_assoc]; rfl
    rw [e2, List.length_cons, show ep + (L.length + 1) = ep + 1 + L.length by omega, show s.toks + (L.length + 1) = s.toks + 1 + L.length by omega]
    rw [setAt_setAt] at ih
    exact ih
theorem xr_subS {p : Program} {w : World} {env : Env} {pos : Pos} {L : List ((Int × Str) × (Pos × Pos))} {s : Shared} (ha : n₀ ≤ s.heap.objs.size) (hl : L.length ≤ 15) (hnd : (L.map fun x => hashInt x.1.1).Nodup) :
    Xr (denote treeTable) ⟨p, w.params⟩ n₀ (subDict (pts env pos L)) s pos s.heap.objs.size { s with heap := s.heap.push (dob (entsS s.toks (L.map (·.1))).toArray L.length), toks := s.toks + 3 * L.length } pos (13 * L.length + 1) := by
  have h := xr_short (p := p) (w := w) (pos := pos) ha (L.map (·.1)) s.toks [] 0 { s with heap := s.heap.push (dob #[] 0), toks := s.toks + 2 * L.length } (get_new s.heap) (by simp; omega) (by rw [List.map_map]; exact hnd)
  rw [List.nil_append, Nat.zero_add, setAt_push, List.length_map] at h
  have hp := xr_pairs (den := denote treeTable) (prm := ⟨p, w.params⟩) (n₀ := n₀) (env := env) (pos := pos) L { s with heap := s.heap.push (dob #[] 0) }
  unfold subDict
  refine .cast (.alloc (n := 3 * L.length + 10 * L.length) ?_) (by omega)
  rw [show (pts env pos L).length = L.length from pts_len env pos L]
  simp only [Sem.bind]
  rw [if_pos hl]
  rw [show s.toks + 3 * L.length = s.toks + 2 * L.length + L.length by omega]
  exact .cast (((hp.bind (Xr.holding (h.bind (.pure _ _ _)))).holding).bind (.pure _ _ _)) (by omega)
end Mine
end PartH7

section PartH8
open PySem PySem.W PySem.Calls PyProof.Rows
set_option maxRecDepth 100000
set_option linter.unusedVariables false
namespace Mine
variable {den : Code → Sem Fin} {prm : Setting} {n₀ : Nat} {α β : Type}

noncomputable def IntK (es : List DictEntry) : Prop := ∀ e ∈ es, ∃ k t, e.key = .int k t
theorem setAt_same {h : Heap} {a : Addr} {o : Obj} (ho : h.get? a = some o) : setAt h a o = h := by
  have := update_setAt ho id
  rw [show setAt h a (id o) = setAt h a o from rfl] at this
  rw [← this]
  obtain ⟨objs, l⟩ := h
  show (⟨objs.modify a id, l⟩ : Heap) = ⟨objs, l⟩
  congr 1
  apply Array.ext
  · simp
  · intro i h1 h2; rw [Array.getElem_modify]; split <;> rfl
theorem xr_mergeLoop {d a : Addr} {es es' : List DictEntry} {ep ep' : Nat} {q : Pos} (hd : n₀ ≤ d) (hne : a ≠ d) (hk : IntK es') (hnd : (es.map (·.hash) ++ es'.map (·.hash)).Nodup) (hsz : es.length + es'.length ≤ 100000) : ∀ (m i : Nat) (s : Shared), i + m = es'.length →
    s.heap.get? d = some (dob (es ++ es'.take i).toArray (ep + i)) → s.heap.get? a = some (dob es'.toArray ep') →
    Xr den prm n₀ (forIn (List.range' i m) () fun i _ => do
      let some e := (← dictEntries a)[i]? | unsupported "dict.changed-during-merge"
      holding [e.key, e.val] do
        if false then
          if (← dictFind d e.key e.hash).isSome then rule "dict.merge.duplicate-key"; raiseNew (← newExc (.type "KeyError") [e.key])
        dictPut d e.hash e.key e.val
      if (← dictEpoch a) != ep' then unsupported "dict.changed-during-merge"
      pure (ForInStep.yield ())) s q () { s with heap := setAt s.heap d (dob (es ++ es').toArray (ep + es'.length)) } q (6 * m)
  | 0, i, s, hi, ho, ha => by
    have e1 : es'.take i = es' := List.take_of_length_le (by omega)
    rw [e1] at ho
    rw [show es'.length = i by omega, setAt_same ho]
    exact .pure _ _ _
  | m + 1, i, s, hi, ho, ha => by
    have hlt : i < es'.length := by omega
    have hge : es'.toArray[i]? = some es'[i] := by rw [List.getElem?_toArray, List.getElem?_eq_getElem hlt]
    obtain ⟨k, t, hkey⟩ := hk es'[i] (List.getElem_mem hlt)
    have hno : es'[i].hash ∉ (es ++ es'.take i).map (·.hash) := fun hm => by
      have hnd' : (es.map (·.hash) ++ es'.map (·.hash)).Nodup := hnd
      rw [← List.take_append_drop i es', List.map_append, List.drop_eq_getElem_cons hlt, List.map_cons, ← List.append_assoc, ← List.map_append] at hnd'
      exact (List.nodup_append.mp hnd').2.2 _ hm _ (.head _) rfl
    have hput := xr_dictPut (den := den) (prm := prm) (n₀ := n₀) (a := d) (es := (es ++ es'.take i).toArray) (ep := ep + i) (k := k) (h := es'[i].hash) (t := t) (v := es'[i].val) (s := s) (q := q) ho hd (by rw [List.size_toArray, List.length_append, List.length_take]; omega) (places_none hno)
    rw [update_setAt ho] at hput
    have hobj : Obj.mapDictKeys (·.push ⟨es'[i].hash, .int k t, es'[i].val⟩) (dob (es ++ es'.take i).toArray (ep + i)) = dob (es ++ es'.take (i + 1)).toArray (ep + (i + 1)) := by
      show dob ((es ++ es'.take i).toArray.push ⟨es'[i].hash, .int k t, es'[i].val⟩) (ep + i + 1) = _
      rw [List.push_toArray, List.take_succ_eq_append_getElem hlt, List.append_assoc]
      have : (⟨es'[i].hash, .int k t, es'[i].val⟩ : DictEntry) = es'[i] := by rw [← hkey]
      rw [this]; rfl
    rw [hobj] at hput
    have ih := xr_mergeLoop (ep := ep) (ep' := ep') (q := q) hd hne hk hnd hsz m (i + 1) { s with heap := setAt s.heap d (dob (es ++ es'.take (i + 1)).toArray (ep + (i + 1))) } (by omega) (get_setAt ho rfl) (by rw [get_setAt_ne hne]; exact ha)
    rw [setAt_setAt] at ih
    rw [List.range'_succ, List.forIn_cons]
    refine .cast (Xr.bind (n := 6) (a := ForInStep.yield ()) (s₁ := { s with heap := setAt s.heap d (dob (es ++ es'.take (i + 1)).toArray (ep + (i + 1))) }) (q₁ := q) ?_ ih) (by omega)
    refine .cast (Xr.bind (xr_entries ha) (m := 5) ?_) rfl
    simp only [hge, Bool.false_eq_true, if_false]
    rw [← hkey] at hput
    have hep := xr_epoch (den := den) (prm := prm) (n₀ := n₀) (a := a) (part := none) (s := { s with heap := setAt s.heap d (dob (es ++ es'.take (i + 1)).toArray (ep + (i + 1))) }) (q := q) (by rw [get_setAt_ne hne]; exact ha)
    refine .cast (hput.holding.bind (hep.bind (m := 0) ?_)) rfl
    rw [show (ep' != ep') = false from by simp]
    simp only [Bool.false_eq_true, if_false]
    exact .pure _ _ _
theorem xr_typeOf {a : Addr} {es ep} {s : Shared} {q} (ho : s.heap.get? a = some (dob es ep)) : Xr den prm n₀ (typeOf (.ref a)) s q (.type "dict") s q 1 := .load ho (.pure _ _ _)
theorem xr_isDict {a : Addr} {es ep} {s : Shared} {q} (ho : s.heap.get? a = some (dob es ep)) : Xr den prm n₀ (isInstance (.ref a) (.type "dict")) s q true s q 1 := by
  unfold isInstance
  refine .cast ((xr_typeOf ho).bind (m := 0) ?_) rfl
  rw [isSubtype_dict_dict]
  exact .pure _ _ _
theorem xr_iterDict {a : Addr} {es ep} {s : Shared} {q} (ho : s.heap.get? a = some (dob es ep)) : Xr den prm n₀ (specialOf (.ref a) "__iter__") s q (some (.builtin "dict.__iter__")) s q 1 := by
  unfold specialOf
  refine .cast ((xr_typeOf ho).bind (m := 0) ?_) rfl
  rw [F.slot_dict_iter.lookup]
  exact .pure _ _ _
theorem xr_merge {d a : Addr} {es es' : List DictEntry} {ep ep' : Nat} {q : Pos} {s : Shared} (hd : n₀ ≤ d) (hne : a ≠ d) (hk : IntK es') (hnd : (es.map (·.hash) ++ es'.map (·.hash)).Nodup) (hsz : es.length + es'.length ≤ 100000) (hes : es ≠ []) (hsys : (a == sysModules) = false)
    (ho : s.heap.get? d = some (dob es.toArray ep)) (ha : s.heap.get? a = some (dob es'.toArray ep')) :
    Xr den prm n₀ (mergeMapping d (.ref a) false) s q () { s with heap := setAt s.heap d (dob (es ++ es').toArray (ep + es'.length)) } q (5 + 6 * es'.length) := by
  have hl := xr_mergeLoop (den := den) (prm := prm) (n₀ := n₀) (q := q) hd hne hk hnd hsz es'.length 0 s (by omega) (by simpa using ho) ha
  rw [← List.range_eq_range'] at hl
  unfold mergeMapping
  refine .cast ((xr_isDict ha).bind (m := 4 + 6 * es'.length) ?_) (by omega)
  simp only [if_true]
  refine .cast ((xr_iterDict ha).bind (m := 3 + 6 * es'.length) ?_) (by omega)
  have hb : (some (Value.builtin "dict.__iter__") == some (Value.builtin "dict.__iter__")) = true := by simp
  rw [hb]
  simp only [pure_bind, hsys, Bool.false_eq_true, if_false]
  refine .cast ((xr_entries ho).bind (m := 2 + 6 * es'.length) ?_) (by omega)
  have he : es.toArray.isEmpty = false := by
    cases es with
    | nil => exact absurd rfl hes
    | cons x r => rfl
  rw [he]
  simp only [Bool.false_eq_true, if_false]
  refine .cast ((xr_entries ha).bind (m := 1 + 6 * es'.length) ?_) (by omega)
  refine .cast ((xr_epoch ha).bind (m := 6 * es'.length) ?_) (by omega)
  rw [List.size_toArray]
  exact .cast (hl.bind (.pure _ _ _)) (by omega)
end Mine
end PartH8

section PartH9
open PySem PySem.W PySem.Calls PyProof.Rows
set_option maxRecDepth 100000
set_option linter.unusedVariables false
namespace Mine
variable {den : Code → Sem Fin} {prm : Setting} {n₀ : Nat} {α β : Type}

noncomputable abbrev Tr2 := Sem Value × Sem Value
noncomputable abbrev GSt := Option Addr × List Tr2
noncomputable def mk (l : List Tr2) : List (Option (Sem Value) × Sem Value) := l.map fun p => (some p.1, p.2)
theorem gather (f : (Option (Sem Value) × Sem Value) → GSt → Sem (ForInStep GSt)) (main : Option Addr)
    (hf : ∀ (p : Tr2) (run : List Tr2), run.length + 1 < 17 → f (some p.1, p.2) (main, run) = pure (.yield (main, run ++ [p]))) (rest : List (Option (Sem Value) × Sem Value)) :
    ∀ (items run : List Tr2), run.length + items.length < 17 → forIn (mk items ++ rest) (main, run) f = forIn rest (main, run ++ items) f
  | [], run, _ => by simp [mk]
  | p :: items, run, h => by
    simp only [List.length_cons] at h
    show forIn ((some p.1, p.2) :: (mk items ++ rest)) (main, run) f = _
    rw [List.forIn_cons, hf p run (by omega), pure_bind]
    have := gather f main hf rest items (run ++ [p]) (by rw [List.length_append, List.length_singleton]; omega)
    rw [List.append_assoc] at this
    exact this

noncomputable def flushF (run : List Tr2) (main : Option Addr) : Sem (Option Addr) := do
    if run.isEmpty then return main
    match main with
    | none => return some (← subDict run)
    | some d =>
      let sub ← holding [.ref d] (subDict run)
      (holding [.ref d, .ref sub] (mergeMapping d (.ref sub) false)).onRaise fun x => do let _ ← holding [.ref d, x] (runValue (.builtin "proto.let_go" {}))
      return some d
noncomputable def stepF (x : Option (Sem Value) × Sem Value) (st : GSt) : Sem (ForInStep GSt) := match x.1 with
  | some k => if (st.2 ++ [(k, x.2)]).length == 17 then (do let m ← flushF (st.2 ++ [(k, x.2)]) st.1; pure (.yield (m, []))) else pure (.yield (st.1, st.2 ++ [(k, x.2)]))
  | none => unsupported "none"
theorem forIn_congr {σ γ : Type} {f g : γ → σ → Sem (ForInStep σ)} : ∀ (l : List γ) (st : σ), (∀ x ∈ l, ∀ st, f x st = g x st) → (forIn l st f : Sem σ) = forIn l st g
  | [], st, _ => rfl
  | x :: l, st, h => by
    rw [List.forIn_cons, List.forIn_cons, h x (.head _) st]
    congr 1
    funext r
    cases r with
    | done b => rfl
    | yield b => exact forIn_congr l b fun y hy => h y (.tail _ hy)
theorem display_eq (l : List Tr2) : dictDisplay (mk l) = (do let st ← forIn (mk l) ((none : Option Addr), ([] : List Tr2)) stepF; match ← flushF st.2 st.1 with
  | some d => pure (.ref d)
  | none => newDict) := by
  unfold dictDisplay
  dsimp only
  rw [forIn_congr (g := stepF) (mk l) _ (fun x hx st => ?_)]
  · rfl
  · obtain ⟨p, _, rfl⟩ := List.mem_map.mp hx
    rfl
noncomputable abbrev Cp := (Int × Str) × (Pos × Pos)
theorem pts_app (env : Env) (pos : Pos) : ∀ A B : List Cp, pts env pos (A ++ B) = pts env pos A ++ pts env pos B
  | [], B => rfl
  | (x, q) :: A, B => by
    show _ :: pts env pos (A ++ B) = _
    rw [pts_app env pos A B]; rfl
theorem mk_app (A B : List Tr2) : mk (A ++ B) = mk A ++ mk B := List.map_append
noncomputable def pushAll : Heap → List Obj → Heap
  | h, [] => h
  | h, o :: os => pushAll (h.push o) os
theorem push_size (h : Heap) (o : Obj) : (h.push o).objs.size = h.objs.size + 1 := by cases h; simp [Heap.push]
theorem setAt_size (h : Heap) (a : Addr) (o : Obj) : (setAt h a o).objs.size = h.objs.size := by cases h; simp [setAt, Heap.update]
theorem push_setAt (h : Heap) (a : Addr) (o x : Obj) (ha : a < h.objs.size) : (setAt h a x).push o = setAt (h.push o) a x := by
  obtain ⟨objs, l⟩ := h
  show (⟨(objs.modify a fun _ => x).push o, l⟩ : Heap) = ⟨(objs.push o).modify a fun _ => x, l⟩
  congr 1
  apply Array.ext
  · simp
  · intro i h1 h2
    have ha : a < objs.size := ha
    have h1' : i < objs.size + 1 := by simpa using h1
    rw [Array.getElem_modify, Array.getElem_push]
    split
    · rename_i hi
      rw [Array.getElem_modify, Array.getElem_push_lt (by simpa using hi)]
    · rename_i hi
      have hi : ¬ i < objs.size := by simpa using hi
      have hai : ¬ a = i := fun e => hi (by rw [← e]; exact ha)
      rw [if_neg hai, Array.getElem_push, dif_neg hi]
theorem pushAll_setAt (a : Addr) (x : Obj) : ∀ (os : List Obj) (h : Heap), a < h.objs.size → pushAll (setAt h a x) os = setAt (pushAll h os) a x
  | [], h, _ => rfl
  | o :: os, h, ha => by
    show pushAll ((setAt h a x).push o) os = setAt (pushAll (h.push o) os) a x
    rw [push_setAt h a o x ha, pushAll_setAt a x os (h.push o) (by rw [push_size]; exact Nat.lt_succ_of_lt ha)]
noncomputable def subs : Nat → List (List Cp) → List Obj
  | _, [] => []
  | t, C :: Cs => dob (ents t (C.map (·.1))).toArray C.length :: subs (t + 3 * C.length) Cs
noncomputable def entsC : Nat → List (List Cp) → List DictEntry
  | _, [] => []
  | t, C :: Cs => ents t (C.map (·.1)) ++ entsC (t + 3 * C.length) Cs
theorem entsC_hash : ∀ (t : Nat) (Cs : List (List Cp)), (entsC t Cs).map (·.hash) = Cs.flatten.map fun p => hashInt p.1.1
  | _, [] => rfl
  | t, C :: Cs => by rw [entsC, List.map_append, ents_hash, entsC_hash _ Cs, List.flatten_cons, List.map_append, List.map_map]; rfl
theorem entsC_len : ∀ (t : Nat) (Cs : List (List Cp)), (entsC t Cs).length = Cs.flatten.length
  | _, [] => rfl
  | t, C :: Cs => by rw [entsC, List.length_append, ents_len, entsC_len _ Cs, List.flatten_cons, List.length_append, List.length_map]
theorem ents_int : ∀ (t : Nat) (L : List (Int × Str)), IntK (ents t L)
  | _, [], e, h => nomatch h
  | t, (k, v) :: r, e, h => by
    rw [ents] at h
    rcases List.mem_cons.mp h with rfl | h
    · exact ⟨_, _, rfl⟩
    · exact ents_int (t + 3) r e h
theorem entsS_int : ∀ (t : Nat) (L : List (Int × Str)), IntK (entsS t L)
  | _, [], e, h => nomatch h
  | t, x :: r, e, h => by
    rw [entsS] at h
    rcases List.mem_cons.mp h with rfl | h
    · exact ⟨_, _, rfl⟩
    · exact entsS_int (t + 2) r e h

theorem xr_first {p : Program} {w : World} {env : Env} {pos : Pos} {L : List Cp} {s : Shared} (ha : n₀ ≤ s.heap.objs.size) (hl : L.length = 17) (hnd : (L.map fun x => hashInt x.1.1).Nodup) :
    Xr (denote treeTable) ⟨p, w.params⟩ n₀ (flushF (pts env pos L) none) s pos (some s.heap.objs.size) { s with heap := s.heap.push (dob (ents s.toks (L.map (·.1))).toArray L.length), toks := s.toks + 3 * L.length } pos (13 * L.length + 2) := by
  have h := xr_sub (p := p) (w := w) (env := env) (pos := pos) ha (by omega) (by omega) hnd
  have he : (pts env pos L).isEmpty = false := by cases L with | nil => cases hl | cons _ _ => rfl
  unfold flushF
  rw [he]
  exact .cast (h.bind (.pure _ _ _)) rfl
theorem get_push_of {h : Heap} {a : Addr} {o x : Obj} (e : h.get? a = some o) : (h.push x).get? a = some o := Heap.get?_push_of_some _ e
theorem xr_next {p : Program} {w : World} {env : Env} {pos : Pos} {L : List Cp} {s : Shared} {d : Addr} {es : List DictEntry} {r : List DictEntry} {n : Nat} (ha : n₀ ≤ s.heap.objs.size) (hd : n₀ ≤ d) (hsys : sysModules < n₀) (ho : s.heap.get? d = some (dob es.toArray es.length)) (hes : es ≠ []) (hr : r.length = L.length) (hL : L ≠ []) (hint : IntK r)
    (hsub : Xr (denote treeTable) ⟨p, w.params⟩ n₀ (subDict (pts env pos L)) s pos s.heap.objs.size { s with heap := s.heap.push (dob r.toArray L.length), toks := s.toks + 3 * L.length } pos n)
    (hnd : (es.map (·.hash) ++ r.map (·.hash)).Nodup) (hsz : es.length + L.length ≤ 100000) :
    Xr (denote treeTable) ⟨p, w.params⟩ n₀ (flushF (pts env pos L) (some d)) s pos (some d) { s with heap := setAt (s.heap.push (dob r.toArray L.length)) d (dob (es ++ r).toArray (es ++ r).length), toks := s.toks + 3 * L.length } pos (n + (5 + 6 * L.length)) := by
  have hdl : d < s.heap.objs.size := Heap.lt_size ho
  have hm := xr_merge (den := denote treeTable) (prm := ⟨p, w.params⟩) (n₀ := n₀) (d := d) (a := s.heap.objs.size) (es := es) (es' := r) (ep := es.length) (ep' := L.length) (q := pos) (s := { s with heap := s.heap.push (dob r.toArray L.length), toks := s.toks + 3 * L.length }) hd (Nat.ne_of_gt hdl) hint hnd (by omega) hes (beq_eq_false_iff_ne.mpr (Nat.ne_of_gt (Nat.lt_of_lt_of_le hsys ha))) (get_push_of ho) (Heap.get?_push_size _ rfl)
  rw [hr] at hm
  have he : (pts env pos L).isEmpty = false := by cases L with | nil => exact absurd rfl hL | cons _ _ => rfl
  unfold flushF
  rw [he]
  rw [List.length_append, hr]
  exact .cast (hsub.holding.bind ((Xr.onRaise hm.holding).bind (.pure _ _ _))) (by omega)

theorem xr_chunks {p : Program} {w : World} {env : Env} {pos : Pos} {d : Addr} {b : GSt} {s' : Shared} {q' : Pos} {m : Nat} {rest : List (Option (Sem Value) × Sem Value)} (hd : n₀ ≤ d) (hsys : sysModules < n₀) : ∀ (Cs : List (List Cp)) (es : List DictEntry) (s : Shared), n₀ ≤ s.heap.objs.size →
    s.heap.get? d = some (dob es.toArray es.length) → es ≠ [] → (∀ C ∈ Cs, C.length = 17) → (es.map (·.hash) ++ Cs.flatten.map fun x => hashInt x.1.1).Nodup → es.length + Cs.flatten.length ≤ 100000 →
    Xr (denote treeTable) ⟨p, w.params⟩ n₀ (forIn rest ((some d, []) : GSt) stepF) { s with heap := setAt (pushAll s.heap (subs s.toks Cs)) d (dob (es ++ entsC s.toks Cs).toArray (es ++ entsC s.toks Cs).length), toks := s.toks + 51 * Cs.length } pos b s' q' m →
    Xr (denote treeTable) ⟨p, w.params⟩ n₀ (forIn (mk (pts env pos Cs.flatten) ++ rest) ((some d, []) : GSt) stepF) s pos b s' q' (330 * Cs.length + m)
  | [], es, s, _, ho, _, _, _, _, h => by
    have e1 : setAt (pushAll s.heap (subs s.toks [])) d (dob (es ++ entsC s.toks []).toArray (es ++ entsC s.toks []).length) = s.heap := by
      show setAt s.heap d (dob (es ++ []).toArray (es ++ []).length) = _
      rw [List.append_nil, setAt_same ho]
    rw [e1] at h
    exact .cast h (by simp)
  | C :: Cs, es, s, ha, ho, hes, hC, hnd, hsz, h => by
    have h17 := hC C (.head _)
    rw [List.flatten_cons] at hnd hsz
    rw [List.map_append] at hnd
    rw [List.length_append] at hsz
    have hdl : d < s.heap.objs.size := Heap.lt_size ho
    have hndC : (C.map fun x => hashInt x.1.1).Nodup := (List.nodup_append.mp (List.nodup_append.mp hnd).2.1).1
    have hr := ents_len s.toks (C.map (·.1))
    rw [List.length_map] at hr
    have hh : (ents s.toks (C.map (·.1))).map (·.hash) = C.map fun x => hashInt x.1.1 := by rw [ents_hash, List.map_map]; rfl
    have hn := xr_next (p := p) (w := w) (env := env) (pos := pos) (L := C) (s := s) (d := d) (es := es) (r := ents s.toks (C.map (·.1))) ha hd hsys ho hes hr (by intro e; rw [e] at h17; cases h17) (ents_int _ _) (xr_sub ha (by omega) (by omega) hndC) (by rw [hh, ← List.append_assoc] at *; exact (List.nodup_append.mp hnd).1) (by omega)
    have hobj : (setAt (s.heap.push (dob (ents s.toks (C.map (·.1))).toArray C.length)) d (dob (es ++ ents s.toks (C.map (·.1))).toArray (es ++ ents s.toks (C.map (·.1))).length)).get? d = some (dob (es ++ ents s.toks (C.map (·.1))).toArray (es ++ ents s.toks (C.map (·.1))).length) := get_setAt (get_push_of ho) rfl
    have ih := xr_chunks (p := p) (w := w) (env := env) (pos := pos) (d := d) (b := b) (s' := s') (q' := q') (m := m) (rest := rest) hd hsys Cs (es ++ ents s.toks (C.map (·.1))) { s with heap := setAt (s.heap.push (dob (ents s.toks (C.map (·.1))).toArray C.length)) d (dob (es ++ ents s.toks (C.map (·.1))).toArray (es ++ ents s.toks (C.map (·.1))).length), toks := s.toks + 3 * C.length }
      (by rw [setAt_size, push_size]; omega) hobj (by intro e; exact hes (List.append_eq_nil_iff.mp e).1) (fun C' hC' => hC C' (.tail _ hC')) (by rw [List.map_append, hh, List.append_assoc]; exact hnd) (by rw [List.length_append, hr]; omega) (by
        rw [pushAll_setAt _ _ _ _ (by rw [push_size]; exact Nat.lt_succ_of_lt hdl), setAt_setAt]
        rw [entsC, ← List.append_assoc] at h
        have e51 : s.toks + 51 * (Cs.length + 1) = s.toks + 3 * C.length + 51 * Cs.length := by omega
        rw [List.length_cons, e51] at h
        exact h)
    have hlast : ∃ C0 x, C = C0 ++ [x] ∧ C0.length = 16 := by
      refine ⟨C.dropLast, C.getLast (by intro e; rw [e] at h17; cases h17), (List.dropLast_concat_getLast _).symm, by rw [List.length_dropLast, h17]⟩
    obtain ⟨C0, x, hC0, h16⟩ := hlast
    have hptsC : pts env pos C = pts env pos C0 ++ pts env pos [x] := by rw [hC0, pts_app]
    rw [List.flatten_cons, pts_app, mk_app, List.append_assoc, hptsC, mk_app, List.append_assoc]
    rw [gather stepF (some d) (fun p run hl => by
      unfold stepF
      have : ((run ++ [(p.1, p.2)]).length == 17) = false := by rw [beq_eq_false_iff_ne, List.length_append, List.length_singleton]; omega
      simp only [this, Bool.false_eq_true, if_false]) _ (pts env pos C0) [] (by rw [pts_len, h16]; decide), List.nil_append]
    show Xr _ _ _ (forIn ((some (eval (.Constant (.int x.1.1) 0 x.2.1) env), (do let y ← eval (.Constant (.str x.1.2) 0 x.2.2) env; standAt pos; pure y)) :: (mk (pts env pos Cs.flatten) ++ rest)) _ _) _ _ _ _ _ _
    rw [List.forIn_cons]
    have hst : stepF (some (eval (.Constant (.int x.1.1) 0 x.2.1) env), (do let y ← eval (.Constant (.str x.1.2) 0 x.2.2) env; standAt pos; pure y)) (some d, pts env pos C0) = (do let m ← flushF (pts env pos C) (some d); pure (.yield (m, []))) := by
      unfold stepF
      have : ((pts env pos C0 ++ pts env pos [x]).length == 17) = true := by rw [beq_iff_eq, ← hptsC, pts_len, h17]
      rw [hptsC]
      show (if ((pts env pos C0 ++ pts env pos [x]).length == 17) = true then _ else _) = _
      rw [this]; rfl
    rw [hst]
    refine .cast ((hn.bind (f := fun m => pure (ForInStep.yield ((m, []) : GSt))) (.pure' (a := ForInStep.yield ((some d, []) : GSt)))).bind ih) ?_
    rw [List.length_cons, h17]; omega
end Mine
end PartH9

section PartH1
open PySem PySem.W PySem.Calls PyProof.Rows
set_option maxRecDepth 100000
set_option maxHeartbeats 0
set_option linter.unusedVariables false
namespace Mine
noncomputable def argsOf : Stmt → Arguments
  | .FunctionDef _ a _ _ _ _ _ _ _ _ => a
  | _ => default
noncomputable def scopeOf : Stmt → Scope
  | .FunctionDef _ _ _ _ _ _ s _ _ _ => s
  | _ => default
noncomputable def metAt (i : Nat) : Stmt := match stmtAt 56 with
  | .ClassDef _ _ _ b _ _ _ _ _ _ _ => b.getD i (.Pass ⟨0, 0, 0, 0⟩)
  | s => s
noncomputable def n_3 (P : Params) : Obj := ({ cls := Value.type "dict", data := Data.dict #[{ hash := PyData.keyHash P (Str.ofString "__name__"), key := Value.str (Str.ofString "__name__") 165, val := Value.str (Str.ofString "cpy313.netrc") 407 }, { hash := PyData.keyHash P (Str.ofString "__doc__"), key := Value.str (Str.ofString "__doc__") 166, val := Value.none }, { hash := PyData.keyHash P (Str.ofString "__package__"), key := Value.str (Str.ofString "__package__") 167, val := Value.none }, { hash := PyData.keyHash P (Str.ofString "__loader__"), key := Value.str (Str.ofString "__loader__") 168, val := Value.builtin "__main__.__loader__#opaque" }, { hash := PyData.keyHash P (Str.ofString "__spec__"), key := Value.str (Str.ofString "__spec__") 169, val := Value.none }, { hash := PyData.keyHash P (Str.ofString "__annotations__"), key := Value.str (Str.ofString "__annotations__") 170, val := Value.ref 6 }, { hash := PyData.keyHash P (Str.ofString "__builtins__"), key := Value.str (Str.ofString "__builtins__") 171, val := Value.ref 4 }, { hash := PyData.keyHash P (Str.ofString "__file__"), key := Value.str (Str.ofString "__file__") 173, val := Value.str (Str.ofString "/claim/cut.py") 172 }, { hash := PyData.keyHash P (Str.ofString "__cached__"), key := Value.str (Str.ofString "__cached__") 174, val := Value.none }, { hash := PyData.keyHash P (Str.ofString "ENDMARKER"), key := Value.str (Str.ofString "ENDMARKER") 190, val := Value.int 0 189 }, { hash := PyData.keyHash P (Str.ofString "LPAR"), key := Value.str (Str.ofString "LPAR") 192, val := Value.int 7 191 }, { hash := PyData.keyHash P (Str.ofString "RPAR"), key := Value.str (Str.ofString "RPAR") 194, val := Value.int 8 193 }, { hash := PyData.keyHash P (Str.ofString "LSQB"), key := Value.str (Str.ofString "LSQB") 196, val := Value.int 9 195 }, { hash := PyData.keyHash P (Str.ofString "RSQB"), key := Value.str (Str.ofString "RSQB") 198, val := Value.int 10 197 }, { hash := PyData.keyHash P (Str.ofString "COLON"), key := Value.str (Str.ofString "COLON") 200, val := Value.int 11 199 }, { hash := PyData.keyHash P (Str.ofString "COMMA"), key := Value.str (Str.ofString "COMMA") 202, val := Value.int 12 201 }, { hash := PyData.keyHash P (Str.ofString "SEMI"), key := Value.str (Str.ofString "SEMI") 204, val := Value.int 13 203 }, { hash := PyData.keyHash P (Str.ofString "PLUS"), key := Value.str (Str.ofString "PLUS") 206, val := Value.int 14 205 }, { hash := PyData.keyHash P (Str.ofString "MINUS"), key := Value.str (Str.ofString "MINUS") 208, val := Value.int 15 207 }, { hash := PyData.keyHash P (Str.ofString "STAR"), key := Value.str (Str.ofString "STAR") 210, val := Value.int 16 209 }, { hash := PyData.keyHash P (Str.ofString "SLASH"), key := Value.str (Str.ofString "SLASH") 212, val := Value.int 17 211 }, { hash := PyData.keyHash P (Str.ofString "VBAR"), key := Value.str (Str.ofString "VBAR") 214, val := Value.int 18 213 }, { hash := PyData.keyHash P (Str.ofString "AMPER"), key := Value.str (Str.ofString "AMPER") 216, val := Value.int 19 215 }, { hash := PyData.keyHash P (Str.ofString "LESS"), key := Value.str (Str.ofString "LESS") 218, val := Value.int 20 217 }, { hash := PyData.keyHash P (Str.ofString "GREATER"), key := Value.str (Str.ofString "GREATER") 220, val := Value.int 21 219 }, { hash := PyData.keyHash P (Str.ofString "EQUAL"), key := Value.str (Str.ofString "EQUAL") 222, val := Value.int 22 221 }, { hash := PyData.keyHash P (Str.ofString "DOT"), key := Value.str (Str.ofString "DOT") 224, val := Value.int 23 223 }, { hash := PyData.keyHash P (Str.ofString "PERCENT"), key := Value.str (Str.ofString "PERCENT") 226, val := Value.int 24 225 }, { hash := PyData.keyHash P (Str.ofString "LBRACE"), key := Value.str (Str.ofString "LBRACE") 228, val := Value.int 25 227 }, { hash := PyData.keyHash P (Str.ofString "RBRACE"), key := Value.str (Str.ofString "RBRACE") 230, val := Value.int 26 229 }, { hash := PyData.keyHash P (Str.ofString "EQEQUAL"), key := Value.str (Str.ofString "EQEQUAL") 232, val := Value.int 27 231 }, { hash := PyData.keyHash P (Str.ofString "NOTEQUAL"), key := Value.str (Str.ofString "NOTEQUAL") 234, val := Value.int 28 233 }, { hash := PyData.keyHash P (Str.ofString "LESSEQUAL"), key := Value.str (Str.ofString "LESSEQUAL") 236, val := Value.int 29 235 }, { hash := PyData.keyHash P (Str.ofString "GREATEREQUAL"), key := Value.str (Str.ofString "GREATEREQUAL") 238, val := Value.int 30 237 }, { hash := PyData.keyHash P (Str.ofString "TILDE"), key := Value.str (Str.ofString "TILDE") 240, val := Value.int 31 239 }, { hash := PyData.keyHash P (Str.ofString "CIRCUMFLEX"), key := Value.str (Str.ofString "CIRCUMFLEX") 242, val := Value.int 32 241 }, { hash := PyData.keyHash P (Str.ofString "LEFTSHIFT"), key := Value.str (Str.ofString "LEFTSHIFT") 244, val := Value.int 33 243 }, { hash := PyData.keyHash P (Str.ofString "RIGHTSHIFT"), key := Value.str (Str.ofString "RIGHTSHIFT") 246, val := Value.int 34 245 }, { hash := PyData.keyHash P (Str.ofString "DOUBLESTAR"), key := Value.str (Str.ofString "DOUBLESTAR") 248, val := Value.int 35 247 }, { hash := PyData.keyHash P (Str.ofString "PLUSEQUAL"), key := Value.str (Str.ofString "PLUSEQUAL") 250, val := Value.int 36 249 }, { hash := PyData.keyHash P (Str.ofString "MINEQUAL"), key := Value.str (Str.ofString "MINEQUAL") 252, val := Value.int 37 251 }, { hash := PyData.keyHash P (Str.ofString "STAREQUAL"), key := Value.str (Str.ofString "STAREQUAL") 254, val := Value.int 38 253 }, { hash := PyData.keyHash P (Str.ofString "SLASHEQUAL"), key := Value.str (Str.ofString "SLASHEQUAL") 256, val := Value.int 39 255 }, { hash := PyData.keyHash P (Str.ofString "PERCENTEQUAL"), key := Value.str (Str.ofString "PERCENTEQUAL") 258, val := Value.int 40 257 }, { hash := PyData.keyHash P (Str.ofString "AMPEREQUAL"), key := Value.str (Str.ofString "AMPEREQUAL") 260, val := Value.int 41 259 }, { hash := PyData.keyHash P (Str.ofString "VBAREQUAL"), key := Value.str (Str.ofString "VBAREQUAL") 262, val := Value.int 42 261 }, { hash := PyData.keyHash P (Str.ofString "CIRCUMFLEXEQUAL"), key := Value.str (Str.ofString "CIRCUMFLEXEQUAL") 264, val := Value.int 43 263 }, { hash := PyData.keyHash P (Str.ofString "LEFTSHIFTEQUAL"), key := Value.str (Str.ofString "LEFTSHIFTEQUAL") 266, val := Value.int 44 265 }, { hash := PyData.keyHash P (Str.ofString "RIGHTSHIFTEQUAL"), key := Value.str (Str.ofString "RIGHTSHIFTEQUAL") 268, val := Value.int 45 267 }, { hash := PyData.keyHash P (Str.ofString "DOUBLESTAREQUAL"), key := Value.str (Str.ofString "DOUBLESTAREQUAL") 270, val := Value.int 46 269 }, { hash := PyData.keyHash P (Str.ofString "DOUBLESLASH"), key := Value.str (Str.ofString "DOUBLESLASH") 272, val := Value.int 47 271 }, { hash := PyData.keyHash P (Str.ofString "DOUBLESLASHEQUAL"), key := Value.str (Str.ofString "DOUBLESLASHEQUAL") 274, val := Value.int 48 273 }, { hash := PyData.keyHash P (Str.ofString "AT"), key := Value.str (Str.ofString "AT") 276, val := Value.int 49 275 }, { hash := PyData.keyHash P (Str.ofString "ATEQUAL"), key := Value.str (Str.ofString "ATEQUAL") 278, val := Value.int 50 277 }, { hash := PyData.keyHash P (Str.ofString "RARROW"), key := Value.str (Str.ofString "RARROW") 280, val := Value.int 51 279 }, { hash := PyData.keyHash P (Str.ofString "ELLIPSIS"), key := Value.str (Str.ofString "ELLIPSIS") 282, val := Value.int 52 281 }, { hash := PyData.keyHash P (Str.ofString "COLONEQUAL"), key := Value.str (Str.ofString "COLONEQUAL") 284, val := Value.int 53 283 }, { hash := PyData.keyHash P (Str.ofString "EXCLAMATION"), key := Value.str (Str.ofString "EXCLAMATION") 286, val := Value.int 54 285 }, { hash := PyData.keyHash P (Str.ofString "NT_OFFSET"), key := Value.str (Str.ofString "NT_OFFSET") 288, val := Value.int 256 287 }, { hash := PyData.keyHash P (Str.ofString "EXACT_TOKEN_TYPES"), key := Value.str (Str.ofString "EXACT_TOKEN_TYPES") 385, val := Value.ref 15 }, { hash := PyData.keyHash P (Str.ofString "ISTERMINAL"), key := Value.str (Str.ofString "ISTERMINAL") 392, val := Value.ref 24 }, { hash := PyData.keyHash P (Str.ofString "ISNONTERMINAL"), key := Value.str (Str.ofString "ISNONTERMINAL") 399, val := Value.ref 31 }, { hash := PyData.keyHash P (Str.ofString "ISEOF"), key := Value.str (Str.ofString "ISEOF") 406, val := Value.ref 38 }, { hash := PyData.keyHash P (Str.ofString "_netrclex"), key := Value.str (Str.ofString "_netrclex") 466, val := Value.ref 76 }] 64 } : Obj)
noncomputable def n_11 (P : Params) : Obj := ({ cls := Value.type "tuple", data := Data.seq #[] } : Obj)
noncomputable def n_12 (P : Params) : Obj := ({ cls := Value.none, data := Data.fields #[Value.int 53 0, Value.int 0 0, Value.ref 23, Value.int 55 0, Value.int 0 0, Value.ref 30, Value.int 57 0, Value.int 0 0, Value.ref 37, Value.int 60 0, Value.int 0 0, Value.ref 44] } : Obj)
noncomputable def n_13 (P : Params) : Obj := ({ cls := Value.type "code", data := Data.fields #[Value.str (Str.ofString "<module>") 182, Value.str (Str.ofString "<module>") 183, Value.str (Str.ofString "/claim/cut.py") 184, Value.int 1 0, Value.int 0 0, Value.int 0 0, Value.int 0 0, Value.int 0 0, Value.ref 11, Value.bool false, Value.int 181 0, Value.ref 12, Value.none, Value.none, Value.none, Value.none, Value.int 185 0, Value.int 1 0, Value.str (Str.ofString "/claim/cut.py") 186] } : Obj)
noncomputable def n_14 (P : Params) : Obj := ({ cls := Value.type "frame", slots := #[some (Value.ref 13), some (Value.ref 3), some (Value.ref 3), none, some (Value.str (Str.ofString "__main__") 164), none, some (Value.ref 0)] } : Obj)
noncomputable def n_15 (P : Params) : Obj := ({ cls := Value.type "dict", data := Data.dict #[{ hash := PyData.keyHash P (Str.ofString "!"), key := Value.str (Str.ofString "!") 289, val := Value.int 54 285 }, { hash := PyData.keyHash P (Str.ofString "!="), key := Value.str (Str.ofString "!=") 291, val := Value.int 28 233 }, { hash := PyData.keyHash P (Str.ofString "%"), key := Value.str (Str.ofString "%") 293, val := Value.int 24 225 }, { hash := PyData.keyHash P (Str.ofString "%="), key := Value.str (Str.ofString "%=") 295, val := Value.int 40 257 }, { hash := PyData.keyHash P (Str.ofString "&"), key := Value.str (Str.ofString "&") 297, val := Value.int 19 215 }, { hash := PyData.keyHash P (Str.ofString "&="), key := Value.str (Str.ofString "&=") 299, val := Value.int 41 259 }, { hash := PyData.keyHash P (Str.ofString "("), key := Value.str (Str.ofString "(") 301, val := Value.int 7 191 }, { hash := PyData.keyHash P (Str.ofString ")"), key := Value.str (Str.ofString ")") 303, val := Value.int 8 193 }, { hash := PyData.keyHash P (Str.ofString "*"), key := Value.str (Str.ofString "*") 305, val := Value.int 16 209 }, { hash := PyData.keyHash P (Str.ofString "**"), key := Value.str (Str.ofString "**") 307, val := Value.int 35 247 }, { hash := PyData.keyHash P (Str.ofString "**="), key := Value.str (Str.ofString "**=") 309, val := Value.int 46 269 }, { hash := PyData.keyHash P (Str.ofString "*="), key := Value.str (Str.ofString "*=") 311, val := Value.int 38 253 }, { hash := PyData.keyHash P (Str.ofString "+"), key := Value.str (Str.ofString "+") 313, val := Value.int 14 205 }, { hash := PyData.keyHash P (Str.ofString "+="), key := Value.str (Str.ofString "+=") 315, val := Value.int 36 249 }, { hash := PyData.keyHash P (Str.ofString ","), key := Value.str (Str.ofString ",") 317, val := Value.int 12 201 }, { hash := PyData.keyHash P (Str.ofString "-"), key := Value.str (Str.ofString "-") 319, val := Value.int 15 207 }, { hash := PyData.keyHash P (Str.ofString "-="), key := Value.str (Str.ofString "-=") 321, val := Value.int 37 251 }, { hash := PyData.keyHash P (Str.ofString "->"), key := Value.str (Str.ofString "->") 323, val := Value.int 51 279 }, { hash := PyData.keyHash P (Str.ofString "."), key := Value.str (Str.ofString ".") 325, val := Value.int 23 223 }, { hash := PyData.keyHash P (Str.ofString "..."), key := Value.str (Str.ofString "...") 327, val := Value.int 52 281 }, { hash := PyData.keyHash P (Str.ofString "/"), key := Value.str (Str.ofString "/") 329, val := Value.int 17 211 }, { hash := PyData.keyHash P (Str.ofString "//"), key := Value.str (Str.ofString "//") 331, val := Value.int 47 271 }, { hash := PyData.keyHash P (Str.ofString "//="), key := Value.str (Str.ofString "//=") 333, val := Value.int 48 273 }, { hash := PyData.keyHash P (Str.ofString "/="), key := Value.str (Str.ofString "/=") 335, val := Value.int 39 255 }, { hash := PyData.keyHash P (Str.ofString ":"), key := Value.str (Str.ofString ":") 337, val := Value.int 11 199 }, { hash := PyData.keyHash P (Str.ofString ":="), key := Value.str (Str.ofString ":=") 339, val := Value.int 53 283 }, { hash := PyData.keyHash P (Str.ofString ";"), key := Value.str (Str.ofString ";") 341, val := Value.int 13 203 }, { hash := PyData.keyHash P (Str.ofString "<"), key := Value.str (Str.ofString "<") 343, val := Value.int 20 217 }, { hash := PyData.keyHash P (Str.ofString "<<"), key := Value.str (Str.ofString "<<") 345, val := Value.int 33 243 }, { hash := PyData.keyHash P (Str.ofString "<<="), key := Value.str (Str.ofString "<<=") 347, val := Value.int 44 265 }, { hash := PyData.keyHash P (Str.ofString "<="), key := Value.str (Str.ofString "<=") 349, val := Value.int 29 235 }, { hash := PyData.keyHash P (Str.ofString "="), key := Value.str (Str.ofString "=") 351, val := Value.int 22 221 }, { hash := PyData.keyHash P (Str.ofString "=="), key := Value.str (Str.ofString "==") 353, val := Value.int 27 231 }, { hash := PyData.keyHash P (Str.ofString ">"), key := Value.str (Str.ofString ">") 355, val := Value.int 21 219 }, { hash := PyData.keyHash P (Str.ofString ">="), key := Value.str (Str.ofString ">=") 357, val := Value.int 30 237 }, { hash := PyData.keyHash P (Str.ofString ">>"), key := Value.str (Str.ofString ">>") 358, val := Value.int 34 245 }, { hash := PyData.keyHash P (Str.ofString ">>="), key := Value.str (Str.ofString ">>=") 359, val := Value.int 45 267 }, { hash := PyData.keyHash P (Str.ofString "@"), key := Value.str (Str.ofString "@") 360, val := Value.int 49 275 }, { hash := PyData.keyHash P (Str.ofString "@="), key := Value.str (Str.ofString "@=") 361, val := Value.int 50 277 }, { hash := PyData.keyHash P (Str.ofString "["), key := Value.str (Str.ofString "[") 362, val := Value.int 9 195 }, { hash := PyData.keyHash P (Str.ofString "]"), key := Value.str (Str.ofString "]") 363, val := Value.int 10 197 }, { hash := PyData.keyHash P (Str.ofString "^"), key := Value.str (Str.ofString "^") 364, val := Value.int 32 241 }, { hash := PyData.keyHash P (Str.ofString "^="), key := Value.str (Str.ofString "^=") 365, val := Value.int 43 263 }, { hash := PyData.keyHash P (Str.ofString "{"), key := Value.str (Str.ofString "{") 366, val := Value.int 25 227 }, { hash := PyData.keyHash P (Str.ofString "|"), key := Value.str (Str.ofString "|") 367, val := Value.int 18 213 }, { hash := PyData.keyHash P (Str.ofString "|="), key := Value.str (Str.ofString "|=") 368, val := Value.int 42 261 }, { hash := PyData.keyHash P (Str.ofString "}"), key := Value.str (Str.ofString "}") 369, val := Value.int 26 229 }, { hash := PyData.keyHash P (Str.ofString "~"), key := Value.str (Str.ofString "~") 370, val := Value.int 31 239 }] 48 } : Obj)
noncomputable def n_16 (P : Params) : Obj := ({ cls := Value.type "dict", data := Data.dict #[{ hash := PyData.keyHash P (Str.ofString "->"), key := Value.str (Str.ofString "->") 323, val := Value.int 51 279 }, { hash := PyData.keyHash P (Str.ofString "."), key := Value.str (Str.ofString ".") 325, val := Value.int 23 223 }, { hash := PyData.keyHash P (Str.ofString "..."), key := Value.str (Str.ofString "...") 327, val := Value.int 52 281 }, { hash := PyData.keyHash P (Str.ofString "/"), key := Value.str (Str.ofString "/") 329, val := Value.int 17 211 }, { hash := PyData.keyHash P (Str.ofString "//"), key := Value.str (Str.ofString "//") 331, val := Value.int 47 271 }, { hash := PyData.keyHash P (Str.ofString "//="), key := Value.str (Str.ofString "//=") 333, val := Value.int 48 273 }, { hash := PyData.keyHash P (Str.ofString "/="), key := Value.str (Str.ofString "/=") 335, val := Value.int 39 255 }, { hash := PyData.keyHash P (Str.ofString ":"), key := Value.str (Str.ofString ":") 337, val := Value.int 11 199 }, { hash := PyData.keyHash P (Str.ofString ":="), key := Value.str (Str.ofString ":=") 339, val := Value.int 53 283 }, { hash := PyData.keyHash P (Str.ofString ";"), key := Value.str (Str.ofString ";") 341, val := Value.int 13 203 }, { hash := PyData.keyHash P (Str.ofString "<"), key := Value.str (Str.ofString "<") 343, val := Value.int 20 217 }, { hash := PyData.keyHash P (Str.ofString "<<"), key := Value.str (Str.ofString "<<") 345, val := Value.int 33 243 }, { hash := PyData.keyHash P (Str.ofString "<<="), key := Value.str (Str.ofString "<<=") 347, val := Value.int 44 265 }, { hash := PyData.keyHash P (Str.ofString "<="), key := Value.str (Str.ofString "<=") 349, val := Value.int 29 235 }, { hash := PyData.keyHash P (Str.ofString "="), key := Value.str (Str.ofString "=") 351, val := Value.int 22 221 }, { hash := PyData.keyHash P (Str.ofString "=="), key := Value.str (Str.ofString "==") 353, val := Value.int 27 231 }, { hash := PyData.keyHash P (Str.ofString ">"), key := Value.str (Str.ofString ">") 355, val := Value.int 21 219 }] 17 } : Obj)
noncomputable def n_17 (P : Params) : Obj := ({ cls := Value.type "dict", data := Data.dict #[{ hash := PyData.keyHash P (Str.ofString ">="), key := Value.str (Str.ofString ">=") 357, val := Value.int 30 237 }, { hash := PyData.keyHash P (Str.ofString ">>"), key := Value.str (Str.ofString ">>") 358, val := Value.int 34 245 }, { hash := PyData.keyHash P (Str.ofString ">>="), key := Value.str (Str.ofString ">>=") 359, val := Value.int 45 267 }, { hash := PyData.keyHash P (Str.ofString "@"), key := Value.str (Str.ofString "@") 360, val := Value.int 49 275 }, { hash := PyData.keyHash P (Str.ofString "@="), key := Value.str (Str.ofString "@=") 361, val := Value.int 50 277 }, { hash := PyData.keyHash P (Str.ofString "["), key := Value.str (Str.ofString "[") 362, val := Value.int 9 195 }, { hash := PyData.keyHash P (Str.ofString "]"), key := Value.str (Str.ofString "]") 363, val := Value.int 10 197 }, { hash := PyData.keyHash P (Str.ofString "^"), key := Value.str (Str.ofString "^") 364, val := Value.int 32 241 }, { hash := PyData.keyHash P (Str.ofString "^="), key := Value.str (Str.ofString "^=") 365, val := Value.int 43 263 }, { hash := PyData.keyHash P (Str.ofString "{"), key := Value.str (Str.ofString "{") 366, val := Value.int 25 227 }, { hash := PyData.keyHash P (Str.ofString "|"), key := Value.str (Str.ofString "|") 367, val := Value.int 18 213 }, { hash := PyData.keyHash P (Str.ofString "|="), key := Value.str (Str.ofString "|=") 368, val := Value.int 42 261 }, { hash := PyData.keyHash P (Str.ofString "}"), key := Value.str (Str.ofString "}") 369, val := Value.int 26 229 }, { hash := PyData.keyHash P (Str.ofString "~"), key := Value.str (Str.ofString "~") 370, val := Value.int 31 239 }] 14 } : Obj)
noncomputable def n_18 (P : Params) : Obj := ({ cls := Value.type "tuple", data := Data.seq #[] } : Obj)
noncomputable def n_19 (P : Params) : Obj := ({ cls := Value.none, data := Data.fields #[] } : Obj)
noncomputable def n_20 (P : Params) : Obj := ({ cls := Value.type "tuple", data := Data.seq #[Value.str (Str.ofString "x") 389] } : Obj)
noncomputable def n_21 (P : Params) : Obj := ({ cls := Value.type "tuple", data := Data.seq #[] } : Obj)
noncomputable def n_22 (P : Params) : Obj := ({ cls := Value.none, data := Data.func { name := Str.ofString "ISTERMINAL", qualname := Str.ofString "ISTERMINAL", params := argsOf (stmtAt 52), body := FuncBody.stmts (bodyOf (stmtAt 52)), scope := scopeOf (stmtAt 52), globals := 0, closure := [], defaults := Value.none, kwdefaults := Value.none } } : Obj)
noncomputable def n_23 (P : Params) : Obj := ({ cls := Value.type "code", data := Data.fields #[Value.str (Str.ofString "ISTERMINAL") 386, Value.str (Str.ofString "ISTERMINAL") 387, Value.str (Str.ofString "/claim/cut.py") 388, Value.int 53 0, Value.int 1 0, Value.int 0 0, Value.int 0 0, Value.int 3 0, Value.ref 18, Value.bool true, Value.int 181 0, Value.ref 19, Value.none, Value.ref 20, Value.ref 21, Value.ref 22, Value.int 390 0, Value.int 53 0, Value.str (Str.ofString "/claim/cut.py") 391] } : Obj)
noncomputable def n_24 (P : Params) : Obj := ({ cls := Value.type "function", data := Data.func { name := Str.ofString "ISTERMINAL", qualname := Str.ofString "ISTERMINAL", params := argsOf (stmtAt 52), body := FuncBody.stmts (bodyOf (stmtAt 52)), scope := scopeOf (stmtAt 52), globals := 3, closure := [], defaults := Value.none, kwdefaults := Value.none, pyModule := Value.str (Str.ofString "cpy313.token") 187, code := Value.ref 23 } } : Obj)
noncomputable def n_25 (P : Params) : Obj := ({ cls := Value.type "tuple", data := Data.seq #[] } : Obj)
noncomputable def n_26 (P : Params) : Obj := ({ cls := Value.none, data := Data.fields #[] } : Obj)
noncomputable def n_27 (P : Params) : Obj := ({ cls := Value.type "tuple", data := Data.seq #[Value.str (Str.ofString "x") 396] } : Obj)
noncomputable def n_28 (P : Params) : Obj := ({ cls := Value.type "tuple", data := Data.seq #[] } : Obj)
noncomputable def n_29 (P : Params) : Obj := ({ cls := Value.none, data := Data.func { name := Str.ofString "ISNONTERMINAL", qualname := Str.ofString "ISNONTERMINAL", params := argsOf (stmtAt 53), body := FuncBody.stmts (bodyOf (stmtAt 53)), scope := scopeOf (stmtAt 53), globals := 0, closure := [], defaults := Value.none, kwdefaults := Value.none } } : Obj)
noncomputable def n_30 (P : Params) : Obj := ({ cls := Value.type "code", data := Data.fields #[Value.str (Str.ofString "ISNONTERMINAL") 393, Value.str (Str.ofString "ISNONTERMINAL") 394, Value.str (Str.ofString "/claim/cut.py") 395, Value.int 55 0, Value.int 1 0, Value.int 0 0, Value.int 0 0, Value.int 3 0, Value.ref 25, Value.bool true, Value.int 181 0, Value.ref 26, Value.none, Value.ref 27, Value.ref 28, Value.ref 29, Value.int 397 0, Value.int 55 0, Value.str (Str.ofString "/claim/cut.py") 398] } : Obj)
noncomputable def n_31 (P : Params) : Obj := ({ cls := Value.type "function", data := Data.func { name := Str.ofString "ISNONTERMINAL", qualname := Str.ofString "ISNONTERMINAL", params := argsOf (stmtAt 53), body := FuncBody.stmts (bodyOf (stmtAt 53)), scope := scopeOf (stmtAt 53), globals := 3, closure := [], defaults := Value.none, kwdefaults := Value.none, pyModule := Value.str (Str.ofString "cpy313.token") 187, code := Value.ref 30 } } : Obj)
noncomputable def n_32 (P : Params) : Obj := ({ cls := Value.type "tuple", data := Data.seq #[] } : Obj)
noncomputable def n_33 (P : Params) : Obj := ({ cls := Value.none, data := Data.fields #[] } : Obj)
noncomputable def n_34 (P : Params) : Obj := ({ cls := Value.type "tuple", data := Data.seq #[Value.str (Str.ofString "x") 403] } : Obj)
noncomputable def n_35 (P : Params) : Obj := ({ cls := Value.type "tuple", data := Data.seq #[] } : Obj)
noncomputable def n_36 (P : Params) : Obj := ({ cls := Value.none, data := Data.func { name := Str.ofString "ISEOF", qualname := Str.ofString "ISEOF", params := argsOf (stmtAt 54), body := FuncBody.stmts (bodyOf (stmtAt 54)), scope := scopeOf (stmtAt 54), globals := 0, closure := [], defaults := Value.none, kwdefaults := Value.none } } : Obj)
noncomputable def n_37 (P : Params) : Obj := ({ cls := Value.type "code", data := Data.fields #[Value.str (Str.ofString "ISEOF") 400, Value.str (Str.ofString "ISEOF") 401, Value.str (Str.ofString "/claim/cut.py") 402, Value.int 57 0, Value.int 1 0, Value.int 0 0, Value.int 0 0, Value.int 3 0, Value.ref 32, Value.bool true, Value.int 181 0, Value.ref 33, Value.none, Value.ref 34, Value.ref 35, Value.ref 36, Value.int 404 0, Value.int 57 0, Value.str (Str.ofString "/claim/cut.py") 405] } : Obj)
noncomputable def n_38 (P : Params) : Obj := ({ cls := Value.type "function", data := Data.func { name := Str.ofString "ISEOF", qualname := Str.ofString "ISEOF", params := argsOf (stmtAt 54), body := FuncBody.stmts (bodyOf (stmtAt 54)), scope := scopeOf (stmtAt 54), globals := 3, closure := [], defaults := Value.none, kwdefaults := Value.none, pyModule := Value.str (Str.ofString "cpy313.token") 187, code := Value.ref 37 } } : Obj)
noncomputable def n_39 (P : Params) : Obj := ({ cls := Value.type "tuple", data := Data.seq #[] } : Obj)
noncomputable def n_40 (P : Params) : Obj := ({ cls := Value.type "builtin_function_or_method", data := Data.fields #[Value.builtin "type.__prepare__", Value.type "type"] } : Obj)
noncomputable def n_41 (P : Params) : Obj := ({ cls := Value.type "dict", data := Data.dict #[{ hash := PyData.keyHash P (Str.ofString "__module__"), key := Value.str (Str.ofString "__module__") 416, val := Value.str (Str.ofString "cpy313.netrc") 407 }, { hash := PyData.keyHash P (Str.ofString "__qualname__"), key := Value.str (Str.ofString "__qualname__") 418, val := Value.str (Str.ofString "_netrclex") 417 }, { hash := PyData.keyHash P (Str.ofString "__firstlineno__"), key := Value.str (Str.ofString "__firstlineno__") 420, val := Value.int 60 419 }, { hash := PyData.keyHash P (Str.ofString "__init__"), key := Value.str (Str.ofString "__init__") 428, val := Value.ref 52 }, { hash := PyData.keyHash P (Str.ofString "_read_char"), key := Value.str (Str.ofString "_read_char") 436, val := Value.ref 59 }, { hash := PyData.keyHash P (Str.ofString "get_token"), key := Value.str (Str.ofString "get_token") 446, val := Value.ref 66 }, { hash := PyData.keyHash P (Str.ofString "push_token"), key := Value.str (Str.ofString "push_token") 454, val := Value.ref 73 }, { hash := PyData.keyHash P (Str.ofString "__static_attributes__"), key := Value.str (Str.ofString "__static_attributes__") 459, val := Value.ref 74 }] 8 } : Obj)
noncomputable def n_42 (P : Params) : Obj := ({ cls := Value.type "tuple", data := Data.seq #[] } : Obj)
noncomputable def n_43 (P : Params) : Obj := ({ cls := Value.none, data := Data.fields #[Value.int 62 0, Value.int 4 0, Value.ref 51, Value.int 68 0, Value.int 4 0, Value.ref 58, Value.int 74 0, Value.int 4 0, Value.ref 65, Value.int 101 0, Value.int 4 0, Value.ref 72] } : Obj)
noncomputable def n_44 (P : Params) : Obj := ({ cls := Value.type "code", data := Data.fields #[Value.str (Str.ofString "_netrclex") 411, Value.str (Str.ofString "_netrclex") 412, Value.str (Str.ofString "/claim/cut.py") 413, Value.int 60 0, Value.int 0 0, Value.int 0 0, Value.int 0 0, Value.int 0 0, Value.ref 42, Value.bool false, Value.int 181 0, Value.ref 43, Value.none, Value.none, Value.none, Value.none, Value.int 414 0, Value.int 60 0, Value.str (Str.ofString "/claim/cut.py") 415] } : Obj)
noncomputable def n_45 (P : Params) : Obj := ({ cls := Value.type "frame", slots := #[some (Value.ref 44), some (Value.ref 3), some (Value.ref 41), none, some (Value.str (Str.ofString "cpy313.netrc") 407), none, some (Value.ref 0)] } : Obj)
noncomputable def n_46 (P : Params) : Obj := ({ cls := Value.type "tuple", data := Data.seq #[] } : Obj)
noncomputable def n_47 (P : Params) : Obj := ({ cls := Value.none, data := Data.fields #[] } : Obj)
noncomputable def n_48 (P : Params) : Obj := ({ cls := Value.type "tuple", data := Data.seq #[Value.str (Str.ofString "self") 424, Value.str (Str.ofString "fp") 425] } : Obj)
noncomputable def n_49 (P : Params) : Obj := ({ cls := Value.type "tuple", data := Data.seq #[] } : Obj)
noncomputable def n_50 (P : Params) : Obj := ({ cls := Value.none, data := Data.func { name := Str.ofString "__init__", qualname := Str.ofString "_netrclex.__init__", params := argsOf (metAt 0), body := FuncBody.stmts (bodyOf (metAt 0)), scope := scopeOf (metAt 0), globals := 0, closure := [], defaults := Value.none, kwdefaults := Value.none } } : Obj)
noncomputable def n_51 (P : Params) : Obj := ({ cls := Value.type "code", data := Data.fields #[Value.str (Str.ofString "__init__") 421, Value.str (Str.ofString "_netrclex.__init__") 422, Value.str (Str.ofString "/claim/cut.py") 423, Value.int 62 0, Value.int 2 0, Value.int 0 0, Value.int 0 0, Value.int 3 0, Value.ref 46, Value.bool true, Value.int 181 0, Value.ref 47, Value.none, Value.ref 48, Value.ref 49, Value.ref 50, Value.int 426 0, Value.int 62 0, Value.str (Str.ofString "/claim/cut.py") 427] } : Obj)
noncomputable def n_52 (P : Params) : Obj := ({ cls := Value.type "function", data := Data.func { name := Str.ofString "__init__", qualname := Str.ofString "_netrclex.__init__", params := argsOf (metAt 0), body := FuncBody.stmts (bodyOf (metAt 0)), scope := scopeOf (metAt 0), globals := 3, closure := [], defaults := Value.none, kwdefaults := Value.none, pyModule := Value.str (Str.ofString "cpy313.netrc") 407, code := Value.ref 51 } } : Obj)
noncomputable def n_53 (P : Params) : Obj := ({ cls := Value.type "tuple", data := Data.seq #[] } : Obj)
noncomputable def n_54 (P : Params) : Obj := ({ cls := Value.none, data := Data.fields #[] } : Obj)
noncomputable def n_55 (P : Params) : Obj := ({ cls := Value.type "tuple", data := Data.seq #[Value.str (Str.ofString "self") 432, Value.str (Str.ofString "ch") 433] } : Obj)
noncomputable def n_56 (P : Params) : Obj := ({ cls := Value.type "tuple", data := Data.seq #[] } : Obj)
noncomputable def n_57 (P : Params) : Obj := ({ cls := Value.none, data := Data.func { name := Str.ofString "_read_char", qualname := Str.ofString "_netrclex._read_char", params := argsOf (metAt 1), body := FuncBody.stmts (bodyOf (metAt 1)), scope := scopeOf (metAt 1), globals := 0, closure := [], defaults := Value.none, kwdefaults := Value.none } } : Obj)
noncomputable def n_58 (P : Params) : Obj := ({ cls := Value.type "code", data := Data.fields #[Value.str (Str.ofString "_read_char") 429, Value.str (Str.ofString "_netrclex._read_char") 430, Value.str (Str.ofString "/claim/cut.py") 431, Value.int 68 0, Value.int 1 0, Value.int 0 0, Value.int 0 0, Value.int 3 0, Value.ref 53, Value.bool true, Value.int 181 0, Value.ref 54, Value.none, Value.ref 55, Value.ref 56, Value.ref 57, Value.int 434 0, Value.int 68 0, Value.str (Str.ofString "/claim/cut.py") 435] } : Obj)
noncomputable def n_59 (P : Params) : Obj := ({ cls := Value.type "function", data := Data.func { name := Str.ofString "_read_char", qualname := Str.ofString "_netrclex._read_char", params := argsOf (metAt 1), body := FuncBody.stmts (bodyOf (metAt 1)), scope := scopeOf (metAt 1), globals := 3, closure := [], defaults := Value.none, kwdefaults := Value.none, pyModule := Value.str (Str.ofString "cpy313.netrc") 407, code := Value.ref 58 } } : Obj)
noncomputable def n_60 (P : Params) : Obj := ({ cls := Value.type "tuple", data := Data.seq #[] } : Obj)
noncomputable def n_61 (P : Params) : Obj := ({ cls := Value.none, data := Data.fields #[] } : Obj)
noncomputable def n_62 (P : Params) : Obj := ({ cls := Value.type "tuple", data := Data.seq #[Value.str (Str.ofString "self") 440, Value.str (Str.ofString "token") 441, Value.str (Str.ofString "fiter") 442, Value.str (Str.ofString "ch") 443] } : Obj)
noncomputable def n_63 (P : Params) : Obj := ({ cls := Value.type "tuple", data := Data.seq #[] } : Obj)
noncomputable def n_64 (P : Params) : Obj := ({ cls := Value.none, data := Data.func { name := Str.ofString "get_token", qualname := Str.ofString "_netrclex.get_token", params := argsOf (metAt 2), body := FuncBody.stmts (bodyOf (metAt 2)), scope := scopeOf (metAt 2), globals := 0, closure := [], defaults := Value.none, kwdefaults := Value.none } } : Obj)
noncomputable def n_65 (P : Params) : Obj := ({ cls := Value.type "code", data := Data.fields #[Value.str (Str.ofString "get_token") 437, Value.str (Str.ofString "_netrclex.get_token") 438, Value.str (Str.ofString "/claim/cut.py") 439, Value.int 74 0, Value.int 1 0, Value.int 0 0, Value.int 0 0, Value.int 3 0, Value.ref 60, Value.bool true, Value.int 181 0, Value.ref 61, Value.none, Value.ref 62, Value.ref 63, Value.ref 64, Value.int 444 0, Value.int 74 0, Value.str (Str.ofString "/claim/cut.py") 445] } : Obj)
noncomputable def n_66 (P : Params) : Obj := ({ cls := Value.type "function", data := Data.func { name := Str.ofString "get_token", qualname := Str.ofString "_netrclex.get_token", params := argsOf (metAt 2), body := FuncBody.stmts (bodyOf (metAt 2)), scope := scopeOf (metAt 2), globals := 3, closure := [], defaults := Value.none, kwdefaults := Value.none, pyModule := Value.str (Str.ofString "cpy313.netrc") 407, code := Value.ref 65 } } : Obj)
noncomputable def n_67 (P : Params) : Obj := ({ cls := Value.type "tuple", data := Data.seq #[] } : Obj)
noncomputable def n_68 (P : Params) : Obj := ({ cls := Value.none, data := Data.fields #[] } : Obj)
noncomputable def n_69 (P : Params) : Obj := ({ cls := Value.type "tuple", data := Data.seq #[Value.str (Str.ofString "self") 450, Value.str (Str.ofString "token") 451] } : Obj)
noncomputable def n_70 (P : Params) : Obj := ({ cls := Value.type "tuple", data := Data.seq #[] } : Obj)
noncomputable def n_71 (P : Params) : Obj := ({ cls := Value.none, data := Data.func { name := Str.ofString "push_token", qualname := Str.ofString "_netrclex.push_token", params := argsOf (metAt 3), body := FuncBody.stmts (bodyOf (metAt 3)), scope := scopeOf (metAt 3), globals := 0, closure := [], defaults := Value.none, kwdefaults := Value.none } } : Obj)
noncomputable def n_72 (P : Params) : Obj := ({ cls := Value.type "code", data := Data.fields #[Value.str (Str.ofString "push_token") 447, Value.str (Str.ofString "_netrclex.push_token") 448, Value.str (Str.ofString "/claim/cut.py") 449, Value.int 101 0, Value.int 2 0, Value.int 0 0, Value.int 0 0, Value.int 3 0, Value.ref 67, Value.bool true, Value.int 181 0, Value.ref 68, Value.none, Value.ref 69, Value.ref 70, Value.ref 71, Value.int 452 0, Value.int 101 0, Value.str (Str.ofString "/claim/cut.py") 453] } : Obj)
noncomputable def n_73 (P : Params) : Obj := ({ cls := Value.type "function", data := Data.func { name := Str.ofString "push_token", qualname := Str.ofString "_netrclex.push_token", params := argsOf (metAt 3), body := FuncBody.stmts (bodyOf (metAt 3)), scope := scopeOf (metAt 3), globals := 3, closure := [], defaults := Value.none, kwdefaults := Value.none, pyModule := Value.str (Str.ofString "cpy313.netrc") 407, code := Value.ref 72 } } : Obj)
noncomputable def n_74 (P : Params) : Obj := ({ cls := Value.type "tuple", data := Data.seq #[Value.str (Str.ofString "instream") 455, Value.str (Str.ofString "lineno") 456, Value.str (Str.ofString "pushback") 457, Value.str (Str.ofString "whitespace") 458] } : Obj)
noncomputable def n_75 (P : Params) : Obj := ({ cls := Value.type "dict", data := Data.dict #[{ hash := PyData.keyHash P (Str.ofString "__module__"), key := Value.str (Str.ofString "__module__") 416, val := Value.str (Str.ofString "cpy313.netrc") 407 }, { hash := PyData.keyHash P (Str.ofString "__firstlineno__"), key := Value.str (Str.ofString "__firstlineno__") 420, val := Value.int 60 419 }, { hash := PyData.keyHash P (Str.ofString "__init__"), key := Value.str (Str.ofString "__init__") 428, val := Value.ref 52 }, { hash := PyData.keyHash P (Str.ofString "_read_char"), key := Value.str (Str.ofString "_read_char") 436, val := Value.ref 59 }, { hash := PyData.keyHash P (Str.ofString "get_token"), key := Value.str (Str.ofString "get_token") 446, val := Value.ref 66 }, { hash := PyData.keyHash P (Str.ofString "push_token"), key := Value.str (Str.ofString "push_token") 454, val := Value.ref 73 }, { hash := PyData.keyHash P (Str.ofString "__static_attributes__"), key := Value.str (Str.ofString "__static_attributes__") 459, val := Value.ref 74 }, { hash := PyData.keyHash P (Str.ofString "__dict__"), key := Value.str (Str.ofString "__dict__") 461, val := Value.ref 77 }, { hash := PyData.keyHash P (Str.ofString "__weakref__"), key := Value.str (Str.ofString "__weakref__") 463, val := Value.ref 78 }, { hash := PyData.keyHash P (Str.ofString "__doc__"), key := Value.str (Str.ofString "__doc__") 464, val := Value.none }] 4 } : Obj)
noncomputable def n_76 (P : Params) : Obj := ({ cls := Value.type "type", data := Data.cls { name := Str.ofString "_netrclex", bases := [Value.type "object"], mro := [Value.ref 76, Value.type "object"], ns := 75, qualname := Str.ofString "_netrclex" }, slots := #[none, none, some (Value.str (Str.ofString "_netrclex") 409), some (Value.str (Str.ofString "_netrclex") 417), some (Value.builtin "object.__new__"), some (Value.bool true)] } : Obj)
noncomputable def n_77 (P : Params) : Obj := ({ cls := Value.type "getset_descriptor", data := Data.fields #[Value.str (Str.ofString "__dict__") 460, Value.ref 76, Value.builtin "function.__dict__", Value.builtin "function.__dict__#set"] } : Obj)
noncomputable def n_78 (P : Params) : Obj := ({ cls := Value.type "getset_descriptor", data := Data.fields #[Value.str (Str.ofString "__weakref__") 462, Value.ref 76, Value.builtin "ExceptionGroup.__weakref__", Value.none] } : Obj)
noncomputable def n_79 (P : Params) : Obj := ({ cls := Value.type "super", data := Data.fields #[Value.ref 76, Value.ref 76, Value.ref 76] } : Obj)
noncomputable def n_80 (P : Params) : Obj := ({ cls := Value.type "builtin_function_or_method", data := Data.fields #[Value.builtin "object.__init_subclass__", Value.ref 76] } : Obj)
noncomputable def m_12 (P : Params) : Obj := ({ cls := Value.none, data := Data.fields #[] } : Obj)
noncomputable def treeB0 (P : Params) : BT := (.node (PySem.W.boot_o_0 P) (.node (PySem.W.boot_o_1 P) (.node (PySem.W.boot_o_3 P) (.node (PySem.W.boot_o_7 P) .nil .nil) (.node (n_11 P) .nil .nil)) (.node (PySem.W.boot_o_5 P) (.node (PySem.W.boot_o_9 P) .nil .nil) (.node (n_13 P) .nil .nil))) (.node (PySem.W.boot_o_2 P) (.node (PySem.W.boot_o_4 P) (.node (PySem.W.boot_o_8 P) .nil .nil) (.node (m_12 P) .nil .nil)) (.node (PySem.W.boot_o_6 P) (.node (PySem.W.boot_o_10 P) .nil .nil) (.node (n_14 P) .nil .nil))))
noncomputable def treeK (P : Params) : BT := (.node (PySem.W.boot_o_0 P) (.node (PySem.W.boot_o_1 P) (.node (n_3 P) (.node (PySem.W.boot_o_7 P) (.node (n_15 P) (.node (n_31 P) (.node (n_63 P) .nil .nil) .nil) (.node (n_47 P) (.node (n_79 P) .nil .nil) .nil)) (.node (n_23 P) (.node (n_39 P) (.node (n_71 P) .nil .nil) .nil) (.node (n_55 P) .nil .nil))) (.node (n_11 P) (.node (n_19 P) (.node (n_35 P) (.node (n_67 P) .nil .nil) .nil) (.node (n_51 P) .nil .nil)) (.node (n_27 P) (.node (n_43 P) (.node (n_75 P) .nil .nil) .nil) (.node (n_59 P) .nil .nil)))) (.node (PySem.W.boot_o_5 P) (.node (PySem.W.boot_o_9 P) (.node (n_17 P) (.node (n_33 P) (.node (n_65 P) .nil .nil) .nil) (.node (n_49 P) .nil .nil)) (.node (n_25 P) (.node (n_41 P) (.node (n_73 P) .nil .nil) .nil) (.node (n_57 P) .nil .nil))) (.node (n_13 P) (.node (n_21 P) (.node (n_37 P) (.node (n_69 P) .nil .nil) .nil) (.node (n_53 P) .nil .nil)) (.node (n_29 P) (.node (n_45 P) (.node (n_77 P) .nil .nil) .nil) (.node (n_61 P) .nil .nil))))) (.node (PySem.W.boot_o_2 P) (.node (PySem.W.boot_o_4 P) (.node (PySem.W.boot_o_8 P) (.node (n_16 P) (.node (n_32 P) (.node (n_64 P) .nil .nil) .nil) (.node (n_48 P) (.node (n_80 P) .nil .nil) .nil)) (.node (n_24 P) (.node (n_40 P) (.node (n_72 P) .nil .nil) .nil) (.node (n_56 P) .nil .nil))) (.node (n_12 P) (.node (n_20 P) (.node (n_36 P) (.node (n_68 P) .nil .nil) .nil) (.node (n_52 P) .nil .nil)) (.node (n_28 P) (.node (n_44 P) (.node (n_76 P) .nil .nil) .nil) (.node (n_60 P) .nil .nil)))) (.node (PySem.W.boot_o_6 P) (.node (PySem.W.boot_o_10 P) (.node (n_18 P) (.node (n_34 P) (.node (n_66 P) .nil .nil) .nil) (.node (n_50 P) .nil .nil)) (.node (n_26 P) (.node (n_42 P) (.node (n_74 P) .nil .nil) .nil) (.node (n_58 P) .nil .nil))) (.node (n_14 P) (.node (n_22 P) (.node (n_38 P) (.node (n_70 P) .nil .nil) .nil) (.node (n_54 P) .nil .nil)) (.node (n_30 P) (.node (n_46 P) (.node (n_78 P) .nil .nil) .nil) (.node (n_62 P) .nil .nil))))))
noncomputable def pre.env_1 : Env := { scope := PySem.Challenge.pw_sr0077_01.main.scope, locals := mainNs, globals := mainNs, cells := [], code := Value.ref 13, frame := some 14 }
noncomputable def sts (i n : Nat) : List Stmt := (PySem.Challenge.pw_sr0077_01.main.body.drop i).take n
noncomputable abbrev tfr : Frame := topFrame { line := 0, col := 0, endLine := 0, endCol := 0 }
noncomputable abbrev posK : Pos := { line := 60, col := 0, endLine := 102, endCol := 35 }
noncomputable def s4 (w : World) (os : OsState) : SharedT := { tree := treeB0 w.params, n := 15, life := { }, gens := { toList := [] }, drawn := { }, toks := 187, os := os }
noncomputable def sK (w : World) (os : OsState) : SharedT := { tree := treeK w.params, n := 81, life := { }, gens := { toList := [] }, drawn := { }, toks := 467, os := os }
noncomputable def wg (b : Bool) (w : World) : World := w.withFollow "special-get-raises" b
theorem pieceK_false (w : World) (os : OsState) (p : Program) (b : List Stmt) : segRunT treeTable p (wg false w) 11 (some (.ref 6)) 1 1857 (s4 (wg false w) os) (piecesOf (sts 0 57) pre.env_1 (Code.body b pre.env_1) { line := 0, col := 0, endLine := 0, endCol := 0 } [tfr]) =
    some (.next, sK (wg false w) os, Code.body b pre.env_1, posK) := by
  rw [PySem.W.Fast.te10110043849684766642, PySem.W.Fast.te14364793385576792824]
  kernel_rfl
theorem pieceK_true (w : World) (os : OsState) (p : Program) (b : List Stmt) : segRunT treeTable p (wg true w) 11 (some (.ref 6)) 1 1857 (s4 (wg true w) os) (piecesOf (sts 0 57) pre.env_1 (Code.body b pre.env_1) { line := 0, col := 0, endLine := 0, endCol := 0 } [tfr]) =
    some (.next, sK (wg true w) os, Code.body b pre.env_1, posK) := by
  rw [PySem.W.Fast.te10110043849684766642, PySem.W.Fast.te14364793385576792824]
  kernel_rfl
theorem pieceK (w : World) (os : OsState) (p : Program) (b : List Stmt) : segRunT treeTable p w 11 (some (.ref 6)) 1 1857 (s4 w os) (piecesOf (sts 0 57) pre.env_1 (Code.body b pre.env_1) { line := 0, col := 0, endLine := 0, endCol := 0 } [tfr]) =
    some (.next, sK w os, Code.body b pre.env_1, posK) := by
  have h : ∀ c : Bool, segRunT treeTable p (wg c w) 11 (some (.ref 6)) 1 1857 (s4 (wg c w) os) (piecesOf (sts 0 57) pre.env_1 (Code.body b pre.env_1) { line := 0, col := 0, endLine := 0, endCol := 0 } [tfr]) =
      some (.next, sK (wg c w) os, Code.body b pre.env_1, posK) := fun c => by
    cases c
    · exact pieceK_false w os p b
    · exact pieceK_true w os p b
  have h1 := h (w.params.followText "special-get-raises")
  have e : wg (w.params.followText "special-get-raises") w = w := by unfold wg; rw [World.withFollow_self]
  rw [e] at h1
  exact h1
end Mine
end PartH1

section PartH10
open PySem PySem.W PySem.Calls PyProof.Rows
set_option maxRecDepth 100000
set_option maxHeartbeats 0
set_option linter.unusedVariables false
namespace Mine
noncomputable def a_81 (P : Params) : Obj := ({ cls := Value.type "list", data := Data.seq #[Value.int 173 469, Value.int 847 470, Value.int 6150 471, Value.int 6155 472, Value.int 6156 473, Value.int 6157 474, Value.int 8203 475, Value.int 8204 476, Value.int 8205 477, Value.int 8288 478, Value.int 65279 479] } : Obj)
noncomputable def a_82 (P : Params) : Obj := ({ cls := Value.type "range", data := Data.fields #[Value.int 65024 480, Value.int 65040 481, Value.int 1 482] } : Obj)
noncomputable def a_83 (P : Params) : Obj := ({ cls := Value.type "list", data := Data.seq #[Value.int 65024 485, Value.int 65025 486, Value.int 65026 487, Value.int 65027 488, Value.int 65028 489, Value.int 65029 490, Value.int 65030 491, Value.int 65031 492, Value.int 65032 493, Value.int 65033 494, Value.int 65034 495, Value.int 65035 496, Value.int 65036 497, Value.int 65037 498, Value.int 65038 499, Value.int 65039 500] 18 } : Obj)
noncomputable def a_84 (P : Params) : Obj := ({ cls := Value.type "range_iterator", data := Data.fields #[Value.int 65040 0, Value.int 0 0, Value.int 1 0] } : Obj)
noncomputable def a_85 (P : Params) : Obj := ({ cls := Value.type "tuple", data := Data.seq #[] } : Obj)
noncomputable def a_86 (P : Params) : Obj := ({ cls := Value.type "StopIteration", data := Data.fields #[Value.ref 85, Value.none, Value.none, Value.none, Value.bool false, Value.none] } : Obj)
noncomputable def a_87 (P : Params) : Obj := ({ cls := Value.type "list", data := Data.seq #[Value.int 173 469, Value.int 847 470, Value.int 6150 471, Value.int 6155 472, Value.int 6156 473, Value.int 6157 474, Value.int 8203 475, Value.int 8204 476, Value.int 8205 477, Value.int 8288 478, Value.int 65279 479, Value.int 65024 485, Value.int 65025 486, Value.int 65026 487, Value.int 65027 488, Value.int 65028 489, Value.int 65029 490, Value.int 65030 491, Value.int 65031 492, Value.int 65032 493, Value.int 65033 494, Value.int 65034 495, Value.int 65035 496, Value.int 65036 497, Value.int 65037 498, Value.int 65038 499, Value.int 65039 500] } : Obj)
noncomputable def a_88 (led : Bool) (P : Params) : Obj := ({ cls := Value.type "set", data := Data.set #[(65024, Value.int 65024 485), (65025, Value.int 65025 486), (65026, Value.int 65026 487), (65027, Value.int 65027 488), (65028, Value.int 65028 489), (65029, Value.int 65029 490), (6150, Value.int 6150 471), (65030, Value.int 65030 491), (65031, Value.int 65031 492), (65032, Value.int 65032 493), (65033, Value.int 65033 494), (6155, Value.int 6155 472), (6156, Value.int 6156 473), (6157, Value.int 6157 474), (8203, Value.int 8203 475), (8204, Value.int 8204 476), (8205, Value.int 8205 477), (65034, Value.int 65034 495), (65035, Value.int 65035 496), (65036, Value.int 65036 497), (65037, Value.int 65037 498), (65038, Value.int 65038 499), (65039, Value.int 65039 500), (173, Value.int 173 469), (847, Value.int 847 470), (8288, Value.int 8288 478), (65279, Value.int 65279 479)] 29 { mask := 127, place := #[0, 1, 2, 3, 4, 5, 6, 7, 8, 9, 10, 11, 12, 13, 14, 15, 16, 17, 18, 19, 20, 21, 22, 45, 79, 96, 127], dummies := #[], finger := 0, led := led, moves := 2, plain := true } } : Obj)
noncomputable def a_89 (P : Params) : Obj := ({ cls := Value.type "list_iterator", data := Data.fields #[Value.none, Value.int 27 0] } : Obj)
noncomputable def a_90 (P : Params) : Obj := ({ cls := Value.type "tuple", data := Data.seq #[] } : Obj)
noncomputable def a_91 (P : Params) : Obj := ({ cls := Value.type "StopIteration", data := Data.fields #[Value.ref 90, Value.none, Value.none, Value.none, Value.bool false, Value.none] } : Obj)
noncomputable def a_92 (P : Params) : Obj := ({ cls := Value.type "tuple", data := Data.seq #[] } : Obj)
noncomputable def a_93 (P : Params) : Obj := ({ cls := Value.none, data := Data.fields #[] } : Obj)
noncomputable def a_94 (P : Params) : Obj := ({ cls := Value.type "tuple", data := Data.seq #[Value.str (Str.ofString "code") 532] } : Obj)
noncomputable def a_95 (P : Params) : Obj := ({ cls := Value.type "tuple", data := Data.seq #[] } : Obj)
noncomputable def a_96 (P : Params) : Obj := ({ cls := Value.none, data := Data.func { name := Str.ofString "in_table_b1", qualname := Str.ofString "in_table_b1", params := argsOf (stmtAt 59), body := FuncBody.stmts (bodyOf (stmtAt 59)), scope := scopeOf (stmtAt 59), globals := 0, closure := [], defaults := Value.none, kwdefaults := Value.none } } : Obj)
noncomputable def a_97 (P : Params) : Obj := ({ cls := Value.type "code", data := Data.fields #[Value.str (Str.ofString "in_table_b1") 529, Value.str (Str.ofString "in_table_b1") 530, Value.str (Str.ofString "/claim/cut.py") 531, Value.int 105 0, Value.int 1 0, Value.int 0 0, Value.int 0 0, Value.int 3 0, Value.ref 92, Value.bool true, Value.int 181 0, Value.ref 93, Value.none, Value.ref 94, Value.ref 95, Value.ref 96, Value.int 533 0, Value.int 105 0, Value.str (Str.ofString "/claim/cut.py") 534] } : Obj)
noncomputable def a_98 (P : Params) : Obj := ({ cls := Value.type "function", data := Data.func { name := Str.ofString "in_table_b1", qualname := Str.ofString "in_table_b1", params := argsOf (stmtAt 59), body := FuncBody.stmts (bodyOf (stmtAt 59)), scope := scopeOf (stmtAt 59), globals := 3, closure := [], defaults := Value.none, kwdefaults := Value.none, pyModule := Value.str (Str.ofString "cpy313.stringprep") 467, code := Value.ref 97 } } : Obj)
noncomputable def a_3 (P : Params) : Obj := ({ cls := Value.type "dict", data := Data.dict #[{ hash := PyData.keyHash P (Str.ofString "__name__"), key := Value.str (Str.ofString "__name__") 165, val := Value.str (Str.ofString "cpy313.stringprep") 467 }, { hash := PyData.keyHash P (Str.ofString "__doc__"), key := Value.str (Str.ofString "__doc__") 166, val := Value.none }, { hash := PyData.keyHash P (Str.ofString "__package__"), key := Value.str (Str.ofString "__package__") 167, val := Value.none }, { hash := PyData.keyHash P (Str.ofString "__loader__"), key := Value.str (Str.ofString "__loader__") 168, val := Value.builtin "__main__.__loader__#opaque" }, { hash := PyData.keyHash P (Str.ofString "__spec__"), key := Value.str (Str.ofString "__spec__") 169, val := Value.none }, { hash := PyData.keyHash P (Str.ofString "__annotations__"), key := Value.str (Str.ofString "__annotations__") 170, val := Value.ref 6 }, { hash := PyData.keyHash P (Str.ofString "__builtins__"), key := Value.str (Str.ofString "__builtins__") 171, val := Value.ref 4 }, { hash := PyData.keyHash P (Str.ofString "__file__"), key := Value.str (Str.ofString "__file__") 173, val := Value.str (Str.ofString "/claim/cut.py") 172 }, { hash := PyData.keyHash P (Str.ofString "__cached__"), key := Value.str (Str.ofString "__cached__") 174, val := Value.none }, { hash := PyData.keyHash P (Str.ofString "ENDMARKER"), key := Value.str (Str.ofString "ENDMARKER") 190, val := Value.int 0 189 }, { hash := PyData.keyHash P (Str.ofString "LPAR"), key := Value.str (Str.ofString "LPAR") 192, val := Value.int 7 191 }, { hash := PyData.keyHash P (Str.ofString "RPAR"), key := Value.str (Str.ofString "RPAR") 194, val := Value.int 8 193 }, { hash := PyData.keyHash P (Str.ofString "LSQB"), key := Value.str (Str.ofString "LSQB") 196, val := Value.int 9 195 }, { hash := PyData.keyHash P (Str.ofString "RSQB"), key := Value.str (Str.ofString "RSQB") 198, val := Value.int 10 197 }, { hash := PyData.keyHash P (Str.ofString "COLON"), key := Value.str (Str.ofString "COLON") 200, val := Value.int 11 199 }, { hash := PyData.keyHash P (Str.ofString "COMMA"), key := Value.str (Str.ofString "COMMA") 202, val := Value.int 12 201 }, { hash := PyData.keyHash P (Str.ofString "SEMI"), key := Value.str (Str.ofString "SEMI") 204, val := Value.int 13 203 }, { hash := PyData.keyHash P (Str.ofString "PLUS"), key := Value.str (Str.ofString "PLUS") 206, val := Value.int 14 205 }, { hash := PyData.keyHash P (Str.ofString "MINUS"), key := Value.str (Str.ofString "MINUS") 208, val := Value.int 15 207 }, { hash := PyData.keyHash P (Str.ofString "STAR"), key := Value.str (Str.ofString "STAR") 210, val := Value.int 16 209 }, { hash := PyData.keyHash P (Str.ofString "SLASH"), key := Value.str (Str.ofString "SLASH") 212, val := Value.int 17 211 }, { hash := PyData.keyHash P (Str.ofString "VBAR"), key := Value.str (Str.ofString "VBAR") 214, val := Value.int 18 213 }, { hash := PyData.keyHash P (Str.ofString "AMPER"), key := Value.str (Str.ofString "AMPER") 216, val := Value.int 19 215 }, { hash := PyData.keyHash P (Str.ofString "LESS"), key := Value.str (Str.ofString "LESS") 218, val := Value.int 20 217 }, { hash := PyData.keyHash P (Str.ofString "GREATER"), key := Value.str (Str.ofString "GREATER") 220, val := Value.int 21 219 }, { hash := PyData.keyHash P (Str.ofString "EQUAL"), key := Value.str (Str.ofString "EQUAL") 222, val := Value.int 22 221 }, { hash := PyData.keyHash P (Str.ofString "DOT"), key := Value.str (Str.ofString "DOT") 224, val := Value.int 23 223 }, { hash := PyData.keyHash P (Str.ofString "PERCENT"), key := Value.str (Str.ofString "PERCENT") 226, val := Value.int 24 225 }, { hash := PyData.keyHash P (Str.ofString "LBRACE"), key := Value.str (Str.ofString "LBRACE") 228, val := Value.int 25 227 }, { hash := PyData.keyHash P (Str.ofString "RBRACE"), key := Value.str (Str.ofString "RBRACE") 230, val := Value.int 26 229 }, { hash := PyData.keyHash P (Str.ofString "EQEQUAL"), key := Value.str (Str.ofString "EQEQUAL") 232, val := Value.int 27 231 }, { hash := PyData.keyHash P (Str.ofString "NOTEQUAL"), key := Value.str (Str.ofString "NOTEQUAL") 234, val := Value.int 28 233 }, { hash := PyData.keyHash P (Str.ofString "LESSEQUAL"), key := Value.str (Str.ofString "LESSEQUAL") 236, val := Value.int 29 235 }, { hash := PyData.keyHash P (Str.ofString "GREATEREQUAL"), key := Value.str (Str.ofString "GREATEREQUAL") 238, val := Value.int 30 237 }, { hash := PyData.keyHash P (Str.ofString "TILDE"), key := Value.str (Str.ofString "TILDE") 240, val := Value.int 31 239 }, { hash := PyData.keyHash P (Str.ofString "CIRCUMFLEX"), key := Value.str (Str.ofString "CIRCUMFLEX") 242, val := Value.int 32 241 }, { hash := PyData.keyHash P (Str.ofString "LEFTSHIFT"), key := Value.str (Str.ofString "LEFTSHIFT") 244, val := Value.int 33 243 }, { hash := PyData.keyHash P (Str.ofString "RIGHTSHIFT"), key := Value.str (Str.ofString "RIGHTSHIFT") 246, val := Value.int 34 245 }, { hash := PyData.keyHash P (Str.ofString "DOUBLESTAR"), key := Value.str (Str.ofString "DOUBLESTAR") 248, val := Value.int 35 247 }, { hash := PyData.keyHash P (Str.ofString "PLUSEQUAL"), key := Value.str (Str.ofString "PLUSEQUAL") 250, val := Value.int 36 249 }, { hash := PyData.keyHash P (Str.ofString "MINEQUAL"), key := Value.str (Str.ofString "MINEQUAL") 252, val := Value.int 37 251 }, { hash := PyData.keyHash P (Str.ofString "STAREQUAL"), key := Value.str (Str.ofString "STAREQUAL") 254, val := Value.int 38 253 }, { hash := PyData.keyHash P (Str.ofString "SLASHEQUAL"), key := Value.str (Str.ofString "SLASHEQUAL") 256, val := Value.int 39 255 }, { hash := PyData.keyHash P (Str.ofString "PERCENTEQUAL"), key := Value.str (Str.ofString "PERCENTEQUAL") 258, val := Value.int 40 257 }, { hash := PyData.keyHash P (Str.ofString "AMPEREQUAL"), key := Value.str (Str.ofString "AMPEREQUAL") 260, val := Value.int 41 259 }, { hash := PyData.keyHash P (Str.ofString "VBAREQUAL"), key := Value.str (Str.ofString "VBAREQUAL") 262, val := Value.int 42 261 }, { hash := PyData.keyHash P (Str.ofString "CIRCUMFLEXEQUAL"), key := Value.str (Str.ofString "CIRCUMFLEXEQUAL") 264, val := Value.int 43 263 }, { hash := PyData.keyHash P (Str.ofString "LEFTSHIFTEQUAL"), key := Value.str (Str.ofString "LEFTSHIFTEQUAL") 266, val := Value.int 44 265 }, { hash := PyData.keyHash P (Str.ofString "RIGHTSHIFTEQUAL"), key := Value.str (Str.ofString "RIGHTSHIFTEQUAL") 268, val := Value.int 45 267 }, { hash := PyData.keyHash P (Str.ofString "DOUBLESTAREQUAL"), key := Value.str (Str.ofString "DOUBLESTAREQUAL") 270, val := Value.int 46 269 }, { hash := PyData.keyHash P (Str.ofString "DOUBLESLASH"), key := Value.str (Str.ofString "DOUBLESLASH") 272, val := Value.int 47 271 }, { hash := PyData.keyHash P (Str.ofString "DOUBLESLASHEQUAL"), key := Value.str (Str.ofString "DOUBLESLASHEQUAL") 274, val := Value.int 48 273 }, { hash := PyData.keyHash P (Str.ofString "AT"), key := Value.str (Str.ofString "AT") 276, val := Value.int 49 275 }, { hash := PyData.keyHash P (Str.ofString "ATEQUAL"), key := Value.str (Str.ofString "ATEQUAL") 278, val := Value.int 50 277 }, { hash := PyData.keyHash P (Str.ofString "RARROW"), key := Value.str (Str.ofString "RARROW") 280, val := Value.int 51 279 }, { hash := PyData.keyHash P (Str.ofString "ELLIPSIS"), key := Value.str (Str.ofString "ELLIPSIS") 282, val := Value.int 52 281 }, { hash := PyData.keyHash P (Str.ofString "COLONEQUAL"), key := Value.str (Str.ofString "COLONEQUAL") 284, val := Value.int 53 283 }, { hash := PyData.keyHash P (Str.ofString "EXCLAMATION"), key := Value.str (Str.ofString "EXCLAMATION") 286, val := Value.int 54 285 }, { hash := PyData.keyHash P (Str.ofString "NT_OFFSET"), key := Value.str (Str.ofString "NT_OFFSET") 288, val := Value.int 256 287 }, { hash := PyData.keyHash P (Str.ofString "EXACT_TOKEN_TYPES"), key := Value.str (Str.ofString "EXACT_TOKEN_TYPES") 385, val := Value.ref 15 }, { hash := PyData.keyHash P (Str.ofString "ISTERMINAL"), key := Value.str (Str.ofString "ISTERMINAL") 392, val := Value.ref 24 }, { hash := PyData.keyHash P (Str.ofString "ISNONTERMINAL"), key := Value.str (Str.ofString "ISNONTERMINAL") 399, val := Value.ref 31 }, { hash := PyData.keyHash P (Str.ofString "ISEOF"), key := Value.str (Str.ofString "ISEOF") 406, val := Value.ref 38 }, { hash := PyData.keyHash P (Str.ofString "_netrclex"), key := Value.str (Str.ofString "_netrclex") 466, val := Value.ref 76 }, { hash := PyData.keyHash P (Str.ofString "b1_set"), key := Value.str (Str.ofString "b1_set") 528, val := Value.ref 88 }, { hash := PyData.keyHash P (Str.ofString "in_table_b1"), key := Value.str (Str.ofString "in_table_b1") 535, val := Value.ref 98 }] 66 } : Obj)
noncomputable def a_12 (P : Params) : Obj := ({ cls := Value.none, data := Data.fields #[Value.int 53 0, Value.int 0 0, Value.ref 23, Value.int 55 0, Value.int 0 0, Value.ref 30, Value.int 57 0, Value.int 0 0, Value.ref 37, Value.int 60 0, Value.int 0 0, Value.ref 44, Value.int 105 0, Value.int 0 0, Value.ref 97] } : Obj)
noncomputable def a_138 (P : Params) : Obj := ({ cls := Value.type "tuple", data := Data.seq #[] } : Obj)
noncomputable def a_139 (P : Params) : Obj := ({ cls := Value.none, data := Data.fields #[] } : Obj)
noncomputable def a_140 (P : Params) : Obj := ({ cls := Value.type "tuple", data := Data.seq #[Value.str (Str.ofString "code") 2490, Value.str (Str.ofString "r") 2491] } : Obj)
noncomputable def a_141 (P : Params) : Obj := ({ cls := Value.type "tuple", data := Data.seq #[] } : Obj)
noncomputable def a_142 (P : Params) : Obj := ({ cls := Value.none, data := Data.func { name := Str.ofString "map_table_b3", qualname := Str.ofString "map_table_b3", params := argsOf (stmtAt 61), body := FuncBody.stmts (bodyOf (stmtAt 61)), scope := scopeOf (stmtAt 61), globals := 0, closure := [], defaults := Value.none, kwdefaults := Value.none } } : Obj)
noncomputable def a_143 (P : Params) : Obj := ({ cls := Value.type "code", data := Data.fields #[Value.str (Str.ofString "map_table_b3") 2487, Value.str (Str.ofString "map_table_b3") 2488, Value.str (Str.ofString "/claim/cut.py") 2489, Value.int 108 0, Value.int 1 0, Value.int 0 0, Value.int 0 0, Value.int 3 0, Value.ref 138, Value.bool true, Value.int 181 0, Value.ref 139, Value.none, Value.ref 140, Value.ref 141, Value.ref 142, Value.int 2492 0, Value.int 108 0, Value.str (Str.ofString "/claim/cut.py") 2493] } : Obj)
noncomputable def a_144 (P : Params) : Obj := ({ cls := Value.type "function", data := Data.func { name := Str.ofString "map_table_b3", qualname := Str.ofString "map_table_b3", params := argsOf (stmtAt 61), body := FuncBody.stmts (bodyOf (stmtAt 61)), scope := scopeOf (stmtAt 61), globals := 3, closure := [], defaults := Value.none, kwdefaults := Value.none, pyModule := Value.str (Str.ofString "cpy313.stringprep") 467, code := Value.ref 143 } } : Obj)
noncomputable def a_145 (P : Params) : Obj := ({ cls := Value.type "tuple", data := Data.seq #[] } : Obj)
noncomputable def a_146 (P : Params) : Obj := ({ cls := Value.none, data := Data.fields #[] } : Obj)
noncomputable def a_147 (P : Params) : Obj := ({ cls := Value.type "tuple", data := Data.seq #[] } : Obj)
noncomputable def a_148 (P : Params) : Obj := ({ cls := Value.type "tuple", data := Data.seq #[] } : Obj)
noncomputable def a_149 (P : Params) : Obj := ({ cls := Value.none, data := Data.func { name := Str.ofString "_law_operators", qualname := Str.ofString "_law_operators", params := argsOf (stmtAt 63), body := FuncBody.stmts (bodyOf (stmtAt 63)), scope := scopeOf (stmtAt 63), globals := 0, closure := [], defaults := Value.none, kwdefaults := Value.none } } : Obj)
noncomputable def a_150 (P : Params) : Obj := ({ cls := Value.type "code", data := Data.fields #[Value.str (Str.ofString "_law_operators") 2497, Value.str (Str.ofString "_law_operators") 2498, Value.str (Str.ofString "/claim/cut.py") 2499, Value.int 114 0, Value.int 0 0, Value.int 0 0, Value.int 0 0, Value.int 3 0, Value.ref 145, Value.bool true, Value.int 181 0, Value.ref 146, Value.none, Value.ref 147, Value.ref 148, Value.ref 149, Value.int 2500 0, Value.int 114 0, Value.str (Str.ofString "/claim/cut.py") 2501] } : Obj)
noncomputable def a_151 (P : Params) : Obj := ({ cls := Value.type "function", data := Data.func { name := Str.ofString "_law_operators", qualname := Str.ofString "_law_operators", params := argsOf (stmtAt 63), body := FuncBody.stmts (bodyOf (stmtAt 63)), scope := scopeOf (stmtAt 63), globals := 3, closure := [], defaults := Value.none, kwdefaults := Value.none, pyModule := Value.str (Str.ofString "law_sr0077_01") 2495, code := Value.ref 150 } } : Obj)
noncomputable def a_152 (P : Params) : Obj := ({ cls := Value.type "tuple", data := Data.seq #[] } : Obj)
noncomputable def a_153 (P : Params) : Obj := ({ cls := Value.none, data := Data.fields #[] } : Obj)
noncomputable def a_154 (P : Params) : Obj := ({ cls := Value.type "tuple", data := Data.seq #[Value.str (Str.ofString "text") 2506, Value.str (Str.ofString "stream") 2507] } : Obj)
noncomputable def a_155 (P : Params) : Obj := ({ cls := Value.type "tuple", data := Data.seq #[Value.str (Str.ofString "left") 2508] } : Obj)
noncomputable def a_156 (P : Params) : Obj := ({ cls := Value.none, data := Data.func { name := Str.ofString "_law_lexer", qualname := Str.ofString "_law_lexer", params := argsOf (stmtAt 64), body := FuncBody.stmts (bodyOf (stmtAt 64)), scope := scopeOf (stmtAt 64), globals := 0, closure := [], defaults := Value.none, kwdefaults := Value.none } } : Obj)
noncomputable def a_157 (P : Params) : Obj := ({ cls := Value.type "code", data := Data.fields #[Value.str (Str.ofString "_law_lexer") 2503, Value.str (Str.ofString "_law_lexer") 2504, Value.str (Str.ofString "/claim/cut.py") 2505, Value.int 116 0, Value.int 1 0, Value.int 0 0, Value.int 0 0, Value.int 3 0, Value.ref 152, Value.bool true, Value.int 181 0, Value.ref 153, Value.none, Value.ref 154, Value.ref 155, Value.ref 156, Value.int 2509 0, Value.int 116 0, Value.str (Str.ofString "/claim/cut.py") 2510] } : Obj)
noncomputable def a_158 (P : Params) : Obj := ({ cls := Value.type "function", data := Data.func { name := Str.ofString "_law_lexer", qualname := Str.ofString "_law_lexer", params := argsOf (stmtAt 64), body := FuncBody.stmts (bodyOf (stmtAt 64)), scope := scopeOf (stmtAt 64), globals := 3, closure := [], defaults := Value.none, kwdefaults := Value.none, pyModule := Value.str (Str.ofString "law_sr0077_01") 2495, code := Value.ref 157 } } : Obj)
noncomputable def a_159 (P : Params) : Obj := ({ cls := Value.type "tuple", data := Data.seq #[] } : Obj)
noncomputable def a_160 (P : Params) : Obj := ({ cls := Value.none, data := Data.fields #[] } : Obj)
noncomputable def a_161 (P : Params) : Obj := ({ cls := Value.type "tuple", data := Data.seq #[Value.str (Str.ofString "words") 2515, Value.str (Str.ofString "figures") 2516, Value.str (Str.ofString "text") 2517, Value.str (Str.ofString "k") 2518, Value.str (Str.ofString "word") 2519, Value.str (Str.ofString "turn") 2520, Value.str (Str.ofString "quoted") 2521, Value.str (Str.ofString "body") 2522, Value.str (Str.ofString "spot") 2523, Value.str (Str.ofString "sign") 2524] } : Obj)
noncomputable def a_162 (P : Params) : Obj := ({ cls := Value.type "tuple", data := Data.seq #[] } : Obj)
noncomputable def a_163 (P : Params) : Obj := ({ cls := Value.none, data := Data.func { name := Str.ofString "_law_text", qualname := Str.ofString "_law_text", params := argsOf (stmtAt 65), body := FuncBody.stmts (bodyOf (stmtAt 65)), scope := scopeOf (stmtAt 65), globals := 0, closure := [], defaults := Value.none, kwdefaults := Value.none } } : Obj)
noncomputable def a_164 (P : Params) : Obj := ({ cls := Value.type "code", data := Data.fields #[Value.str (Str.ofString "_law_text") 2512, Value.str (Str.ofString "_law_text") 2513, Value.str (Str.ofString "/claim/cut.py") 2514, Value.int 123 0, Value.int 2 0, Value.int 0 0, Value.int 0 0, Value.int 3 0, Value.ref 159, Value.bool true, Value.int 181 0, Value.ref 160, Value.none, Value.ref 161, Value.ref 162, Value.ref 163, Value.int 2525 0, Value.int 123 0, Value.str (Str.ofString "/claim/cut.py") 2526] } : Obj)
noncomputable def a_165 (P : Params) : Obj := ({ cls := Value.type "function", data := Data.func { name := Str.ofString "_law_text", qualname := Str.ofString "_law_text", params := argsOf (stmtAt 65), body := FuncBody.stmts (bodyOf (stmtAt 65)), scope := scopeOf (stmtAt 65), globals := 3, closure := [], defaults := Value.none, kwdefaults := Value.none, pyModule := Value.str (Str.ofString "law_sr0077_01") 2495, code := Value.ref 164 } } : Obj)
noncomputable def a_166 (P : Params) : Obj := ({ cls := Value.type "tuple", data := Data.seq #[] } : Obj)
noncomputable def a_167 (P : Params) : Obj := ({ cls := Value.none, data := Data.fields #[] } : Obj)
noncomputable def a_168 (P : Params) : Obj := ({ cls := Value.type "tuple", data := Data.seq #[Value.str (Str.ofString "plain") 2531, Value.str (Str.ofString "form") 2532, Value.str (Str.ofString "start") 2533, Value.str (Str.ofString "unseen") 2534, Value.str (Str.ofString "word") 2535, Value.str (Str.ofString "spot") 2536, Value.str (Str.ofString "sign") 2537, Value.str (Str.ofString "way") 2538, Value.str (Str.ofString "veil") 2539] } : Obj)
noncomputable def a_169 (P : Params) : Obj := ({ cls := Value.type "tuple", data := Data.seq #[] } : Obj)
noncomputable def a_170 (P : Params) : Obj := ({ cls := Value.none, data := Data.func { name := Str.ofString "_law_word", qualname := Str.ofString "_law_word", params := argsOf (stmtAt 66), body := FuncBody.stmts (bodyOf (stmtAt 66)), scope := scopeOf (stmtAt 66), globals := 0, closure := [], defaults := Value.none, kwdefaults := Value.none } } : Obj)
noncomputable def a_171 (P : Params) : Obj := ({ cls := Value.type "code", data := Data.fields #[Value.str (Str.ofString "_law_word") 2528, Value.str (Str.ofString "_law_word") 2529, Value.str (Str.ofString "/claim/cut.py") 2530, Value.int 136 0, Value.int 3 0, Value.int 0 0, Value.int 0 0, Value.int 3 0, Value.ref 166, Value.bool true, Value.int 181 0, Value.ref 167, Value.none, Value.ref 168, Value.ref 169, Value.ref 170, Value.int 2540 0, Value.int 136 0, Value.str (Str.ofString "/claim/cut.py") 2541] } : Obj)
noncomputable def a_172 (P : Params) : Obj := ({ cls := Value.type "function", data := Data.func { name := Str.ofString "_law_word", qualname := Str.ofString "_law_word", params := argsOf (stmtAt 66), body := FuncBody.stmts (bodyOf (stmtAt 66)), scope := scopeOf (stmtAt 66), globals := 3, closure := [], defaults := Value.none, kwdefaults := Value.none, pyModule := Value.str (Str.ofString "law_sr0077_01") 2495, code := Value.ref 171 } } : Obj)
noncomputable def a_173 (P : Params) : Obj := ({ cls := Value.type "tuple", data := Data.seq #[] } : Obj)
noncomputable def a_174 (P : Params) : Obj := ({ cls := Value.none, data := Data.fields #[] } : Obj)
noncomputable def a_175 (P : Params) : Obj := ({ cls := Value.type "tuple", data := Data.seq #[Value.str (Str.ofString "word") 2546, Value.str (Str.ofString "plain") 2547, Value.str (Str.ofString "sign") 2548, Value.str (Str.ofString "held") 2549] } : Obj)
noncomputable def a_176 (P : Params) : Obj := ({ cls := Value.type "tuple", data := Data.seq #[] } : Obj)
noncomputable def a_177 (P : Params) : Obj := ({ cls := Value.none, data := Data.func { name := Str.ofString "_law_plain", qualname := Str.ofString "_law_plain", params := argsOf (stmtAt 67), body := FuncBody.stmts (bodyOf (stmtAt 67)), scope := scopeOf (stmtAt 67), globals := 0, closure := [], defaults := Value.none, kwdefaults := Value.none } } : Obj)
noncomputable def a_178 (P : Params) : Obj := ({ cls := Value.type "code", data := Data.fields #[Value.str (Str.ofString "_law_plain") 2543, Value.str (Str.ofString "_law_plain") 2544, Value.str (Str.ofString "/claim/cut.py") 2545, Value.int 150 0, Value.int 1 0, Value.int 0 0, Value.int 0 0, Value.int 3 0, Value.ref 173, Value.bool true, Value.int 181 0, Value.ref 174, Value.none, Value.ref 175, Value.ref 176, Value.ref 177, Value.int 2550 0, Value.int 150 0, Value.str (Str.ofString "/claim/cut.py") 2551] } : Obj)
noncomputable def a_179 (P : Params) : Obj := ({ cls := Value.type "function", data := Data.func { name := Str.ofString "_law_plain", qualname := Str.ofString "_law_plain", params := argsOf (stmtAt 67), body := FuncBody.stmts (bodyOf (stmtAt 67)), scope := scopeOf (stmtAt 67), globals := 3, closure := [], defaults := Value.none, kwdefaults := Value.none, pyModule := Value.str (Str.ofString "law_sr0077_01") 2495, code := Value.ref 178 } } : Obj)
noncomputable def a_180 (P : Params) : Obj := ({ cls := Value.type "tuple", data := Data.seq #[] } : Obj)
noncomputable def a_181 (P : Params) : Obj := ({ cls := Value.none, data := Data.fields #[] } : Obj)
noncomputable def a_182 (P : Params) : Obj := ({ cls := Value.type "tuple", data := Data.seq #[Value.str (Str.ofString "plain") 2556, Value.str (Str.ofString "names") 2557, Value.str (Str.ofString "sides") 2558, Value.str (Str.ofString "signs") 2559, Value.str (Str.ofString "letter") 2560, Value.str (Str.ofString "number") 2561] } : Obj)
noncomputable def a_183 (P : Params) : Obj := ({ cls := Value.type "tuple", data := Data.seq #[] } : Obj)
noncomputable def a_184 (P : Params) : Obj := ({ cls := Value.none, data := Data.func { name := Str.ofString "_law_clause", qualname := Str.ofString "_law_clause", params := argsOf (stmtAt 68), body := FuncBody.stmts (bodyOf (stmtAt 68)), scope := scopeOf (stmtAt 68), globals := 0, closure := [], defaults := Value.none, kwdefaults := Value.none } } : Obj)
noncomputable def a_185 (P : Params) : Obj := ({ cls := Value.type "code", data := Data.fields #[Value.str (Str.ofString "_law_clause") 2553, Value.str (Str.ofString "_law_clause") 2554, Value.str (Str.ofString "/claim/cut.py") 2555, Value.int 159 0, Value.int 2 0, Value.int 0 0, Value.int 0 0, Value.int 3 0, Value.ref 180, Value.bool true, Value.int 181 0, Value.ref 181, Value.none, Value.ref 182, Value.ref 183, Value.ref 184, Value.int 2562 0, Value.int 159 0, Value.str (Str.ofString "/claim/cut.py") 2563] } : Obj)
noncomputable def a_186 (P : Params) : Obj := ({ cls := Value.type "function", data := Data.func { name := Str.ofString "_law_clause", qualname := Str.ofString "_law_clause", params := argsOf (stmtAt 68), body := FuncBody.stmts (bodyOf (stmtAt 68)), scope := scopeOf (stmtAt 68), globals := 3, closure := [], defaults := Value.none, kwdefaults := Value.none, pyModule := Value.str (Str.ofString "law_sr0077_01") 2495, code := Value.ref 185 } } : Obj)
noncomputable def a_187 (P : Params) : Obj := ({ cls := Value.type "tuple", data := Data.seq #[] } : Obj)
noncomputable def a_188 (P : Params) : Obj := ({ cls := Value.none, data := Data.fields #[] } : Obj)
noncomputable def a_189 (P : Params) : Obj := ({ cls := Value.none, data := Data.func { name := Str.ofString "_law_least", qualname := Str.ofString "_law_least", params := argsOf (stmtAt 69), body := FuncBody.stmts (bodyOf (stmtAt 69)), scope := scopeOf (stmtAt 69), globals := 0, closure := [], defaults := Value.none, kwdefaults := Value.none } } : Obj)
noncomputable def a_190 (P : Params) : Obj := ({ cls := Value.type "code", data := Data.fields #[Value.str (Str.ofString "_law_least") 2565, Value.str (Str.ofString "_law_least") 2566, Value.str (Str.ofString "/claim/cut.py") 2567, Value.int 171 0, Value.int 1 0, Value.int 0 0, Value.int 0 0, Value.int 3 0, Value.ref 187, Value.bool true, Value.int 181 0, Value.ref 188, Value.none, Value.none, Value.none, Value.ref 189, Value.int 2568 0, Value.int 171 0, Value.str (Str.ofString "/claim/cut.py") 2569] } : Obj)
noncomputable def a_191 (P : Params) : Obj := ({ cls := Value.type "function", data := Data.func { name := Str.ofString "_law_least", qualname := Str.ofString "_law_least", params := argsOf (stmtAt 69), body := FuncBody.stmts (bodyOf (stmtAt 69)), scope := scopeOf (stmtAt 69), globals := 3, closure := [], defaults := Value.none, kwdefaults := Value.none, pyModule := Value.str (Str.ofString "law_sr0077_01") 2495, code := Value.ref 190 } } : Obj)
noncomputable def a_192 (P : Params) : Obj := ({ cls := Value.type "tuple", data := Data.seq #[] } : Obj)
noncomputable def a_193 (P : Params) : Obj := ({ cls := Value.none, data := Data.fields #[] } : Obj)
noncomputable def a_194 (P : Params) : Obj := ({ cls := Value.none, data := Data.func { name := Str.ofString "law", qualname := Str.ofString "law", params := argsOf (stmtAt 70), body := FuncBody.stmts (bodyOf (stmtAt 70)), scope := scopeOf (stmtAt 70), globals := 0, closure := [], defaults := Value.none, kwdefaults := Value.none } } : Obj)
noncomputable def a_195 (P : Params) : Obj := ({ cls := Value.type "code", data := Data.fields #[Value.str (Str.ofString "law") 2571, Value.str (Str.ofString "law") 2572, Value.str (Str.ofString "/claim/cut.py") 2573, Value.int 173 0, Value.int 1 0, Value.int 0 0, Value.int 0 0, Value.int 3 0, Value.ref 192, Value.bool true, Value.int 181 0, Value.ref 193, Value.none, Value.none, Value.none, Value.ref 194, Value.int 2574 0, Value.int 173 0, Value.str (Str.ofString "/claim/cut.py") 2575] } : Obj)
noncomputable def a_196 (P : Params) : Obj := ({ cls := Value.type "function", data := Data.func { name := Str.ofString "law", qualname := Str.ofString "law", params := argsOf (stmtAt 70), body := FuncBody.stmts (bodyOf (stmtAt 70)), scope := scopeOf (stmtAt 70), globals := 3, closure := [], defaults := Value.none, kwdefaults := Value.none, pyModule := Value.str (Str.ofString "law_sr0077_01") 2495, code := Value.ref 195 } } : Obj)
noncomputable def c_3 (P : Params) : Obj := ({ cls := Value.type "dict", data := Data.dict #[{ hash := PyData.keyHash P (Str.ofString "__name__"), key := Value.str (Str.ofString "__name__") 165, val := Value.str (Str.ofString "law_sr0077_01") 2495 }, { hash := PyData.keyHash P (Str.ofString "__doc__"), key := Value.str (Str.ofString "__doc__") 166, val := Value.none }, { hash := PyData.keyHash P (Str.ofString "__package__"), key := Value.str (Str.ofString "__package__") 167, val := Value.none }, { hash := PyData.keyHash P (Str.ofString "__loader__"), key := Value.str (Str.ofString "__loader__") 168, val := Value.builtin "__main__.__loader__#opaque" }, { hash := PyData.keyHash P (Str.ofString "__spec__"), key := Value.str (Str.ofString "__spec__") 169, val := Value.none }, { hash := PyData.keyHash P (Str.ofString "__annotations__"), key := Value.str (Str.ofString "__annotations__") 170, val := Value.ref 6 }, { hash := PyData.keyHash P (Str.ofString "__builtins__"), key := Value.str (Str.ofString "__builtins__") 171, val := Value.ref 4 }, { hash := PyData.keyHash P (Str.ofString "__file__"), key := Value.str (Str.ofString "__file__") 173, val := Value.str (Str.ofString "/claim/cut.py") 172 }, { hash := PyData.keyHash P (Str.ofString "__cached__"), key := Value.str (Str.ofString "__cached__") 174, val := Value.none }, { hash := PyData.keyHash P (Str.ofString "ENDMARKER"), key := Value.str (Str.ofString "ENDMARKER") 190, val := Value.int 0 189 }, { hash := PyData.keyHash P (Str.ofString "LPAR"), key := Value.str (Str.ofString "LPAR") 192, val := Value.int 7 191 }, { hash := PyData.keyHash P (Str.ofString "RPAR"), key := Value.str (Str.ofString "RPAR") 194, val := Value.int 8 193 }, { hash := PyData.keyHash P (Str.ofString "LSQB"), key := Value.str (Str.ofString "LSQB") 196, val := Value.int 9 195 }, { hash := PyData.keyHash P (Str.ofString "RSQB"), key := Value.str (Str.ofString "RSQB") 198, val := Value.int 10 197 }, { hash := PyData.keyHash P (Str.ofString "COLON"), key := Value.str (Str.ofString "COLON") 200, val := Value.int 11 199 }, { hash := PyData.keyHash P (Str.ofString "COMMA"), key := Value.str (Str.ofString "COMMA") 202, val := Value.int 12 201 }, { hash := PyData.keyHash P (Str.ofString "SEMI"), key := Value.str (Str.ofString "SEMI") 204, val := Value.int 13 203 }, { hash := PyData.keyHash P (Str.ofString "PLUS"), key := Value.str (Str.ofString "PLUS") 206, val := Value.int 14 205 }, { hash := PyData.keyHash P (Str.ofString "MINUS"), key := Value.str (Str.ofString "MINUS") 208, val := Value.int 15 207 }, { hash := PyData.keyHash P (Str.ofString "STAR"), key := Value.str (Str.ofString "STAR") 210, val := Value.int 16 209 }, { hash := PyData.keyHash P (Str.ofString "SLASH"), key := Value.str (Str.ofString "SLASH") 212, val := Value.int 17 211 }, { hash := PyData.keyHash P (Str.ofString "VBAR"), key := Value.str (Str.ofString "VBAR") 214, val := Value.int 18 213 }, { hash := PyData.keyHash P (Str.ofString "AMPER"), key := Value.str (Str.ofString "AMPER") 216, val := Value.int 19 215 }, { hash := PyData.keyHash P (Str.ofString "LESS"), key := Value.str (Str.ofString "LESS") 218, val := Value.int 20 217 }, { hash := PyData.keyHash P (Str.ofString "GREATER"), key := Value.str (Str.ofString "GREATER") 220, val := Value.int 21 219 }, { hash := PyData.keyHash P (Str.ofString "EQUAL"), key := Value.str (Str.ofString "EQUAL") 222, val := Value.int 22 221 }, { hash := PyData.keyHash P (Str.ofString "DOT"), key := Value.str (Str.ofString "DOT") 224, val := Value.int 23 223 }, { hash := PyData.keyHash P (Str.ofString "PERCENT"), key := Value.str (Str.ofString "PERCENT") 226, val := Value.int 24 225 }, { hash := PyData.keyHash P (Str.ofString "LBRACE"), key := Value.str (Str.ofString "LBRACE") 228, val := Value.int 25 227 }, { hash := PyData.keyHash P (Str.ofString "RBRACE"), key := Value.str (Str.ofString "RBRACE") 230, val := Value.int 26 229 }, { hash := PyData.keyHash P (Str.ofString "EQEQUAL"), key := Value.str (Str.ofString "EQEQUAL") 232, val := Value.int 27 231 }, { hash := PyData.keyHash P (Str.ofString "NOTEQUAL"), key := Value.str (Str.ofString "NOTEQUAL") 234, val := Value.int 28 233 }, { hash := PyData.keyHash P (Str.ofString "LESSEQUAL"), key := Value.str (Str.ofString "LESSEQUAL") 236, val := Value.int 29 235 }, { hash := PyData.keyHash P (Str.ofString "GREATEREQUAL"), key := Value.str (Str.ofString "GREATEREQUAL") 238, val := Value.int 30 237 }, { hash := PyData.keyHash P (Str.ofString "TILDE"), key := Value.str (Str.ofString "TILDE") 240, val := Value.int 31 239 }, { hash := PyData.keyHash P (Str.ofString "CIRCUMFLEX"), key := Value.str (Str.ofString "CIRCUMFLEX") 242, val := Value.int 32 241 }, { hash := PyData.keyHash P (Str.ofString "LEFTSHIFT"), key := Value.str (Str.ofString "LEFTSHIFT") 244, val := Value.int 33 243 }, { hash := PyData.keyHash P (Str.ofString "RIGHTSHIFT"), key := Value.str (Str.ofString "RIGHTSHIFT") 246, val := Value.int 34 245 }, { hash := PyData.keyHash P (Str.ofString "DOUBLESTAR"), key := Value.str (Str.ofString "DOUBLESTAR") 248, val := Value.int 35 247 }, { hash := PyData.keyHash P (Str.ofString "PLUSEQUAL"), key := Value.str (Str.ofString "PLUSEQUAL") 250, val := Value.int 36 249 }, { hash := PyData.keyHash P (Str.ofString "MINEQUAL"), key := Value.str (Str.ofString "MINEQUAL") 252, val := Value.int 37 251 }, { hash := PyData.keyHash P (Str.ofString "STAREQUAL"), key := Value.str (Str.ofString "STAREQUAL") 254, val := Value.int 38 253 }, { hash := PyData.keyHash P (Str.ofString "SLASHEQUAL"), key := Value.str (Str.ofString "SLASHEQUAL") 256, val := Value.int 39 255 }, { hash := PyData.keyHash P (Str.ofString "PERCENTEQUAL"), key := Value.str (Str.ofString "PERCENTEQUAL") 258, val := Value.int 40 257 }, { hash := PyData.keyHash P (Str.ofString "AMPEREQUAL"), key := Value.str (Str.ofString "AMPEREQUAL") 260, val := Value.int 41 259 }, { hash := PyData.keyHash P (Str.ofString "VBAREQUAL"), key := Value.str (Str.ofString "VBAREQUAL") 262, val := Value.int 42 261 }, { hash := PyData.keyHash P (Str.ofString "CIRCUMFLEXEQUAL"), key := Value.str (Str.ofString "CIRCUMFLEXEQUAL") 264, val := Value.int 43 263 }, { hash := PyData.keyHash P (Str.ofString "LEFTSHIFTEQUAL"), key := Value.str (Str.ofString "LEFTSHIFTEQUAL") 266, val := Value.int 44 265 }, { hash := PyData.keyHash P (Str.ofString "RIGHTSHIFTEQUAL"), key := Value.str (Str.ofString "RIGHTSHIFTEQUAL") 268, val := Value.int 45 267 }, { hash := PyData.keyHash P (Str.ofString "DOUBLESTAREQUAL"), key := Value.str (Str.ofString "DOUBLESTAREQUAL") 270, val := Value.int 46 269 }, { hash := PyData.keyHash P (Str.ofString "DOUBLESLASH"), key := Value.str (Str.ofString "DOUBLESLASH") 272, val := Value.int 47 271 }, { hash := PyData.keyHash P (Str.ofString "DOUBLESLASHEQUAL"), key := Value.str (Str.ofString "DOUBLESLASHEQUAL") 274, val := Value.int 48 273 }, { hash := PyData.keyHash P (Str.ofString "AT"), key := Value.str (Str.ofString "AT") 276, val := Value.int 49 275 }, { hash := PyData.keyHash P (Str.ofString "ATEQUAL"), key := Value.str (Str.ofString "ATEQUAL") 278, val := Value.int 50 277 }, { hash := PyData.keyHash P (Str.ofString "RARROW"), key := Value.str (Str.ofString "RARROW") 280, val := Value.int 51 279 }, { hash := PyData.keyHash P (Str.ofString "ELLIPSIS"), key := Value.str (Str.ofString "ELLIPSIS") 282, val := Value.int 52 281 }, { hash := PyData.keyHash P (Str.ofString "COLONEQUAL"), key := Value.str (Str.ofString "COLONEQUAL") 284, val := Value.int 53 283 }, { hash := PyData.keyHash P (Str.ofString "EXCLAMATION"), key := Value.str (Str.ofString "EXCLAMATION") 286, val := Value.int 54 285 }, { hash := PyData.keyHash P (Str.ofString "NT_OFFSET"), key := Value.str (Str.ofString "NT_OFFSET") 288, val := Value.int 256 287 }, { hash := PyData.keyHash P (Str.ofString "EXACT_TOKEN_TYPES"), key := Value.str (Str.ofString "EXACT_TOKEN_TYPES") 385, val := Value.ref 15 }, { hash := PyData.keyHash P (Str.ofString "ISTERMINAL"), key := Value.str (Str.ofString "ISTERMINAL") 392, val := Value.ref 24 }, { hash := PyData.keyHash P (Str.ofString "ISNONTERMINAL"), key := Value.str (Str.ofString "ISNONTERMINAL") 399, val := Value.ref 31 }, { hash := PyData.keyHash P (Str.ofString "ISEOF"), key := Value.str (Str.ofString "ISEOF") 406, val := Value.ref 38 }, { hash := PyData.keyHash P (Str.ofString "_netrclex"), key := Value.str (Str.ofString "_netrclex") 466, val := Value.ref 76 }, { hash := PyData.keyHash P (Str.ofString "b1_set"), key := Value.str (Str.ofString "b1_set") 528, val := Value.ref 88 }, { hash := PyData.keyHash P (Str.ofString "in_table_b1"), key := Value.str (Str.ofString "in_table_b1") 535, val := Value.ref 98 }, { hash := PyData.keyHash P (Str.ofString "b3_exceptions"), key := Value.str (Str.ofString "b3_exceptions") 2486, val := Value.ref 99 }, { hash := PyData.keyHash P (Str.ofString "map_table_b3"), key := Value.str (Str.ofString "map_table_b3") 2494, val := Value.ref 144 }, { hash := PyData.keyHash P (Str.ofString "_law_operators"), key := Value.str (Str.ofString "_law_operators") 2502, val := Value.ref 151 }, { hash := PyData.keyHash P (Str.ofString "_law_lexer"), key := Value.str (Str.ofString "_law_lexer") 2511, val := Value.ref 158 }, { hash := PyData.keyHash P (Str.ofString "_law_text"), key := Value.str (Str.ofString "_law_text") 2527, val := Value.ref 165 }, { hash := PyData.keyHash P (Str.ofString "_law_word"), key := Value.str (Str.ofString "_law_word") 2542, val := Value.ref 172 }, { hash := PyData.keyHash P (Str.ofString "_law_plain"), key := Value.str (Str.ofString "_law_plain") 2552, val := Value.ref 179 }, { hash := PyData.keyHash P (Str.ofString "_law_clause"), key := Value.str (Str.ofString "_law_clause") 2564, val := Value.ref 186 }, { hash := PyData.keyHash P (Str.ofString "_law_least"), key := Value.str (Str.ofString "_law_least") 2570, val := Value.ref 191 }, { hash := PyData.keyHash P (Str.ofString "law"), key := Value.str (Str.ofString "law") 2576, val := Value.ref 196 }] 76 } : Obj)
noncomputable def c_12 (P : Params) : Obj := ({ cls := Value.none, data := Data.fields #[Value.int 53 0, Value.int 0 0, Value.ref 23, Value.int 55 0, Value.int 0 0, Value.ref 30, Value.int 57 0, Value.int 0 0, Value.ref 37, Value.int 60 0, Value.int 0 0, Value.ref 44, Value.int 105 0, Value.int 0 0, Value.ref 97, Value.int 108 0, Value.int 0 0, Value.ref 143, Value.int 114 0, Value.int 0 0, Value.ref 150, Value.int 116 0, Value.int 0 0, Value.ref 157, Value.int 123 0, Value.int 0 0, Value.ref 164, Value.int 136 0, Value.int 0 0, Value.ref 171, Value.int 150 0, Value.int 0 0, Value.ref 178, Value.int 159 0, Value.int 0 0, Value.ref 185, Value.int 171 0, Value.int 0 0, Value.ref 190, Value.int 173 0, Value.int 0 0, Value.ref 195] } : Obj)
noncomputable def treeA (led : Bool) (P : Params) : BT := (.node (PySem.W.boot_o_0 P) (.node (PySem.W.boot_o_1 P) (.node (a_3 P) (.node (PySem.W.boot_o_7 P) (.node (n_15 P) (.node (n_31 P) (.node (n_63 P) .nil .nil) (.node (a_95 P) .nil .nil)) (.node (n_47 P) (.node (n_79 P) .nil .nil) .nil)) (.node (n_23 P) (.node (n_39 P) (.node (n_71 P) .nil .nil) .nil) (.node (n_55 P) (.node (a_87 P) .nil .nil) .nil))) (.node (n_11 P) (.node (n_19 P) (.node (n_35 P) (.node (n_67 P) .nil .nil) .nil) (.node (n_51 P) (.node (a_83 P) .nil .nil) .nil)) (.node (n_27 P) (.node (n_43 P) (.node (n_75 P) .nil .nil) .nil) (.node (n_59 P) (.node (a_91 P) .nil .nil) .nil)))) (.node (PySem.W.boot_o_5 P) (.node (PySem.W.boot_o_9 P) (.node (n_17 P) (.node (n_33 P) (.node (n_65 P) .nil .nil) (.node (a_97 P) .nil .nil)) (.node (n_49 P) (.node (a_81 P) .nil .nil) .nil)) (.node (n_25 P) (.node (n_41 P) (.node (n_73 P) .nil .nil) .nil) (.node (n_57 P) (.node (a_89 P) .nil .nil) .nil))) (.node (n_13 P) (.node (n_21 P) (.node (n_37 P) (.node (n_69 P) .nil .nil) .nil) (.node (n_53 P) (.node (a_85 P) .nil .nil) .nil)) (.node (n_29 P) (.node (n_45 P) (.node (n_77 P) .nil .nil) .nil) (.node (n_61 P) (.node (a_93 P) .nil .nil) .nil))))) (.node (PySem.W.boot_o_2 P) (.node (PySem.W.boot_o_4 P) (.node (PySem.W.boot_o_8 P) (.node (n_16 P) (.node (n_32 P) (.node (n_64 P) .nil .nil) (.node (a_96 P) .nil .nil)) (.node (n_48 P) (.node (n_80 P) .nil .nil) .nil)) (.node (n_24 P) (.node (n_40 P) (.node (n_72 P) .nil .nil) .nil) (.node (n_56 P) (.node (a_88 led P) .nil .nil) .nil))) (.node (a_12 P) (.node (n_20 P) (.node (n_36 P) (.node (n_68 P) .nil .nil) .nil) (.node (n_52 P) (.node (a_84 P) .nil .nil) .nil)) (.node (n_28 P) (.node (n_44 P) (.node (n_76 P) .nil .nil) .nil) (.node (n_60 P) (.node (a_92 P) .nil .nil) .nil)))) (.node (PySem.W.boot_o_6 P) (.node (PySem.W.boot_o_10 P) (.node (n_18 P) (.node (n_34 P) (.node (n_66 P) .nil .nil) (.node (a_98 P) .nil .nil)) (.node (n_50 P) (.node (a_82 P) .nil .nil) .nil)) (.node (n_26 P) (.node (n_42 P) (.node (n_74 P) .nil .nil) .nil) (.node (n_58 P) (.node (a_90 P) .nil .nil) .nil))) (.node (n_14 P) (.node (n_22 P) (.node (n_38 P) (.node (n_70 P) .nil .nil) .nil) (.node (n_54 P) (.node (a_86 P) .nil .nil) .nil)) (.node (n_30 P) (.node (n_46 P) (.node (n_78 P) .nil .nil) .nil) (.node (n_62 P) (.node (a_94 P) .nil .nil) .nil))))))
noncomputable def treeB (b3o : Nat → Obj) (led : Bool) (P : Params) : BT := (.node (PySem.W.boot_o_0 P) (.node (PySem.W.boot_o_1 P) (.node (a_3 P) (.node (PySem.W.boot_o_7 P) (.node (n_15 P) (.node (n_31 P) (.node (n_63 P) (.node (b3o 28) .nil .nil) .nil) (.node (a_95 P) .nil .nil)) (.node (n_47 P) (.node (n_79 P) .nil .nil) (.node (b3o 12) .nil .nil))) (.node (n_23 P) (.node (n_39 P) (.node (n_71 P) (.node (b3o 36) .nil .nil) .nil) (.node (b3o 4) .nil .nil)) (.node (n_55 P) (.node (a_87 P) .nil .nil) (.node (b3o 20) .nil .nil)))) (.node (n_11 P) (.node (n_19 P) (.node (n_35 P) (.node (n_67 P) (.node (b3o 32) .nil .nil) .nil) (.node (b3o 0) .nil .nil)) (.node (n_51 P) (.node (a_83 P) .nil .nil) (.node (b3o 16) .nil .nil))) (.node (n_27 P) (.node (n_43 P) (.node (n_75 P) .nil .nil) (.node (b3o 8) .nil .nil)) (.node (n_59 P) (.node (a_91 P) .nil .nil) (.node (b3o 24) .nil .nil))))) (.node (PySem.W.boot_o_5 P) (.node (PySem.W.boot_o_9 P) (.node (n_17 P) (.node (n_33 P) (.node (n_65 P) (.node (b3o 30) .nil .nil) .nil) (.node (a_97 P) .nil .nil)) (.node (n_49 P) (.node (a_81 P) .nil .nil) (.node (b3o 14) .nil .nil))) (.node (n_25 P) (.node (n_41 P) (.node (n_73 P) (.node (b3o 38) .nil .nil) .nil) (.node (b3o 6) .nil .nil)) (.node (n_57 P) (.node (a_89 P) .nil .nil) (.node (b3o 22) .nil .nil)))) (.node (n_13 P) (.node (n_21 P) (.node (n_37 P) (.node (n_69 P) (.node (b3o 34) .nil .nil) .nil) (.node (b3o 2) .nil .nil)) (.node (n_53 P) (.node (a_85 P) .nil .nil) (.node (b3o 18) .nil .nil))) (.node (n_29 P) (.node (n_45 P) (.node (n_77 P) .nil .nil) (.node (b3o 10) .nil .nil)) (.node (n_61 P) (.node (a_93 P) .nil .nil) (.node (b3o 26) .nil .nil)))))) (.node (PySem.W.boot_o_2 P) (.node (PySem.W.boot_o_4 P) (.node (PySem.W.boot_o_8 P) (.node (n_16 P) (.node (n_32 P) (.node (n_64 P) (.node (b3o 29) .nil .nil) .nil) (.node (a_96 P) .nil .nil)) (.node (n_48 P) (.node (n_80 P) .nil .nil) (.node (b3o 13) .nil .nil))) (.node (n_24 P) (.node (n_40 P) (.node (n_72 P) (.node (b3o 37) .nil .nil) .nil) (.node (b3o 5) .nil .nil)) (.node (n_56 P) (.node (a_88 led P) .nil .nil) (.node (b3o 21) .nil .nil)))) (.node (a_12 P) (.node (n_20 P) (.node (n_36 P) (.node (n_68 P) (.node (b3o 33) .nil .nil) .nil) (.node (b3o 1) .nil .nil)) (.node (n_52 P) (.node (a_84 P) .nil .nil) (.node (b3o 17) .nil .nil))) (.node (n_28 P) (.node (n_44 P) (.node (n_76 P) .nil .nil) (.node (b3o 9) .nil .nil)) (.node (n_60 P) (.node (a_92 P) .nil .nil) (.node (b3o 25) .nil .nil))))) (.node (PySem.W.boot_o_6 P) (.node (PySem.W.boot_o_10 P) (.node (n_18 P) (.node (n_34 P) (.node (n_66 P) (.node (b3o 31) .nil .nil) .nil) (.node (a_98 P) .nil .nil)) (.node (n_50 P) (.node (a_82 P) .nil .nil) (.node (b3o 15) .nil .nil))) (.node (n_26 P) (.node (n_42 P) (.node (n_74 P) .nil .nil) (.node (b3o 7) .nil .nil)) (.node (n_58 P) (.node (a_90 P) .nil .nil) (.node (b3o 23) .nil .nil)))) (.node (n_14 P) (.node (n_22 P) (.node (n_38 P) (.node (n_70 P) (.node (b3o 35) .nil .nil) .nil) (.node (b3o 3) .nil .nil)) (.node (n_54 P) (.node (a_86 P) .nil .nil) (.node (b3o 19) .nil .nil))) (.node (n_30 P) (.node (n_46 P) (.node (n_78 P) .nil .nil) (.node (b3o 11) .nil .nil)) (.node (n_62 P) (.node (a_94 P) .nil .nil) (.node (b3o 27) .nil .nil)))))))
noncomputable def treeC (b3o : Nat → Obj) (led : Bool) (P : Params) : BT := (.node (PySem.W.boot_o_0 P) (.node (PySem.W.boot_o_1 P) (.node (c_3 P) (.node (PySem.W.boot_o_7 P) (.node (n_15 P) (.node (n_31 P) (.node (n_63 P) (.node (b3o 28) .nil .nil) (.node (a_191 P) .nil .nil)) (.node (a_95 P) (.node (a_159 P) .nil .nil) .nil)) (.node (n_47 P) (.node (n_79 P) (.node (a_143 P) .nil .nil) .nil) (.node (b3o 12) (.node (a_175 P) .nil .nil) .nil))) (.node (n_23 P) (.node (n_39 P) (.node (n_71 P) (.node (b3o 36) .nil .nil) .nil) (.node (b3o 4) (.node (a_167 P) .nil .nil) .nil)) (.node (n_55 P) (.node (a_87 P) (.node (a_151 P) .nil .nil) .nil) (.node (b3o 20) (.node (a_183 P) .nil .nil) .nil)))) (.node (n_11 P) (.node (n_19 P) (.node (n_35 P) (.node (n_67 P) (.node (b3o 32) .nil .nil) (.node (a_195 P) .nil .nil)) (.node (b3o 0) (.node (a_163 P) .nil .nil) .nil)) (.node (n_51 P) (.node (a_83 P) (.node (a_147 P) .nil .nil) .nil) (.node (b3o 16) (.node (a_179 P) .nil .nil) .nil))) (.node (n_27 P) (.node (n_43 P) (.node (n_75 P) (.node (a_139 P) .nil .nil) .nil) (.node (b3o 8) (.node (a_171 P) .nil .nil) .nil)) (.node (n_59 P) (.node (a_91 P) (.node (a_155 P) .nil .nil) .nil) (.node (b3o 24) (.node (a_187 P) .nil .nil) .nil))))) (.node (PySem.W.boot_o_5 P) (.node (PySem.W.boot_o_9 P) (.node (n_17 P) (.node (n_33 P) (.node (n_65 P) (.node (b3o 30) .nil .nil) (.node (a_193 P) .nil .nil)) (.node (a_97 P) (.node (a_161 P) .nil .nil) .nil)) (.node (n_49 P) (.node (a_81 P) (.node (a_145 P) .nil .nil) .nil) (.node (b3o 14) (.node (a_177 P) .nil .nil) .nil))) (.node (n_25 P) (.node (n_41 P) (.node (n_73 P) (.node (b3o 38) .nil .nil) .nil) (.node (b3o 6) (.node (a_169 P) .nil .nil) .nil)) (.node (n_57 P) (.node (a_89 P) (.node (a_153 P) .nil .nil) .nil) (.node (b3o 22) (.node (a_185 P) .nil .nil) .nil)))) (.node (n_13 P) (.node (n_21 P) (.node (n_37 P) (.node (n_69 P) (.node (b3o 34) .nil .nil) .nil) (.node (b3o 2) (.node (a_165 P) .nil .nil) .nil)) (.node (n_53 P) (.node (a_85 P) (.node (a_149 P) .nil .nil) .nil) (.node (b3o 18) (.node (a_181 P) .nil .nil) .nil))) (.node (n_29 P) (.node (n_45 P) (.node (n_77 P) (.node (a_141 P) .nil .nil) .nil) (.node (b3o 10) (.node (a_173 P) .nil .nil) .nil)) (.node (n_61 P) (.node (a_93 P) (.node (a_157 P) .nil .nil) .nil) (.node (b3o 26) (.node (a_189 P) .nil .nil) .nil)))))) (.node (PySem.W.boot_o_2 P) (.node (PySem.W.boot_o_4 P) (.node (PySem.W.boot_o_8 P) (.node (n_16 P) (.node (n_32 P) (.node (n_64 P) (.node (b3o 29) .nil .nil) (.node (a_192 P) .nil .nil)) (.node (a_96 P) (.node (a_160 P) .nil .nil) .nil)) (.node (n_48 P) (.node (n_80 P) (.node (a_144 P) .nil .nil) .nil) (.node (b3o 13) (.node (a_176 P) .nil .nil) .nil))) (.node (n_24 P) (.node (n_40 P) (.node (n_72 P) (.node (b3o 37) .nil .nil) .nil) (.node (b3o 5) (.node (a_168 P) .nil .nil) .nil)) (.node (n_56 P) (.node (a_88 led P) (.node (a_152 P) .nil .nil) .nil) (.node (b3o 21) (.node (a_184 P) .nil .nil) .nil)))) (.node (c_12 P) (.node (n_20 P) (.node (n_36 P) (.node (n_68 P) (.node (b3o 33) .nil .nil) (.node (a_196 P) .nil .nil)) (.node (b3o 1) (.node (a_164 P) .nil .nil) .nil)) (.node (n_52 P) (.node (a_84 P) (.node (a_148 P) .nil .nil) .nil) (.node (b3o 17) (.node (a_180 P) .nil .nil) .nil))) (.node (n_28 P) (.node (n_44 P) (.node (n_76 P) (.node (a_140 P) .nil .nil) .nil) (.node (b3o 9) (.node (a_172 P) .nil .nil) .nil)) (.node (n_60 P) (.node (a_92 P) (.node (a_156 P) .nil .nil) .nil) (.node (b3o 25) (.node (a_188 P) .nil .nil) .nil))))) (.node (PySem.W.boot_o_6 P) (.node (PySem.W.boot_o_10 P) (.node (n_18 P) (.node (n_34 P) (.node (n_66 P) (.node (b3o 31) .nil .nil) (.node (a_194 P) .nil .nil)) (.node (a_98 P) (.node (a_162 P) .nil .nil) .nil)) (.node (n_50 P) (.node (a_82 P) (.node (a_146 P) .nil .nil) .nil) (.node (b3o 15) (.node (a_178 P) .nil .nil) .nil))) (.node (n_26 P) (.node (n_42 P) (.node (n_74 P) (.node (a_138 P) .nil .nil) .nil) (.node (b3o 7) (.node (a_170 P) .nil .nil) .nil)) (.node (n_58 P) (.node (a_90 P) (.node (a_154 P) .nil .nil) .nil) (.node (b3o 23) (.node (a_186 P) .nil .nil) .nil)))) (.node (n_14 P) (.node (n_22 P) (.node (n_38 P) (.node (n_70 P) (.node (b3o 35) .nil .nil) .nil) (.node (b3o 3) (.node (a_166 P) .nil .nil) .nil)) (.node (n_54 P) (.node (a_86 P) (.node (a_150 P) .nil .nil) .nil) (.node (b3o 19) (.node (a_182 P) .nil .nil) .nil))) (.node (n_30 P) (.node (n_46 P) (.node (n_78 P) (.node (a_142 P) .nil .nil) .nil) (.node (b3o 11) (.node (a_174 P) .nil .nil) .nil)) (.node (n_62 P) (.node (a_94 P) (.node (a_158 P) .nil .nil) .nil) (.node (b3o 27) (.node (a_190 P) .nil .nil) .nil)))))))

noncomputable def sA (led : Bool) (w : World) (os : OsState) : SharedT := { tree := treeA led w.params, n := 99, life := { }, gens := { toList := [] }, drawn := { }, toks := 536, os := os }
noncomputable def wf (b1 b2 : Bool) (w : World) : World := (w.withFollow "set-order" b1).withFollow "special-get-raises" b2
theorem pieceA0 (c : Bool) (w : World) (os : OsState) (p : Program) (b : List Stmt) : segRunT treeTable p (wf c false w) 11 (some (.ref 6)) 1 1037 (sK (wf c false w) os) (piecesOf (sts 57 3) pre.env_1 (Code.body b pre.env_1) posK [tfr]) =
    some (.next, sA (!c) (wf c false w) os, Code.body b pre.env_1, { line := 105, col := 0, endLine := 106, endCol := 30 }) := by
  rw [PySem.W.Fast.te10110043849684766642, PySem.W.Fast.te14364793385576792824]
  kernel_rfl
end Mine
end PartH10

section PartH11
open PySem PySem.W PySem.Calls PyProof.Rows
set_option maxRecDepth 100000
set_option linter.unusedVariables false
namespace Mine
variable {den : Code → Sem Fin} {prm : Setting} {n₀ : Nat} {α β : Type}

/-- the objects that a display of many ints makes -/
noncomputable def dispObjs (t : Nat) (C0 : List Cp) (Cs : List (List Cp)) (R : List Cp) : List Obj :=
  dob (ents t (C0.map (·.1)) ++ entsC (t + 51) Cs ++ entsS (t + 51 + 51 * Cs.length) (R.map (·.1))).toArray (C0.length + Cs.flatten.length + R.length) :: (subs (t + 51) Cs ++ [dob (entsS (t + 51 + 51 * Cs.length) (R.map (·.1))).toArray R.length])
theorem pushAll_app : ∀ (a b : List Obj) (h : Heap), pushAll h (a ++ b) = pushAll (pushAll h a) b
  | [], b, h => rfl
  | x :: a, b, h => pushAll_app a b (h.push x)
theorem pushAll_size : ∀ (a : List Obj) (h : Heap), (pushAll h a).objs.size = h.objs.size + a.length
  | [], h => rfl
  | x :: a, h => by
    show (pushAll (h.push x) a).objs.size = _
    rw [pushAll_size a, push_size, List.length_cons]; omega
theorem xr_display {p : Program} {w : World} {env : Env} {pos : Pos} {C0 R : List Cp} {Cs : List (List Cp)} {s : Shared} (ha : n₀ ≤ s.heap.objs.size) (hsys : sysModules < n₀) (h0 : C0.length = 17) (hC : ∀ C ∈ Cs, C.length = 17) (hR0 : R ≠ []) (hR : R.length ≤ 15)
    (hnd : ((C0 ++ (Cs.flatten ++ R)).map fun x => hashInt x.1.1).Nodup) (hsz : C0.length + (Cs.flatten.length + R.length) ≤ 100000) :
    Xr (denote treeTable) ⟨p, w.params⟩ n₀ (dictDisplay (mk (pts env pos (C0 ++ (Cs.flatten ++ R))))) s pos (.ref s.heap.objs.size) { s with heap := pushAll s.heap (dispObjs s.toks C0 Cs R), toks := s.toks + 51 + 51 * Cs.length + 3 * R.length } pos
      (223 + (330 * Cs.length + (19 * R.length + 6))) := by
  have hnd' := hnd
  rw [List.map_append, List.map_append] at hnd'
  obtain ⟨n1, n2, n3⟩ := List.nodup_append.mp hnd'
  have nR := (List.nodup_append.mp n2).2.1
  rw [display_eq]
  obtain ⟨D0, x, hD, h16⟩ : ∃ D0 x, C0 = D0 ++ [x] ∧ D0.length = 16 := ⟨C0.dropLast, C0.getLast (by intro e; rw [e] at h0; cases h0), (List.dropLast_concat_getLast _).symm, by rw [List.length_dropLast, h0]⟩
  have hpt : pts env pos C0 = pts env pos D0 ++ pts env pos [x] := by rw [hD, pts_app]
  have gath := fun (main : Option Addr) (p : Tr2) (run : List Tr2) (hl : run.length + 1 < 17) => (show stepF (some p.1, p.2) (main, run) = pure (.yield (main, run ++ [p])) by
      unfold stepF
      have : ((run ++ [(p.1, p.2)]).length == 17) = false := by rw [beq_eq_false_iff_ne, List.length_append, List.length_singleton]; omega
      simp only [this, Bool.false_eq_true, if_false])
  have f1 := xr_first (p := p) (w := w) (n₀ := n₀) (env := env) (pos := pos) (L := C0) (s := s) ha h0 n1
  -- the last run
  have hE0 := ents_len s.toks (C0.map (·.1))
  rw [List.length_map, h0] at hE0
  have key0 : (ents s.toks (C0.map (·.1))).map (·.hash) = C0.map fun x => hashInt x.1.1 := by rw [ents_hash, List.map_map]; rfl
  let s1 : Shared := { s with heap := s.heap.push (dob (ents s.toks (C0.map (·.1))).toArray C0.length), toks := s.toks + 51 }
  let s2 : Shared := { s1 with heap := setAt (pushAll s1.heap (subs s1.toks Cs)) s.heap.objs.size (dob (ents s.toks (C0.map (·.1)) ++ entsC s1.toks Cs).toArray (ents s.toks (C0.map (·.1)) ++ entsC s1.toks Cs).length), toks := s1.toks + 51 * Cs.length }
  have hd1 : s1.heap.get? s.heap.objs.size = some (dob (ents s.toks (C0.map (·.1))).toArray (ents s.toks (C0.map (·.1))).length) := by rw [hE0, ← h0]; exact Heap.get?_push_size _ rfl
  have hd1' : s.heap.objs.size < s1.heap.objs.size := Heap.lt_size hd1
  have hpa : (pushAll s1.heap (subs s1.toks Cs)).get? s.heap.objs.size = some (dob (ents s.toks (C0.map (·.1))).toArray (ents s.toks (C0.map (·.1))).length) := by
    have : ∀ (os : List Obj) (h : Heap) (a : Addr) (o : Obj), h.get? a = some o → (pushAll h os).get? a = some o := fun os => by
      induction os with
      | nil => intro h a o e; exact e
      | cons x os ih => intro h a o e; exact ih _ _ _ (get_push_of e)
    exact this _ _ _ _ hd1
  have hd2 : s2.heap.get? s.heap.objs.size = some (dob (ents s.toks (C0.map (·.1)) ++ entsC s1.toks Cs).toArray (ents s.toks (C0.map (·.1)) ++ entsC s1.toks Cs).length) := get_setAt hpa rfl
  have hs2 : n₀ ≤ s2.heap.objs.size := by
    show n₀ ≤ (setAt (pushAll s1.heap (subs s1.toks Cs)) _ _).objs.size
    rw [setAt_size, pushAll_size]; show n₀ ≤ (s.heap.push _).objs.size + _; rw [push_size]; omega
  have hSl := entsS_len s2.toks (R.map (·.1))
  rw [List.length_map] at hSl
  have fR := xr_next (p := p) (w := w) (n₀ := n₀) (env := env) (pos := pos) (L := R) (s := s2) (d := s.heap.objs.size) (es := ents s.toks (C0.map (·.1)) ++ entsC s1.toks Cs) (r := entsS s2.toks (R.map (·.1))) hs2 ha hsys hd2 (by intro e; have := (List.append_eq_nil_iff.mp e).1; rw [this] at hE0; cases hE0) hSl hR0 (entsS_int _ _) (xr_subS hs2 hR nR)
    (by rw [List.map_append, key0, entsC_hash, entsS_hash, List.map_map, List.append_assoc]; exact hnd') (by rw [List.length_append, hE0, entsC_len]; omega)
  have gR : forIn (mk (pts env pos R)) ((some s.heap.objs.size, []) : GSt) stepF = pure (some s.heap.objs.size, pts env pos R) := by
    have := gather stepF (some s.heap.objs.size) (gath _) [] (pts env pos R) [] (by rw [pts_len]; show 0 + R.length < 17; omega)
    rw [List.append_nil, List.nil_append] at this
    rw [this]; rfl
  have hch := xr_chunks (p := p) (w := w) (n₀ := n₀) (env := env) (pos := pos) (d := s.heap.objs.size) (b := (some s.heap.objs.size, pts env pos R)) (s' := s2) (q' := pos) (m := 0) (rest := mk (pts env pos R)) ha hsys Cs (ents s.toks (C0.map (·.1))) s1
    (by show n₀ ≤ (s.heap.push _).objs.size; rw [push_size]; omega) hd1 (by intro e; rw [e] at hE0; cases hE0) hC (by rw [key0]; rw [← List.append_assoc] at hnd'; exact (List.nodup_append.mp hnd').1) (by rw [hE0]; omega) (by rw [gR]; exact .pure _ _ _)
  have loop : Xr (denote treeTable) ⟨p, w.params⟩ n₀ (forIn (mk (pts env pos (C0 ++ (Cs.flatten ++ R)))) ((none, []) : GSt) stepF) s pos (some s.heap.objs.size, pts env pos R) s2 pos (223 + (330 * Cs.length + 0)) := by
    rw [pts_app, mk_app, hpt, mk_app, List.append_assoc]
    rw [gather stepF none (gath _) _ (pts env pos D0) [] (by rw [pts_len, h16]; decide), List.nil_append]
    show Xr _ _ _ (forIn ((some (eval (.Constant (.int x.1.1) 0 x.2.1) env), (do let y ← eval (.Constant (.str x.1.2) 0 x.2.2) env; standAt pos; pure y)) :: mk (pts env pos (Cs.flatten ++ R))) _ _) _ _ _ _ _ _
    rw [List.forIn_cons]
    have hst : stepF (some (eval (.Constant (.int x.1.1) 0 x.2.1) env), (do let y ← eval (.Constant (.str x.1.2) 0 x.2.2) env; standAt pos; pure y)) (none, pts env pos D0) = (do let m ← flushF (pts env pos C0) none; pure (.yield (m, []))) := by
      unfold stepF
      have : ((pts env pos D0 ++ pts env pos [x]).length == 17) = true := by rw [beq_iff_eq, ← hpt, pts_len, h0]
      rw [hpt]
      show (if ((pts env pos D0 ++ pts env pos [x]).length == 17) = true then _ else _) = _
      rw [this]; rfl
    rw [hst, pts_app, mk_app]
    refine .cast ((f1.bind (f := fun m => pure (ForInStep.yield ((m, []) : GSt))) (.pure' (a := ForInStep.yield ((some s.heap.objs.size, []) : GSt)))).bind (b := (some s.heap.objs.size, pts env pos R)) (s₂ := s2) (q₂ := pos) (m := 330 * Cs.length + 0) ?_) (by rw [h0])
    rw [h0]
    have hs1 : s1 = { s with heap := s.heap.push (dob (ents s.toks (C0.map (·.1))).toArray 17), toks := s.toks + 3 * 17 } := by show ({ s with heap := s.heap.push (dob (ents s.toks (C0.map (·.1))).toArray C0.length), toks := s.toks + 51 } : Shared) = _; rw [h0]
    rw [hs1] at hch
    exact hch
  refine .cast (n := 223 + (330 * Cs.length + 0) + (13 * R.length + 1 + (5 + 6 * R.length) + 0)) (loop.bind (fR.bind (b := Value.ref s.heap.objs.size) (m := 0) ?_)) (by omega)
  have hH : setAt (s2.heap.push (dob (entsS s2.toks (R.map (·.1))).toArray R.length)) s.heap.objs.size (dob (ents s.toks (C0.map (·.1)) ++ entsC s1.toks Cs ++ entsS s2.toks (R.map (·.1))).toArray (ents s.toks (C0.map (·.1)) ++ entsC s1.toks Cs ++ entsS s2.toks (R.map (·.1))).length) =
      pushAll s.heap (dispObjs s.toks C0 Cs R) := by
    show setAt ((setAt (pushAll s1.heap (subs s1.toks Cs)) s.heap.objs.size _).push _) _ _ = _
    rw [push_setAt _ _ _ _ (by rw [pushAll_size]; exact Nat.lt_of_lt_of_le hd1' (Nat.le_add_right _ _)), setAt_setAt]
    have e1 : (pushAll s1.heap (subs s1.toks Cs)).push (dob (entsS s2.toks (R.map (·.1))).toArray R.length) = pushAll s1.heap (subs s1.toks Cs ++ [dob (entsS s2.toks (R.map (·.1))).toArray R.length]) := by rw [pushAll_app]; rfl
    rw [e1, ← pushAll_setAt _ _ _ _ hd1']
    show pushAll (setAt (s.heap.push _) s.heap.objs.size _) _ = _
    rw [setAt_push]
    unfold dispObjs
    have e2 : (ents s.toks (C0.map (·.1)) ++ entsC s1.toks Cs ++ entsS s2.toks (R.map (·.1))).length = C0.length + Cs.flatten.length + R.length := by
      rw [List.length_append, List.length_append, hE0, entsC_len, hSl, h0]
    rw [e2]
    rfl
  rw [hH]
  exact .pure _ _ _
end Mine
end PartH11

section PartH12
open PySem PySem.W PySem.Calls PyProof.Rows
set_option maxRecDepth 100000
set_option maxHeartbeats 0
set_option linter.unusedVariables false
namespace Mine
noncomputable def cpOf : List (Option Expr) → List Expr → List Cp
  | some (.Constant (.int k) _ p) :: ks, .Constant (.str x) _ q :: vs => ((k, x), (p, q)) :: cpOf ks vs
  | _, _ => []
noncomputable def keysE (L : List Cp) : List (Option Expr) := L.map fun x => some (.Constant (.int x.1.1) 0 x.2.1)
noncomputable def valsE (L : List Cp) : List Expr := L.map fun x => .Constant (.str x.1.2) 0 x.2.2
structure B3 where
  L : List Cp
  dpos : Pos
  npos : Pos
  spos : Pos
noncomputable def b3Of : Stmt → B3
  | .Assign [.Name _ np] (.Dict ks vs dp) sp => ⟨cpOf ks vs, dp, np, sp⟩
  | _ => ⟨[], default, default, default⟩
noncomputable def b3 : B3 := b3Of (stmtAt 60)
noncomputable def chunks : Nat → List Cp → List (List Cp)
  | 0, _ => []
  | n + 1, l => l.take 17 :: chunks n (l.drop 17)
noncomputable def b3C0 : List Cp := b3.L.take 17
noncomputable def b3Cs : List (List Cp) := chunks 37 (b3.L.drop 17)
noncomputable def b3R : List Cp := b3.L.drop 646
theorem b3_stmt : stmtAt 60 = .Assign [.Name "b3_exceptions" b3.npos] (.Dict (keysE b3.L) (valsE b3.L) b3.dpos) b3.spos := by kernel_rfl
theorem b3_split : b3.L = b3C0 ++ (b3Cs.flatten ++ b3R) := by kernel_rfl
noncomputable def sortedB : List Int → Bool
  | a :: b :: r => decide (a < b) && sortedB (b :: r)
  | _ => true
theorem sorted_nodup : ∀ l : List Int, sortedB l = true → l.Nodup ∧ ∀ a r, l = a :: r → ∀ x ∈ r, a < x
  | [], _ => ⟨List.nodup_nil, fun _ _ h => by cases h⟩
  | [a], _ => ⟨by simp, fun _ _ h => by cases h; simp⟩
  | a :: b :: r, h => by
    rw [sortedB, Bool.and_eq_true, decide_eq_true_eq] at h
    obtain ⟨h1, h2⟩ := sorted_nodup (b :: r) h.2
    have h3 : ∀ x ∈ b :: r, a < x := fun x hx => by
      rcases List.mem_cons.mp hx with rfl | hx
      · exact h.1
      · exact Int.lt_trans h.1 (h2 b r rfl x hx)
    exact ⟨List.nodup_cons.mpr ⟨fun hm => Int.lt_irrefl _ (h3 a hm), h1⟩, fun a' r' e x hx => by cases e; exact h3 x hx⟩
theorem b3_nodup : (b3.L.map fun x => hashInt x.1.1).Nodup := (sorted_nodup _ (by kernel_rfl)).1
theorem b3_len0 : b3C0.length = 17 := by kernel_rfl
theorem b3_lenC : b3Cs.length = 37 := by kernel_rfl
theorem b3_lens : b3Cs.all (fun C => C.length == 17) = true := by kernel_rfl
theorem b3_lenR : b3R.length = 4 := by kernel_rfl
theorem b3_flat : b3Cs.flatten.length = 629 := by kernel_rfl
theorem zip_pts (env : Env) (pos : Pos) : ∀ L : List Cp, (evalEachOpt (keysE L) env).zip ((evalEach (valsE L) env).map fun v => do let x ← v; standAt pos; pure x) = mk (pts env pos L)
  | [] => rfl
  | (x, q) :: L => by
    have ih := zip_pts env pos L
    show (some (eval (.Constant (.int x.1) 0 q.1) env), (do let y ← eval (.Constant (.str x.2) 0 q.2) env; standAt pos; pure y)) :: (evalEachOpt (keysE L) env).zip ((evalEach (valsE L) env).map fun v => do let x ← v; standAt pos; pure x) = _
    rw [ih]; rfl
theorem xr_dictStmt {p : Program} {w : World} {env : Env} {q dp sp : Pos} {L C0 R : List Cp} {Cs : List (List Cp)} {s : Shared} {a t m k : Nat} (hL : L = C0 ++ (Cs.flatten ++ R)) (hs : s.toks = t) (ha : s.heap.objs.size = a) (h11 : 11 ≤ a) (h0 : C0.length = 17) (hC : ∀ C ∈ Cs, C.length = 17) (hR0 : R ≠ []) (hR : R.length ≤ 15)
    (hnd : (L.map fun x => hashInt x.1.1).Nodup) (hsz : C0.length + (Cs.flatten.length + R.length) ≤ 100000) (hm : 223 + (330 * Cs.length + (19 * R.length + 6)) + 2 = m) (hk : t + 51 + 51 * Cs.length + 3 * R.length = k) :
    Xr (denote treeTable) ⟨p, w.params⟩ 11 (do standAt sp; eval (.Dict (keysE L) (valsE L) dp) env) s q (.ref a) { s with heap := pushAll s.heap (dispObjs t C0 Cs R), toks := k } dp m := by
  subst hL hs ha hm hk
  have h := xr_display (p := p) (w := w) (n₀ := 11) (env := env) (pos := dp) h11 (by decide) h0 hC hR0 hR hnd hsz
  rw [arm_eval_Dict, zip_pts]
  exact .atp (.atp h)
noncomputable def b3Objs : List Obj := dispObjs 536 b3C0 b3Cs b3R
theorem b3_ne : b3R ≠ [] := fun e => by have := b3_lenR; rw [e] at this; cases this
theorem b3_17 : ∀ C ∈ b3Cs, C.length = 17 := fun C hC => by have := List.all_eq_true.mp b3_lens C hC; exact beq_iff_eq.mp this
/-- the table's display -/
theorem xr_b3 {p : Program} {w : World} {env : Env} {q : Pos} {s : Shared} (hs : s.toks = 536) (ha : s.heap.objs.size = 99) :
    Xr (denote treeTable) ⟨p, w.params⟩ 11 (do standAt b3.spos; eval (.Dict (keysE b3.L) (valsE b3.L) b3.dpos) env) s q (.ref 99) { s with heap := pushAll s.heap b3Objs, toks := 2486 } b3.dpos 12517 :=
  xr_dictStmt b3_split hs ha (by decide) b3_len0 b3_17 b3_ne (by rw [b3_lenR]; decide) b3_nodup (by rw [b3_len0, b3_flat, b3_lenR]; decide) (by rw [b3_lenC, b3_lenR]) (by rw [b3_lenC, b3_lenR])
end Mine
end PartH12

section PartH13
open PySem PySem.W PySem.Calls PyProof.Rows
set_option maxRecDepth 100000
set_option maxHeartbeats 0
set_option linter.unusedVariables false
namespace Mine
noncomputable def sB (b3o : Nat → Obj) (led : Bool) (w : World) (os : OsState) : SharedT := { tree := treeB b3o led w.params, n := 138, life := { }, gens := { toList := [] }, drawn := { }, toks := 2486, os := os }
noncomputable def sC (b3o : Nat → Obj) (led : Bool) (w : World) (os : OsState) : SharedT := { tree := treeC b3o led w.params, n := 197, life := { }, gens := { toList := [] }, drawn := { }, toks := 2577, os := os }
noncomputable def tB (v : Value) : Sem Flow := do standAt b3.npos; bindName pre.env_1 "b3_exceptions" v; pure .next
noncomputable def kB (f : Flow) : Sem Fin := match f with
  | .next => (execs (sts 61 10) pre.env_1).wrap doneF deadEnd id id
  | f => doneF f
theorem pieceC (b3o : Nat → Obj) (led : Bool) (w : World) (os : OsState) (p : Program) (b : List Stmt) : segRunT treeTable p w 11 (some (.ref 6)) 1 320 (sB b3o led w os) ⟨(tB (.ref 99)).wrap kB deadEnd id id, Code.body b pre.env_1, b3.dpos, [tfr]⟩ =
    some (.next, sC b3o led w os, Code.body b pre.env_1, { line := 173, col := 0, endLine := 226, endCol := 50 }) := by
  rw [PySem.W.Fast.te10110043849684766642, PySem.W.Fast.te14364793385576792824]
  kernel_rfl
end Mine
end PartH13

section PartH14
open PySem PySem.W PySem.Calls PyProof.Rows
set_option maxRecDepth 100000
set_option maxHeartbeats 4000000
set_option linter.unusedVariables false
namespace Mine
theorem ofFn_getD {α : Type} (d : α) : ∀ (l : List α), l = (List.range l.length).map (fun i => l.getD i d) := fun l => by
  apply List.ext_getElem
  · simp
  · intro i h1 h2
    simp [List.getD, List.getElem?_eq_getElem h1]
theorem heapB0 (f : Nat → Obj) (led : Bool) (P : Params) : pushAll (absHeap (treeA led P) 99 { }) ((List.range 39).map f) = absHeap (treeB f led P) 138 { } := by kernel_rfl
theorem heapB (led : Bool) (P : Params) (os : List Obj) (h : os.length = 39) : pushAll (absHeap (treeA led P) 99 { }) os = absHeap (treeB (fun i => os.getD i default) led P) 138 { } := by
  have e := ofFn_getD (default : Obj) os
  rw [h] at e
  rw [← heapB0, ← e]
theorem b3Objs_len : b3Objs.length = 39 := by
  have hs : ∀ (t : Nat) (Cs : List (List Cp)), (subs t Cs).length = Cs.length := fun t Cs => by
    induction Cs generalizing t with
    | nil => rfl
    | cons C Cs ih => exact congrArg (· + 1) (ih _)
  unfold b3Objs dispObjs
  rw [List.length_cons, List.length_append, hs, b3_lenC]; rfl
noncomputable def b3f (i : Nat) : Obj := b3Objs.getD i default
theorem stsB : sts 60 11 = stmtAt 60 :: sts 61 10 := by kernel_rfl
theorem absSize (t : BT) (n : Nat) (l : Life) : (absHeap t n l).objs.size = n := by simp [absHeap, BT.list]
noncomputable def evB : Sem Value := do standAt b3.spos; eval (.Dict (keysE b3.L) (valsE b3.L) b3.dpos) pre.env_1
theorem threadB0 (v : Sem Value) : ((do standAt b3.spos; let v ← v; standAt b3.npos; bindName pre.env_1 "b3_exceptions" v; pure .next : Sem Flow)).wrap (fun f => match f with | .next => (execs (sts 61 10) pre.env_1).wrap doneF deadEnd id id | f => doneF f) deadEnd id id =
    (do standAt b3.spos; v : Sem Value).wrap (fun v => (tB v).wrap kB deadEnd id id) deadEnd id id := by
  have e : (do standAt b3.spos; let v ← v; standAt b3.npos; bindName pre.env_1 "b3_exceptions" v; pure .next : Sem Flow) = (do standAt b3.spos; v : Sem Value) >>= tB := by
    rw [bind_assoc]; rfl
  rw [e, Sem.bind_eq_wrap', Sem.wrap_wrap]
  exact Sem.wrap_congr _ _ _ (fun v => Sem.wrap_congr _ _ _ (fun f => by cases f <;> rfl) (fun _ => rfl)) (fun _ => rfl)
theorem threadB (b : List Stmt) (q : Pos) : piecesOf (sts 60 11) pre.env_1 (Code.body b pre.env_1) q [tfr] = ⟨evB.wrap (fun v => (tB v).wrap kB deadEnd id id) deadEnd id id, Code.body b pre.env_1, q, [tfr]⟩ := by
  have e := exec_Assign_Name (env := pre.env_1) "b3_exceptions" b3.npos (.Dict (keysE b3.L) (valsE b3.L) b3.dpos) b3.spos (by rfl)
  unfold piecesOf evB
  rw [stsB, execs_cons_wrap, b3_stmt, e]
  exact congrArg (fun x => (⟨x, Code.body b pre.env_1, q, [tfr]⟩ : Thread)) (threadB0 _)
theorem runB (led : Bool) (w : World) (os : OsState) (p : Program) (b : List Stmt) (q : Pos) : segRun treeTable p w 11 (some (.ref 6)) 1 (12517 + 320) (sA led w os).abs (piecesOf (sts 60 11) pre.env_1 (Code.body b pre.env_1) q [tfr]) =
    some (.next, (sC b3f led w os).abs, Code.body b pre.env_1, { line := 173, col := 0, endLine := 226, endCol := 50 }) := by
  rw [threadB]
  have h1 := (xr_b3 (p := p) (w := w) (env := pre.env_1) (q := q) (s := (sA led w os).abs) rfl (absSize _ _ _)).run (tb := treeTable) (ann := some (.ref 6)) (fun v => (tB v).wrap kB deadEnd id id) deadEnd id id (Code.body b pre.env_1) tfr
  have h2 := segRun_of (pieceC b3f led w os p b)
  have h3 : ({ (sA led w os).abs with heap := pushAll (sA led w os).abs.heap b3Objs, toks := 2486 } : Shared) = (sB b3f led w os).abs := by
    show ({ heap := pushAll (absHeap (treeA led w.params) 99 { }) b3Objs, gens := _, drawn := _, toks := 2486, os := os } : Shared) = _
    rw [heapB led w.params b3Objs b3Objs_len]; rfl
  rw [h3] at h1
  exact seg_go h1 h2
end Mine
end PartH14

section PartH15
open PySem PySem.W PySem.Calls PyProof.Rows
set_option maxRecDepth 100000
set_option maxHeartbeats 0
set_option linter.unusedVariables false
namespace Mine
theorem pieceA1 (c : Bool) (w : World) (os : OsState) (p : Program) (b : List Stmt) : segRunT treeTable p (wf c true w) 11 (some (.ref 6)) 1 1037 (sK (wf c true w) os) (piecesOf (sts 57 3) pre.env_1 (Code.body b pre.env_1) posK [tfr]) =
    some (.next, sA (!c) (wf c true w) os, Code.body b pre.env_1, { line := 105, col := 0, endLine := 106, endCol := 30 }) := by
  rw [PySem.W.Fast.te10110043849684766642, PySem.W.Fast.te14364793385576792824]
  kernel_rfl
end Mine
end PartH15

section PartH16
open PySem PySem.W PySem.Calls PyProof.Rows
set_option maxRecDepth 100000
set_option maxHeartbeats 0
set_option linter.unusedVariables false
namespace Mine
noncomputable abbrev pw : Program := PySem.Challenge.pw_sr0077_01
noncomputable abbrev cB : Code := Code.body (behindTheImports pw) pre.env_1
noncomputable def s0 (w : World) (os : OsState) : Shared := ⟨boot_heap w.params, Array.mk [], boot_drawn, boot_toks, os⟩
noncomputable def goP (w : World) (os : OsState) : Option (Shared × Thread) := topGo treeTable pw w 11 (some (.ref 6)) 12 (s0 w os) (topStub pw)
noncomputable def preS (w : World) (os : OsState) : Shared := match goP w os with | some (s, _) => s | none => s0 w os
theorem preGo (w : World) (os : OsState) : topGo treeTable pw w 11 (some (.ref 6)) 12 (s0 w os) (topStub pw) = some (preS w os, ⟨denote treeTable cB, cB, default, [tfr]⟩) := by
  kernel_rfl
theorem blockGo (w : World) (os : OsState) : segRun treeTable pw w 11 (some (.ref 6)) 1 1 (preS w os) (blockOf (behindTheImports pw) pre.env_1 cB default [tfr]) = some (.next, (s4 w os).abs, cB, { line := 0, col := 0, endLine := 0, endCol := 0 }) := by
  kernel_rfl
theorem finGo (s : Shared) (w : World) (q : Pos) : topRun treeTable pw w 11 (some (.ref 6)) 2 s ⟨doneF .next, cB, q, [tfr]⟩ = some s := by obtain ⟨h, g, d, k, os⟩ := s; rfl
theorem stsAll : behindTheImports pw = sts 0 57 ++ (sts 57 3 ++ (sts 60 11 ++ [])) := by kernel_rfl
noncomputable abbrev runN : Nat := 12 + (1 + (1857 + (1037 + ((12517 + 320) + 2))))
noncomputable def hB (P : Params) : Heap := absHeap (treeC b3f (!P.followText "set-order") P) 197 { }
theorem pieceA (w : World) (os : OsState) (p : Program) (b : List Stmt) : segRunT treeTable p w 11 (some (.ref 6)) 1 1037 (sK w os) (piecesOf (sts 57 3) pre.env_1 (Code.body b pre.env_1) posK [tfr]) =
    some (.next, sA (!w.params.followText "set-order") w os, Code.body b pre.env_1, { line := 105, col := 0, endLine := 106, endCol := 30 }) := by
  have h : ∀ b1 b2 : Bool, segRunT treeTable p (wf b1 b2 w) 11 (some (.ref 6)) 1 1037 (sK (wf b1 b2 w) os) (piecesOf (sts 57 3) pre.env_1 (Code.body b pre.env_1) posK [tfr]) =
    some (.next, sA (!b1) (wf b1 b2 w) os, Code.body b pre.env_1, { line := 105, col := 0, endLine := 106, endCol := 30 }) := fun b1 b2 => by
      cases b2
      · exact pieceA0 b1 w os p b
      · exact pieceA1 b1 w os p b
  have h1 := h (w.params.followText "set-order") (w.params.followText "special-get-raises")
  have e : wf (w.params.followText "set-order") (w.params.followText "special-get-raises") w = w := by
    unfold wf; rw [World.withFollow_self, World.withFollow_self]
  rw [e] at h1
  exact h1
theorem runTop (w : World) (os : OsState) : topRun treeTable pw w 11 (some (.ref 6)) runN (s0 w os) (topStub pw) = some ⟨hB w.params, { toList := [] }, { }, 2577, os⟩ := by
  have k1 := finGo (sC b3f (!w.params.followText "set-order") w os).abs w { line := 173, col := 0, endLine := 226, endCol := 50 }
  have k2 := piece_app (rest := []) (runB (!w.params.followText "set-order") w os pw (behindTheImports pw) { line := 105, col := 0, endLine := 106, endCol := 30 }) (piece_nil (env := pre.env_1) k1)
  have k3 := piece_app (segRun_of (pieceA w os pw (behindTheImports pw))) k2
  have k4 := piece_app (segRun_of (pieceK w os pw (behindTheImports pw))) k3
  rw [← stsAll] at k4
  exact go_top (preGo w os) (piece_block (blockGo w os) k4)
end Mine
end PartH16

section PartH17
open PySem PySem.W PySem.Calls PyProof.Rows
set_option maxRecDepth 100000
set_option maxHeartbeats 0
set_option linter.unusedVariables false
namespace Mine
noncomputable def qv : Program := { pw with main := { pw.main with body := [stmtAt 70] } }
noncomputable def looseL : List Str := pw.boundNames.filter fun n => n != ("law" : Str)
theorem look1 (f : Nat → Obj) (led : Bool) (P : Params) (os : OsState) : (staticsOk (importedModules pw.main.body) (boot_heap P) (absHeap (treeC f led P) 197 { }) && namesBound pw (absHeap (treeC f led P) 197 { }) && gensDone ⟨absHeap (treeC f led P) 197 { }, { toList := [] }, { }, 2577, os⟩ && laidKept (boot_heap P) (absHeap (treeC f led P) 197 { })) = true := by
  kernel_rfl
theorem look2 (f : Nat → Obj) (led : Bool) (P : Params) (os : OsState) : openSeen qv looseL (importedModules pw.main.body) (fun _ => true) true ⟨absHeap (treeC f led P) 197 { }, { toList := [] }, { }, 2577, os⟩ = openGood qv looseL := by
  rw [PySem.W.Fast.te4187177175401517315]
  kernel_rfl
end Mine
end PartH17

section PartH18
open PySem PySem.W PySem.Calls PyProof.Rows
set_option maxRecDepth 100000
set_option maxHeartbeats 0
set_option linter.unusedVariables false
namespace Mine
theorem left_law : LeftO pw qv looseL (fun _ => true) (fun s => s.heap) (fun w => hB w.params) 20000 := by
  refine LeftO.of_pieces (H₀ := boot_heap) (H₁ := hB) (gs₀ := Array.mk []) (gs₁ := Array.mk []) (d₀ := boot_drawn) (d₁ := { }) (k₀ := boot_toks) (k₁ := 2577) (m₀ := 11) (ann := some (.ref 6)) (M := runN) (boot_open ?_ (by decide) ?_) ?_ (fun w os => runTop w os) (by decide) ?_
  · rfl
  · intro s; rfl
  · intro w; kernel_rfl
  · intro w
    funext os
    exact Prod.ext (look1 b3f (!w.params.followText "set-order") w.params os) (Prod.ext (look2 b3f (!w.params.followText "set-order") w.params os) rfl)
end Mine
end PartH18

section PartH19
open PySem PySem.W PySem.Calls PyProof.Rows
set_option maxRecDepth 100000
set_option maxHeartbeats 0
set_option linter.unusedVariables false
namespace Mine
noncomputable abbrev Bx (f : Nat → Obj) (led : Bool) (P : Params) : Heap := (absHeap (treeC f led P) 197 { }).hide 153
section
variable (f : Nat → Obj) (led : Bool) (P : Params)
noncomputable def oAt (a : Addr) : Obj := ((Bx f led P).get? a).getD default
noncomputable def fAt (a : Addr) : FuncData := match (oAt f led P a).data with | .func fd => fd | _ => default
theorem bx_main : (Bx f led P).isNs mainGlobals = true := by kernel_rfl
theorem bx_blt : (Bx f led P).isNs builtinsNs = true := by kernel_rfl
theorem bx_stat : (Bx f led P).isNs cStatics = true ∧ (Bx f led P).nsMap cStatics "sys.recursionlimit" = none := ⟨by kernel_rfl, by kernel_rfl⟩
theorem bx_view : (Bx f led P).bltView = bltViewBooted := by kernel_rfl
theorem bx_free : ((["ord", "chr", "len", "min", "max", "sum", "set", "list", "range", "enumerate", "zip", "iter"] : List Str).all fun x => ((Bx f led P).nsMap mainGlobals x).isNone) = true := by kernel_rfl
end
noncomputable def cx (f : Nat → Obj) (led : Bool) (w : World) : Cx where
  p := pw
  w := w
  B := Bx f led w.params
  mg := (Bx f led w.params).nsMap mainGlobals
  mb := (Bx f led w.params).nsMap builtinsNs
  g := .of_isNs (bx_main _ _ _)
  b := .of_isNs (bx_blt _ _ _)
  nolimit := ⟨_, .of_isNs (bx_stat _ _ _).1, (bx_stat _ _ _).2⟩
  blt := fun x hx => Heap.of_bltView (bx_blt _ _ _) (bx_view _ _ _) x hx
  free := fun x hx => Option.isNone_iff_eq_none.mp (List.all_eq_true.mp (bx_free _ _ _) x hx)
  lexC := 76
  lamFd := LamFd
  readF := 59
  tabP := 153
noncomputable def codeFs (vs : Array Value) (q : Str) : Bool := match (vs[1]? : Option Value) with
  | some (.str q' _) => q' == q
  | _ => false
noncomputable def codeB (h : Heap) (cd : Value) (q : Str) : Bool := match cd with
  | .ref c => match h.get? c with
    | some o => match o.data with
      | .fields vs => codeFs vs q
      | _ => false
    | none => false
  | _ => false
theorem codeB_ok {h : Heap} {cd : Value} {q : Str} (e : codeB h cd q = true) : h.CodeRec cd q := by
  unfold codeB at e
  split at e
  · split at e
    · rename_i o ho
      split at e
      · rename_i vs hd
        unfold codeFs at e
        split at e
        · rename_i q' t hv
          exact ⟨_, _, _, t, rfl, ho, hd, by rw [hv, beq_iff_eq.mp e]⟩
        · cases e
      · cases e
    · cases e
  · cases e
noncomputable def fdB (h : Heap) (fd : FuncData) : Bool := codeB h fd.code fd.qualname && fd.closure.isEmpty && (fd.scope.kind == .function) && !fd.scope.isCoroutine && !fd.scope.isGenerator && fd.globals == mainGlobals && fd.builtins == builtinsNs
theorem fdB_ok {C : Cx} {fd : FuncData} {params names body} (e : fdB C.B fd = true) (h1 : fd.body = .stmts body) (h2 : fd.scope.names = names) (h3 : ∀ vals : List Value, vals.length = params.length → bindArgs fd ⟨vals, []⟩ = pure (params.zip vals)) : FdOk C fd params names body := by
  unfold fdB at e
  simp only [Bool.and_eq_true, beq_iff_eq, Bool.not_eq_true', List.isEmpty_iff] at e
  obtain ⟨⟨⟨⟨⟨⟨a, b⟩, c⟩, d⟩, e⟩, g⟩, i⟩ := e
  exact ⟨codeB_ok a, h1, b, h2, c, d, e, g, i, h3⟩
end Mine
end PartH19

section PartH20
open PySem PySem.W PySem.Calls PyProof.Rows
set_option maxRecDepth 100000
set_option maxHeartbeats 0
set_option linter.unusedVariables false
namespace Mine
theorem len0 {vs : List Value} (h : vs.length = 0) : vs = [] := List.eq_nil_of_length_eq_zero h
theorem len1 {vs : List Value} (h : vs.length = 1) : ∃ x, vs = [x] := let ⟨x, r, e, h⟩ := cons_of h; ⟨x, by rw [e, len0 h]⟩
theorem len2 {vs : List Value} (h : vs.length = 2) : ∃ x y, vs = [x, y] := let ⟨x, r, e, h⟩ := cons_of h; let ⟨y, e'⟩ := len1 h; ⟨x, y, by rw [e, e']⟩
theorem len3 {vs : List Value} (h : vs.length = 3) : ∃ x y z, vs = [x, y, z] := let ⟨x, r, e, h⟩ := cons_of h; let ⟨y, z, e'⟩ := len2 h; ⟨x, y, z, by rw [e, e']⟩
theorem kindsB_ok {params : List Str} {names : List (Str × NameKind)} (e : (params.all fun x => names.lookup x == some .local || names.lookup x == some .cell) = true) : ∀ x ∈ params, names.lookup x = some .local ∨ names.lookup x = some .cell := fun x hx => by
  have := List.all_eq_true.mp e x hx
  rcases Bool.or_eq_true_iff.mp this with h | h
  · exact .inl (beq_iff_eq.mp h)
  · exact .inr (beq_iff_eq.mp h)
theorem fn_mk {C : Cx} {name : Str} {params names body} {a : Addr} {o : Obj} {fd : FuncData} (h1 : C.mg name = some (.ref a)) (h2 : C.B.get? a = some o) (h3 : o.data = .func fd) (ok : FdOk C fd params names body) (sg : Sig params names) : Fn C name params names body :=
  ⟨⟨a, o, fd, h1, h2, h3, ok⟩, sg.nodup, sg.par, sg.kinds⟩
theorem at_ist (f led P) : (Bx f led P).get? 24 = some (oAt f led P 24) ∧ (oAt f led P 24).data = .func (fAt f led P 24) ∧ (oAt f led P 24).cls = .type "function" := ⟨by kernel_rfl, by kernel_rfl, by kernel_rfl⟩
theorem b_ist (f led P) : fdB (Bx f led P) (fAt f led P 24) = true := by kernel_rfl
theorem c_ist (f led P) : (fAt f led P 24).body = .stmts (bodyOf (stmtAt 52)) := by kernel_rfl
theorem d_ist (f led P) : (fAt f led P 24).scope.names = namesOf (stmtAt 52) := by kernel_rfl
theorem e_ist (f led P) : ∀ vals : List Value, vals.length = (["x"] : List Str).length → bindArgs (fAt f led P 24) ⟨vals, []⟩ = pure ((["x"] : List Str).zip vals) := fun vals h => by
  obtain ⟨x, e⟩ := len1 h; rw [e]; kernel_rfl
theorem fd_ist (f led) (w : World) : FdOk (cx f led w) (fAt f led w.params 24) ["x"] (namesOf (stmtAt 52)) (bodyOf (stmtAt 52)) :=
  fdB_ok (C := cx f led w) (b_ist f led w.params) (c_ist f led w.params) (d_ist f led w.params) (e_ist f led w.params)
theorem g_ist (f led) (w : World) : (cx f led w).mg "ISTERMINAL" = some (.ref 24) := by kernel_rfl
theorem sg_ist : Sig ["x"] (namesOf (stmtAt 52)) := ⟨nodupB_ok (by kernel_rfl), nodupB_ok (by kernel_rfl), kindsB_ok (by kernel_rfl)⟩
theorem fn_ist (f led) (w : World) : Fn (cx f led w) "ISTERMINAL" ["x"] (namesOf (stmtAt 52)) (bodyOf (stmtAt 52)) :=
  fn_mk (C := cx f led w) (g_ist f led w) (at_ist f led w.params).1 (at_ist f led w.params).2.1 (fd_ist f led w) sg_ist
theorem at_isn (f led P) : (Bx f led P).get? 31 = some (oAt f led P 31) ∧ (oAt f led P 31).data = .func (fAt f led P 31) ∧ (oAt f led P 31).cls = .type "function" := ⟨by kernel_rfl, by kernel_rfl, by kernel_rfl⟩
theorem b_isn (f led P) : fdB (Bx f led P) (fAt f led P 31) = true := by kernel_rfl
theorem c_isn (f led P) : (fAt f led P 31).body = .stmts (bodyOf (stmtAt 53)) := by kernel_rfl
theorem d_isn (f led P) : (fAt f led P 31).scope.names = namesOf (stmtAt 53) := by kernel_rfl
theorem e_isn (f led P) : ∀ vals : List Value, vals.length = (["x"] : List Str).length → bindArgs (fAt f led P 31) ⟨vals, []⟩ = pure ((["x"] : List Str).zip vals) := fun vals h => by
  obtain ⟨x, e⟩ := len1 h; rw [e]; kernel_rfl
theorem fd_isn (f led) (w : World) : FdOk (cx f led w) (fAt f led w.params 31) ["x"] (namesOf (stmtAt 53)) (bodyOf (stmtAt 53)) :=
  fdB_ok (C := cx f led w) (b_isn f led w.params) (c_isn f led w.params) (d_isn f led w.params) (e_isn f led w.params)
theorem g_isn (f led) (w : World) : (cx f led w).mg "ISNONTERMINAL" = some (.ref 31) := by kernel_rfl
theorem sg_isn : Sig ["x"] (namesOf (stmtAt 53)) := ⟨nodupB_ok (by kernel_rfl), nodupB_ok (by kernel_rfl), kindsB_ok (by kernel_rfl)⟩
theorem fn_isn (f led) (w : World) : Fn (cx f led w) "ISNONTERMINAL" ["x"] (namesOf (stmtAt 53)) (bodyOf (stmtAt 53)) :=
  fn_mk (C := cx f led w) (g_isn f led w) (at_isn f led w.params).1 (at_isn f led w.params).2.1 (fd_isn f led w) sg_isn
theorem at_ise (f led P) : (Bx f led P).get? 38 = some (oAt f led P 38) ∧ (oAt f led P 38).data = .func (fAt f led P 38) ∧ (oAt f led P 38).cls = .type "function" := ⟨by kernel_rfl, by kernel_rfl, by kernel_rfl⟩
theorem b_ise (f led P) : fdB (Bx f led P) (fAt f led P 38) = true := by kernel_rfl
theorem c_ise (f led P) : (fAt f led P 38).body = .stmts (bodyOf (stmtAt 54)) := by kernel_rfl
theorem d_ise (f led P) : (fAt f led P 38).scope.names = namesOf (stmtAt 54) := by kernel_rfl
theorem e_ise (f led P) : ∀ vals : List Value, vals.length = (["x"] : List Str).length → bindArgs (fAt f led P 38) ⟨vals, []⟩ = pure ((["x"] : List Str).zip vals) := fun vals h => by
  obtain ⟨x, e⟩ := len1 h; rw [e]; kernel_rfl
theorem fd_ise (f led) (w : World) : FdOk (cx f led w) (fAt f led w.params 38) ["x"] (namesOf (stmtAt 54)) (bodyOf (stmtAt 54)) :=
  fdB_ok (C := cx f led w) (b_ise f led w.params) (c_ise f led w.params) (d_ise f led w.params) (e_ise f led w.params)
theorem g_ise (f led) (w : World) : (cx f led w).mg "ISEOF" = some (.ref 38) := by kernel_rfl
theorem sg_ise : Sig ["x"] (namesOf (stmtAt 54)) := ⟨nodupB_ok (by kernel_rfl), nodupB_ok (by kernel_rfl), kindsB_ok (by kernel_rfl)⟩
theorem fn_ise (f led) (w : World) : Fn (cx f led w) "ISEOF" ["x"] (namesOf (stmtAt 54)) (bodyOf (stmtAt 54)) :=
  fn_mk (C := cx f led w) (g_ise f led w) (at_ise f led w.params).1 (at_ise f led w.params).2.1 (fd_ise f led w) sg_ise
theorem at_inb1 (f led P) : (Bx f led P).get? 98 = some (oAt f led P 98) ∧ (oAt f led P 98).data = .func (fAt f led P 98) ∧ (oAt f led P 98).cls = .type "function" := ⟨by kernel_rfl, by kernel_rfl, by kernel_rfl⟩
theorem b_inb1 (f led P) : fdB (Bx f led P) (fAt f led P 98) = true := by kernel_rfl
theorem c_inb1 (f led P) : (fAt f led P 98).body = .stmts (bodyOf (stmtAt 59)) := by kernel_rfl
theorem d_inb1 (f led P) : (fAt f led P 98).scope.names = namesOf (stmtAt 59) := by kernel_rfl
theorem e_inb1 (f led P) : ∀ vals : List Value, vals.length = (["code"] : List Str).length → bindArgs (fAt f led P 98) ⟨vals, []⟩ = pure ((["code"] : List Str).zip vals) := fun vals h => by
  obtain ⟨x, e⟩ := len1 h; rw [e]; kernel_rfl
theorem fd_inb1 (f led) (w : World) : FdOk (cx f led w) (fAt f led w.params 98) ["code"] (namesOf (stmtAt 59)) (bodyOf (stmtAt 59)) :=
  fdB_ok (C := cx f led w) (b_inb1 f led w.params) (c_inb1 f led w.params) (d_inb1 f led w.params) (e_inb1 f led w.params)
theorem g_inb1 (f led) (w : World) : (cx f led w).mg "in_table_b1" = some (.ref 98) := by kernel_rfl
theorem sg_inb1 : Sig ["code"] (namesOf (stmtAt 59)) := ⟨nodupB_ok (by kernel_rfl), nodupB_ok (by kernel_rfl), kindsB_ok (by kernel_rfl)⟩
theorem fn_inb1 (f led) (w : World) : Fn (cx f led w) "in_table_b1" ["code"] (namesOf (stmtAt 59)) (bodyOf (stmtAt 59)) :=
  fn_mk (C := cx f led w) (g_inb1 f led w) (at_inb1 f led w.params).1 (at_inb1 f led w.params).2.1 (fd_inb1 f led w) sg_inb1
theorem at_mapb3 (f led P) : (Bx f led P).get? 144 = some (oAt f led P 144) ∧ (oAt f led P 144).data = .func (fAt f led P 144) ∧ (oAt f led P 144).cls = .type "function" := ⟨by kernel_rfl, by kernel_rfl, by kernel_rfl⟩
theorem b_mapb3 (f led P) : fdB (Bx f led P) (fAt f led P 144) = true := by kernel_rfl
theorem c_mapb3 (f led P) : (fAt f led P 144).body = .stmts (bodyOf (stmtAt 61)) := by kernel_rfl
theorem d_mapb3 (f led P) : (fAt f led P 144).scope.names = namesOf (stmtAt 61) := by kernel_rfl
theorem e_mapb3 (f led P) : ∀ vals : List Value, vals.length = (["code"] : List Str).length → bindArgs (fAt f led P 144) ⟨vals, []⟩ = pure ((["code"] : List Str).zip vals) := fun vals h => by
  obtain ⟨x, e⟩ := len1 h; rw [e]; kernel_rfl
theorem fd_mapb3 (f led) (w : World) : FdOk (cx f led w) (fAt f led w.params 144) ["code"] (namesOf (stmtAt 61)) (bodyOf (stmtAt 61)) :=
  fdB_ok (C := cx f led w) (b_mapb3 f led w.params) (c_mapb3 f led w.params) (d_mapb3 f led w.params) (e_mapb3 f led w.params)
theorem g_mapb3 (f led) (w : World) : (cx f led w).mg "map_table_b3" = some (.ref 144) := by kernel_rfl
theorem sg_mapb3 : Sig ["code"] (namesOf (stmtAt 61)) := ⟨nodupB_ok (by kernel_rfl), nodupB_ok (by kernel_rfl), kindsB_ok (by kernel_rfl)⟩
theorem fn_mapb3 (f led) (w : World) : Fn (cx f led w) "map_table_b3" ["code"] (namesOf (stmtAt 61)) (bodyOf (stmtAt 61)) :=
  fn_mk (C := cx f led w) (g_mapb3 f led w) (at_mapb3 f led w.params).1 (at_mapb3 f led w.params).2.1 (fd_mapb3 f led w) sg_mapb3
theorem at_ops (f led P) : (Bx f led P).get? 151 = some (oAt f led P 151) ∧ (oAt f led P 151).data = .func (fAt f led P 151) ∧ (oAt f led P 151).cls = .type "function" := ⟨by kernel_rfl, by kernel_rfl, by kernel_rfl⟩
theorem b_ops (f led P) : fdB (Bx f led P) (fAt f led P 151) = true := by kernel_rfl
theorem c_ops (f led P) : (fAt f led P 151).body = .stmts (bodyOf (stmtAt 63)) := by kernel_rfl
theorem d_ops (f led P) : (fAt f led P 151).scope.names = namesOf (stmtAt 63) := by kernel_rfl
theorem e_ops (f led P) : ∀ vals : List Value, vals.length = ([] : List Str).length → bindArgs (fAt f led P 151) ⟨vals, []⟩ = pure (([] : List Str).zip vals) := fun vals h => by
  rw [len0 h]; kernel_rfl
theorem fd_ops (f led) (w : World) : FdOk (cx f led w) (fAt f led w.params 151) [] (namesOf (stmtAt 63)) (bodyOf (stmtAt 63)) :=
  fdB_ok (C := cx f led w) (b_ops f led w.params) (c_ops f led w.params) (d_ops f led w.params) (e_ops f led w.params)
theorem g_ops (f led) (w : World) : (cx f led w).mg "_law_operators" = some (.ref 151) := by kernel_rfl
theorem sg_ops : Sig [] (namesOf (stmtAt 63)) := ⟨nodupB_ok (by kernel_rfl), nodupB_ok (by kernel_rfl), kindsB_ok (by kernel_rfl)⟩
theorem fn_ops (f led) (w : World) : Fn (cx f led w) "_law_operators" [] (namesOf (stmtAt 63)) (bodyOf (stmtAt 63)) :=
  fn_mk (C := cx f led w) (g_ops f led w) (at_ops f led w.params).1 (at_ops f led w.params).2.1 (fd_ops f led w) sg_ops
theorem at_text (f led P) : (Bx f led P).get? 165 = some (oAt f led P 165) ∧ (oAt f led P 165).data = .func (fAt f led P 165) ∧ (oAt f led P 165).cls = .type "function" := ⟨by kernel_rfl, by kernel_rfl, by kernel_rfl⟩
theorem b_text (f led P) : fdB (Bx f led P) (fAt f led P 165) = true := by kernel_rfl
theorem c_text (f led P) : (fAt f led P 165).body = .stmts (bodyOf (stmtAt 65)) := by kernel_rfl
theorem d_text (f led P) : (fAt f led P 165).scope.names = namesOf (stmtAt 65) := by kernel_rfl
theorem e_text (f led P) : ∀ vals : List Value, vals.length = (["words", "figures"] : List Str).length → bindArgs (fAt f led P 165) ⟨vals, []⟩ = pure ((["words", "figures"] : List Str).zip vals) := fun vals h => by
  obtain ⟨x, y, e⟩ := len2 h; rw [e]; kernel_rfl
theorem fd_text (f led) (w : World) : FdOk (cx f led w) (fAt f led w.params 165) ["words", "figures"] (namesOf (stmtAt 65)) (bodyOf (stmtAt 65)) :=
  fdB_ok (C := cx f led w) (b_text f led w.params) (c_text f led w.params) (d_text f led w.params) (e_text f led w.params)
theorem g_text (f led) (w : World) : (cx f led w).mg "_law_text" = some (.ref 165) := by kernel_rfl
theorem sg_text : Sig ["words", "figures"] (namesOf (stmtAt 65)) := ⟨nodupB_ok (by kernel_rfl), nodupB_ok (by kernel_rfl), kindsB_ok (by kernel_rfl)⟩
theorem fn_text (f led) (w : World) : Fn (cx f led w) "_law_text" ["words", "figures"] (namesOf (stmtAt 65)) (bodyOf (stmtAt 65)) :=
  fn_mk (C := cx f led w) (g_text f led w) (at_text f led w.params).1 (at_text f led w.params).2.1 (fd_text f led w) sg_text
theorem at_word (f led P) : (Bx f led P).get? 172 = some (oAt f led P 172) ∧ (oAt f led P 172).data = .func (fAt f led P 172) ∧ (oAt f led P 172).cls = .type "function" := ⟨by kernel_rfl, by kernel_rfl, by kernel_rfl⟩
theorem b_word (f led P) : fdB (Bx f led P) (fAt f led P 172) = true := by kernel_rfl
theorem c_word (f led P) : (fAt f led P 172).body = .stmts (bodyOf (stmtAt 66)) := by kernel_rfl
theorem d_word (f led P) : (fAt f led P 172).scope.names = namesOf (stmtAt 66) := by kernel_rfl
theorem e_word (f led P) : ∀ vals : List Value, vals.length = (["plain", "form", "start"] : List Str).length → bindArgs (fAt f led P 172) ⟨vals, []⟩ = pure ((["plain", "form", "start"] : List Str).zip vals) := fun vals h => by
  obtain ⟨x, y, z, e⟩ := len3 h; rw [e]; kernel_rfl
theorem fd_word (f led) (w : World) : FdOk (cx f led w) (fAt f led w.params 172) ["plain", "form", "start"] (namesOf (stmtAt 66)) (bodyOf (stmtAt 66)) :=
  fdB_ok (C := cx f led w) (b_word f led w.params) (c_word f led w.params) (d_word f led w.params) (e_word f led w.params)
theorem g_word (f led) (w : World) : (cx f led w).mg "_law_word" = some (.ref 172) := by kernel_rfl
theorem sg_word : Sig ["plain", "form", "start"] (namesOf (stmtAt 66)) := ⟨nodupB_ok (by kernel_rfl), nodupB_ok (by kernel_rfl), kindsB_ok (by kernel_rfl)⟩
theorem fn_word (f led) (w : World) : Fn (cx f led w) "_law_word" ["plain", "form", "start"] (namesOf (stmtAt 66)) (bodyOf (stmtAt 66)) :=
  fn_mk (C := cx f led w) (g_word f led w) (at_word f led w.params).1 (at_word f led w.params).2.1 (fd_word f led w) sg_word
theorem at_plain (f led P) : (Bx f led P).get? 179 = some (oAt f led P 179) ∧ (oAt f led P 179).data = .func (fAt f led P 179) ∧ (oAt f led P 179).cls = .type "function" := ⟨by kernel_rfl, by kernel_rfl, by kernel_rfl⟩
theorem b_plain (f led P) : fdB (Bx f led P) (fAt f led P 179) = true := by kernel_rfl
theorem c_plain (f led P) : (fAt f led P 179).body = .stmts (bodyOf (stmtAt 67)) := by kernel_rfl
theorem d_plain (f led P) : (fAt f led P 179).scope.names = namesOf (stmtAt 67) := by kernel_rfl
theorem e_plain (f led P) : ∀ vals : List Value, vals.length = (["word"] : List Str).length → bindArgs (fAt f led P 179) ⟨vals, []⟩ = pure ((["word"] : List Str).zip vals) := fun vals h => by
  obtain ⟨x, e⟩ := len1 h; rw [e]; kernel_rfl
theorem fd_plain (f led) (w : World) : FdOk (cx f led w) (fAt f led w.params 179) ["word"] (namesOf (stmtAt 67)) (bodyOf (stmtAt 67)) :=
  fdB_ok (C := cx f led w) (b_plain f led w.params) (c_plain f led w.params) (d_plain f led w.params) (e_plain f led w.params)
theorem g_plain (f led) (w : World) : (cx f led w).mg "_law_plain" = some (.ref 179) := by kernel_rfl
theorem sg_plain : Sig ["word"] (namesOf (stmtAt 67)) := ⟨nodupB_ok (by kernel_rfl), nodupB_ok (by kernel_rfl), kindsB_ok (by kernel_rfl)⟩
theorem fn_plain (f led) (w : World) : Fn (cx f led w) "_law_plain" ["word"] (namesOf (stmtAt 67)) (bodyOf (stmtAt 67)) :=
  fn_mk (C := cx f led w) (g_plain f led w) (at_plain f led w.params).1 (at_plain f led w.params).2.1 (fd_plain f led w) sg_plain
theorem at_clause (f led P) : (Bx f led P).get? 186 = some (oAt f led P 186) ∧ (oAt f led P 186).data = .func (fAt f led P 186) ∧ (oAt f led P 186).cls = .type "function" := ⟨by kernel_rfl, by kernel_rfl, by kernel_rfl⟩
theorem b_clause (f led P) : fdB (Bx f led P) (fAt f led P 186) = true := by kernel_rfl
theorem c_clause (f led P) : (fAt f led P 186).body = .stmts (bodyOf (stmtAt 68)) := by kernel_rfl
theorem d_clause (f led P) : (fAt f led P 186).scope.names = namesOf (stmtAt 68) := by kernel_rfl
theorem e_clause (f led P) : ∀ vals : List Value, vals.length = (["plain", "names"] : List Str).length → bindArgs (fAt f led P 186) ⟨vals, []⟩ = pure ((["plain", "names"] : List Str).zip vals) := fun vals h => by
  obtain ⟨x, y, e⟩ := len2 h; rw [e]; kernel_rfl
theorem fd_clause (f led) (w : World) : FdOk (cx f led w) (fAt f led w.params 186) ["plain", "names"] (namesOf (stmtAt 68)) (bodyOf (stmtAt 68)) :=
  fdB_ok (C := cx f led w) (b_clause f led w.params) (c_clause f led w.params) (d_clause f led w.params) (e_clause f led w.params)
theorem g_clause (f led) (w : World) : (cx f led w).mg "_law_clause" = some (.ref 186) := by kernel_rfl
theorem sg_clause : Sig ["plain", "names"] (namesOf (stmtAt 68)) := ⟨nodupB_ok (by kernel_rfl), nodupB_ok (by kernel_rfl), kindsB_ok (by kernel_rfl)⟩
theorem fn_clause (f led) (w : World) : Fn (cx f led w) "_law_clause" ["plain", "names"] (namesOf (stmtAt 68)) (bodyOf (stmtAt 68)) :=
  fn_mk (C := cx f led w) (g_clause f led w) (at_clause f led w.params).1 (at_clause f led w.params).2.1 (fd_clause f led w) sg_clause
theorem at_least (f led P) : (Bx f led P).get? 191 = some (oAt f led P 191) ∧ (oAt f led P 191).data = .func (fAt f led P 191) ∧ (oAt f led P 191).cls = .type "function" := ⟨by kernel_rfl, by kernel_rfl, by kernel_rfl⟩
theorem b_least (f led P) : fdB (Bx f led P) (fAt f led P 191) = true := by kernel_rfl
theorem c_least (f led P) : (fAt f led P 191).body = .stmts (bodyOf (stmtAt 69)) := by kernel_rfl
theorem d_least (f led P) : (fAt f led P 191).scope.names = namesOf (stmtAt 69) := by kernel_rfl
theorem e_least (f led P) : ∀ vals : List Value, vals.length = (["sets"] : List Str).length → bindArgs (fAt f led P 191) ⟨vals, []⟩ = pure ((["sets"] : List Str).zip vals) := fun vals h => by
  obtain ⟨x, e⟩ := len1 h; rw [e]; kernel_rfl
theorem fd_least (f led) (w : World) : FdOk (cx f led w) (fAt f led w.params 191) ["sets"] (namesOf (stmtAt 69)) (bodyOf (stmtAt 69)) :=
  fdB_ok (C := cx f led w) (b_least f led w.params) (c_least f led w.params) (d_least f led w.params) (e_least f led w.params)
theorem g_least (f led) (w : World) : (cx f led w).mg "_law_least" = some (.ref 191) := by kernel_rfl
theorem sg_least : Sig ["sets"] (namesOf (stmtAt 69)) := ⟨nodupB_ok (by kernel_rfl), nodupB_ok (by kernel_rfl), kindsB_ok (by kernel_rfl)⟩
theorem fn_least (f led) (w : World) : Fn (cx f led w) "_law_least" ["sets"] (namesOf (stmtAt 69)) (bodyOf (stmtAt 69)) :=
  fn_mk (C := cx f led w) (g_least f led w) (at_least f led w.params).1 (at_least f led w.params).2.1 (fd_least f led w) sg_least
theorem at_lexer (f led P) : (Bx f led P).get? 158 = some (oAt f led P 158) ∧ (oAt f led P 158).data = .func (fAt f led P 158) ∧ (oAt f led P 158).cls = .type "function" := ⟨by kernel_rfl, by kernel_rfl, by kernel_rfl⟩
theorem b_lexer (f led P) : fdB (Bx f led P) (fAt f led P 158) = true := by kernel_rfl
theorem c_lexer (f led P) : (fAt f led P 158).body = .stmts (bodyOf (stmtAt 64)) := by kernel_rfl
theorem d_lexer (f led P) : (fAt f led P 158).scope.names = namesOf (stmtAt 64) := by kernel_rfl
theorem e_lexer (f led P) : ∀ vals : List Value, vals.length = (["text"] : List Str).length → bindArgs (fAt f led P 158) ⟨vals, []⟩ = pure ((["text"] : List Str).zip vals) := fun vals h => by
  obtain ⟨x, e⟩ := len1 h; rw [e]; kernel_rfl
theorem fd_lexer (f led) (w : World) : FdOk (cx f led w) (fAt f led w.params 158) ["text"] (namesOf (stmtAt 64)) (bodyOf (stmtAt 64)) :=
  fdB_ok (C := cx f led w) (b_lexer f led w.params) (c_lexer f led w.params) (d_lexer f led w.params) (e_lexer f led w.params)
theorem g_lexer (f led) (w : World) : (cx f led w).mg "_law_lexer" = some (.ref 158) := by kernel_rfl
theorem sg_lexer : Sig ["text"] (namesOf (stmtAt 64)) := ⟨nodupB_ok (by kernel_rfl), nodupB_ok (by kernel_rfl), kindsB_ok (by kernel_rfl)⟩
theorem fn_lexer (f led) (w : World) : Fn (cx f led w) "_law_lexer" ["text"] (namesOf (stmtAt 64)) (bodyOf (stmtAt 64)) :=
  fn_mk (C := cx f led w) (g_lexer f led w) (at_lexer f led w.params).1 (at_lexer f led w.params).2.1 (fd_lexer f led w) sg_lexer
theorem at_law (f led P) : (Bx f led P).get? 196 = some (oAt f led P 196) ∧ (oAt f led P 196).data = .func (fAt f led P 196) ∧ (oAt f led P 196).cls = .type "function" := ⟨by kernel_rfl, by kernel_rfl, by kernel_rfl⟩
theorem b_law (f led P) : fdB (Bx f led P) (fAt f led P 196) = true := by kernel_rfl
theorem c_law (f led P) : (fAt f led P 196).body = .stmts (bodyOf (stmtAt 70)) := by kernel_rfl
theorem d_law (f led P) : (fAt f led P 196).scope.names = namesOf (stmtAt 70) := by kernel_rfl
theorem e_law (f led P) : ∀ vals : List Value, vals.length = (["script"] : List Str).length → bindArgs (fAt f led P 196) ⟨vals, []⟩ = pure ((["script"] : List Str).zip vals) := fun vals h => by
  obtain ⟨x, e⟩ := len1 h; rw [e]; kernel_rfl
theorem fd_law (f led) (w : World) : FdOk (cx f led w) (fAt f led w.params 196) ["script"] (namesOf (stmtAt 70)) (bodyOf (stmtAt 70)) :=
  fdB_ok (C := cx f led w) (b_law f led w.params) (c_law f led w.params) (d_law f led w.params) (e_law f led w.params)
theorem g_law (f led) (w : World) : (cx f led w).mg "law" = some (.ref 196) := by kernel_rfl
theorem sg_law : Sig ["script"] (namesOf (stmtAt 70)) := ⟨nodupB_ok (by kernel_rfl), nodupB_ok (by kernel_rfl), kindsB_ok (by kernel_rfl)⟩
theorem fn_law (f led) (w : World) : Fn (cx f led w) "law" ["script"] (namesOf (stmtAt 70)) (bodyOf (stmtAt 70)) :=
  fn_mk (C := cx f led w) (g_law f led w) (at_law f led w.params).1 (at_law f led w.params).2.1 (fd_law f led w) sg_law
theorem at_m0 (f led P) : (Bx f led P).get? 52 = some (oAt f led P 52) ∧ (oAt f led P 52).data = .func (fAt f led P 52) ∧ (oAt f led P 52).cls = .type "function" := ⟨by kernel_rfl, by kernel_rfl, by kernel_rfl⟩
theorem b_m0 (f led P) : fdB (Bx f led P) (fAt f led P 52) = true := by kernel_rfl
theorem c_m0 (f led P) : (fAt f led P 52).body = .stmts (bodyOf (mthAt 0)) := by kernel_rfl
theorem d_m0 (f led P) : (fAt f led P 52).scope.names = namesOf (mthAt 0) := by kernel_rfl
theorem e_m0 (f led P) : ∀ vals : List Value, vals.length = (["self", "fp"] : List Str).length → bindArgs (fAt f led P 52) ⟨vals, []⟩ = pure ((["self", "fp"] : List Str).zip vals) := fun vals h => by
  obtain ⟨x, y, e⟩ := len2 h; rw [e]; kernel_rfl
theorem fd_m0 (f led) (w : World) : FdOk (cx f led w) (fAt f led w.params 52) ["self", "fp"] (namesOf (mthAt 0)) (bodyOf (mthAt 0)) :=
  fdB_ok (C := cx f led w) (b_m0 f led w.params) (c_m0 f led w.params) (d_m0 f led w.params) (e_m0 f led w.params)
theorem at_m1 (f led P) : (Bx f led P).get? 59 = some (oAt f led P 59) ∧ (oAt f led P 59).data = .func (fAt f led P 59) ∧ (oAt f led P 59).cls = .type "function" := ⟨by kernel_rfl, by kernel_rfl, by kernel_rfl⟩
theorem b_m1 (f led P) : fdB (Bx f led P) (fAt f led P 59) = true := by kernel_rfl
theorem c_m1 (f led P) : (fAt f led P 59).body = .stmts (bodyOf (mthAt 1)) := by kernel_rfl
theorem d_m1 (f led P) : (fAt f led P 59).scope.names = namesOf (mthAt 1) := by kernel_rfl
theorem e_m1 (f led P) : ∀ vals : List Value, vals.length = (["self"] : List Str).length → bindArgs (fAt f led P 59) ⟨vals, []⟩ = pure ((["self"] : List Str).zip vals) := fun vals h => by
  obtain ⟨x, e⟩ := len1 h; rw [e]; kernel_rfl
theorem fd_m1 (f led) (w : World) : FdOk (cx f led w) (fAt f led w.params 59) ["self"] (namesOf (mthAt 1)) (bodyOf (mthAt 1)) :=
  fdB_ok (C := cx f led w) (b_m1 f led w.params) (c_m1 f led w.params) (d_m1 f led w.params) (e_m1 f led w.params)
theorem at_m2 (f led P) : (Bx f led P).get? 66 = some (oAt f led P 66) ∧ (oAt f led P 66).data = .func (fAt f led P 66) ∧ (oAt f led P 66).cls = .type "function" := ⟨by kernel_rfl, by kernel_rfl, by kernel_rfl⟩
theorem b_m2 (f led P) : fdB (Bx f led P) (fAt f led P 66) = true := by kernel_rfl
theorem c_m2 (f led P) : (fAt f led P 66).body = .stmts (bodyOf (mthAt 2)) := by kernel_rfl
theorem d_m2 (f led P) : (fAt f led P 66).scope.names = namesOf (mthAt 2) := by kernel_rfl
theorem e_m2 (f led P) : ∀ vals : List Value, vals.length = (["self"] : List Str).length → bindArgs (fAt f led P 66) ⟨vals, []⟩ = pure ((["self"] : List Str).zip vals) := fun vals h => by
  obtain ⟨x, e⟩ := len1 h; rw [e]; kernel_rfl
theorem fd_m2 (f led) (w : World) : FdOk (cx f led w) (fAt f led w.params 66) ["self"] (namesOf (mthAt 2)) (bodyOf (mthAt 2)) :=
  fdB_ok (C := cx f led w) (b_m2 f led w.params) (c_m2 f led w.params) (d_m2 f led w.params) (e_m2 f led w.params)
theorem at_m3 (f led P) : (Bx f led P).get? 73 = some (oAt f led P 73) ∧ (oAt f led P 73).data = .func (fAt f led P 73) ∧ (oAt f led P 73).cls = .type "function" := ⟨by kernel_rfl, by kernel_rfl, by kernel_rfl⟩
theorem b_m3 (f led P) : fdB (Bx f led P) (fAt f led P 73) = true := by kernel_rfl
theorem c_m3 (f led P) : (fAt f led P 73).body = .stmts (bodyOf (mthAt 3)) := by kernel_rfl
theorem d_m3 (f led P) : (fAt f led P 73).scope.names = namesOf (mthAt 3) := by kernel_rfl
theorem e_m3 (f led P) : ∀ vals : List Value, vals.length = (["self", "token"] : List Str).length → bindArgs (fAt f led P 73) ⟨vals, []⟩ = pure ((["self", "token"] : List Str).zip vals) := fun vals h => by
  obtain ⟨x, y, e⟩ := len2 h; rw [e]; kernel_rfl
theorem fd_m3 (f led) (w : World) : FdOk (cx f led w) (fAt f led w.params 73) ["self", "token"] (namesOf (mthAt 3)) (bodyOf (mthAt 3)) :=
  fdB_ok (C := cx f led w) (b_m3 f led w.params) (c_m3 f led w.params) (d_m3 f led w.params) (e_m3 f led w.params)
end Mine
end PartH20

section PartH21
open PySem PySem.W PySem.Calls PyProof.Rows
set_option maxRecDepth 100000
set_option maxHeartbeats 4000000
set_option linter.unusedVariables false
namespace Mine
inductive F2 {α β : Type} (R : α → β → Prop) : List α → List β → Prop
  | nil : F2 R [] []
  | cons {a b l m} : R a b → F2 R l m → F2 R (a :: l) (b :: m)
/-- an entry of an int and a str -/
noncomputable def EnR (e : DictEntry) (x : Int × Str) : Prop := e.hash = hashInt x.1 ∧ ∃ t u, e.key = .int x.1 t ∧ e.val = .str x.2 u
theorem f2_app {α β : Type} {R : α → β → Prop} : ∀ {a b c d}, F2 R a b → F2 R c d → F2 R (a ++ c) (b ++ d)
  | _, _, _, _, .nil, h => h
  | _, _, _, _, .cons x r, h => .cons x (f2_app r h)
theorem ents_f2 : ∀ (L : List (Int × Str)) (t : Nat), F2 EnR (ents t L) L
  | [], _ => .nil
  | (k, v) :: r, t => .cons ⟨rfl, _, _, rfl, rfl⟩ (ents_f2 r (t + 3))
theorem entsS_f2 : ∀ (L : List (Int × Str)) (t : Nat), F2 EnR (entsS t L) L
  | [], _ => .nil
  | x :: r, t => .cons ⟨rfl, _, _, rfl, rfl⟩ (entsS_f2 r (t + 2))
theorem entsC_f2 : ∀ (Cs : List (List Cp)) (t : Nat), F2 EnR (entsC t Cs) (Cs.flatten.map (·.1))
  | [], _ => .nil
  | C :: Cs, t => by
    rw [List.flatten_cons, List.map_append]
    exact f2_app (ents_f2 _ _) (entsC_f2 Cs _)
theorem f2_vals {E : List DictEntry} {L : List (Int × Str)} (h : F2 EnR E L) : ∃ kvs : List (Int × Value), (∀ e ∈ E, ∃ k, Value.isInt k e.key = true ∧ e.hash = hashInt k) ∧ kvs.map (·.1) = L.map (·.1) ∧
    (∀ (p : Program) (w : World), Pairs (intKind p w) E kvs) ∧ ∀ i, (valueAt kvs i = none ∧ L.find? (fun x => x.1 == i) = none) ∨ ∃ y t x, valueAt kvs i = some (.str y t) ∧ L.find? (fun x => x.1 == i) = some x ∧ x.2 = y := by
  induction h with
  | nil => exact ⟨[], fun _ h => (nomatch h), rfl, fun _ _ => .nil, fun i => .inl ⟨rfl, rfl⟩⟩
  | @cons e x E L hx hr ih =>
    obtain ⟨kvs, h1, h2, h3, h4⟩ := ih
    obtain ⟨hh, t, u, hk, hv⟩ := hx
    refine ⟨(x.1, e.val) :: kvs, fun e' he => ?_, by rw [List.map_cons, List.map_cons, h2], fun p w => .cons (by rw [hk]; simp [intKind, Value.isInt]) rfl (h3 p w), fun i => ?_⟩
    · rcases List.mem_cons.mp he with rfl | he
      · exact ⟨x.1, by rw [hk]; simp [Value.isInt], hh⟩
      · exact h1 e' he
    · by_cases q : x.1 = i
      · right
        refine ⟨x.2, u, x, ?_, ?_, rfl⟩
        · unfold valueAt; rw [List.find?_cons]; simp [q, hv]
        · rw [List.find?_cons]; simp [q]
      · have e1 : valueAt ((x.1, e.val) :: kvs) i = valueAt kvs i := by unfold valueAt; rw [List.find?_cons]; simp [q]
        have e2 : (x :: L).find? (fun x => x.1 == i) = L.find? (fun x => x.1 == i) := by rw [List.find?_cons, show (x.1 == i) = false from by simpa using q]
        rw [e1, e2]; exact h4 i
noncomputable def T3 (i : Int) : Option Str := ((b3.L.map (·.1)).find? fun x => x.1 == i).map (·.2)
theorem b3_head {t : Nat} {C0 R L : List Cp} {Cs : List (List Cp)} (hL : L = C0 ++ (Cs.flatten ++ R)) : ∃ (E : List DictEntry) (n : Nat), (dispObjs t C0 Cs R).getD 0 default = dob E.toArray n ∧ F2 EnR E (L.map (·.1)) := by
  subst hL
  refine ⟨_, _, rfl, ?_⟩
  rw [List.map_append, List.map_append, ← List.append_assoc]
  exact f2_app (f2_app (ents_f2 _ _) (entsC_f2 _ _)) (entsS_f2 _ _)
theorem keys_nodup {L : List Cp} (h : (L.map fun x => hashInt x.1.1).Nodup) : ((L.map (·.1)).map (·.1)).Nodup := by
  have : (L.map fun x => hashInt x.1.1) = ((L.map (·.1)).map (·.1)).map hashInt := by rw [List.map_map, List.map_map]; rfl
  rw [this] at h
  exact (List.pairwise_map.mp h).imp fun hne e => hne (congrArg hashInt e)
theorem b3_obj : ∃ (E : List DictEntry) (n : Nat), b3f 0 = dob E.toArray n ∧ F2 EnR E (b3.L.map (·.1)) := by
  unfold b3f b3Objs
  exact b3_head b3_split
noncomputable def withB (es : List DictEntry) (n : Nat) (g : Nat → Obj) : Nat → Obj
  | 0 => dob es.toArray n
  | i + 1 => g i
theorem at_b3' (es : List DictEntry) (n : Nat) (g led P) : (Bx (withB es n g) led P).get? 99 = some (dob es.toArray n) := by kernel_rfl
theorem at_b3 {f : Nat → Obj} {es : List DictEntry} {n : Nat} (h : f 0 = dob es.toArray n) (led P) : (Bx f led P).get? 99 = some (dob es.toArray n) := by
  have e : f = withB es n (fun i => f (i + 1)) := by
    funext i
    cases i with
    | zero => exact h
    | succ i => rfl
  rw [e]
  exact at_b3' _ _ _ _ _
theorem mg_b3 (f led) (w : World) : (cx f led w).mg "b3_exceptions" = some (.ref 99) := by kernel_rfl
theorem gtab (led) (w : World) : GTab (cx b3f led w) "b3_exceptions" T3 := by
  obtain ⟨E, n, h, hf⟩ := b3_obj
  obtain ⟨kvs, h1, h2, h3, h4⟩ := f2_vals hf
  refine ⟨99, kvs, mg_b3 _ _ _, ⟨dob E.toArray n, E.toArray, n, at_b3 h led w.params, ⟨rfl, rfl, rfl⟩, rfl, fun e he => h1 e (by simpa using he), by simpa using h3 _ _, ?_⟩, by decide, fun i => ?_⟩
  · rw [h2]; exact keys_nodup b3_nodup
  · rcases h4 i with ⟨a, b⟩ | ⟨y, t, x, a, b, c⟩
    · exact .inl ⟨a, by unfold T3; rw [b]; rfl⟩
    · exact .inr ⟨y, t, a, by unfold T3; rw [b]; exact congrArg some c⟩
end Mine
end PartH21

section PartH22
open PySem PySem.W PySem.Calls PyProof.Rows
set_option maxRecDepth 100000
set_option maxHeartbeats 4000000
set_option linter.unusedVariables false
namespace Mine
noncomputable def b1N : List (Int × Nat) := [(65024, 485), (65025, 486), (65026, 487), (65027, 488), (65028, 489), (65029, 490), (6150, 471), (65030, 491), (65031, 492), (65032, 493), (65033, 494), (6155, 472), (6156, 473), (6157, 474), (8203, 475), (8204, 476), (8205, 477), (65034, 495), (65035, 496), (65036, 497), (65037, 498), (65038, 499), (65039, 500), (173, 469), (847, 470), (8288, 478), (65279, 479)]
noncomputable def b1E : List (Int × Value) := b1N.map fun x => (x.1, .int x.1 x.2)
noncomputable def T1 (i : Int) : Bool := b1N.any fun x => x.1 == i
theorem at_b1 (f led P) : (Bx f led P).get? 88 = some (a_88 led P) := by kernel_rfl
theorem mg_b1 (f led) (w : World) : (cx f led w).mg "b1_set" = some (.ref 88) := by kernel_rfl
theorem b1_data (led P) : ∃ t, (a_88 led P).data = .set b1E.toArray 29 t ∧ t.fits b1E.toArray.size = true := ⟨_, rfl, by kernel_rfl⟩
theorem b1_hash : b1N.all (fun x => x.1 == hashInt x.1) = true := by decide +kernel
theorem gset (f led) (w : World) : GSet (cx f led w) "b1_set" T1 := by
  obtain ⟨t, h1, h2⟩ := b1_data led w.params
  refine ⟨88, a_88 led w.params, b1E.length, mg_b1 _ _ _, at_b1 _ _ _, ⟨⟨rfl, rfl, rfl⟩, b1E.toArray, 29, t, h1, fun e he => ?_, fun k => ?_, by simp, h2⟩, by decide⟩
  · have he : e ∈ b1E := by simpa using he
    obtain ⟨x, hx, rfl⟩ := List.mem_map.mp he
    refine ⟨⟨x.1, by simp [intKind, Value.isInt], ?_⟩, rfl⟩
    exact beq_iff_eq.mp (List.all_eq_true.mp b1_hash x hx)
  · show b1N.any (fun x => x.1 == k) = true ↔ ∃ e ∈ b1E.toArray.toList, Value.isInt k e.2 = true
    rw [List.any_eq_true]
    constructor
    · rintro ⟨x, hx, e⟩
      refine ⟨(x.1, .int x.1 x.2), ?_, ?_⟩
      · show _ ∈ b1E; exact List.mem_map_of_mem hx
      · have : x.1 = k := by simpa using e
        subst this; simp [Value.isInt]
    · rintro ⟨e, he, h⟩
      have he : e ∈ b1E := by simpa using he
      obtain ⟨x, hx, rfl⟩ := List.mem_map.mp he
      have h : Value.isInt k (.int x.1 x.2) = true := h
      refine ⟨x, hx, ?_⟩
      simp only [Value.isInt] at h
      simpa using h
/-- the table of operators -/
noncomputable def TX (y : Str) : Option Int := ((opsL.zipIdx.find? fun p => S p.1 == y)).map fun p => 7 + (p.2 : Int)
noncomputable def exE (f : Nat → Obj) (led : Bool) (P : Params) : List DictEntry := match (oAt f led P 15).data with | .dict es _ => es.toList | _ => []
noncomputable def exKey (e : DictEntry) : Str × Nat × Int × Nat := match e.key, e.val with
  | .str k t, .int n u => (k, t, n, u)
  | _, _ => default
noncomputable def exL (f : Nat → Obj) (led : Bool) (P : Params) : List (Str × Nat × Int × Nat) := (exE f led P).map exKey
theorem ex_eq (f led) (w : World) : exE f led w.params = (exL f led w.params).map fun x => ⟨hashStr w x.1, .str x.1 x.2.1, .int x.2.2.1 x.2.2.2⟩ := by kernel_rfl
noncomputable def exN (f : Nat → Obj) (led : Bool) (P : Params) : Nat := match (oAt f led P 15).data with | .dict _ n => n | _ => 0
theorem at_ex (f led P) : (Bx f led P).get? 15 = some (dob (exE f led P).toArray (exN f led P)) := by kernel_rfl
end Mine
end PartH22

section PartH23
open PySem PySem.W PySem.Calls PyProof.Rows
set_option maxRecDepth 100000
set_option maxHeartbeats 4000000
set_option linter.unusedVariables false
namespace Mine
noncomputable def exV (L : List (Str × Nat × Int × Nat)) : List (Str × Value) := L.map fun x => (x.1, .int x.2.2.1 x.2.2.2)
theorem ex_pairs (p : Program) (w : World) : ∀ L : List (Str × Nat × Int × Nat), Pairs (strKind p w) (L.map fun x => (⟨hashStr w x.1, .str x.1 x.2.1, .int x.2.2.1 x.2.2.2⟩ : DictEntry)) (exV L)
  | [] => .nil
  | x :: L => .cons (by simp [PySem.strKind, Value.isStrOf]) rfl (ex_pairs p w L)
theorem ex_nodup (f led P) : nodupB ((exL f led P).map (·.1)) = true := by kernel_rfl
noncomputable def exOk (L : List (Str × Nat × Int × Nat)) : Bool := opsL.zipIdx.all fun p => match valueAt (exV L) (S p.1) with
  | some (.int n _) => n == 7 + (p.2 : Int)
  | _ => false
theorem ex_ok (f led P) : exOk (exL f led P) = true := by kernel_rfl
theorem mg_ex (f led) (w : World) : (cx f led w).mg "EXACT_TOKEN_TYPES" = some (.ref 15) := by kernel_rfl
theorem mg_nt (f led) (w : World) : (cx f led w).mg "NT_OFFSET" = some (.int 256 287) := by kernel_rfl
theorem mg_em (f led) (w : World) : (cx f led w).mg "ENDMARKER" = some (.int 0 189) := by kernel_rfl
theorem gnum (f led) (w : World) : GNum (cx f led w) "EXACT_TOKEN_TYPES" TX := by
  have he := ex_eq f led w
  have h3 := at_ex f led w.params
  have h4 := ex_nodup f led w.params
  have h5 := ex_ok f led w.params
  generalize exL f led w.params = L at *
  generalize exN f led w.params = n at *
  refine ⟨15, exV L, mg_ex _ _ _, ⟨_, _, n, h3, ⟨rfl, rfl, rfl⟩, rfl, fun e h => ?_, ?_, ?_⟩, fun y k hy => ?_⟩
  · have h : e ∈ exE f led w.params := by simpa using h
    rw [he] at h
    obtain ⟨x, hx, rfl⟩ := List.mem_map.mp h
    exact ⟨x.1, by simp [PySem.strKind, Value.isStrOf], rfl⟩
  · have : (exE f led w.params).toArray.toList = exE f led w.params := rfl
    rw [this, he]; exact ex_pairs _ _ _
  · have : (exV L).map (·.1) = L.map (·.1) := by unfold exV; rw [List.map_map]; rfl
    rw [this]; exact nodupB_ok h4
  · unfold TX at hy
    obtain ⟨p, hp, e⟩ := Option.map_eq_some_iff.mp hy
    have h6 := List.all_eq_true.mp h5 p (List.mem_of_find?_eq_some hp)
    have h7 : S p.1 = y := beq_iff_eq.mp (List.find?_some (p := fun p : List Nat × Nat => S p.1 == y) hp)
    rw [← h7]
    revert h6
    split
    · rename_i n' t h8
      intro h6
      exact ⟨t, by rw [h8, ← e, beq_iff_eq.mp h6]⟩
    · intro h6; cases h6
theorem pf (led : Bool) (w : World) : PF (cx b3f led w) T1 T3 TX where
  ist := fn_ist b3f led w
  isn := fn_isn b3f led w
  ise := fn_ise b3f led w
  inb1 := fn_inb1 b3f led w
  mapb3 := fn_mapb3 b3f led w
  ops := fn_ops b3f led w
  text := fn_text b3f led w
  word := fn_word b3f led w
  plain := fn_plain b3f led w
  clause := fn_clause b3f led w
  least := fn_least b3f led w
  b1 := gset b3f led w
  b3 := gtab led w
  ex := gnum b3f led w
  nt := ⟨287, mg_nt b3f led w⟩
  em := ⟨189, mg_em b3f led w⟩
noncomputable def mN (f : Nat → Obj) (led : Bool) (P : Params) : Str → Option Value := (Bx f led P).nsMap 75
theorem cls_ns (f led P) : (Bx f led P).isNs 75 = true := by kernel_rfl
theorem cls_obj (f led P) : (Bx f led P).get? 76 = some (oAt f led P 76) := by kernel_rfl
theorem cls_is (f led P) : ∃ nm q bs sn sub col dd k0 k1 k2 k3 k5, oAt f led P 76 = excClassObj nm q 76 75 bs [.type "object"] true sn sub false col dd k0 k1 k2 k3 k5 "object.__new__" := by
  have : oAt f led P 76 = excClassObj "_netrclex" "_netrclex" 76 75 [.type "object"] [.type "object"] true [] [] false none none none none (some (.str "_netrclex" 409)) (some (.str "_netrclex" 417)) (some (.bool true)) "object.__new__" := by kernel_rfl
  exact ⟨_, _, _, _, _, _, _, _, _, _, _, _, this⟩
theorem cls_off (f led P) : (("__getattribute__" :: "__getattr__" :: "__setattr__" :: attrNames : List Str).all fun n => (mN f led P n).isNone) = true := by kernel_rfl
theorem mN_0 (f led P) : mN f led P "__init__" = some (.ref 52) := by kernel_rfl
theorem mN_1 (f led P) : mN f led P "_read_char" = some (.ref 59) := by kernel_rfl
theorem mN_2 (f led P) : mN f led P "get_token" = some (.ref 66) := by kernel_rfl
theorem mN_3 (f led P) : mN f led P "push_token" = some (.ref 73) := by kernel_rfl
theorem mg_cls (f led) (w : World) : (cx f led w).mg "_netrclex" = some (.ref 76) := by kernel_rfl
theorem clsOk (f led) (w : World) : Cls (cx f led w) 75 (mN f led w.params) := by
  have h := List.all_eq_true.mp (cls_off f led w.params)
  have g : ∀ n, n ∈ ("__getattribute__" :: "__getattr__" :: "__setattr__" :: attrNames : List Str) → mN f led w.params n = none := fun n hn => Option.isNone_iff_eq_none.mp (h n hn)
  refine ⟨⟨?_, .of_isNs (cls_ns f led w.params)⟩, g _ (.head _), g _ (.tail _ (.head _)), g _ (.tail _ (.tail _ (.head _))), fun n hn => g n (.tail _ (.tail _ (.tail _ hn)))⟩
  obtain ⟨nm, q, bs, sn, sub, col, dd, k0, k1, k2, k3, k5, e⟩ := cls_is f led w.params
  exact ⟨nm, q, bs, sn, sub, col, dd, k0, k1, k2, k3, k5, (cls_obj f led w.params).trans (congrArg some e)⟩
theorem env1 (f led) (w : World) : Env1 (cx f led w) 75 (mN f led w.params) where
  cls := clsOk f led w
  lamF := fun _ h => h
  rd := ⟨_, _, mN_1 f led w.params, (at_m1 f led w.params).1, (at_m1 f led w.params).2.2, (at_m1 f led w.params).2.1, fd_m1 f led w⟩
  gl := mg_cls f led w
  init := ⟨_, _, _, mN_0 f led w.params, (at_m0 f led w.params).1, (at_m0 f led w.params).2.2, (at_m0 f led w.params).2.1, fd_m0 f led w⟩
  get := ⟨_, _, _, mN_2 f led w.params, (at_m2 f led w.params).1, (at_m2 f led w.params).2.2, (at_m2 f led w.params).2.1, fd_m2 f led w⟩
  push := ⟨_, _, _, mN_3 f led w.params, (at_m3 f led w.params).1, (at_m3 f led w.params).2.2, (at_m3 f led w.params).2.1, fd_m3 f led w⟩
end Mine
end PartH23

section PartH24
open PySem PySem.W PySem.Calls PyProof.Rows
set_option maxRecDepth 100000
set_option maxHeartbeats 4000000
set_option linter.unusedVariables false
namespace Mine
theorem fcode (f led P) : (fAt f led P 158).code = .ref 157 := by kernel_rfl
noncomputable def cFs (f : Nat → Obj) (led : Bool) (P : Params) : Array Value := match (oAt f led P 157).data with | .fields vs => vs | _ => #[]
theorem at_cd (f led P) : (Bx f led P).get? 157 = some { cls := .type "code", data := .fields (cFs f led P) } := by kernel_rfl
theorem cd_fs (f led P) : (cFs f led P)[11]? = some (.ref 153) ∧ (cFs f led P).getD 11 .none = .ref 153 ∧ (cFs f led P).getD 18 .none = .str "/claim/cut.py" 2510 ∧ (cFs f led P).getD 7 .none = .int 3 0 ∧ (cFs f led P).getD 9 .none = .bool true ∧ (cFs f led P).getD 10 .none = .int 181 0 :=
  ⟨by kernel_rfl, by kernel_rfl, by kernel_rfl, by kernel_rfl, by kernel_rfl, by kernel_rfl⟩
theorem mg_bi (f led) (w : World) : (cx f led w).mg "__builtins__" = some (.ref 4) := by kernel_rfl
theorem at_bi (f led P) : (Bx f led P).get? 4 = some (oAt f led P 4) ∧ (oAt f led P 4).cls = .type "module" ∧ (oAt f led P 4).dict = some builtinsNs ∧ (oAt f led P 4).data = .plain := ⟨by kernel_rfl, by kernel_rfl, by kernel_rfl, by kernel_rfl⟩
theorem tabOk (f led) (w : World) : TabOk (cx f led w) (fAt f led w.params 158).code #[] lamPos := by
  obtain ⟨a1, a2, a3, a4, a5, a6⟩ := cd_fs f led w.params
  obtain ⟨b1, b2, b3, b4⟩ := at_bi f led w.params
  exact ⟨⟨157, fcode f led w.params, _, _, _, _, _, _, _, _, _, at_cd f led w.params, rfl, rfl, a1, a2, a3, a4, a5, a6, (show (157 : Addr) ≠ 153 by decide)⟩, trivial, rfl, (show mainGlobals ≠ 153 by decide), ⟨4, _, mg_bi f led w, (by decide), (by decide), (show (4 : Addr) ≠ 153 by decide), b1, b2, b3, b4⟩⟩
theorem lexF (f led) (w : World) : LexF (cx f led w) #[] :=
  ⟨⟨158, _, _, g_lexer f led w, (at_lexer f led w.params).1, (at_lexer f led w.params).2.1, fd_lexer f led w, tabOk f led w⟩, fun _ h => h⟩
theorem at_tab (f led P) : (absHeap (treeC f led P) 197 { }).get? 153 = some (tabObj #[]) := by kernel_rfl
theorem at_cd0 (f led P) : ∃ o vs, (absHeap (treeC f led P) 197 { }).get? 157 = some o ∧ o.cls = .type "code" ∧ o.data = .fields vs ∧ vs[11]? = some (.ref 153) :=
  ⟨_, _, (Heap.hide_ne _ (show (157 : Addr) ≠ 153 by decide)).symm.trans (at_cd f led P), rfl, rfl, (cd_fs f led P).1⟩
end Mine
end PartH24

section PartH25
open PySem PySem.W PySem.Calls PyProof.Rows
set_option maxRecDepth 100000
set_option maxHeartbeats 4000000
set_option linter.unusedVariables false
namespace Mine
noncomputable abbrev rowL : OpenLaw := PySem.Challenge.rw_sr0077_01
theorem rowSaid : rowL.row.wellSaid = true := by
  unfold OpenRow.wellSaid OpenRow.partSaid looksOpen
  repeat' (with_reducible refine look_both ?_ ?_)
  all_goals kernel_rfl
theorem lawSaid : rowL.wellSaid = true := by
  unfold OpenLaw.wellSaid
  repeat' (with_reducible refine look_both ?_ ?_)
  · exact rowSaid
  all_goals kernel_rfl
theorem items_ints {R : WRecords} : ∀ ys : List WData, WShape.hasItems R ys .int = true → ∃ xs : List Int, ys = xs.map .int
  | [], _ => ⟨[], rfl⟩
  | y :: ys, h => by
    unfold WShape.hasItems at h
    obtain ⟨h1, h2⟩ := Bool.and_eq_true_iff.mp h
    obtain ⟨xs, rfl⟩ := items_ints ys h2
    cases y with
    | int i => exact ⟨i :: xs, rfl⟩
    | _ => exact absurd h1 Bool.false_ne_true
theorem args_ints {args : List WData} (h : rowL.row.toRowW.claim.pre args = true) : ∃ xs : List Int, args = [.list (xs.map .int)] ∧ xs.length ≤ 63 := by
  obtain ⟨h1, h2⟩ := pre_splitW h
  obtain ⟨d, r, rfl, h3, h4⟩ := hasAllW_cons h1
  have h4 := hasAllW_nil h4
  subst h4
  have h5 : ∃ xs : List Int, d = .list (xs.map .int) := by
    cases d with
    | list ys =>
      have h3 : WShape.hasItems [] ys .int = true := (Bool.or_false _).symm.trans h3
      obtain ⟨xs, rfl⟩ := items_ints ys h3
      exact ⟨xs, rfl⟩
    | _ => exact absurd h3 Bool.false_ne_true
  obtain ⟨xs, rfl⟩ := h5
  refine ⟨xs, rfl, ?_⟩
  have h2 : WTm.holds [] (.and (.not (.lt (.lit (.int 63)) (.len (.arg 0)))) (.lit (.bool true))) { args := [.list (xs.map .int)] } = true := h2
  by_cases hl : xs.length ≤ 63
  · exact hl
  · exfalso
    have hl' : (63 : Int) < (xs.length : Int) := by omega
    simp [WTm.holds, WTm.value] at h2
    rw [show less? (WData.int 63) (WData.int (xs.length : Int)) = some true from congrArg some (decide_eq_true hl')] at h2
    cases h2
theorem well_ints {P : Params} {h : Heap} : ∀ (vs : List Value) (xs : List Int), WellAll P h vs (xs.map .int) → ∀ I O, VRels I O (xs.map V.int) vs
  | _, [], h, I, O => by cases h; exact .nil
  | _, x :: xs, h, I, O => by
    cases h with
    | cons a b => cases a; exact .cons (.int _ _) (well_ints _ xs b I O)
theorem walk_law {led : Bool} {w : World} (L : Laws T1 T3 TX) {s : Shared} {xs : List Int} {la : Addr} {vs : List Value} (hk : ∀ b o, (absHeap (treeC b3f led w.params) 197 { }).get? b = some o → s.heap.get? b = some o)
    (hl : s.heap.get? la = some { cls := .type "list", data := .seq vs.toArray }) (hv : WellAll w.params s.heap vs (xs.map .int)) (hlen : xs.length ≤ 63) {Q : Value → Shared → Prop} {E : Value → Shared → Prop}
    (q : ∀ s', OldK s.heap s'.heap → s'.os = s.os → s'.gens = s.gens → Q (.bool true) s') : wpAny (model pw w) callerA (call (.ref 196) [.ref la]) Q E s := by
  have h153 := hk _ _ (at_tab b3f led w.params)
  let I : Part := fun b => if b = 153 then none else s.heap.get? b
  let O : Own := fun k => if k = 30 then some [153] else none
  have hB : ∀ b o, (cx b3f led w).B.get? b = some o → b ≠ 153 ∧ s.heap.get? b = some o := fun b o e => by
    have hb : b ≠ 153 := fun hb => by rw [hb, show (cx b3f led w).B = (absHeap (treeC b3f led w.params) 197 { }).hide 153 from rfl, Heap.hide_self] at e; cases e
    exact ⟨hb, hk b o ((Heap.hide_ne _ hb).symm.trans e)⟩
  have hO : ∀ k f, O k = some f → k = 30 ∧ f = [153] := fun k f e => by
    by_cases hk : k = 30
    · rw [show O k = some [153] from if_pos hk] at e; cases e; exact ⟨hk, rfl⟩
    · rw [show O k = none from if_neg hk] at e; cases e
  have wf : WF (cx b3f led w) I O (H0 #[]) s := by
    refine ⟨fun b o e => ?_, fun b o e => ?_, fun k => ?_, fun k ov e => ?_, fun k f e b hb => ?_, fun k k' f f' e e' hne => ?_⟩
    · obtain ⟨h1, h2⟩ := hB b o e
      exact (if_neg h1).trans h2
    · by_cases hb : b = 153
      · rw [show I b = none from if_pos hb] at e; cases e
      · rw [show I b = s.heap.get? b from if_neg hb] at e; exact e
    · by_cases hk : k = 30
      · subst hk; rfl
      · rw [show O k = none from if_neg hk]
        show _ = (List.lookup k [(30, _)]).isSome
        rw [List.lookup_cons, show (k == 30) = false from by simpa using hk]; rfl
    · by_cases hk : k = 30
      · subst hk
        have e : ov = .raw (tabObj #[]) := (Option.some.inj (show some (OV.raw (tabObj #[])) = some ov from e)).symm
        subst e
        exact ⟨153, [], rfl, rfl, rfl, h153⟩
      · have e : List.lookup k [(30, OV.raw (tabObj #[]))] = some ov := e
        rw [List.lookup_cons, show (k == 30) = false from by simpa using hk] at e; cases e
    · obtain ⟨rfl, rfl⟩ := hO k f e
      cases List.mem_singleton.mp hb
      exact ⟨rfl, by rw [h153]; rfl⟩
    · obtain ⟨rfl, _⟩ := hO k f e
      obtain ⟨rfl, _⟩ := hO k' f' e'
      exact absurd rfl hne
  have hla : la ≠ 153 := fun e => by rw [e, h153] at hl; cases hl
  have hrel : VRels I O [.list (xs.map V.int)] [.ref la] := .cons (.list ((if_neg hla).trans hl) (well_ints vs xs hv I O)) .nil
  have hA : AOk 12 callerA := ⟨rfl, by decide, by decide⟩
  have hx := fn_codeA (C := cx b3f led w) (d := 11) (H := H0 #[]) (vs := [.list (xs.map V.int)]) (Q := fun v H => v = .bool true ∧ TabH H) (at_law b3f led w.params).1 (at_law b3f led w.params).2.1 (fd_law b3f led w) sg_law rfl
    (law_all (d := 7) L (pf led w) (env1 b3f led w) (lexF b3f led w) hlen fun H hT => ⟨rfl, hT⟩)
  refine wpAny_mono (hx.call callerA E s I O [.ref la] hA wf hrel) (fun cv s' ⟨I', O', H', v, st, wf', rv, hv, hT⟩ => ?_) fun _ _ e => e
  subst hv
  cases rv
  refine q s' ⟨fun b o e => ?_, fun b o e => ?_⟩ st.os st.gens
  · by_cases hb : b = 153
    · subst hb
      rw [h153] at e
      cases e
      obtain ⟨ps, hT⟩ := hT
      obtain ⟨a, f, g1, g2, g3, g4⟩ := wf'.rel 30 _ hT
      have hO' : O' 30 = some [153] := st.oext 30 _ rfl
      rw [hO'] at g1
      cases g1
      obtain ⟨oc, vc, c1, c2, c3, c4⟩ := at_cd0 b3f led w.params
      exact .inr (.inl ⟨⟨157, oc, vc, hk _ _ c1, c2, c3, c4⟩, rfl, #[], ps, rfl, by rw [g4]; simp⟩)
    · exact .inl (st.keep b o e (fun ⟨k, f, h1, h2⟩ => by obtain ⟨_, rfl⟩ := hO k f h1; exact hb (List.mem_singleton.mp h2)) (by simp))
  · have := st.alive b (by rw [e]; rfl)
    exact Option.isSome_iff_exists.mp this
theorem post_ok (args ds : List WData) : rowL.row.toRowW.claim.post args (.bool true) ds = true := by kernel_rfl
theorem holds_of (L : Laws T1 T3 TX) : PySem.Challenge.rw_sr0077_01.Holds := by
  refine holds_law lawSaid fun said => ?_
  refine holds_open (r := rowL.row) (q := qv) (loose := looseL) (Xt := fun _ => true) (XP := fun _ _ => True) (Yf := fun s => s.heap) (Ya := fun w => hB w.params) (YP := fun w h => ∀ b o, (hB w.params).get? b = some o → h.get? b = some o) (N := 20000) left_law
    (fun w s e b o h => by rw [e]; exact h) (fun w h h' y k b o e => k b o (y b o e)) (fun _ _ => trivial) (fun _ _ _ _ _ => trivial) (by rfl) (by rfl) (by rfl) (fun s _ => recFacts_nil rfl) (by rfl) said (by decide +kernel) ⟨rfl, rfl, rfl, rfl, rfl, by decide +kernel⟩ ?_ ?_
  · exact ⟨[.list []], by decide +kernel, by decide +kernel⟩
  · intro w s₀ s₁ mg mb G Y a o pm cd doc dV kV ho hd hcd hD hmg hg args vals as hpre hlay hrd hwl hlo
    obtain ⟨xs, rfl, hlen⟩ := args_ints hpre
    obtain ⟨v, vs', rfl, hw, hw'⟩ := wellAll_cons_inv hwl
    cases hw'
    cases hw with
    | list h1 h2 =>
      rename_i la vs
      have hN : s₁.heap.Ns mainGlobals (cx b3f (!w.params.followText "set-order") w).mg := (cx b3f (!w.params.followText "set-order") w).g.keeps fun b o e => Y b o (by
        have hb : b ≠ 153 := fun hb => by rw [hb, show (cx b3f (!w.params.followText "set-order") w).B = (hB w.params).hide 153 from rfl, Heap.hide_self] at e; cases e
        exact (Heap.hide_ne _ hb).symm.trans e)
      have e1 := G.T.g.agree hN ("law" : Str)
      have e2 : mg ("law" : Str) = some (.ref a) := hmg
      rw [e2, g_law] at e1
      cases e1
      refine walk_law L Y h1 h2 hlen fun s' hk hos hgs => ?_
      exact ⟨.inl ⟨.bool true, .bool true, [], rfl, fun _ => rfl, .bool true, post_ok _ _, fun _ => ⟨List.nodup_nil, fun _ h => (nomatch h)⟩⟩, hk, hos, .of_eq (hgs.trans hg)⟩
end Mine
end PartH25

section PartM7
open PySem PySem.W PySem.Calls PyProof.Rows PySem.Builtin.Str
set_option maxRecDepth 100000
set_option linter.unusedVariables false
namespace Mine
/-- what a sign is prepared to -/
noncomputable def pc (v : Nat) : List Nat := if T1 (v : Int) then [] else (b3S (fun c => T3 c) v).cps.toList
noncomputable def ex (c : Nat) : List Nat := if c = 64256 then [102, 102] else if c = 64257 then [102, 105] else [c]
noncomputable def opC : List Nat := opsL.flatten.eraseDups
noncomputable def uniB (c : Nat) : Bool := (S [c]).cps.all fun _ => PyData.strOk (S [c])
noncomputable def okv (c v : Nat) : Bool := !T1 (v : Int) && pc v == ex c && PyData.strOk (S [v])
noncomputable def alphaL : List Nat := quoL ++ (besideL ++ (opC ++ [64256, 64257]))
theorem chk1 : (alphaL.all fun c => okv c c) = true := by decide +kernel
theorem chk2 : ([102, 105].all fun c => (List.range 12).all fun way => okv c (varC ((way : Nat) : Int) c)) = true := by decide +kernel
theorem chk3 : ((List.range 90).all fun v => (veilS ((v : Nat) : Int)).cps.toList.all fun c => T1 (c : Int) && PyData.strOk (S [c])) = true := by decide +kernel
end Mine
end PartM7

section PartM8
open PySem PySem.W PySem.Calls PyProof.Rows PySem.Builtin.Str
set_option maxRecDepth 100000
set_option linter.unusedVariables false
namespace Mine
theorem plain_fold : ∀ (w : List Nat) (acc : List Nat), w.foldl (plainStep T1 (fun c => T3 c)) (S acc) = S (acc ++ w.flatMap pc)
  | [], acc => by simp
  | v :: w, acc => by
    have e : plainStep T1 (fun c => T3 c) (S acc) v = S (acc ++ pc v) := by
      unfold plainStep pc
      cases T1 (v : Int) with
      | true => simp
      | false => rw [if_neg (by decide), if_neg (by decide), ← S_app, S_toList]
    rw [List.foldl_cons, e, plain_fold w, List.flatMap_cons, List.append_assoc]
theorem plain_eq (w : List Nat) : plainS T1 (fun c => T3 c) w = S (w.flatMap pc) := by
  unfold plainS; rw [plain_fold, List.nil_append]
theorem word_fold (form start : Int) : ∀ (l : List (Int × Nat)) (acc : List Nat), l.foldl (wordStep form start) (S acc) = S (acc ++ l.flatMap fun p => varC ((form + 3 * p.1).fmod 12) p.2 :: (veilS ((start + 13 * p.1).fmod 90)).cps.toList)
  | [], acc => by simp
  | p :: l, acc => by
    have e : wordStep form start (S acc) p = S (acc ++ (varC ((form + 3 * p.1).fmod 12) p.2 :: (veilS ((start + 13 * p.1).fmod 90)).cps.toList)) := by
      unfold wordStep
      conv => lhs; rw [← S_toList (veilS ((start + 13 * p.1).fmod 90))]
      rw [S_app, S_app]; rfl
    rw [List.foldl_cons, e, word_fold form start l, List.flatMap_cons, List.append_assoc]
theorem S_cps (l : List Nat) : (S l).cps.toList = l := by simp [S]
theorem wordL_eq (said : List Nat) (form start : Int) : wordL said form start = (enumL 0 (ligF form (S said)).cps.toList).flatMap fun p => varC ((form + 3 * p.1).fmod 12) p.2 :: (veilS ((start + 13 * p.1).fmod 90)).cps.toList := by
  unfold wordL wordS
  rw [word_fold, List.nil_append, S_cps]
noncomputable def InA (c : Nat) : Prop := c = 102 ∨ c = 105 ∨ c ∈ alphaL
theorem okv_at {c : Nat} (hc : InA c) {way : Int} (hw : 0 ≤ way ∧ way < 12) : okv c (varC way c) = true := by
  by_cases h : c = 102 ∨ c = 105
  · have h2 := List.all_eq_true.mp chk2 c (by rcases h with h | h <;> simp [h])
    have := List.all_eq_true.mp h2 way.toNat (List.mem_range.mpr (by omega))
    rwa [show ((way.toNat : Nat) : Int) = way by omega] at this
  · have : varC way c = c := by unfold varC; rw [if_neg h]
    rw [this]
    refine List.all_eq_true.mp chk1 c ?_
    rcases hc with rfl | rfl | hc
    · exact absurd (.inl rfl) h
    · exact absurd (.inr rfl) h
    · exact hc
theorem okv_get {c v : Nat} (h : okv c v = true) : T1 (v : Int) = false ∧ pc v = ex c ∧ v < 0x110000 := by
  unfold okv at h
  simp only [Bool.and_eq_true, Bool.not_eq_true', beq_iff_eq] at h
  obtain ⟨⟨h1, h2⟩, h3⟩ := h
  exact ⟨h1, h2, by simpa [PyData.strOk, S] using h3⟩
theorem veil_at {v : Int} (h : 0 ≤ v ∧ v < 90) : ∀ c ∈ (veilS v).cps.toList, T1 (c : Int) = true ∧ c < 0x110000 := fun c hc => by
  have h2 := List.all_eq_true.mp chk3 v.toNat (List.mem_range.mpr (by omega))
  rw [show ((v.toNat : Nat) : Int) = v by omega] at h2
  have := Bool.and_eq_true_iff.mp (List.all_eq_true.mp h2 c hc)
  exact ⟨this.1, by simpa [PyData.strOk, S] using this.2⟩
theorem enum_mem : ∀ (l : List Nat) (i : Nat) (p : Int × Nat), p ∈ enumL i l → p.2 ∈ l
  | [], _, _, h => nomatch h
  | c :: l, i, p, h => by
    unfold enumL at h
    rcases List.mem_cons.mp h with rfl | h
    · exact .head _
    · exact .tail _ (enum_mem l (i + 1) p h)
theorem enum_flat (e : Nat → List Nat) : ∀ (l : List Nat) (i : Nat), ((enumL i l).flatMap fun p => e p.2) = l.flatMap e
  | [], _ => rfl
  | c :: l, i => by rw [enumL, List.flatMap_cons, List.flatMap_cons, enum_flat e l (i + 1)]
theorem flat_congr {α β : Type} {f g : α → List β} : ∀ {l : List α}, (∀ x ∈ l, f x = g x) → l.flatMap f = l.flatMap g
  | [], _ => rfl
  | x :: l, h => by rw [List.flatMap_cons, List.flatMap_cons, h x (.head _), flat_congr fun y hy => h y (.tail _ hy)]
theorem flat_nil {α β : Type} {f : α → List β} : ∀ {l : List α}, (∀ x ∈ l, f x = []) → l.flatMap f = []
  | [], _ => rfl
  | x :: l, h => by rw [List.flatMap_cons, h x (.head _), flat_nil fun y hy => h y (.tail _ hy)]; rfl
theorem flat_id {l : List Nat} {e : Nat → List Nat} (h : ∀ c ∈ l, e c = [c]) : l.flatMap e = l := by
  induction l with
  | nil => rfl
  | cons c l ih => rw [List.flatMap_cons, h c (.head _), ih fun c hc => h c (.tail _ hc)]; rfl
theorem word_plain {said : List Nat} {form start : Int} (hl : ∀ c ∈ (ligF form (S said)).cps.toList, InA c) : (wordL said form start).flatMap pc = (ligF form (S said)).cps.toList.flatMap ex := by
  rw [wordL_eq, List.flatMap_assoc]
  rw [← enum_flat ex _ 0]
  refine flat_congr fun p hp => ?_
  have h1 := okv_get (okv_at (hl p.2 (enum_mem _ _ p hp)) (fmod_range (form + 3 * p.1) (b := 12) (by decide)))
  have h2 : (veilS ((start + 13 * p.1).fmod 90)).cps.toList.flatMap pc = [] := flat_nil fun c hc => by
    have := (veil_at (fmod_range (start + 13 * p.1) (b := 90) (by decide)) c hc).1
    unfold pc; rw [if_pos this]
  rw [List.flatMap_cons, h1.2.1, h2, List.append_nil]
theorem word_chars {said : List Nat} {form start : Int} (hl : ∀ c ∈ (ligF form (S said)).cps.toList, InA c) {v : Nat} (hv : v ∈ wordL said form start) : v < 0x110000 ∧ (T1 (v : Int) = false → (b3S (fun c => T3 c) v).length ≤ 20) := by
  rw [wordL_eq] at hv
  obtain ⟨p, hp, hv⟩ := List.mem_flatMap.mp hv
  rcases List.mem_cons.mp hv with rfl | hv
  · have h1 := okv_get (okv_at (hl p.2 (enum_mem _ _ p hp)) (fmod_range (form + 3 * p.1) (b := 12) (by decide)))
    refine ⟨h1.2.2, fun h0 => ?_⟩
    have h3 := h1.2.1
    unfold pc at h3
    rw [if_neg (by rw [h0]; decide)] at h3
    have e : (b3S (fun c => T3 c) (varC ((form + 3 * p.1).fmod 12) p.2)).length = (ex p.2).length := by rw [← h3]; simp [Str.length]
    rw [e]
    unfold ex
    split
    · simp
    · split <;> simp
  · have := veil_at (fmod_range (start + 13 * p.1) (b := 90) (by decide)) v hv
    exact ⟨this.2, fun h0 => by rw [this.1] at h0; cases h0⟩
/-- joined lists -/
theorem join_flat (e : Nat → List Nat) (y z : Str) (h : z.cps.toList.flatMap e = y.cps.toList.flatMap e) : ∀ parts : List Str, (Str.join z parts).cps.toList.flatMap e = (Str.join y parts).cps.toList.flatMap e
  | [] => rfl
  | [x] => rfl
  | x :: w :: r => by
    have ih := join_flat e y z h (w :: r)
    show (x ++ z ++ Str.join z (w :: r)).cps.toList.flatMap e = (x ++ y ++ Str.join y (w :: r)).cps.toList.flatMap e
    simp only [Str.cps_append, Array.toList_append, List.flatMap_append, h, ih]
theorem join_mem (y z : Str) : ∀ (parts : List Str) (c : Nat), c ∈ (Str.join z parts).cps.toList → c ∈ (Str.join y parts).cps.toList ∨ c ∈ z.cps.toList
  | [], c, h => .inl h
  | [x], c, h => .inl h
  | x :: w :: r, c, h => by
    have h : c ∈ (x ++ z ++ Str.join z (w :: r)).cps.toList := h
    show c ∈ (x ++ y ++ Str.join y (w :: r)).cps.toList ∨ _
    simp only [Str.cps_append, Array.toList_append, List.mem_append] at h ⊢
    rcases h with (h | h) | h
    · exact .inl (.inl (.inl h))
    · exact .inr h
    · exact (join_mem y z (w :: r) c h).imp .inr id
theorem rep_flat (e : Nat → List Nat) (x y z : Str) (h : z.cps.toList.flatMap e = y.cps.toList.flatMap e) : (Txt.replace x y z).cps.toList.flatMap e = x.cps.toList.flatMap e := by
  unfold Txt.replace
  split
  · rfl
  · have g := StrLaws.glued_between_self x y (x.length + 1)
    rw [StrLaws.glued_eq_join] at g ⊢
    rw [join_flat e y z h, g]
theorem rep_mem (x y z : Str) {c : Nat} (h : c ∈ (Txt.replace x y z).cps.toList) : c ∈ x.cps.toList ∨ c ∈ z.cps.toList := by
  unfold Txt.replace at h
  split at h
  · exact .inl h
  · have g := StrLaws.glued_between_self x y (x.length + 1)
    rw [StrLaws.glued_eq_join] at g h
    rcases join_mem y z _ c h with h | h
    · rw [g] at h; exact .inl h
    · exact .inr h
theorem lig_flat (form : Int) (said : List Nat) : (ligF form (S said)).cps.toList.flatMap ex = said.flatMap ex := by
  unfold ligF
  split
  · rw [rep_flat ex _ _ _ (by rfl), rep_flat ex _ _ _ (by rfl), S_cps]
  · rw [S_cps]
theorem lig_mem {form : Int} {said : List Nat} {c : Nat} (h : c ∈ (ligF form (S said)).cps.toList) : c ∈ said ∨ c = 64256 ∨ c = 64257 := by
  unfold ligF at h
  split at h
  · rcases rep_mem _ _ _ h with h | h
    · rcases rep_mem _ _ _ h with h | h
      · rw [S_cps] at h; exact .inl h
      · rw [S_cps] at h; exact .inr (.inl (by simpa using h))
    · rw [S_cps] at h; exact .inr (.inr (by simpa using h))
  · rw [S_cps] at h; exact .inl h
/-- what is said is in the alphabet -/
noncomputable def Said (l : List Nat) : Prop := ∀ c ∈ l, InA c ∧ c ≠ 64256 ∧ c ≠ 64257
theorem word_good {said : List Nat} (hs : Said said) (h1 : said ≠ []) (hl : said.length ≤ 20) (form start : Int) : plainS T1 (fun c => T3 c) (wordL said form start) = S said ∧ wordL said form start ≠ [] ∧ (wordL said form start).length ≤ 1000 ∧
    (∀ c ∈ wordL said form start, T1 (c : Int) = false → (b3S (fun c => T3 c) c).length ≤ 20) ∧ Uni (S (wordL said form start)) ∧ Uni (S said) := by
  have hA : ∀ c ∈ (ligF form (S said)).cps.toList, InA c := fun c hc => by
    rcases lig_mem hc with h | rfl | rfl
    · exact (hs c h).1
    · exact .inr (.inr (by decide +kernel))
    · exact .inr (.inr (by decide +kernel))
  have e : plainS T1 (fun c => T3 c) (wordL said form start) = S said := by
    rw [plain_eq, word_plain hA, lig_flat]
    congr 1
    exact flat_id fun c hc => by
      obtain ⟨_, g1, g2⟩ := hs c hc
      unfold ex; rw [if_neg g1, if_neg g2]
  have uni : ∀ l : List Nat, (∀ c ∈ l, c < 0x110000) → Uni (S l) := fun l h => by
    unfold Uni PyData.strOk S
    simpa using h
  refine ⟨e, fun q => ?_, ?_, fun c hc => (word_chars hA hc).2, uni _ fun c hc => (word_chars hA hc).1, uni _ fun c hc => ?_⟩
  · rw [q] at e
    have : S [] = S said := e
    exact h1 (S_inj.mp this).symm
  · have := word_len said form start; omega
  · have hI := (hs c hc).1
    have h0 := okv_get (okv_at hI (way := 0) (by decide))
    have e0 : varC 0 c = c := by
      unfold varC
      split
      · rw [if_neg (by decide), if_neg (by decide)]
      · rfl
    rw [e0] at h0
    exact h0.2.2
end Mine
end PartM8

section PartM9
open PySem PySem.W PySem.Calls PyProof.Rows PySem.Builtin.Str
set_option maxRecDepth 100000
set_option linter.unusedVariables false
namespace Mine
noncomputable def orF (L : List Int) (a : Int) : Int := L.foldl (fun a s => Builtin.bitOr a (2 ^ s.toNat)) a
noncomputable def LOk (L : List Int) : Prop := (∀ s ∈ L, 0 ≤ s ∧ s < 4) ∧ L.length ≤ 4
noncomputable def nB (q b : Nat) : Bool := ((List.range 4).all fun s => ([102, 105, q, b] : List Nat).idxOf (([102, 105, q, b] : List Nat).getD s 0) == s && ([102, 105, q, b] : List Nat).any (· == ([102, 105, q, b] : List Nat).getD s 0)) &&
  (opC.all fun c => !([102, 105, q, b] : List Nat).any (· == c)) && !(([102, 105, q, b] : List Nat).any fun c => c == 64256 || c == 64257)
theorem n_all : (quoL.all fun q => besideL.all fun b => nB q b) = true := by decide +kernel
structure NF (N : List Nat) : Prop where
  idx : ∀ s : Nat, s < 4 → N.idxOf (N.getD s 0) = s ∧ N.any (· == N.getD s 0) = true
  op : ∀ c ∈ opC, N.any (· == c) = false
  inA : ∀ s : Nat, s < 4 → InA (N.getD s 0) ∧ N.getD s 0 ≠ 64256 ∧ N.getD s 0 ≠ 64257
theorem nf {N : List Nat} (h : NOk N) : NF N := by
  obtain ⟨q, hq, b, hb, rfl⟩ := h
  have h1 := List.all_eq_true.mp (List.all_eq_true.mp n_all q hq) b hb
  unfold nB at h1
  simp only [Bool.and_eq_true] at h1
  obtain ⟨⟨h1, h2⟩, h3⟩ := h1
  refine ⟨fun s hs => ?_, fun c hc => ?_, fun s hs => ?_⟩
  · have := Bool.and_eq_true_iff.mp (List.all_eq_true.mp h1 s (List.mem_range.mpr hs))
    exact ⟨beq_iff_eq.mp this.1, this.2⟩
  · have := List.all_eq_true.mp h2 c hc
    simpa using this
  · have h3 : (([102, 105, q, b] : List Nat).any fun c => c == 64256 || c == 64257) = false := by simpa using h3
    have ne : ∀ c ∈ ([102, 105, q, b] : List Nat), c ≠ 64256 ∧ c ≠ 64257 := fun c hc => by
      have := List.any_eq_false.mp h3 c hc
      simpa using this
    have : s = 0 ∨ s = 1 ∨ s = 2 ∨ s = 3 := by omega
    rcases this with rfl | rfl | rfl | rfl
    · exact ⟨.inl rfl, ne _ (by simp)⟩
    · exact ⟨.inr (.inl rfl), ne _ (by simp)⟩
    · exact ⟨.inr (.inr (List.mem_append_left _ hq)), ne _ (by simp)⟩
    · exact ⟨.inr (.inr (List.mem_append_right _ (List.mem_append_left _ hb))), ne _ (by simp)⟩
theorem side1 {N : List Nat} (F : NF N) (b : Int) : ∀ (L : List Int) (a : Int), (∀ s ∈ L, 0 ≤ s ∧ s < 4) → (nmF N L).foldl (sideStep N) ⟨a, b, []⟩ = ⟨orF L a, b, []⟩
  | [], a, _ => rfl
  | s :: L, a, h => by
    have hs := h s (.head _)
    obtain ⟨g1, g2⟩ := F.idx s.toNat (by omega)
    show (nmF N L).foldl (sideStep N) (sideStep N ⟨a, b, []⟩ (N.getD s.toNat 0)) = _
    have e : sideStep N ⟨a, b, []⟩ (N.getD s.toNat 0) = ⟨Builtin.bitOr a (2 ^ s.toNat), b, []⟩ := by
      unfold sideStep; rw [if_pos g2, if_pos rfl, g1]
    rw [e, side1 F b L _ fun s hs => h s (.tail _ hs)]; rfl
theorem side2 {N : List Nat} (F : NF N) (a b : Int) : ∀ (op sg : List Nat), (∀ c ∈ op, c ∈ opC) → op.foldl (sideStep N) ⟨a, b, sg⟩ = ⟨a, b, sg ++ op⟩
  | [], sg, _ => by simp
  | c :: op, sg, h => by
    have e : sideStep N ⟨a, b, sg⟩ c = ⟨a, b, sg ++ [c]⟩ := by
      unfold sideStep; rw [if_neg (by rw [F.op c (h c (.head _))]; decide)]
    rw [List.foldl_cons, e, side2 F a b op _ fun c hc => h c (.tail _ hc), List.append_assoc]; rfl
theorem side3 {N : List Nat} (F : NF N) (a : Int) {sg : List Nat} (hsg : sg ≠ []) : ∀ (L : List Int) (b : Int), (∀ s ∈ L, 0 ≤ s ∧ s < 4) → (nmF N L).foldl (sideStep N) ⟨a, b, sg⟩ = ⟨a, orF L b, sg⟩
  | [], b, _ => rfl
  | s :: L, b, h => by
    have hs := h s (.head _)
    obtain ⟨g1, g2⟩ := F.idx s.toNat (by omega)
    show (nmF N L).foldl (sideStep N) (sideStep N ⟨a, b, sg⟩ (N.getD s.toNat 0)) = _
    have e : sideStep N ⟨a, b, sg⟩ (N.getD s.toNat 0) = ⟨a, Builtin.bitOr b (2 ^ s.toNat), sg⟩ := by
      unfold sideStep; rw [if_pos g2, if_neg hsg, g1]
    rw [e, side3 F a hsg L _ fun s hs => h s (.tail _ hs)]; rfl
noncomputable def opB (k : Nat) : Bool := !(opsL.getD k []).isEmpty && decide ((opsL.getD k []).length ≤ 3) && ((opsL.getD k []).all fun c => opC.contains c && c != 64256 && c != 64257) && TX (S (opsL.getD k [])) == some (7 + (k : Int))
theorem op_all : ((List.range 48).all opB) = true := by decide +kernel
theorem op_at {place : Int} (h : 0 ≤ place ∧ place < 48) : opF place ≠ [] ∧ (opF place).length ≤ 3 ∧ (∀ c ∈ opF place, c ∈ opC ∧ c ≠ 64256 ∧ c ≠ 64257) ∧ TX (S (opF place)) = some (7 + place) := by
  have h1 := List.all_eq_true.mp op_all place.toNat (List.mem_range.mpr (by omega))
  unfold opB at h1
  simp only [Bool.and_eq_true, Bool.not_eq_true', decide_eq_true_eq, beq_iff_eq] at h1
  obtain ⟨⟨⟨h1, h2⟩, h3⟩, h4⟩ := h1
  refine ⟨fun e => ?_, h2, fun c hc => ?_, ?_⟩
  · unfold opF at e; rw [e] at h1; cases h1
  · have := List.all_eq_true.mp h3 c hc
    simpa [and_assoc] using this
  · unfold opF; rw [h4]; congr 1; omega
theorem nm_said {N : List Nat} (F : NF N) {L : List Int} (h : LOk L) : Said (nmF N L) := fun c hc => by
  obtain ⟨s, hs, rfl⟩ := List.mem_map.mp hc
  have := h.1 s hs
  exact F.inA s.toNat (by omega)
theorem nm_len (N : List Nat) {L : List Int} (h : LOk L) : (nmF N L).length ≤ 4 := by unfold nmF; rw [List.length_map]; exact h.2
theorem Said.app {a b : List Nat} (ha : Said a) (hb : Said b) : Said (a ++ b) := fun c hc => (List.mem_append.mp hc).elim (ha c) (hb c)
/-- a word of names and an operator -/
theorem good_of {N : List Nat} (hN : NOk N) {place : Int} (hp : 0 ≤ place ∧ place < 48) {L R : List Int} (hL : LOk L) (hR : LOk R) (form start : Int) {c : Int} (hc : c ∈ allC) (h : (if place.fmod 2 = 0 then 17 * orF R 0 + 256 * orF L 0 else 17 * orF L 0 + 256 * orF R 0) = c) :
    Good T1 T3 TX N ⟨wordL (nmF N L ++ opF place ++ nmF N R) form start, nmF N L ++ opF place ++ nmF N R, 7 + place, c⟩ := by
  have F := nf hN
  obtain ⟨o1, o2, o3, o4⟩ := op_at hp
  have hs : sidesF N (nmF N L ++ opF place ++ nmF N R) = ⟨orF L 0, orF R 0, opF place⟩ := by
    unfold sidesF
    rw [List.foldl_append, List.foldl_append, side1 F 0 L 0 hL.1, side2 F _ _ _ [] (fun c hc => (o3 c hc).1), List.nil_append, side3 F _ o1 R 0 hR.1]
  have hsaid : Said (nmF N L ++ opF place ++ nmF N R) := ((nm_said F hL).app fun c hc => ⟨.inr (.inr (List.mem_append_right _ (List.mem_append_right _ (List.mem_append_left _ (o3 c hc).1)))), (o3 c hc).2⟩).app (nm_said F hR)
  have hne : nmF N L ++ opF place ++ nmF N R ≠ [] := by
    intro e
    have := (List.append_eq_nil_iff.mp (List.append_eq_nil_iff.mp e).1).2
    exact o1 this
  have hlen : (nmF N L ++ opF place ++ nmF N R).length ≤ 20 := by
    have := nm_len N hL
    have := nm_len N hR
    simp only [List.length_append]; omega
  obtain ⟨w1, w2, w3, w4, w5, w6⟩ := word_good hsaid hne hlen form start
  refine ⟨w2, w1, ?_, ?_, w3, hlen, w4, w5, w6, hc⟩
  · show TX (S (sidesF N (nmF N L ++ opF place ++ nmF N R)).sg) = some (7 + place)
    rw [hs]; exact o4
  · show clauseI (7 + place) (sidesF N (nmF N L ++ opF place ++ nmF N R)) = c
    rw [hs, ← h]
    unfold clauseI
    have hm : place.fmod 2 = 0 ↔ (7 + place).fmod 2 = 1 := by
      rw [Int.fmod_eq_emod_of_nonneg _ (by decide), Int.fmod_eq_emod_of_nonneg _ (by decide)]; omega
    by_cases hq : place.fmod 2 = 0
    · rw [if_pos hq, if_pos (hm.mp hq)]
    · rw [if_neg hq, if_neg (fun g => hq (hm.mpr g))]
theorem good_row {N : List Nat} (hN : NOk N) {place : Int} (hp : 0 ≤ place ∧ place < 48) {den aff : List Int} (hd : LOk den) (ha : LOk aff) (form start : Int) {c : Int} (hc : c ∈ allC) (h : 17 * orF aff 0 + 256 * orF den 0 = c) :
    Good T1 T3 TX N { rowG N place den aff form start with c := c } := by
  unfold rowG
  by_cases hq : place.fmod 2 = 0
  · have := good_of hN hp hd ha form start (c := c) hc (by rw [if_pos hq]; exact h)
    rw [if_pos hq]
    exact this
  · have := good_of hN hp ha hd form start (c := c) hc (by rw [if_neg hq]; exact h)
    rw [if_neg hq]
    exact this
noncomputable def lokB (L : List Int) : Bool := (L.all fun s => decide (0 ≤ s) && decide (s < 4)) && decide (L.length ≤ 4) && decide (0 ≤ orF L 0) && decide (orF L 0 < 16)
theorem lokB_ok {L : List Int} (h : lokB L = true) : LOk L ∧ 0 ≤ orF L 0 ∧ orF L 0 < 16 := by
  unfold lokB at h
  simp only [Bool.and_eq_true, decide_eq_true_eq, List.all_eq_true] at h
  exact ⟨⟨h.1.1.1, h.1.1.2⟩, h.1.2, h.2⟩
theorem part_all : ∀ b : Fin 16, lokB (partF ((b.val : Nat) : Int)) = true ∧ orF (partF ((b.val : Nat) : Int)) 0 = ((b.val : Nat) : Int) := by decide +kernel
theorem good_mk {N : List Nat} (hN : NOk N) (n : Nat) {fresh : Int} (hf : fresh ∈ allC) : Good T1 T3 TX N (mkRow N n fresh) := by
  obtain ⟨a, b, ha, hb, e⟩ := allC_mkc hf
  have hd := part_all ⟨b, hb⟩
  have hA := part_all ⟨a, ha⟩
  unfold mkRow
  have e1 : fresh.fdiv 256 = (b : Int) := by rw [e]; exact mkc_m ha
  have e2 : (fresh.fmod 256).fdiv 17 = (a : Int) := by rw [e]; exact mkc_p ha
  rw [e1, e2]
  exact good_row hN (fmod_range _ (by decide)) (lokB_ok hd.1).1 (lokB_ok hA.1).1 _ _ hf (by rw [hd.2, hA.2, e]; rfl)
theorem den_all : ∀ x y : Fin 10, lokB ([((x.val : Nat) : Int), ((y.val : Nat) : Int)].filter fun s => decide (s < 4)) = true ∧ clF 256 ([((x.val : Nat) : Int), ((y.val : Nat) : Int)].filter fun s => decide (s < 4)) = 256 * orF ([((x.val : Nat) : Int), ((y.val : Nat) : Int)].filter fun s => decide (s < 4)) 0 := by decide +kernel
theorem aff_all : ∀ x y : Fin 10, lokB (([((x.val : Nat) : Int), ((y.val : Nat) : Int)].filter fun s => decide (s < 7)).map fun s => s.fmod 4) = true ∧ clF 17 (([((x.val : Nat) : Int), ((y.val : Nat) : Int)].filter fun s => decide (s < 7)).map fun s => s.fmod 4) = 17 * orF (([((x.val : Nat) : Int), ((y.val : Nat) : Int)].filter fun s => decide (s < 7)).map fun s => s.fmod 4) 0 := by decide +kernel
theorem good_first {N : List Nat} (hN : NOk N) {d : List Int} (hd : Dig d) : Good T1 T3 TX N (rowF N d) := by
  obtain ⟨d0, d1, d2, d3, d4, d5, d6, d7, d8, rfl⟩ := nine hd.1
  have r : ∀ x ∈ [d0, d1, d2, d3, d4, d5, d6, d7, d8], ∃ k : Fin 10, x = ((k.val : Nat) : Int) := fun x hx => by
    have := hd.2 x hx
    exact ⟨⟨x.toNat, by omega⟩, by show x = ((x.toNat : Nat) : Int); omega⟩
  obtain ⟨k2, e2⟩ := r d2 (by simp)
  obtain ⟨k3, e3⟩ := r d3 (by simp)
  obtain ⟨k4, e4⟩ := r d4 (by simp)
  obtain ⟨k5, e5⟩ := r d5 (by simp)
  have hD := den_all k2 k3
  have hA := aff_all k4 k5
  rw [← e2, ← e3] at hD
  rw [← e4, ← e5] at hA
  obtain ⟨g1, g2, g3⟩ := lokB_ok hD.1
  obtain ⟨f1, f2, f3⟩ := lokB_ok hA.1
  show Good T1 T3 TX N (rowG N ((d0 + 10 * d1).fmod 48) ([d2, d3].filter fun s => decide (s < 4)) (([d4, d5].filter fun s => decide (s < 7)).map fun s => s.fmod 4) d6 (d7 + 10 * d8))
  have hc : clF 17 (([d4, d5].filter fun s => decide (s < 7)).map fun s => s.fmod 4) + clF 256 ([d2, d3].filter fun s => decide (s < 4)) = 17 * orF (([d4, d5].filter fun s => decide (s < 7)).map fun s => s.fmod 4) 0 + 256 * orF ([d2, d3].filter fun s => decide (s < 4)) 0 := by rw [hD.2, hA.2]
  have := good_row hN (place := (d0 + 10 * d1).fmod 48) (fmod_range _ (by decide)) g1 f1 d6 (d7 + 10 * d8) (c := clF 17 (([d4, d5].filter fun s => decide (s < 7)).map fun s => s.fmod 4) + clF 256 ([d2, d3].filter fun s => decide (s < 4))) ?_ hc.symm
  · exact this
  · rw [hc]
    generalize orF (([d4, d5].filter fun s => decide (s < 7)).map fun s => s.fmod 4) 0 = A at *
    generalize orF ([d2, d3].filter fun s => decide (s < 4)) 0 = B at *
    have := mem_allC (a := A.toNat) (b := B.toNat) (by omega) (by omega)
    rwa [show ((A.toNat : Nat) : Int) = A by omega, show ((B.toNat : Nat) : Int) = B by omega] at this
theorem laws : Laws T1 T3 TX where
  pl := pl
  pp := pp
  good := fun N hN n fresh _ hf => good_mk hN n hf
  good0 := fun N hN d hd => good_first hN hd
  read := fun g _ rows r0 hl _ _ => read_law g rows r0 hl
  count := count_nl
  res := fun N rows m told h0 w => res_law N rows m told h0 w
end Mine
end PartM9

set_option maxRecDepth 100000 in
set_option maxHeartbeats 4000000 in
theorem PySem.Challenge.cw_sr0077_01_holds : PySem.Challenge.rw_sr0077_01.Holds :=
  Mine.holds_of Mine.laws
