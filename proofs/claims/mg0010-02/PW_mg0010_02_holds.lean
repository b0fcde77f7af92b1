import PyProof.Rows.All
import Wide.All
import OpenK.AllK
import Wide.FinOn
import PySem.Challenge.RW_mg0010_02
set_option Elab.async false
set_option maxRecDepth 100000
set_option maxHeartbeats 8000000
set_option linter.unusedVariables false
section
open PySem PySem.Calls PyProof.Rows
namespace Mine

inductive V where
  | none
  | bool (b : Bool)
  | int (i : Int)
  | ref (a : Addr)

inductive VR : Value → V → Prop where
  | none : VR .none .none
  | bool (b : Bool) : VR (.bool b) (.bool b)
  | int (i : Int) (t : Tok) : VR (.int i t) (.int i)
  | ref (a : Addr) : VR (.ref a) (.ref a)

inductive VRs : List Value → List V → Prop where
  | nil : VRs [] []
  | cons {v x vs xs} : VR v x → VRs vs xs → VRs (v :: vs) (x :: xs)

theorem VRs.length {vs xs} (h : VRs vs xs) : vs.length = xs.length := by
  induction h with
  | nil => rfl
  | cons _ _ ih => simp [ih]
theorem VRs.get {vs xs} (h : VRs vs xs) : ∀ (i : Nat) (x : V), xs[i]? = some x → ∃ v, vs[i]? = some v ∧ VR v x := by
  induction h with
  | nil => intro i x hx; simp at hx
  | cons hv _ ih =>
    intro i x hx
    cases i with
    | zero => simp at hx; subst hx; exact ⟨_, rfl, hv⟩
    | succ i => simp at hx; simpa using ih i x hx
theorem VRs.get' {vs xs} (h : VRs vs xs) : ∀ (i : Nat) (v : Value), vs[i]? = some v → ∃ x, xs[i]? = some x ∧ VR v x := by
  induction h with
  | nil => intro i x hx; simp at hx
  | cons hv _ ih =>
    intro i x hx
    cases i with
    | zero => simp at hx; subst hx; exact ⟨_, rfl, hv⟩
    | succ i => simp at hx; simpa using ih i x hx
theorem VRs.set {vs xs} (h : VRs vs xs) (i : Nat) {v x} (hv : VR v x) : VRs (vs.set i v) (xs.set i x) := by
  induction h generalizing i with
  | nil => exact .nil
  | cons h1 h2 ih =>
    cases i with
    | zero => exact .cons hv h2
    | succ i => exact .cons h1 (ih i)
theorem VRs.append {vs xs us ys} (h : VRs vs xs) (h' : VRs us ys) : VRs (vs ++ us) (xs ++ ys) := by
  induction h with
  | nil => exact h'
  | cons h1 _ ih => exact .cons h1 ih
theorem VRs.take {vs xs} (h : VRs vs xs) (i : Nat) : VRs (vs.take i) (xs.take i) := by
  induction h generalizing i with
  | nil => simp; exact .nil
  | cons h1 _ ih =>
    cases i with
    | zero => exact .nil
    | succ i => exact .cons h1 (ih i)
theorem VRs.drop {vs xs} (h : VRs vs xs) (i : Nat) : VRs (vs.drop i) (xs.drop i) := by
  induction h generalizing i with
  | nil => simp; exact .nil
  | cons h1 h2 ih =>
    cases i with
    | zero => exact .cons h1 h2
    | succ i => exact ih i
theorem VRs.ints {vs} {ns : List Int} (h : VRs vs (ns.map V.int)) : IntsAre vs ns := by
  induction ns generalizing vs with
  | nil => cases h; exact .nil
  | cons n ns ih =>
    cases h with
    | cons h1 h2 => cases h1; exact .cons _ _ (ih h2)
theorem VRs.ofInts {vs} {ns : List Int} (h : IntsAre vs ns) : VRs vs (ns.map V.int) := by
  induction h with
  | nil => exact .nil
  | cons n t _ ih => exact .cons (.int n t) ih

inductive O where
  | list (vs : List V)
  | tup (vs : List V)

/-- the very list, the very tuple -/
def LH (h : Heap) (a : Addr) (its : Array Value) : Prop := ∃ n, IsL h a its n
def TH (h : Heap) (a : Addr) (its : Array Value) : Prop := ∃ n, IsT h a its n
theorem LH.isList {h : Heap} {a : Addr} {its : Array Value} (x : LH h a its) : h.IsList a its := let ⟨n, e⟩ := x; ⟨_, e, rfl, n, rfl⟩
theorem LH.at {h h' : Heap} {a : Addr} {its : Array Value} (x : LH h a its) (k : ∀ ob, h.get? a = some ob → h'.get? a = some ob) : LH h' a its := let ⟨n, e⟩ := x; ⟨n, k _ e⟩
theorem LH.some {h : Heap} {a : Addr} {its : Array Value} (x : LH h a its) : ∃ ob, h.get? a = some ob := let ⟨_, e⟩ := x; ⟨_, e⟩
theorem TH.isTup {h : Heap} {a : Addr} {its : Array Value} (x : TH h a its) : IsTup h a its := let ⟨n, e⟩ := x; ⟨_, e, rfl, n, rfl⟩
def OH (h : Heap) (a : Addr) : O → Prop
  | .list xs => ∃ its : List Value, LH h a its.toArray ∧ VRs its xs
  | .tup xs => ∃ its : List Value, TH h a its.toArray ∧ VRs its xs
theorem OH.at {h h' : Heap} {a : Addr} {o : O} (x : OH h a o) (k : ∀ ob, h.get? a = some ob → h'.get? a = some ob) : OH h' a o := by
  cases o with
  | list xs => obtain ⟨its, ⟨n, e⟩, hv⟩ := x; exact ⟨its, ⟨n, k _ e⟩, hv⟩
  | tup xs => obtain ⟨its, ⟨n, e⟩, hv⟩ := x; exact ⟨its, ⟨n, k _ e⟩, hv⟩
theorem OH.some {h : Heap} {a : Addr} {o : O} (x : OH h a o) : ∃ ob, h.get? a = some ob := by
  cases o with
  | list xs => obtain ⟨its, ⟨n, e⟩, hv⟩ := x; exact ⟨_, e⟩
  | tup xs => obtain ⟨its, ⟨n, e⟩, hv⟩ := x; exact ⟨_, e⟩

abbrev Store := Addr → Option O
def upd (σ : Store) (a : Addr) (o : O) : Store := fun b => if b = a then some o else σ b
def del (σ : Store) (a : Addr) : Store := fun b => if b = a then none else σ b
theorem upd_same (σ : Store) (a : Addr) (o : O) : upd σ a o a = some o := by simp [upd]
theorem upd_ne (σ : Store) {a b : Addr} (o : O) (h : b ≠ a) : upd σ a o b = σ b := by simp [upd, h]
theorem del_same (σ : Store) (a : Addr) : del σ a a = none := by simp [del]
theorem del_ne (σ : Store) {a b : Addr} (h : b ≠ a) : del σ a b = σ b := by simp [del, h]

structure OK (h₀ h : Heap) (σ : Store) : Prop where
  base : ∀ b o, h₀.get? b = some o → h.get? b = some o
  off : ∀ b o, h₀.get? b = some o → σ b = none
  sr : ∀ a o, σ a = some o → OH h a o

structure Step (W : Addr → Prop) (σ σ' : Store) (h h' : Heap) : Prop where
  keep : ∀ b o, σ b = none → ¬ W b → h.get? b = some o → h'.get? b = some o
  fresh : ∀ a, σ a = none → σ' a ≠ none → h.get? a = none ∧ ¬ W a

abbrev NoW : Addr → Prop := fun _ => False
theorem Step.refl {W σ h} : Step W σ σ h h := ⟨fun _ _ _ _ e => e, fun _ h1 h2 => absurd h1 h2⟩
theorem Step.same {W σ h h'} (k : ∀ b o, σ b = none → h.get? b = some o → h'.get? b = some o) : Step W σ σ h h' := ⟨fun b o hb _ e => k b o hb e, fun _ h1 h2 => absurd h1 h2⟩
theorem Step.trans {W σ σ₁ σ₂ h h₁ h₂} (x : Step W σ σ₁ h h₁) (y : Step W σ₁ σ₂ h₁ h₂) : Step W σ σ₂ h h₂ := by
  have n : ∀ b o, σ b = none → h.get? b = some o → σ₁ b = none := fun b o hb e => by
    cases q : σ₁ b with
    | none => rfl
    | some _ => have := (x.fresh b hb (by rw [q]; simp)).1; rw [e] at this; cases this
  refine ⟨fun b o hb hw e => y.keep b o (n b o hb e) hw (x.keep b o hb hw e), fun a h1 h2 => ?_⟩
  cases q : σ₁ a with
  | some _ => exact x.fresh a h1 (by rw [q]; simp)
  | none =>
    have z := y.fresh a q h2
    refine ⟨?_, z.2⟩
    cases e : h.get? a with
    | none => rfl
    | some o => have := x.keep a o h1 z.2 e; rw [z.1] at this; cases this
theorem Step.lift {W σ σ' h h'} (x : Step NoW σ σ' h h') (hW : ∀ a, W a → ∃ o, h.get? a = some o) : Step W σ σ' h h' :=
  ⟨fun b o hb _ e => x.keep b o hb (fun z => z) e, fun a h1 h2 => ⟨(x.fresh a h1 h2).1, fun w => by obtain ⟨o, e⟩ := hW a w; rw [(x.fresh a h1 h2).1] at e; cases e⟩⟩
theorem Step.none {W σ σ' h h'} (x : Step W σ σ' h h') {b o} (hb : σ b = none) (e : h.get? b = some o) : σ' b = none := by
  cases q : σ' b with
  | none => rfl
  | some _ => have := (x.fresh b hb (by rw [q]; simp)).1; rw [e] at this; cases this

/-- a new object -/
theorem size_none (h : Heap) : h.get? h.objs.size = none := by
  cases e : h.get? h.objs.size with
  | none => rfl
  | some o => exact absurd (Heap.lt_size e) (Nat.lt_irrefl _)
theorem OK.alloc {h₀ h σ} (x : OK h₀ h σ) (ob : Obj) (o : O) (e : OH (h.push ob) h.objs.size o) :
    OK h₀ (h.push ob) (upd σ h.objs.size o) ∧ Step NoW σ (upd σ h.objs.size o) h (h.push ob) ∧ σ h.objs.size = none := by
  have hn : σ h.objs.size = none := by
    cases q : σ h.objs.size with
    | none => rfl
    | some o => obtain ⟨ob, e⟩ := (x.sr _ _ q).some; rw [size_none] at e; cases e
  refine ⟨⟨fun b o e => Heap.get?_push_of_some _ (x.base b o e), fun b o' e' => ?_, fun a o' e' => ?_⟩, ⟨fun b o _ _ e => Heap.get?_push_of_some _ e, fun a h1 h2 => ⟨?_, fun z => z⟩⟩, hn⟩
  · by_cases q : b = h.objs.size
    · subst q; have := x.base _ _ e'; rw [size_none] at this; cases this
    · rw [upd_ne _ _ q]; exact x.off b o' e'
  · by_cases q : a = h.objs.size
    · subst q; rw [upd_same] at e'; cases e'; exact e
    · rw [upd_ne _ _ q] at e'; exact (x.sr a o' e').at fun _ e => Heap.get?_push_of_some _ e
  · by_cases q : a = h.objs.size
    · subst q; exact size_none h
    · rw [upd_ne _ _ q] at h2; exact absurd h1 h2
/-- an object changed -/
theorem OK.change {h₀ h h' σ l o o'} (x : OK h₀ h σ) (hl : σ l = some o) (hs : Heap.SameBut l h h') (e : OH h' l o') :
    OK h₀ h' (upd σ l o') ∧ Step NoW σ (upd σ l o') h h' := by
  refine ⟨⟨fun b o e9 => ?_, fun b o' e' => ?_, fun a o' e' => ?_⟩, ⟨fun b o hb _ e => ?_, fun a h1 h2 => ?_⟩⟩
  · rw [hs.2 b (fun q => by subst q; have := x.off _ _ e9; rw [hl] at this; cases this)]; exact x.base b o e9
  · rw [upd_ne _ _ (fun q => by subst q; have := x.off _ _ e'; rw [hl] at this; cases this)]; exact x.off b o' e'
  · by_cases q : a = l
    · subst q; rw [upd_same] at e'; cases e'; exact e
    · rw [upd_ne _ _ q] at e'; exact (x.sr a o' e').at fun _ e => (hs.2 a q).trans e
  · rw [hs.2 b (fun q => by subst q; rw [hl] at hb; cases hb)]; exact e
  · by_cases q : a = l
    · subst q; rw [hl] at h1; cases h1
    · rw [upd_ne _ _ q] at h2; exact absurd h1 h2
theorem OK.keeps {h₀ h h' σ} (x : OK h₀ h σ) (k : ∀ b o, h.get? b = some o → h'.get? b = some o) : OK h₀ h' σ ∧ Step NoW σ σ h h' :=
  ⟨⟨fun b o e => k b o (x.base b o e), x.off, fun a o e => (x.sr a o e).at fun _ e => k _ _ e⟩, Step.same fun b o _ e => k b o e⟩
theorem OK.weaken {h₀ h σ σ'} (x : OK h₀ h σ) (k : ∀ a o, σ' a = some o → σ a = some o) : OK h₀ h σ' :=
  ⟨x.base, (fun b o e => by
    cases q : σ' b with
    | none => rfl
    | some o' => have := k _ _ q; rw [x.off b o e] at this; cases this), fun a o e => x.sr a o (k a o e)⟩

/-- the room of a call -/
structure AOk (d : Nat) (A : Around) : Prop where
  hh : A.handled = none
  depth : A.depth + d < recursionLimit
  units : A.units + 16 * d + 128 < cLine
theorem AOk.deeper {d A} (x : AOk (d + 1) A) (env : Env) : AOk d (A.deeper env) :=
  ⟨x.hh, by have := x.depth; show A.depth + 1 + d < _; omega, by have := x.units; show A.units + 3 + 16 * d + 128 < _; omega⟩
theorem AOk.le {d d' A} (x : AOk d A) (h : d' ≤ d) : AOk d' A :=
  ⟨x.hh, by have := x.depth; omega, by have := x.units; omega⟩

abbrev Loc := List (Str × V)
def Own (env : Env) (a : Addr) : Prop := a = env.locals ∨ ∃ x, env.cells.lookup x = some a

structure Look (h₀ : Heap) (env : Env) (h : Heap) (σ : Store) (m : Loc) : Prop where
  kind : env.scope.kind = .function
  glob : env.globals = mainGlobals
  blt : env.builtins = builtinsNs
  ns : ∃ mm, h.Ns env.locals mm ∧ ∀ x v, env.kindOf x = some .local → m.lookup x = some v → ∃ val, mm x = some val ∧ VR val v
  cell : ∀ x c, env.cells.lookup x = some c → ∃ ov, h.IsCell c ov ∧ ∀ v, (env.kindOf x = some .cell ∨ env.kindOf x = some .free) → m.lookup x = some v → ∃ val, ov = some val ∧ VR val v
  nsoff : σ env.locals = none ∧ h₀.get? env.locals = none
  celloff : ∀ x c, env.cells.lookup x = some c → σ c = none ∧ h₀.get? c = none ∧ c ≠ env.locals
  inj : ∀ x y c, env.cells.lookup x = some c → env.cells.lookup y = some c → x = y

theorem Look.own {h₀ env h σ m} (x : Look h₀ env h σ m) : ∀ a, Own env a → ∃ o, h.get? a = some o := by
  intro a ha
  rcases ha with rfl | ⟨y, hy⟩
  · obtain ⟨mm, ⟨o, es, ep, e, _⟩, _⟩ := x.ns; exact ⟨o, e⟩
  · obtain ⟨ov, ⟨o, e, _⟩, _⟩ := x.cell y a hy; exact ⟨o, e⟩
theorem Look.ownoff {h₀ env h σ m} (x : Look h₀ env h σ m) : ∀ a, Own env a → σ a = none ∧ h₀.get? a = none := by
  intro a ha
  rcases ha with rfl | ⟨y, hy⟩
  · exact x.nsoff
  · exact ⟨(x.celloff y a hy).1, (x.celloff y a hy).2.1⟩
theorem Look.step {h₀ env h h' σ σ' m} (x : Look h₀ env h σ m) (st : Step NoW σ σ' h h') : Look h₀ env h' σ' m := by
  have nL : σ' env.locals = none := by obtain ⟨o, e⟩ := x.own _ (.inl rfl); exact st.none x.nsoff.1 e
  refine ⟨x.kind, x.glob, x.blt, ?_, fun y c hy => ?_, ⟨nL, x.nsoff.2⟩, fun y c hy => ?_, x.inj⟩
  · obtain ⟨mm, hn, hv⟩ := x.ns
    exact ⟨mm, hn.at' fun o e => st.keep _ _ x.nsoff.1 (fun z => z) e, hv⟩
  · obtain ⟨ov, ⟨o, e, hd⟩, hv⟩ := x.cell y c hy
    exact ⟨ov, ⟨o, st.keep _ _ (x.celloff y c hy).1 (fun z => z) e, hd⟩, hv⟩
  · obtain ⟨o, e⟩ := x.own c (.inr ⟨y, hy⟩)
    exact ⟨st.none (x.celloff y c hy).1 e, (x.celloff y c hy).2⟩
theorem Look.weaken {h₀ env h σ m m'} (x : Look h₀ env h σ m) (k : ∀ y v, m'.lookup y = some v → m.lookup y = some v) : Look h₀ env h σ m' :=
  ⟨x.kind, x.glob, x.blt, let ⟨mm, hn, hv⟩ := x.ns; ⟨mm, hn, fun y v hy hm => hv y v hy (k y v hm)⟩,
    fun y c hy => let ⟨ov, hc, hv⟩ := x.cell y c hy; ⟨ov, hc, fun v hk hm => hv v hk (k y v hm)⟩, x.nsoff, x.celloff, x.inj⟩
theorem Look.del {h₀ env h σ σ' m} (x : Look h₀ env h σ m) (k : ∀ a, Own env a → σ' a = none) : Look h₀ env h σ' m :=
  ⟨x.kind, x.glob, x.blt, x.ns, x.cell, ⟨k _ (.inl rfl), x.nsoff.2⟩, fun y c hy => ⟨k c (.inr ⟨y, hy⟩), (x.celloff y c hy).2⟩, x.inj⟩

section
variable (prog : Program) (w : World) (h₀ : Heap)
abbrev NoE : Value → Shared → Prop := fun _ _ => False

def Post (σ : Store) (s : Shared) (Q : V → Store → Prop) : Value → Shared → Prop := fun v s' =>
  ∃ x h' tk σ', s' = { s with heap := h', toks := tk } ∧ VR v x ∧ Step NoW σ σ' s.heap h' ∧ OK h₀ h' σ' ∧ Q x σ'
def PostB (σ : Store) (s : Shared) (Q : Bool → Store → Prop) : Bool → Shared → Prop := fun b s' =>
  ∃ h' tk σ', s' = { s with heap := h', toks := tk } ∧ Step NoW σ σ' s.heap h' ∧ OK h₀ h' σ' ∧ Q b σ'
/-- a tree that reads no name -/
structure WT (d : Nat) (t : Sem Value) (σ : Store) (Q : V → Store → Prop) : Prop where
  run : ∀ A s, AOk d A → OK h₀ s.heap σ → wpAny (model prog w) A t (Post h₀ σ s Q) NoE s
structure WE (d : Nat) (env : Env) (m : Loc) (e : Expr) (σ : Store) (Q : V → Store → Prop) : Prop where
  run : ∀ A s, AOk d A → OK h₀ s.heap σ → Look h₀ env s.heap σ m → wpAny (model prog w) A (eval e env) (Post h₀ σ s Q) NoE s
structure WB (d : Nat) (env : Env) (m : Loc) (e : Expr) (σ : Store) (Q : Bool → Store → Prop) : Prop where
  run : ∀ A s, AOk d A → OK h₀ s.heap σ → Look h₀ env s.heap σ m → wpAny (model prog w) A (isTrue e env (eval e env)) (PostB h₀ σ s Q) NoE s
end

section
variable {prog : Program} {w : World} {h₀ : Heap} {d : Nat} {env : Env} {m : Loc} {σ : Store} {Q : V → Store → Prop}

theorem Post.chain {σ σ₁ : Store} {s : Shared} {h₁ : Heap} {tk₁ : Nat} (st : Step NoW σ σ₁ s.heap h₁) {v : Value} {s' : Shared}
    (p : Post h₀ σ₁ { s with heap := h₁, toks := tk₁ } Q v s') : Post h₀ σ s Q v s' := by
  obtain ⟨x, h', tk, σ', rfl, hv, st', ok, q⟩ := p
  exact ⟨x, h', tk, σ', rfl, hv, st.trans st', ok, q⟩
theorem PostB.chain {Q : Bool → Store → Prop} {σ σ₁ : Store} {s : Shared} {h₁ : Heap} {tk₁ : Nat} (st : Step NoW σ σ₁ s.heap h₁) {v : Bool} {s' : Shared}
    (p : PostB h₀ σ₁ { s with heap := h₁, toks := tk₁ } Q v s') : PostB h₀ σ s Q v s' := by
  obtain ⟨h', tk, σ', rfl, st', ok, q⟩ := p
  exact ⟨h', tk, σ', rfl, st.trans st', ok, q⟩
theorem post_here {σ : Store} {s : Shared} {v : Value} {x : V} {tk : Nat} (ok : OK h₀ s.heap σ) (hv : VR v x) (q : Q x σ) : Post h₀ σ s Q v { s with toks := tk } :=
  ⟨x, s.heap, tk, σ, rfl, hv, .refl, ok, q⟩
theorem WT.mono {t : Sem Value} {Q' : V → Store → Prop} (h : WT prog w h₀ d t σ Q) (k : ∀ x σ', Q x σ' → Q' x σ') : WT prog w h₀ d t σ Q' :=
  .mk fun A s a ok => wpAny_mono (h.run A s a ok) (fun _ _ ⟨x, h', tk, σ', e, hv, st, ok', q⟩ => ⟨x, h', tk, σ', e, hv, st, ok', k _ _ q⟩) fun _ _ z => z
theorem WE.mono {t : Expr} {Q' : V → Store → Prop} (h : WE prog w h₀ d env m t σ Q) (k : ∀ x σ', Q x σ' → Q' x σ') : WE prog w h₀ d env m t σ Q' :=
  .mk fun A s a ok lk => wpAny_mono (h.run A s a ok lk) (fun _ _ ⟨x, h', tk, σ', e, hv, st, ok', q⟩ => ⟨x, h', tk, σ', e, hv, st, ok', k _ _ q⟩) fun _ _ z => z

/-- chaining: an expression, then what its value asks -/
theorem we_then {A : Around} {s : Shared} {e : Expr} {Q₁ : V → Store → Prop} (h : WE prog w h₀ d env m e σ Q₁) (a : AOk d A) (ok : OK h₀ s.heap σ) (lk : Look h₀ env s.heap σ m)
    {K : Value → Shared → Prop} (k : ∀ v x h' tk σ', VR v x → Step NoW σ σ' s.heap h' → OK h₀ h' σ' → Look h₀ env h' σ' m → Q₁ x σ' → K v { s with heap := h', toks := tk }) :
    wpAny (model prog w) A (eval e env) K NoE s :=
  wpAny_mono (h.run A s a ok lk) (fun v s' ⟨x, h', tk, σ', e, hv, st, ok', q⟩ => by subst e; exact k v x h' tk σ' hv st ok' (lk.step st) q) fun _ _ z => z
theorem wt_then {A : Around} {s : Shared} {t : Sem Value} {Q₁ : V → Store → Prop} (h : WT prog w h₀ d t σ Q₁) (a : AOk d A) (ok : OK h₀ s.heap σ)
    {K : Value → Shared → Prop} (k : ∀ v x h' tk σ', VR v x → Step NoW σ σ' s.heap h' → OK h₀ h' σ' → Q₁ x σ' → K v { s with heap := h', toks := tk }) :
    wpAny (model prog w) A t K NoE s :=
  wpAny_mono (h.run A s a ok) (fun v s' ⟨x, h', tk, σ', e, hv, st, ok', q⟩ => by subst e; exact k v x h' tk σ' hv st ok' q) fun _ _ z => z

/-! ## expressions -/
theorem we_int {i : Int} {k : Nat} {pos : Pos} (q : Q (.int i) σ) : WE prog w h₀ d env m (.Constant (.int i) k pos) σ Q :=
  .mk fun _ s _ ok _ => wpAny_Constant_int (post_here ok (.int _ _) q)
theorem we_none {k : Nat} {pos : Pos} (q : Q .none σ) : WE prog w h₀ d env m (.Constant .none k pos) σ Q :=
  .mk fun _ s _ ok _ => wpAny_Constant_none ⟨_, s.heap, s.toks, σ, rfl, .none, .refl, ok, q⟩
theorem we_true {b : Bool} {k : Nat} {pos : Pos} (q : Q (.bool b) σ) : WE prog w h₀ d env m (.Constant (.bool b) k pos) σ Q :=
  .mk fun _ s _ ok _ => wpAny_Constant_bool ⟨_, s.heap, s.toks, σ, rfl, .bool b, .refl, ok, q⟩
theorem we_local {x : Str} {pos : Pos} {v : V} (hv : m.lookup x = some v) (q : Q v σ) (hl : env.kindOf x = some .local) (hd : (x == ("__debug__" : Str)) = false) :
    WE prog w h₀ d env m (.Name x pos) σ Q := .mk fun A s _ ok lk => by
  obtain ⟨mm, hn, hm⟩ := lk.ns
  obtain ⟨val, e, hr⟩ := hm x v hl hv
  exact wpAny_Name (wpAny_loadName_local lk.kind hl hn e ⟨v, s.heap, s.toks, σ, rfl, hr, .refl, ok, q⟩) hd
theorem we_cell {x : Str} {pos : Pos} {v : V} {c : Addr} (hv : m.lookup x = some v) (q : Q v σ) (hl : env.kindOf x = some .cell) (hc : env.cells.lookup x = some c) (hd : (x == ("__debug__" : Str)) = false) :
    WE prog w h₀ d env m (.Name x pos) σ Q := .mk fun A s _ ok lk => by
  obtain ⟨ov, hn, hm⟩ := lk.cell x c hc
  obtain ⟨val, e, hr⟩ := hm v (.inl hl) hv
  subst e
  exact wpAny_Name (wpAny_loadName_cell lk.kind hl hc hn ⟨v, s.heap, s.toks, σ, rfl, hr, .refl, ok, q⟩) hd

def WOp (prog : Program) (w : World) (h₀ : Heap) (d : Nat) (op : Operator) (x y : V) (σ : Store) (Q : V → Store → Prop) : Prop := ∀ v u, VR v x → VR u y → WT prog w h₀ d (binaryOp op v u) σ Q
def WCmp (prog : Program) (w : World) (h₀ : Heap) (d : Nat) (op : CmpOp) (x y : V) (σ : Store) (Q : V → Store → Prop) : Prop := ∀ v u, VR v x → VR u y → WT prog w h₀ d (compareOp op v u) σ Q

theorem we_binop {l r : Expr} {op : Operator} {pos : Pos} (h : WE prog w h₀ d env m l σ fun x σ₁ => WE prog w h₀ d env m r σ₁ fun y σ₂ => WOp prog w h₀ d op x y σ₂ Q) :
    WE prog w h₀ d env m (.BinOp l op r pos) σ Q := .mk fun A s a ok lk => by
  refine wpAny_BinOp (we_then h a ok lk fun v x h₁ tk₁ σ₁ hv st₁ ok₁ lk₁ q₁ => ?_)
  refine we_then q₁ a ok₁ lk₁ fun u y h₂ tk₂ σ₂ hu st₂ ok₂ lk₂ q₂ => ?_
  exact wpAny_mono ((q₂ v u hv hu).run A _ a ok₂) (fun _ _ p => (p.chain st₂).chain st₁) fun _ _ z => z
theorem we_cmp {l r : Expr} {op : CmpOp} {pos : Pos} (h : WE prog w h₀ d env m l σ fun x σ₁ => WE prog w h₀ d env m r σ₁ fun y σ₂ => WCmp prog w h₀ d op x y σ₂ Q)
    (hm : behindInMarks op r = false) :
    WE prog w h₀ d env m (.Compare l [op] [r] pos) σ Q := .mk fun A s a ok lk => by
  refine wpAny_Compare1 (we_then h a ok lk fun v x h₁ tk₁ σ₁ hv st₁ ok₁ lk₁ q₁ => ?_) hm
  refine we_then q₁ a ok₁ lk₁ fun u y h₂ tk₂ σ₂ hu st₂ ok₂ lk₂ q₂ => ?_
  exact wpAny_mono ((q₂ v u hv hu).run A _ a ok₂) (fun _ _ p => (p.chain st₂).chain st₁) fun _ _ z => z
theorem wb_cmp {l r : Expr} {op : CmpOp} {pos : Pos} {Q : Bool → Store → Prop} (h : WE prog w h₀ d env m l σ fun x σ₁ => WE prog w h₀ d env m r σ₁ fun y σ₂ => WCmp prog w h₀ d op x y σ₂ fun z σ₃ => ∃ b, z = .bool b ∧ Q b σ₃)
    (hm : behindInMarks op r = false) :
    WB prog w h₀ d env m (.Compare l [op] [r] pos) σ Q := .mk fun A s a ok lk => by
  refine wpAny_isTrue_Compare1 (we_then h a ok lk fun v x h₁ tk₁ σ₁ hv st₁ ok₁ lk₁ q₁ => ?_) hm
  refine we_then q₁ a ok₁ lk₁ fun u y h₂ tk₂ σ₂ hu st₂ ok₂ lk₂ q₂ => ?_
  refine wt_then (q₂ v u hv hu) a ok₂ fun c z h₃ tk₃ σ₃ hc st₃ ok₃ q₃ => ?_
  obtain ⟨b, rfl, q⟩ := q₃
  cases hc
  exact wpAny_truthy_bool ⟨h₃, tk₃, σ₃, rfl, (st₁.trans st₂).trans st₃, ok₃, q⟩
theorem we_ifexp {t b o : Expr} {pos : Pos} (h : WB prog w h₀ d env m t σ fun c σ₁ => if c then WE prog w h₀ d env m b σ₁ Q else WE prog w h₀ d env m o σ₁ Q) :
    WE prog w h₀ d env m (.IfExp t b o pos) σ Q := .mk fun A s a ok lk => by
  refine wpAny_IfExp (wpAny_mono (h.run A s a ok lk) (fun c s' p => ?_) fun _ _ z => z)
  obtain ⟨h', tk, σ', rfl, st, ok', q⟩ := p
  cases c with
  | true => simp only [if_true] at q ⊢; exact wpAny_mono (q.run A _ a ok' (lk.step st)) (fun _ _ p => p.chain st) fun _ _ z => z
  | false => simp only [Bool.false_eq_true, if_false] at q ⊢; exact wpAny_mono (q.run A _ a ok' (lk.step st)) (fun _ _ p => p.chain st) fun _ _ z => z
theorem wb_not {t : Expr} {pos : Pos} {Q : Bool → Store → Prop} (h : WB prog w h₀ d env m t σ fun c σ₁ => Q (!c) σ₁) : WB prog w h₀ d env m (.UnaryOp .Not t pos) σ Q := .mk fun A s a ok lk =>
  wpAny_isTrue_Not (wpAny_mono (h.run A s a ok lk) (fun c s' ⟨h', tk, σ', e, st, ok', q⟩ => ⟨h', tk, σ', e, st, ok', q⟩) fun _ _ z => z)
theorem wb_and2 {x y : Expr} {pos : Pos} {Q : Bool → Store → Prop} (h : WB prog w h₀ d env m x σ fun c σ₁ => if c then WB prog w h₀ d env m y σ₁ Q else Q false σ₁) : WB prog w h₀ d env m (.BoolOp .And [x, y] pos) σ Q := .mk fun A s a ok lk => by
  refine wpAny_isTrue_BoolOp (wpAny_allTrue_And_cons (wpAny_mono (h.run A s a ok lk) (fun c s' p => ?_) fun _ _ z => z))
  obtain ⟨h', tk, σ', rfl, st, ok', q⟩ := p
  cases c with
  | false => simp only [Bool.false_eq_true, if_false] at q ⊢; exact ⟨h', tk, σ', rfl, st, ok', q⟩
  | true =>
    simp only [if_true] at q ⊢
    refine wpAny_allTrue_And_cons (wpAny_mono (q.run A _ a ok' (lk.step st)) (fun c s' p => ?_) fun _ _ z => z)
    cases c with
    | false => simp only [Bool.false_eq_true, if_false]; exact p.chain st
    | true => simp only [if_true]; exact wpAny_allTrue_And_nil (p.chain st)
end
end Mine
end
section
open PySem PySem.Calls PyProof.Rows
namespace Mine

/-- the written part: the globals, the builtins -/
structure Glo (h₀ : Heap) (mg mb : Str → Option Value) : Prop where
  g : h₀.Ns mainGlobals mg
  b : h₀.Ns builtinsNs mb
  nolimit : h₀.NoLimit

section
variable {prog : Program} {w : World} {h₀ : Heap} {d : Nat} {env : Env} {m : Loc} {σ : Store} {Q : V → Store → Prop} {mg mb : Str → Option Value}

/-! ## operators on ints -/
theorem op_add {a b : Int} (q : Q (.int (a + b)) σ) : WOp prog w h₀ d .Add (.int a) (.int b) σ Q := fun v u hv hu => .mk fun A s _ ok => by cases hv; cases hu; exact add_int (post_here ok (.int _ _) q)
theorem op_sub {a b : Int} (q : Q (.int (a - b)) σ) : WOp prog w h₀ d .Sub (.int a) (.int b) σ Q := fun v u hv hu => .mk fun A s _ ok => by cases hv; cases hu; exact sub_int (post_here ok (.int _ _) q)
theorem op_mul {a b : Int} (q : Q (.int (a * b)) σ) (hm : IntMulOk a b) : WOp prog w h₀ d .Mult (.int a) (.int b) σ Q := fun v u hv hu => .mk fun A s _ ok => by cases hv; cases hu; exact mul_int (post_here ok (.int _ _) q) hm
theorem op_shr {a n : Int} (hn : 0 ≤ n) (q : Q (.int (a.fdiv (2 ^ n.toNat))) σ) : WOp prog w h₀ d .RShift (.int a) (.int n) σ Q := fun v u hv hu => .mk fun A s _ ok => by cases hv; cases hu; exact rshift_int hn (post_here ok (.int _ _) q)
theorem op_pow {a n : Int} (hn : 0 ≤ n) (hsz : (Builtin.Int.intBits a : Int) * n ≤ 2 ^ 27) (q : Q (.int (a ^ n.toNat)) σ) : WOp prog w h₀ d .Pow (.int a) (.int n) σ Q := fun v u hv hu => .mk fun A s _ ok => by cases hv; cases hu; exact pow_int hn hsz (post_here ok (.int _ _) q)
theorem op_floordiv {a b : Int} (hb : b ≠ 0) (hp : Builtin.divisionGoesByPylong a b = false) (q : Q (.int (a.fdiv b)) σ) : WOp prog w h₀ d .FloorDiv (.int a) (.int b) σ Q := fun v u hv hu => .mk fun A s _ ok => by cases hv; cases hu; exact floordiv_int hb (post_here ok (.int _ _) q) (.inl hp)
theorem cmp_lt {a b : Int} (q : Q (.bool (decide (a < b))) σ) : WCmp prog w h₀ d .Lt (.int a) (.int b) σ Q := fun v u hv hu => .mk fun A s _ ok => by cases hv; cases hu; exact lt_int ⟨_, s.heap, s.toks, σ, rfl, .bool _, .refl, ok, q⟩
theorem cmp_le {a b : Int} (q : Q (.bool (decide (a ≤ b))) σ) : WCmp prog w h₀ d .LtE (.int a) (.int b) σ Q := fun v u hv hu => .mk fun A s _ ok => by cases hv; cases hu; exact le_int ⟨_, s.heap, s.toks, σ, rfl, .bool _, .refl, ok, q⟩
theorem cmp_gt {a b : Int} (q : Q (.bool (decide (a > b))) σ) : WCmp prog w h₀ d .Gt (.int a) (.int b) σ Q := fun v u hv hu => .mk fun A s _ ok => by cases hv; cases hu; exact gt_int ⟨_, s.heap, s.toks, σ, rfl, .bool _, .refl, ok, q⟩
theorem cmp_ge {a b : Int} (q : Q (.bool (decide (a ≥ b))) σ) : WCmp prog w h₀ d .GtE (.int a) (.int b) σ Q := fun v u hv hu => .mk fun A s _ ok => by cases hv; cases hu; exact ge_int ⟨_, s.heap, s.toks, σ, rfl, .bool _, .refl, ok, q⟩
theorem cmp_eq {a b : Int} (q : Q (.bool (a == b)) σ) : WCmp prog w h₀ d .Eq (.int a) (.int b) σ Q := fun v u hv hu => .mk fun A s _ ok => by cases hv; cases hu; exact eq_int ⟨_, s.heap, s.toks, σ, rfl, .bool _, .refl, ok, q⟩
theorem cmp_ne {a b : Int} (q : Q (.bool (a != b)) σ) : WCmp prog w h₀ d .NotEq (.int a) (.int b) σ Q := fun v u hv hu => .mk fun A s _ ok => by cases hv; cases hu; exact ne_int ⟨_, s.heap, s.toks, σ, rfl, .bool _, .refl, ok, q⟩
def V.isNone : V → Bool
  | .none => true
  | _ => false
theorem VR.none_iff {v x} (h : VR v x) : (v == Value.none) = x.isNone := by cases h <;> rfl
theorem cmp_is_none {x : V} (q : Q (.bool x.isNone) σ) : WCmp prog w h₀ d .Is x .none σ Q := fun v u hv hu => .mk fun A s _ ok => by
  cases hu; exact is_none ⟨_, s.heap, s.toks, σ, rfl, by rw [hv.none_iff]; exact .bool _, .refl, ok, q⟩
theorem cmp_isnot_none {x : V} (q : Q (.bool (!x.isNone)) σ) : WCmp prog w h₀ d .IsNot x .none σ Q := fun v u hv hu => .mk fun A s _ ok => by
  cases hu; exact isNot_none ⟨_, s.heap, s.toks, σ, rfl, by rw [hv.none_iff]; exact .bool _, .refl, ok, q⟩

/-! ## names of the top -/
def GName (mg mb : Str → Option Value) (x : Str) (f : Value) : Prop := mg x = some f ∨ (mg x = none ∧ mb x = some f)
theorem load_g (G : Glo h₀ mg mb) {A : Around} {s : Shared} {x : Str} {f : Value} {p : Pos} {K : Value → Shared → Prop} {E : Value → Shared → Prop} (ok : OK h₀ s.heap σ) (lk : Look h₀ env s.heap σ m) (hn : GName mg mb x f) (k : K f s)
    (hx : env.kindOf x = some .globalImplicit) (hd : (x == ("__debug__" : Str)) = false) : wpAny (model prog w) A (eval (.Name x p) env) K E s := by
  have hg : s.heap.Ns env.globals mg := by rw [lk.glob]; exact G.g.keeps ok.base
  have hb : s.heap.Ns env.builtins mb := by rw [lk.blt]; exact G.b.keeps ok.base
  rcases hn with e | ⟨e1, e2⟩
  · exact Calls.Name_function_global lk.kind hx (Calls.loadGlobal_global hg e k) hd
  · exact Calls.Name_function_global lk.kind hx (Calls.loadGlobal_builtin hg e1 hb e2 k) hd

/-! ## arguments -/
def PostL (h₀ : Heap) (σ : Store) (s : Shared) (Q : List V → Store → Prop) : List Value → Shared → Prop := fun vs s' =>
  ∃ xs h' tk σ', s' = { s with heap := h', toks := tk } ∧ VRs vs xs ∧ Step NoW σ σ' s.heap h' ∧ OK h₀ h' σ' ∧ Q xs σ'
theorem PostL.chain {Q : List V → Store → Prop} {σ σ₁ : Store} {s : Shared} {h₁ : Heap} {tk₁ : Nat} (st : Step NoW σ σ₁ s.heap h₁) {v : List Value} {s' : Shared}
    (p : PostL h₀ σ₁ { s with heap := h₁, toks := tk₁ } Q v s') : PostL h₀ σ s Q v s' := by
  obtain ⟨x, h', tk, σ', rfl, hv, st', ok, q⟩ := p
  exact ⟨x, h', tk, σ', rfl, hv, st.trans st', ok, q⟩
structure WA (prog : Program) (w : World) (h₀ : Heap) (d : Nat) (env : Env) (m : Loc) (pos : Pos) (es : List Expr) (σ : Store) (Q : List V → Store → Prop) : Prop where
  run : ∀ A s, AOk d A → OK h₀ s.heap σ → Look h₀ env s.heap σ m → wpAny (model prog w) A (spliced (backTo pos (starEach es env))) (PostL h₀ σ s Q) NoE s
theorem wa_nil {pos : Pos} {Q : List V → Store → Prop} (q : Q [] σ) : WA prog w h₀ d env m pos [] σ Q := .mk fun A s a ok lk =>
  args_nil ⟨[], s.heap, s.toks, σ, rfl, .nil, .refl, ok, q⟩
theorem wa_cons {pos : Pos} {e : Expr} {es : List Expr} {Q : List V → Store → Prop} (h : WE prog w h₀ d env m e σ fun x σ₁ => WA prog w h₀ d env m pos es σ₁ fun xs σ₂ => Q (x :: xs) σ₂)
    (he : starEach (e :: es) env = (false, eval e env) :: starEach es env) : WA prog w h₀ d env m pos (e :: es) σ Q := .mk fun A s a ok lk => by
  refine args_cons (we_then h a ok lk fun v x h₁ tk₁ σ₁ hv st₁ ok₁ lk₁ q₁ => ?_) he
  refine wpAny_mono (q₁.run A _ a ok₁ lk₁) (fun vs s' p => ?_) fun _ _ z => z
  obtain ⟨xs, h', tk, σ', rfl, hvs, st', ok', q⟩ := p
  exact ⟨x :: xs, h', tk, σ', rfl, .cons hv hvs, st₁.trans st', ok', q⟩

/-- a callable of the top -/
inductive Callable (h₀ : Heap) : Value → Prop where
  | builtin (id : String) : Callable h₀ (.builtin id)
  | type (T : String) : Callable h₀ (.type T)
  | fn {f : Addr} {o : Obj} {fd : FuncData} : h₀.get? f = some o → o.data = .func fd → Callable h₀ (.ref f)

def WCall (prog : Program) (w : World) (h₀ : Heap) (d : Nat) (f : Value) (xs : List V) (σ : Store) (Q : V → Store → Prop) : Prop := ∀ vs, VRs vs xs → WT prog w h₀ d (call f vs) σ Q

theorem we_call (G : Glo h₀ mg mb) {x : Str} {p pos : Pos} {e : Expr} {es : List Expr} {f : Value} (hn : GName mg mb x f) (hc : Callable h₀ f)
    (h : WA prog w h₀ d env m pos (e :: es) σ fun xs σ₁ => WCall prog w h₀ d f xs σ₁ Q)
    (hx : env.kindOf x = some .globalImplicit) (hd : (x == ("__debug__" : Str)) = false)
    (he : starEach (e :: es) env = (false, eval e env) :: starEach es env) (hp : (backTo pos (starEach es env)).any (·.1) = false) :
    WE prog w h₀ d env m (.Call (.Name x p) (e :: es) [] pos) σ Q := .mk fun A s a ok lk => by
  refine wpAny_Call_NameR (load_g G ok lk hn ?_ hx hd)
  have key : ∀ K : List Value → Shared → Prop, (∀ vs xs h' tk σ', VRs vs xs → Step NoW σ σ' s.heap h' → OK h₀ h' σ' → WCall prog w h₀ d f xs σ' Q → K vs { s with heap := h', toks := tk }) →
      wpAny (model prog w) A (spliced ((false, eval e env) :: backTo pos (starEach es env))) K NoE s := fun K k => by
    have h' := h.run A s a ok lk
    rw [he] at h'
    exact wpAny_mono h' (fun vs s' p => by obtain ⟨xs, h', tk, σ', rfl, hvs, st', ok', q⟩ := p; exact k vs xs h' tk σ' hvs st' ok' q) fun _ _ z => z
  rw [he]
  cases hc with
  | builtin id =>
    refine Calls.callWith_builtin (by show (false || (backTo pos (starEach es env)).any (·.1)) = false; rw [hp]; rfl) (Calls.evalArgs_plain (key _ fun vs xs h' tk σ' hvs st ok' q => ?_))
    exact wpAny_mono ((q vs hvs).run A _ a ok') (fun _ _ p => p.chain st) fun _ _ z => z
  | type T =>
    refine PyProof.Rows.callWith_type (by show (false || (backTo pos (starEach es env)).any (·.1)) = false; rw [hp]; rfl) (Calls.evalArgs_plain (key _ fun vs xs h' tk σ' hvs st ok' q => ?_))
    exact wpAny_mono ((q vs hvs).run A _ a ok') (fun _ _ p => p.chain st) fun _ _ z => z
  | fn ho hfd =>
    refine Calls.callWith_function (Calls.evalArgs_plain (key _ fun vs xs h' tk σ' hvs st ok' q => ⟨⟨ok'.base _ _ ho, hfd⟩, ?_⟩))
    exact wpAny_mono ((q vs hvs).run A _ a ok') (fun _ _ p => p.chain st) fun _ _ z => z
end

/-! ## statements -/
inductive Fl where
  | next | brk | cont
  | ret (v : V)
inductive FlR : Flow → Fl → Prop where
  | next : FlR .next .next
  | brk : FlR .brk .brk
  | cont : FlR .cont .cont
  | ret {v x} : VR v x → FlR (.ret v) (.ret x)

def PostS (h₀ : Heap) (env : Env) (σ : Store) (s : Shared) (Q : Fl → Loc → Store → Prop) : Flow → Shared → Prop := fun f s' =>
  ∃ fl h' tk σ' m', s' = { s with heap := h', toks := tk } ∧ FlR f fl ∧ Step (Own env) σ σ' s.heap h' ∧ OK h₀ h' σ' ∧ Look h₀ env h' σ' m' ∧ Q fl m' σ'
structure WS (prog : Program) (w : World) (h₀ : Heap) (d : Nat) (env : Env) (m : Loc) (b : List Stmt) (σ : Store) (Q : Fl → Loc → Store → Prop) : Prop where
  run : ∀ A s, AOk d A → OK h₀ s.heap σ → Look h₀ env s.heap σ m → wpAny (model prog w) A (execs b env) (PostS h₀ env σ s Q) NoE s
structure WX (prog : Program) (w : World) (h₀ : Heap) (d : Nat) (env : Env) (m : Loc) (st : Stmt) (σ : Store) (Q : Fl → Loc → Store → Prop) : Prop where
  run : ∀ A s, AOk d A → OK h₀ s.heap σ → Look h₀ env s.heap σ m → wpAny (model prog w) A (exec st env) (PostS h₀ env σ s Q) NoE s

section
variable {prog : Program} {w : World} {h₀ : Heap} {d : Nat} {env : Env} {m : Loc} {σ : Store} {Q : Fl → Loc → Store → Prop} {mg mb : Str → Option Value}

theorem PostS.chain {σ σ₁ : Store} {s : Shared} {h₁ : Heap} {tk₁ : Nat} (st : Step (Own env) σ σ₁ s.heap h₁) {f : Flow} {s' : Shared}
    (p : PostS h₀ env σ₁ { s with heap := h₁, toks := tk₁ } Q f s') : PostS h₀ env σ s Q f s' := by
  obtain ⟨x, h', tk, σ', m', rfl, hv, st', ok, lk, q⟩ := p
  exact ⟨x, h', tk, σ', m', rfl, hv, st.trans st', ok, lk, q⟩
theorem WS.mono {b : List Stmt} {Q' : Fl → Loc → Store → Prop} (h : WS prog w h₀ d env m b σ Q) (k : ∀ f m' σ', Q f m' σ' → Q' f m' σ') : WS prog w h₀ d env m b σ Q' :=
  .mk fun A s a ok lk => wpAny_mono (h.run A s a ok lk) (fun _ _ ⟨x, h', tk, σ', m', e, hv, st, ok', lk', q⟩ => ⟨x, h', tk, σ', m', e, hv, st, ok', lk', k _ _ _ q⟩) fun _ _ z => z
theorem WS.weaken {b : List Stmt} {m₂ : Loc} (h : WS prog w h₀ d env m₂ b σ Q) (k : ∀ p ∈ m₂, m.lookup p.1 = some p.2) : WS prog w h₀ d env m b σ Q :=
  .mk fun A s a ok lk => h.run A s a ok (lk.weaken fun y v e => k _ (mem_of_lookup e))
theorem WS.weakenσ {b : List Stmt} {σ₂ : Store} (h : WS prog w h₀ d env m b σ₂ Q) (k : ∀ a o, σ₂ a = some o → σ a = some o) : WS prog w h₀ d env m b σ Q := .mk fun A s a ok lk => by
  have n : ∀ a, σ a = none → σ₂ a = none := fun a e => by
    cases q : σ₂ a with
    | none => rfl
    | some o => rw [k a o q] at e; cases e
  refine wpAny_mono (h.run A s a (ok.weaken k) (lk.del fun a ha => n a (lk.ownoff a ha).1)) (fun _ _ ⟨x, h', tk, σ', m', e, hv, st, ok', lk', q⟩ => ⟨x, h', tk, σ', m', e, hv, ⟨fun b o hb => st.keep b o (n b hb), fun a h1 => st.fresh a (n a h1)⟩, ok', lk', q⟩) fun _ _ z => z

theorem ws_nil (q : Q .next m σ) : WS prog w h₀ d env m [] σ Q := .mk fun A s a ok lk => wpAny_execs_nil ⟨.next, s.heap, s.toks, σ, m, rfl, .next, .refl, ok, lk, q⟩
theorem ws_cons {st : Stmt} {rest : List Stmt} (h : WX prog w h₀ d env m st σ fun f m₁ σ₁ => match f with | .next => WS prog w h₀ d env m₁ rest σ₁ Q | f => Q f m₁ σ₁) :
    WS prog w h₀ d env m (st :: rest) σ Q := .mk fun A s a ok lk => by
  refine wpAny_execs_cons (wpAny_mono (h.run A s a ok lk) (fun f s' p => ?_) fun _ _ z => z)
  obtain ⟨fl, h', tk, σ', m', rfl, hf, st', ok', lk', q⟩ := p
  cases hf with
  | next => exact wpAny_mono (q.run A _ a ok' lk') (fun _ _ p => p.chain st') fun _ _ z => z
  | brk => exact ⟨.brk, h', tk, σ', m', rfl, .brk, st', ok', lk', q⟩
  | cont => exact ⟨.cont, h', tk, σ', m', rfl, .cont, st', ok', lk', q⟩
  | ret hv => exact ⟨.ret _, h', tk, σ', m', rfl, .ret hv, st', ok', lk', q⟩
theorem wx_return {e : Expr} {pos : Pos} (h : WE prog w h₀ d env m e σ fun x σ₁ => Q (.ret x) m σ₁) : WX prog w h₀ d env m (.Return (some e) pos) σ Q := .mk fun A s a ok lk =>
  wpAny_Return_some (we_then h a ok lk fun v x h' tk σ' hv st ok' lk' q => ⟨.ret x, h', tk, σ', m, rfl, .ret hv, st.lift lk.own, ok', lk', q⟩)
theorem wx_break {pos : Pos} (q : Q .brk m σ) : WX prog w h₀ d env m (.Break pos) σ Q := .mk fun A s a ok lk => wpAny_Break ⟨.brk, s.heap, s.toks, σ, m, rfl, .brk, .refl, ok, lk, q⟩
theorem wx_continue {pos : Pos} (q : Q .cont m σ) : WX prog w h₀ d env m (.Continue pos) σ Q := .mk fun A s a ok lk => wpAny_Continue ⟨.cont, s.heap, s.toks, σ, m, rfl, .cont, .refl, ok, lk, q⟩
theorem wx_if {t : Expr} {b o : List Stmt} {pos : Pos} (h : WB prog w h₀ d env m t σ fun c σ₁ => if c then WS prog w h₀ d env m b σ₁ Q else WS prog w h₀ d env m o σ₁ Q) : WX prog w h₀ d env m (.If t b o pos) σ Q := .mk fun A s a ok lk => by
  refine wpAny_If (wpAny_mono (h.run A s a ok lk) (fun c s' p => ?_) fun _ _ z => z)
  obtain ⟨h', tk, σ', rfl, st, ok', q⟩ := p
  cases c with
  | true => simp only [if_true] at q ⊢; exact wpAny_mono (q.run A _ a ok' (lk.step st)) (fun _ _ p => p.chain (st.lift lk.own)) fun _ _ z => z
  | false => simp only [Bool.false_eq_true, if_false] at q ⊢; exact wpAny_mono (q.run A _ a ok' (lk.step st)) (fun _ _ p => p.chain (st.lift lk.own)) fun _ _ z => z
theorem wx_expr {e : Expr} {pos : Pos} (h : WE prog w h₀ d env m e σ fun x σ₁ => (∀ a, x ≠ .ref a) ∧ Q .next m σ₁) (hi : interactive env = false) (hs : swapsWith e none pos.line env = pure false) :
    WX prog w h₀ d env m (.Expr e pos) σ Q := .mk fun A s a ok lk => by
  refine wpAny_Expr (we_then h a ok lk fun v x h' tk σ' hv st ok' lk' q => ?_) hi hs
  have p : PostS h₀ env σ s Q .next { s with heap := h', toks := tk } := ⟨.next, h', tk, σ', m, rfl, .next, st.lift lk.own, ok', lk', q.2⟩
  cases hv with
  | ref a => exact absurd rfl (q.1 a)
  | _ => exact p

/-- storing a name -/
theorem lookup_set {m : Loc} {x : Str} {v : V} (y : Str) : List.lookup y ((x, v) :: m) = if y = x then some v else m.lookup y := by
  rw [List.lookup_cons]
  by_cases h : y = x
  · subst h; simp
  · rw [beq_eq_false_iff_ne.mpr h, if_neg h]
theorem store_local {A : Around} {s : Shared} {x : Str} {v : Value} {xv : V} {K : Unit → Shared → Prop} {E : Value → Shared → Prop} (ok : OK h₀ s.heap σ) (lk : Look h₀ env s.heap σ m) (hv : VR v xv) (hx : env.kindOf x = some .local)
    (k : ∀ h' tk, Step (Own env) σ σ s.heap h' → OK h₀ h' σ → Look h₀ env h' σ ((x, xv) :: m) → K () { s with heap := h', toks := tk }) : wpAny (model prog w) A (storeName env x v) K E s := by
  obtain ⟨mm, hn, hm⟩ := lk.ns
  refine wpAny_storeName_local hx hn (fun h' hn' hs => ?_) (by rw [lk.kind]; rfl)
  refine k h' _ ⟨fun b o hb hw e => hs.extBut b o (fun z => hw (.inl z)) e, fun _ h1 h2 => absurd h1 h2⟩ ⟨fun b o e => ?_, ok.off, fun a o e => ?_⟩ ⟨lk.kind, lk.glob, lk.blt, ⟨_, hn', fun y u hy hl => ?_⟩, fun y c hc => ?_, lk.nsoff, lk.celloff, lk.inj⟩
  · exact hs.extBut b o (fun z => by have := lk.nsoff.2; rw [← z, e] at this; cases this) (ok.base b o e)
  · exact (ok.sr a o e).at fun ob e' => hs.extBut a ob (fun z => by have := lk.nsoff.1; rw [← z, e] at this; cases this) e'
  · rw [lookup_set] at hl
    by_cases q : y = x
    · rw [if_pos q] at hl; cases hl; exact ⟨v, by rw [if_pos q], hv⟩
    · rw [if_neg q] at hl; obtain ⟨val, e, r⟩ := hm y u hy hl; exact ⟨val, by rw [if_neg q]; exact e, r⟩
  · obtain ⟨ov, hc', hv'⟩ := lk.cell y c hc
    refine ⟨ov, hc'.sameBut hs (lk.celloff y c hc).2.2, fun u hk hl => hv' u hk ?_⟩
    rw [lookup_set] at hl
    rwa [if_neg (fun q => by subst q; rw [hx] at hk; simp at hk)] at hl
theorem store_cell {A : Around} {s : Shared} {x : Str} {v : Value} {xv : V} {c : Addr} {K : Unit → Shared → Prop} {E : Value → Shared → Prop} (ok : OK h₀ s.heap σ) (lk : Look h₀ env s.heap σ m) (hv : VR v xv) (hx : env.kindOf x = some .cell) (hc : env.cells.lookup x = some c)
    (k : ∀ h' tk, Step (Own env) σ σ s.heap h' → OK h₀ h' σ → Look h₀ env h' σ ((x, xv) :: m) → K () { s with heap := h', toks := tk }) : wpAny (model prog w) A (storeName env x v) K E s := by
  obtain ⟨ov, hcell, hm⟩ := lk.cell x c hc
  refine wpAny_storeName_cell lk.kind hx hc hcell (fun h' hn' hs => ?_)
  refine k h' s.toks ⟨fun b o hb hw e => hs.extBut b o (fun z => hw (.inr ⟨x, z ▸ hc⟩)) e, fun _ h1 h2 => absurd h1 h2⟩ ⟨fun b o e => ?_, ok.off, fun a o e => ?_⟩ ⟨lk.kind, lk.glob, lk.blt, ?_, fun y c' hc' => ?_, lk.nsoff, lk.celloff, lk.inj⟩
  · exact hs.extBut b o (fun z => by have := (lk.celloff x c hc).2.1; rw [← z, e] at this; cases this) (ok.base b o e)
  · exact (ok.sr a o e).at fun ob e' => hs.extBut a ob (fun z => by have := (lk.celloff x c hc).1; rw [← z, e] at this; cases this) e'
  · obtain ⟨mm, hn, hm'⟩ := lk.ns
    refine ⟨mm, hn.sameBut hs (fun z => (lk.celloff x c hc).2.2 z.symm), fun y u hy hl => hm' y u hy ?_⟩
    rw [lookup_set] at hl
    rwa [if_neg (fun q => by subst q; rw [hx] at hy; simp at hy)] at hl
  · by_cases q : y = x
    · subst q; rw [hc] at hc'; cases hc'
      refine ⟨some v, hn', fun u hk hl => ?_⟩
      rw [lookup_set, if_pos rfl] at hl; cases hl; exact ⟨v, rfl, hv⟩
    · obtain ⟨ov', hcell', hv'⟩ := lk.cell y c' hc'
      refine ⟨ov', hcell'.sameBut hs (fun z => q (lk.inj y x c (z ▸ hc') hc)), fun u hk hl => hv' u hk ?_⟩
      rw [lookup_set, if_neg q] at hl; exact hl

/-- where a name lives -/
def Lives (env : Env) (x : Str) : Prop := env.kindOf x = some .local ∨ (env.kindOf x = some .cell ∧ ∃ c, env.cells.lookup x = some c)
theorem store_name {A : Around} {s : Shared} {x : Str} {v : Value} {xv : V} {K : Unit → Shared → Prop} {E : Value → Shared → Prop} (ok : OK h₀ s.heap σ) (lk : Look h₀ env s.heap σ m) (hv : VR v xv) (hx : Lives env x)
    (k : ∀ h' tk, Step (Own env) σ σ s.heap h' → OK h₀ h' σ → Look h₀ env h' σ ((x, xv) :: m) → K () { s with heap := h', toks := tk }) : wpAny (model prog w) A (storeName env x v) K E s := by
  rcases hx with hx | ⟨hx, c, hc⟩
  · exact store_local ok lk hv hx k
  · exact store_cell ok lk hv hx hc k
theorem wx_assign {x : Str} {pos' pos : Pos} {e : Expr} (h : WE prog w h₀ d env m e σ fun v σ₁ => Q .next ((x, v) :: m) σ₁) (hx : Lives env x) (hs : swapsWith e (some (.Name x pos')) pos.line env = pure false) :
    WX prog w h₀ d env m (.Assign [.Name x pos'] e pos) σ Q := .mk fun A s a ok lk => by
  refine wpAny_Assign_Name (we_then h a ok lk fun v xv h₁ tk₁ σ₁ hv st₁ ok₁ lk₁ q => ?_) hs
  refine store_name ok₁ lk₁ hv hx fun h' tk st ok' lk' => ?_
  exact ⟨.next, h', tk, σ₁, _, rfl, .next, (st₁.lift lk.own).trans st, ok', lk', q⟩

/-! ## while -/
theorem wx_while {t : Expr} {b : List Stmt} {pos : Pos} {α : Type} (Inv : α → Loc → Store → Prop) (μ : α → Nat) (a₀ : α) (hi : Inv a₀ m σ)
    (turn : ∀ a m₁ σ₁, Inv a m₁ σ₁ → WB prog w h₀ d env m₁ t σ₁ fun c σ₂ => if c then WS prog w h₀ d env m₁ b σ₂ (fun f m₃ σ₃ => match f with
        | .next | .cont => ∃ a', μ a' < μ a ∧ Inv a' m₃ σ₃
        | .brk => Q .next m₃ σ₃
        | .ret v => Q (.ret v) m₃ σ₃) else Q .next m₁ σ₂) :
    WX prog w h₀ d env m (.While t b [] pos) σ Q := .mk fun A s ra ok lk => by
  refine wpAny_While (codeAny_whileLoop (fun n s' => ∃ a h' tk σ' m', s' = { s with heap := h', toks := tk } ∧ μ a = n ∧ Step (Own env) σ σ' s.heap h' ∧ OK h₀ h' σ' ∧ Look h₀ env h' σ' m' ∧ Inv a m' σ') ?_ (μ a₀)
    ⟨a₀, s.heap, s.toks, σ, m, rfl, rfl, .refl, ok, lk, hi⟩)
  rintro n s' ⟨a, h₁, tk₁, σ₁, m₁, rfl, rfl, st₁, ok₁, lk₁, hi₁⟩
  refine wpAny_mono ((turn a m₁ σ₁ hi₁).run A _ ra ok₁ lk₁) (fun c s' p => ?_) fun _ _ z => z.elim
  obtain ⟨h₂, tk₂, σ₂, rfl, st₂, ok₂, q⟩ := p
  have lk₂ := lk₁.step st₂
  have st₂' := st₁.trans (st₂.lift lk₁.own)
  cases c with
  | false =>
    simp only [Bool.false_eq_true, if_false] at q ⊢
    exact wpAny_execs_nil ⟨.next, h₂, tk₂, σ₂, m₁, rfl, .next, st₂', ok₂, lk₂, q⟩
  | true =>
    simp only [if_true] at q ⊢
    refine wpAny_mono (q.run A _ ra ok₂ lk₂) (fun f s' p => ?_) fun _ _ z => z.elim
    obtain ⟨fl, h₃, tk₃, σ₃, m₃, rfl, hf, st₃, ok₃, lk₃, q₃⟩ := p
    have st₃' := st₂'.trans st₃
    cases hf with
    | next => obtain ⟨a', hlt, hi'⟩ := q₃; exact ⟨μ a', hlt, a', h₃, tk₃, σ₃, m₃, rfl, rfl, st₃', ok₃, lk₃, hi'⟩
    | cont => obtain ⟨a', hlt, hi'⟩ := q₃; exact ⟨μ a', hlt, a', h₃, tk₃, σ₃, m₃, rfl, rfl, st₃', ok₃, lk₃, hi'⟩
    | brk => exact ⟨.next, h₃, tk₃, σ₃, m₃, rfl, .next, st₃', ok₃, lk₃, q₃⟩
    | ret hv => exact ⟨.ret _, h₃, tk₃, σ₃, m₃, rfl, .ret hv, st₃', ok₃, lk₃, q₃⟩
end
end Mine
end
section
open PySem PySem.Calls PyProof.Rows
namespace Mine

/-! ## a call of a def of the text -/
theorem bindL_notin {kindOf : Str → Option NameKind} : ∀ (binds : List (Str × Value)) (m : Str → Option Value) (x : Str), x ∉ binds.map (·.1) → bindL kindOf binds m x = m x
  | [], _, _, _ => rfl
  | (n, v) :: r, m, x, h => by
    simp only [List.map_cons, List.mem_cons, not_or] at h
    rw [bindL, bindL_notin r _ x h.2]
    split
    · simp [h.1]
    · rfl
theorem bindC_notin {kindOf : Str → Option NameKind} : ∀ (binds : List (Str × Value)) (m : Str → Option Value) (x : Str), x ∉ binds.map (·.1) → bindC kindOf binds m x = m x
  | [], _, _, _ => rfl
  | (n, v) :: r, m, x, h => by
    simp only [List.map_cons, List.mem_cons, not_or] at h
    rw [bindC, bindC_notin r _ x h.2]
    split
    · rfl
    · simp [h.1]
theorem bindL_get {kindOf : Str → Option NameKind} : ∀ (binds : List (Str × Value)) (m : Str → Option Value) (x : Str) (v : Value), (binds.map (·.1)).Nodup → (x, v) ∈ binds → kindOf x = some .local → bindL kindOf binds m x = some v
  | (n, u) :: r, m, x, v, hd, hm, hk => by
    simp only [List.map_cons, List.nodup_cons] at hd
    rw [bindL]
    rcases List.mem_cons.mp hm with e | hm
    · cases e
      rw [bindL_notin r _ _ hd.1, if_pos hk]; simp
    · exact bindL_get r _ x v hd.2 hm hk
theorem bindC_get {kindOf : Str → Option NameKind} : ∀ (binds : List (Str × Value)) (m : Str → Option Value) (x : Str) (v : Value), (binds.map (·.1)).Nodup → (x, v) ∈ binds → kindOf x ≠ some .local → bindC kindOf binds m x = some v
  | (n, u) :: r, m, x, v, hd, hm, hk => by
    simp only [List.map_cons, List.nodup_cons] at hd
    rw [bindC]
    rcases List.mem_cons.mp hm with e | hm
    · cases e
      rw [bindC_notin r _ _ hd.1, if_neg hk]; simp
    · exact bindC_get r _ x v hd.2 hm hk
theorem zip_lookup {vs : List Value} {xs : List V} (h : VRs vs xs) : ∀ (names : List Str) (x : Str) (v : V), (names.zip xs).lookup x = some v → ∃ val, (x, val) ∈ names.zip vs ∧ VR val v := by
  induction h with
  | nil => intro names x v hl; simp at hl
  | cons h1 h2 ih =>
    intro names x v hl
    cases names with
    | nil => simp at hl
    | cons n names =>
      rw [List.zip_cons_cons, lookup_set] at hl
      by_cases q : x = n
      · rw [if_pos q] at hl; cases hl; subst q; exact ⟨_, by simp, h1⟩
      · rw [if_neg q] at hl; obtain ⟨val, e, r⟩ := ih names x v hl; exact ⟨val, by simp [e], r⟩
theorem get_ge_none (h : Heap) (a : Addr) (e : h.objs.size ≤ a) : h.get? a = none := by
  cases q : h.get? a with
  | none => rfl
  | some o => exact absurd (Heap.lt_size q) (Nat.not_lt.mpr e)

structure DefAt (h₀ : Heap) (f : Addr) (fd : FuncData) (body : List Stmt) (names : List Str) : Prop where
  at' : ∃ o, h₀.get? f = some o ∧ o.data = .func fd
  code : h₀.CodeRec fd.code fd.qualname
  body : fd.body = .stmts body
  bind : ∀ vs : List Value, vs.length = names.length → bindArgs fd ⟨vs, []⟩ = pure (names.zip vs)
  clo : fd.closure = []
  nodup : names.Nodup
  kinds : ∀ x ∈ names, fd.scope.names.lookup x = some .local ∨ fd.scope.names.lookup x = some .cell
  glob : fd.globals = mainGlobals
  blt : fd.builtins = builtinsNs
  co : fd.scope.isCoroutine = false
  gen : fd.scope.isGenerator = false
  kind : fd.scope.kind = .function
theorem DefAt.callable {h₀ f fd body names} (D : DefAt h₀ f fd body names) : Callable h₀ (.ref f) := let ⟨_, ho, hd⟩ := D.at'; .fn ho hd

section
variable {prog : Program} {w : World} {h₀ : Heap} {d : Nat} {env : Env} {m : Loc} {σ : Store} {mg mb : Str → Option Value}

theorem wcall_def {Q : V → Store → Prop} (G : Glo h₀ mg mb) {f : Addr} {fd : FuncData} {body : List Stmt} {names : List Str} (D : DefAt h₀ f fd body names) {xs : List V} (hlen : xs.length = names.length)
    (h : ∀ L, WS prog w h₀ d (callEnvC fd L f) (names.zip xs) body σ fun fl _ σ' => Q (match fl with | .ret v => v | _ => .none) σ') : WCall prog w h₀ (d + 1) (.ref f) xs σ Q := fun vs hvs => .mk fun A s a ok => by
  obtain ⟨o, ho, hdata⟩ := D.at'
  have hvl : vs.length = names.length := hvs.length.trans hlen
  have hnames : (names.zip vs).map (·.1) = names := by rw [List.map_fst_zip]; omega
  have hnd : ((names.zip vs).map (·.1)).Nodup := by rw [hnames]; exact D.nodup
  refine wpAny_call (codeAny_call_cells (by have := a.depth; omega) (ok.base _ _ ho) hdata (G.nolimit.keeps ok.base) (D.code.keeps ok.base) D.body (D.bind vs hvl) D.clo ?_ ?_ D.co D.gen D.kind)
  · intro x hx
    have : x.1 ∈ names := by rw [← hnames]; exact List.mem_map_of_mem hx
    rcases D.kinds x.1 this with e | e
    · exact .inl e
    · exact .inr ⟨e, W.cellsFrom_some _ _ _ (.inl e)⟩
  · intro s₁ x
    obtain ⟨h₁, tk₁, rfl⟩ := x.toInCall.same
    have keep : ∀ b o, s.heap.get? b = some o → h₁.get? b = some o := x.toInCall.keep
    have cellnew : ∀ y c, (callEnvC fd s.heap.objs.size f).cells.lookup y = some c → s.heap.get? c = none ∧ c ≠ s.heap.objs.size := fun y c hc => by
      have := x.above y c (mem_of_lookup hc)
      have this : s.heap.objs.size < c := this
      exact ⟨get_ge_none _ _ (Nat.le_of_lt this), Nat.ne_of_gt this⟩
    have σnone : ∀ b, s.heap.get? b = none → σ b = none := fun b e => by
      cases q : σ b with
      | none => rfl
      | some o => obtain ⟨ob, e'⟩ := (ok.sr b o q).some; rw [e] at e'; cases e'
    have bnone : ∀ b, s.heap.get? b = none → h₀.get? b = none := fun b e => by
      cases q : h₀.get? b with
      | none => rfl
      | some o => rw [ok.base b o q] at e; cases e
    have hL : s.heap.get? s.heap.objs.size = none := size_none _
    have lk : Look h₀ (callEnvC fd s.heap.objs.size f) h₁ σ (names.zip xs) := by
      refine ⟨D.kind, D.glob, D.blt, ⟨_, x.toInCall.ns, fun y v hk hl => ?_⟩, fun y c hc => ⟨_, x.cell y c hc, fun v hk hl => ?_⟩, ⟨σnone _ hL, bnone _ hL⟩, fun y c hc => ⟨σnone _ (cellnew y c hc).1, bnone _ (cellnew y c hc).1, (cellnew y c hc).2⟩,
        fun y z c h1 h2 => name_of_addr x.apart (mem_of_lookup h1) (mem_of_lookup h2)⟩
      · obtain ⟨val, hm, hr⟩ := zip_lookup hvs names y v hl
        exact ⟨val, bindL_get _ _ _ _ hnd hm hk, hr⟩
      · obtain ⟨val, hm, hr⟩ := zip_lookup hvs names y v hl
        exact ⟨val, bindC_get _ _ _ _ hnd hm (by rcases hk with e | e <;> (rw [e]; simp)), hr⟩
    have ok₁ : OK h₀ h₁ σ := (ok.keeps keep).1
    refine wpAny_mono ((h _).run _ _ (a.deeper _) ok₁ lk) (fun fl s' p => ?_) fun _ _ z => z.elim
    obtain ⟨fl', h', tk, σ', m', rfl, hf, st, ok', lk', q⟩ := p
    have own : ∀ b, Own (callEnvC fd s.heap.objs.size f) b → s.heap.get? b = none := fun b hb => by
      rcases hb with rfl | ⟨y, hy⟩
      · exact hL
      · exact (cellnew y b hy).1
    have st' : Step NoW σ σ' s.heap h' := ⟨fun b o hb _ e => st.keep b o hb (fun z => by rw [own b z] at e; cases e) (keep b o e), fun b h1 h2 => ⟨(by
      cases q : s.heap.get? b with
      | none => rfl
      | some o => have := (st.fresh b h1 h2).1; rw [keep b o q] at this; cases this), fun z => z⟩⟩
    cases hf with
    | ret hv => exact ⟨_, h', tk, σ', rfl, hv, st', ok', q⟩
    | _ => exact ⟨_, h', tk, σ', rfl, .none, st', ok', q⟩

/-! ## iterators -/
structure Iter (prog : Program) (w : World) (h₀ : Heap) (A : Around) (I : Addr) (xs : List V) (It : Nat → Heap → Prop) (C : Store → Prop) : Prop where
  frame : ∀ i h h', It i h → (∀ o, h.get? I = some o → h'.get? I = some o) → It i h'
  here : ∀ i h, It i h → ∃ o n fs, h.get? I = some o ∧ o.cls = .type n ∧ o.data = .fields fs ∧ ["enumerate", "zip", "dict_itemiterator", "dict_reverseitemiterator", "odict_iterator", "itertools.zip_longest", "itertools.pairwise"].contains n = false
  item : ∀ i s σ x, It i s.heap → OK h₀ s.heap σ → C σ → xs[i]? = some x → ∀ (Q : Option Value → Shared → Prop) (E : Value → Shared → Prop),
    (∀ v h' tk, VR v x → It (i + 1) h' → (∀ b o, b ≠ I → s.heap.get? b = some o → h'.get? b = some o) → Q (some v) { s with heap := h', toks := tk }) → wpAny (model prog w) A (pyNext (.ref I)) Q E s
  done : ∀ s σ, It xs.length s.heap → OK h₀ s.heap σ → C σ → ∀ (Q : Option Value → Shared → Prop) (E : Value → Shared → Prop),
    (∀ h' tk, (∀ b o, b ≠ I → s.heap.get? b = some o → h'.get? b = some o) → Q none { s with heap := h', toks := tk }) → wpAny (model prog w) A (pyNext (.ref I)) Q E s
  self : ∀ i s, It i s.heap → ∀ (Q : Value → Shared → Prop) (E : Value → Shared → Prop), Q (.ref I) s → wpAny (model prog w) A (pyIter (.ref I)) Q E s

theorem iter_list {A : Around} (hh : A.handled = none) (I l : Addr) (xs : List V) : Iter prog w h₀ A I xs (fun i h => h.IsListIter I l i) (fun σ => σ l = some (.list xs)) where
  frame := fun i h h' st k => st.at k
  here := fun i h ⟨o, e, c, dt⟩ => ⟨o, _, _, e, c, dt, by decide⟩
  item := fun i s σ x st ok c hx Q E k => by
    obtain ⟨its, pl, hv⟩ := ok.sr _ _ c
    obtain ⟨v, e, hr⟩ := hv.get i x hx
    exact wpAny_pyNext_list_item st pl.isList (x := v) (by simpa using e) fun h' hit hs => k v h' s.toks hr hit fun b o hb e => hs.extBut b o hb e
  done := fun s σ st ok c Q E k => by
    obtain ⟨its, pl, hv⟩ := ok.sr _ _ c
    exact wpAny_pyNext_list_end hh st pl.isList (by simp [hv.length]) fun h' he => k h' s.toks fun b o hb e => he b o hb e
  self := fun i s st Q E k => wpAny_pyIter_listiter st k
def rangeV (a c : Int) (n : Nat) : List V := (List.range n).map fun (i : Nat) => V.int (a + i * c)
theorem iter_range {A : Around} (hh : A.handled = none) (I : Addr) (a c : Int) (n : Nat) : Iter prog w h₀ A I (rangeV a c n) (fun i h => IsRangeIter h I (a + (i : Nat) * c) ((n : Int) - (i : Nat)) c) (fun _ => True) where
  frame := fun i h h' st k => k _ st
  here := fun i h e => ⟨_, _, _, e, rfl, rfl, by decide⟩
  item := fun i s σ x st ok _ hx Q E k => by
    have W := Walks.range (prog := prog) (w := w) hh I a c n
    have hlt : i < n := by
      have := (List.getElem?_eq_some_iff.mp hx).1
      simpa [rangeV] using this
    have hx' : x = .int (a + i * c) := by simpa [rangeV, hlt] using hx.symm
    subst hx'
    exact W.item i s Q E hlt st fun v h' tk ⟨t, e⟩ st' kp => by subst e; exact k _ h' tk (.int _ _) st' fun b o hb e => kp b o (by simpa using hb) e
  done := fun s σ st ok _ Q E k => by
    have W := Walks.range (prog := prog) (w := w) hh I a c n
    have hl : (rangeV a c n).length = n := by simp [rangeV]
    rw [hl] at st
    exact W.done s Q E st fun h' tk kp => k h' tk fun b o hb e => kp b o (by simpa using hb) e
  self := fun i s st Q E k => wpAny_pyIter_rangeiter st k

/-- evaluating what a loop runs over -/
structure WI (prog : Program) (w : World) (h₀ : Heap) (d : Nat) (env : Env) (m : Loc) (iter : Expr) (σ : Store) (Q : List V → (Store → Prop) → Store → Prop) : Prop where
  run : ∀ A s, AOk d A → OK h₀ s.heap σ → Look h₀ env s.heap σ m → wpAny (model prog w) A (eval iter env) (fun xv s₁ => wpAny (model prog w) A (pyIter xv) (fun it s₂ =>
    ∃ I h' tk σ' xs It C, it = .ref I ∧ s₂ = { s with heap := h', toks := tk } ∧ Step NoW σ σ' s.heap h' ∧ OK h₀ h' σ' ∧ σ' I = none ∧ (∀ b o, σ b = none → s.heap.get? b = some o → b ≠ I) ∧ Iter prog w h₀ A I xs It C ∧ It 0 h' ∧ Q xs C σ') NoE s₁) NoE s

theorem wi_list {e : Expr} {Q : List V → (Store → Prop) → Store → Prop} (h : WE prog w h₀ d env m e σ fun x σ₁ => ∃ l xs, x = .ref l ∧ σ₁ l = some (.list xs) ∧ Q xs (fun σ => σ l = some (.list xs)) σ₁) : WI prog w h₀ d env m e σ Q := .mk fun A s a ok lk => by
  refine we_then h a ok lk fun v x h₁ tk₁ σ₁ hv st₁ ok₁ lk₁ q => ?_
  obtain ⟨l, xs, rfl, hl, q⟩ := q
  cases hv
  obtain ⟨its, pl, hvs⟩ := ok₁.sr _ _ hl
  refine wpAny_pyIter_list pl.isList ?_
  have k : ∀ b o, h₁.get? b = some o → (h₁.push { cls := .type "list_iterator", data := .fields #[.ref l, .int 0 0] }).get? b = some o := fun b o e => Heap.get?_push_of_some _ e
  have n1 : σ₁ h₁.objs.size = none := by
    cases q : σ₁ h₁.objs.size with
    | none => rfl
    | some o => obtain ⟨ob, e⟩ := (ok₁.sr _ _ q).some; rw [size_none] at e; cases e
  have n0 : ∀ b o, σ b = none → s.heap.get? b = some o → b ≠ h₁.objs.size := fun b o hb e => Nat.ne_of_lt (Heap.lt_size (st₁.keep b o hb (fun y => y) e))
  exact ⟨h₁.objs.size, _, tk₁, σ₁, xs, _, _, rfl, rfl, st₁.trans (ok₁.keeps k).2, (ok₁.keeps k).1, n1, n0, iter_list a.hh _ l xs, ⟨_, Heap.get?_push_size _ rfl, rfl, rfl⟩, q⟩
end
end Mine
end
section
open PySem PySem.Calls PyProof.Rows
namespace Mine

section
variable {prog : Program} {w : World} {h₀ : Heap} {d : Nat} {env : Env} {m : Loc} {σ : Store} {mg mb : Str → Option Value}

/-! ## targets -/
structure WAsg (prog : Program) (w : World) (h₀ : Heap) (d : Nat) (env : Env) (t : Expr) (v : V) (m m' : Loc) (σ : Store) : Prop where
  run : ∀ A s val (K : Unit → Shared → Prop) (E : Value → Shared → Prop), AOk d A → OK h₀ s.heap σ → Look h₀ env s.heap σ m → VR val v →
    (∀ h' tk, Step (fun a => a = env.locals) σ σ s.heap h' → OK h₀ h' σ → Look h₀ env h' σ m' → K () { s with heap := h', toks := tk }) → wpAny (model prog w) A (assign t env val) K E s
theorem store_local' {A : Around} {s : Shared} {x : Str} {v : Value} {xv : V} {K : Unit → Shared → Prop} {E : Value → Shared → Prop} (ok : OK h₀ s.heap σ) (lk : Look h₀ env s.heap σ m) (hv : VR v xv) (hx : env.kindOf x = some .local)
    (k : ∀ h' tk, Step (fun a => a = env.locals) σ σ s.heap h' → OK h₀ h' σ → Look h₀ env h' σ ((x, xv) :: m) → K () { s with heap := h', toks := tk }) : wpAny (model prog w) A (storeName env x v) K E s := by
  obtain ⟨mm, hn, hm⟩ := lk.ns
  refine wpAny_storeName_local hx hn (fun h' hn' hs => ?_) (by rw [lk.kind]; rfl)
  refine k h' _ ⟨fun b o hb hw e => hs.extBut b o (fun z => hw z) e, fun _ h1 h2 => absurd h1 h2⟩ ⟨fun b o e => ?_, ok.off, fun a o e => ?_⟩ ⟨lk.kind, lk.glob, lk.blt, ⟨_, hn', fun y u hy hl => ?_⟩, fun y c hc => ?_, lk.nsoff, lk.celloff, lk.inj⟩
  · exact hs.extBut b o (fun z => by have := lk.nsoff.2; rw [← z, e] at this; cases this) (ok.base b o e)
  · exact (ok.sr a o e).at fun ob e' => hs.extBut a ob (fun z => by have := lk.nsoff.1; rw [← z, e] at this; cases this) e'
  · rw [lookup_set] at hl
    by_cases q : y = x
    · rw [if_pos q] at hl; cases hl; exact ⟨v, by rw [if_pos q], hv⟩
    · rw [if_neg q] at hl; obtain ⟨val, e, r⟩ := hm y u hy hl; exact ⟨val, by rw [if_neg q]; exact e, r⟩
  · obtain ⟨ov, hc', hv'⟩ := lk.cell y c hc
    refine ⟨ov, hc'.sameBut hs (lk.celloff y c hc).2.2, fun u hk hl => hv' u hk ?_⟩
    rw [lookup_set] at hl
    rwa [if_neg (fun q => by subst q; rw [hx] at hk; simp at hk)] at hl
theorem asg_name {x : Str} {px : Pos} {v : V} (hx : env.kindOf x = some .local) : WAsg prog w h₀ d env (.Name x px) v m ((x, v) :: m) σ :=
  .mk fun A s val K E a ok lk hv k => wpAny_assign_Name (store_local' ok lk hv hx k)
theorem asg_tup2 {x y : Str} {px py pos : Pos} {kk : Nat} {a : Addr} {u v : V} (ha : σ a = some (.tup [u, v])) (hx : env.kindOf x = some .local) (hy : env.kindOf y = some .local) :
    WAsg prog w h₀ d env (.Tuple [.Name x px, .Name y py] kk pos) (.ref a) m ((y, v) :: (x, u) :: m) σ := .mk fun A s val K E ra ok lk hv k => by
  cases hv
  obtain ⟨its, pl, hvs⟩ := ok.sr _ _ ha
  cases hvs with
  | cons h1 h2 => cases h2 with
    | cons h3 h4 =>
      cases h4
      refine assign_Tuple_tuple ra.hh pl.isTup (by rfl) (by rfl) fun h' he => ?_
      have kp : ∀ b o, s.heap.get? b = some o → h'.get? b = some o := fun b o e => he b o (Nat.ne_of_lt (Heap.lt_size e)) e
      have ok' := ok.keeps kp
      have lk' := lk.step ok'.2
      show wpAny _ _ (assignInOrder [assign (.Name x px) env, assign (.Name y py) env] [_, _]) _ _ _
      unfold assignInOrder
      refine wpAny_bind (wpAny_holding ((asg_name (d := d) hx).run _ _ _ _ _ ra ok'.1 lk' h1 fun h₁ tk₁ st₁ ok₁ lk₁ => ?_))
      unfold assignInOrder
      refine wpAny_bind (wpAny_holding ((asg_name (d := d) hy).run _ _ _ _ _ ra ok₁ lk₁ h3 fun h₂ tk₂ st₂ ok₂ lk₂ => ?_))
      unfold assignInOrder
      exact wpAny_pure (k h₂ tk₂ (((ok'.2.lift (W := fun a => a = env.locals) fun b hb => by subst hb; exact lk.own _ (.inl rfl)).trans st₁).trans st₂) ok₂ lk₂)

/-! ## what an iterator's step leaves -/
theorem ok_but {h h' : Heap} {I : Addr} (ok : OK h₀ h σ) (hI : σ I = none) (h0 : ∀ o, h₀.get? I ≠ some o) (kp : ∀ b o, b ≠ I → h.get? b = some o → h'.get? b = some o) : OK h₀ h' σ :=
  ⟨fun b o e => kp b o (fun z => h0 o (z ▸ e)) (ok.base b o e), ok.off, fun a o e => (ok.sr a o e).at fun ob e' => kp a ob (fun z => by rw [z, hI] at e; cases e) e'⟩
theorem look_but {h h' : Heap} {I : Addr} (lk : Look h₀ env h σ m) (hI : ¬ Own env I) (kp : ∀ b o, b ≠ I → h.get? b = some o → h'.get? b = some o) : Look h₀ env h' σ m :=
  ⟨lk.kind, lk.glob, lk.blt, let ⟨mm, hn, hm⟩ := lk.ns; ⟨mm, hn.at' fun o e => kp _ o (fun z => hI (.inl z.symm)) e, hm⟩,
    fun y c hc => let ⟨ov, ⟨o, e, hd⟩, hv⟩ := lk.cell y c hc; ⟨ov, ⟨o, kp c o (fun z => hI (.inr ⟨y, z ▸ hc⟩)) e, hd⟩, hv⟩, lk.nsoff, lk.celloff, lk.inj⟩
theorem letgo {A : Around} {s : Shared} {target : Expr} {I : Addr} {v : Value} {K : Unit → Shared → Prop} {E : Value → Shared → Prop} (k : K () s)
    (hI : ∃ o n fs, s.heap.get? I = some o ∧ o.cls = .type n ∧ o.data = .fields fs ∧ ["enumerate", "zip", "dict_itemiterator", "dict_reverseitemiterator", "odict_iterator", "itertools.zip_longest", "itertools.pairwise"].contains n = false) :
    wpAny (model prog w) A (letOwnedTupleGo target (.ref I) v) K E s := by
  obtain ⟨o, n, fs, e, hc, hd, hn⟩ := hI
  have key : wpAny (model prog w) A (do
    let (.ref r, .ref a) := (Value.ref I, v) | return
    let o ← load r
    match o.cls, o.data with
    | .type n, .fields vs =>
      if ["enumerate", "zip", "dict_itemiterator", "dict_reverseitemiterator", "odict_iterator", "itertools.zip_longest", "itertools.pairwise"].contains n && vs[0]? == some (rawInt a) then
        rule "for.unpacks-the-owned-tuple"
        updateField r 0 .none
    | _, _ => pure ()) K E s := by
    cases v with
    | ref a =>
      refine wpAny_bind (wpAny_load e ?_)
      simp only [hc, hd, hn, Bool.false_and, Bool.false_eq_true, if_false]
      exact wpAny_pure k
    | _ => exact wpAny_pure k
  cases target <;> first | exact wpAny_pure k | exact key

/-! ## for -/
theorem wx_for {Q : Fl → Loc → Store → Prop} {t : Expr} {pos : Pos} {iter : Expr} {body : List Stmt}
    (h : WI prog w h₀ d env m iter σ fun xs C σ₁ => ∃ Inv : Nat → Loc → Store → Prop, Inv 0 m σ₁ ∧ (∀ i m₂ σ₂, Inv i m₂ σ₂ → C σ₂) ∧
      (∀ i v m₂ σ₂, xs[i]? = some v → Inv i m₂ σ₂ → ∃ m₂', WAsg prog w h₀ d env t v m₂ m₂' σ₂ ∧ WS prog w h₀ d env m₂' body σ₂ fun f m₃ σ₃ => match f with
        | .next | .cont => Inv (i + 1) m₃ σ₃
        | .brk => Q .next m₃ σ₃
        | .ret r => Q (.ret r) m₃ σ₃) ∧ ∀ m₂ σ₂, Inv xs.length m₂ σ₂ → Q .next m₂ σ₂)
    (hs : ∀ v, foldedSetIterable iter env v = pure v) : WX prog w h₀ d env m (.For t iter body [] pos) σ Q := .mk fun A s a ok lk => by
  refine wpAny_For (wpAny_mono (h.run A s a ok lk) (fun xv s₁ p => wpAny_mono p (fun it s₂ p => ?_) fun _ _ z => z.elim) fun _ _ z => z.elim) hs
  obtain ⟨I, h₁, tk₁, σ₁, xs, It, C, rfl, rfl, st₁, ok₁, hI, hfr, W, it₀, Inv, i0, iC, turn, fin⟩ := p
  have nOwn : ¬ Own env I := fun z => by
    obtain ⟨o, e⟩ := lk.own I z
    exact hfr I o (lk.ownoff I z).1 e rfl
  have n0 : ∀ o, h₀.get? I ≠ some o := fun o e => hfr I o (ok.off I o e) (ok.base I o e) rfl
  refine codeAny_forLoop_any (fun n s' => ∃ i h' tk σ' m', s' = { s with heap := h', toks := tk } ∧ i ≤ xs.length ∧ n = xs.length + 1 - i ∧ Step (Own env) σ σ' s.heap h' ∧ OK h₀ h' σ' ∧ Look h₀ env h' σ' m' ∧ σ' I = none ∧ It i h' ∧ Inv i m' σ') ?_ (xs.length + 1)
    ⟨0, h₁, tk₁, σ₁, m, rfl, Nat.zero_le _, rfl, st₁.lift lk.own, ok₁, lk.step st₁, hI, it₀, i0⟩
  rintro n s' ⟨i, h₂, tk₂, σ₂, m₂, rfl, hi, rfl, st₂, ok₂, lk₂, hI₂, it₂, inv⟩
  have sub : ∀ {h₃}, (∀ b o, b ≠ I → h₂.get? b = some o → h₃.get? b = some o) → Step (Own env) σ σ₂ s.heap h₃ := fun kp =>
    ⟨fun b o hb hw e => kp b o (hfr b o hb e) (st₂.keep b o hb hw e), st₂.fresh⟩
  by_cases hlt : i < xs.length
  · refine W.item i { s with heap := h₂, toks := tk₂ } σ₂ (xs[i]) it₂ ok₂ (iC _ _ _ inv) (by simp [hlt]) _ _ fun v h₃ tk₃ hv it₃ kp => ?_
    refine letgo ?_ (W.here _ _ it₃)
    obtain ⟨m₂', asg, body'⟩ := turn i (xs[i]) m₂ σ₂ (by simp [hlt]) inv
    have ok₃ := ok_but ok₂ hI₂ n0 kp
    have lk₃ := look_but lk₂ nOwn kp
    refine asg.run A { s with heap := h₃, toks := tk₃ } v _ _ a ok₃ lk₃ hv fun h₄ tk₄ st₄ ok₄ lk₄ => ?_
    have ne : ∀ {h'}, Step (Own env) σ₂ σ₂ h₃ h' → It (i + 1) h' := fun st => W.frame _ _ _ it₃ fun o e => st.keep I o hI₂ nOwn e
    have st₄' : Step (Own env) σ₂ σ₂ h₃ h₄ := ⟨fun b o hb hw e => st₄.keep b o hb (fun z => hw (.inl z)) e, fun _ h1 h2 => absurd h1 h2⟩
    have it₄ := ne st₄'
    refine wpAny_mono (body'.run A _ a ok₄ lk₄) (fun f s' p => ?_) fun _ _ z => z.elim
    obtain ⟨fl, h₅, tk₅, σ₅, m₅, rfl, hf, st₅, ok₅, lk₅, q⟩ := p
    have stAll : Step (Own env) σ σ₅ s.heap h₅ := ((sub kp).trans st₄').trans st₅
    obtain ⟨oI, _, _, eI, _⟩ := W.here _ _ it₄
    have hI₅ : σ₅ I = none := st₅.none hI₂ eI
    have it₅ : It (i + 1) h₅ := W.frame _ _ _ it₄ fun o e => st₅.keep I o hI₂ nOwn e
    cases hf with
    | next => exact ⟨xs.length + 1 - (i + 1), by omega, i + 1, h₅, tk₅, σ₅, m₅, rfl, hlt, rfl, stAll, ok₅, lk₅, hI₅, it₅, q⟩
    | cont => exact ⟨xs.length + 1 - (i + 1), by omega, i + 1, h₅, tk₅, σ₅, m₅, rfl, hlt, rfl, stAll, ok₅, lk₅, hI₅, it₅, q⟩
    | brk => exact ⟨.next, h₅, tk₅, σ₅, m₅, rfl, .next, stAll, ok₅, lk₅, q⟩
    | ret hv => exact ⟨.ret _, h₅, tk₅, σ₅, m₅, rfl, .ret hv, stAll, ok₅, lk₅, q⟩
  · have : i = xs.length := by omega
    subst this
    refine W.done { s with heap := h₂, toks := tk₂ } σ₂ it₂ ok₂ (iC _ _ _ inv) _ _ fun h₃ tk₃ kp => ?_
    exact wpAny_execs_nil ⟨.next, h₃, tk₃, σ₂, m₂, rfl, .next, sub kp, ok_but ok₂ hI₂ n0 kp, look_but lk₂ nOwn kp, fin _ _ inv⟩
end
end Mine
end
section
open PySem PySem.Calls PyProof.Rows
namespace Mine

section
variable {prog : Program} {w : World} {h₀ : Heap} {d : Nat} {env : Env} {m : Loc} {σ : Store} {mg mb : Str → Option Value}

theorem codeAny_compLoop_any {R : Result → Shared → Prop} {s : Shared} {A : Around} {elt target iter : Expr} {ifs : List Expr} {scope : Scope} {pos : Pos} {it acc : Value} {env : Env} (I : Nat → Shared → Prop)
    (turn : ∀ n s, I n s → wpAny (model prog w) A (pyNext it) (fun r s₁ => match r with
      | none => R (.ok .next) s₁
      | some v => wpAny (model prog w) A (letOwnedTupleGo target it v) (fun _ s₁' => wpAny (model prog w) A (assign target env v) (fun _ s₂ =>
          wpAny (model prog w) A (forIn ifs true fun c r => if r = true then do let ok ← isTrue c env (eval c env); pure (ForInStep.yield ok) else pure (ForInStep.yield r)) (fun ok s₃ =>
            if ok = true then wpAny (model prog w) A (eval elt env) (fun x s₄ =>
              wpAny (model prog w) A (call (.builtin "list.append") [acc, x]) (fun _ s₅ => ∃ m, m < n ∧ I m s₅) NoE s₄) NoE s₃
            else ∃ m, m < n ∧ I m s₃) NoE s₂) NoE s₁') NoE s₁) NoE s)
    (n : Nat) (h : I n s) :
    codeAny (model prog w) A (.compLoop (.ListComp elt [⟨target, iter, ifs, 0⟩] scope pos) 0 it acc env) R s := by
  refine codeAny_loop rfl I (fun n s hI => ?_) n h
  show wpAny _ A ((compTurn (.ListComp elt [⟨target, iter, ifs, 0⟩] scope pos) 0 it acc env).onRaise (fun x => do noteFrame x env; theTreesLotGoes x)) _ _ s
  refine wpAny_noted ?_
  rw [compTurn_list]
  refine wpAny_bind (wpAny_standAt (wpAny_bind (wpAny_mono (turn n s hI) (fun r s₁ h₁ => ?_) fun _ _ h' => h'.elim)))
  cases r with
  | none => exact wpAny_pure h₁
  | some v =>
    refine wpAny_bind (wpAny_mono h₁ (fun _ s₁' h₁' => ?_) fun _ _ h' => h'.elim)
    refine wpAny_bind (wpAny_mono h₁' (fun _ s₂ h₂ => wpAny_bind (wpAny_mono h₂ (fun ok s₃ h₃ => ?_) fun _ _ h' => h'.elim)) fun _ _ h' => h'.elim)
    cases ok with
    | false => exact wpAny_pure ⟨rfl, h₃⟩
    | true =>
      exact wpAny_bind (wpAny_bind (wpAny_mono h₃ (fun x s₄ h₄ => wpAny_bind (wpAny_mono h₄ (fun _ s₅ h₅ => wpAny_pure (wpAny_pure ⟨rfl, h₅⟩)) fun _ _ h' => h'.elim)) fun _ _ h' => h'.elim))

theorem append_LH {A : Around} {s : Shared} {E : Value → Shared → Prop} {l : Addr} {its : Array Value} {x : Value} {K : Value → Shared → Prop} (hl : LH s.heap l its)
    (k : ∀ h', LH h' l (its.push x) → Heap.SameBut l s.heap h' → K .none { s with heap := h' }) (hsz : its.size ≤ sizeLine) : wpAny (model prog w) A (call (.builtin "list.append") [.ref l, x]) K E s := by
  obtain ⟨n, e⟩ := hl
  exact call_meets PySem.F.slot_list_append ⟨_, e, rfl⟩ PySem.F.entry_list_append (PySem.F.args_list_append_2 _ _) (list_append l its n x hsz) ⟨e, k _ ⟨_, IsL.update e _⟩ (Heap.SameBut.update ..)⟩
/-- the names that a block closes over -/
def inner (cl : List (Str × Addr)) (m : Loc) : Loc := m.filter fun p => (cl.lookup p.1).isSome
theorem inner_lookup {cl : List (Str × Addr)} {x : Str} {v : V} : ∀ {m : Loc}, (inner cl m).lookup x = some v → m.lookup x = some v ∧ (cl.lookup x).isSome = true
  | [], h => by simp [inner] at h
  | (y, u) :: m, h => by
    unfold inner at h
    rw [List.filter_cons] at h
    have ih := @inner_lookup cl x v m
    unfold inner at ih
    rw [lookup_set]
    by_cases q : x = y
    · subst q
      rw [if_pos rfl]
      by_cases c : (cl.lookup x).isSome = true
      · rw [if_pos c, lookup_set, if_pos rfl] at h; exact ⟨h, c⟩
      · rw [if_neg c] at h
        exact absurd (ih h).2 c
    · rw [if_neg q]
      split at h
      · rw [lookup_set, if_neg q] at h; exact ih h
      · exact ih h

structure Block (env : Env) (scope : Scope) (cl : List (Str × Addr)) : Prop where
  clos : closureFor scope env = pure cl
  cells : ∀ p ∈ cl, env.cells.lookup p.1 = some p.2 ∧ env.kindOf p.1 = some .cell ∧ ∀ C, (compEnvC scope cl C env).kindOf p.1 = some .cell
  kind : scope.kind = .function
  names : ∀ y ∈ scope.names, y.2 = .local → scope.names.lookup y.1 = some .local
  nocell : ∀ y ∈ scope.names, y.2 ≠ .cell
theorem Block.look {scope : Scope} {cl : List (Str × Addr)} {h : Heap} {C : Addr} {mm : Str → Option Value} (B : Block env scope cl) (lk : Look h₀ env h σ m) (hn : h.Ns C mm) (hC : σ C = none) (h0 : h₀.get? C = none) (ho : ¬ Own env C) :
    Look h₀ (compEnvC scope cl C env) h σ (inner cl m) := by
  have cellOf : ∀ x c, cl.lookup x = some c → env.cells.lookup x = some c := fun x c hc => (B.cells (x, c) (mem_of_lookup hc)).1
  refine ⟨B.kind, lk.glob, lk.blt, ⟨mm, hn, fun x v hk hl => ?_⟩, fun x c hc => ?_, ⟨hC, h0⟩, fun x c hc => ?_, fun x y c h1 h2 => lk.inj x y c (cellOf x c h1) (cellOf y c h2)⟩
  · obtain ⟨_, hs⟩ := inner_lookup hl
    obtain ⟨c, hc⟩ := Option.isSome_iff_exists.mp hs
    have := (B.cells (x, c) (mem_of_lookup hc)).2.2 C
    rw [hk] at this; cases this
  · obtain ⟨ov, hcl, hv⟩ := lk.cell x c (cellOf x c hc)
    exact ⟨ov, hcl, fun v _ hl => hv v (.inl (B.cells (x, c) (mem_of_lookup hc)).2.1) (inner_lookup hl).1⟩
  · have := lk.celloff x c (cellOf x c hc)
    exact ⟨this.1, this.2.1, fun z => ho (.inr ⟨x, by rw [show C = c from z.symm]; exact cellOf x c hc⟩)⟩

/-- one turn of a comprehension -/
def CompTurn (prog : Program) (w : World) (h₀ : Heap) (d : Nat) (cenv : Env) (mc : Loc) (ifs : List Expr) (elt : Expr) (σ : Store) (T : V → Store → Prop) (F : Store → Prop) : Prop :=
  match ifs with
  | [] => WE prog w h₀ d cenv mc elt σ T
  | [c] => WB prog w h₀ d cenv mc c σ fun b σ' => if b then WE prog w h₀ d cenv mc elt σ' T else F σ'
  | _ => False

def CompOk (prog : Program) (w : World) (h₀ : Heap) (d : Nat) (env : Env) (m : Loc) (t elt : Expr) (ifs : List Expr) (scope : Scope) (cl : List (Str × Addr)) (Fin : List V → Store → Prop) (xs : List V) (C : Store → Prop) (σ₁ : Store) : Prop :=
  xs.length ≤ sizeLine ∧ ∃ Inv : Nat → List V → Store → Prop, Inv 0 [] σ₁ ∧ (∀ i ys σ₂, Inv i ys σ₂ → C σ₂) ∧
    (∀ i v ys σ₂, xs[i]? = some v → Inv i ys σ₂ → ∀ Ca, ∃ mc, WAsg prog w h₀ d (compEnvC scope cl Ca env) t v (inner cl m) mc σ₂ ∧
      CompTurn prog w h₀ d (compEnvC scope cl Ca env) mc ifs elt σ₂ (fun y σ₃ => Inv (i + 1) (ys ++ [y]) σ₃) (fun σ₃ => Inv (i + 1) ys σ₃)) ∧
    ∀ ys σ₂, Inv xs.length ys σ₂ → Fin ys σ₂

theorem comp_core {t elt iter : Expr} {ifs : List Expr} {scope : Scope} {cl : List (Str × Addr)} {pos : Pos} {Fin : List V → Store → Prop} {RR : Value → Addr → Result → Shared → Prop} (B : Block env scope cl)
    (h : WI prog w h₀ d env m iter σ (CompOk prog w h₀ d env m t elt ifs scope cl Fin)) {A : Around} {s : Shared} (a : AOk d A) (ok : OK h₀ s.heap σ) (lk : Look h₀ env s.heap σ m)
    (k : ∀ D C h' tk ys σ', Step NoW σ σ' s.heap h' → OK h₀ h' σ' → Look h₀ env h' σ' m → OH h' D (.list ys) → σ' D = none → h₀.get? D = none → (∃ mm, h'.Ns C mm) → σ' C = none → h₀.get? C = none → ¬ Own env C → C ≠ D → ¬ Own env D → (∀ b o, σ b = none → s.heap.get? b = some o → b ≠ C ∧ b ≠ D) → Fin ys σ' →
      RR (.ref D) C (.ok .next) { s with heap := h', toks := tk }) :
    wpAny (model prog w) A (eval iter env) (fun xv s₁ => wpAny (model prog w) A (pyIter xv) (fun it s₂ => wpAny (model prog w) A (newList []) (fun acc s₃ =>
      wpAny (model prog w) A (newFunctionEnv scope env.globals cl [] env.qual none .none (some env)) (fun cenv s₄ =>
        codeAny (model prog w) A (.compStart (.ListComp elt [⟨t, iter, ifs, 0⟩] scope pos) 0 it acc { cenv with scope := relabel scope env }) (RR acc cenv.locals) s₄) NoE s₃) NoE s₂) NoE s₁) NoE s := by
  refine wpAny_mono (h.run A s a ok lk) (fun xv s₁ p => wpAny_mono p (fun it s₂ p => ?_) fun _ _ z => z) fun _ _ z => z
  obtain ⟨I, h₁, tk₁, σ₁, xs, It, C₀, rfl, rfl, st₁, ok₁, hI, hfr, W, it₀, hsz, Inv, i0, iC, turn, fin⟩ := p
  have lk₁ := lk.step st₁
  refine wpAny_newObj_type (wpAny_newFunctionEnv B.nocell (by intro y hy; simp at hy) (fun h₃ hns₃ hsb₃ => ?_) B.kind)
  dsimp only at hns₃ hsb₃ ⊢
  generalize hH2 : h₁.push { cls := .type "list", dict := none, data := .seq ([] : List Value).toArray } = H2 at hns₃ hsb₃ ⊢
  have hDsz : H2.objs.size = h₁.objs.size + 1 := by rw [← hH2, Heap.size_push]
  generalize hC : H2.objs.size = C at hns₃ hsb₃ ⊢
  generalize hD : h₁.objs.size = D at hDsz ⊢
  have hCD : C ≠ D := by rw [← hC, hDsz]; exact Nat.succ_ne_self _
  have oldlt : ∀ b o, h₁.get? b = some o → b ≠ C ∧ b ≠ D := fun b o e => by
    have := Heap.lt_size e
    rw [hD] at this
    exact ⟨Nat.ne_of_lt (by rw [← hC, hDsz]; exact Nat.lt_succ_of_lt this), Nat.ne_of_lt this⟩
  have old : ∀ b o, h₁.get? b = some o → h₃.get? b = some o := fun b o e => hsb₃.extBut b o (oldlt b o e).1 (Heap.get?_push_of_some _ (hH2 ▸ Heap.get?_push_of_some _ e))
  have σn : ∀ b, h₁.get? b = none → σ₁ b = none := fun b e => by
    cases q : σ₁ b with
    | none => rfl
    | some o => obtain ⟨ob, e'⟩ := (ok₁.sr b o q).some; rw [e] at e'; cases e'
  have bn : ∀ b, h₁.get? b = none → h₀.get? b = none := fun b e => by
    cases q : h₀.get? b with
    | none => rfl
    | some o => rw [ok₁.base b o q] at e; cases e
  have nD : h₁.get? D = none := by rw [← hD]; exact size_none _
  have nC : h₁.get? C = none := get_ge_none _ _ (by rw [hD, ← hC, hDsz]; exact Nat.le_succ _)
  obtain ⟨oI, _, _, eI, _⟩ := W.here _ _ it₀
  have hIC : I ≠ C ∧ I ≠ D := oldlt I oI eI
  have accD : LH h₃ D #[] := ⟨0, hsb₃.extBut D _ (Ne.symm hCD) (Heap.get?_push_of_some _ (hH2 ▸ hD ▸ Heap.get?_push_size _ rfl))⟩
  have ownC : ¬ Own env C := fun z => by obtain ⟨o, e⟩ := lk₁.own C z; rw [nC] at e; cases e
  have ownD : ¬ Own env D := fun z => by obtain ⟨o, e⟩ := lk₁.own D z; rw [nD] at e; cases e
  have nOwn : ¬ Own env I := fun z => by
    obtain ⟨o, e⟩ := lk.own I z
    exact hfr I o (lk.ownoff I z).1 e rfl
  have n0 : ∀ o, h₀.get? I ≠ some o := fun o e => hfr I o (ok.off I o e) (ok.base I o e) rfl
  have hfr2 : ∀ b o, σ b = none → s.heap.get? b = some o → b ≠ C ∧ b ≠ D := fun b o hb e => oldlt b o (st₁.keep b o hb (fun z => z) e)
  have st₃ : Step NoW σ σ₁ s.heap h₃ := st₁.trans (ok₁.keeps old).2
  have loop : ∀ s₃ : Shared, s₃ = { s with heap := h₃, toks := tk₁ + ([] : List (Str × Value)).length } →
      codeAny (model prog w) A (.compLoop (.ListComp elt [⟨t, iter, ifs, 0⟩] scope pos) 0 (.ref I) (.ref D) (compEnvC scope cl C env)) (RR (.ref D) C) s₃ := by
    rintro s₃ rfl
    refine codeAny_compLoop_any (fun n s' => ∃ i h' tk σ' ys its mm, s' = { s with heap := h', toks := tk } ∧ i ≤ xs.length ∧ n = xs.length + 1 - i ∧ Step NoW σ σ' s.heap h' ∧ OK h₀ h' σ' ∧ Look h₀ env h' σ' m ∧ σ' I = none ∧ σ' C = none ∧ σ' D = none ∧
      It i h' ∧ LH h' D (its : List Value).toArray ∧ VRs its ys ∧ ys.length ≤ i ∧ h'.Ns C mm ∧ Inv i ys σ') ?_ (xs.length + 1)
      ⟨0, h₃, _, σ₁, [], [], _, rfl, Nat.zero_le _, rfl, st₃, (ok₁.keeps old).1, lk₁.step (ok₁.keeps old).2, hI, σn C nC, σn D nD, W.frame _ _ _ it₀ (fun o e => old _ _ e), accD, .nil, Nat.le_refl _, hns₃, i0⟩
    rintro n s' ⟨i, h₂, tk₂, σ₂, ys, its, mm, rfl, hi, rfl, st₂, ok₂, lk₂, hI₂, hC₂, hD₂, it₂, pl₂, hvs, hyl, hn₂, inv⟩
    have sub : ∀ {h₃}, (∀ b o, b ≠ I → h₂.get? b = some o → h₃.get? b = some o) → Step NoW σ σ₂ s.heap h₃ := fun kp =>
      ⟨fun b o hb hw e => kp b o (hfr b o hb e) (st₂.keep b o hb hw e), st₂.fresh⟩
    by_cases hlt : i < xs.length
    · refine W.item i { s with heap := h₂, toks := tk₂ } σ₂ (xs[i]) it₂ ok₂ (iC _ _ _ inv) (by simp [hlt]) _ _ fun v h₃ tk₃ hv it₃ kp => ?_
      refine letgo ?_ (W.here _ _ it₃)
      obtain ⟨mc, asg, tr⟩ := turn i (xs[i]) ys σ₂ (by simp [hlt]) inv C
      have ok₃ := ok_but ok₂ hI₂ n0 kp
      have lk₃ := look_but lk₂ nOwn kp
      have lkc₃ : Look h₀ (compEnvC scope cl C env) h₃ σ₂ (inner cl m) := B.look lk₃ (hn₂.at' fun o e => kp C o (Ne.symm hIC.1) e) hC₂ (bn C nC) ownC
      refine asg.run A { s with heap := h₃, toks := tk₃ } v _ _ a ok₃ lkc₃ hv fun h₄ tk₄ st₄ ok₄ lkc₄ => ?_
      have kp₄ : ∀ b o, σ₂ b = none → b ≠ C → h₃.get? b = some o → h₄.get? b = some o := fun b o hb hne e => st₄.keep b o hb (fun z => hne z) e
      have it₄ : It (i + 1) h₄ := W.frame _ _ _ it₃ fun o e => kp₄ I o hI₂ hIC.1 e
      have lk₄ : Look h₀ env h₄ σ₂ m := ⟨lk₃.kind, lk₃.glob, lk₃.blt, let ⟨mm, hn, hm⟩ := lk₃.ns; ⟨mm, hn.at' fun o e => kp₄ _ o lk₃.nsoff.1 (fun z => ownC (.inl z.symm)) e, hm⟩,
        fun y c hc => let ⟨ov, ⟨o, e, hd⟩, hv⟩ := lk₃.cell y c hc; ⟨ov, ⟨o, kp₄ c o (lk₃.celloff y c hc).1 (fun z => ownC (.inr ⟨y, z ▸ hc⟩)) e, hd⟩, hv⟩, lk₃.nsoff, lk₃.celloff, lk₃.inj⟩
      have pl₄ : LH h₄ D its.toArray := pl₂.at fun o e => kp₄ D o hD₂ (Ne.symm hCD) (kp D o (Ne.symm hIC.2) e)
      have st₄' : Step NoW σ σ₂ s.heap h₄ := ⟨fun b o hb hw e => by
          have e3 := (sub kp).keep b o hb hw e
          exact kp₄ b o (st₂.none hb e) (hfr2 b o hb e).1 e3, (sub kp).fresh⟩
      -- what a turn's end needs
      have fin5 : ∀ h₅ h₆ tk₆ σ₅ ys' its', Step NoW σ₂ σ₅ h₄ h₅ → OK h₀ h₅ σ₅ → (∀ b o, b ≠ D → h₅.get? b = some o → h₆.get? b = some o) → LH h₆ D (its' : List Value).toArray → VRs its' ys' → ys'.length ≤ i + 1 → Inv (i + 1) ys' σ₅ →
          ∃ m_1, m_1 < xs.length + 1 - i ∧ ∃ i h' tk σ' ys its mm, ({ s with heap := h₆, toks := tk₆ } : Shared) = { s with heap := h', toks := tk } ∧ i ≤ xs.length ∧ m_1 = xs.length + 1 - i ∧ Step NoW σ σ' s.heap h' ∧ OK h₀ h' σ' ∧ Look h₀ env h' σ' m ∧ σ' I = none ∧ σ' C = none ∧ σ' D = none ∧
            It i h' ∧ LH h' D (its : List Value).toArray ∧ VRs its ys ∧ ys.length ≤ i ∧ h'.Ns C mm ∧ Inv i ys σ' := by
        intro h₅ h₆ tk₆ σ₅ ys' its' st₅ ok₅ kp₆ pl₆ hvs₆ hyl₆ inv₅
        obtain ⟨oI, _, _, eI, _⟩ := W.here _ _ it₄
        obtain ⟨mm₄, hn₄, _⟩ := lkc₄.ns
        have hn₄' : h₄.Ns C mm₄ := hn₄
        obtain ⟨oC, _, _, eC, _⟩ := id hn₄'
        obtain ⟨oD, eD⟩ := pl₄.some
        have hD₅ : σ₅ D = none := st₅.none hD₂ eD
        have st' := st₄'.trans st₅
        exact ⟨xs.length + 1 - (i + 1), by omega, i + 1, h₆, tk₆, σ₅, ys', its', mm₄, rfl, hlt, rfl, ⟨fun b o hb hw e => kp₆ b o (hfr2 b o hb e).2 (st'.keep b o hb hw e), st'.fresh⟩,
          ok_but ok₅ hD₅ (fun o e => by rw [bn D nD] at e; cases e) kp₆, look_but (lk₄.step st₅) ownD kp₆, st₅.none hI₂ eI, st₅.none hC₂ eC, hD₅,
          W.frame _ _ _ it₄ (fun o e => kp₆ I o hIC.2 (st₅.keep I o hI₂ (fun z => z) e)), pl₆, hvs₆, hyl₆, hn₄'.at' (fun o e => kp₆ C o hCD (st₅.keep C o hC₂ (fun z => z) e)), inv₅⟩
      -- the element
      have el : ∀ σ₅ h₅ tk₅, Step NoW σ₂ σ₅ h₄ h₅ → OK h₀ h₅ σ₅ → WE prog w h₀ d (compEnvC scope cl C env) mc elt σ₅ (fun y σ₃ => Inv (i + 1) (ys ++ [y]) σ₃) →
          wpAny (model prog w) A (eval elt (compEnvC scope cl C env)) (fun x s₄ => wpAny (model prog w) A (call (.builtin "list.append") [.ref D, x]) (fun _ s₅ => ∃ m_1, m_1 < xs.length + 1 - i ∧ ∃ i h' tk σ' ys its mm, s₅ = { s with heap := h', toks := tk } ∧ i ≤ xs.length ∧ m_1 = xs.length + 1 - i ∧ Step NoW σ σ' s.heap h' ∧ OK h₀ h' σ' ∧ Look h₀ env h' σ' m ∧ σ' I = none ∧ σ' C = none ∧ σ' D = none ∧
            It i h' ∧ LH h' D (its : List Value).toArray ∧ VRs its ys ∧ ys.length ≤ i ∧ h'.Ns C mm ∧ Inv i ys σ') NoE s₄) NoE { s with heap := h₅, toks := tk₅ } := by
        intro σ₅ h₅ tk₅ st₅ ok₅ we
        refine we_then we a ok₅ (lkc₄.step st₅) fun y xy h₆ tk₆ σ₆ hy st₆ ok₆ lk₆ q => ?_
        have st₆' := st₅.trans st₆
        obtain ⟨oD, eD⟩ := pl₄.some
        have pl₆ : LH h₆ D its.toArray := pl₄.at fun o e => st₆'.keep D o hD₂ (fun z => z) e
        refine append_LH pl₆ (fun h₇ pl₇ hs₇ => ?_) (by show its.toArray.size ≤ sizeLine; rw [List.size_toArray, hvs.length]; omega)
        exact fin5 h₆ h₇ tk₆ σ₆ _ (its ++ [y]) st₆' ok₆ (fun b o hb e => hs₇.extBut b o hb e) (by simpa using pl₇) (hvs.append (.cons hy .nil)) (by simp; omega) q
      match ifs, tr with
      | [], tr =>
        refine wpAny_tests_nil ?_
        simp only [if_true]
        exact el σ₂ h₄ tk₄ .refl ok₄ tr
      | [c], tr =>
        refine wpAny_tests_one (wpAny_mono (tr.run A { s with heap := h₄, toks := tk₄ } a ok₄ lkc₄) (fun b s' p => ?_) fun _ _ z => z)
        obtain ⟨h₅, tk₅, σ₅, rfl, st₅, ok₅, q⟩ := p
        cases b with
        | true => simp only [if_true] at q ⊢; exact el σ₅ h₅ tk₅ st₅ ok₅ q
        | false =>
          simp only [Bool.false_eq_true, if_false] at q ⊢
          exact fin5 h₅ h₅ tk₅ σ₅ ys its st₅ ok₅ (fun _ _ _ e => e) (pl₄.at fun o e => st₅.keep D o hD₂ (fun z => z) e) hvs (by omega) q
      | _ :: _ :: _, tr => exact absurd tr (fun z => z)
    · have : i = xs.length := by omega
      subst this
      refine W.done { s with heap := h₂, toks := tk₂ } σ₂ it₂ ok₂ (iC _ _ _ inv) _ _ fun h₃ tk₃ kp => ?_
      exact k D C h₃ tk₃ ys σ₂ (sub kp) (ok_but ok₂ hI₂ n0 kp) (look_but lk₂ nOwn kp) ⟨its, pl₂.at fun o e => kp D o (Ne.symm hIC.2) e, hvs⟩ hD₂ (bn D nD) ⟨mm, hn₂.at' fun o e => kp C o (Ne.symm hIC.1) e⟩ hC₂ (bn C nC) ownC hCD ownD hfr2 (fin _ _ inv)
  refine codeAny_compStart_list (loop _ rfl) ?_
  exact W.self 0 _ (W.frame _ _ _ it₀ (fun o e => old _ _ e)) _ _ (loop _ rfl)

theorem we_comp {Q : V → Store → Prop} {t elt iter : Expr} {ifs : List Expr} {scope : Scope} {cl : List (Str × Addr)} {pos : Pos} (B : Block env scope cl)
    (h : WI prog w h₀ d env m iter σ (CompOk prog w h₀ d env m t elt ifs scope cl fun ys σ' => ∀ D, σ' D = none → Q (.ref D) (upd σ' D (.list ys))))
    (hs : ∀ v, foldedSetIterable iter env v = pure v) : WE prog w h₀ d env m (.ListComp elt [⟨t, iter, ifs, 0⟩] scope pos) σ Q := .mk fun A s a ok lk => by
  rw [eval_ListComp]
  refine wpAny_comprehension_free (use := none) rfl hs B.clos B.kind B.names (comp_core B h a ok lk ?_)
  intro D C h' tk ys σ' st ok' lk' oh hD h0D hn hC h0C oC hCD oD hfr fin
  obtain ⟨mm, hn⟩ := hn
  refine ⟨mm, hn, fun h'' hs'' => ⟨.ref D, h'', tk, upd σ' D (.list ys), rfl, .ref D, ⟨fun b o hb hw e => hs''.extBut b o (hfr b o hb e).1 (st.keep b o hb hw e), fun b h1 h2 => ?_⟩, ⟨fun b o e => ?_, fun b o e => ?_, fun b o e => ?_⟩, fin D hD⟩⟩
  · by_cases q : b = D
    · subst q
      refine ⟨?_, fun z => z⟩
      cases z : s.heap.get? b with
      | none => rfl
      | some o => exact absurd rfl (hfr b o h1 z).2
    · rw [upd_ne _ _ q] at h2; exact st.fresh b h1 h2
  · exact hs''.extBut b o (fun z => by rw [z, h0C] at e; cases e) (ok'.base b o e)
  · rw [upd_ne _ _ (fun z => by rw [z, h0D] at e; cases e)]; exact ok'.off b o e
  · by_cases q : b = D
    · subst q; rw [upd_same] at e; cases e; exact oh.at fun ob e => hs''.extBut _ ob (Ne.symm hCD) e
    · rw [upd_ne _ _ q] at e; exact (ok'.sr b o e).at fun ob e' => hs''.extBut b ob (fun z => by rw [z, hC] at e; cases e) e'

theorem wx_assign_comp {Q : Fl → Loc → Store → Prop} {y : Str} {py spos : Pos} {t elt iter : Expr} {ifs : List Expr} {scope : Scope} {cl : List (Str × Addr)} {pos : Pos} (B : Block env scope cl)
    (h : WI prog w h₀ d env m iter σ (CompOk prog w h₀ d env m t elt ifs scope cl fun ys σ' => ∀ D, σ' D = none → Q .next ((y, .ref D) :: m) (upd σ' D (.list ys))))
    (hsw : swapsWith (.ListComp elt [⟨t, iter, ifs, 0⟩] scope pos) (some (.Name y py)) spos.line env = pure true) (hy : env.kindOf y = some .local)
    (hs : ∀ v, foldedSetIterable iter env v = pure v) : WX prog w h₀ d env m (.Assign [.Name y py] (.ListComp elt [⟨t, iter, ifs, 0⟩] scope pos) spos) σ Q := .mk fun A s a ok lk => by
  rw [exec_Assign_Name_used _ _ _ _ hsw]
  refine wpAny_bind (wpAny_standAt (wpAny_bind ?_))
  show wpAny _ A (do let _ ← comprehension (.ListComp elt [⟨t, iter, ifs, 0⟩] scope pos) scope env _ (newList []) false (eval iter env) (some (assign (.Name y py) env))) _ _ s
  refine wpAny_bind (wpAny_mono (wpAny_comprehension_free (use := some (assign (.Name y py) env)) (Q := fun _ s' => PostS h₀ env σ s Q .next s') rfl hs B.clos B.kind B.names (comp_core B h a ok lk ?_)) (fun _ s' hq => wpAny_pure (wpAny_pure hq)) fun _ _ e => e)
  intro D C h' tk ys σ' st ok' lk' oh hD h0D hn hC h0C oC hCD oD hfr fin
  obtain ⟨mm, hn⟩ := hn
  -- the new list is known from here on
  have okD : OK h₀ h' (upd σ' D (.list ys)) := ⟨ok'.base, (fun b o e => by rw [upd_ne _ _ (fun z => by rw [z, h0D] at e; cases e)]; exact ok'.off b o e), fun b o e => by
    by_cases q : b = D
    · subst q; rw [upd_same] at e; cases e; exact oh
    · rw [upd_ne _ _ q] at e; exact ok'.sr b o e⟩
  have lkD : Look h₀ env h' (upd σ' D (.list ys)) m := lk'.del fun b hb => by
    have hbD : b ≠ D := fun z => by subst z; exact oD hb
    rw [upd_ne _ _ hbD]; exact (lk'.ownoff b hb).1
  have stD : Step NoW σ (upd σ' D (.list ys)) s.heap h' := ⟨st.keep, fun b h1 h2 => by
    by_cases q : b = D
    · subst q
      refine ⟨?_, fun z => z⟩
      cases z : s.heap.get? b with
      | none => rfl
      | some o => exact absurd rfl (hfr b o h1 z).2
    · rw [upd_ne _ _ q] at h2; exact st.fresh b h1 h2⟩
  refine wpAny_assign_Name (store_local okD lkD (.ref D) hy fun h₂ tk₂ st₂ ok₂ lk₂ => ⟨mm, hn.at' (fun o e => st₂.keep C o (by rw [upd_ne _ _ hCD]; exact hC) oC e), fun h₃ hs₃ => ?_⟩)
  have kp : ∀ b o, b ≠ C → h₂.get? b = some o → h₃.get? b = some o := fun b o hb e => hs₃.extBut b o hb e
  have hC' : upd σ' D (.list ys) C = none := by rw [upd_ne _ _ hCD]; exact hC
  have st₃ := (stD.lift lk.own).trans st₂
  exact ⟨.next, h₃, tk₂, _, _, rfl, .next, ⟨fun b o hb hw e => kp b o (hfr b o hb e).1 (st₃.keep b o hb hw e), st₃.fresh⟩, ok_but ok₂ hC' (fun o e => by rw [h0C] at e; cases e) kp, look_but lk₂ oC kp, fin D hD⟩
end
end Mine
end
section
open PySem PySem.Calls PyProof.Rows
namespace Mine

section
variable {prog : Program} {w : World} {h₀ : Heap} {d : Nat} {env : Env} {m : Loc} {σ : Store} {mg mb : Str → Option Value} {Q : V → Store → Prop}

theorem AOk.room {d : Nat} {A : Around} (a : AOk d A) : A.units + 100 < cLine := by have := a.units; omega

/-! ## items -/
def itemV (σ : Store) (x y : V) : Option V :=
  match x, y with
  | .ref a, .int k => if 0 ≤ k ∧ k < 4611686018427387904 then (match σ a with
    | some (.list xs) => xs[k.toNat]?
    | some (.tup xs) => xs[k.toNat]?
    | none => none) else none
  | _, _ => none
theorem we_sub {value slice : Expr} {pos : Pos} (h : WE prog w h₀ d env m value σ fun x σ₁ => WE prog w h₀ d env m slice σ₁ fun y σ₂ => ∃ v, itemV σ₂ x y = some v ∧ Q v σ₂)
    (hs : ∀ o i, subscripted slice false o i = operate [o, i] (getItem o i)) : WE prog w h₀ d env m (.Subscript value slice pos) σ Q := .mk fun A s a ok lk => by
  refine Subscript_ (we_then h a ok lk fun ov x h₁ tk₁ σ₁ hov st₁ ok₁ lk₁ q₁ => ?_)
  refine we_then q₁ a ok₁ lk₁ fun iv y h₂ tk₂ σ₂ hiv st₂ ok₂ lk₂ q₂ => ?_
  obtain ⟨v, e, q⟩ := q₂
  cases hov with
  | ref l =>
    cases hiv with
    | int k t =>
      simp only [itemV] at e
      split at e
      · rename_i hk
        split at e
        · rename_i xs hl
          obtain ⟨its, pl, hvs⟩ := ok₂.sr _ _ hl
          obtain ⟨val, e1, hr⟩ := hvs.get _ _ e
          exact tail_any pl.isList.typeIs slot_list_getitem.lookup (wpAny_getItem_list pl.isList hk.1 (by omega) (by simpa using e1) ⟨v, h₂, tk₂, σ₂, rfl, hr, st₁.trans st₂, ok₂, q⟩) (hs _ _)
        · rename_i xs hl
          obtain ⟨its, pl, hvs⟩ := ok₂.sr _ _ hl
          obtain ⟨val, e1, hr⟩ := hvs.get _ _ e
          have hlt : k.toNat < its.length := by
            have := (List.getElem?_eq_some_iff.mp e1).1; exact this
          have hj : seqIndex? k its.toArray.size = some k.toNat := by
            have hk0 : 0 ≤ k := hk.1
            have hkl : k < (its.length : Int) := by omega
            unfold seqIndex?
            simp [hk0, hkl, Int.not_lt.mpr hk0]
          exact tail_any pl.isTup.typeIs slot_tuple_getitem.lookup (getItem_tuple pl.isTup (by omega) (by omega) hj (by simpa using e1) ⟨v, h₂, tk₂, σ₂, rfl, hr, st₁.trans st₂, ok₂, q⟩) (hs _ _)
        · cases e
      · cases e
    | _ => simp [itemV] at e
  | _ => simp [itemV] at e

theorem wx_setitem {Q : Fl → Loc → Store → Prop} {o i value : Expr} {pos' pos : Pos}
    (h : WE prog w h₀ d env m value σ fun v σ₁ => WE prog w h₀ d env m o σ₁ fun x σ₂ => WE prog w h₀ d env m i σ₂ fun y σ₃ =>
      ∃ l k xs, x = .ref l ∧ y = .int k ∧ σ₃ l = some (.list xs) ∧ 0 ≤ k ∧ k < 4611686018427387904 ∧ k.toNat < xs.length ∧ Q .next m (upd σ₃ l (.list (xs.set k.toNat v))))
    (hs : swapsWith value (some (.Subscript o i pos')) pos.line env = pure false) : WX prog w h₀ d env m (.Assign [.Subscript o i pos'] value pos) σ Q := .mk fun A s a ok lk => by
  refine wpAny_Assign_Subscript (we_then h a ok lk fun v xv h₁ tk₁ σ₁ hv st₁ ok₁ lk₁ q₁ => ?_) hs
  refine we_then q₁ a ok₁ lk₁ fun ov x h₂ tk₂ σ₂ hov st₂ ok₂ lk₂ q₂ => ?_
  refine we_then q₂ a ok₂ lk₂ fun iv y h₃ tk₃ σ₃ hiv st₃ ok₃ lk₃ q₃ => ?_
  obtain ⟨l, k, xs, rfl, rfl, hl, h0, h1, hlt, q⟩ := q₃
  cases hov; cases hiv
  obtain ⟨its, ⟨n, e⟩, hvs⟩ := ok₃.sr _ _ hl
  refine W.ki_setAt (n := n) e h0 (by omega) (by rw [List.size_toArray, hvs.length]; omega) ?_
  have ch := ok₃.change (o' := .list (xs.set k.toNat xv)) hl (Heap.SameBut.update ..) ⟨its.set k.toNat v, ⟨_, by
    have := IsL.update e (·.setIfInBounds k.toNat v)
    simpa using this⟩, hvs.set _ hv⟩
  exact ⟨.next, _, tk₃, _, m, rfl, .next, (((st₁.trans st₂).trans st₃).trans ch.2).lift lk.own, ch.1, lk₃.step ch.2, q⟩

/-! ## displays -/
theorem we_list {elts : List Expr} {pos : Pos} (h : WA prog w h₀ d env m pos elts σ fun xs σ₁ => xs.length ≤ sizeLine ∧ ∀ a, σ₁ a = none → Q (.ref a) (upd σ₁ a (.list xs))) : WE prog w h₀ d env m (.List elts pos) σ Q := .mk fun A s a ok lk => by
  refine wpAny_List (wpAny_mono (h.run A s a ok lk) (fun vs s' p => ?_) fun _ _ z => z)
  obtain ⟨xs, h', tk, σ', rfl, hvs, st, ok', hsz, q⟩ := p
  have al := ok'.alloc { cls := .type "list", data := .seq vs.toArray } (.list xs) ⟨vs, ⟨0, Heap.get?_push_size _ rfl⟩, hvs⟩
  exact ⟨by rw [hvs.length]; exact hsz, _, _, tk, _, rfl, .ref _, st.trans al.2.1, al.1, q _ al.2.2⟩
theorem we_tuple {elts : List Expr} {k : Nat} {pos : Pos} (h : WA prog w h₀ d env m pos elts σ fun xs σ₁ => xs.length ≤ sizeLine ∧ ∀ a, σ₁ a = none → Q (.ref a) (upd σ₁ a (.tup xs))) : WE prog w h₀ d env m (.Tuple elts k pos) σ Q := .mk fun A s a ok lk => by
  refine wpAny_Tuple (wpAny_mono (h.run A s a ok lk) (fun vs s' p => ?_) fun _ _ z => z)
  obtain ⟨xs, h', tk, σ', rfl, hvs, st, ok', hsz, q⟩ := p
  have al := ok'.alloc { cls := .type "tuple", data := .seq vs.toArray } (.tup xs) ⟨vs, ⟨0, Heap.get?_push_size _ rfl⟩, hvs⟩
  exact ⟨by rw [hvs.length]; exact hsz, _, _, tk, _, rfl, .ref _, st.trans al.2.1, al.1, q _ al.2.2⟩

/-! ## truth, len -/
theorem wb_bool {e : Expr} {Q : Bool → Store → Prop} (h : WE prog w h₀ d env m e σ fun x σ₁ => ∃ b, x = .bool b ∧ Q b σ₁) (he : ∀ t : Sem Value, isTrue e env t = (do let v ← t; standAt e.pos; holding [v] (truthy v))) : WB prog w h₀ d env m e σ Q := .mk fun A s a ok lk => by
  refine wpAny_isTrue_value (we_then h a ok lk fun v x h₁ tk₁ σ₁ hv st₁ ok₁ lk₁ q₁ => ?_) (he _)
  obtain ⟨b, rfl, q⟩ := q₁
  cases hv
  exact wpAny_truthy_bool ⟨h₁, tk₁, σ₁, rfl, st₁, ok₁, q⟩
theorem wb_list {e : Expr} {Q : Bool → Store → Prop} (h : WE prog w h₀ d env m e σ fun x σ₁ => ∃ l xs, x = .ref l ∧ σ₁ l = some (.list xs) ∧ xs.length < 4611686018427387904 ∧ Q (!xs.isEmpty) σ₁) (he : ∀ t : Sem Value, isTrue e env t = (do let v ← t; standAt e.pos; holding [v] (truthy v))) : WB prog w h₀ d env m e σ Q := .mk fun A s a ok lk => by
  refine wpAny_isTrue_value (we_then h a ok lk fun v x h₁ tk₁ σ₁ hv st₁ ok₁ lk₁ q₁ => ?_) (he _)
  obtain ⟨l, xs, rfl, hl, hsz, q⟩ := q₁
  cases hv
  obtain ⟨its, pl, hvs⟩ := ok₁.sr _ _ hl
  refine wpAny_truthy_list pl.isList (by simp only [List.size_toArray, hvs.length]; omega) ⟨h₁, _, σ₁, rfl, st₁, ok₁, ?_⟩
  have : its.isEmpty = xs.isEmpty := by cases hvs <;> rfl
  simpa [this] using q
theorem wc_len {l : Addr} {xs : List V} (hl : σ l = some (.list xs)) (hsz : xs.length < 4611686018427387904) (q : Q (.int xs.length) σ) : WCall prog w h₀ d (.builtin "len") [.ref l] σ Q := fun vs hvs => .mk fun A s a ok => by
  cases hvs with | cons h1 h2 => cases h1; cases h2; exact (by
    obtain ⟨its, pl, hvs⟩ := ok.sr _ _ hl
    refine Calls.call_len_list pl.isList (by simp only [List.size_toArray, hvs.length]; omega) ⟨_, s.heap, _, σ, rfl, ?_, .refl, ok, q⟩
    rw [List.size_toArray, hvs.length]; exact .int _ _)

/-! ## methods of lists -/
theorem method0 {o : Expr} {name : Str} {id : String} {apos pos : Pos} (slot : Slot "list" name id) (hty : typeOf (.builtin id) = pure (.type "method_descriptor"))
    (h : WE prog w h₀ d env m o σ fun x σ₁ => ∃ l xs, x = .ref l ∧ σ₁ l = some (.list xs) ∧ ∀ A s, AOk d A → OK h₀ s.heap σ₁ → wpAny (model prog w) A (callWith pos (.builtin id) [.ref l] [] []) (Post h₀ σ₁ s Q) NoE s)
    (hbase : attributeBase o name env (eval o env) = eval o env) (hline : (apos.endLine == pos.line) = true) : WE prog w h₀ d env m (.Call (.Attribute o name apos) [] [] pos) σ Q := .mk fun A s a ok lk => by
  refine Call_method0 hbase hline (we_then h a ok lk fun v x h₁ tk₁ σ₁ hv st₁ ok₁ lk₁ q₁ => ?_)
  obtain ⟨l, xs, rfl, hl, k⟩ := q₁
  cases hv
  obtain ⟨its, pl, hvs⟩ := ok₁.sr _ _ hl
  obtain ⟨n, e⟩ := _root_.id pl
  exact ⟨"list", id, PySem.F.plainAttrs_list, slot, hty, pl.isList.typeIs, (fun b hb => by cases hb; exact ⟨_, e, rfl⟩), wpAny_mono (k A _ a ok₁) (fun _ _ p => p.chain st₁) fun _ _ z => z⟩
theorem method1 {o e : Expr} {name : Str} {id : String} {apos pos : Pos} (slot : Slot "list" name id) (hty : typeOf (.builtin id) = pure (.type "method_descriptor"))
    (h : WE prog w h₀ d env m o σ fun x σ₁ => ∃ l xs, x = .ref l ∧ σ₁ l = some (.list xs) ∧ WE prog w h₀ d env m e σ₁ fun y σ₂ => ∀ v, VR v y → WT prog w h₀ d (call (.builtin id) [.ref l, v]) σ₂ Q)
    (hbase : attributeBase o name env (eval o env) = eval o env) (hs : starEach [e] env = [(false, eval e env)]) (hline : (apos.endLine == pos.line) = true) : WE prog w h₀ d env m (.Call (.Attribute o name apos) [e] [] pos) σ Q := .mk fun A s a ok lk => by
  refine Call_method1 hbase hs hline (we_then h a ok lk fun v x h₁ tk₁ σ₁ hv st₁ ok₁ lk₁ q₁ => ?_)
  obtain ⟨l, xs, rfl, hl, k⟩ := q₁
  cases hv
  obtain ⟨its, pl, hvs⟩ := ok₁.sr _ _ hl
  obtain ⟨n, e⟩ := _root_.id pl
  refine ⟨"list", id, PySem.F.plainAttrs_list, slot, hty, pl.isList.typeIs, (fun b hb => by cases hb; exact ⟨_, e, rfl⟩), ?_⟩
  refine Calls.callWith_builtin rfl (Calls.evalArgs_plain (Calls.spliced_cons (we_then k a ok₁ lk₁ fun u y h₂ tk₂ σ₂ hu st₂ ok₂ lk₂ q₂ => Calls.spliced_nil ?_)))
  exact wpAny_mono ((q₂ u hu).run A _ a ok₂) (fun _ _ p => (p.chain st₂).chain st₁) fun _ _ z => z
theorem we_append {o e : Expr} {apos pos : Pos}
    (h : WE prog w h₀ d env m o σ fun x σ₁ => ∃ l xs, x = .ref l ∧ σ₁ l = some (.list xs) ∧ WE prog w h₀ d env m e σ₁ fun y σ₂ => ∃ ys, σ₂ l = some (.list ys) ∧ ys.length ≤ sizeLine ∧ Q .none (upd σ₂ l (.list (ys ++ [y]))))
    (hbase : attributeBase o "append" env (eval o env) = eval o env) (hs : starEach [e] env = [(false, eval e env)]) (hline : (apos.endLine == pos.line) = true) : WE prog w h₀ d env m (.Call (.Attribute o "append" apos) [e] [] pos) σ Q := by
  refine method1 PySem.F.slot_list_append PySem.F.type_list_append (h.mono fun x σ₁ ⟨l, xs, e1, e2, k⟩ => ⟨l, xs, e1, e2, k.mono fun y σ₂ ⟨ys, hl, hsz, q⟩ v hv => .mk fun A s a ok => ?_⟩) hbase hs hline
  obtain ⟨its, pl, hvs⟩ := ok.sr _ _ hl
  refine append_LH pl (fun h' pl' hs' => ?_) (by rw [List.size_toArray, hvs.length]; exact hsz)
  have ch := ok.change (o' := .list (ys ++ [y])) hl hs' ⟨its ++ [v], by simpa using pl', hvs.append (.cons hv .nil)⟩
  exact ⟨.none, h', s.toks, _, rfl, .none, ch.2, ch.1, q⟩
theorem VRs.last {vs : List Value} {xs : List V} {x : V} (h : VRs vs (xs ++ [x])) : ∃ us u, vs = us ++ [u] ∧ VRs us xs ∧ VR u x := by
  induction xs generalizing vs with
  | nil => cases h with | cons h1 h2 => cases h2; exact ⟨[], _, rfl, .nil, h1⟩
  | cons y xs ih => cases h with
    | cons h1 h2 => obtain ⟨us, u, e, r1, r2⟩ := ih h2; exact ⟨_ :: us, u, by rw [e]; rfl, .cons h1 r1, r2⟩
theorem we_pop {o : Expr} {apos pos : Pos}
    (h : WE prog w h₀ d env m o σ fun x σ₁ => ∃ l ys y, x = .ref l ∧ σ₁ l = some (.list (ys ++ [y])) ∧ ys.length < sizeLine ∧ Q y (upd σ₁ l (.list ys)))
    (hbase : attributeBase o "pop" env (eval o env) = eval o env) (hline : (apos.endLine == pos.line) = true) : WE prog w h₀ d env m (.Call (.Attribute o "pop" apos) [] [] pos) σ Q := by
  refine method0 PySem.F.slot_list_pop PySem.F.type_list_pop (h.mono fun x σ₁ ⟨l, ys, y, e1, hl, hsz, q⟩ => ⟨l, _, e1, hl, fun A s a ok => ?_⟩) hbase hline
  obtain ⟨its, ⟨n, e⟩, hvs⟩ := ok.sr _ _ hl
  obtain ⟨us, u, rfl, h1, h2⟩ := hvs.last
  have hlen : us.length = ys.length := h1.length
  refine P.pop_list e (y := u) (by simp) ?_ (by simp; omega)
  have ch := ok.change (o' := .list ys) hl (Heap.SameBut.update s.heap l (Obj.mapSeq fun xs => xs.eraseIdxIfInBounds ((us ++ [u]).toArray.size - 1))) ⟨us, ⟨_, by
    have := IsL.update e (fun xs => xs.eraseIdxIfInBounds ((us ++ [u]).toArray.size - 1))
    have e2 : (us ++ [u]).toArray.eraseIdxIfInBounds ((us ++ [u]).toArray.size - 1) = us.toArray := by
      rw [Array.eraseIdxIfInBounds_eq]
      apply Array.toList_inj.mp
      simp [List.eraseIdx_append_of_length_le]
    rw [e2] at this
    exact this⟩, h1⟩
  exact ⟨y, _, s.toks, _, rfl, h2, ch.2, ch.1, q⟩
end
end Mine
end
section
open PySem PySem.Calls PyProof.Rows
namespace Mine

/-! ## reversed(range(n)) -/
theorem sub_ri_reversed : isSubtype (.type "range_iterator") (.type "reversed") = pure false := by rw [isSubtype_type]; kernel_rfl
section
variable {prog : Program} {w : World} {A : Around} {E : Value → Shared → Prop} {s : Shared}
def rangeIt (a n c : Int) : Obj := { cls := .type "range_iterator", data := .fields #[rawInt a, rawInt n, rawInt c] }
theorem call_range_reversed {r : Addr} {a b c : Int} {t u v : Tok} {Q : Value → Shared → Prop} (hr : IsRange s.heap r a b c t u v)
    (hsmall : (Builtin.Range.rangeFitsLong a && Builtin.Range.rangeFitsLong b && Builtin.Range.rangeFitsLong c && Builtin.Range.rangeFitsLong (-c) && Builtin.Range.rangeFitsLong (a - c) && Builtin.Range.rangeFitsLong (Builtin.Range.rangeSize a b c)) = true)
    (h : Q (.ref s.heap.objs.size) { s with heap := s.heap.push (rangeIt (a + (Builtin.Range.rangeSize a b c - 1) * c) (Builtin.Range.rangeSize a b c) (-c)) }) : wpAny (model prog w) A (call (.builtin "range.__reversed__") [.ref r]) Q E s := by
  have hT : s.TypeIs (.ref r) "range" := ⟨_, hr, rfl⟩
  refine wpAny_call_entry F.slot_range_reversed hT F.entry_range_reversed ?_ (F.args_range_reversed_1 _)
  unfold Builtin.«range.__reversed__»
  refine wpAny_bind (wpAny_of_eq (a := Value.ref r) rfl ?_)
  refine wpAny_bind (m := Builtin.Range.rangeFields (.ref r)) (wpAny_mono (Q := fun x s' => x = (a, b, c) ∧ s' = s) ?_ (fun x s' hx => ?_) fun _ _ z => z)
  · unfold Builtin.Range.rangeFields
    first
    | (refine wpAny_bind (wpAny_field hr rfl (x := .int a t) rfl ?_)
       refine wpAny_bind (wpAny_of_eq (a := some a) rfl ?_)
       refine wpAny_bind (wpAny_field hr rfl (x := .int b u) rfl ?_)
       refine wpAny_bind (wpAny_of_eq (a := some b) rfl ?_)
       refine wpAny_bind (wpAny_field hr rfl (x := .int c v) rfl ?_)
       refine wpAny_bind (wpAny_of_eq (a := some c) rfl ?_)
       exact wpAny_pure ⟨rfl, rfl⟩)
  · obtain ⟨rfl, rfl⟩ := hx
    dsimp only
    simp only [hsmall, Bool.not_true, Bool.false_eq_true, if_false, if_true]
    refine wpAny_bind (wpAny_newObj_type (wpAny_pure ⟨_, rfl, h⟩))
theorem code_reversed_range {r : Addr} {a b c : Int} {t u v : Tok} {Q₁ : Value → Shared → Prop} (hr : IsRange s.heap r a b c t u v)
    (hsmall : (Builtin.Range.rangeFitsLong a && Builtin.Range.rangeFitsLong b && Builtin.Range.rangeFitsLong c && Builtin.Range.rangeFitsLong (-c) && Builtin.Range.rangeFitsLong (a - c) && Builtin.Range.rangeFitsLong (Builtin.Range.rangeSize a b c)) = true)
    (h : Q₁ (.ref s.heap.objs.size) { s with heap := s.heap.push (rangeIt (a + (Builtin.Range.rangeSize a b c - 1) * c) (Builtin.Range.rangeSize a b c) (-c)) }) :
    codeAny (model prog w) A (.call (.builtin "reversed.__new__") ⟨[.type "reversed", .ref r], []⟩) (wants Q₁ E) s := by
  have hT : s.TypeIs (.ref r) "range" := ⟨_, hr, rfl⟩
  refine codeAny_of_tree ?_
  show wpAny _ A.in1 (do checkBuiltinCall "reversed.__new__" ⟨[.type "reversed", .ref r], []⟩; again (.builtin "reversed.__new__" ⟨[.type "reversed", .ref r], []⟩)) _ _ s
  refine wpAny_bind (wpAny_of_eq (F.newCall_reversed_1 _) (wpAny_pure ⟨plainId_quiet F.plain_reversed_new _, codeAny_builtin F.entry_reversed_new ?_⟩))
  rw [Around.under_plainId F.plain_reversed_new _]
  unfold Builtin.«reversed.__new__»
  refine wpAny_bind (wpAny_of_eq (newClass_reversed _) ?_)
  try dsimp only
  refine wpAny_bind (wpAny_of_eq (a := ()) (by first | rfl | kernel_rfl) ?_)
  refine wpAny_bind (wpAny_of_eq (a := ()) (by first | rfl | kernel_rfl) ?_)
  try dsimp only
  refine wpAny_bind (wpAny_specialOf hT F.slot_range_reversed.lookup ?_)
  try dsimp only
  refine wpAny_bind (wpAny_of_eq (F.slot_range_reversed.bind _) ?_)
  try dsimp only
  first
  | rw [if_neg (show ¬ ((Value.builtin "range.__reversed__" == Value.none) = true) from Bool.false_ne_true)]
  | (show wpAny _ _ (if (Value.builtin "range.__reversed__" == Value.none) = true then _ else _) _ _ _; rw [if_neg (show ¬ ((Value.builtin "range.__reversed__" == Value.none) = true) from Bool.false_ne_true)])
  refine wpAny_bind (wpAny_rule ?_)
  refine wpAny_bind (m := runValue (.call (.builtin "range.__reversed__") ⟨[.ref r], []⟩)) (show wpAny _ _ (call (.builtin "range.__reversed__") [.ref r]) _ _ _ from call_range_reversed hr hsmall ?_)
  first
  | exact wpAny_pure h
  | exact wpAny_bind (wpAny_pure (wpAny_pure h))
theorem call_reversed_range {r : Addr} {a b c : Int} {t u v : Tok} {Q : Value → Shared → Prop} (hr : IsRange s.heap r a b c t u v)
    (hsmall : (Builtin.Range.rangeFitsLong a && Builtin.Range.rangeFitsLong b && Builtin.Range.rangeFitsLong c && Builtin.Range.rangeFitsLong (-c) && Builtin.Range.rangeFitsLong (a - c) && Builtin.Range.rangeFitsLong (Builtin.Range.rangeSize a b c)) = true)
    (h : Q (.ref s.heap.objs.size) { s with heap := s.heap.push (rangeIt (a + (Builtin.Range.rangeSize a b c - 1) * c) (Builtin.Range.rangeSize a b c) (-c)) }) : wpAny (model prog w) A (call (.type "reversed") [.ref r]) Q E s := by
  refine callType_other (U := "range_iterator") (Q₁ := fun obj s₁ => obj = .ref s.heap.objs.size ∧ s₁ = { s with heap := s.heap.push (rangeIt (a + (Builtin.Range.rangeSize a b c - 1) * c) (Builtin.Range.rangeSize a b c) (-c)) }) (by decide +kernel) F.create_reversed ⟨_, _, F.mro_reversed⟩ F.made_reversed sub_ri_reversed (F.typeCall_reversed_1 _) (code_reversed_range hr hsmall ⟨rfl, rfl⟩) ?_
  rintro obj s₁ ⟨rfl, rfl⟩
  exact ⟨⟨_, Heap.get?_push_size _ rfl, rfl⟩, h⟩
end

section
variable {prog : Program} {w : World} {h₀ : Heap} {d : Nat} {env : Env} {m : Loc} {σ : Store} {mg mb : Str → Option Value} {Q : V → Store → Prop}
theorem OK.nothing {h : Heap} {σ : Store} (ok : OK h₀ h σ) {b : Addr} (e : h.get? b = none) : σ b = none := by
  cases q : σ b with
  | none => rfl
  | some o => obtain ⟨ob, e'⟩ := (ok.sr b o q).some; rw [e] at e'; cases e'

theorem wi_range (G : Glo h₀ mg mb) {e : Expr} {p pos : Pos} {Q : List V → (Store → Prop) → Store → Prop} (hn : GName mg mb "range" (.type "range"))
    (h : WE prog w h₀ d env m e σ fun x σ₁ => ∃ k : Int, x = .int k ∧ -1000000000000 ≤ k ∧ k < 1000000000000 ∧ Q (rangeV 0 1 k.toNat) (fun _ => True) σ₁)
    (hx : env.kindOf "range" = some .globalImplicit) (he : starEach [e] env = [(false, eval e env)]) : WI prog w h₀ d env m (.Call (.Name "range" p) [e] [] pos) σ Q := .mk fun A s a ok lk => by
  refine wpAny_Call_NameR (load_g G ok lk hn ?_ hx (by decide))
  rw [he]
  refine PyProof.Rows.callWith_type rfl (Calls.evalArgs_plain (Calls.spliced_cons (we_then h a ok lk fun v x h₁ tk₁ σ₁ hv st₁ ok₁ lk₁ q => Calls.spliced_nil ?_)))
  obtain ⟨k, rfl, hlo, hhi, q⟩ := q
  cases hv
  refine call_range_1 (wpAny_pyIter_range (IsRange.new ..) (small_one (by decide) (by decide) (by omega) (by omega)) ?_)
  have hsz : Builtin.Range.rangeSize 0 k 1 = (k.toNat : Int) := by rw [rangeSize_one]; split <;> omega
  generalize hH : h₁.push { cls := .type "range", data := .fields #[.int 0 tk₁, .int k _, .int 1 (tk₁ + 1)] } = H
  have up : ∀ b o, h₁.get? b = some o → (H.push { cls := .type "range_iterator", data := .fields #[rawInt 0, rawInt (Builtin.Range.rangeSize 0 k 1), rawInt 1] }).get? b = some o := fun b o e => Heap.get?_push_of_some _ (hH ▸ Heap.get?_push_of_some _ e)
  have hI : H.objs.size = h₁.objs.size + 1 := by rw [← hH, Heap.size_push]
  refine ⟨H.objs.size, _, _, σ₁, _, _, _, rfl, rfl, st₁.trans (ok₁.keeps up).2, (ok₁.keeps up).1, ok₁.nothing (get_ge_none _ _ (by omega)), fun b o hb e => ?_, iter_range a.hh H.objs.size 0 1 k.toNat, ?_, q⟩
  · have hb1 : b < h₁.objs.size := Heap.lt_size (st₁.keep b o hb (fun z => z) e)
    exact Nat.ne_of_lt (hI ▸ Nat.lt_succ_of_lt hb1)
  · show IsRangeIter _ _ (0 + ((0 : Nat) : Int) * 1) ((k.toNat : Int) - ((0 : Nat) : Int)) 1
    have e1 : (0 + ((0 : Nat) : Int) * 1) = 0 := by simp
    have e2 : ((k.toNat : Int) - ((0 : Nat) : Int)) = Builtin.Range.rangeSize 0 k 1 := by rw [hsz]; simp
    rw [e1, e2]
    exact Heap.get?_push_size _ rfl
theorem wi_rev_range (G : Glo h₀ mg mb) {e : Expr} {p pos p' pos' : Pos} {Q : List V → (Store → Prop) → Store → Prop} (hn : GName mg mb "range" (.type "range")) (hn' : GName mg mb "reversed" (.type "reversed"))
    (h : WE prog w h₀ d env m e σ fun x σ₁ => ∃ k : Int, x = .int k ∧ 0 ≤ k ∧ k < 1000000000000 ∧ Q (rangeV (k - 1) (-1) k.toNat) (fun _ => True) σ₁)
    (hx : env.kindOf "range" = some .globalImplicit) (hx' : env.kindOf "reversed" = some .globalImplicit) (he : starEach [e] env = [(false, eval e env)])
    (he' : starEach [.Call (.Name "range" p) [e] [] pos] env = [(false, eval (.Call (.Name "range" p) [e] [] pos) env)]) : WI prog w h₀ d env m (.Call (.Name "reversed" p') [.Call (.Name "range" p) [e] [] pos] [] pos') σ Q := .mk fun A s a ok lk => by
  refine wpAny_Call_NameR (load_g G ok lk hn' ?_ hx' (by decide))
  rw [he']
  refine PyProof.Rows.callWith_type rfl (Calls.evalArgs_plain (Calls.spliced_cons (wpAny_Call_NameR (load_g G ok lk hn ?_ hx (by decide)))))
  rw [he]
  refine PyProof.Rows.callWith_type rfl (Calls.evalArgs_plain (Calls.spliced_cons (we_then h a ok lk fun v x h₁ tk₁ σ₁ hv st₁ ok₁ lk₁ q => Calls.spliced_nil ?_)))
  obtain ⟨k, rfl, hlo, hhi, q⟩ := q
  cases hv
  have hsz : Builtin.Range.rangeSize 0 k 1 = (k.toNat : Int) := by rw [rangeSize_one]; split <;> omega
  refine call_range_1 (Calls.spliced_nil (call_reversed_range (IsRange.new ..) ?_ ?_))
  · rw [hsz]
    simp only [Builtin.Range.rangeFitsLong, Bool.and_eq_true, decide_eq_true_eq]
    omega
  · generalize hH : h₁.push { cls := .type "range", data := .fields #[.int 0 tk₁, .int k _, .int 1 (tk₁ + 1)] } = H
    have up : ∀ b o, h₁.get? b = some o → (H.push (rangeIt (0 + (Builtin.Range.rangeSize 0 k 1 - 1) * 1) (Builtin.Range.rangeSize 0 k 1) (-1))).get? b = some o := fun b o e => Heap.get?_push_of_some _ (hH ▸ Heap.get?_push_of_some _ e)
    have hI : H.objs.size = h₁.objs.size + 1 := by rw [← hH, Heap.size_push]
    have it0 : IsRangeIter (H.push (rangeIt (0 + (Builtin.Range.rangeSize 0 k 1 - 1) * 1) (Builtin.Range.rangeSize 0 k 1) (-1))) H.objs.size ((k - 1) + ((0 : Nat) : Int) * (-1)) ((k.toNat : Int) - ((0 : Nat) : Int)) (-1) := by
      have e1 : ((k - 1) + ((0 : Nat) : Int) * (-1)) = 0 + (Builtin.Range.rangeSize 0 k 1 - 1) * 1 := by rw [hsz]; omega
      have e2 : ((k.toNat : Int) - ((0 : Nat) : Int)) = Builtin.Range.rangeSize 0 k 1 := by rw [hsz]; simp
      rw [e1, e2]
      exact Heap.get?_push_size _ rfl
    refine (iter_range (prog := prog) (w := w) (h₀ := h₀) a.hh H.objs.size (k - 1) (-1) k.toNat).self 0 _ it0 _ _ ?_
    refine ⟨H.objs.size, _, _, σ₁, _, _, _, rfl, rfl, st₁.trans (ok₁.keeps up).2, (ok₁.keeps up).1, ok₁.nothing (get_ge_none _ _ (by omega)), fun b o hb e => ?_, iter_range a.hh H.objs.size (k - 1) (-1) k.toNat, it0, q⟩
    have hb1 : b < h₁.objs.size := Heap.lt_size (st₁.keep b o hb (fun z => z) e)
    exact Nat.ne_of_lt (hI ▸ Nat.lt_succ_of_lt hb1)
end
end Mine
end
section
open PySem PySem.Calls PyProof.Rows
namespace Mine
section
variable {prog : Program} {w : World} {A : Around} {E : Value → Shared → Prop} {s : Shared}
def pairLt (h1 p1 h2 p2 : Int) : Bool := decide (h1 < h2 ∨ h1 = h2 ∧ p1 < p2)
theorem rich_lt_int {a b : Int} {t u : Tok} {K : Value → Shared → Prop} (k : K (.bool (decide (a < b))) s) : wpAny (model prog w) A (richCompare .Lt (.int a t) (.int b u)) K E s := lt_int k
theorem tuple_lt_tree {a b : Addr} {h1 p1 h2 p2 : Int} {t1 t2 u1 u2 : Tok} {K : Fin → Shared → Prop} (ha : IsTup s.heap a #[.int h1 t1, .int p1 t2]) (hb : IsTup s.heap b #[.int h2 u1, .int p2 u2])
    (k : K (.done (.ret (.bool (pairLt h1 p1 h2 p2)))) s) : wpAny (model prog w) A (Builtin.«tuple.__lt__» ⟨[.ref a, .ref b], []⟩) K E s := by
  show wpAny _ _ (isInstance (.ref b) (.type "tuple") >>= _) _ _ s
  refine wpAny_bind (wpAny_isInstance hb.typeIs (b := true) (by rw [isSubtype_type]; kernel_rfl) ?_)
  show wpAny _ _ (Builtin.Tuple.tupleItemsOf (.ref a) >>= _) _ _ s
  refine wpAny_bind (tupleItemsOf_ ha ?_)
  refine wpAny_bind (tupleItemsOf_ hb ?_)
  simp only [List.zip_cons_cons, List.zip_nil_left, List.forIn_cons, List.forIn_nil]
  refine wpAny_bind (wpAny_bind (wpAny_bind (wpAny_eqBool_int ?_)))
  by_cases e1 : h1 = h2
  · subst e1
    simp only [beq_self_eq_true, Bool.not_true, Bool.false_eq_true, if_false]
    refine wpAny_pure ?_
    dsimp only
    refine wpAny_bind (wpAny_bind (wpAny_eqBool_int ?_))
    by_cases e2 : p1 = p2
    · subst e2
      simp only [beq_self_eq_true, Bool.not_true, Bool.false_eq_true, if_false]
      refine wpAny_pure (wpAny_pure ?_)
      have : pairLt h1 p1 h1 p1 = false := by simp [pairLt]
      rw [this] at k
      exact wpAny_pure k
    · rw [beq_eq_false_iff_ne.mpr e2]
      simp only [Bool.not_false, if_true]
      refine wpAny_bind (wpAny_rule (wpAny_bind (rich_lt_int (wpAny_bind (wpAny_pure (wpAny_pure ?_))))))
      have : pairLt h1 p1 h1 p2 = decide (p1 < p2) := by simp [pairLt]
      rw [this] at k
      exact wpAny_pure (wpAny_pure k)
  · rw [beq_eq_false_iff_ne.mpr e1]
    simp only [Bool.not_false, if_true]
    refine wpAny_bind (wpAny_rule (wpAny_bind (rich_lt_int (wpAny_bind (wpAny_pure (wpAny_pure ?_))))))
    have : pairLt h1 p1 h2 p2 = decide (h1 < h2) := by simp [pairLt, e1]
    rw [this] at k
    exact wpAny_pure (wpAny_pure k)
end

section
variable {prog : Program} {w : World} {h₀ : Heap} {d : Nat} {env : Env} {m : Loc} {σ : Store} {mg mb : Str → Option Value} {Q : V → Store → Prop}
theorem VRs.two {vs : List Value} {x y : V} (h : VRs vs [x, y]) : ∃ u v, vs = [u, v] ∧ VR u x ∧ VR v y := by
  cases h with | cons h1 h2 => cases h2 with | cons h3 h4 => cases h4; exact ⟨_, _, rfl, h1, h3⟩
theorem cmp_lt_tup {a b : Addr} {h1 p1 h2 p2 : Int} (ha : σ a = some (.tup [.int h1, .int p1])) (hb : σ b = some (.tup [.int h2, .int p2])) (q : Q (.bool (pairLt h1 p1 h2 p2)) σ) : WCmp prog w h₀ d .Lt (.ref a) (.ref b) σ Q := fun v u hv hu => .mk fun A s ra ok => by
  cases hv; cases hu
  obtain ⟨i1, T1, v1⟩ := ok.sr _ _ ha
  obtain ⟨i2, T2, v2⟩ := ok.sr _ _ hb
  obtain ⟨_, _, rfl, r1, r2⟩ := v1.two
  obtain ⟨_, _, rfl, r3, r4⟩ := v2.two
  cases r1; cases r2; cases r3; cases r4
  show wpAny _ _ (richCompare .Lt (.ref a) (.ref b)) _ _ _
  refine wpAny_richCompare_same_room T1.isTup.typeIs T2.isTup.typeIs PySem.F.slot_tuple_lt (wpAny_call_entry PySem.F.slot_tuple_lt T1.isTup.typeIs PySem.F.entry_tuple_lt ?_ (PySem.F.args_tuple_lt_2 _ _)) (by have := ra.room; omega)
  exact tuple_lt_tree T1.isTup T2.isTup ⟨_, rfl, by simp, _, s.heap, s.toks, σ, rfl, .bool _, .refl, ok, q⟩

/-! ## reading data -/
mutual
/-- what the store says of a value -/
inductive RD (σ : Store) : V → PyData → Prop where
  | none : RD σ .none .none
  | bool (b : Bool) : RD σ (.bool b) (.bool b)
  | int (i : Int) : RD σ (.int i) (.int i)
  | list {a : Addr} {xs : List V} {ds : List PyData} : σ a = some (.list xs) → RDs σ xs ds → RD σ (.ref a) (.list ds)
  | tup {a : Addr} {xs : List V} {ds : List PyData} : σ a = some (.tup xs) → RDs σ xs ds → RD σ (.ref a) (.tuple ds)
inductive RDs (σ : Store) : List V → List PyData → Prop where
  | nil : RDs σ [] []
  | cons {x : V} {dt : PyData} {xs : List V} {ds : List PyData} : RD σ x dt → RDs σ xs ds → RDs σ (x :: xs) (dt :: ds)
end
mutual
theorem RD.reads {h : Heap} (ok : OK h₀ h σ) : ∀ {x : V} {dt : PyData}, RD σ x dt → ∀ {v : Value}, VR v x → ∃ as, Reads h v dt as
  | _, _, .none, _, hv => by cases hv; exact ⟨_, .none⟩
  | _, _, .bool b, _, hv => by cases hv; exact ⟨_, .bool _⟩
  | _, _, .int i, _, hv => by cases hv; exact ⟨_, .int _ _⟩
  | _, _, .list e r, _, hv => by
    cases hv
    obtain ⟨its, ⟨n, e'⟩, hvs⟩ := ok.sr _ _ e
    obtain ⟨as, ra⟩ := r.reads ok hvs
    exact ⟨_, .list e' rfl rfl ra⟩
  | _, _, .tup e r, _, hv => by
    cases hv
    obtain ⟨its, ⟨n, e'⟩, hvs⟩ := ok.sr _ _ e
    obtain ⟨as, ra⟩ := r.reads ok hvs
    exact ⟨_, .tuple e' rfl rfl ra⟩
theorem RDs.reads {h : Heap} (ok : OK h₀ h σ) : ∀ {xs : List V} {ds : List PyData}, RDs σ xs ds → ∀ {vs : List Value}, VRs vs xs → ∃ as, ReadsAll h vs ds as
  | _, _, .nil, _, hv => by cases hv; exact ⟨_, .nil⟩
  | _, _, .cons r rs, _, hv => by
    cases hv with
    | cons h1 h2 =>
      obtain ⟨as, ra⟩ := r.reads ok h1
      obtain ⟨bs, rb⟩ := rs.reads ok h2
      exact ⟨_, .cons ra rb⟩
end
theorem cmp_eq_data {x y : V} {dx dy : PyData} (hx : RD σ x dx) (hy : RD σ y dy) (sx : SeqAt.shaped dx = true) (sy : SeqAt.shaped dy = true) (hm : PySem.SeqAt.noMix dx dy = true) (q : Q (.bool (Spec.same dx dy)) σ) : WCmp prog w h₀ d .Eq x y σ Q := fun v u hv hu => .mk fun A s ra ok => by
  obtain ⟨_, r1⟩ := hx.reads ok hv
  obtain ⟨_, r2⟩ := hy.reads ok hu
  exact eq_dataH_same r1 r2 sx sy (by have := ra.room; omega) hm ⟨_, s.heap, s.toks, σ, rfl, .bool _, .refl, ok, q⟩
theorem cmp_ne_data {x y : V} {dx dy : PyData} (hx : RD σ x dx) (hy : RD σ y dy) (sx : SeqAt.shaped dx = true) (sy : SeqAt.shaped dy = true) (hm : PySem.SeqAt.noMix dx dy = true) (q : Q (.bool (!Spec.same dx dy)) σ) : WCmp prog w h₀ d .NotEq x y σ Q := fun v u hv hu => .mk fun A s ra ok => by
  obtain ⟨_, r1⟩ := hx.reads ok hv
  obtain ⟨_, r2⟩ := hy.reads ok hu
  exact ne_dataH_same r1 r2 sx sy (by have := ra.room; omega) hm ⟨_, s.heap, s.toks, σ, rfl, .bool _, .refl, ok, q⟩

/-! ## max, min -/
theorem wc_max2 {a b : Int} (q : Q (.int (max a b)) σ) : WCall prog w h₀ d (.builtin "max") [.int a, .int b] σ Q := fun vs hvs => .mk fun A s ra ok => by
  obtain ⟨_, _, rfl, r1, r2⟩ := hvs.two
  cases r1; cases r2
  refine max_two_ints ra.hh fun h' tk kp => ?_
  refine ⟨.int (max a b), h', tk, σ, rfl, ?_, (ok.keeps kp).2, (ok.keeps kp).1, q⟩
  split
  · rw [Int.max_eq_right (by omega)]; exact .int _ _
  · rw [Int.max_eq_left (by omega)]; exact .int _ _
theorem VRs.one {vs : List Value} {x : V} (h : VRs vs [x]) : ∃ u, vs = [u] ∧ VR u x := by
  cases h with | cons h1 h2 => cases h2; exact ⟨_, rfl, h1⟩
theorem fr_any {s : Shared} (ok : OK h₀ s.heap σ) : True := trivial
theorem wc_min {l : Addr} {ns : List Int} (hl : σ l = some (.list (ns.map V.int))) (hne : 0 < ns.length) (q : ∀ M, M ∈ ns → (∀ a, a ∈ ns → M ≤ a) → Q (.int M) σ) : WCall prog w h₀ d (.builtin "min") [.ref l] σ Q := fun vs hvs => .mk fun A s ra ok => by
  obtain ⟨_, rfl, r1⟩ := hvs.one
  cases r1
  obtain ⟨its, pl, hv⟩ := ok.sr _ _ hl
  have hi := hv.ints
  have hl := pl.isList
  obtain ⟨xs, e⟩ := hi.allInts.items
  have hns : ns = xs.toList.map (·.1) := by rw [← hi.numsOf, ← nums_intItems, ← e]
  have hsz : 0 < xs.size := by
    have h3 := hne; rw [hns, List.length_map, Array.length_toList] at h3; exact h3
  rw [e] at hl
  refine min_intList ra.hh hl hsz fun v h' tk hv hk => ?_
  obtain ⟨t, rfl⟩ := intItems_at hv
  obtain ⟨h1, h2⟩ := argBest_lt (numAt xs) (xs.size - 1)
  refine ⟨_, h', tk, σ, rfl, .int _ _, (ok.keeps hk).2, (ok.keeps hk).1, q _ ?_ fun a ha => ?_⟩
  · rw [hns, numAt_eq]; exact getD_mem (by rw [List.length_map, Array.length_toList]; omega)
  · rw [hns] at ha
    obtain ⟨j, hj, rfl⟩ := mem_getD ha
    rw [List.length_map, Array.length_toList] at hj
    rw [← numAt_eq]; exact h2 j (by omega)
theorem wc_max {l : Addr} {ns : List Int} (hl : σ l = some (.list (ns.map V.int))) (hne : 0 < ns.length) (q : ∀ M, M ∈ ns → (∀ a, a ∈ ns → a ≤ M) → Q (.int M) σ) : WCall prog w h₀ d (.builtin "max") [.ref l] σ Q := fun vs hvs => .mk fun A s ra ok => by
  obtain ⟨_, rfl, r1⟩ := hvs.one
  cases r1
  obtain ⟨its, pl, hv⟩ := ok.sr _ _ hl
  have hi := hv.ints
  have hl := pl.isList
  obtain ⟨xs, e⟩ := hi.allInts.items
  have hns : ns = xs.toList.map (·.1) := by rw [← hi.numsOf, ← nums_intItems, ← e]
  have hsz : 0 < xs.size := by
    have h3 := hne; rw [hns, List.length_map, Array.length_toList] at h3; exact h3
  rw [e] at hl
  refine max_intList ra.hh hl hsz fun v h' tk hv hk => ?_
  obtain ⟨t, rfl⟩ := intItems_at hv
  obtain ⟨h1, h2⟩ := argBest_gt (numAt xs) (xs.size - 1)
  refine ⟨_, h', tk, σ, rfl, .int _ _, (ok.keeps hk).2, (ok.keeps hk).1, q _ ?_ fun a ha => ?_⟩
  · rw [hns, numAt_eq]; exact getD_mem (by rw [List.length_map, Array.length_toList]; omega)
  · rw [hns] at ha
    obtain ⟨j, hj, rfl⟩ := mem_getD ha
    rw [List.length_map, Array.length_toList] at hj
    rw [← numAt_eq]; exact h2 j (by omega)

/-! ## copies, slices, repetition -/
theorem OK.new {h h' : Heap} {a : Addr} {xs : List V} (ok : OK h₀ h σ) (kp : ∀ b o, h.get? b = some o → h'.get? b = some o) (hn : h.get? a = none) (e : OH h' a (.list xs)) :
    OK h₀ h' (upd σ a (.list xs)) ∧ Step NoW σ (upd σ a (.list xs)) h h' ∧ σ a = none := by
  have na : σ a = none := ok.nothing hn
  refine ⟨⟨fun b o e => kp b o (ok.base b o e), fun b o e' => ?_, fun b o e' => ?_⟩, ⟨fun b o _ _ e => kp b o e, fun b h1 h2 => ⟨?_, fun z => z⟩⟩, na⟩
  · rw [upd_ne _ _ (fun z => by have := ok.base b o e'; rw [z, hn] at this; cases this)]; exact ok.off b o e'
  · by_cases q : b = a
    · subst q; rw [upd_same] at e'; cases e'; exact e
    · rw [upd_ne _ _ q] at e'; exact (ok.sr b o e').at fun ob e => kp b ob e
  · by_cases q : b = a
    · subst q; exact hn
    · rw [upd_ne _ _ q] at h2; exact absurd h1 h2
theorem wc_list {l : Addr} {xs : List V} (hl : σ l = some (.list xs)) (hsz : xs.length ≤ sizeLine) (q : ∀ a, σ a = none → Q (.ref a) (upd σ a (.list xs))) : WCall prog w h₀ d (.type "list") [.ref l] σ Q := fun vs hvs => .mk fun A s ra ok => by
  obtain ⟨_, rfl, r1⟩ := hvs.one
  cases r1
  obtain ⟨its, ⟨n, e⟩, hv⟩ := ok.sr _ _ hl
  refine call_list_seq (hsz := by rw [List.size_toArray, hv.length]; exact hsz) l (.inl rfl) e rfl rfl fun h' c' hk hD => ?_
  have nw := ok.new hk (size_none _) (a := s.heap.objs.size) (xs := xs) ⟨its, ⟨c', hD⟩, hv⟩
  exact ⟨_, h', s.toks, _, rfl, .ref _, nw.2.1, nw.1, q _ nw.2.2⟩
theorem mul_raw {A : Around} {s : Shared} {E : Value → Shared → Prop} {l : Addr} {items : Array Value} {k : Nat} {x : Int} {u : Tok} {K : Value → Shared → Prop} (hl : IsL s.heap l items k)
    (hlo : -(2 ^ 63 : Int) ≤ x) (hhi : x < 2 ^ 63) (hsz : items.size * x.toNat ≤ 2 ^ 24)
    (h : K (.ref s.heap.objs.size) { s with heap := s.heap.push { cls := .type "list", data := .seq (List.foldl (fun x1 x2 => x1 ++ x2) #[] (List.replicate (if items.isEmpty = true then 0 else x.toNat) items)) } }) :
    wpAny (model prog w) A (binaryOp .Mult (.ref l) (.int x u)) K E s :=
  wpAny_binaryOp_repeat_ref (T := "list") (U := "int") (by decide) ⟨_, hl, rfl⟩ (fun s' => typeIs_int s' x u) noFill_list_mul F.fills_int_mul F.slot_int_rmul repeat_list F.slot_int_index.lookup
    (call_meets F.slot_int_rmul (typeIs_int s x u) F.entry_int_rmul (F.args_int_rmul_2 _ _) (int___rmul___int_list x u l items k)
      ⟨hl, rfl, ⟨_, hl, rfl⟩, call_meets F.slot_list_mul ⟨_, hl, rfl⟩ F.entry_list_mul (F.args_list_mul_2 _ _)
        (AutoListH.list___mul___list_int_3 l items k x u (by simp [Builtin.List.listFitsIndex]; omega) (by omega) (by simp [Builtin.List.listTooLong, sizeLine]; omega))
        ⟨hl, h⟩⟩)
theorem op_mul_list {l : Addr} {x : V} {n : Nat} (hl : σ l = some (.list [x])) (hsz : n ≤ 1000) (q : ∀ a, σ a = none → Q (.ref a) (upd σ a (.list (List.replicate n x)))) : WOp prog w h₀ d .Mult (.ref l) (.int n) σ Q := fun v u hv hu => .mk fun A s ra ok => by
  cases hv
  cases hu with | int _ tt =>
  obtain ⟨its, ⟨k, e⟩, hvs⟩ := ok.sr _ _ hl
  obtain ⟨val, rfl, hr⟩ := hvs.one
  have hnn : (n : Int).toNat = n := Int.toNat_natCast n
  refine mul_raw e (by omega) (by omega) (by rw [hnn, List.size_toArray, List.length_singleton]; omega) ?_
  have e2 : List.foldl (fun x1 x2 => x1 ++ x2) #[] (List.replicate (if [val].toArray.isEmpty = true then 0 else (n : Int).toNat) [val].toArray) = (List.replicate n val).toArray := by
    simp [listMul_foldl]
  have vr : ∀ n, VRs (List.replicate n val) (List.replicate n x) := fun n => by
    induction n with
    | zero => exact .nil
    | succ n ih => exact .cons hr ih
  rw [e2]
  have al := ok.alloc { cls := .type "list", data := .seq (List.replicate n val).toArray } (.list (List.replicate n x)) ⟨List.replicate n val, ⟨0, Heap.get?_push_size _ rfl⟩, vr n⟩
  exact ⟨_, _, s.toks, _, rfl, .ref _, al.2.1, al.1, q _ al.2.2⟩
/-- a list that may be read -/
def RdL (h₀ : Heap) (σ : Store) (l : Addr) (xs : List V) : Prop := σ l = some (.list xs) ∨ ∃ its : List Value, h₀.IsList l its.toArray ∧ VRs its xs
theorem RdL.isList {h : Heap} {l : Addr} {xs : List V} (x : RdL h₀ σ l xs) (ok : OK h₀ h σ) : ∃ its : List Value, h.IsList l its.toArray ∧ VRs its xs := by
  rcases x with e | ⟨its, ⟨o, e, r⟩, hv⟩
  · obtain ⟨its, pl, hv⟩ := ok.sr _ _ e; exact ⟨its, pl.isList, hv⟩
  · exact ⟨its, ⟨o, ok.base _ _ e, r⟩, hv⟩
theorem we_slice_from {value lo : Expr} {p pos : Pos} (h : WE prog w h₀ d env m value σ fun x σ₁ => WE prog w h₀ d env m lo σ₁ fun y σ₂ => ∃ l xs k, x = .ref l ∧ RdL h₀ σ₂ l xs ∧ xs.length ≤ sizeLine ∧ y = .int ((k : Nat) : Int) ∧ ∀ a, σ₂ a = none → Q (.ref a) (upd σ₂ a (.list (xs.drop k))))
    (ht : ∀ o r, letTemporaryGo value o r = pure ()) : WE prog w h₀ d env m (.Subscript value (.Slice (some lo) none none p) pos) σ Q := .mk fun A s a ok lk => by
  refine wpAny_Subscript_list_slice (we_then h a ok lk fun v x h₁ tk₁ σ₁ hv st₁ ok₁ lk₁ q₁ => ?_) ht
  refine wpAny_evalPart_some (we_then q₁ a ok₁ lk₁ fun u y h₂ tk₂ σ₂ hu st₂ ok₂ lk₂ q₂ => ?_)
  rw [evalPart_none]
  obtain ⟨l, xs, k, rfl, hl, hsz, rfl, q⟩ := q₂
  cases hv
  cases hu with | int _ tt =>
  obtain ⟨its, il, hvs⟩ := hl.isList ok₂
  refine wpAny_pure ⟨l, its.toArray, _, _, rfl, il, by rw [List.size_toArray, hvs.length]; exact hsz, .int _ _, .none, ?_⟩
  have kp : ∀ b o, h₂.get? b = some o → ((h₂.push { cls := .type "slice", data := .fields #[.int (k : Int) tt, .none, .none] }).push { cls := .type "list", data := .seq (slicePick its.toArray (some (k : Int)) none none) }).get? b = some o := fun b o e => Heap.get?_push_of_some _ (Heap.get?_push_of_some _ e)
  have nw := ok₂.new kp (a := h₂.objs.size + 1) (xs := xs.drop k) (get_ge_none _ _ (Nat.le_succ _)) ⟨its.drop k, ⟨0, by
    rw [slicePick_from']
    have := Heap.get?_push_size (h₂.push { cls := .type "slice", data := .fields #[.int (k : Int) tt, .none, .none] }) (o := { cls := .type "list", data := .seq (its.toArray.toList.drop k).toArray }) rfl
    rw [Heap.size_push] at this
    exact this⟩, hvs.drop k⟩
  exact ⟨_, _, _, _, rfl, .ref _, (st₁.trans st₂).trans nw.2.1, nw.1, q _ nw.2.2⟩
theorem we_slice_upto {value hi : Expr} {p pos : Pos} (h : WE prog w h₀ d env m value σ fun x σ₁ => WE prog w h₀ d env m hi σ₁ fun y σ₂ => ∃ l xs k, x = .ref l ∧ RdL h₀ σ₂ l xs ∧ xs.length ≤ sizeLine ∧ y = .int ((k : Nat) : Int) ∧ ∀ a, σ₂ a = none → Q (.ref a) (upd σ₂ a (.list (xs.take k))))
    (ht : ∀ o r, letTemporaryGo value o r = pure ()) : WE prog w h₀ d env m (.Subscript value (.Slice none (some hi) none p) pos) σ Q := .mk fun A s a ok lk => by
  refine wpAny_Subscript_list_slice (we_then h a ok lk fun v x h₁ tk₁ σ₁ hv st₁ ok₁ lk₁ q₁ => ?_) ht
  rw [evalPart_none]
  refine wpAny_pure (wpAny_evalPart_some (we_then q₁ a ok₁ lk₁ fun u y h₂ tk₂ σ₂ hu st₂ ok₂ lk₂ q₂ => ?_))
  obtain ⟨l, xs, k, rfl, hl, hsz, rfl, q⟩ := q₂
  cases hv
  cases hu with | int _ tt =>
  obtain ⟨its, il, hvs⟩ := hl.isList ok₂
  refine ⟨l, its.toArray, _, _, rfl, il, by rw [List.size_toArray, hvs.length]; exact hsz, .none, .int _ _, ?_⟩
  have kp : ∀ b o, h₂.get? b = some o → ((h₂.push { cls := .type "slice", data := .fields #[.none, .int (k : Int) tt, .none] }).push { cls := .type "list", data := .seq (slicePick its.toArray none (some (k : Int)) none) }).get? b = some o := fun b o e => Heap.get?_push_of_some _ (Heap.get?_push_of_some _ e)
  have nw := ok₂.new kp (a := h₂.objs.size + 1) (xs := xs.take k) (get_ge_none _ _ (Nat.le_succ _)) ⟨its.take k, ⟨0, by
    rw [slicePick_upto']
    have := Heap.get?_push_size (h₂.push { cls := .type "slice", data := .fields #[.none, .int (k : Int) tt, .none] }) (o := { cls := .type "list", data := .seq (its.toArray.toList.take k).toArray }) rfl
    rw [Heap.size_push] at this
    exact this⟩, hvs.take k⟩
  exact ⟨_, _, _, _, rfl, .ref _, (st₁.trans st₂).trans nw.2.1, nw.1, q _ nw.2.2⟩
theorem we_subR {value slice : Expr} {pos : Pos} (h : WE prog w h₀ d env m value σ fun x σ₁ => WE prog w h₀ d env m slice σ₁ fun y σ₂ => ∃ l xs k v, x = .ref l ∧ RdL h₀ σ₂ l xs ∧ y = .int ((k : Nat) : Int) ∧ k < 1000000000000 ∧ xs[k]? = some v ∧ Q v σ₂)
    (hs : ∀ o i, subscripted slice false o i = operate [o, i] (getItem o i)) : WE prog w h₀ d env m (.Subscript value slice pos) σ Q := .mk fun A s a ok lk => by
  refine Subscript_ (we_then h a ok lk fun ov x h₁ tk₁ σ₁ hov st₁ ok₁ lk₁ q₁ => ?_)
  refine we_then q₁ a ok₁ lk₁ fun iv y h₂ tk₂ σ₂ hiv st₂ ok₂ lk₂ q₂ => ?_
  obtain ⟨l, xs, k, v, rfl, hl, rfl, hk, e, q⟩ := q₂
  cases hov; cases hiv
  obtain ⟨its, il, hvs⟩ := hl.isList ok₂
  obtain ⟨val, e1, hr⟩ := hvs.get _ _ e
  exact tail_any il.typeIs slot_list_getitem.lookup (wpAny_getItem_list il (by omega) (by omega) (by simpa using e1) ⟨v, h₂, tk₂, σ₂, rfl, hr, st₁.trans st₂, ok₂, q⟩) (hs _ _)
end
end Mine
end
section
open PySem PySem.W PySem.Calls PyProof.Rows
set_option autoImplicit false
namespace Mine
/-! ## the shapes that the walk sees -/
section
variable (prog : Program) (w : World) (h₀ : Heap) (d : Nat) (env : Env)
def Seq (rest : List Stmt) (Q : Fl → Loc → Store → Prop) : Fl → Loc → Store → Prop
  | .next, m, σ => WS prog w h₀ d env m rest σ Q
  | .brk, m, σ => Q .brk m σ
  | .cont, m, σ => Q .cont m σ
  | .ret v, m, σ => Q (.ret v) m σ
end
def WhQ (I : Loc → Store → Prop) (Q : Fl → Loc → Store → Prop) : Fl → Loc → Store → Prop
  | .next, m, σ => I m σ
  | .cont, m, σ => I m σ
  | .brk, m, σ => Q .next m σ
  | .ret v, m, σ => Q (.ret v) m σ
def RetQ (Q : V → Store → Prop) : Fl → Loc → Store → Prop
  | .ret v, _, σ => Q v σ
  | _, _, σ => Q .none σ
def BoolQ (Q : Bool → Store → Prop) (z : V) (σ : Store) : Prop := ∃ b, z = .bool b ∧ Q b σ
def ItemQ (x y : V) (Q : V → Store → Prop) (σ : Store) : Prop := ∃ v, itemV σ x y = some v ∧ Q v σ
section
variable {prog : Program} {w : World} {h₀ : Heap} {d : Nat} {env : Env} {m : Loc} {σ : Store} {Q : Fl → Loc → Store → Prop} {rest : List Stmt} {I : Loc → Store → Prop} {R : V → Store → Prop}
theorem seq_next (h : WS prog w h₀ d env m rest σ Q) : Seq prog w h₀ d env rest Q .next m σ := h
theorem seq_brk (h : Q .brk m σ) : Seq prog w h₀ d env rest Q .brk m σ := h
theorem seq_cont (h : Q .cont m σ) : Seq prog w h₀ d env rest Q .cont m σ := h
theorem seq_ret {v : V} (h : Q (.ret v) m σ) : Seq prog w h₀ d env rest Q (.ret v) m σ := h
theorem whq_next (h : I m σ) : WhQ I Q .next m σ := h
theorem whq_cont (h : I m σ) : WhQ I Q .cont m σ := h
theorem whq_brk (h : Q .next m σ) : WhQ I Q .brk m σ := h
theorem whq_ret {v : V} (h : Q (.ret v) m σ) : WhQ I Q (.ret v) m σ := h
theorem retq_next (h : R .none σ) : RetQ R .next m σ := h
theorem retq_ret {v : V} (h : R v σ) : RetQ R (.ret v) m σ := h
theorem boolq {P : Bool → Store → Prop} {b : Bool} (h : P b σ) : BoolQ P (.bool b) σ := ⟨b, rfl, h⟩
theorem WX.mono {st : Stmt} {Q' : Fl → Loc → Store → Prop} (h : WX prog w h₀ d env m st σ Q) (k : ∀ f m' σ', Q f m' σ' → Q' f m' σ') : WX prog w h₀ d env m st σ Q' :=
  .mk fun A s a ok lk => wpAny_mono (h.run A s a ok lk) (fun _ _ ⟨x, h', tk, σ', m', e, hv, st, ok', lk', q⟩ => ⟨x, h', tk, σ', m', e, hv, st, ok', lk', k _ _ _ q⟩) fun _ _ z => z
theorem ws_seq {st : Stmt} (h : WX prog w h₀ d env m st σ (Seq prog w h₀ d env rest Q)) : WS prog w h₀ d env m (st :: rest) σ Q :=
  ws_cons (h.mono fun f m' σ' q => by cases f <;> exact q)
theorem we_item {value slice : Expr} {pos : Pos} {R : V → Store → Prop} (h : WE prog w h₀ d env m value σ fun x σ₁ => WE prog w h₀ d env m slice σ₁ fun y σ₂ => ItemQ x y R σ₂)
    (hs : ∀ o i, subscripted slice false o i = operate [o, i] (getItem o i)) : WE prog w h₀ d env m (.Subscript value slice pos) σ R := we_sub h hs
theorem wb_cmpB {l r : Expr} {op : CmpOp} {pos : Pos} {P : Bool → Store → Prop} (h : WE prog w h₀ d env m l σ fun x σ₁ => WE prog w h₀ d env m r σ₁ fun y σ₂ => WCmp prog w h₀ d op x y σ₂ (BoolQ P))
    (hm : behindInMarks op r = false) : WB prog w h₀ d env m (.Compare l [op] [r] pos) σ P := wb_cmp h hm
end

section
variable {prog : Program} {w : World} {h₀ : Heap} {d : Nat} {σ : Store} {mg mb : Str → Option Value} {Q : V → Store → Prop}
/-- a call of a def of the written part -/
theorem wcall_K {K : Frag} (G : Glo h₀ mg mb) (X : K.In h₀) {f : Addr} {name qual : Str} {params : Arguments} {body : List Stmt} {scope : Scope} {dV kV doc pm cdv ct oc : Value} {an od : Option Addr} {osl : Array (Option Value)} {xs : List V}
    (ho : K.lookup f = some ⟨oc, od, .func (fnOf name qual params body scope dV kV doc pm an cdv ct), osl⟩) (hcd : codeIn K cdv qual = true)
    (hlen : xs.length = (params.args.map (·.arg)).length)
    (hbind : ∀ vs : List Value, vs.length = (params.args.map (·.arg)).length → bindArgs (fnOf name qual params body scope dV kV doc pm an cdv ct) ⟨vs, []⟩ = pure ((params.args.map (·.arg)).zip vs))
    (hnd : (params.args.map (·.arg)).Nodup) (hkinds : ∀ x ∈ params.args.map (·.arg), scope.names.lookup x = some .local ∨ scope.names.lookup x = some .cell)
    (hco : scope.isCoroutine = false) (hgen : scope.isGenerator = false) (hk : scope.kind = .function)
    (h : ∀ L, WS prog w h₀ d (callEnvC (fnOf name qual params body scope dV kV doc pm an cdv ct) L f) ((params.args.map (·.arg)).zip xs) body σ (RetQ Q)) :
    WCall prog w h₀ (d + 1) (.ref f) xs σ Q :=
  wcall_def G ⟨⟨_, X _ _ ho, rfl⟩, codeRec_of X hcd, rfl, hbind, rfl, hnd, hkinds, rfl, rfl, hco, hgen, hk⟩ hlen fun L => (h L).mono fun f m' σ' z => by cases f <;> exact z
theorem callable_K {K : Frag} (X : K.In h₀) {f : Addr} {fd : FuncData} {oc : Value} {od : Option Addr} {osl : Array (Option Value)} (ho : K.lookup f = some ⟨oc, od, .func fd, osl⟩) : Callable h₀ (.ref f) := .fn (X _ _ ho) rfl
theorem gname_K {K : Frag} (G : Glo h₀ mg mb) (X : K.In h₀) {x : Str} {v : Value} (e : nsIn K mainGlobals x = some (some v)) : GName mg mb x v := .inl (mg_of X G.g e)
theorem gname_B {K : Frag} (G : Glo h₀ mg mb) (X : K.In h₀) (hb : ∀ x : Str, x ≠ "__name__" → mb x = bootBuiltins x) {x : Str} {v : Value} (e : nsIn K mainGlobals x = some none) (hv : bootBuiltins x = some v) (hn : x ≠ "__name__") : GName mg mb x v :=
  .inr ⟨mg_none_of X G.g e, (hb x hn).trans hv⟩
end

/-! ## loops with a written state -/
def Has (m m' : Loc) : Prop := ∀ p ∈ m', m.lookup p.1 = some p.2
theorem Has.nil {m : Loc} : Has m [] := fun _ h => nomatch h
theorem Has.cons {m m' : Loc} {x : Str} {v : V} (e : m.lookup x = some v) (h : Has m m') : Has m ((x, v) :: m') := fun p hp => by
  rcases List.mem_cons.mp hp with rfl | hp
  · exact e
  · exact h p hp
theorem Has.look {h₀ : Heap} {env : Env} {h : Heap} {σ : Store} {m m' : Loc} (x : Has m m') (lk : Look h₀ env h σ m) : Look h₀ env h σ m' := lk.weaken fun y v e => x _ (mem_of_lookup e)
section
variable {prog : Program} {w : World} {h₀ : Heap} {d : Nat} {env : Env} {m : Loc} {σ : Store} {Q : Fl → Loc → Store → Prop}
theorem WS.has {b : List Stmt} {m' : Loc} (x : Has m m') (h : WS prog w h₀ d env m' b σ Q) : WS prog w h₀ d env m b σ Q := .mk fun A s a ok lk => h.run A s a ok (x.look lk)
theorem WB.has {e : Expr} {m' : Loc} {Q : Bool → Store → Prop} (x : Has m m') (h : WB prog w h₀ d env m' e σ Q) : WB prog w h₀ d env m e σ Q := .mk fun A s a ok lk => h.run A s a ok (x.look lk)
/-- an if whose ways meet -/
def JoinQ (J : Loc → Store → Prop) : Fl → Loc → Store → Prop
  | .next, m, σ => J m σ
  | _, _, _ => False
theorem joinq {J : Loc → Store → Prop} (h : J m σ) : JoinQ J .next m σ := h
theorem wx_if_join {J : Loc → Store → Prop} {t : Expr} {b o : List Stmt} {pos : Pos} (h : WB prog w h₀ d env m t σ fun c σ₁ => if c then WS prog w h₀ d env m b σ₁ (JoinQ J) else WS prog w h₀ d env m o σ₁ (JoinQ J)) (k : ∀ m' σ', J m' σ' → Q .next m' σ') :
    WX prog w h₀ d env m (.If t b o pos) σ Q := by
  refine wx_if <| .mk fun A s ra ok lk => wpAny_mono (h.run A s ra ok lk) (fun c s' ⟨h', tk, σ', e, st, ok', q⟩ => ⟨h', tk, σ', e, st, ok', ?_⟩) fun _ _ z => z
  have key : ∀ {bb : List Stmt}, WS prog w h₀ d env m bb σ' (JoinQ J) → WS prog w h₀ d env m bb σ' Q := fun z => z.mono fun f m' σ' y => by
    cases f with
    | next => exact k m' σ' y
    | _ => exact absurd y (fun z => z)
  cases c with
  | true => simp only [if_true] at q ⊢; exact key q
  | false => simp only [Bool.false_eq_true, if_false] at q ⊢; exact key q
theorem wx_whileL {t : Expr} {b : List Stmt} {pos : Pos} {α : Type} (M : α → Loc) (Inv : α → Store → Prop) (μ : α → Nat) (a₀ : α) (hm : Has m (M a₀)) (hi : Inv a₀ σ)
    (turn : ∀ a σ₁, Inv a σ₁ → WB prog w h₀ d env (M a) t σ₁ fun c σ₂ => if c then WS prog w h₀ d env (M a) b σ₂ (WhQ (fun m₃ σ₃ => ∃ a', μ a' < μ a ∧ Has m₃ (M a') ∧ Inv a' σ₃) Q) else ∀ m', Has m' (M a) → Q .next m' σ₂) :
    WX prog w h₀ d env m (.While t b [] pos) σ Q := by
  refine wx_while (fun a m₁ σ₁ => Has m₁ (M a) ∧ Inv a σ₁) μ a₀ ⟨hm, hi⟩ fun a m₁ σ₁ ⟨h1, h2⟩ => ?_
  refine WB.has h1 <| .mk fun A s ra ok lk => wpAny_mono ((turn a σ₁ h2).run A s ra ok lk) (fun c s' ⟨h', tk, σ', e, st, ok', q⟩ => ⟨h', tk, σ', e, st, ok', ?_⟩) fun _ _ z => z
  cases c with
  | true => simp only [if_true] at q ⊢; exact WS.has h1 (q.mono fun f m' σ' z => by cases f <;> exact z)
  | false => simp only [Bool.false_eq_true, if_false] at q ⊢; exact q m₁ h1
/-- a for whose turns keep the names M -/
theorem wx_forL {t : Expr} {pos : Pos} {iter : Expr} {body : List Stmt}
    (h : WI prog w h₀ d env m iter σ fun xs C σ₁ => ∃ (M : Nat → Loc) (Inv : Nat → Store → Prop), Has m (M 0) ∧ Inv 0 σ₁ ∧ (∀ i σ₂, Inv i σ₂ → C σ₂) ∧
      (∀ i v σ₂, xs[i]? = some v → Inv i σ₂ → ∃ m₂', WAsg prog w h₀ d env t v (M i) m₂' σ₂ ∧ WS prog w h₀ d env m₂' body σ₂ (WhQ (fun m₃ σ₃ => Has m₃ (M (i + 1)) ∧ Inv (i + 1) σ₃) Q)) ∧ ∀ m₂ σ₂, Has m₂ (M xs.length) → Inv xs.length σ₂ → Q .next m₂ σ₂)
    (hs : ∀ v, foldedSetIterable iter env v = pure v) : WX prog w h₀ d env m (.For t iter body [] pos) σ Q := by
  refine wx_for (.mk fun A s a ok lk => wpAny_mono (h.run A s a ok lk) (fun xv s₁ p => wpAny_mono p (fun it s₂ p => ?_) fun _ _ z => z) fun _ _ z => z) hs
  obtain ⟨I, h₁, tk₁, σ₁, xs, It, C, e1, e2, st₁, ok₁, hI, hfr, W, it₀, M, Inv, hm, i0, iC, turn, fin⟩ := p
  refine ⟨I, h₁, tk₁, σ₁, xs, It, C, e1, e2, st₁, ok₁, hI, hfr, W, it₀, fun i m₂ σ₂ => Has m₂ (M i) ∧ Inv i σ₂, ⟨hm, i0⟩, fun i m₂ σ₂ z => iC i σ₂ z.2, fun i v m₂ σ₂ hv ⟨h1, h2⟩ => ?_, fun m₂ σ₂ ⟨h1, h2⟩ => fin m₂ σ₂ h1 h2⟩
  obtain ⟨m₂', asg, b⟩ := turn i v σ₂ hv h2
  exact ⟨m₂', .mk fun A s val K E ra ok lk hv k => asg.run A s val K E ra ok (h1.look lk) hv k, b.mono fun f m' σ' z => by cases f <;> exact z⟩
end

/-! ## the items of a heap -/
structure It where
  ad : Addr
  h : Int
  p : Int
def It.lt (x y : It) : Bool := pairLt x.h x.p y.h y.p
def refs (xs : List It) : List V := xs.map fun x => V.ref x.ad
def noIt : It := ⟨0, 0, 0⟩

/-! ## the plain functions -/
def sdGo (start : Nat) (x : It) (pos : Nat) (xs : List It) : List It :=
  if h : start < pos then
    let pp := (pos - 1) / 2
    let p := xs.getD pp noIt
    if It.lt x p then sdGo start x pp (xs.set pos p) else xs.set pos x
  else xs.set pos x
termination_by pos
decreasing_by omega
def siftdown (xs : List It) (start pos : Nat) : List It := sdGo start (xs.getD pos noIt) pos xs
/-- the child that moves up -/
def child (xs : List It) (pos : Nat) : Nat :=
  if 2 * pos + 2 < xs.length ∧ It.lt (xs.getD (2 * pos + 1) noIt) (xs.getD (2 * pos + 2) noIt) = false then 2 * pos + 2 else 2 * pos + 1
def suGo (pos : Nat) (xs : List It) : List It × Nat :=
  if h : 2 * pos + 1 < xs.length then suGo (child xs pos) (xs.set pos (xs.getD (child xs pos) noIt)) else (xs, pos)
termination_by xs.length - pos
decreasing_by
  simp only [List.length_set]
  unfold child
  split <;> omega
def siftup (xs : List It) (pos : Nat) : List It :=
  let r := suGo pos xs
  siftdown (r.1.set r.2 (xs.getD pos noIt)) pos r.2
theorem sdGo_length (start : Nat) (x : It) (pos : Nat) (xs : List It) : (sdGo start x pos xs).length = xs.length := by
  fun_induction sdGo start x pos xs <;> simp_all
theorem siftdown_length (xs : List It) (start pos : Nat) : (siftdown xs start pos).length = xs.length := sdGo_length ..
theorem suGo_length (pos : Nat) (xs : List It) : (suGo pos xs).1.length = xs.length := by
  fun_induction suGo pos xs <;> simp_all
theorem siftup_length (xs : List It) (pos : Nat) : (siftup xs pos).length = xs.length := by
  unfold siftup; simp [siftdown_length, suGo_length]

theorem upd_self {σ : Store} {l : Addr} {o : O} (h : σ l = some o) : upd σ l o = σ := by
  funext b; unfold upd; split
  · rename_i e; rw [e, h]
  · rfl
theorem upd_upd (σ : Store) (l : Addr) (o o' : O) : upd (upd σ l o) l o' = upd σ l o' := by
  funext b; unfold upd; split <;> rfl
theorem refs_get {xs : List It} {i : Nat} (h : i < xs.length) : (refs xs)[i]? = some (.ref (xs.getD i noIt).ad) := by
  simp [refs, h]
theorem refs_length (xs : List It) : (refs xs).length = xs.length := by simp [refs]
theorem refs_set (xs : List It) (i : Nat) (x : It) : (refs xs).set i (.ref x.ad) = refs (xs.set i x) := by simp [refs, List.map_set]
theorem item_list {σ : Store} {l : Addr} {vs : List V} {i : Nat} {v : V} (hl : σ l = some (.list vs)) (hv : vs[i]? = some v) (hlen : vs.length < 1000000000) : itemV σ (.ref l) (.int (i : Nat)) = some v := by
  have hi := (List.getElem?_eq_some_iff.mp hv).1
  unfold itemV
  simp only [hl, Int.toNat_natCast]
  rw [if_pos ⟨by omega, by omega⟩, hv]
theorem item_refs {σ : Store} {l : Addr} {xs : List It} {i : Nat} (hl : σ l = some (.list (refs xs))) (hi : i < xs.length) (hlen : xs.length < 1000000) : itemV σ (.ref l) (.int (i : Nat)) = some (.ref (xs.getD i noIt).ad) :=
  item_list hl (refs_get hi) (by rw [refs_length]; omega)
theorem getD_mem' {xs : List It} {i : Nat} (h : i < xs.length) : xs.getD i noIt ∈ xs := by
  rw [List.getD_eq_getElem?_getD, List.getElem?_eq_getElem h]; exact List.getElem_mem h
theorem mem_set' {xs : List It} {i : Nat} {x y : It} (h : y ∈ xs.set i x) : y ∈ xs ∨ y = x := List.mem_or_eq_of_mem_set h
theorem par_eq {p : Nat} (h : 0 < p) : ((p : Int) - 1).fdiv (2 ^ (1 : Int).toNat) = (((p - 1) / 2 : Nat) : Int) := by
  have e : (2 ^ (1 : Int).toNat : Int) = 2 := rfl
  rw [e, Int.fdiv_eq_ediv_of_nonneg _ (by decide)]; omega
theorem mul_ok2 (k : Int) : IntMulOk 2 k := IntMulOk.of_left (intBits_le_64 (by decide) (by decide))
end Mine
end
section
set_option autoImplicit false
namespace Mine
/-! ## the order -/
def It.le (x y : It) : Prop := It.lt y x = false
theorem It.lt_iff (x y : It) : It.lt x y = true ↔ (x.h < y.h ∨ x.h = y.h ∧ x.p < y.p) := by unfold It.lt pairLt; exact decide_eq_true_iff
theorem It.le_iff (x y : It) : It.le x y ↔ (x.h < y.h ∨ x.h = y.h ∧ x.p ≤ y.p) := by
  unfold It.le It.lt pairLt; rw [decide_eq_false_iff_not]; omega
theorem It.le_refl (x : It) : It.le x x := by rw [It.le_iff]; omega
theorem It.le_trans {x y z : It} (h1 : It.le x y) (h2 : It.le y z) : It.le x z := by rw [It.le_iff] at *; omega
theorem It.le_of_lt {x y : It} (h : It.lt x y = true) : It.le x y := by rw [It.le_iff]; rw [It.lt_iff] at h; omega
theorem It.le_total (x y : It) : It.le x y ∨ It.le y x := by rw [It.le_iff, It.le_iff]; omega

def nth (xs : List It) (i : Nat) : It := xs.getD i noIt
theorem nth_set {xs : List It} {i j : Nat} {x : It} (h : i < xs.length) : nth (xs.set i x) j = if i = j then x else nth xs j := by
  unfold nth
  rw [List.getD_eq_getElem?_getD, List.getD_eq_getElem?_getD, List.getElem?_set]
  by_cases e : i = j
  · subst e; simp [h]
  · simp [e]
theorem nth_eq {xs : List It} {i : Nat} (h : i < xs.length) : nth xs i = xs[i] := by
  unfold nth; rw [List.getD_eq_getElem?_getD, List.getElem?_eq_getElem h]; rfl
def par (i : Nat) : Nat := (i - 1) / 2

/-! ## permutations -/
theorem swap_perm {xs : List It} {i j : Nat} {x : It} (hi : i < xs.length) (hj : j < xs.length) (hij : i ≠ j) : ((xs.set i (nth xs j)).set j x).Perm (xs.set i x) := by
  have h := List.set_set_perm (as := xs.set i x) (i := i) (j := j) (by simpa using hi) (by simpa using hj)
  rw [List.getElem_set_self, List.getElem_set_ne hij, List.set_set] at h
  rw [nth_eq hj]
  exact h
theorem sdGo_perm (start : Nat) (x : It) (pos : Nat) (xs : List It) (hp : pos < xs.length) : (sdGo start x pos xs).Perm (xs.set pos x) := by
  fun_induction sdGo start x pos xs with
  | case1 pos xs h pp p hlt ih =>
    refine (ih (by simp; omega)).trans ?_
    exact swap_perm hp (by omega) (by omega)
  | case2 => exact .refl _
  | case3 => exact .refl _
theorem siftdown_perm {xs : List It} {start pos : Nat} (hp : pos < xs.length) : (siftdown xs start pos).Perm xs := by
  unfold siftdown
  refine (sdGo_perm _ _ _ _ hp).trans ?_
  have : xs.set pos (xs.getD pos noIt) = xs := by
    rw [show xs.getD pos noIt = xs[pos] from nth_eq hp, List.set_getElem_self]
  rw [this]
theorem child_bounds {xs : List It} {pos : Nat} (h : 2 * pos + 1 < xs.length) : pos < child xs pos ∧ child xs pos < xs.length ∧ par (child xs pos) = pos := by
  unfold child par; split <;> omega
theorem suGo_perm (pos : Nat) (xs : List It) (hp : pos < xs.length) : (suGo pos xs).2 < xs.length ∧ ∀ x, ((suGo pos xs).1.set (suGo pos xs).2 x).Perm (xs.set pos x) := by
  fun_induction suGo pos xs with
  | case1 pos xs h ih =>
    have hc := child_bounds h
    obtain ⟨h1, h2⟩ := ih (by simpa using hc.2.1)
    refine ⟨by simpa using h1, fun x => (h2 x).trans ?_⟩
    exact swap_perm hp hc.2.1 (by omega)
  | case2 pos xs h => exact ⟨hp, fun x => .refl _⟩
theorem siftup_perm {xs : List It} {pos : Nat} (hp : pos < xs.length) : (siftup xs pos).Perm xs := by
  unfold siftup
  obtain ⟨h1, h2⟩ := suGo_perm pos xs hp
  refine (siftdown_perm (by rw [List.length_set, suGo_length]; exact h1)).trans ((h2 _).trans ?_)
  rw [show xs.getD pos noIt = xs[pos] from nth_eq hp, List.set_getElem_self]

/-! ## heaps -/
def Ord (start : Nat) (xs : List It) : Prop := ∀ i, 0 < i → i < xs.length → start ≤ par i → It.le (nth xs (par i)) (nth xs i)
inductive Desc (s : Nat) : Nat → Prop where
  | here : Desc s s
  | down {c : Nat} : 0 < c → Desc s (par c) → Desc s c
theorem Desc.le {s p : Nat} (h : Desc s p) : s ≤ p := by
  induction h with
  | here => exact Nat.le_refl _
  | down h1 h2 ih => unfold par at ih; omega
theorem Desc.up {s p : Nat} (h : Desc s p) (hlt : s < p) : Desc s (par p) := by
  cases h with
  | here => exact absurd hlt (Nat.lt_irrefl _)
  | down _ h => exact h
theorem Desc.zero (p : Nat) : Desc 0 p := by
  induction p using Nat.strongRecOn with
  | ind p ih =>
    cases p with
    | zero => exact .here
    | succ p => exact .down (Nat.succ_pos _) (ih _ (by unfold par; omega))

theorem sdGo_ord (start : Nat) (x : It) (pos : Nat) (xs : List It) (hp : pos < xs.length) (hd : Desc start pos)
    (ha : ∀ i, 0 < i → i < xs.length → start ≤ par i → i ≠ pos → It.le (nth (xs.set pos x) (par i)) (nth (xs.set pos x) i))
    (hb : ∀ i, 0 < i → i < xs.length → par i = pos → start < pos → It.le (nth xs (par pos)) (nth xs i)) : Ord start (sdGo start x pos xs) := by
  fun_induction sdGo start x pos xs with
  | case1 pos xs h pp p hlt ih =>
    have hpp : pp = par pos := rfl
    have hp' : p = nth xs pp := rfl
    have hppl : pp < xs.length := by omega
    have hpne : pos ≠ pp := by omega
    have hlt' := It.le_of_lt hlt
    have hd' := hd.up h
    have hsp : start ≤ pp := hd'.le
    -- the old edges, told by the old list
    have old : ∀ i, 0 < i → i < xs.length → start ≤ par i → i ≠ pos → par i ≠ pos → It.le (nth xs (par i)) (nth xs i) := fun i h0 h1 h2 h3 h4 => by
      have := ha i h0 h1 h2 h3
      rwa [nth_set hp, nth_set hp, if_neg (Ne.symm h4), if_neg (Ne.symm h3)] at this
    have hpp0 : ∀ i, par i = pp → i ≠ pos → 0 < i → i < xs.length → It.le p (nth xs i) := fun i e hi h0 h1 => by
      rw [hp', ← e]; exact old i h0 h1 (by omega) hi (by omega)
    refine ih (by simpa using hppl) hd' (fun i h0 h1 h2 h3 => ?_) (fun i h0 h1 h2 h3 => ?_)
    · simp only [List.length_set] at h1
      have n2 : ∀ j, nth ((xs.set pos p).set pp x) j = if pp = j then x else if pos = j then p else nth xs j := fun j => by
        rw [nth_set (by simpa using hppl), nth_set hp]
      rw [n2, n2]
      have hip : ¬ pp = i := Ne.symm h3
      rw [if_neg hip]
      by_cases e1 : pos = i
      · subst e1
        rw [if_pos rfl, if_pos hpp]
        exact hlt'
      · rw [if_neg e1]
        by_cases e2 : pp = par i
        · rw [if_pos e2]; exact It.le_trans hlt' (hpp0 i e2.symm (Ne.symm e1) h0 h1)
        · rw [if_neg e2]
          by_cases e3 : pos = par i
          · rw [if_pos e3, hp']; exact hb i h0 h1 e3.symm h
          · rw [if_neg e3]; exact old i h0 h1 h2 (Ne.symm e1) (Ne.symm e3)
    · simp only [List.length_set] at h1
      have hpp_pos : 0 < pp := by omega
      have hparpp : par pp < pp := by unfold par; omega
      have edge : It.le (nth xs (par pp)) p := by
        rw [hp']
        exact old pp hpp_pos hppl (hd'.up h3).le (Ne.symm hpne) (by omega)
      rw [nth_set hp, nth_set hp, if_neg (by omega)]
      by_cases e1 : pos = i
      · rw [if_pos e1]; exact edge
      · rw [if_neg e1]; exact It.le_trans edge (hpp0 i h2 (Ne.symm e1) h0 h1)
  | case2 pos xs h pp p hlt =>
    intro i h0 h1 h2
    simp only [List.length_set] at h1
    by_cases e : i = pos
    · subst e
      rw [nth_set hp, nth_set hp, if_pos rfl, if_neg (by unfold par; omega)]
      exact (by simpa using hlt : It.lt x p = false)
    · exact ha i h0 h1 h2 e
  | case3 pos xs h =>
    intro i h0 h1 h2
    simp only [List.length_set] at h1
    by_cases e : i = pos
    · subst e
      have := hd.le
      unfold par at h2
      omega
    · exact ha i h0 h1 h2 e

theorem suGo_ord (start pos : Nat) (xs : List It) (hp : pos < xs.length) (hd : Desc start pos)
    (hA : ∀ i, 0 < i → i < xs.length → start ≤ par i → par i ≠ pos → i ≠ pos → It.le (nth xs (par i)) (nth xs i))
    (hB : ∀ i, 0 < i → i < xs.length → par i = pos → start < pos → It.le (nth xs (par pos)) (nth xs i)) :
    (suGo pos xs).2 < xs.length ∧ Desc start (suGo pos xs).2 ∧ ¬ 2 * (suGo pos xs).2 + 1 < xs.length ∧
      ∀ i, 0 < i → i < xs.length → start ≤ par i → i ≠ (suGo pos xs).2 → It.le (nth (suGo pos xs).1 (par i)) (nth (suGo pos xs).1 i) := by
  fun_induction suGo pos xs with
  | case1 pos xs h ih =>
    have hc := child_bounds h
    generalize hce : child xs pos = c at hc ih ⊢
    have hmin : ∀ i, 0 < i → i < xs.length → par i = pos → It.le (nth xs c) (nth xs i) := by
      intro i h0 h1 h2
      have hi : i = 2 * pos + 1 ∨ i = 2 * pos + 2 := by unfold par at h2; omega
      rw [← hce]; unfold child
      split
      · rename_i hh
        rcases hi with rfl | rfl
        · exact hh.2
        · exact It.le_refl _
      · rename_i hh
        rcases hi with rfl | rfl
        · exact It.le_refl _
        · have : It.lt (nth xs (2 * pos + 1)) (nth xs (2 * pos + 2)) ≠ false := fun z => hh ⟨h1, z⟩
          exact It.le_of_lt (by simpa using this)
    have := ih (by simpa using hc.2.1) (.down (by omega) (by rw [hc.2.2]; exact hd)) (fun i h0 h1 h2 h3 h4 => ?_) (fun i h0 h1 h2 h3 => ?_)
    · simpa using this
    · simp only [List.length_set] at h1
      have e0 : (xs.getD c noIt) = nth xs c := rfl
      rw [e0, nth_set hp, nth_set hp]
      by_cases e1 : pos = i
      · rw [if_pos e1, if_neg (by subst e1; unfold par; omega)]
        subst e1
        have hsl : start < pos := by unfold par at h2; omega
        exact hB c (by omega) hc.2.1 hc.2.2 hsl
      · rw [if_neg e1]
        by_cases e2 : pos = par i
        · rw [if_pos e2]; exact hmin i h0 h1 e2.symm
        · rw [if_neg e2]; exact hA i h0 h1 h2 (Ne.symm e2) (Ne.symm e1)
    · simp only [List.length_set] at h1
      have e0 : (xs.getD c noIt) = nth xs c := rfl
      rw [e0, hc.2.2, nth_set hp, nth_set hp, if_pos rfl, if_neg (by unfold par at h2; omega)]
      have hle := hd.le
      have := hA i h0 h1 (by omega) (by omega) (by unfold par at h2; omega)
      rw [h2] at this
      exact this
  | case2 pos xs h =>
    refine ⟨hp, hd, h, fun i h0 h1 h2 h3 => ?_⟩
    exact hA i h0 h1 h2 (by unfold par; omega) h3

theorem siftup_ord {xs : List It} {pos : Nat} (hp : pos < xs.length) (h : Ord (pos + 1) xs) : Ord pos (siftup xs pos) := by
  unfold siftup siftdown
  obtain ⟨h1, h2, h3, h4⟩ := suGo_ord pos pos xs hp .here (fun i h0 h1 h2 h3 h4 => h i h0 h1 (by omega)) (fun i _ _ _ h => absurd h (Nat.lt_irrefl _))
  have hl := suGo_length pos xs
  generalize suGo pos xs = r at h1 h2 h3 h4 hl
  obtain ⟨ys, p⟩ := r
  dsimp only at h1 h2 h3 h4 hl ⊢
  have hset : ∀ x, (ys.set p x).set p ((ys.set p x).getD p noIt) = ys.set p x := fun x => by
    have : (ys.set p x).getD p noIt = x := by
      show nth (ys.set p x) p = x
      rw [nth_set (by omega), if_pos rfl]
    rw [this, List.set_set]
  refine sdGo_ord _ _ _ _ (by simp; omega) h2 (fun i h0 hi hs hne => ?_) (fun i h0 hi hs _ => ?_)
  · rw [hset]
    simp only [List.length_set] at hi
    rw [nth_set (by omega), nth_set (by omega), if_neg (by unfold par; omega), if_neg (Ne.symm hne)]
    exact h4 i h0 (by omega) hs hne
  · simp only [List.length_set] at hi
    unfold par at hs; omega

def hfGo : Nat → List It → List It
  | 0, xs => xs
  | k + 1, xs => hfGo k (siftup xs k)
theorem hfGo_spec : ∀ (k : Nat) (xs : List It), 2 * k ≤ xs.length → Ord k xs → (hfGo k xs).Perm xs ∧ Ord 0 (hfGo k xs)
  | 0, xs, _, h => ⟨.refl _, h⟩
  | k + 1, xs, hk, h => by
    have hlt : k < xs.length := by omega
    obtain ⟨h1, h2⟩ := hfGo_spec k (siftup xs k) (by rw [siftup_length]; omega) (siftup_ord hlt h)
    exact ⟨h1.trans (siftup_perm hlt), h2⟩
def heapify (xs : List It) : List It := hfGo (xs.length / 2) xs
theorem heapify_spec (xs : List It) : (heapify xs).Perm xs ∧ Ord 0 (heapify xs) :=
  hfGo_spec _ _ (by omega) (fun i h0 h1 h2 => by unfold par at h2; omega)
theorem ord_root {xs : List It} (h : Ord 0 xs) : ∀ i, i < xs.length → It.le (nth xs 0) (nth xs i) := by
  intro i
  induction i using Nat.strongRecOn with
  | ind i ih =>
    intro hi
    cases i with
    | zero => exact It.le_refl _
    | succ i => exact It.le_trans (ih (par (i + 1)) (by unfold par; omega) (by unfold par; omega)) (h (i + 1) (Nat.succ_pos _) hi (Nat.zero_le _))
theorem ord_min {xs : List It} (h : Ord 0 xs) {y : It} (hy : y ∈ xs) : It.le (nth xs 0) y := by
  obtain ⟨i, hi, rfl⟩ := List.getElem_of_mem hy
  rw [← nth_eq hi]; exact ord_root h i hi
/-- heappush -/
def push (xs : List It) (x : It) : List It := siftdown (xs ++ [x]) 0 xs.length
theorem push_perm (xs : List It) (x : It) : (push xs x).Perm (xs ++ [x]) := siftdown_perm (by simp)
theorem nth_append_left {xs ys : List It} {i : Nat} (h : i < xs.length) : nth (xs ++ ys) i = nth xs i := by
  unfold nth; rw [List.getD_eq_getElem?_getD, List.getD_eq_getElem?_getD, List.getElem?_append_left h]
theorem push_ord {xs : List It} (x : It) (h : Ord 0 xs) : Ord 0 (push xs x) := by
  unfold push siftdown
  have hx : (xs ++ [x]).getD xs.length noIt = x := by simp
  have hs : (xs ++ [x]).set xs.length x = xs ++ [x] := by simp
  rw [hx]
  refine sdGo_ord _ _ _ _ (by simp) (Desc.zero _) (fun i h0 hi _ hne => ?_) (fun i h0 hi hs _ => ?_)
  · rw [hs]
    simp only [List.length_append, List.length_singleton] at hi
    rw [nth_append_left (by unfold par; omega), nth_append_left (by omega)]
    exact h i h0 (by omega) (Nat.zero_le _)
  · simp only [List.length_append, List.length_singleton] at hi
    unfold par at hs; omega
/-- heapreplace -/
def replace (xs : List It) (x : It) : List It := siftup (xs.set 0 x) 0
theorem replace_perm {xs : List It} (x : It) (h : 0 < xs.length) : (replace xs x).Perm (xs.set 0 x) := siftup_perm (by simpa using h)
theorem replace_ord {xs : List It} (x : It) (hl : 0 < xs.length) (h : Ord 0 xs) : Ord 0 (replace xs x) := by
  refine siftup_ord (by simpa using hl) fun i h0 hi hs => ?_
  simp only [List.length_set] at hi
  rw [nth_set hl, nth_set hl, if_neg (by omega), if_neg (by omega)]
  exact h i h0 hi (Nat.zero_le _)
theorem ord_left {xs ys : List It} (h : Ord 0 (xs ++ ys)) : Ord 0 xs := fun i h0 hi _ => by
  have := h i h0 (by simp; omega) (Nat.zero_le _)
  rwa [nth_append_left (by unfold par; omega), nth_append_left hi] at this
end Mine
end
section
open PySem PySem.W PySem.Calls PyProof.Rows
set_option autoImplicit false
namespace Mine
section
variable {prog : Program} {w : World} {h₀ : Heap} {d : Nat} {env : Env} {m : Loc} {σ : Store} {Q : V → Store → Prop}
theorem op_mod {a b : Int} (hb : b ≠ 0) (q : Q (.int (a.fmod b)) σ) : WOp prog w h₀ d .Mod (.int a) (.int b) σ Q := fun v u hv hu => .mk fun A s _ ok => by cases hv; cases hu; exact mod_int' hb (post_here ok (.int _ _) q)
/-- what is not needed is forgotten -/
def Sub (σ' σ : Store) : Prop := ∀ a o, σ' a = some o → σ a = some o
theorem Sub.refl (σ : Store) : Sub σ σ := fun _ _ e => e
theorem sub_upd {σ : Store} {a : Addr} {o : O} (h : σ a = none) : Sub σ (upd σ a o) := fun b o' e => by
  rw [upd_ne _ _ (fun z => by rw [z, h] at e; cases e)]; exact e
theorem Sub.trans {σ₁ σ₂ σ₃ : Store} (x : Sub σ₁ σ₂) (y : Sub σ₂ σ₃) : Sub σ₁ σ₃ := fun a o e => y a o (x a o e)
theorem Post.drop {s : Shared} {v : Value} {s' : Shared} (p : Post h₀ σ s (fun x σ' => ∃ σ'', Sub σ'' σ' ∧ Q x σ'') v s') : Post h₀ σ s Q v s' := by
  obtain ⟨x, h', tk, σ', e, hv, st, ok, σ'', sub, q⟩ := p
  exact ⟨x, h', tk, σ'', e, hv, ⟨st.keep, fun a h1 h2 => st.fresh a h1 (fun z => by cases q : σ'' a with | none => exact h2 q | some o => rw [sub a o q] at z; cases z)⟩, ok.weaken sub, q⟩
theorem WT.drop {t : Sem Value} (h : WT prog w h₀ d t σ fun x σ' => ∃ σ'', Sub σ'' σ' ∧ Q x σ'') : WT prog w h₀ d t σ Q := .mk fun A s a ok => wpAny_mono (h.run A s a ok) (fun _ _ p => p.drop) fun _ _ z => z
theorem WCall.drop {f : Value} {xs : List V} (h : WCall prog w h₀ d f xs σ fun x σ' => ∃ σ'', Sub σ'' σ' ∧ Q x σ'') : WCall prog w h₀ d f xs σ Q := fun vs hvs => (h vs hvs).drop
theorem WE.drop {e : Expr} (h : WE prog w h₀ d env m e σ fun x σ' => ∃ σ'', Sub σ'' σ' ∧ Q x σ'') : WE prog w h₀ d env m e σ Q := .mk fun A s a ok lk => wpAny_mono (h.run A s a ok lk) (fun _ _ p => p.drop) fun _ _ z => z
theorem WT.mono' {t : Sem Value} {Q' : V → Store → Prop} (h : WT prog w h₀ d t σ Q) (k : ∀ x σ', Q x σ' → Q' x σ') : WT prog w h₀ d t σ Q' := h.mono k
theorem WCall.mono {f : Value} {xs : List V} {Q' : V → Store → Prop} (h : WCall prog w h₀ d f xs σ Q) (k : ∀ x σ', Q x σ' → Q' x σ') : WCall prog w h₀ d f xs σ Q' := fun vs hvs => (h vs hvs).mono k
theorem WCall.deeper {f : Value} {xs : List V} {d' : Nat} (h : WCall prog w h₀ d f xs σ Q) (k : d ≤ d') : WCall prog w h₀ d' f xs σ Q := fun vs hvs => .mk fun A s a ok => (h vs hvs).run A s (a.le k) ok
theorem WCmp.deeper {op : CmpOp} {x y : V} {d' : Nat} (h : WCmp prog w h₀ d op x y σ Q) (k : d ≤ d') : WCmp prog w h₀ d' op x y σ Q := fun v u hv hu => .mk fun A s a ok => (h v u hv hu).run A s (a.le k) ok
end
def natV (ns : List Nat) : List V := ns.map fun (n : Nat) => V.int n
def intV (ns : List Int) : List V := ns.map V.int
theorem natV_length (ns : List Nat) : (natV ns).length = ns.length := by simp [natV]
theorem intV_length (ns : List Int) : (intV ns).length = ns.length := by simp [intV]
theorem intV_get {ns : List Int} {i : Nat} (h : i < ns.length) : (intV ns)[i]? = some (.int (ns.getD i 0)) := by
  simp [intV, h]
section
variable {prog : Program} {w : World} {h₀ : Heap} {d : Nat} {env : Env} {m : Loc} {σ : Store}
theorem wb_boolB {e : Expr} {Q : Bool → Store → Prop} (h : WE prog w h₀ d env m e σ (BoolQ Q)) (he : ∀ t : Sem Value, isTrue e env t = (do let v ← t; standAt e.pos; holding [v] (truthy v))) : WB prog w h₀ d env m e σ Q := wb_bool h he
theorem compturn0 {cenv : Env} {mc : Loc} {elt : Expr} {T : V → Store → Prop} {F : Store → Prop} (h : WE prog w h₀ d cenv mc elt σ T) : CompTurn prog w h₀ d cenv mc [] elt σ T F := h
theorem compturn1 {cenv : Env} {mc : Loc} {c elt : Expr} {T : V → Store → Prop} {F : Store → Prop} (h : WB prog w h₀ d cenv mc c σ fun b σ' => if b then WE prog w h₀ d cenv mc elt σ' T else F σ') : CompTurn prog w h₀ d cenv mc [c] elt σ T F := h
theorem range_at {a : Int} {n i : Nat} {v : V} (hv : (rangeV 0 1 n)[i]? = some v) : i < n ∧ v = .int (i : Nat) := by
  have h1 : i < n := by
    have := (List.getElem?_eq_some_iff.mp hv).1
    simpa [rangeV] using this
  refine ⟨h1, ?_⟩
  have : v = .int (0 + (i : Int) * 1) := by simpa [rangeV, h1] using hv.symm
  rw [this]; congr 1; omega
theorem rangeV_length (a c : Int) (n : Nat) : (rangeV a c n).length = n := by simp [rangeV]
end
theorem Has.skip {m m' : Loc} {x : Str} {v : V} (h : Has m m') (hx : (m'.map (·.1)).all (fun y => y != x) = true) : Has ((x, v) :: m) m' := fun p hp => by
  rw [lookup_set, if_neg]
  · exact h p hp
  · have := List.all_eq_true.mp hx p.1 (List.mem_map_of_mem hp)
    simpa using this
theorem Has.trans {m m' m'' : Loc} (h : Has m m') (h' : Has m' m'') : Has m m'' := fun p hp => h _ (mem_of_lookup (h' p hp))
section
variable {prog : Program} {w : World} {h₀ : Heap} {d : Nat} {env : Env} {m : Loc} {σ : Store} {Q : Fl → Loc → Store → Prop}
theorem wx_forG {t : Expr} {pos : Pos} {iter : Expr} {body : List Stmt}
    (h : WI prog w h₀ d env m iter σ fun xs C σ₁ => ∃ Inv : Nat → Loc → Store → Prop, Inv 0 m σ₁ ∧ (∀ i m₂ σ₂, Inv i m₂ σ₂ → C σ₂) ∧
      (∀ i v m₂ σ₂, xs[i]? = some v → Inv i m₂ σ₂ → ∃ m₂', WAsg prog w h₀ d env t v m₂ m₂' σ₂ ∧ WS prog w h₀ d env m₂' body σ₂ (WhQ (Inv (i + 1)) Q)) ∧ ∀ m₂ σ₂, Inv xs.length m₂ σ₂ → Q .next m₂ σ₂)
    (hs : ∀ v, foldedSetIterable iter env v = pure v) : WX prog w h₀ d env m (.For t iter body [] pos) σ Q := by
  refine wx_for (.mk fun A s a ok lk => wpAny_mono (h.run A s a ok lk) (fun xv s₁ p => wpAny_mono p (fun it s₂ p => ?_) fun _ _ z => z) fun _ _ z => z) hs
  obtain ⟨I, h₁, tk₁, σ₁, xs, It, C, e1, e2, st₁, ok₁, hI, hfr, W, it₀, Inv, i0, iC, turn, fin⟩ := p
  refine ⟨I, h₁, tk₁, σ₁, xs, It, C, e1, e2, st₁, ok₁, hI, hfr, W, it₀, Inv, i0, iC, fun i v m₂ σ₂ hv h2 => ?_, fin⟩
  obtain ⟨m₂', asg, b⟩ := turn i v m₂ σ₂ hv h2
  exact ⟨m₂', asg, b.mono fun f m' σ' z => by cases f <;> exact z⟩
end
/-! ## no star -/
theorem se_const (c : Const) (k : Nat) (p : Pos) (es : List Expr) (env : Env) : starEach (.Constant c k p :: es) env = (false, eval (.Constant c k p) env) :: starEach es env := rfl
theorem se_name (x : Str) (p : Pos) (es : List Expr) (env : Env) : starEach (.Name x p :: es) env = (false, eval (.Name x p) env) :: starEach es env := rfl
theorem se_sub (a b : Expr) (p : Pos) (es : List Expr) (env : Env) : starEach (.Subscript a b p :: es) env = (false, eval (.Subscript a b p) env) :: starEach es env := rfl
theorem se_binop (a : Expr) (o : Operator) (b : Expr) (p : Pos) (es : List Expr) (env : Env) : starEach (.BinOp a o b p :: es) env = (false, eval (.BinOp a o b p) env) :: starEach es env := rfl
theorem se_call (f : Expr) (as : List Expr) (ks : List Keyword) (p : Pos) (es : List Expr) (env : Env) : starEach (.Call f as ks p :: es) env = (false, eval (.Call f as ks p) env) :: starEach es env := rfl
theorem se_list (as : List Expr) (p : Pos) (es : List Expr) (env : Env) : starEach (.List as p :: es) env = (false, eval (.List as p) env) :: starEach es env := rfl
theorem se_tuple (as : List Expr) (k : Nat) (p : Pos) (es : List Expr) (env : Env) : starEach (.Tuple as k p :: es) env = (false, eval (.Tuple as k p) env) :: starEach es env := rfl
theorem se_comp (a : Expr) (gs : List Comprehension) (sc : Scope) (p : Pos) (es : List Expr) (env : Env) : starEach (.ListComp a gs sc p :: es) env = (false, eval (.ListComp a gs sc p) env) :: starEach es env := rfl
end Mine
end
section
open PySem PySem.W PySem.Calls PyProof.Rows
set_option autoImplicit false
namespace Mine
/-! ## lists of two ints, compared -/
section
open AutoSeq1 (wpAny_loadPart')
theorem lt_loop_end (l b : Addr) (items items2 : Array Value) (n n2 : Nat) (i : Nat) (hi1' : items[i]? = none) (hi2' : items2[i]? = none) (hsz : items.size = items2.size) : Meets (Builtin.«list.__eq__.loop» ⟨[.ref l, .ref b, rawInt i, rawInt 0], []⟩)
    (fun _ R s => s.heap.get? l = some { cls := .type "list", dict := none, data := .seq items n, slots := #[] } ∧ s.heap.get? b = some { cls := .type "list", dict := none, data := .seq items2 n2, slots := #[] } ∧
      R (.ok (.ret (.bool false))) s) := by
  intro prog w A R s h
  obtain ⟨hp, g, d, tk, os⟩ := s; obtain ⟨hl, hb, h⟩ := h
  wp_walk using wpAny_loadPart' hl, wpAny_loadPart' hb
  have hi1 : items[((i : Nat) : Int).toNat]? = none := hi1'
  have hi2 : items2[((i : Nat) : Int).toNat]? = none := hi2'
  rw [hi1, hi2]
  wp_walk using wpAny_loadPart' hl, wpAny_loadPart' hb
  show R (.ok (.ret (.bool (decide (items.size < items2.size))))) _
  rw [hsz]
  simpa using h
theorem lt_loop_step (l b : Addr) (items items2 : Array Value) (n n2 : Nat) (i : Nat) (p1 p2 : Int) (t2 u2 : Tok) (c : Bool) (hi1' : items[i]? = some (.int p1 t2)) (hi2' : items2[i]? = some (.int p2 u2))
    (hn : p1 = p2 → Meets (Builtin.«list.__eq__.loop» ⟨[.ref l, .ref b, rawInt ((i + 1 : Nat) : Int), rawInt 0], []⟩)
      (fun _ R s => s.heap.get? l = some { cls := .type "list", dict := none, data := .seq items n, slots := #[] } ∧ s.heap.get? b = some { cls := .type "list", dict := none, data := .seq items2 n2, slots := #[] } ∧ R (.ok (.ret (.bool c))) s)) :
    Meets (Builtin.«list.__eq__.loop» ⟨[.ref l, .ref b, rawInt i, rawInt 0], []⟩)
    (fun _ R s => s.heap.get? l = some { cls := .type "list", dict := none, data := .seq items n, slots := #[] } ∧ s.heap.get? b = some { cls := .type "list", dict := none, data := .seq items2 n2, slots := #[] } ∧
      R (.ok (.ret (.bool (if p1 = p2 then c else decide (p1 < p2))))) s) := by
  intro prog w A R s h
  obtain ⟨hp, g, d, tk, os⟩ := s; obtain ⟨hl, hb, h⟩ := h
  wp_walk using wpAny_loadPart' hl, wpAny_loadPart' hb
  have hi1 : items[((i : Nat) : Int).toNat]? = some (.int p1 t2) := hi1'
  have hi2 : items2[((i : Nat) : Int).toNat]? = some (.int p2 u2) := hi2'
  have hc : ((i : Int) + 1) = ((i + 1 : Nat) : Int) := by push_cast; rfl
  rw [hi1, hi2]
  refine wpAny_bind (wpAny_eqBool_int ?_)
  by_cases e : p1 = p2
  · rw [if_pos e] at h
    have hn' := hn e
    subst e
    simp only [beq_self_eq_true]
    wp_walk
    rw [hc]
    exact ⟨plainId_quiet MeetsSeq3.plain_eq_loop _, codeAny_builtin MeetsSeq3.entry_eq_loop (by
      rw [Around.under_plainId MeetsSeq3.plain_eq_loop _]
      exact hn' prog w A R _ ⟨hl, hb, h⟩)⟩
  · rw [if_neg e] at h
    rw [beq_eq_false_iff_ne.mpr e]
    wp_walk using wpAny_loadPart' hl, wpAny_loadPart' hb
    rw [hi1, hi2]
    refine wpAny_bind (rich_lt_int ?_)
    wp_walk
    exact h
theorem list_lt_meets (l b : Addr) (h1 p1 h2 p2 : Int) (t1 t2 u1 u2 : Tok) (n n2 : Nat) : Meets (Builtin.«list.__lt__» ⟨[.ref l, .ref b], []⟩)
    (fun _ R s => s.heap.get? l = some { cls := .type "list", dict := none, data := .seq #[.int h1 t1, .int p1 t2] n, slots := #[] } ∧ s.heap.get? b = some { cls := .type "list", dict := none, data := .seq #[.int h2 u1, .int p2 u2] n2, slots := #[] } ∧
      R (.ok (.ret (.bool (pairLt h1 p1 h2 p2)))) s) := by
  intro prog w A R s h
  obtain ⟨hp, g, d, tk, os⟩ := s; obtain ⟨hl, hb, h⟩ := h
  have f3 := AutoSeq1.sub_list_list
  wp_walk using wpAny_loadPart' hl, wpAny_loadPart' hb
  have e2 := lt_loop_end l b #[.int h1 t1, .int p1 t2] #[.int h2 u1, .int p2 u2] n n2 2 rfl rfl rfl
  have e1 := lt_loop_step l b #[.int h1 t1, .int p1 t2] #[.int h2 u1, .int p2 u2] n n2 1 p1 p2 t2 u2 false rfl rfl fun _ => e2
  have e0 := lt_loop_step l b #[.int h1 t1, .int p1 t2] #[.int h2 u1, .int p2 u2] n n2 0 h1 h2 t1 u1 (if p1 = p2 then false else decide (p1 < p2)) rfl rfl fun _ => e1
  have e : (if h1 = h2 then (if p1 = p2 then false else decide (p1 < p2)) else decide (h1 < h2)) = pairLt h1 p1 h2 p2 := by
    unfold pairLt
    by_cases c1 : h1 = h2
    · subst c1
      by_cases c2 : p1 = p2
      · subst c2; simp
      · simp [c2]
    · simp [c1]
  rw [e] at e0
  exact ⟨plainId_quiet MeetsSeq3.plain_eq_loop _, codeAny_builtin MeetsSeq3.entry_eq_loop (by
    rw [Around.under_plainId MeetsSeq3.plain_eq_loop _]
    exact e0 prog w A R _ ⟨hl, hb, h⟩)⟩
end
end Mine
end
section
open PySem PySem.W PySem.Calls PyProof.Rows
set_option autoImplicit false
namespace Mine
section
variable {prog : Program} {w : World} {h₀ : Heap} {d : Nat} {env : Env} {m : Loc} {σ : Store} {mg mb : Str → Option Value} {Q : V → Store → Prop}
theorem call_list_lt {A : Around} {s : Shared} {E : Value → Shared → Prop} {a b : Addr} {h1 p1 h2 p2 : Int} {K : Value → Shared → Prop} (ok : OK h₀ s.heap σ) (ha : σ a = some (.list [.int h1, .int p1])) (hb : σ b = some (.list [.int h2, .int p2]))
    (k : K (.bool (pairLt h1 p1 h2 p2)) s) : s.TypeIs (.ref a) "list" ∧ s.TypeIs (.ref b) "list" ∧ wpAny (model prog w) A (call (.builtin "list.__lt__") [.ref a, .ref b]) K E s := by
  obtain ⟨i1, ⟨n1, L1⟩, v1⟩ := ok.sr _ _ ha
  obtain ⟨i2, ⟨n2, L2⟩, v2⟩ := ok.sr _ _ hb
  obtain ⟨_, _, rfl, r1, r2⟩ := v1.two
  obtain ⟨_, _, rfl, r3, r4⟩ := v2.two
  cases r1; cases r2; cases r3; cases r4
  exact ⟨⟨_, L1, rfl⟩, ⟨_, L2, rfl⟩, call_meets PySem.F.slot_list_lt ⟨_, L1, rfl⟩ PySem.F.entry_list_lt (PySem.F.args_list_lt_2 _ _) (list_lt_meets a b h1 p1 h2 p2 _ _ _ _ n1 n2) ⟨L1, L2, k⟩⟩
theorem cmp_lt_lst {a b : Addr} {h1 p1 h2 p2 : Int} (ha : σ a = some (.list [.int h1, .int p1])) (hb : σ b = some (.list [.int h2, .int p2])) (q : Q (.bool (pairLt h1 p1 h2 p2)) σ) : WCmp prog w h₀ d .Lt (.ref a) (.ref b) σ Q := fun v u hv hu => .mk fun A s ra ok => by
  cases hv; cases hu
  show wpAny _ _ (richCompare .Lt (.ref a) (.ref b)) _ _ _
  have z := call_list_lt (prog := prog) (w := w) (A := A) (s := s) (E := NoE) (K := fun v s' => v ≠ .notImplemented ∧ Post h₀ σ s Q v s') ok ha hb ⟨by simp, _, s.heap, s.toks, σ, rfl, .bool _, .refl, ok, q⟩
  exact wpAny_richCompare_same_room z.1 z.2.1 PySem.F.slot_list_lt z.2.2 (by have := ra.room; omega)
theorem cmp_isnot_self {a : Addr} (q : Q (.bool false) σ) : WCmp prog w h₀ d .IsNot (.ref a) (.ref a) σ Q := fun v u hv hu => .mk fun A s ra ok => by
  cases hv; cases hu
  exact wpAny_isNot_ref_self ⟨_, s.heap, s.toks, σ, rfl, .bool _, .refl, ok, q⟩
theorem nat_any (ns : List Nat) (k : Nat) : ((ns.map fun (n : Nat) => (n : Int)).any (· == (k : Int))) = decide (k ∈ ns) := by
  induction ns with
  | nil => simp
  | cons n ns ih =>
    rw [List.map_cons, List.any_cons, ih]
    by_cases e : k = n
    · subst e; simp
    · have : ((n : Int) == (k : Int)) = false := by simp; omega
      rw [this]; simp [e]
theorem natV_int (ns : List Nat) : natV ns = (ns.map fun (n : Nat) => (n : Int)).map V.int := by simp [natV]
theorem cmp_in_nat {l : Addr} {ns : List Nat} {k : Nat} (hl : σ l = some (.list (natV ns))) (q : Q (.bool (decide (k ∈ ns))) σ) : WCmp prog w h₀ d .In (.int k) (.ref l) σ Q := fun v u hv hu => .mk fun A s ra ok => by
  cases hv; cases hu
  obtain ⟨its, pl, hvs⟩ := ok.sr _ _ hl
  rw [natV_int] at hvs
  exact in_list_ints pl.isList hvs.ints ⟨_, s.heap, s.toks, σ, rfl, by rw [nat_any]; exact .bool _, .refl, ok, q⟩
theorem cmp_notin_nat {l : Addr} {ns : List Nat} {k : Nat} (hl : σ l = some (.list (natV ns))) (q : Q (.bool (!decide (k ∈ ns))) σ) : WCmp prog w h₀ d .NotIn (.int k) (.ref l) σ Q := fun v u hv hu => .mk fun A s ra ok => by
  cases hv; cases hu
  obtain ⟨its, pl, hvs⟩ := ok.sr _ _ hl
  rw [natV_int] at hvs
  exact notin_list_ints pl.isList hvs.ints ⟨_, s.heap, s.toks, σ, rfl, by rw [nat_any]; exact .bool _, .refl, ok, q⟩
/-- a chain of two comparisons -/
theorem wb_chain2 {l r₁ r₂ : Expr} {op₁ op₂ : CmpOp} {pos : Pos} {P : Bool → Store → Prop}
    (h : WE prog w h₀ d env m l σ fun x σ₁ => WE prog w h₀ d env m r₁ σ₁ fun y σ₂ => WCmp prog w h₀ d op₁ x y σ₂ (BoolQ fun b σ₃ => if b then WE prog w h₀ d env m r₂ σ₃ (fun z σ₄ => WCmp prog w h₀ d op₂ y z σ₄ (BoolQ P)) else P false σ₃))
    (hm : lastMarks [op₁, op₂] [r₁, r₂] = false) : WB prog w h₀ d env m (.Compare l [op₁, op₂] [r₁, r₂] pos) σ P := .mk fun A s a ok lk => by
  refine isTrue_chain (we_then h a ok lk fun v x h₁ tk₁ σ₁ hv st₁ ok₁ lk₁ q₁ => test_link (we_then q₁ a ok₁ lk₁ fun u y h₂ tk₂ σ₂ hu st₂ ok₂ lk₂ q₂ => wt_then (q₂ v u hv hu) a ok₂ fun c z h₃ tk₃ σ₃ hc st₃ ok₃ q₃ => ?_)) hm
  obtain ⟨b, rfl, q₃⟩ := q₃
  cases hc
  refine wpAny_truthy_bool ?_
  cases b with
  | false => simp only [Bool.false_eq_true, if_false] at q₃ ⊢; exact ⟨h₃, tk₃, σ₃, rfl, (st₁.trans st₂).trans st₃, ok₃, q₃⟩
  | true =>
    simp only [if_true] at q₃ ⊢
    refine test_last (we_then q₃ a ok₃ (lk₂.step st₃) fun r z h₄ tk₄ σ₄ hr st₄ ok₄ lk₄ q₄ => wt_then (q₄ u r hu hr) a ok₄ fun c z' h₅ tk₅ σ₅ hc st₅ ok₅ q₅ => ?_)
    obtain ⟨b, rfl, q₅⟩ := q₅
    cases hc
    exact wpAny_truthy_bool ⟨h₅, tk₅, σ₅, rfl, (((st₁.trans st₂).trans st₃).trans st₄).trans st₅, ok₅, q₅⟩
theorem wc_divmod {a b : Int} (hb : b ≠ 0) (hp : Builtin.divisionGoesByPylong a b = false) (q : ∀ t, σ t = none → Q (.ref t) (upd σ t (.tup [.int (a.fdiv b), .int (a.fmod b)]))) : WCall prog w h₀ d (.builtin "divmod") [.int a, .int b] σ Q := fun vs hvs => .mk fun A s ra ok => by
  obtain ⟨_, _, rfl, r1, r2⟩ := hvs.two
  cases r1; cases r2
  have al := ok.alloc { cls := .type "tuple", data := .seq #[.int (a.fdiv b) s.toks, .int (a.fmod b) (s.toks + 1)] } (.tup [.int (a.fdiv b), .int (a.fmod b)]) ⟨[.int (a.fdiv b) s.toks, .int (a.fmod b) (s.toks + 1)], ⟨0, Heap.get?_push_size _ rfl⟩, .cons (.int _ _) (.cons (.int _ _) .nil)⟩
  exact divmod_int hb ⟨_, _, s.toks + 1 + 1, _, rfl, .ref _, al.2.1, al.1, q _ al.2.2⟩ (.inl hp)
theorem wc_sum {l : Addr} {ns : List Int} (hl : σ l = some (.list (intV ns))) (q : ∀ v, Q (.int v) σ) : WCall prog w h₀ d (.builtin "sum") [.ref l] σ Q := fun vs hvs => .mk fun A s ra ok => by
  obtain ⟨_, rfl, r1⟩ := hvs.one
  cases r1
  obtain ⟨its, pl, hv⟩ := ok.sr _ _ hl
  obtain ⟨xs, e⟩ := (VRs.ints hv).allInts.items
  have hl := pl.isList
  rw [e] at hl
  exact sum_intListG ra.hh hl fun h' tk t' hk => ⟨_, h', tk, σ, rfl, .int _ _, (ok.keeps hk).2, (ok.keeps hk).1, q _⟩
theorem wc_sorted {l : Addr} {ns : List Int} (hl : σ l = some (.list (intV ns))) (h64 : ns.length < 64) (q : ∀ ns', ns'.Perm ns → ns'.Pairwise (· ≤ ·) → ∀ a, σ a = none → Q (.ref a) (upd σ a (.list (intV ns')))) : WCall prog w h₀ d (.builtin "sorted") [.ref l] σ Q := fun vs hvs => .mk fun A s ra ok => by
  obtain ⟨_, rfl, r1⟩ := hvs.one
  cases r1
  obtain ⟨its, pl, hv⟩ := ok.sr _ _ hl
  refine sorted_ints pl.isList (VRs.ints hv) (by rw [hv.length, intV_length]; exact h64) fun out ns' a1 a2 a3 => ?_
  obtain ⟨e, he⟩ := sortedAll_at s.heap its out
  have nw := ok.new (fun _ _ => sortedAll_old) (a := s.heap.objs.size + 1) (xs := intV ns') (get_ge_none _ _ (Nat.le_succ _)) ⟨out.toList, ⟨e, by rw [Array.toArray_toList]; exact he⟩, VRs.ofInts a1⟩
  exact ⟨_, _, s.toks, _, rfl, .ref _, nw.2.1, nw.1, q ns' a2 a3 _ nw.2.2⟩
/-- a slice with a step: ints of the list, whichever -/
theorem slice_ints {its : List Value} {ns : List Int} (hv : IntsAre its ns) (lo hi st : Option Int) : ∃ ms : List Int, IntsAre (slicePick its.toArray lo hi st).toList ms ∧ ms.length ≤ ns.length := by
  have hmem : ∀ v ∈ (slicePick its.toArray lo hi st).toList, v ∈ its := fun v h => by
    unfold slicePick at h
    rw [List.toList_toArray, List.mem_filterMap] at h
    obtain ⟨i, _, e⟩ := h
    have : its[i]? = some v := by simpa using e
    exact List.mem_of_getElem? this
  have hint : ∀ v ∈ its, ∃ i t, v = Value.int i t := by
    clear hmem
    induction hv with
    | nil => intro v h; cases h
    | cons n t _ ih =>
      intro v h
      rcases List.mem_cons.mp h with rfl | h
      · exact ⟨n, t, rfl⟩
      · exact ih v h
  have key : ∀ l : List Value, (∀ v ∈ l, v ∈ its) → ∃ ms : List Int, IntsAre l ms ∧ ms.length = l.length := fun l => by
    induction l with
    | nil => intro _; exact ⟨[], .nil, rfl⟩
    | cons v l ih =>
      intro h
      obtain ⟨i, t, rfl⟩ := hint v (h v List.mem_cons_self)
      obtain ⟨ms, h1, h2⟩ := ih fun u hu => h u (List.mem_cons_of_mem _ hu)
      exact ⟨i :: ms, .cons i t h1, by simp [h2]⟩
  obtain ⟨ms, h1, h2⟩ := key _ hmem
  have h3 := slicePick_size_le its.toArray lo hi st
  have h4 : its.length = ns.length := by rw [(VRs.ofInts hv).length]; simp
  exact ⟨ms, h1, by rw [h2, Array.length_toList, ← h4]; simpa using h3⟩
theorem we_slice_step {value lo st : Expr} {p pos : Pos} {k : Int} (hk : k ≠ 0) (h : WE prog w h₀ d env m value σ fun x σ₁ => WE prog w h₀ d env m lo σ₁ fun y σ₂ => WE prog w h₀ d env m st σ₂ fun z σ₃ =>
      ∃ l ns i, x = .ref l ∧ σ₃ l = some (.list (intV ns)) ∧ ns.length ≤ sizeLine ∧ y = .int i ∧ z = .int k ∧ ∀ ms : List Int, ms.length ≤ ns.length → ∀ a, σ₃ a = none → Q (.ref a) (upd σ₃ a (.list (intV ms))))
    (ht : ∀ o r, letTemporaryGo value o r = pure ()) : WE prog w h₀ d env m (.Subscript value (.Slice (some lo) none (some st) p) pos) σ Q := .mk fun A s a ok lk => by
  refine wpAny_Subscript_Slice_step (T := "list") list_getitem_lookup (we_then h a ok lk fun v x h₁ tk₁ σ₁ hv st₁ ok₁ lk₁ q₁ => wpAny_Slice ?_) ht
  refine wpAny_evalPart_some (we_then q₁ a ok₁ lk₁ fun u y h₂ tk₂ σ₂ hu st₂ ok₂ lk₂ q₂ => ?_)
  rw [evalPart_none]
  refine wpAny_pure (wpAny_evalPart_some (we_then q₂ a ok₂ lk₂ fun c z h₃ tk₃ σ₃ hc st₃ ok₃ lk₃ q₃ => ?_))
  obtain ⟨l, ns, i, rfl, hl, hsz, rfl, rfl, q⟩ := q₃
  cases hv
  cases hu with | int _ tt =>
  cases hc with | int _ tu =>
  obtain ⟨its, pl, hvs⟩ := ok₃.sr _ _ hl
  have il := pl.isList
  obtain ⟨ms, hms, hlen⟩ := slice_ints (VRs.ints hvs) (some i) none (some k)
  refine ⟨(il.push _).typeIs, wpAny_getItem_list_slice (il.push _) (Heap.IsSliceOf.new ..) (.int _ _) .none (.int _ _) (by simpa using hk) ?_ (by rw [List.size_toArray, hvs.length, intV_length]; exact hsz)⟩
  have kp : ∀ b o, h₃.get? b = some o → ((h₃.push { cls := .type "slice", data := .fields #[.int i tt, .none, .int k tu] }).push { cls := .type "list", data := .seq (slicePick its.toArray (some i) none (some k)) }).get? b = some o := fun b o e => Heap.get?_push_of_some _ (Heap.get?_push_of_some _ e)
  have nw := ok₃.new kp (a := h₃.objs.size + 1) (xs := intV ms) (get_ge_none _ _ (Nat.le_succ _)) ⟨(slicePick its.toArray (some i) none (some k)).toList, ⟨0, by
    have := Heap.get?_push_size (h₃.push { cls := .type "slice", data := .fields #[.int i tt, .none, .int k tu] }) (o := { cls := .type "list", data := .seq (slicePick its.toArray (some i) none (some k)) }) rfl
    rw [Heap.size_push] at this
    rw [Array.toArray_toList]
    exact this⟩, VRs.ofInts hms⟩
  rw [Heap.size_push]
  exact ⟨_, _, _, _, rfl, .ref _, ((st₁.trans st₂).trans st₃).trans nw.2.1, nw.1, q ms hlen _ nw.2.2⟩
/-- xs[i] += v -/
theorem wx_augitem {Q : Fl → Loc → Store → Prop} {o value : Expr} {x : Str} {px pos' pos : Pos}
    (h : WE prog w h₀ d env m o σ fun u σ₁ => WE prog w h₀ d env m (.Name x px) σ₁ fun y σ₂ => ∃ l k xs old, u = .ref l ∧ y = .int k ∧ σ₂ l = some (.list xs) ∧ 0 ≤ k ∧ k < 4611686018427387904 ∧ xs[k.toNat]? = some (.int old) ∧
      WE prog w h₀ d env m value σ₂ fun v σ₃ => ∃ z xs', v = .int z ∧ σ₃ l = some (.list xs') ∧ k.toNat < xs'.length ∧ Q .next m (upd σ₃ l (.list (xs'.set k.toNat (.int (old + z)))))) :
    WX prog w h₀ d env m (.AugAssign (.Subscript o (.Name x px) pos') .Add value pos) σ Q := .mk fun A s a ok lk => by
  refine wpAny_AugAssign_Subscript (we_then h a ok lk fun ov u h₁ tk₁ σ₁ hov st₁ ok₁ lk₁ q₁ => ?_)
  refine we_then q₁ a ok₁ lk₁ fun iv y h₂ tk₂ σ₂ hiv st₂ ok₂ lk₂ q₂ => ?_
  obtain ⟨l, k, xs, old, rfl, rfl, hl, h0, h1, hat, q⟩ := q₂
  cases hov; cases hiv
  obtain ⟨its, pl, hvs⟩ := ok₂.sr _ _ hl
  obtain ⟨val, e1, hr⟩ := hvs.get _ _ hat
  cases hr
  refine wpAny_getItem_list pl.isList h0 (by omega) (by simpa using e1) ?_
  refine we_then q a ok₂ lk₂ fun v xv h₃ tk₃ σ₃ hv st₃ ok₃ lk₃ q₃ => ?_
  obtain ⟨z, xs', rfl, hl', hlt, q⟩ := q₃
  cases hv
  obtain ⟨its', ⟨n, e⟩, hvs'⟩ := ok₃.sr _ _ hl'
  refine PyProof.Rows.iadd_int (W.ki_setAt (n := n) e h0 (by omega) (by rw [List.size_toArray, hvs'.length]; omega) ?_)
  have ch := ok₃.change (o' := .list (xs'.set k.toNat (.int (old + z)))) hl' (Heap.SameBut.update ..) ⟨its'.set k.toNat (.int (old + z) tk₃), ⟨_, by
    have := IsL.update e (·.setIfInBounds k.toNat (.int (old + z) tk₃))
    simpa using this⟩, hvs'.set _ (.int _ _)⟩
  exact ⟨.next, _, _, _, m, rfl, .next, (((st₁.trans st₂).trans st₃).trans ch.2).lift lk.own, ch.1, lk₃.step ch.2, q⟩
/-- xs.extend(ys) -/
theorem we_extend {o e : Expr} {apos pos : Pos}
    (h : WE prog w h₀ d env m o σ fun x σ₁ => ∃ l xs, x = .ref l ∧ σ₁ l = some (.list xs) ∧ WE prog w h₀ d env m e σ₁ fun y σ₂ => ∃ b xs' ys, y = .ref b ∧ σ₂ l = some (.list xs') ∧ σ₂ b = some (.list ys) ∧ xs'.length ≤ 10000 ∧ ys.length ≤ 10000 ∧ Q .none (upd σ₂ l (.list (xs' ++ ys))))
    (hbase : attributeBase o "extend" env (eval o env) = eval o env) (hs : starEach [e] env = [(false, eval e env)]) (hline : (apos.endLine == pos.line) = true) : WE prog w h₀ d env m (.Call (.Attribute o "extend" apos) [e] [] pos) σ Q := by
  refine method1 PySem.F.slot_list_extend PySem.F.type_list_extend (h.mono fun x σ₁ ⟨l, xs, e1, e2, k⟩ => ⟨l, xs, e1, e2, k.mono fun y σ₂ ⟨b, xs', ys, hy, hl, hb, n1, n2, q⟩ v hv => .mk fun A s a ok => ?_⟩) hbase hs hline
  subst hy
  cases hv
  obtain ⟨its, ⟨c1, e1⟩, v1⟩ := ok.sr _ _ hl
  obtain ⟨its2, ⟨c2, e2⟩, v2⟩ := ok.sr _ _ hb
  have l1 : its.toArray.size ≤ 10000 := by rw [List.size_toArray, v1.length]; exact n1
  have l2 : its2.toArray.size ≤ 10000 := by rw [List.size_toArray, v2.length]; exact n2
  refine call_meets PySem.F.slot_list_extend ⟨_, e1, rfl⟩ PySem.F.entry_list_extend (PySem.F.args_list_extend_2 _ _) (PySem.AutoSeq1.list_extend_list_list_0 l its.toArray c1 b its2.toArray c2 ?_ (by rw [sizeLine_eq]; omega) (by rw [sizeLine_eq]; omega)) ⟨e1, e2, ?_⟩
  · simp [Builtin.List.listTooLong, sizeLine]
    intro _
    simp at l1 l2
    omega
  have ch := ok.change (o' := .list (xs' ++ ys)) hl (Heap.SameBut.update s.heap l (Obj.mapSeq fun x => x ++ its2.toArray)) ⟨its ++ its2, ⟨_, by
    have := IsL.update e1 (fun x => x ++ its2.toArray)
    simpa using this⟩, v1.append v2⟩
  exact ⟨.none, _, s.toks, _, rfl, .none, ch.2, ch.1, q⟩
/-- unpacking -/
theorem unpack_lst {A : Around} {s : Shared} {E : Value → Shared → Prop} {elts : List Expr} {x1 : Nat} {pos : Pos} {t : Addr} {items : Array Value} {K : Unit → Shared → Prop} (hh : A.handled = none) (ht : s.heap.IsList t items)
    (hn : (assignEach elts env).length = items.size) (hstar : (assignEach elts env).findIdx? (·.1) = none)
    (h : ∀ h', Heap.ExtBut s.heap.objs.size s.heap h' → wpAny (model prog w) A (assignInOrder ((assignEach elts env).map (·.2)) items.toList) K E { s with heap := h' }) :
    wpAny (model prog w) A (assign (.Tuple elts x1 pos) env (.ref t)) K E s := by
  rw [arm_assign_Tuple]
  refine wpAny_bind (wpAny_standAt ?_)
  unfold unpack
  rw [hn, hstar]
  exact wpAny_bind (wpAny_holding (kun_itemsOf hh ht h))
theorem asg_lst2 {x y : Str} {px py pos : Pos} {kk : Nat} {a : Addr} {u v : V} (ha : σ a = some (.list [u, v])) (hx : env.kindOf x = some .local) (hy : env.kindOf y = some .local) :
    WAsg prog w h₀ d env (.Tuple [.Name x px, .Name y py] kk pos) (.ref a) m ((y, v) :: (x, u) :: m) σ := .mk fun A s val K E ra ok lk hv k => by
  cases hv
  obtain ⟨its, pl, hvs⟩ := ok.sr _ _ ha
  obtain ⟨_, _, rfl, h1, h3⟩ := hvs.two
  refine unpack_lst ra.hh pl.isList (by rfl) (by rfl) fun h' he => ?_
  have kp : ∀ b o, s.heap.get? b = some o → h'.get? b = some o := fun b o e => he b o (Nat.ne_of_lt (Heap.lt_size e)) e
  have ok' := ok.keeps kp
  have lk' := lk.step ok'.2
  show wpAny _ _ (assignInOrder [assign (.Name x px) env, assign (.Name y py) env] [_, _]) _ _ _
  unfold assignInOrder
  refine wpAny_bind (wpAny_holding ((asg_name (d := d) hx).run _ _ _ _ _ ra ok'.1 lk' h1 fun h₁ tk₁ st₁ ok₁ lk₁ => ?_))
  unfold assignInOrder
  refine wpAny_bind (wpAny_holding ((asg_name (d := d) hy).run _ _ _ _ _ ra ok₁ lk₁ h3 fun h₂ tk₂ st₂ ok₂ lk₂ => ?_))
  unfold assignInOrder
  exact wpAny_pure (k h₂ tk₂ (((ok'.2.lift (W := fun a => a = env.locals) fun b hb => by subst hb; exact lk.own _ (.inl rfl)).trans st₁).trans st₂) ok₂ lk₂)
theorem wx_unpack2 {Q : Fl → Loc → Store → Prop} {x y : Str} {px py tpos pos : Pos} {kk : Nat} {value : Expr}
    (h : WE prog w h₀ d env m value σ fun v σ₁ => ∃ a u z, v = .ref a ∧ (σ₁ a = some (.list [u, z]) ∨ σ₁ a = some (.tup [u, z])) ∧ Q .next ((y, z) :: (x, u) :: m) σ₁)
    (hx : Lives env x) (hy : Lives env y)
    (hs : swapsWithSole [.Tuple [.Name x px, .Name y py] kk tpos] value pos.line env = pure false)
    (hw : swappedStores [.Tuple [.Name x px, .Name y py] kk tpos] value env = pure none) : WX prog w h₀ d env m (.Assign [.Tuple [.Name x px, .Name y py] kk tpos] value pos) σ Q := .mk fun A s ra ok lk => by
  refine Assign_Tuple (we_then h ra ok lk fun v xv h₁ tk₁ σ₁ hv st₁ ok₁ lk₁ q₁ => ?_) hs hw
  obtain ⟨a, u, z, rfl, ha, q⟩ := q₁
  cases hv
  have fin : ∀ (v1 v2 : Value), VR v1 u → VR v2 z → ∀ h', Heap.ExtBut h₁.objs.size h₁ h' → wpAny (model prog w) A (assignInOrder [assign (.Name x px) env, assign (.Name y py) env] [v1, v2]) (fun _ => PostS h₀ env σ s Q .next) NoE { s with heap := h', toks := tk₁ } := fun v1 v2 r1 r2 h' he => by
    have kp : ∀ b o, h₁.get? b = some o → h'.get? b = some o := fun b o e => he b o (Nat.ne_of_lt (Heap.lt_size e)) e
    have ok' := ok₁.keeps kp
    have lk' := lk₁.step ok'.2
    unfold assignInOrder
    refine wpAny_bind (wpAny_holding (wpAny_assign_Name (store_name ok'.1 lk' r1 hx fun h₂ tk₂ st₂ ok₂ lk₂ => ?_)))
    unfold assignInOrder
    refine wpAny_bind (wpAny_holding (wpAny_assign_Name (store_name ok₂ lk₂ r2 hy fun h₃ tk₃ st₃ ok₃ lk₃ => ?_)))
    unfold assignInOrder
    exact wpAny_pure ⟨.next, h₃, tk₃, σ₁, _, rfl, .next, (((st₁.trans ok'.2).lift lk.own).trans st₂).trans st₃, ok₃, lk₃, q⟩
  rcases ha with ha | ha
  · obtain ⟨its, pl, hvs⟩ := ok₁.sr _ _ ha
    obtain ⟨v1, v2, rfl, r1, r2⟩ := hvs.two
    exact unpack_lst ra.hh pl.isList (by rfl) (by rfl) fun h' he => fin v1 v2 r1 r2 h' he
  · obtain ⟨its, pl, hvs⟩ := ok₁.sr _ _ ha
    obtain ⟨v1, v2, rfl, r1, r2⟩ := hvs.two
    exact assign_Tuple_tuple ra.hh pl.isTup (by rfl) (by rfl) fun h' he => fin v1 v2 r1 r2 h' he
end
end Mine
end
section
open PySem PySem.W PyProof.Rows
namespace Mine
open_top hd2 for PySem.Challenge.rw_mg0010_02
end Mine
end
section
open PySem PySem.W PySem.Calls PyProof.Rows
set_option autoImplicit false
namespace Mine
theorem fill2 : PySem.Challenge.rw_mg0010_02 = PySem.Challenge.rw_mg0010_02 ∧ Mine.hd2.heap_39 = Mine.hd2.heap_39 := by
  k_fill; exact ⟨rfl, rfl⟩

local macro_rules | `(tactic| ktr_rel) => `(tactic| first
  | ((with_reducible show Seq _ _ _ _ _ _ _ Fl.next _ _); refine seq_next ?_)
  | ((with_reducible show WS _ _ _ _ _ _ (_ :: _) _ _); refine ws_seq ?_)
  | ((with_reducible show WE _ _ _ _ _ _ (Expr.Name _ _) _ _); first | (refine' we_local ?ka ?_ ?kb ?kc; (case ka => exact rfl); (case kb => exact rfl); (case kc => decide)) | (refine' we_cell ?ka ?_ ?kb ?kc ?kd; (case ka => exact rfl); (case kb => exact rfl); (case kc => exact rfl); (case kd => decide)))
  | ((with_reducible show WX _ _ _ _ _ _ (Stmt.Assign [Expr.Name _ _] _ _) _ _); refine wx_assign ?_ ?kx ?ks; (case kx => first | exact Or.inl rfl | exact Or.inr ⟨rfl, _, rfl⟩); (case ks => rfl))
  | ((with_reducible show WX _ _ _ _ _ _ (Stmt.Assign [Expr.Subscript _ _ _] _ _) _ _); refine wx_setitem ?_ ?ks; (case ks => rfl))
  | ((with_reducible show WE _ _ _ _ _ _ (Expr.Constant _ _ _) _ _); first | refine we_int ?_ | refine we_none ?_ | refine we_true ?_)
  | ((with_reducible show WE _ _ _ _ _ _ (Expr.BinOp _ _ _ _) _ _); refine we_binop ?_)
  | ((with_reducible show WE _ _ _ _ _ _ (Expr.Subscript _ (Expr.Name _ _) _) _ _); refine we_item ?_ ?ks; (case ks => intro _ _; with_unfolding_all rfl))
  | ((with_reducible show WE _ _ _ _ _ _ (Expr.Subscript _ (Expr.Constant _ _ _) _) _ _); refine we_item ?_ ?ks; (case ks => intro _ _; with_unfolding_all rfl))
  | ((with_reducible show WB _ _ _ _ _ _ (Expr.Compare _ [_] [_] _) _ _); refine wb_cmpB ?_ ?ks; (case ks => rfl))
  | ((with_reducible show WE _ _ _ _ _ _ (Expr.Compare _ [_] [_] _) _ _); refine we_cmp ?_ ?ks; (case ks => rfl))
  | ((with_reducible show WE _ _ _ _ _ _ (Expr.Call (Expr.Name _ _) (_ :: _) [] _) _ _); refine' we_call ?kG ?kn ?kc ?_ ?k1 ?k2 ?k3 ?k4; (case kG => assumption); (case k1 => rfl); (case k2 => decide); (case k3 => first | exact se_const _ _ _ _ _ | exact se_name _ _ _ _ | exact se_sub _ _ _ _ _ | exact se_binop _ _ _ _ _ _ | exact se_call _ _ _ _ _ _ | exact se_list _ _ _ _ | exact se_tuple _ _ _ _ _ | exact se_comp _ _ _ _ _ _ | rfl); (case k4 => rfl); (case kn => first | (refine' gname_K ?a ?b ?c; (case a => assumption); (case b => assumption); (case c => k_is)) | (refine' gname_B ?a ?b ?c ?e ?f ?g; (case a => assumption); (case b => assumption); (case c => assumption); (case e => k_is); (case f => exact rfl); (case g => decide))); (case kc => first | exact Callable.builtin _ | exact Callable.type _ | (refine' callable_K ?a ?b; (case a => assumption); (case b => k_is))))
  | ((with_reducible show BoolQ _ (V.bool _) _); refine boolq ?_)
  | ((with_reducible show WA _ _ _ _ _ _ _ (_ :: _) _ _); refine wa_cons ?_ ?ks; (case ks => first | exact se_const _ _ _ _ _ | exact se_name _ _ _ _ | exact se_sub _ _ _ _ _ | exact se_binop _ _ _ _ _ _ | exact se_call _ _ _ _ _ _ | exact se_list _ _ _ _ | exact se_tuple _ _ _ _ _ | exact se_comp _ _ _ _ _ _ | rfl))
  | ((with_reducible show WA _ _ _ _ _ _ _ [] _ _); refine wa_nil ?_)
  | ((with_reducible show WS _ _ _ _ _ _ [] _ _); refine ws_nil ?_)
  | ((with_reducible show WX _ _ _ _ _ _ (Stmt.Return (some _) _) _ _); refine wx_return ?_)
  | ((with_reducible show WX _ _ _ _ _ _ (Stmt.Break _) _ _); refine wx_break ?_)
  | ((with_reducible show WX _ _ _ _ _ _ (Stmt.Continue _) _ _); refine wx_continue ?_)
  | ((with_reducible show WX _ _ _ _ _ _ (Stmt.Expr _ _) _ _); refine wx_expr ?_ ?ka ?kb; (case ka => rfl); (case kb => rfl))
  | ((with_reducible show WB _ _ _ _ _ _ (Expr.BoolOp BoolOp.And [_, _] _) _ _); refine wb_and2 ?_)
  | ((with_reducible show WB _ _ _ _ _ _ (Expr.UnaryOp UnaryOp.Not _ _) _ _); refine wb_not ?_)
  | ((with_reducible show WE _ _ _ _ _ _ (Expr.IfExp _ _ _ _) _ _); refine we_ifexp ?_)
  | ((with_reducible show WOp _ _ _ _ Operator.Add (V.int _) (V.int _) _ _); refine op_add ?_)
  | ((with_reducible show WOp _ _ _ _ Operator.Sub (V.int _) (V.int _) _ _); refine op_sub ?_)
  | ((with_reducible show WCmp _ _ _ _ CmpOp.Lt (V.int _) (V.int _) _ _); refine cmp_lt ?_)
  | ((with_reducible show WCmp _ _ _ _ CmpOp.Gt (V.int _) (V.int _) _ _); refine cmp_gt ?_)
  | ((with_reducible show WCmp _ _ _ _ CmpOp.Is _ V.none _ _); refine cmp_is_none ?_)
  | ((with_reducible show WCmp _ _ _ _ CmpOp.IsNot _ V.none _ _); refine cmp_isnot_none ?_)
  | ((with_reducible show Seq _ _ _ _ _ _ _ Fl.brk _ _); refine seq_brk ?_)
  | ((with_reducible show Seq _ _ _ _ _ _ _ Fl.cont _ _); refine seq_cont ?_)
  | ((with_reducible show Seq _ _ _ _ _ _ _ (Fl.ret _) _ _); refine seq_ret ?_)
  | ((with_reducible show WhQ _ _ Fl.next _ _); refine whq_next ?_)
  | ((with_reducible show WhQ _ _ Fl.cont _ _); refine whq_cont ?_)
  | ((with_reducible show WhQ _ _ Fl.brk _ _); refine whq_brk ?_)
  | ((with_reducible show WhQ _ _ (Fl.ret _) _ _); refine whq_ret ?_)
  | ((with_reducible show RetQ _ Fl.next _ _); refine retq_next ?_)
  | ((with_reducible show RetQ _ (Fl.ret _) _ _); refine retq_ret ?_))
local macro_rules | `(tactic| ktr_unf) => `(tactic| (repeat ktr_rel))

section
variable {w : World} {h₀ : Heap} {d : Nat} {σ : Store} {mg mb : Str → Option Value} {Q : V → Store → Prop}
abbrev P2 : Program := PySem.Challenge.rw_mg0010_02.row.prog


theorem sd_c (G : Glo h₀ mg mb) (X : (Mine.hd2.heap_39 w.params).In h₀) {obj : It → O} (hcmp : ∀ {d σ Q x y}, σ x.ad = some (obj x) → σ y.ad = some (obj y) → Q (.bool (It.lt x y)) σ → WCmp P2 w h₀ d .Lt (.ref x.ad) (.ref y.ad) σ Q)
    {l : Addr} {xs : List It} {start pos : Nat} (hl : σ l = some (.list (refs xs))) (hg : ∀ x ∈ xs, σ x.ad = some (obj x)) (hne : ∀ x ∈ xs, x.ad ≠ l) (hpos : pos < xs.length) (hlen : xs.length < 1000000)
    (q : Q .none (upd σ l (.list (refs (siftdown xs start pos))))) : WCall P2 w h₀ (d + 1) (.ref 49) [.ref l, .int start, .int pos] σ Q := by
  refine wcall_K G X (by k_is) (by k_is) (by rfl) ?_ (by decide) (by decide) rfl rfl rfl fun L => ?_
  · intro vs hvs
    rcases vs with _ | ⟨a, _ | ⟨b, _ | ⟨c, _ | _⟩⟩⟩ <;> first | rfl | (simp at hvs)
  have hx : xs.getD pos noIt ∈ xs := getD_mem' hpos
  generalize hxe : xs.getD pos noIt = x at hx
  have main : sdGo start x pos xs = siftdown xs start pos := by unfold siftdown; rw [hxe]
  generalize siftdown xs start pos = R at q main
  ktr_unf
  refine ⟨_, item_refs hl hpos hlen, ?_⟩
  rw [hxe]
  ktr_unf
  refine wx_whileL (α := Nat × List It) (fun a => [("heap", .ref l), ("startpos", .int start), ("pos", .int a.1), ("newitem", .ref x.ad)])
    (fun a σ₁ => σ₁ = upd σ l (.list (refs a.2)) ∧ a.2.length = xs.length ∧ a.1 < a.2.length ∧ (∀ y ∈ a.2, y ∈ xs) ∧ sdGo start x a.1 a.2 = R) (fun a => a.1) (pos, xs)
    (.cons rfl (.cons rfl (.cons rfl (.cons rfl .nil)))) ⟨(upd_self hl).symm, rfl, hpos, fun _ h => h, main⟩ ?_
  rintro ⟨p, ys⟩ σ₁ ⟨rfl, hys, hp, hsub, hR⟩
  dsimp only at hys hp hsub hR ⊢
  have hl₁ : upd σ l (.list (refs ys)) l = some (.list (refs ys)) := upd_same _ _ _
  have hg₁ : ∀ y ∈ ys, upd σ l (.list (refs ys)) y.ad = some (obj y) := fun y hy => by rw [upd_ne _ _ (hne y (hsub y hy))]; exact hg y (hsub y hy)
  have hgx : upd σ l (.list (refs ys)) x.ad = some (obj x) := by rw [upd_ne _ _ (hne x hx)]; exact hg x hx
  ktr_unf
  rw [sdGo] at hR
  by_cases c : start < p
  · rw [dif_pos c] at hR
    rw [decide_eq_true (by omega), if_pos rfl]
    have hpp : (p - 1) / 2 < ys.length := by omega
    ktr_unf
    refine op_shr (by decide) ?_
    rw [par_eq (by omega)]
    ktr_unf
    refine ⟨_, item_refs hl₁ hpp (by omega), ?_⟩
    ktr_unf
    refine wx_if ?_
    ktr_unf
    refine hcmp hgx (hg₁ _ (getD_mem' hpp)) ?_
    ktr_unf
    cases c2 : It.lt x (ys.getD ((p - 1) / 2) noIt) with
    | true =>
      simp only [c2, if_true] at hR ⊢
      ktr_unf
      refine ⟨l, p, _, rfl, rfl, hl₁, by omega, by omega, by rw [refs_length]; omega, ?_⟩
      rw [upd_upd, Int.toNat_natCast, refs_set]
      ktr_unf
      refine ⟨((p - 1) / 2, ys.set p (ys.getD ((p - 1) / 2) noIt)), by dsimp only; omega, .cons rfl (.cons rfl (.cons rfl (.cons rfl .nil))), rfl, by simpa using hys, by simpa using hpp, fun y hy => ?_, hR⟩
      rcases mem_set' hy with h | rfl
      · exact hsub y h
      · exact hsub _ (getD_mem' hpp)
    | false =>
      simp only [c2, Bool.false_eq_true, if_false] at hR ⊢
      ktr_unf
      refine ⟨l, p, _, rfl, rfl, hl₁, by omega, by omega, by rw [refs_length]; omega, ?_⟩
      rw [upd_upd, Int.toNat_natCast, refs_set, hR]
      ktr_unf
  · rw [dif_neg c] at hR
    rw [decide_eq_false (by omega), if_neg (by simp)]
    intro m' hm'
    refine seq_next (WS.has hm' ?_)
    ktr_unf
    refine ⟨l, p, _, rfl, rfl, hl₁, by omega, by omega, by rw [refs_length]; omega, ?_⟩
    rw [upd_upd, Int.toNat_natCast, refs_set, hR]
    ktr_unf

theorem su_c (G : Glo h₀ mg mb) (X : (Mine.hd2.heap_39 w.params).In h₀) (hB : ∀ x : Str, x ≠ "__name__" → mb x = bootBuiltins x) {obj : It → O} (hcmp : ∀ {d σ Q x y}, σ x.ad = some (obj x) → σ y.ad = some (obj y) → Q (.bool (It.lt x y)) σ → WCmp P2 w h₀ d .Lt (.ref x.ad) (.ref y.ad) σ Q)
    {l : Addr} {xs : List It} {pos : Nat} (hl : σ l = some (.list (refs xs))) (hg : ∀ x ∈ xs, σ x.ad = some (obj x)) (hne : ∀ x ∈ xs, x.ad ≠ l) (hpos : pos < xs.length) (hlen : xs.length < 1000000)
    (q : Q .none (upd σ l (.list (refs (siftup xs pos))))) : WCall P2 w h₀ (d + 2) (.ref 56) [.ref l, .int pos] σ Q := by
  refine wcall_K G X (by k_is) (by k_is) (by rfl) ?_ (by decide) (by decide) rfl rfl rfl fun L => ?_
  · intro vs hvs
    rcases vs with _ | ⟨a, _ | ⟨b, _ | _⟩⟩ <;> first | rfl | (simp at hvs)
  have hx : xs.getD pos noIt ∈ xs := getD_mem' hpos
  generalize hxe : xs.getD pos noIt = x at hx
  have main : siftdown ((suGo pos xs).1.set (suGo pos xs).2 x) pos (suGo pos xs).2 = siftup xs pos := by unfold siftup; rw [hxe]
  generalize siftup xs pos = R at q main
  ktr_unf
  refine wc_len hl (by rw [refs_length]; omega) ?_
  rw [refs_length]
  ktr_unf
  refine ⟨_, item_refs hl hpos hlen, ?_⟩
  rw [hxe]
  ktr_unf
  refine op_mul ?_ (mul_ok2 _)
  ktr_unf
  refine wx_whileL (α := Nat × List It) (fun a => [("heap", .ref l), ("endpos", .int (xs.length : Nat)), ("startpos", .int pos), ("pos", .int a.1), ("newitem", .ref x.ad), ("childpos", .int (2 * (a.1 : Int) + 1))])
    (fun a σ₁ => σ₁ = upd σ l (.list (refs a.2)) ∧ a.2.length = xs.length ∧ a.1 < a.2.length ∧ (∀ y ∈ a.2, y ∈ xs) ∧ suGo a.1 a.2 = suGo pos xs) (fun a => a.2.length - a.1) (pos, xs)
    (.cons rfl (.cons rfl (.cons rfl (.cons rfl (.cons rfl (.cons rfl .nil)))))) ⟨(upd_self hl).symm, rfl, hpos, fun _ h => h, rfl⟩ ?_
  rintro ⟨p, ys⟩ σ₁ ⟨rfl, hys, hp, hsub, hR⟩
  dsimp only at hys hp hsub hR ⊢
  have hl₁ : upd σ l (.list (refs ys)) l = some (.list (refs ys)) := upd_same _ _ _
  have hg₁ : ∀ y ∈ ys, upd σ l (.list (refs ys)) y.ad = some (obj y) := fun y hy => by rw [upd_ne _ _ (hne y (hsub y hy))]; exact hg y (hsub y hy)
  have c1 : (2 * (p : Int) + 1) = ((2 * p + 1 : Nat) : Int) := by omega
  have c2 : (((2 * p + 1 : Nat) : Int) + 1) = ((2 * p + 2 : Nat) : Int) := by omega
  rw [c1]
  ktr_unf
  by_cases c : 2 * p + 1 < ys.length
  · rw [decide_eq_true (by omega), if_pos rfl]
    ktr_unf
    rw [c2]
    refine wx_if_join (J := fun m' σ' => σ' = upd σ l (.list (refs ys)) ∧ Has m' [("heap", .ref l), ("endpos", .int (xs.length : Nat)), ("startpos", .int pos), ("pos", .int p), ("newitem", .ref x.ad), ("childpos", .int (child ys p : Nat))]) ?_ ?_
    · ktr_unf
      by_cases d1 : 2 * p + 2 < ys.length
      · rw [decide_eq_true (by omega), if_pos rfl]
        ktr_unf
        refine ⟨_, item_refs hl₁ c (by omega), ?_⟩
        ktr_unf
        refine ⟨_, item_refs hl₁ d1 (by omega), ?_⟩
        refine hcmp (hg₁ _ (getD_mem' c)) (hg₁ _ (getD_mem' d1)) ?_
        ktr_unf
        cases d2 : It.lt (ys.getD (2 * p + 1) noIt) (ys.getD (2 * p + 2) noIt) with
        | true =>
          simp only [Bool.not_true, Bool.false_eq_true, if_false]
          have e : child ys p = 2 * p + 1 := by unfold child; rw [if_neg (fun z => by rw [d2] at z; cases z.2)]
          ktr_unf
          rw [e]
          exact ⟨rfl, .cons rfl (.cons rfl (.cons rfl (.cons rfl (.cons rfl (.cons rfl .nil)))))⟩
        | false =>
          simp only [Bool.not_false, if_true]
          have e : child ys p = 2 * p + 2 := by unfold child; rw [if_pos ⟨d1, d2⟩]
          ktr_unf
          rw [e]
          exact ⟨rfl, .cons rfl (.cons rfl (.cons rfl (.cons rfl (.cons rfl (.cons rfl .nil)))))⟩
      · rw [decide_eq_false (by omega), if_neg (by simp)]
        simp only [Bool.false_eq_true, if_false]
        have e : child ys p = 2 * p + 1 := by unfold child; rw [if_neg (fun z => d1 z.1)]
        ktr_unf
        rw [e]
        exact ⟨rfl, .cons rfl (.cons rfl (.cons rfl (.cons rfl (.cons rfl (.cons rfl .nil)))))⟩
    · rintro m' σ' ⟨rfl, hm'⟩
      refine seq_next (WS.has hm' ?_)
      have hc : child ys p < ys.length := by unfold child; split <;> omega
      have hcp : p < child ys p := by unfold child; split <;> omega
      rw [suGo, dif_pos c] at hR
      generalize child ys p = cc at hc hcp hR
      ktr_unf
      refine ⟨_, item_refs hl₁ hc (by omega), ?_⟩
      ktr_unf
      refine ⟨l, p, _, rfl, rfl, hl₁, by omega, by omega, by rw [refs_length]; omega, ?_⟩
      rw [upd_upd, Int.toNat_natCast, refs_set]
      ktr_unf
      refine op_mul ?_ (mul_ok2 _)
      ktr_unf
      refine ⟨(cc, ys.set p (ys.getD cc noIt)), by simp; omega, .cons rfl (.cons rfl (.cons rfl (.cons rfl (.cons rfl (.cons rfl .nil))))), rfl, by simpa using hys, by simpa using hc, fun y hy => ?_, hR⟩
      rcases mem_set' hy with h | rfl
      · exact hsub y h
      · exact hsub _ (getD_mem' hc)
  · rw [decide_eq_false (by omega), if_neg (by simp)]
    intro m' hm'
    refine seq_next (WS.has hm' ?_)
    rw [suGo, dif_neg c] at hR
    rw [← hR] at main
    ktr_unf
    refine ⟨l, p, _, rfl, rfl, hl₁, by omega, by omega, by rw [refs_length]; omega, ?_⟩
    rw [upd_upd, Int.toNat_natCast, refs_set]
    ktr_unf
    have hsub' : ∀ y ∈ ys.set p x, y ∈ xs := fun y hy => by
      rcases mem_set' hy with h | rfl
      · exact hsub y h
      · exact hx
    refine sd_c G X hcmp (upd_same _ _ _) (fun y hy => by rw [upd_ne _ _ (hne y (hsub' y hy))]; exact hg y (hsub' y hy)) (fun y hy => hne y (hsub' y hy)) (by simpa using hp) (by simp; omega) ?_
    rw [upd_upd, main]
    refine ⟨fun a h => (nomatch h), ?_⟩
    ktr_unf

theorem push_c (G : Glo h₀ mg mb) (X : (Mine.hd2.heap_39 w.params).In h₀) (hB : ∀ x : Str, x ≠ "__name__" → mb x = bootBuiltins x) {obj : It → O} (hcmp : ∀ {d σ Q x y}, σ x.ad = some (obj x) → σ y.ad = some (obj y) → Q (.bool (It.lt x y)) σ → WCmp P2 w h₀ d .Lt (.ref x.ad) (.ref y.ad) σ Q)
    {l : Addr} {xs : List It} {x : It} (hl : σ l = some (.list (refs xs))) (hg : ∀ y ∈ xs ++ [x], σ y.ad = some (obj y)) (hne : ∀ y ∈ xs ++ [x], y.ad ≠ l) (hlen : xs.length < 100000)
    (q : Q .none (upd σ l (.list (refs (push xs x))))) : WCall P2 w h₀ (d + 2) (.ref 21) [.ref l, .ref x.ad] σ Q := by
  refine wcall_K G X (by k_is) (by k_is) (by rfl) ?_ (by decide) (by decide) rfl rfl rfl fun L => ?_
  · intro vs hvs
    rcases vs with _ | ⟨a, _ | ⟨b, _ | _⟩⟩ <;> first | rfl | (simp at hvs)
  ktr_unf
  refine we_append ?_ (by rfl) (by rfl) (by rfl)
  ktr_unf
  refine ⟨l, _, rfl, hl, ?_⟩
  ktr_unf
  refine ⟨_, hl, by rw [refs_length, sizeLine_eq]; omega, (fun a h => nomatch h), ?_⟩
  have e1 : refs xs ++ [V.ref x.ad] = refs (xs ++ [x]) := by simp [refs]
  rw [e1]
  ktr_unf
  refine wc_len (upd_same _ _ _) (by rw [refs_length]; simp; omega) ?_
  ktr_unf
  rw [refs_length, show ((((xs ++ [x]).length : Nat) : Int) - 1) = ((xs.length : Nat) : Int) from by simp]
  refine sd_c (start := 0) G X hcmp (upd_same _ _ _) (fun y hy => by rw [upd_ne _ _ (hne y hy)]; exact hg y hy) hne (by simp) (by simp; omega) ?_
  rw [upd_upd]
  refine ⟨fun a h => (nomatch h), ?_⟩
  ktr_unf

theorem replace_c (G : Glo h₀ mg mb) (X : (Mine.hd2.heap_39 w.params).In h₀) (hB : ∀ x : Str, x ≠ "__name__" → mb x = bootBuiltins x) {obj : It → O} (hcmp : ∀ {d σ Q x y}, σ x.ad = some (obj x) → σ y.ad = some (obj y) → Q (.bool (It.lt x y)) σ → WCmp P2 w h₀ d .Lt (.ref x.ad) (.ref y.ad) σ Q)
    {l : Addr} {xs : List It} {x : It} (hl : σ l = some (.list (refs xs))) (hg : ∀ y ∈ xs, σ y.ad = some (obj y)) (hgx : σ x.ad = some (obj x)) (hne : ∀ y ∈ xs, y.ad ≠ l) (hnx : x.ad ≠ l) (h0 : 0 < xs.length) (hlen : xs.length < 100000)
    (q : Q (.ref (nth xs 0).ad) (upd σ l (.list (refs (replace xs x))))) : WCall P2 w h₀ (d + 3) (.ref 35) [.ref l, .ref x.ad] σ Q := by
  refine wcall_K G X (by k_is) (by k_is) (by rfl) ?_ (by decide) (by decide) rfl rfl rfl fun L => ?_
  · intro vs hvs
    rcases vs with _ | ⟨a, _ | ⟨b, _ | _⟩⟩ <;> first | rfl | (simp at hvs)
  ktr_unf
  refine ⟨_, item_refs (i := 0) hl h0 (by omega), ?_⟩
  ktr_unf
  refine ⟨l, 0, _, rfl, rfl, hl, by omega, by omega, by rw [refs_length]; exact h0, ?_⟩
  rw [Int.toNat_zero, refs_set]
  ktr_unf
  have hsub : ∀ y ∈ xs.set 0 x, σ y.ad = some (obj y) ∧ y.ad ≠ l := fun y hy => by
    rcases mem_set' hy with h | rfl
    · exact ⟨hg y h, hne y h⟩
    · exact ⟨hgx, hnx⟩
  refine su_c (pos := 0) G X hB hcmp (upd_same _ _ _) (fun y hy => by rw [upd_ne _ _ (hsub y hy).2]; exact (hsub y hy).1) (fun y hy => (hsub y hy).2) (by simpa using h0) (by simp; omega) ?_
  rw [upd_upd]
  refine ⟨fun a h => (nomatch h), ?_⟩
  ktr_unf

theorem pop_c (G : Glo h₀ mg mb) (X : (Mine.hd2.heap_39 w.params).In h₀) (hB : ∀ x : Str, x ≠ "__name__" → mb x = bootBuiltins x) {obj : It → O} (hcmp : ∀ {d σ Q x y}, σ x.ad = some (obj x) → σ y.ad = some (obj y) → Q (.bool (It.lt x y)) σ → WCmp P2 w h₀ d .Lt (.ref x.ad) (.ref y.ad) σ Q)
    {l : Addr} {xs : List It} {x : It} (hl : σ l = some (.list (refs (xs ++ [x])))) (hg : ∀ y ∈ xs ++ [x], σ y.ad = some (obj y)) (hne : ∀ y ∈ xs ++ [x], y.ad ≠ l) (hlen : xs.length < 100000)
    (q : Q (.ref (nth (xs ++ [x]) 0).ad) (upd σ l (.list (refs (if xs = [] then [] else replace xs x))))) : WCall P2 w h₀ (d + 3) (.ref 28) [.ref l] σ Q := by
  refine wcall_K G X (by k_is) (by k_is) (by rfl) ?_ (by decide) (by decide) rfl rfl rfl fun L => ?_
  · intro vs hvs
    rcases vs with _ | ⟨a, _ | _⟩ <;> first | rfl | (simp at hvs)
  have e1 : refs (xs ++ [x]) = refs xs ++ [V.ref x.ad] := by simp [refs]
  rw [e1] at hl
  ktr_unf
  refine we_pop ?_ (by rfl) (by rfl)
  ktr_unf
  refine ⟨l, _, _, rfl, hl, by rw [refs_length, sizeLine_eq]; omega, ?_⟩
  ktr_unf
  refine wx_if (wb_list ?_ (fun _ => rfl))
  ktr_unf
  refine ⟨l, _, rfl, upd_same _ _ _, by rw [refs_length]; omega, ?_⟩
  cases hx : xs with
  | nil =>
    subst hx
    rw [if_pos rfl] at q
    simp only [refs, List.map_nil, List.isEmpty_nil, Bool.not_true, Bool.false_eq_true, if_false]
    ktr_unf
  | cons z zs =>
    have h0 : 0 < xs.length := by rw [hx]; simp
    have hn : xs ≠ [] := by rw [hx]; simp
    rw [if_neg hn, nth_append_left h0] at q
    rw [← hx]
    have e2 : (!(refs xs).isEmpty) = true := by rw [hx]; rfl
    rw [e2, if_pos rfl]
    ktr_unf
    refine ⟨_, item_refs (i := 0) (upd_same _ _ _) h0 (by omega), ?_⟩
    ktr_unf
    refine ⟨l, 0, _, rfl, rfl, upd_same _ _ _, by omega, by omega, by rw [refs_length]; exact h0, ?_⟩
    rw [Int.toNat_zero, refs_set, upd_upd]
    ktr_unf
    have hsub : ∀ y ∈ xs.set 0 x, y ∈ xs ++ [x] := fun y hy => by
      rcases mem_set' hy with h | rfl
      · exact List.mem_append_left _ h
      · simp
    refine su_c (pos := 0) G X hB hcmp (upd_same _ _ _) (fun y hy => by rw [upd_ne _ _ (hne y (hsub y hy))]; exact hg y (hsub y hy)) (fun y hy => hne y (hsub y hy)) (by simpa using h0) (by simp; omega) ?_
    rw [upd_upd]
    refine ⟨fun a h => (nomatch h), ?_⟩
    ktr_unf

theorem heapify_c (G : Glo h₀ mg mb) (X : (Mine.hd2.heap_39 w.params).In h₀) (hB : ∀ x : Str, x ≠ "__name__" → mb x = bootBuiltins x) {obj : It → O} (hcmp : ∀ {d σ Q x y}, σ x.ad = some (obj x) → σ y.ad = some (obj y) → Q (.bool (It.lt x y)) σ → WCmp P2 w h₀ d .Lt (.ref x.ad) (.ref y.ad) σ Q)
    {l : Addr} {xs : List It} (hl : σ l = some (.list (refs xs))) (hg : ∀ y ∈ xs, σ y.ad = some (obj y)) (hne : ∀ y ∈ xs, y.ad ≠ l) (hlen : xs.length < 100000)
    (q : Q .none (upd σ l (.list (refs (heapify xs))))) : WCall P2 w h₀ (d + 3) (.ref 42) [.ref l] σ Q := by
  refine wcall_K G X (by k_is) (by k_is) (by rfl) ?_ (by decide) (by decide) rfl rfl rfl fun L => ?_
  · intro vs hvs
    rcases vs with _ | ⟨a, _ | _⟩ <;> first | rfl | (simp at hvs)
  ktr_unf
  refine wc_len hl (by rw [refs_length]; omega) ?_
  rw [refs_length]
  ktr_unf
  refine wx_forL (wi_rev_range G (gname_B G X hB (by k_is) (by rfl) (by decide)) (gname_B G X hB (by k_is) (by rfl) (by decide)) ?_ (by rfl) (by rfl) (by rfl) (by rfl)) (fun _ => rfl)
  ktr_unf
  refine op_floordiv (by decide) (by exact PyProof.noPylong_small (by omega)) ?_
  have ek : ((xs.length : Int)).fdiv 2 = ((xs.length / 2 : Nat) : Int) := by rw [Int.fdiv_eq_ediv_of_nonneg _ (by decide)]; omega
  rw [ek]
  refine ⟨_, rfl, by omega, by omega, ?_⟩
  generalize hk : xs.length / 2 = k
  refine ⟨fun i => [("x", .ref l)], fun i σ₁ => ∃ ys, σ₁ = upd σ l (.list (refs ys)) ∧ ys.length = xs.length ∧ (∀ y ∈ ys, y ∈ xs) ∧ hfGo (k - i) ys = heapify xs, .cons rfl .nil,
    ⟨xs, (upd_self hl).symm, rfl, fun _ h => h, by rw [Nat.sub_zero, ← hk]; rfl⟩, fun _ _ _ => trivial, ?_, ?_⟩
  · rintro i v σ₁ hv ⟨ys, rfl, hys, hsub, hR⟩
    have hik : i < k := by
      have := (List.getElem?_eq_some_iff.mp hv).1
      simpa [rangeV] using this
    have hv' : v = .int ((k - 1 - i : Nat) : Int) := by
      have : v = .int ((k : Int) - 1 + i * (-1)) := by simpa [rangeV, hik] using hv.symm
      rw [this]; congr 1; omega
    subst hv'
    refine ⟨_, asg_name (by rfl), ?_⟩
    have hpos : k - 1 - i < ys.length := by omega
    ktr_unf
    refine su_c G X hB hcmp (upd_same _ _ _) (fun y hy => by rw [upd_ne _ _ (hne y (hsub y hy))]; exact hg y (hsub y hy)) (fun y hy => hne y (hsub y hy)) hpos (by omega) ?_
    rw [upd_upd]
    refine ⟨fun a h => (nomatch h), ?_⟩
    ktr_unf
    refine ⟨.cons rfl .nil, _, rfl, by rw [siftup_length]; exact hys, fun y hy => hsub y ((siftup_perm hpos).mem_iff.mp hy), ?_⟩
    rw [← hR, show k - i = (k - (i + 1)) + 1 by omega, hfGo, show k - (i + 1) = k - 1 - i by omega]
  · rintro m₂ σ₂ hm₂ ⟨ys, rfl, hys, hsub, hR⟩
    have hlen : (rangeV ((k : Int) - 1) (-1) (k : Int).toNat).length = k := by simp [rangeV]
    rw [hlen, Nat.sub_self] at hR
    have : ys = heapify xs := hR
    subst this
    refine seq_next (WS.has hm₂ ?_)
    ktr_unf
end
end Mine
end
open PySem PySem.W PySem.Calls PyProof.Rows Mine
local macro_rules | `(tactic| ktr_rel) => `(tactic| first
  | ((with_reducible show Seq _ _ _ _ _ _ _ Fl.next _ _); refine seq_next ?_)
  | ((with_reducible show WS _ _ _ _ _ _ (_ :: _) _ _); refine ws_seq ?_)
  | ((with_reducible show WE _ _ _ _ _ _ (Expr.Name _ _) _ _); first | (refine' we_local ?ka ?_ ?kb ?kc; (case ka => exact rfl); (case kb => exact rfl); (case kc => decide)) | (refine' we_cell ?ka ?_ ?kb ?kc ?kd; (case ka => exact rfl); (case kb => exact rfl); (case kc => exact rfl); (case kd => decide)))
  | ((with_reducible show WX _ _ _ _ _ _ (Stmt.Assign [Expr.Name _ _] _ _) _ _); refine wx_assign ?_ ?kx ?ks; (case kx => first | exact Or.inl rfl | exact Or.inr ⟨rfl, _, rfl⟩); (case ks => rfl))
  | ((with_reducible show WX _ _ _ _ _ _ (Stmt.Assign [Expr.Subscript _ _ _] _ _) _ _); refine wx_setitem ?_ ?ks; (case ks => rfl))
  | ((with_reducible show WE _ _ _ _ _ _ (Expr.Constant _ _ _) _ _); first | refine we_int ?_ | refine we_none ?_ | refine we_true ?_)
  | ((with_reducible show WE _ _ _ _ _ _ (Expr.BinOp _ _ _ _) _ _); refine we_binop ?_)
  | ((with_reducible show WE _ _ _ _ _ _ (Expr.Subscript _ (Expr.Name _ _) _) _ _); refine we_item ?_ ?ks; (case ks => intro _ _; with_unfolding_all rfl))
  | ((with_reducible show WE _ _ _ _ _ _ (Expr.Subscript _ (Expr.Constant _ _ _) _) _ _); refine we_item ?_ ?ks; (case ks => intro _ _; with_unfolding_all rfl))
  | ((with_reducible show WB _ _ _ _ _ _ (Expr.Compare _ [_] [_] _) _ _); refine wb_cmpB ?_ ?ks; (case ks => rfl))
  | ((with_reducible show WE _ _ _ _ _ _ (Expr.Compare _ [_] [_] _) _ _); refine we_cmp ?_ ?ks; (case ks => rfl))
  | ((with_reducible show WE _ _ _ _ _ _ (Expr.Call (Expr.Name _ _) (_ :: _) [] _) _ _); refine' we_call ?kG ?kn ?kc ?_ ?k1 ?k2 ?k3 ?k4; (case kG => assumption); (case k1 => rfl); (case k2 => decide); (case k3 => first | exact se_const _ _ _ _ _ | exact se_name _ _ _ _ | exact se_sub _ _ _ _ _ | exact se_binop _ _ _ _ _ _ | exact se_call _ _ _ _ _ _ | exact se_list _ _ _ _ | exact se_tuple _ _ _ _ _ | exact se_comp _ _ _ _ _ _ | rfl); (case k4 => rfl); (case kn => first | (refine' gname_K ?a ?b ?c; (case a => assumption); (case b => assumption); (case c => k_is)) | (refine' gname_B ?a ?b ?c ?e ?f ?g; (case a => assumption); (case b => assumption); (case c => assumption); (case e => k_is); (case f => exact rfl); (case g => decide))); (case kc => first | exact Callable.builtin _ | exact Callable.type _ | (refine' callable_K ?a ?b; (case a => assumption); (case b => k_is))))
  | ((with_reducible show WB _ _ _ _ _ _ (Expr.Call _ _ _ _) _ _); refine wb_boolB ?_ ?ks; (case ks => intro _; rfl))
  | ((with_reducible show BoolQ _ (V.bool _) _); refine boolq ?_)
  | ((with_reducible show WA _ _ _ _ _ _ _ (_ :: _) _ _); refine wa_cons ?_ ?ks; (case ks => first | exact se_const _ _ _ _ _ | exact se_name _ _ _ _ | exact se_sub _ _ _ _ _ | exact se_binop _ _ _ _ _ _ | exact se_call _ _ _ _ _ _ | exact se_list _ _ _ _ | exact se_tuple _ _ _ _ _ | exact se_comp _ _ _ _ _ _ | rfl))
  | ((with_reducible show WA _ _ _ _ _ _ _ [] _ _); refine wa_nil ?_)
  | ((with_reducible show WS _ _ _ _ _ _ [] _ _); refine ws_nil ?_)
  | ((with_reducible show WX _ _ _ _ _ _ (Stmt.Return (some _) _) _ _); refine wx_return ?_)
  | ((with_reducible show WX _ _ _ _ _ _ (Stmt.Break _) _ _); refine wx_break ?_)
  | ((with_reducible show WX _ _ _ _ _ _ (Stmt.Continue _) _ _); refine wx_continue ?_)
  | ((with_reducible show WX _ _ _ _ _ _ (Stmt.Expr _ _) _ _); refine wx_expr ?_ ?ka ?kb; (case ka => rfl); (case kb => rfl))
  | ((with_reducible show WB _ _ _ _ _ _ (Expr.BoolOp BoolOp.And [_, _] _) _ _); refine wb_and2 ?_)
  | ((with_reducible show WB _ _ _ _ _ _ (Expr.UnaryOp UnaryOp.Not _ _) _ _); refine wb_not ?_)
  | ((with_reducible show WE _ _ _ _ _ _ (Expr.IfExp _ _ _ _) _ _); refine we_ifexp ?_)
  | ((with_reducible show WOp _ _ _ _ Operator.Add (V.int _) (V.int _) _ _); refine op_add ?_)
  | ((with_reducible show WOp _ _ _ _ Operator.Sub (V.int _) (V.int _) _ _); refine op_sub ?_)
  | ((with_reducible show WCmp _ _ _ _ CmpOp.Lt (V.int _) (V.int _) _ _); refine cmp_lt ?_)
  | ((with_reducible show WCmp _ _ _ _ CmpOp.Gt (V.int _) (V.int _) _ _); refine cmp_gt ?_)
  | ((with_reducible show WB _ _ _ _ _ _ (Expr.Compare _ [_, _] [_, _] _) _ _); refine wb_chain2 ?_ ?ks; (case ks => with_unfolding_all rfl))
  | ((with_reducible show WCmp _ _ _ _ CmpOp.LtE (V.int _) (V.int _) _ _); refine cmp_le ?_)
  | ((with_reducible show WCmp _ _ _ _ CmpOp.Eq (V.int _) (V.int _) _ _); refine cmp_eq ?_)
  | ((with_reducible show WCmp _ _ _ _ CmpOp.Is _ V.none _ _); refine cmp_is_none ?_)
  | ((with_reducible show WCmp _ _ _ _ CmpOp.IsNot _ V.none _ _); refine cmp_isnot_none ?_)
  | ((with_reducible show Seq _ _ _ _ _ _ _ Fl.brk _ _); refine seq_brk ?_)
  | ((with_reducible show Seq _ _ _ _ _ _ _ Fl.cont _ _); refine seq_cont ?_)
  | ((with_reducible show Seq _ _ _ _ _ _ _ (Fl.ret _) _ _); refine seq_ret ?_)
  | ((with_reducible show WhQ _ _ Fl.next _ _); refine whq_next ?_)
  | ((with_reducible show WhQ _ _ Fl.cont _ _); refine whq_cont ?_)
  | ((with_reducible show WhQ _ _ Fl.brk _ _); refine whq_brk ?_)
  | ((with_reducible show WhQ _ _ (Fl.ret _) _ _); refine whq_ret ?_)
  | ((with_reducible show RetQ _ Fl.next _ _); refine retq_next ?_)
  | ((with_reducible show RetQ _ (Fl.ret _) _ _); refine retq_ret ?_))
local macro_rules | `(tactic| ktr_unf) => `(tactic| (repeat ktr_rel))

section
open PySem PySem.W PySem.Calls PyProof.Rows
set_option autoImplicit false
namespace Mine
theorem fill2b : PySem.Challenge.rw_mg0010_02 = PySem.Challenge.rw_mg0010_02 ∧ Mine.hd2.heap_39 = Mine.hd2.heap_39 := by
  k_fill; exact ⟨rfl, rfl⟩
section
variable {w : World} {h₀ : Heap} {d : Nat} {σ : Store} {mg mb : Str → Option Value} {Q : V → Store → Prop}
def prs (p : Nat) : List (Int × Int) := [(((p / 5 : Nat) : Int) - 1, ((p % 5 : Nat) : Int)), (((p / 5 : Nat) : Int), ((p % 5 : Nat) : Int) - 1), (((p / 5 : Nat) : Int), ((p % 5 : Nat) : Int) + 1), (((p / 5 : Nat) : Int) + 1, ((p % 5 : Nat) : Int))]
def inR (q : Int × Int) : Bool := (decide (0 ≤ q.1) && decide (q.1 < 5)) && (decide (0 ≤ q.2) && decide (q.2 < 5))
def bes (p : Nat) : List Nat := ((prs p).filter inR).map fun q => (5 * q.1 + q.2).toNat
theorem bes_int (p : Nat) : intV (((prs p).filter inR).map fun q => 5 * q.1 + q.2) = natV (bes p) := by
  unfold bes intV natV
  rw [List.map_map, List.map_map]
  apply List.map_congr_left
  intro q hq
  have := (List.mem_filter.mp hq).2
  unfold inR at this
  simp only [Bool.and_eq_true, decide_eq_true_eq] at this
  show V.int _ = V.int _
  congr 1
  show 5 * q.1 + q.2 = (((5 * q.1 + q.2).toNat : Nat) : Int)
  omega
theorem bes_len (p : Nat) : (bes p).length ≤ 4 := by
  unfold bes
  rw [List.length_map]
  exact List.length_filter_le _ _
theorem bes_c (G : Glo h₀ mg mb) (X : (Mine.hd2.heap_39 w.params).In h₀) (hB : ∀ x : Str, x ≠ "__name__" → mb x = bootBuiltins x) {p : Nat} (hp : p < 25)
    (q : ∀ a, σ a = none → Q (.ref a) (upd σ a (.list (natV (bes p))))) : WCall P2 w h₀ (d + 1) (.ref 68) [.int p] σ Q := by
  refine WCall.drop ?_
  refine wcall_K G X (by k_is) (by k_is) (by rfl) ?_ (by decide) (by decide) rfl rfl rfl fun L => ?_
  · intro vs hvs
    rcases vs with _ | ⟨a, _ | _⟩ <;> first | rfl | (simp at hvs)
  have e1 : (p : Int).fdiv 5 = ((p / 5 : Nat) : Int) := by rw [Int.fdiv_eq_ediv_of_nonneg _ (by decide)]; omega
  have e2 : (p : Int).fmod 5 = ((p % 5 : Nat) : Int) := by rw [Int.fmod_eq_emod_of_nonneg _ (by decide)]; omega
  ktr_rel
  refine wx_unpack2 ?_ (Or.inl rfl) (Or.inl rfl) ?ks1 ?ks2
  case ks1 => with_unfolding_all rfl
  case ks2 => with_unfolding_all rfl
  ktr_unf
  refine wc_divmod (by decide) (by exact PyProof.noPylong_small (by omega)) fun t ht => ?_
  refine ⟨t, _, _, rfl, .inr (upd_same _ _ _), ?_⟩
  rw [e1, e2]
  ktr_unf
  refine we_list ?_
  refine wa_cons ?_ (se_list _ _ _ _)
  refine we_list ?_
  ktr_unf
  refine ⟨by rw [sizeLine_eq]; exact (by decide : 2 ≤ 16777216), fun a1 h1 => ?_⟩
  refine wa_cons ?_ (se_list _ _ _ _)
  refine we_list ?_
  ktr_unf
  refine ⟨by rw [sizeLine_eq]; exact (by decide : 2 ≤ 16777216), fun a2 h2 => ?_⟩
  refine wa_cons ?_ (se_list _ _ _ _)
  refine we_list ?_
  ktr_unf
  refine ⟨by rw [sizeLine_eq]; exact (by decide : 2 ≤ 16777216), fun a3 h3 => ?_⟩
  refine wa_cons ?_ (se_list _ _ _ _)
  refine we_list ?_
  ktr_unf
  refine ⟨by rw [sizeLine_eq]; exact (by decide : 2 ≤ 16777216), fun a4 h4 => ?_⟩
  ktr_unf
  refine ⟨by rw [sizeLine_eq]; exact (by decide : 4 ≤ 16777216), fun b hb => ?_⟩
  have s1 := sub_upd (o := .list [V.int (((p / 5 : Nat) : Int) - 1), .int ((p % 5 : Nat) : Int)]) h1
  have s2 := sub_upd (o := .list [V.int (((p / 5 : Nat) : Int)), .int (((p % 5 : Nat) : Int) - 1)]) h2
  have s3 := sub_upd (o := .list [V.int (((p / 5 : Nat) : Int)), .int (((p % 5 : Nat) : Int) + 1)]) h3
  have s4 := sub_upd (o := .list [V.int (((p / 5 : Nat) : Int) + 1), .int ((p % 5 : Nat) : Int)]) h4
  have s5 := sub_upd (o := .list [V.ref a1, .ref a2, .ref a3, .ref a4]) hb
  have hσ : Sub σ (upd (upd (upd (upd (upd (upd σ t (.tup [.int ((p / 5 : Nat) : Int), .int ((p % 5 : Nat) : Int)])) a1 (.list [V.int (((p / 5 : Nat) : Int) - 1), .int ((p % 5 : Nat) : Int)])) a2 (.list [V.int (((p / 5 : Nat) : Int)), .int (((p % 5 : Nat) : Int) - 1)])) a3 (.list [V.int (((p / 5 : Nat) : Int)), .int (((p % 5 : Nat) : Int) + 1)])) a4 (.list [V.int (((p / 5 : Nat) : Int) + 1), .int ((p % 5 : Nat) : Int)])) b (.list [V.ref a1, .ref a2, .ref a3, .ref a4])) :=
    (sub_upd ht).trans (s1.trans (s2.trans (s3.trans (s4.trans s5))))
  have f1 := s5 _ _ (s4 _ _ (s3 _ _ (s2 _ _ (upd_same _ _ _))))
  have f2 := s5 _ _ (s4 _ _ (s3 _ _ (upd_same _ _ _)))
  have f3 := s5 _ _ (s4 _ _ (upd_same _ _ _))
  have f4 := s5 _ _ (upd_same _ _ _)
  have f5 := upd_same (upd (upd (upd (upd (upd σ t (.tup [.int ((p / 5 : Nat) : Int), .int ((p % 5 : Nat) : Int)])) a1 (.list [V.int (((p / 5 : Nat) : Int) - 1), .int ((p % 5 : Nat) : Int)])) a2 (.list [V.int (((p / 5 : Nat) : Int)), .int (((p % 5 : Nat) : Int) - 1)])) a3 (.list [V.int (((p / 5 : Nat) : Int)), .int (((p % 5 : Nat) : Int) + 1)])) a4 (.list [V.int (((p / 5 : Nat) : Int) + 1), .int ((p % 5 : Nat) : Int)])) b (.list [V.ref a1, .ref a2, .ref a3, .ref a4])
  clear s1 s2 s3 s4 s5
  revert f1 f2 f3 f4 f5 hσ
  generalize upd (upd (upd (upd (upd (upd σ t _) a1 _) a2 _) a3 _) a4 _) b _ = σ₁
  intro hσ f1 f2 f3 f4 f5
  have hat : ∀ (i : Nat) (v : V), [V.ref a1, .ref a2, .ref a3, .ref a4][i]? = some v → ∃ ad q, v = .ref ad ∧ (prs p)[i]? = some q ∧ σ₁ ad = some (.list [.int q.1, .int q.2]) := fun i v hv => by
    rcases i with _ | _ | _ | _ | i
    · injection hv with hv; exact ⟨a1, _, hv.symm, rfl, f1⟩
    · injection hv with hv; exact ⟨a2, _, hv.symm, rfl, f2⟩
    · injection hv with hv; exact ⟨a3, _, hv.symm, rfl, f3⟩
    · injection hv with hv; exact ⟨a4, _, hv.symm, rfl, f4⟩
    · simp at hv
  ktr_unf
  refine' we_comp ?kB ?_ ?ks
  case ks => intro _; rfl
  case kB =>
    refine' ⟨?c1, ?c2, rfl, by decide, by decide⟩
    case c1 => with_unfolding_all exact rfl
    case c2 => repeat (first | exact List.forall_mem_nil _ | refine List.forall_mem_cons.mpr ⟨⟨rfl, rfl, fun _ => rfl⟩, ?_⟩)
  refine wi_list ?_
  ktr_unf
  refine ⟨b, _, rfl, f5, ?_⟩
  refine ⟨by rw [sizeLine_eq]; exact (by decide : 4 ≤ 16777216), fun i ys σ' => ys = intV ((((prs p).take i).filter inR).map fun q => 5 * q.1 + q.2) ∧ σ' = σ₁, ⟨rfl, rfl⟩, (by rintro i ys σ' ⟨_, rfl⟩; exact f5), ?_, ?_⟩
  · rintro i v ys σ' hv ⟨rfl, rfl⟩ Ca
    obtain ⟨ad, qq, rfl, hq, had⟩ := hat i v hv
    obtain ⟨u, z⟩ := qq
    refine ⟨_, asg_lst2 had rfl rfl, compturn1 ?_⟩
    have htake : (prs p).take (i + 1) = (prs p).take i ++ [(u, z)] := by rw [List.take_add_one, hq]; rfl
    have yes : inR (u, z) = true → (((prs p).take (i + 1)).filter inR).map (fun q => 5 * q.1 + q.2) = (((prs p).take i).filter inR).map (fun q => 5 * q.1 + q.2) ++ [5 * u + z] := fun h => by
      rw [htake, List.filter_append, List.map_append]; simp [h]
    have no : inR (u, z) = false → (((prs p).take (i + 1)).filter inR).map (fun q => 5 * q.1 + q.2) = (((prs p).take i).filter inR).map (fun q => 5 * q.1 + q.2) := fun h => by
      rw [htake, List.filter_append]; simp [h]
    ktr_unf
    by_cases c1 : 0 ≤ u
    · rw [decide_eq_true c1, if_pos rfl]
      ktr_unf
      by_cases c2 : u < 5
      · rw [decide_eq_true c2, if_pos rfl]
        ktr_unf
        by_cases c3 : 0 ≤ z
        · rw [decide_eq_true c3, if_pos rfl]
          ktr_unf
          by_cases c4 : z < 5
          · rw [decide_eq_true c4, if_pos rfl]
            ktr_unf
            refine op_mul ?_ (IntMulOk.of_left (intBits_le_64 (by decide) (by decide)))
            ktr_unf
            refine ⟨?_, rfl⟩
            rw [yes (by simp [inR, c1, c2, c3, c4])]
            simp [intV]
          · rw [decide_eq_false c4, if_neg (by simp)]
            exact ⟨by rw [no (by simp [inR, c4])], rfl⟩
        · rw [decide_eq_false c3, if_neg (by simp), if_neg (by simp)]
          exact ⟨by rw [no (by simp [inR, c3])], rfl⟩
      · rw [decide_eq_false c2, if_neg (by simp), if_neg (by simp)]
        exact ⟨by rw [no (by simp [inR, c2])], rfl⟩
    · rw [decide_eq_false c1, if_neg (by simp), if_neg (by simp), if_neg (by simp)]
      exact ⟨by rw [no (by simp [inR, c1])], rfl⟩
  · rintro ys σ' ⟨rfl, rfl⟩ D hD
    have e9 : (prs p).take ([V.ref a1, .ref a2, .ref a3, .ref a4] : List V).length = prs p := rfl
    rw [e9, bes_int]
    ktr_unf
    have hDσ : σ D = none := by
      cases z : σ D with
      | none => rfl
      | some o => rw [hσ D o z] at hD; cases hD
    refine ⟨_, fun c o e => ?_, q D hDσ⟩
    by_cases z : c = D
    · subst z; rw [upd_same] at e ⊢; exact e
    · rw [upd_ne _ _ z] at e ⊢; exact hσ c o e
end
end Mine
end
section
open PySem PySem.W PySem.Calls PyProof.Rows
set_option autoImplicit false
namespace Mine
theorem fill2c : PySem.Challenge.rw_mg0010_02 = PySem.Challenge.rw_mg0010_02 ∧ Mine.hd2.heap_39 = Mine.hd2.heap_39 := by
  k_fill; exact ⟨rfl, rfl⟩
section
variable {w : World} {h₀ : Heap} {d : Nat} {σ : Store} {mg mb : Str → Option Value} {Q : V → Store → Prop}
theorem ints_of2 : ∀ (vs : List V), (∀ v ∈ vs, ∃ i, v = V.int i) → ∃ ns, vs = intV ns ∧ ns.length = vs.length
  | [], _ => ⟨[], rfl, rfl⟩
  | v :: vs, h => by
    obtain ⟨i, rfl⟩ := h v List.mem_cons_self
    obtain ⟨ns, e, hl⟩ := ints_of2 vs fun u hu => h u (List.mem_cons_of_mem _ hu)
    exact ⟨i :: ns, by rw [e]; rfl, by simp [hl]⟩
def IsInts (n : Nat) (xs : List V) : Prop := ∃ ns : List Int, xs = intV ns ∧ ns.length = n
theorem IsInts.mk {n : Nat} {xs : List V} (h : ∀ v ∈ xs, ∃ i, v = V.int i) (hn : xs.length = n) : IsInts n xs := let ⟨ns, e, hl⟩ := ints_of2 xs h; ⟨ns, e, hl.trans hn⟩
theorem we_list_of {env : Env} {m : Loc} {elts : List Expr} {pos : Pos} (P : List V → Prop) (h : WA P2 w h₀ d env m pos elts σ fun xs σ₁ => xs.length ≤ sizeLine ∧ P xs ∧ ∀ xs', P xs' → ∀ a, σ₁ a = none → Q (.ref a) (upd σ₁ a (.list xs'))) : WE P2 w h₀ d env m (.List elts pos) σ Q :=
  we_list <| .mk fun A s a ok lk => wpAny_mono (h.run A s a ok lk) (fun _ _ ⟨xs, h', tk, σ', e, hv, st, ok', q⟩ => ⟨xs, h', tk, σ', e, hv, st, ok', q.1, fun a ha => q.2.2 xs q.2.1 a ha⟩) fun _ _ z => z
theorem intV_set (ns : List Int) (i : Nat) (x : Int) : (intV ns).set i (.int x) = intV (ns.set i x) := by simp [intV, List.map_set]
theorem sub_none {σ σ' : Store} (h : Sub σ σ') {a : Addr} (e : σ' a = none) : σ a = none := by
  cases z : σ a with
  | none => rfl
  | some o => rw [h a o z] at e; cases e
theorem Sub.upd_new {σ σ' : Store} (h : Sub σ σ') {a : Addr} (e : σ a = none) (o : O) : Sub σ (upd σ' a o) := fun b o' e' => by
  rw [upd_ne _ _ (fun z => by rw [z, e] at e'; cases e')]; exact h b o' e'
theorem Sub.give {σ σ' : Store} (h : Sub σ σ') {a : Addr} {o : O} (e : σ' a = some o) : Sub (upd σ a o) σ' := fun b o' e' => by
  by_cases z : b = a
  · subst z; rw [upd_same] at e'; rw [← e']; exact e
  · rw [upd_ne _ _ z] at e'; exact h b o' e'
theorem heights_c (G : Glo h₀ mg mb) (X : (Mine.hd2.heap_39 w.params).In h₀) (hB : ∀ x : Str, x ≠ "__name__" → mb x = bootBuiltins x) {nl : Addr} {ns : List Int} (hnl : σ nl = some (.list (intV ns))) (hn : ns.length ≤ 1000)
    (q : ∀ hs : List Int, hs.length = 25 → ∀ a, σ a = none → Q (.ref a) (upd σ a (.list (intV hs)))) : WCall P2 w h₀ (d + 1) (.ref 63) [.ref nl] σ Q := by
  refine WCall.drop ?_
  refine wcall_K G X (by k_is) (by k_is) (by rfl) ?_ (by decide) (by decide) rfl rfl rfl fun L => ?_
  · intro vs hvs
    rcases vs with _ | ⟨a, _ | _⟩ <;> first | rfl | (simp at hvs)
  ktr_unf
  refine we_list_of (IsInts 25) ?_
  ktr_unf
  refine ⟨by rw [sizeLine_eq]; decide, IsInts.mk ?_ (by rfl), ?_⟩
  · repeat (first | exact List.forall_mem_nil _ | refine List.forall_mem_cons.mpr ⟨⟨_, rfl⟩, ?_⟩)
  rintro xs' ⟨hs, rfl, hl'⟩ a ha
  ktr_unf
  refine wx_forL ?_ ?ks
  case ks => intro _; rfl
  refine wi_range G ?kn ?_ ?k1 ?k2
  case kn => exact gname_B G X hB (by k_is) (by rfl) (by decide)
  case k1 => rfl
  case k2 => rfl
  ktr_unf
  refine ⟨25, rfl, by omega, by omega, ?_⟩
  refine ⟨fun i => [("numbers", .ref nl), ("heights", .ref a)], fun i σ₁ => ∃ hs : List Int, hs.length = 25 ∧ σ₁ a = some (.list (intV hs)) ∧ Sub σ σ₁, .cons rfl (.cons rfl .nil),
    ⟨hs, hl', upd_same _ _ _, sub_upd ha⟩, fun _ _ _ => trivial, ?_, ?_⟩
  · rintro i v σ₁ hv ⟨hs, hhs, hσ, hsub⟩
    obtain ⟨hi, rfl⟩ := range_at (a := 0) hv
    have hi : i < 25 := hi
    refine ⟨_, asg_name rfl, ?_⟩
    ktr_unf
    refine we_slice_step (k := 25) (by decide) ?_ ?ks
    case ks => intro _ _; rfl
    ktr_unf
    refine ⟨nl, ns, _, rfl, hsub _ _ hnl, by rw [sizeLine_eq]; omega, rfl, rfl, fun ms hms c hc => ?_⟩
    ktr_unf
    refine wc_sum (upd_same _ _ _) fun v => ?_
    have hac : a ≠ c := fun z => by rw [← z, hσ] at hc; cases hc
    ktr_unf
    refine wx_augitem ?_
    ktr_unf
    have hσ' : upd σ₁ c (.list (intV ms)) a = some (.list (intV hs)) := by rw [upd_ne _ _ hac]; exact hσ
    refine ⟨a, i, _, _, rfl, rfl, hσ', by omega, by omega, by rw [Int.toNat_natCast]; exact intV_get (by omega), ?_⟩
    ktr_unf
    refine op_mod (by decide) ?_
    ktr_unf
    have hil : (i : Int).toNat < (intV hs).length := by rw [Int.toNat_natCast, intV_length]; omega
    have hsub' := fun o => (hsub.trans (sub_upd (o := .list (intV ms)) hc)).upd_new ha o
    cases hb : (v.fmod 4 == 0) with
    | true =>
      rw [if_pos rfl]
      ktr_unf
      refine op_floordiv (by decide) (PyProof.noPylong_small (by decide)) ?_
      refine ⟨_, _, rfl, hσ', hil, ?_⟩
      rw [Int.toNat_natCast, intV_set]
      ktr_unf
      exact ⟨.cons rfl (.cons rfl .nil), _, by simpa using hhs, upd_same _ _ _, hsub' _⟩
    | false =>
      rw [if_neg (by simp)]
      ktr_unf
      refine op_floordiv (by decide) (PyProof.noPylong_small (by decide)) ?_
      ktr_unf
      refine op_mod (by decide) ?_
      refine ⟨_, _, rfl, hσ', hil, ?_⟩
      rw [Int.toNat_natCast, intV_set]
      ktr_unf
      exact ⟨.cons rfl (.cons rfl .nil), _, by simpa using hhs, upd_same _ _ _, hsub' _⟩
  · rintro m₂ σ₂ hm₂ ⟨hs, hhs, hσ, hsub⟩
    refine seq_next (WS.has hm₂ ?_)
    ktr_unf
    exact ⟨_, hsub.give hσ, q hs hhs a ha⟩
end
end Mine
end
section
open PySem PySem.W PySem.Calls PyProof.Rows
set_option autoImplicit false
namespace Mine
theorem fill2d : PySem.Challenge.rw_mg0010_02 = PySem.Challenge.rw_mg0010_02 ∧ Mine.hd2.heap_39 = Mine.hd2.heap_39 := by
  k_fill; exact ⟨rfl, rfl⟩
section
variable {w : World} {h₀ : Heap} {d : Nat} {σ : Store} {mg mb : Str → Option Value} {Q : V → Store → Prop}
def minL (ns : List Int) : Int := ns.min?.getD 0
def maxL (ns : List Int) : Int := ns.max?.getD 0
theorem minL_eq {ns : List Int} {M : Int} (h1 : M ∈ ns) (h2 : ∀ a, a ∈ ns → M ≤ a) : M = minL ns := by
  have : ns.min? = some M := List.min?_eq_some_iff.mpr ⟨h1, fun b hb => h2 b hb⟩
  unfold minL; rw [this]; rfl
theorem maxL_eq {ns : List Int} {M : Int} (h1 : M ∈ ns) (h2 : ∀ a, a ∈ ns → a ≤ M) : M = maxL ns := by
  have : ns.max? = some M := List.max?_eq_some_iff.mpr ⟨h1, fun b hb => h2 b hb⟩
  unfold maxL; rw [this]; rfl
theorem bes_lt : ∀ p, p < 25 → ∀ n ∈ bes p, n < 25 := by decide
theorem bes_ne : ∀ p, p < 25 → bes p ≠ [] := by decide
def inn : List Nat := (List.range 25).filter fun k => decide ((bes k).length = 4)
theorem inn_lt {p : Nat} (h : p ∈ inn) : p < 25 := List.mem_range.mp (List.mem_filter.mp h).1
theorem inn_len : inn.length = 9 := by decide
def lev0 (f : List Int) : List Int := (List.range 25).map fun k => if k ∈ inn then maxL f else f.getD k 0
def low1 (f lv : List Int) (k : Nat) : List Int := lv.set k (max (f.getD k 0) (minL ((bes k).map fun n => lv.getD n 0)))
def lowN (f lv : List Int) (as : List Nat) : List Int := as.foldl (low1 f) lv
def lev (f : List Int) : Nat → List Int
  | 0 => lev0 f
  | t + 1 => lowN f (lev f t) inn
theorem low1_length (f lv : List Int) (k : Nat) : (low1 f lv k).length = lv.length := by simp [low1]
theorem lowN_length (f : List Int) : ∀ (as : List Nat) (lv : List Int), (lowN f lv as).length = lv.length
  | [], lv => rfl
  | k :: ks, lv => by
    show (lowN f (low1 f lv k) ks).length = _
    rw [lowN_length f ks, low1_length]
theorem lev_length (f : List Int) : ∀ t, (lev f t).length = 25
  | 0 => by simp [lev, lev0]
  | t + 1 => by rw [lev, lowN_length, lev_length f t]
theorem lowN_snoc (f lv : List Int) (as : List Nat) (k : Nat) : lowN f lv (as ++ [k]) = low1 f (lowN f lv as) k := by unfold lowN; rw [List.foldl_append]; rfl
theorem levels_c (G : Glo h₀ mg mb) (X : (Mine.hd2.heap_39 w.params).In h₀) (hB : ∀ x : Str, x ≠ "__name__" → mb x = bootBuiltins x) {fa : Addr} {f : List Int} (hf : σ fa = some (.list (intV f))) (hlen : f.length = 25)
    (q : ∀ a, σ a = none → Q (.ref a) (upd σ a (.list (intV (lev f 9))))) : WCall P2 w h₀ (d + 3) (.ref 73) [.ref fa] σ Q := by
  refine WCall.drop ?_
  refine wcall_K G X (by k_is) (by k_is) (by rfl) ?_ (by decide) (by decide) rfl rfl rfl fun L => ?_
  · intro vs hvs
    rcases vs with _ | ⟨a, _ | _⟩ <;> first | rfl | (simp at hvs)
  ktr_unf
  refine wc_max hf (by omega) fun M h1 h2 => ?_
  have hM : M = maxL f := maxL_eq h1 h2
  subst hM
  clear h1 h2
  ktr_unf
  refine' we_comp ?kB ?_ ?ks
  case ks => intro _; rfl
  case kB =>
    refine' ⟨?c1, ?c2, rfl, by decide, by decide⟩
    case c1 => with_unfolding_all exact rfl
    case c2 => repeat (first | exact List.forall_mem_nil _ | refine List.forall_mem_cons.mpr ⟨⟨rfl, rfl, fun _ => rfl⟩, ?_⟩)
  refine wi_range G ?kn ?_ ?k1 ?k2
  case kn => exact gname_B G X hB (by k_is) (by rfl) (by decide)
  case k1 => rfl
  case k2 => rfl
  ktr_unf
  refine ⟨25, rfl, by omega, by omega, ?_⟩
  refine ⟨by rw [sizeLine_eq]; decide, fun i ys σ₂ => ys = natV ((List.range i).filter fun k => decide ((bes k).length = 4)) ∧ Sub σ σ₂, ⟨rfl, Sub.refl _⟩, fun _ _ _ _ => trivial, ?_, ?_⟩
  · rintro i v ys σ₂ hv ⟨rfl, hs⟩ Ca
    obtain ⟨hi, rfl⟩ := range_at (a := 0) hv
    have hi : i < 25 := hi
    refine ⟨_, asg_name rfl, compturn1 ?_⟩
    ktr_unf
    refine bes_c (d := d + 1) G X hB hi fun a ha => ?_
    ktr_unf
    refine wc_len (upd_same _ _ _) (by rw [natV_length]; have := bes_len i; omega) ?_
    rw [natV_length]
    ktr_unf
    by_cases c : (bes i).length = 4
    · rw [show ((((bes i).length : Nat) : Int) == 4) = true by rw [c]; rfl, if_pos rfl]
      ktr_unf
      refine ⟨?_, hs.trans (sub_upd ha)⟩
      rw [List.range_succ, List.filter_append]
      simp [natV, c]
    · rw [show ((((bes i).length : Nat) : Int) == 4) = false by simp; omega, if_neg (by simp)]
      refine ⟨?_, hs.trans (sub_upd ha)⟩
      rw [List.range_succ, List.filter_append]
      simp [natV, c]
  · rintro ys σ₂ ⟨rfl, hs⟩ ia hia
    rw [rangeV_length]
    change WS P2 w h₀ (d + 2) _ _ _ (upd σ₂ ia (.list (natV inn))) _
    have hia' : σ ia = none := sub_none hs hia
    have hi3 : upd σ₂ ia (.list (natV inn)) ia = some (.list (natV inn)) := upd_same _ _ _
    have hs3 : Sub σ (upd σ₂ ia (.list (natV inn))) := hs.trans (sub_upd hia)
    revert hi3 hs3
    generalize upd σ₂ ia (.list (natV inn)) = σ₃
    intro hi3 hs3
    ktr_unf
    refine' we_comp ?kB ?_ ?ks
    case ks => intro _; rfl
    case kB =>
      refine' ⟨?c1, ?c2, rfl, by decide, by decide⟩
      case c1 => with_unfolding_all exact rfl
      case c2 => repeat (first | exact List.forall_mem_nil _ | refine List.forall_mem_cons.mpr ⟨⟨rfl, rfl, fun _ => rfl⟩, ?_⟩)
    refine wi_range G ?kn ?_ ?k1 ?k2
    case kn => exact gname_B G X hB (by k_is) (by rfl) (by decide)
    case k1 => rfl
    case k2 => rfl
    ktr_unf
    refine ⟨25, rfl, by omega, by omega, ?_⟩
    refine ⟨by rw [sizeLine_eq]; decide, fun i ys σ' => ys = intV ((List.range i).map fun k => if k ∈ inn then maxL f else f.getD k 0) ∧ σ' = σ₃, ⟨rfl, rfl⟩, fun _ _ _ _ => trivial, ?_, ?_⟩
    · rintro i v ys σ' hv ⟨rfl, rfl⟩ Ca
      obtain ⟨hi, rfl⟩ := range_at (a := 0) hv
      have hi : i < 25 := hi
      refine ⟨_, asg_name rfl, compturn0 ?_⟩
      ktr_unf
      refine cmp_in_nat hi3 ?_
      ktr_unf
      by_cases c : i ∈ inn
      · rw [decide_eq_true c, if_pos rfl]
        ktr_unf
        refine ⟨?_, rfl⟩
        rw [List.range_succ, List.map_append, List.map_singleton, if_pos c]
        simp [intV]
      · rw [decide_eq_false c, if_neg (by simp)]
        ktr_unf
        refine ⟨_, item_list (hs3 _ _ hf) (intV_get (by omega)) (by rw [intV_length]; omega), ?_, rfl⟩
        rw [List.range_succ, List.map_append, List.map_singleton, if_neg c]
        simp [intV]
    · rintro ys σ' ⟨rfl, rfl⟩ la hla
      rw [rangeV_length]
      change Seq P2 w h₀ (d + 2) _ _ _ _ _ (upd σ' la (.list (intV (lev f 0))))
      have hla' : σ la = none := sub_none hs3 hla
      have hil : ia ≠ la := fun z => by rw [← z, hi3] at hla; cases hla
      ktr_unf
      refine wx_forG ?_ ?ks
      case ks => intro _; rfl
      refine wi_range G ?kn ?_ ?k1 ?k2
      case kn => exact gname_B G X hB (by k_is) (by rfl) (by decide)
      case k1 => rfl
      case k2 => rfl
      ktr_unf
      refine wc_len (by rw [upd_ne _ _ hil]; exact hi3) (by rw [natV_length, inn_len]; decide) ?_
      rw [natV_length, inn_len]
      refine ⟨9, rfl, by omega, by omega, ?_⟩
      refine ⟨fun i m₂ σ₂ => Has m₂ [("heights", .ref fa), ("inner", .ref ia), ("levels", .ref la)] ∧ σ₂ la = some (.list (intV (lev f i))) ∧ σ₂ ia = some (.list (natV inn)) ∧ Sub σ σ₂,
        ⟨.cons rfl (.cons rfl (.cons rfl .nil)), upd_same _ _ _, by rw [upd_ne _ _ hil]; exact hi3, hs3.trans (sub_upd hla)⟩, fun _ _ _ _ => trivial, ?_, ?_⟩
      · rintro i v m₂ σ₂ hv ⟨hm, hσl, hσi, hsub⟩
        refine ⟨_, asg_name rfl, WS.has (hm.skip (by rfl)) ?_⟩
        ktr_unf
        refine wx_forL ?_ ?ks
        case ks => intro _; rfl
        refine wi_list ?_
        ktr_unf
        refine ⟨ia, _, rfl, hσi, ?_⟩
        refine ⟨fun j => [("heights", .ref fa), ("inner", .ref ia), ("levels", .ref la)], fun j σ₄ => σ₄ la = some (.list (intV (lowN f (lev f i) (inn.take j)))) ∧ σ₄ ia = some (.list (natV inn)) ∧ Sub σ σ₄,
          .cons rfl (.cons rfl (.cons rfl .nil)), ⟨hσl, hσi, hsub⟩, fun _ _ h => h.2.1, ?_, ?_⟩
        · rintro j v σ₄ hv ⟨g1, g2, g3⟩
          have hj : j < inn.length := by
            have := (List.getElem?_eq_some_iff.mp hv).1
            rw [natV_length] at this; exact this
          have hv' : v = .int ((inn[j] : Nat) : Int) := by
            rw [natV, List.getElem?_map, List.getElem?_eq_getElem hj] at hv
            injection hv with hv
            exact hv.symm
          subst hv'
          have hk25 : inn[j] < 25 := inn_lt (List.getElem_mem hj)
          have htake : inn.take (j + 1) = inn.take j ++ [inn[j]] := by rw [List.take_add_one, List.getElem?_eq_getElem hj]; rfl
          generalize inn[j] = k at hk25 htake
          have hlv : (lowN f (lev f i) (inn.take j)).length = 25 := by rw [lowN_length, lev_length]
          generalize hlve : lowN f (lev f i) (inn.take j) = lv at g1 hlv
          refine ⟨_, asg_name rfl, ?_⟩
          ktr_rel
          refine wx_setitem ?_ ?ks
          case ks => rfl
          refine WE.drop ?_
          ktr_unf
          refine ⟨_, item_list (g3 _ _ hf) (intV_get (by omega)) (by rw [intV_length]; omega), ?_⟩
          ktr_unf
          refine' we_comp ?kB ?_ ?ks
          case ks => intro _; rfl
          case kB =>
            refine' ⟨?c1, ?c2, rfl, by decide, by decide⟩
            case c1 => with_unfolding_all exact rfl
            case c2 => repeat (first | exact List.forall_mem_nil _ | refine List.forall_mem_cons.mpr ⟨⟨rfl, rfl, fun _ => rfl⟩, ?_⟩)
          refine wi_list ?_
          ktr_unf
          refine bes_c (d := d + 1) G X hB hk25 fun nl hnl => ?_
          have hbn : la ≠ nl := fun z => by rw [← z, g1] at hnl; cases hnl
          refine ⟨nl, _, rfl, upd_same _ _ _, ?_⟩
          refine ⟨by rw [natV_length, sizeLine_eq]; have := bes_len k; omega, fun r ys σ' => ys = intV (((bes k).take r).map fun n => lv.getD n 0) ∧ σ' = upd σ₄ nl (.list (natV (bes k))), ⟨by simp [intV], rfl⟩, (by rintro r ys σ' ⟨_, rfl⟩; exact upd_same _ _ _), ?_, ?_⟩
          · rintro r v ys σ' hv ⟨rfl, rfl⟩ Ca
            have hr : r < (bes k).length := by
              have := (List.getElem?_eq_some_iff.mp hv).1
              rw [natV_length] at this; exact this
            have hv' : v = .int (((bes k)[r] : Nat) : Int) := by
              rw [natV, List.getElem?_map, List.getElem?_eq_getElem hr] at hv
              injection hv with hv
              exact hv.symm
            subst hv'
            have hn : (bes k)[r] < 25 := bes_lt k hk25 _ (List.getElem_mem hr)
            refine ⟨_, asg_name rfl, compturn0 ?_⟩
            ktr_unf
            refine ⟨_, item_list (by rw [upd_ne _ _ hbn]; exact g1) (intV_get (by rw [hlv]; exact hn)) (by rw [intV_length, hlv]; decide), ?_, rfl⟩
            rw [List.take_add_one, List.getElem?_eq_getElem hr, List.map_append]
            simp only [intV, List.map_append, Option.toList_some, List.map_cons, List.map_nil]
          · rintro ys σ' ⟨rfl, rfl⟩ D hD
            rw [natV_length, List.take_length]
            ktr_unf
            refine wc_min (upd_same _ _ _) (by rw [List.length_map]; exact List.length_pos_iff.mpr (bes_ne k hk25)) fun M h1 h2 => ?_
            ktr_unf
            refine wc_max2 ?_
            refine ⟨_, (sub_upd hnl).trans (sub_upd hD), ?_⟩
            ktr_unf
            refine ⟨la, k, _, rfl, rfl, g1, by omega, by omega, by rw [Int.toNat_natCast, intV_length, hlv]; exact hk25, ?_⟩
            rw [Int.toNat_natCast, intV_set]
            ktr_unf
            have hal : ia ≠ la := hil
            refine ⟨.cons rfl (.cons rfl (.cons rfl .nil)), ?_, by rw [upd_ne _ _ hil]; exact g2, g3.upd_new hla' _⟩
            rw [upd_same, htake, lowN_snoc, hlve, minL_eq h1 h2]
            rfl
        · rintro m₃ σ₄ hm₃ ⟨g1, g2, g3⟩
          rw [natV_length, List.take_length] at g1
          refine seq_next (WS.has hm₃ ?_)
          ktr_unf
          exact ⟨.cons rfl (.cons rfl (.cons rfl .nil)), g1, g2, g3⟩
      · rintro m₂ σ₂ ⟨hm, hσl, hσi, hsub⟩
        rw [rangeV_length] at hσl
        refine seq_next (WS.has hm ?_)
        ktr_unf
        exact ⟨_, hsub.give hσl, q la hla'⟩
end
end Mine
end
section
set_option autoImplicit false
namespace Mine
/-! ## the plain law of 02: flooding from the rim gives what lowering in place gives -/
theorem bes_sym : ∀ p, p < 25 → ∀ n ∈ bes p, p ∈ bes n := by decide
theorem bes_nodup : ∀ p, p < 25 → (bes p).Nodup := by decide
theorem bes_rim' : ∀ p ∈ inn, ((bes p).any fun n => !decide (n ∈ inn) || (bes n).any fun k => !decide (k ∈ inn)) = true := by decide
theorem bes_rim (p : Nat) (_ : p < 25) (h : p ∈ inn) : ∃ n ∈ bes p, n ∉ inn ∨ ∃ k ∈ bes n, k ∉ inn := by
  obtain ⟨n, hn, e⟩ := List.any_eq_true.mp (bes_rim' p h)
  refine ⟨n, hn, ?_⟩
  rw [Bool.or_eq_true] at e
  rcases e with e | e
  · exact .inl (by simpa using e)
  · obtain ⟨k, hk, e⟩ := List.any_eq_true.mp e
    exact .inr ⟨k, hk, by simpa using e⟩
theorem minL_le {ns : List Int} {a : Int} (h : a ∈ ns) : minL ns ≤ a := by
  unfold minL
  cases e : ns.min? with
  | none => rw [List.min?_eq_none_iff] at e; subst e; cases h
  | some m => exact (List.min?_eq_some_iff.mp e).2 a h
theorem minL_mem {ns : List Int} (h : ns ≠ []) : minL ns ∈ ns := by
  unfold minL
  cases e : ns.min? with
  | none => rw [List.min?_eq_none_iff] at e; exact absurd e h
  | some m => exact (List.min?_eq_some_iff.mp e).1
theorem le_maxL {ns : List Int} {a : Int} (h : a ∈ ns) : a ≤ maxL ns := by
  unfold maxL
  cases e : ns.max? with
  | none => rw [List.max?_eq_none_iff] at e; subst e; cases h
  | some m => exact (List.max?_eq_some_iff.mp e).2 a h
theorem getD_le_maxL {f : List Int} {p : Nat} (h : p < f.length) : f.getD p 0 ≤ maxL f := by
  apply le_maxL
  rw [List.getD_eq_getElem?_getD, List.getElem?_eq_getElem h]
  exact List.getElem_mem h
/-- what a place would be lowered to -/
def val (f lv : List Int) (k : Nat) : Int := max (f.getD k 0) (minL ((bes k).map fun n => lv.getD n 0))
theorem low1_get {f lv : List Int} {k p : Nat} (hk : k < lv.length) : (low1 f lv k).getD p 0 = if k = p then val f lv k else lv.getD p 0 := by
  unfold low1 val
  rw [List.getD_eq_getElem?_getD, List.getElem?_set]
  by_cases e : k = p
  · subst e; simp [hk]
  · simp [e]
theorem val_le {f lv : List Int} {k n : Nat} (hn : n ∈ bes k) : val f lv k ≤ max (f.getD k 0) (lv.getD n 0) := by
  have : minL ((bes k).map fun n => lv.getD n 0) ≤ lv.getD n 0 := minL_le (List.mem_map_of_mem (f := fun n => lv.getD n 0) hn)
  unfold val; omega
theorem val_mem {f lv : List Int} {k : Nat} (hk : k < 25) : ∃ n ∈ bes k, val f lv k = max (f.getD k 0) (lv.getD n 0) := by
  have hm := minL_mem (ns := (bes k).map fun n => lv.getD n 0) (by simpa using bes_ne k hk)
  obtain ⟨n, hn, e⟩ := List.mem_map.mp hm
  exact ⟨n, hn, by unfold val; rw [← e]⟩
theorem val_mono {f u v : List Int} {k : Nat} (hk : k < 25) (h : ∀ p, p < 25 → u.getD p 0 ≤ v.getD p 0) : val f u k ≤ val f v k := by
  obtain ⟨n, hn, e⟩ := val_mem (f := f) (lv := v) hk
  rw [e]
  have h1 := val_le (f := f) (lv := u) hn
  have h2 := h n (bes_lt k hk n hn)
  omega
def Pst (f lv : List Int) : Prop := lv.length = 25 ∧ ∀ k ∈ inn, val f lv k ≤ lv.getD k 0
theorem low1_pst {f lv : List Int} (h : Pst f lv) {k : Nat} (hk : k ∈ inn) : Pst f (low1 f lv k) ∧ ∀ p, p < 25 → (low1 f lv k).getD p 0 ≤ lv.getD p 0 := by
  have hk25 : k < lv.length := by rw [h.1]; exact inn_lt hk
  have le : ∀ p, p < 25 → (low1 f lv k).getD p 0 ≤ lv.getD p 0 := fun p hp => by
    rw [low1_get hk25]
    split
    · rename_i e; subst e; exact h.2 k hk
    · exact Int.le_refl _
  refine ⟨⟨by rw [low1_length]; exact h.1, fun j hj => ?_⟩, le⟩
  have h1 := val_mono (f := f) (inn_lt hj) le
  rw [low1_get hk25]
  split
  · rename_i e; subst e; exact h1
  · exact Int.le_trans h1 (h.2 j hj)
theorem lowN_pst {f : List Int} : ∀ (as : List Nat) (lv : List Int), (∀ k ∈ as, k ∈ inn) → Pst f lv → Pst f (lowN f lv as) ∧ (∀ p, p < 25 → (lowN f lv as).getD p 0 ≤ lv.getD p 0) ∧ ∀ k ∈ as, ∀ n ∈ bes k, (lowN f lv as).getD k 0 ≤ max (f.getD k 0) (lv.getD n 0)
  | [], lv, _, h => ⟨h, fun _ _ => Int.le_refl _, fun k hk => nomatch hk⟩
  | a :: as, lv, ha, h => by
    have hai := ha a List.mem_cons_self
    have h1 := low1_pst h hai
    have ih := lowN_pst as (low1 f lv a) (fun k hk => ha k (List.mem_cons_of_mem _ hk)) h1.1
    have e : lowN f lv (a :: as) = lowN f (low1 f lv a) as := rfl
    rw [e]
    refine ⟨ih.1, fun p hp => Int.le_trans (ih.2.1 p hp) (h1.2 p hp), fun k hk n hn => ?_⟩
    rcases List.mem_cons.mp hk with rfl | hk
    · have h2 := ih.2.1 k (inn_lt hai)
      rw [low1_get (by rw [h.1]; exact inn_lt hai), if_pos rfl] at h2
      exact Int.le_trans h2 (val_le hn)
    · have h2 := ih.2.2 k hk n hn
      have h3 := h1.2 n (bes_lt k (inn_lt (ha k (List.mem_cons_of_mem _ hk))) n hn)
      omega
theorem lev0_get {f : List Int} {p : Nat} (h : p < 25) : (lev f 0).getD p 0 = if p ∈ inn then maxL f else f.getD p 0 := by
  unfold lev lev0
  rw [List.getD_eq_getElem?_getD, List.getElem?_map, List.getElem?_range h]; rfl
theorem lev0_le {f : List Int} (hf : f.length = 25) {p : Nat} (h : p < 25) : (lev f 0).getD p 0 ≤ maxL f := by
  rw [lev0_get h]
  split
  · exact Int.le_refl _
  · exact getD_le_maxL (by omega)
theorem lev_pst {f : List Int} (hf : f.length = 25) : ∀ t, Pst f (lev f t)
  | 0 => by
    refine ⟨lev_length f 0, fun k hk => ?_⟩
    obtain ⟨n, hn, e⟩ := val_mem (f := f) (lv := lev f 0) (inn_lt hk)
    rw [e, lev0_get (inn_lt hk), if_pos hk]
    have h1 := lev0_le hf (bes_lt k (inn_lt hk) n hn)
    have h2 : f.getD k 0 ≤ maxL f := getD_le_maxL (by have := inn_lt hk; omega)
    omega
  | t + 1 => (lowN_pst inn (lev f t) (fun _ h => h) (lev_pst hf t)).1
theorem lev_anti {f : List Int} (hf : f.length = 25) (t : Nat) {p : Nat} (hp : p < 25) : (lev f (t + 1)).getD p 0 ≤ (lev f t).getD p 0 := (lowN_pst inn (lev f t) (fun _ h => h) (lev_pst hf t)).2.1 p hp
theorem lev_step {f : List Int} (hf : f.length = 25) (t : Nat) {k n : Nat} (hk : k ∈ inn) (hn : n ∈ bes k) : (lev f (t + 1)).getD k 0 ≤ max (f.getD k 0) ((lev f t).getD n 0) := (lowN_pst inn (lev f t) (fun _ h => h) (lev_pst hf t)).2.2 k hk n hn
theorem lev_le {f : List Int} (hf : f.length = 25) {s t : Nat} (h : s ≤ t) {p : Nat} (hp : p < 25) : (lev f t).getD p 0 ≤ (lev f s).getD p 0 := by
  induction h with
  | refl => exact Int.le_refl _
  | step _ ih => exact Int.le_trans (lev_anti hf _ hp) ih
/-- nothing below what the places hold -/
theorem lowN_ge {f : List Int} {L : Nat → Int} (hL : ∀ k ∈ inn, ∀ n ∈ bes k, L k ≤ max (f.getD k 0) (L n)) : ∀ (as : List Nat) (lv : List Int), (∀ k ∈ as, k ∈ inn) → lv.length = 25 → (∀ p, p < 25 → L p ≤ lv.getD p 0) → ∀ p, p < 25 → L p ≤ (lowN f lv as).getD p 0
  | [], lv, _, _, h => h
  | a :: as, lv, ha, hl, h => by
    have hai := ha a List.mem_cons_self
    refine lowN_ge hL as (low1 f lv a) (fun k hk => ha k (List.mem_cons_of_mem _ hk)) (by rw [low1_length]; exact hl) fun p hp => ?_
    rw [low1_get (by rw [hl]; exact inn_lt hai)]
    split
    · rename_i e
      subst e
      obtain ⟨n, hn, e⟩ := val_mem (f := f) (lv := lv) (inn_lt hai)
      rw [e]
      have h1 := hL a hai n hn
      have h2 := h n (bes_lt a (inn_lt hai) n hn)
      omega
    · exact h p hp
theorem lev_ge {f : List Int} {L : Nat → Int} (hL : ∀ k ∈ inn, ∀ n ∈ bes k, L k ≤ max (f.getD k 0) (L n)) (h0 : ∀ p, p < 25 → L p ≤ (lev f 0).getD p 0) : ∀ t p, p < 25 → L p ≤ (lev f t).getD p 0
  | 0, p, hp => h0 p hp
  | t + 1, p, hp => lowN_ge hL inn (lev f t) (fun _ h => h) (lev_length f t) (lev_ge hL h0 t) p hp

/-! ## the flood's invariant -/
structure FInv (f : List Int) (xs told : List It) (seen : List Nat) (before : Int) : Prop where
  ord : Ord 0 xs
  item : ∀ x ∈ told ++ xs, ∃ p : Nat, x.p = p ∧ p < 25
  nodup : ((told ++ xs).map (·.p)).Nodup
  seenI : ∀ p : Nat, p ∈ seen ↔ ∃ x ∈ told ++ xs, x.p = (p : Int)
  seenN : seen.Nodup
  low : ∀ x ∈ xs, before ≤ x.h
  toldS : told.Pairwise fun x y => x.h ≤ y.h
  toldB : ∀ x ∈ told, x.h ≤ before
  T : ∀ x ∈ told ++ xs, ∀ p : Nat, x.p = p → p ∈ inn → x.h ≤ max (f.getD p 0) before
  P : ∀ x ∈ told, ∀ p : Nat, x.p = p → ∀ n ∈ bes p, ∃ y ∈ told ++ xs, y.p = (n : Nat) ∧ (n ∈ inn → y.h ≤ max (f.getD n 0) x.h)
  D : ∃ c, c + 16 ≤ seen.length ∧ ∀ x ∈ told ++ xs, ∀ p : Nat, x.p = p → (lev f c).getD p 0 ≤ x.h
  U : ∀ x ∈ told ++ xs, x.h ≤ maxL f
  R : ∀ p, p < 25 → p ∉ inn → ∃ x ∈ told ++ xs, x.p = (p : Nat) ∧ x.h = f.getD p 0
theorem FInv.seenLt {f : List Int} {xs told : List It} {seen : List Nat} {b : Int} (I : FInv f xs told seen b) : ∀ p ∈ seen, p < 25 := fun p hp => by
  obtain ⟨x, hx, e⟩ := (I.seenI p).mp hp
  obtain ⟨q, e', hq⟩ := I.item x hx
  omega
theorem nodup_len {l : List Nat} (h : l.Nodup) (hl : ∀ p ∈ l, p < 25) : l.length ≤ 25 := by
  have key : ∀ (n : Nat) (l : List Nat), l.Nodup → (∀ p ∈ l, p < n) → l.length ≤ n := fun n => by
    induction n with
    | zero =>
      intro l _ hl
      cases l with
      | nil => exact Nat.le_refl _
      | cons a l => exact absurd (hl a List.mem_cons_self) (Nat.not_lt_zero _)
    | succ n ih =>
      intro l hn hl
      have := ih (l.erase n) (hn.erase n) fun p hp => by
        have h1 := hn.mem_erase_iff.mp hp
        have h2 := hl p h1.2
        have h3 := h1.1
        omega
      rw [List.length_erase] at this
      split at this <;> omega
  exact key 25 l h hl
theorem FInv.seenLen {f : List Int} {xs told : List It} {seen : List Nat} {b : Int} (I : FInv f xs told seen b) : seen.length ≤ 25 := nodup_len I.seenN I.seenLt
/-- the places that a turn brings -/
def fresh (seen : List Nat) (p : Nat) : List Nat := (bes p).filter fun n => !decide (n ∈ seen)
theorem It.le_h {x y : It} (h : It.le x y) : x.h ≤ y.h := by rw [It.le_iff] at h; omega
theorem nodup_inj {l : List It} (h : (l.map (·.p)).Nodup) {x y : It} (hx : x ∈ l) (hy : y ∈ l) (e : x.p = y.p) : x = y := by
  induction l with
  | nil => cases hx
  | cons a l ih =>
    rw [List.map_cons, List.nodup_cons] at h
    rcases List.mem_cons.mp hx with hx1 | hx1
    · rcases List.mem_cons.mp hy with hy1 | hy1
      · rw [hx1, hy1]
      · exact absurd (List.mem_map.mpr ⟨y, hy1, by rw [← e, hx1]⟩) h.1
    · rcases List.mem_cons.mp hy with hy1 | hy1
      · exact absurd (List.mem_map.mpr ⟨x, hx1, by rw [e, hy1]⟩) h.1
      · exact ih h.2 hx1 hy1
theorem finv_turn {f : List Int} (hf : f.length = 25) {xs xs' its told : List It} {seen : List Nat} {before : Int} (I : FInv f xs told seen before) (hne : 0 < xs.length) {p0 : Nat} (hp0 : (nth xs 0).p = p0)
    (hits : its.map (fun x => (x.h, x.p)) = (fresh seen p0).map fun n => (max (nth xs 0).h (f.getD n 0), ((n : Nat) : Int)))
    (hperm : (nth xs 0 :: xs').Perm (xs ++ its)) (hord : Ord 0 xs') :
    FInv f xs' (told ++ [nth xs 0]) (seen ++ fresh seen p0) (nth xs 0).h ∧
      xs'.length + 2 * (25 - (seen ++ fresh seen p0).length) < xs.length + 2 * (25 - seen.length) := by
  have htop : nth xs 0 ∈ xs := by rw [nth_eq hne]; exact List.getElem_mem hne
  generalize ht : nth xs 0 = top at *
  have htop' : top ∈ told ++ xs := List.mem_append_right _ htop
  obtain ⟨q0, e0, hq0⟩ := I.item top htop'
  have : q0 = p0 := by rw [hp0] at e0; omega
  subst this
  have hb : before ≤ top.h := I.low top htop
  have hfr : ∀ n ∈ fresh seen q0, n ∈ bes q0 ∧ n < 25 ∧ n ∉ seen := fun n hn => by
    have := List.mem_filter.mp hn
    exact ⟨this.1, bes_lt q0 hq0 n this.1, by simpa using this.2⟩
  have pall : (told ++ [top] ++ xs').Perm (told ++ xs ++ its) := by
    rw [List.append_assoc, List.append_assoc]
    exact List.Perm.append_left told hperm
  have mem : ∀ x, x ∈ told ++ [top] ++ xs' ↔ x ∈ told ++ xs ∨ x ∈ its := fun x => by
    rw [pall.mem_iff, List.mem_append]
  have hnew : ∀ x ∈ its, ∃ n ∈ fresh seen q0, x.p = ((n : Nat) : Int) ∧ x.h = max top.h (f.getD n 0) := fun x hx => by
    have : (x.h, x.p) ∈ (fresh seen q0).map fun n => (max top.h (f.getD n 0), ((n : Nat) : Int)) := by rw [← hits]; exact List.mem_map_of_mem (f := fun x : It => (x.h, x.p)) hx
    obtain ⟨n, hn, e⟩ := List.mem_map.mp this
    injection e with e1 e2
    exact ⟨n, hn, e2.symm, e1.symm⟩
  have hnew' : ∀ n ∈ fresh seen q0, ∃ x ∈ its, x.p = ((n : Nat) : Int) ∧ x.h = max top.h (f.getD n 0) := fun n hn => by
    have : (max top.h (f.getD n 0), ((n : Nat) : Int)) ∈ its.map (fun x => (x.h, x.p)) := by rw [hits]; exact List.mem_map_of_mem (f := fun n : Nat => (max top.h (f.getD n 0), ((n : Nat) : Int))) hn
    obtain ⟨x, hx, e⟩ := List.mem_map.mp this
    injection e with e1 e2
    exact ⟨x, hx, e2, e1⟩
  have hps : its.map (fun x => x.p) = (fresh seen q0).map fun (n : Nat) => (n : Int) := by
    have := congrArg (List.map Prod.snd) hits
    rw [List.map_map, List.map_map] at this
    exact this
  have hnd : (fresh seen q0).Nodup := (bes_nodup q0 hq0).filter _
  have hlen := hperm.length_eq
  simp only [List.length_cons, List.length_append] at hlen
  have hil : its.length = (fresh seen q0).length := by have := congrArg List.length hits; simpa using this
  have seenN' : (seen ++ fresh seen q0).Nodup := by
    rw [List.nodup_append]
    exact ⟨I.seenN, hnd, fun a ha b hb e => by subst e; exact (hfr a hb).2.2 ha⟩
  have seenLt' : ∀ p ∈ seen ++ fresh seen q0, p < 25 := fun p hp => by
    rcases List.mem_append.mp hp with h | h
    · exact I.seenLt p h
    · exact (hfr p h).2.1
  have hs25 := nodup_len seenN' seenLt'
  rw [List.length_append] at hs25
  refine ⟨⟨hord, fun x hx => ?_, ?_, fun p => ?_, seenN', fun x hx => ?_, ?_, fun x hx => ?_, fun x hx p hp hi => ?_, fun x hx p hp n hn => ?_, ?_, fun x hx => ?_, fun p hp hr => ?_⟩, by rw [List.length_append]; omega⟩
  · rcases (mem x).mp hx with h | h
    · exact I.item x h
    · obtain ⟨n, hn, e1, _⟩ := hnew x h
      exact ⟨n, e1, (hfr n hn).2.1⟩
  · have p2 := pall.map (fun x : It => x.p)
    refine p2.nodup_iff.mpr ?_
    rw [List.map_append, hps, List.nodup_append]
    refine ⟨I.nodup, ?_, fun a ha b hb e => ?_⟩
    · rw [List.nodup_iff_pairwise_ne] at hnd ⊢
      rw [List.pairwise_map]
      exact hnd.imp fun h z => h (by omega)
    · subst e
      obtain ⟨x, hx, e1⟩ := List.mem_map.mp ha
      obtain ⟨n, hn, e2⟩ := List.mem_map.mp hb
      exact (hfr n hn).2.2 ((I.seenI n).mpr ⟨x, hx, by rw [e1, e2]⟩)
  · rw [List.mem_append]
    constructor
    · rintro (h | h)
      · obtain ⟨x, hx, e⟩ := (I.seenI p).mp h
        exact ⟨x, (mem x).mpr (.inl hx), e⟩
      · obtain ⟨x, hx, e, _⟩ := hnew' p h
        exact ⟨x, (mem x).mpr (.inr hx), e⟩
    · rintro ⟨x, hx, e⟩
      rcases (mem x).mp hx with h | h
      · exact .inl ((I.seenI p).mpr ⟨x, h, e⟩)
      · obtain ⟨n, hn, e1, _⟩ := hnew x h
        have : n = p := by omega
        subst this
        exact .inr hn
  · have := hperm.mem_iff.mp (List.mem_cons_of_mem _ hx)
    rcases List.mem_append.mp this with h | h
    · have := ord_min I.ord h
      rw [ht] at this
      exact It.le_h this
    · obtain ⟨n, hn, e1, e2⟩ := hnew x h
      omega
  · rw [List.pairwise_append]
    refine ⟨I.toldS, by simp, fun a ha b hb' => ?_⟩
    rw [List.mem_singleton] at hb'
    subst hb'
    have := I.toldB a ha
    omega
  · rcases List.mem_append.mp hx with h | h
    · have := I.toldB x h; omega
    · rw [List.mem_singleton] at h; subst h; exact Int.le_refl _
  · rcases (mem x).mp hx with h | h
    · have := I.T x h p hp hi; omega
    · obtain ⟨n, hn, e1, e2⟩ := hnew x h
      have : n = p := by omega
      subst this
      omega
  · rcases List.mem_append.mp hx with h | h
    · obtain ⟨y, hy, e1, e2⟩ := I.P x h p hp n hn
      exact ⟨y, (mem y).mpr (.inl hy), e1, e2⟩
    · rw [List.mem_singleton] at h
      subst h
      have : p = q0 := by omega
      subst this
      by_cases hs : n ∈ seen
      · obtain ⟨y, hy, e⟩ := (I.seenI n).mp hs
        refine ⟨y, (mem y).mpr (.inl hy), e, fun hi => ?_⟩
        have := I.T y hy n e hi
        omega
      · obtain ⟨y, hy, e1, e2⟩ := hnew' n (List.mem_filter.mpr ⟨hn, by simpa using hs⟩)
        exact ⟨y, (mem y).mpr (.inr hy), e1, fun _ => by omega⟩
  · obtain ⟨c, hc, hD⟩ := I.D
    by_cases hz : fresh seen q0 = []
    · refine ⟨c, by rw [hz]; simpa using hc, fun x hx p hp => ?_⟩
      rcases (mem x).mp hx with h | h
      · exact hD x h p hp
      · obtain ⟨n, hn, _⟩ := hnew x h
        rw [hz] at hn; cases hn
    · have hpos : 0 < (fresh seen q0).length := List.length_pos_iff.mpr hz
      refine ⟨c + 1, by rw [List.length_append]; omega, fun x hx p hp => ?_⟩
      rcases (mem x).mp hx with h | h
      · obtain ⟨q, e, hq⟩ := I.item x h
        have : q = p := by omega
        subst this
        exact Int.le_trans (lev_anti hf c hq) (hD x h q hp)
      · obtain ⟨n, hn, e1, e2⟩ := hnew x h
        have : n = p := by omega
        subst this
        have hz' := hfr n hn
        have hi : n ∈ inn := Classical.byContradiction fun hi => by
          obtain ⟨y, hy, e, _⟩ := I.R n hz'.2.1 hi
          exact hz'.2.2 ((I.seenI n).mpr ⟨y, hy, e⟩)
        have h1 := lev_step hf c hi (bes_sym q0 hq0 n hz'.1)
        have h2 := hD top htop' q0 e0
        omega
  · rcases (mem x).mp hx with h | h
    · exact I.U x h
    · obtain ⟨n, hn, e1, e2⟩ := hnew x h
      have h1 := I.U top htop'
      have h2 : f.getD n 0 ≤ maxL f := getD_le_maxL (by have := (hfr n hn).2.1; omega)
      omega
  · obtain ⟨x, hx, e⟩ := I.R p hp hr
    exact ⟨x, (mem x).mpr (.inl hx), e⟩
theorem finv_end {f : List Int} (hf : f.length = 25) {told : List It} {seen : List Nat} {before : Int} (I : FInv f [] told seen before) :
    (told.map fun x => x.p).Perm ((List.range 25).map fun (n : Nat) => (n : Int)) ∧ (∀ x ∈ told, ∀ p : Nat, x.p = p → x.h = (lev f 9).getD p 0) ∧ told.Pairwise fun x y => x.h ≤ y.h := by
  have hn : (told.map (·.p)).Nodup := by have := I.nodup; rwa [List.append_nil] at this
  have hit : ∀ x ∈ told, ∃ p : Nat, x.p = p ∧ p < 25 := fun x hx => I.item x (by rwa [List.append_nil])
  have rim : ∀ p, p < 25 → p ∉ inn → ∃ x ∈ told, x.p = (p : Nat) ∧ x.h = f.getD p 0 := fun p hp hr => by
    obtain ⟨x, hx, e⟩ := I.R p hp hr
    rw [List.append_nil] at hx
    exact ⟨x, hx, e⟩
  have nb : ∀ x ∈ told, ∀ p : Nat, x.p = p → ∀ n ∈ bes p, ∃ y ∈ told, y.p = (n : Nat) ∧ (n ∈ inn → y.h ≤ max (f.getD n 0) x.h) := fun x hx p hp n hn => by
    obtain ⟨y, hy, e⟩ := I.P x hx p hp n hn
    rw [List.append_nil] at hy
    exact ⟨y, hy, e⟩
  have all : ∀ p : Nat, p < 25 → ∃ x ∈ told, x.p = (p : Nat) := fun p hp => by
    by_cases hi : p ∈ inn
    · obtain ⟨n, hn, h⟩ := bes_rim p hp hi
      have hn25 := bes_lt p hp n hn
      have hx : ∃ x ∈ told, x.p = (n : Nat) := by
        rcases h with h | ⟨k, hk, h⟩
        · obtain ⟨x, hx, e, _⟩ := rim n hn25 h; exact ⟨x, hx, e⟩
        · obtain ⟨x, hx, e, _⟩ := rim k (bes_lt n hn25 k hk) h
          obtain ⟨y, hy, e2, _⟩ := nb x hx k e n (bes_sym n hn25 k hk)
          exact ⟨y, hy, e2⟩
      obtain ⟨x, hx, e⟩ := hx
      obtain ⟨y, hy, e2, _⟩ := nb x hx n e p (bes_sym p hp n hn)
      exact ⟨y, hy, e2⟩
    · obtain ⟨x, hx, e, _⟩ := rim p hp hi; exact ⟨x, hx, e⟩
  have uniq : ∀ x ∈ told, ∀ y ∈ told, x.p = y.p → x = y := fun x hx y hy e => nodup_inj hn hx hy e
  refine ⟨?_, fun x hx p hp => ?_, I.toldS⟩
  · rw [List.perm_ext_iff_of_nodup hn]
    · intro a
      constructor
      · intro h
        obtain ⟨x, hx, rfl⟩ := List.mem_map.mp h
        obtain ⟨p, e, hp⟩ := hit x hx
        exact List.mem_map.mpr ⟨p, List.mem_range.mpr hp, e.symm⟩
      · intro h
        obtain ⟨p, hp, rfl⟩ := List.mem_map.mp h
        obtain ⟨x, hx, e⟩ := all p (List.mem_range.mp hp)
        exact List.mem_map.mpr ⟨x, hx, e⟩
    · decide
  · obtain ⟨p', e', hp25⟩ := hit x hx
    have : p' = p := by omega
    subst this
    obtain ⟨c, hc, hD⟩ := I.D
    have hsl := I.seenLen
    have h1 := hD x (by rwa [List.append_nil]) p' hp
    have h2 := lev_le hf (show c ≤ 9 by omega) hp25
    -- the other way
    have hex : ∀ p : Nat, ∃ v : Int, p < 25 → ∃ x ∈ told, x.p = (p : Nat) ∧ x.h = v := fun p => by
      by_cases hp : p < 25
      · obtain ⟨x, hx, e⟩ := all p hp; exact ⟨x.h, fun _ => ⟨x, hx, e, rfl⟩⟩
      · exact ⟨0, fun h => absurd h hp⟩
    let L : Nat → Int := fun p => Classical.choose (hex p)
    have hL : ∀ p, p < 25 → ∃ x ∈ told, x.p = (p : Nat) ∧ x.h = L p := fun p => Classical.choose_spec (hex p)
    have g1 : ∀ k ∈ inn, ∀ n ∈ bes k, L k ≤ max (f.getD k 0) (L n) := fun k hk n hn => by
      have hk25 := inn_lt hk
      have hn25 := bes_lt k hk25 n hn
      obtain ⟨x, hx, ex, hx'⟩ := hL k hk25
      obtain ⟨y, hy, ey, hy'⟩ := hL n hn25
      obtain ⟨z, hz, ez, h⟩ := nb y hy n ey k (bes_sym k hk25 n hn)
      have : z = x := uniq z hz x hx (by rw [ez, ex])
      subst this
      have := h hk
      rw [← hx', ← hy']; exact this
    have g2 : ∀ p, p < 25 → L p ≤ (lev f 0).getD p 0 := fun p hp => by
      obtain ⟨x, hx, ex, hx'⟩ := hL p hp
      rw [lev0_get hp, ← hx']
      split
      · exact I.U x (by rwa [List.append_nil])
      · rename_i hi
        obtain ⟨y, hy, ey, hy'⟩ := rim p hp hi
        have : x = y := uniq x hx y hy (by rw [ex, ey])
        subst this
        rw [hy']; exact Int.le_refl _
    have h3 := lev_ge g1 g2 9 p' hp25
    obtain ⟨y, hy, ey, hy'⟩ := hL p' hp25
    have : y = x := uniq y hy x hx (by rw [ey, hp])
    subst this
    omega
end Mine
end
section
open PySem PySem.W PySem.Calls PyProof.Rows
set_option autoImplicit false
namespace Mine
/-! ## what the sort's tree of questions answers, all keys apart -/
def runT {α : Type} (lt : Nat → Nat → Bool) : KasT α → α
  | .ret a => a
  | .ask i j k => runT lt (k (lt i j))
theorem runT_bind {α β : Type} (lt : Nat → Nat → Bool) (f : α → KasT β) : ∀ t : KasT α, runT lt (t.bind f) = runT lt (f (runT lt t))
  | .ret _ => rfl
  | .ask i j k => runT_bind lt f (k (lt i j))
/-- questions that are answered by lt and change nothing -/
theorem wpT {α : Type} {cmp : Nat → Nat → (Bool → Shared → Prop) → Shared → Prop} {lt : Nat → Nat → Bool} {s : Shared} (h : ∀ i j C, C (lt i j) s → cmp i j C s) {Q : α → Shared → Prop} : ∀ t : KasT α, Q (runT lt t) s → t.kasWp cmp Q s
  | .ret _, q => q
  | .ask i j k, q => h i j _ (wpT h (k (lt i j)) q)
section
variable (key : Nat → Int)
def ltK (i j : Nat) : Bool := decide (key i < key j)
def ky (p : Array Nat) (i : Nat) : Int := key (p.getD i 0)
variable {key}
theorem ky_congr {p q : Array Nat} {i j : Nat} (h : p[i]? = q[j]?) : ky key p i = ky key q j := by
  unfold ky; rw [Array.getD_eq_getD_getElem?, Array.getD_eq_getD_getElem?, h]
theorem ltK_ky (p : Array Nat) (i j : Nat) : ltK key (p.getD i 0) (p.getD j 0) = decide (ky key p i < ky key p j) := rfl
/-- apart -/
def Apart (key : Nat → Int) (p : Array Nat) : Prop := ∀ i j, i < p.size → j < p.size → ky key p i = ky key p j → i = j
theorem asc_run (p : Array Nat) : ∀ (f n : Nat), n ≤ runT (ltK key) (kas_asc p f n) ∧ runT (ltK key) (kas_asc p f n) ≤ n + f ∧ (∀ i, n ≤ i → i < runT (ltK key) (kas_asc p f n) → ky key p (i - 1) ≤ ky key p i) ∧
      (runT (ltK key) (kas_asc p f n) < n + f → ky key p (runT (ltK key) (kas_asc p f n)) < ky key p (runT (ltK key) (kas_asc p f n) - 1))
  | 0, n => ⟨Nat.le_refl _, Nat.le_refl _, fun i h1 h2 => absurd h2 (Nat.not_lt.mpr h1), fun h => absurd h (Nat.lt_irrefl _)⟩
  | f + 1, n => by
    have e : runT (ltK key) (kas_asc p (f + 1) n) = if ky key p n < ky key p (n - 1) then n else runT (ltK key) (kas_asc p f (n + 1)) := by
      show runT (ltK key) (if ltK key (p.getD n 0) (p.getD (n - 1) 0) = true then KasT.ret n else kas_asc p f (n + 1)) = _
      rw [ltK_ky]
      by_cases c : ky key p n < ky key p (n - 1)
      · rw [decide_eq_true c, if_pos rfl, if_pos c]; rfl
      · rw [decide_eq_false c, if_neg (by simp), if_neg c]
    rw [e]
    by_cases c : ky key p n < ky key p (n - 1)
    · rw [if_pos c]
      exact ⟨Nat.le_refl _, by omega, fun i h1 h2 => absurd h2 (Nat.not_lt.mpr h1), fun _ => c⟩
    · rw [if_neg c]
      obtain ⟨h1, h2, h3, h4⟩ := asc_run p f (n + 1)
      refine ⟨by omega, by omega, fun i a b => ?_, fun h => h4 (by omega)⟩
      by_cases z : i = n
      · subst z; omega
      · exact h3 i (by omega) b
theorem desc_run {p : Array Nat} (hd : Apart key p) : ∀ (f n : Nat), 1 ≤ n → n + f ≤ p.size → ∃ m, runT (ltK key) (kas_desc f p n 0) = (p, m, 0) ∧ n ≤ m ∧ m ≤ n + f ∧ ∀ i, n ≤ i → i < m → ky key p i < ky key p (i - 1)
  | 0, n, _, _ => ⟨n, rfl, Nat.le_refl _, Nat.le_refl _, fun i h1 h2 => absurd h2 (Nat.not_lt.mpr h1)⟩
  | f + 1, n, h1, hz => by
    have e : runT (ltK key) (kas_desc (f + 1) p n 0) = if ky key p n < ky key p (n - 1) then runT (ltK key) (kas_desc f p (n + 1) 0) else if ky key p (n - 1) < ky key p n then (p, n, 0) else runT (ltK key) (kas_desc f p (n + 1) 1) := by
      show runT (ltK key) (if ltK key (p.getD n 0) (p.getD (n - 1) 0) = true then (if 0 > 0 then kas_desc f (kas_rev p (n - (0 + 1)) n) (n + 1) 0 else kas_desc f p (n + 1) 0)
        else .ask (p.getD (n - 1) 0) (p.getD n 0) fun d => if d = true then .ret (p, n, 0) else kas_desc f p (n + 1) (0 + 1)) = _
      rw [ltK_ky]
      by_cases c : ky key p n < ky key p (n - 1)
      · rw [decide_eq_true c, if_pos rfl, if_pos c, if_neg (Nat.lt_irrefl 0)]
      · rw [decide_eq_false c, if_neg (by simp), if_neg c]
        show runT (ltK key) (if ltK key (p.getD (n - 1) 0) (p.getD n 0) = true then .ret (p, n, 0) else kas_desc f p (n + 1) (0 + 1)) = _
        rw [ltK_ky]
        by_cases c2 : ky key p (n - 1) < ky key p n
        · rw [decide_eq_true c2, if_pos rfl, if_pos c2]; rfl
        · rw [decide_eq_false c2, if_neg (by simp), if_neg c2]
    rw [e]
    by_cases c : ky key p n < ky key p (n - 1)
    · rw [if_pos c]
      obtain ⟨m, e1, e2, e3, e4⟩ := desc_run hd f (n + 1) (by omega) (by omega)
      refine ⟨m, e1, by omega, by omega, fun i a b => ?_⟩
      by_cases z : i = n
      · subst z; exact c
      · exact e4 i (by omega) b
    · have c2 : ky key p (n - 1) < ky key p n := by
        have : ky key p (n - 1) ≠ ky key p n := fun z => by have := hd (n - 1) n (by omega) (by omega) z; omega
        omega
      rw [if_neg c, if_pos c2]
      exact ⟨n, rfl, Nat.le_refl _, by omega, fun i h1 h2 => absurd h2 (Nat.not_lt.mpr h1)⟩
/-- the first k in order -/
def Upto (key : Nat → Int) (p : Array Nat) (k : Nat) : Prop := ∀ i, 1 ≤ i → i < k → ky key p (i - 1) ≤ ky key p i
theorem Upto.le {p : Array Nat} {k : Nat} (h : Upto key p k) {i j : Nat} (hij : i ≤ j) (hj : j < k) : ky key p i ≤ ky key p j := by
  induction j with
  | zero => have : i = 0 := by omega
            subst this; exact Int.le_refl _
  | succ j ih =>
    by_cases e : i = j + 1
    · subst e; exact Int.le_refl _
    · exact Int.le_trans (ih (by omega) (by omega)) (h (j + 1) (by omega) hj)
theorem rev_ky {p : Array Nat} {j : Nat} (hj : j ≤ p.size) (k : Nat) : ky key (kas_rev p 0 j) k = if k < j then ky key p (j - 1 - k) else ky key p k := by
  have e := getElem?_mirror_all (xs := p) (i := 0) hj k
  by_cases h1 : k < j
  · rw [if_pos ⟨Nat.zero_le _, h1⟩, Nat.zero_add] at e
    rw [if_pos h1]; exact ky_congr e
  · rw [if_neg (fun z => h1 z.2)] at e
    rw [if_neg h1]; exact ky_congr e
theorem count_run {p : Array Nat} (hd : Apart key p) (h2 : 2 ≤ p.size) : ∃ m q, runT (ltK key) (kas_count p.size p) = (m, q) ∧ q.Perm p ∧ 1 ≤ m ∧ m ≤ p.size ∧ Upto key q m := by
  obtain ⟨a1, a2, a3, a4⟩ := asc_run (key := key) p (p.size - 1) 1
  unfold kas_count
  rw [runT_bind]
  generalize runT (ltK key) (kas_asc p (p.size - 1) 1) = n at a1 a2 a3 a4
  by_cases c : n = p.size
  · subst c
    rw [if_pos (by simp)]
    exact ⟨_, _, rfl, .refl _, a1, Nat.le_refl _, fun i h1 h2 => a3 i h1 h2⟩
  · rw [if_neg (by simpa using c)]
    by_cases c1 : n > 1
    · rw [if_pos c1]
      have up : Upto key p n := fun i h1 h2 => a3 i h1 h2
      have hlt : ky key p 0 < ky key p (n - 1) := by
        have h1 := up.le (Nat.zero_le (n - 1)) (by omega)
        have h2 : ky key p 0 ≠ ky key p (n - 1) := fun z => by have := hd 0 (n - 1) (by omega) (by omega) z; omega
        omega
      show ∃ m q, runT (ltK key) (if ltK key (p.getD 0 0) (p.getD (n - 1) 0) = true then .ret (n, p) else kas_descPart n p.size (kas_rev p 0 n)) = (m, q) ∧ _
      rw [ltK_ky, decide_eq_true hlt, if_pos rfl]
      exact ⟨_, _, rfl, .refl _, a1, by omega, up⟩
    · rw [if_neg c1]
      have hn : n = 1 := by omega
      subst hn
      have h10 := a4 (by omega)
      obtain ⟨m, e1, e2, e3, e4⟩ := desc_run hd (p.size - 2) 2 (by omega) (by omega)
      unfold kas_descPart
      rw [runT_bind, show p.size - (1 + 1) = p.size - 2 from rfl, show 1 + 1 = 2 from rfl, e1]
      dsimp only
      rw [if_neg (Nat.lt_irrefl 0)]
      unfold kas_tail3
      rw [runT_bind]
      obtain ⟨b1, b2, b3, b4⟩ := asc_run (key := key) (kas_rev p 0 m) (p.size - m) m
      generalize runT (ltK key) (kas_asc (kas_rev p 0 m) (p.size - m) m) = r at b1 b2 b3 b4
      refine ⟨_, _, rfl, mirror_perm _ _ _ _, by omega, by omega, fun i h1 h2 => ?_⟩
      by_cases z : i < m
      · rw [rev_ky (by omega), rev_ky (by omega), if_pos (by omega), if_pos z]
        have h3 : ky key p (m - 1 - (i - 1)) < ky key p (m - 1 - (i - 1) - 1) := by
          by_cases y : m - 1 - (i - 1) = 1
          · rw [y]; exact h10
          · exact e4 _ (by omega) (by omega)
        rw [show m - 1 - (i - 1) - 1 = m - 1 - i by omega] at h3
        omega
      · exact b3 i (by omega) h2
theorem place_run {p : Array Nat} {k : Nat} (up : Upto key p k) : ∀ (f l r : Nat), l ≤ r → r ≤ k → r - l ≤ f → (∀ i, i < l → ky key p i ≤ ky key p k) → (∀ i, r ≤ i → i < k → ky key p k < ky key p i) →
    runT (ltK key) (kas_place p k f l r) ≤ k ∧ (∀ i, i < runT (ltK key) (kas_place p k f l r) → ky key p i ≤ ky key p k) ∧ (∀ i, runT (ltK key) (kas_place p k f l r) ≤ i → i < k → ky key p k < ky key p i)
  | 0, l, r, h1, h2, h3, h4, h5 => by
    have : l = r := by omega
    subst this
    exact ⟨h2, h4, h5⟩
  | f + 1, l, r, h1, h2, h3, h4, h5 => by
    unfold kas_place
    by_cases c : l ≥ r
    · rw [if_pos c]
      have : l = r := by omega
      subst this
      exact ⟨h2, h4, h5⟩
    · rw [if_neg c]
      have e : runT (ltK key) (KasT.ask (p.getD k 0) (p.getD ((l + r) / 2) 0) fun c => if c = true then kas_place p k f l ((l + r) / 2) else kas_place p k f ((l + r) / 2 + 1) r) =
          if ky key p k < ky key p ((l + r) / 2) then runT (ltK key) (kas_place p k f l ((l + r) / 2)) else runT (ltK key) (kas_place p k f ((l + r) / 2 + 1) r) := by
        show runT (ltK key) (if ltK key (p.getD k 0) (p.getD ((l + r) / 2) 0) = true then kas_place p k f l ((l + r) / 2) else kas_place p k f ((l + r) / 2 + 1) r) = _
        rw [ltK_ky]
        by_cases c : ky key p k < ky key p ((l + r) / 2)
        · rw [decide_eq_true c, if_pos rfl, if_pos c]
        · rw [decide_eq_false c, if_neg (by simp), if_neg c]
      rw [e]
      by_cases c2 : ky key p k < ky key p ((l + r) / 2)
      · rw [if_pos c2]
        refine place_run up f l ((l + r) / 2) (by omega) (by omega) (by omega) h4 fun i a b => ?_
        have := up.le a b
        omega
      · rw [if_neg c2]
        refine place_run up f ((l + r) / 2 + 1) r (by omega) h2 (by omega) (fun i a => ?_) h5
        have := up.le (show i ≤ (l + r) / 2 by omega) (by omega)
        omega
theorem bub_ky {p : Array Nat} {k l : Nat} (hk : k < p.size) (hl : l ≤ k) (i : Nat) : ky key (bubble p k (k - l)) i = if i = l then ky key p k else if l < i ∧ i ≤ k then ky key p (i - 1) else ky key p i := by
  have e := getElem?_bubble (xs := p) hk (k - l) (by omega) i
  rw [show k - (k - l) = l by omega] at e
  by_cases h1 : i = l
  · rw [if_pos h1] at e ⊢; exact ky_congr e
  · rw [if_neg h1] at e ⊢
    by_cases h2 : l < i ∧ i ≤ k
    · rw [if_pos h2] at e ⊢; exact ky_congr e
    · rw [if_neg h2] at e ⊢; exact ky_congr e
theorem bin_run : ∀ (f : Nat) (p : Array Nat) (k : Nat), k + f = p.size → Upto key p k → (runT (ltK key) (kas_bin f p k)).Perm p ∧ Upto key (runT (ltK key) (kas_bin f p k)) p.size
  | 0, p, k, h, up => ⟨.refl _, by rw [← h]; exact up⟩
  | f + 1, p, k, h, up => by
    show (runT (ltK key) ((kas_place p k k 0 k).bind fun l => kas_bin f (bubble p k (k - l)) (k + 1))).Perm p ∧ Upto key (runT (ltK key) ((kas_place p k k 0 k).bind fun l => kas_bin f (bubble p k (k - l)) (k + 1))) p.size
    rw [runT_bind]
    obtain ⟨a1, a2, a3⟩ := place_run up k 0 k (Nat.zero_le _) (Nat.le_refl _) (by omega) (fun i hi => absurd hi (Nat.not_lt_zero _)) (fun i h1 h2 => absurd h2 (Nat.not_lt.mpr h1))
    generalize runT (ltK key) (kas_place p k k 0 k) = l at a1 a2 a3
    have hk : k < p.size := by omega
    have ih := bin_run f (bubble p k (k - l)) (k + 1) (by rw [bubble_size]; omega) fun i h1 h2 => by
      rw [bub_ky hk a1, bub_ky hk a1]
      by_cases c1 : i = l
      · rw [if_neg (by omega), if_neg (by omega), if_pos c1]
        exact a2 (i - 1) (by omega)
      · by_cases c2 : l < i
        · rw [if_neg c1, if_pos (show l < i ∧ i ≤ k from ⟨c2, by omega⟩)]
          by_cases c3 : i - 1 = l
          · rw [if_pos c3]
            have := a3 (i - 1) (by omega) (by omega)
            omega
          · rw [if_neg c3, if_pos (by omega)]
            exact up (i - 1) (by omega) (by omega)
        · rw [if_neg c1, if_neg (by omega), if_neg (by omega), if_neg (by omega)]
          exact up i h1 (by omega)
    rw [bubble_size] at ih
    exact ⟨ih.1.trans (bubble_perm _ _ _), ih.2⟩
theorem apart_perm {p q : Array Nat} (h : q.Perm p) (hd : ∀ i j, i ∈ p.toList → j ∈ p.toList → key i = key j → i = j) (hn : p.toList.Nodup) : Apart key q := by
  have hq := Array.perm_iff_toList_perm.mp h
  have hqn : q.toList.Nodup := hq.nodup_iff.mpr hn
  intro i j hi hj e
  unfold ky at e
  have ei : q.getD i 0 = q.toList[i]'(by simpa using hi) := by simp [Array.getD, hi]
  have ej : q.getD j 0 = q.toList[j]'(by simpa using hj) := by simp [Array.getD, hj]
  rw [ei, ej] at e
  have := hd _ _ (hq.mem_iff.mp (List.getElem_mem _)) (hq.mem_iff.mp (List.getElem_mem _)) e
  have pw := List.pairwise_iff_getElem.mp hqn
  rcases Nat.lt_trichotomy i j with h | h | h
  · exact absurd this (pw i j _ _ h)
  · exact h
  · exact absurd this.symm (pw j i _ _ h)
theorem sort_run {n : Nat} (h2 : 2 ≤ n) (hd : ∀ i j, i < n → j < n → key i = key j → i = j) : (runT (ltK key) (kas_sort n)).toList.Perm (List.range n) ∧ (runT (ltK key) (kas_sort n)).toList.Pairwise fun i j => key i ≤ key j := by
  have hp0 : (List.toArray (List.range n)).size = n := by simp
  have hap : Apart key (List.toArray (List.range n)) := apart_perm (.refl _) (fun i j hi hj e => hd i j (by simpa using hi) (by simpa using hj) e) (by simpa using List.nodup_range)
  have key2 : ∃ r : Array Nat, runT (ltK key) (kas_sort n) = r ∧ r.Perm (List.toArray (List.range n)) ∧ Upto key r n := by
    have cr := count_run hap (by omega)
    rw [hp0] at cr
    obtain ⟨m, q, e, pq, m1, m2, up⟩ := cr
    unfold kas_sort
    rw [runT_bind, e]
    dsimp only
    have hqs : q.size = n := by have := pq.size_eq; rw [hp0] at this; exact this
    by_cases c : m < n
    · rw [if_pos c, show max m 1 = m by omega]
      obtain ⟨b1, b2⟩ := bin_run (key := key) (n - m) q m (by omega) up
      rw [hqs] at b2
      exact ⟨_, rfl, b1.trans pq, b2⟩
    · rw [if_neg c]
      have : m = n := by omega
      subst this
      exact ⟨_, rfl, pq, up⟩
  obtain ⟨r, e, pr, up⟩ := key2
  rw [e]
  have hrs : r.size = n := by have := pr.size_eq; rw [hp0] at this; exact this
  refine ⟨Array.perm_iff_toList_perm.mp pr, ?_⟩
  rw [List.pairwise_iff_getElem]
  intro i j hi hj hij
  have hi' : i < r.size := by simpa using hi
  have hj' : j < r.size := by simpa using hj
  have h := up.le (Nat.le_of_lt hij) (by omega)
  unfold ky at h
  have ei : r.getD i 0 = r.toList[i] := by simp [Array.getD, hi']
  have ej : r.getD j 0 = r.toList[j] := by simp [Array.getD, hj']
  rw [ei, ej] at h
  exact h
end
end Mine
end
section
open PySem PySem.W PySem.Calls PyProof.Rows
set_option autoImplicit false
namespace Mine
/-! ## the questions stay within the list -/
def AskP (n : Nat) {α : Type} (P : α → Prop) : KasT α → Prop
  | .ret a => P a
  | .ask i j k => i < n ∧ j < n ∧ ∀ b, AskP n P (k b)
theorem AskP.bind {n : Nat} {α β : Type} {P : α → Prop} {R : β → Prop} {f : α → KasT β} (hf : ∀ a, P a → AskP n R (f a)) : ∀ {t : KasT α}, AskP n P t → AskP n R (t.bind f)
  | .ret a, h => hf a h
  | .ask i j k, h => ⟨h.1, h.2.1, fun b => AskP.bind hf (h.2.2 b)⟩
theorem AskP.ite {n : Nat} {α : Type} {P : α → Prop} {c : Prop} [Decidable c] {t u : KasT α} (h1 : AskP n P t) (h2 : AskP n P u) : AskP n P (if c then t else u) := by
  split
  · exact h1
  · exact h2
def Small (n : Nat) (p : Array Nat) : Prop := 0 < n ∧ ∀ x ∈ p.toList, x < n
theorem Small.at {n : Nat} {p : Array Nat} (h : Small n p) (i : Nat) : p.getD i 0 < n := by
  by_cases c : i < p.size
  · have e : p.getD i 0 = p.toList[i]'(by simpa using c) := by simp [Array.getD, c]
    rw [e]; exact h.2 _ (List.getElem_mem _)
  · have e : p.getD i 0 = 0 := by simp [Array.getD, c]
    rw [e]; exact h.1
theorem Small.perm {n : Nat} {p q : Array Nat} (h : Small n p) (e : q.Perm p) : Small n q := ⟨h.1, fun x hx => h.2 x ((Array.perm_iff_toList_perm.mp e).mem_iff.mp hx)⟩
theorem ask_asc {n : Nat} {p : Array Nat} (h : Small n p) : ∀ f m, AskP n (fun _ => True) (kas_asc p f m)
  | 0, m => trivial
  | f + 1, m => ⟨h.at _, h.at _, fun b => .ite trivial (ask_asc h f (m + 1))⟩
theorem ask_desc {n : Nat} : ∀ f (p : Array Nat) m q, Small n p → AskP n (fun r => Small n r.1) (kas_desc f p m q)
  | 0, p, m, q, h => h
  | f + 1, p, m, q, h => ⟨h.at _, h.at _, fun b => .ite (.ite (ask_desc f _ _ _ (h.perm (mirror_perm _ _ _ _))) (ask_desc f p _ _ h)) ⟨h.at _, h.at _, fun b => .ite h (ask_desc f p _ _ h)⟩⟩
theorem ask_tail3 {n : Nat} {p : Array Nat} (h : Small n p) (m r : Nat) : AskP n (fun r => Small n r.2) (kas_tail3 m r p) := by
  have h' : Small n (kas_rev p 0 m) := h.perm (mirror_perm _ _ _ _)
  unfold kas_tail3
  exact AskP.bind (P := fun _ => True) (fun a _ => (show AskP n (fun r : Nat × Array Nat => Small n r.2) (KasT.ret (a, kas_rev p 0 m)) from h')) (ask_asc h' _ _)
theorem ask_descPart {n : Nat} {p : Array Nat} (h : Small n p) (m r : Nat) : AskP n (fun r => Small n r.2) (kas_descPart m r p) :=
  AskP.bind (fun a ha => .ite (ask_tail3 (Small.perm ha (mirror_perm _ _ _ _)) _ _) (ask_tail3 ha _ _)) (ask_desc _ p _ _ h)
theorem ask_count {n : Nat} {p : Array Nat} (h : Small n p) (r : Nat) : AskP n (fun r => Small n r.2) (kas_count r p) := by
  unfold kas_count
  have hr : ∀ a, AskP n (fun r : Nat × Array Nat => Small n r.2) (KasT.ret (a, p)) := fun a => h
  refine AskP.bind (P := fun _ => True) (fun a _ => .ite (hr a) (.ite ?_ (ask_descPart h _ _))) (ask_asc h _ _)
  exact ⟨h.at _, h.at _, fun b => .ite (hr a) (ask_descPart (h.perm (mirror_perm _ _ _ _)) _ _)⟩
theorem ask_place {n : Nat} {p : Array Nat} (h : Small n p) (k : Nat) : ∀ f l r, AskP n (fun _ => True) (kas_place p k f l r)
  | 0, l, r => trivial
  | f + 1, l, r => by
    unfold kas_place
    exact .ite trivial ⟨h.at _, h.at _, fun b => .ite (ask_place h k f _ _) (ask_place h k f _ _)⟩
theorem ask_bin {n : Nat} : ∀ f (p : Array Nat) k, Small n p → AskP n (fun _ => True) (kas_bin f p k)
  | 0, p, k, h => trivial
  | f + 1, p, k, h => AskP.bind (fun a _ => ask_bin f _ _ (h.perm (bubble_perm _ _ _))) (ask_place h k _ _ _)
theorem ask_sort {n : Nat} (hn : 0 < n) : AskP n (fun _ => True) (kas_sort n) := by
  unfold kas_sort
  exact AskP.bind (P := fun r : Nat × Array Nat => Small n r.2) (fun a ha => .ite (ask_bin _ _ _ ha) (show AskP n (fun _ => True) (KasT.ret a.2) from trivial)) (ask_count ⟨hn, fun x hx => by simpa using hx⟩ _)
theorem wpA {α : Type} {n : Nat} {cmp : Nat → Nat → (Bool → Shared → Prop) → Shared → Prop} {lt : Nat → Nat → Bool} {s : Shared} (h : ∀ i j, i < n → j < n → ∀ C, C (lt i j) s → cmp i j C s) {Q : α → Shared → Prop} {P : α → Prop} : ∀ {t : KasT α}, AskP n P t → Q (runT lt t) s → t.kasWp cmp Q s
  | .ret _, _, q => q
  | .ask i j k, hp, q => h i j hp.1 hp.2.1 _ (wpA h (hp.2.2 (lt i j)) q)

/-! ## the sort of a list by pure questions -/
section
variable {prog : Program} {w : World} {A : Around} {E : Value → Shared → Prop} {s : Shared}
def outOf (vs : List Value) (lt : Nat → Nat → Bool) : List Value := (runT lt (kas_sort vs.length)).toList.map fun i => vs.getD i Value.none
theorem sort_tree {a : Addr} {vs : List Value} {n : Nat} {P : Fin → Shared → Prop} {lt : Nat → Nat → Bool} (ho : s.heap.get? a = some (seqObj "list" vs.toArray n)) (h2 : 2 ≤ vs.length) (h64 : vs.length < 64)
    (hout : (outOf vs lt).length = vs.length)
    (hT : ∀ h', (∀ b o, b ≠ a → s.heap.get? b = some o → h'.get? b = some o) → ∀ v ∈ vs, Looks (model prog w) h' (typeOf v) (.type "list"))
    (hask : ∀ h', (∀ b o, b ≠ a → s.heap.get? b = some o → h'.get? b = some o) → ∀ i j, i < vs.length → j < vs.length → ∀ C : Bool → Shared → Prop, C (lt i j) { s with heap := h' } →
      wpAny (model prog w) A (keyLt' oneType' (vs.getD i .none) (vs.getD j .none)) C (fun _ _ => False) { s with heap := h' })
    (h : P (.done (.ret .none)) { s with heap := sortedHeap s.heap a vs (outOf vs lt).toArray }) :
    wpAny (model prog w) A (Builtin.«list.sort» ⟨[.ref a], []⟩) P E s := by
  rw [list_sort_plain]
  have ha : a < s.heap.objs.size := Heap.lt_size ho
  obtain ⟨e1, ho1⟩ : ∃ e1, (s.heap.update a (Obj.mapSeq fun _ => (#[] : Array Value))).get? a = some (seqObj "list" #[] e1) := ⟨_, get?_update_seq ho fun _ => #[]⟩
  have s1 := Heap.SameBut.update s.heap a (Obj.mapSeq fun _ => (#[] : Array Value))
  refine wpAny_bind (listItems_at ho rfl ?_)
  refine wpAny_bind (listUpdate_at ho rfl ?_ (by rw [List.size_toArray, sizeLine_eq]; omega) (Nat.zero_le _))
  refine wpAny_bind (seqEpoch_at ho1 rfl ?_)
  refine wpAny_bind (wpAny_newTuple ?_ (by show vs.length ≤ _; rw [sizeLine_eq]; omega))
  refine wpAny_bind (wpAny_newList ?_ (Nat.zero_le _))
  refine wpAny_holding ?_
  have ho6 : (((s.heap.update a (Obj.mapSeq fun _ => #[])).push (seqObj "tuple" vs.toArray 0)).push (seqObj "list" #[] 0)).get? a = some (seqObj "list" #[] e1) :=
    Heap.get?_push_of_some _ (Heap.get?_push_of_some _ ho1)
  have kp : ∀ b o, b ≠ a → s.heap.get? b = some o → (((s.heap.update a (Obj.mapSeq fun _ => #[])).push (seqObj "tuple" vs.toArray 0)).push (seqObj "list" #[] 0)).get? b = some o := fun b o hb e =>
    Heap.get?_push_of_some _ (Heap.get?_push_of_some _ (s1.extBut b o hb e))
  show wpAny (model prog w) A _ P E { s with heap := ((s.heap.update a (Obj.mapSeq fun _ => #[])).push (seqObj "tuple" vs.toArray 0)).push (seqObj "list" #[] 0) }
  dsimp only
  have hn2 : ¬ vs.toArray.size < 2 := by rw [List.size_toArray]; omega
  rw [if_neg hn2, if_neg hn2]
  refine wpAny_bind (kas_kind h2 (hT _ kp) (by decide) (by decide) ?_)
  have est : SortSt.mk' oneType' (vs.toArray.zip vs.toArray) #[] 7 none = kas_st oneType' (pairsOf vs) (List.toArray (List.range vs.length)) := by
    have e := kas_range (pairsOf vs)
    rw [pairsOf_size] at e
    show SortSt.mk' oneType' (pairsOf vs) #[] 7 none = SortSt.mk' oneType' ((List.toArray (List.range vs.length)).map (kas_item (pairsOf vs))) #[] 7 none
    rw [e]
  have ask : (kas_sort vs.length).kasWp (kas_ask prog w A oneType' vs) (fun p s' => p = runT lt (kas_sort vs.length) ∧ s' = { s with heap := ((s.heap.update a (Obj.mapSeq fun _ => #[])).push (seqObj "tuple" vs.toArray 0)).push (seqObj "list" #[] 0) })
      { s with heap := ((s.heap.update a (Obj.mapSeq fun _ => #[])).push (seqObj "tuple" vs.toArray 0)).push (seqObj "list" #[] 0) } :=
    wpA (lt := lt) (fun i j hi hj C hC => hask _ kp i j hi hj C hC) (ask_sort (by omega)) ⟨rfl, rfl⟩
  rw [kas_ask_eq] at ask
  have run := kas_runs (E := E) (Q := fun _ st' s' => arrOf st' = (runT lt (kas_sort vs.length)).map (kas_item (pairsOf vs)) ∧ failedOf st' = none ∧ s' = { s with heap := ((s.heap.update a (Obj.mapSeq fun _ => #[])).push (seqObj "tuple" vs.toArray 0)).push (seqObj "list" #[] 0) })
    h2 h64 (fun p' st' s' a1 a2 a3 a4 => ⟨by rw [a2, a4.1], a3, a4.2⟩) ask
  rw [← est] at run
  refine wpAny_bind (wpAny_mono run ?_ fun _ _ e => e)
  rintro ⟨⟨⟩, st'⟩ s' ⟨har, hf, hs'⟩
  dsimp only at har hf hs'
  subst hs'
  dsimp only
  have hmap : (arrOf st').map (·.2) = (outOf vs lt).toArray := by
    apply Array.toList_inj.mp
    rw [har, Array.map_map, Array.toList_map]
    exact List.map_congr_left fun i _ => by show (kas_item (pairsOf vs) i).2 = _; rw [kas_item_eq]
  rw [hmap]
  refine wpAny_bind (seqEpoch_at ho6 rfl ?_)
  refine wpAny_bind (listUpdate_at ho6 rfl ?_ (Nat.zero_le _) (by rw [List.size_toArray, hout, sizeLine_eq]; omega))
  rw [hf]
  simp only [bne_self_eq_false, Bool.false_eq_true, if_false]
  exact wpAny_pure h
theorem sorted_tree {l : Addr} {vs : List Value} {Q : Value → Shared → Prop} {lt : Nat → Nat → Bool} (hl : s.heap.IsList l vs.toArray) (h2 : 2 ≤ vs.length) (h64 : vs.length < 64)
    (hout : (outOf vs lt).length = vs.length)
    (hT : ∀ h', (∀ b o, s.heap.get? b = some o → h'.get? b = some o) → ∀ v ∈ vs, Looks (model prog w) h' (typeOf v) (.type "list"))
    (hask : ∀ h', (∀ b o, s.heap.get? b = some o → h'.get? b = some o) → ∀ i j, i < vs.length → j < vs.length → ∀ C : Bool → Shared → Prop, C (lt i j) { s with heap := h' } →
      wpAny (model prog w) A.in1.in1 (keyLt' oneType' (vs.getD i .none) (vs.getD j .none)) C (fun _ _ => False) { s with heap := h' })
    (h : Q (.ref (s.heap.objs.size + 1)) { s with heap := sortedAll s.heap vs (outOf vs lt).toArray }) :
    wpAny (model prog w) A (call (.builtin "sorted") [.ref l]) Q E s := by
  refine Calls.call_function_entry kind_sorted plain_sorted entry_sorted (args_sorted1 _) ?_
  unfold Builtin.«sorted»
  refine wpAny_bind (m := checkCount "sorted" 1 1 _) (wpAny_pure ?_)
  refine wpAny_bind (collect_list hl ?_ (by rw [sizeLine_eq]; omega))
  refine wpAny_bind (wpAny_newList ?_ (by rw [sizeLine_eq]; omega))
  have hsz : ((s.heap.push (seqObj "list" #[] 0)).update s.heap.objs.size (Obj.mapSeq (· ++ vs.toArray))).objs.size = s.heap.objs.size + 1 := by
    rw [Heap.size_update, size_push']
  have hoL : (((s.heap.push (seqObj "list" #[] 0)).update s.heap.objs.size (Obj.mapSeq (· ++ vs.toArray))).push (seqObj "list" vs.toArray 0)).get? (s.heap.objs.size + 1) = some (seqObj "list" vs.toArray 0) := by
    rw [← hsz]; exact Heap.get?_push_size _ rfl
  have keep : ∀ b o, s.heap.get? b = some o → b ≠ s.heap.objs.size + 1 ∧ (((s.heap.push (seqObj "list" #[] 0)).update s.heap.objs.size (Obj.mapSeq (· ++ vs.toArray))).push (seqObj "list" vs.toArray 0)).get? b = some o := fun b o q => by
    have hlt : b < s.heap.objs.size := Heap.lt_size q
    refine ⟨Nat.ne_of_lt (Nat.lt_succ_of_lt hlt), ?_⟩
    rw [Heap.get?_push_ne _ _ _ (by rw [hsz]; exact Nat.ne_of_lt (Nat.lt_succ_of_lt hlt)), Heap.get?_update_ne _ _ _ _ (Nat.ne_of_lt hlt), Heap.get?_push_ne _ _ _ (Nat.ne_of_lt hlt)]
    exact q
  show wpAny _ _ _ _ _ { s with heap := ((s.heap.push (seqObj "list" #[] 0)).update s.heap.objs.size (Obj.mapSeq (· ++ vs.toArray))).push (seqObj "list" vs.toArray 0) }
  rw [hsz]
  refine wpAny_bind (wpAny_holding (wpAny_call_entry slot_list_sort ⟨_, hoL, rfl⟩ entry_list_sort ?body (args_list_sort _)))
  case body =>
    refine sort_tree (lt := lt) (s := { s with heap := ((s.heap.push (seqObj "list" #[] 0)).update s.heap.objs.size (Obj.mapSeq (· ++ vs.toArray))).push (seqObj "list" vs.toArray 0) }) hoL h2 h64 hout
      (fun h' kp => hT h' fun b o e => kp b o (keep b o e).1 (keep b o e).2) (fun h' kp => hask h' fun b o e => kp b o (keep b o e).1 (keep b o e).2) ⟨_, rfl, ?_⟩
    exact wpAny_pure ⟨_, rfl, h⟩
end
section
variable {prog : Program} {w : World} {h₀ : Heap} {d : Nat} {σ : Store} {Q : V → Store → Prop}
def lstI (x : It) : O := .list [.int x.h, .int x.p]
theorem refs_vals : ∀ {vs : List Value} {its : List It}, VRs vs (refs its) → vs = its.map fun x => Value.ref x.ad
  | _, [], h => by cases h; rfl
  | _, x :: its, h => by
    cases h with
    | cons h1 h2 => cases h1; rw [List.map_cons, ← refs_vals h2]
theorem its_inj {its : List It} (hd : (its.map fun x => x.h).Nodup) {i j : Nat} (hi : i < its.length) (hj : j < its.length) (e : (nth its i).h = (nth its j).h) : i = j := by
  have pw := List.pairwise_iff_getElem.mp hd
  rw [nth_eq hi, nth_eq hj] at e
  rcases Nat.lt_trichotomy i j with h | h | h
  · exact absurd (by rw [List.getElem_map, List.getElem_map]; exact e) (pw i j (by simpa using hi) (by simpa using hj) h)
  · exact h
  · exact absurd (by rw [List.getElem_map, List.getElem_map]; exact e.symm) (pw j i (by simpa using hj) (by simpa using hi) h)
theorem sort_its {its : List It} (h2 : 2 ≤ its.length) (hd : (its.map fun x => x.h).Nodup) :
    ((runT (ltK fun i => (nth its i).h) (kas_sort its.length)).toList.map (nth its)).Perm its ∧ ((runT (ltK fun i => (nth its i).h) (kas_sort its.length)).toList.map (nth its)).Pairwise fun x y => x.h ≤ y.h := by
  have inj := fun i j hi hj e => its_inj (i := i) (j := j) hd hi hj e
  obtain ⟨p1, p2⟩ := sort_run (key := fun i => (nth its i).h) h2 inj
  refine ⟨?_, List.pairwise_map.mpr p2⟩
  refine (p1.map (nth its)).trans ?_
  have : (List.range its.length).map (nth its) = its := by
    apply List.ext_getElem
    · simp
    · intro i h1 h2
      rw [List.getElem_map, List.getElem_range, nth_eq h2]
  rw [this]
theorem wc_sorted_lst {l : Addr} {its : List It} (hl : σ l = some (.list (refs its))) (hg : ∀ x ∈ its, σ x.ad = some (lstI x)) (h2 : 2 ≤ its.length) (h64 : its.length < 64) (hd : (its.map fun x => x.h).Nodup)
    (q : ∀ its', its'.Perm its → (its'.Pairwise fun x y => x.h ≤ y.h) → ∀ a, σ a = none → Q (.ref a) (upd σ a (.list (refs its')))) : WCall prog w h₀ d (.builtin "sorted") [.ref l] σ Q := fun vs hvs => .mk fun A s ra ok => by
  obtain ⟨_, rfl, r1⟩ := hvs.one
  cases r1
  obtain ⟨vals, pl, hv⟩ := ok.sr _ _ hl
  have hve := refs_vals hv
  have hlen : vals.length = its.length := by rw [hve, List.length_map]
  have hat : ∀ i, i < its.length → vals.getD i .none = .ref (nth its i).ad := fun i hi => by
    rw [hve, List.getD_eq_getElem?_getD, List.getElem?_map, List.getElem?_eq_getElem hi, nth_eq hi]; rfl
  obtain ⟨sp, so⟩ := sort_its h2 hd
  have hoe : outOf vals (ltK fun i => (nth its i).h) = (((runT (ltK fun i => (nth its i).h) (kas_sort its.length)).toList.map (nth its)).map fun x => Value.ref x.ad) := by
    unfold outOf
    rw [hlen, List.map_map]
    apply List.map_congr_left
    intro i hi
    have inj := fun i j hi hj e => its_inj (i := i) (j := j) hd hi hj e
    have := (sort_run (key := fun i => (nth its i).h) h2 inj).1.mem_iff.mp hi
    exact hat i (by simpa using this)
  generalize hR : (runT (ltK fun i => (nth its i).h) (kas_sort its.length)).toList.map (nth its) = R at sp so hoe
  have hrl : R.length = its.length := sp.length_eq
  have mem : ∀ v ∈ vals, ∃ x ∈ its, v = .ref x.ad := fun v hv => by
    rw [hve] at hv
    obtain ⟨x, hx, e⟩ := List.mem_map.mp hv
    exact ⟨x, hx, e.symm⟩
  refine sorted_tree (lt := ltK fun i => (nth its i).h) pl.isList (by omega) (by omega) (by rw [hoe, List.length_map, hrl, hlen]) (fun h' kp v hv => ?_) (fun h' kp i j hi hj C hC => ?_) ?_
  · obtain ⟨x, hx, rfl⟩ := mem v hv
    obtain ⟨i1, ⟨n1, L1⟩, v1⟩ := ok.sr _ _ (hg x hx)
    exact (Looks.ld (kp _ _ L1)).andThen .now
  · have hi' : i < its.length := by omega
    have hj' : j < its.length := by omega
    rw [hat i hi', hat j hj', keyLt'_oneType, oneLt'_eq]
    simp only [if_true]
    refine wpAny_bind (wpAny_cRoomFor (by have := ra.room; show A.units + 1 + 1 < _; omega) ?_)
    have okh : OK h₀ h' σ := (ok.keeps kp).1
    have key : pairLt (nth its i).h (nth its i).p (nth its j).h (nth its j).p = ltK (fun i => (nth its i).h) i j ∨ i = j := by
      by_cases e : i = j
      · exact .inr e
      · left
        have : (nth its i).h ≠ (nth its j).h := fun z => e (its_inj hd hi' hj' z)
        unfold pairLt ltK
        simp [this]
    have key2 : pairLt (nth its i).h (nth its i).p (nth its j).h (nth its j).p = ltK (fun i => (nth its i).h) i j := by
      rcases key with h | h
      · exact h
      · subst h; simp [pairLt, ltK]
    have mi : nth its i ∈ its := by rw [nth_eq hi']; exact List.getElem_mem _
    have mj : nth its j ∈ its := by rw [nth_eq hj']; exact List.getElem_mem _
    have z := call_list_lt (prog := prog) (w := w) (A := A.in1.in1) (s := { s with heap := h' }) (E := fun _ _ => False) (σ := σ) (h₀ := h₀) (K := fun v s' => v = .bool (ltK (fun i => (nth its i).h) i j) ∧ s' = { s with heap := h' }) okh (hg _ mi) (hg _ mj) ⟨by rw [key2], rfl⟩
    refine wpAny_bind (wpAny_callSpecialIfBound?_slot z.1 PySem.F.slot_list_lt (wpAny_mono z.2.2 (fun v s' hv => ?_) fun _ _ e => e))
    obtain ⟨rfl, rfl⟩ := hv
    exact wpAny_truthy_bool hC
  · rw [hoe]
    obtain ⟨e, he⟩ := sortedAll_at s.heap vals (R.map fun x => Value.ref x.ad).toArray
    have vr : ∀ R : List It, VRs (R.map fun x => Value.ref x.ad) (refs R) := fun R => by
      induction R with
      | nil => exact .nil
      | cons x R ih => exact .cons (.ref _) ih
    have nw := ok.new (fun _ _ => sortedAll_old) (a := s.heap.objs.size + 1) (xs := refs R) (get_ge_none _ _ (Nat.le_succ _)) ⟨R.map fun x => Value.ref x.ad, ⟨e, he⟩, vr R⟩
    exact ⟨_, _, s.toks, _, rfl, .ref _, nw.2.1, nw.1, q R sp so _ nw.2.2⟩
end
end Mine
end
section
open PySem PySem.W PySem.Calls PyProof.Rows
set_option autoImplicit false
namespace Mine
def rimL : List Nat := (List.range 25).filter fun k => decide ((bes k).length < 4)
theorem rimL_len : rimL.length = 16 := by decide
theorem rimL_nodup : rimL.Nodup := by decide
theorem rimL_lt {p : Nat} (h : p ∈ rimL) : p < 25 := List.mem_range.mp (List.mem_filter.mp h).1
theorem rimL_iff {p : Nat} (h : p < 25) : p ∈ rimL ↔ p ∉ inn := by
  unfold rimL inn
  rw [List.mem_filter, List.mem_filter, List.mem_range]
  have := bes_len p
  simp only [decide_eq_true_eq]
  constructor
  · rintro ⟨_, h1⟩ ⟨_, h2⟩; omega
  · intro h1; exact ⟨h, Classical.byContradiction fun h2 => h1 ⟨h, by omega⟩⟩
theorem finv_init {f : List Int} (hf : f.length = 25) {its xs : List It} (h3 : its.map (fun x => (x.h, x.p)) = rimL.map (fun p => (f.getD p 0, ((p : Nat) : Int)))) (hperm : xs.Perm its) (hord : Ord 0 xs) :
    FInv f xs [] rimL (nth xs 0).h := by
  have hit : ∀ x ∈ xs, ∃ p : Nat, p ∈ rimL ∧ x.p = p ∧ x.h = f.getD p 0 := fun x hx => by
    have : (x.h, x.p) ∈ rimL.map (fun p => (f.getD p 0, ((p : Nat) : Int))) := by rw [← h3]; exact List.mem_map_of_mem (f := fun x : It => (x.h, x.p)) (hperm.mem_iff.mp hx)
    obtain ⟨p, hp, e⟩ := List.mem_map.mp this
    injection e with e1 e2
    exact ⟨p, hp, e2.symm, e1.symm⟩
  have hti : ∀ p, p ∈ rimL → ∃ x ∈ xs, x.p = (p : Nat) ∧ x.h = f.getD p 0 := fun p hp => by
    have : (f.getD p 0, ((p : Nat) : Int)) ∈ its.map (fun x => (x.h, x.p)) := by rw [h3]; exact List.mem_map_of_mem (f := fun p : Nat => (f.getD p 0, ((p : Nat) : Int))) hp
    obtain ⟨x, hx, e⟩ := List.mem_map.mp this
    injection e with e1 e2
    exact ⟨x, hperm.mem_iff.mpr hx, e2, e1⟩
  have hps : its.map (fun x => x.p) = rimL.map fun (n : Nat) => (n : Int) := by
    have := congrArg (List.map Prod.snd) h3
    rw [List.map_map, List.map_map] at this
    exact this
  refine ⟨hord, fun x hx => ?_, ?_, fun p => ?_, rimL_nodup, fun x hx => It.le_h (ord_min hord hx), .nil, (fun x hx => nomatch hx), fun x hx p hp hi => ?_, (fun x hx => nomatch hx), ⟨0, by rw [rimL_len]; decide, fun x hx p hp => ?_⟩, fun x hx => ?_, fun p hp hr => hti p ((rimL_iff hp).mpr hr)⟩
  · obtain ⟨p, hp, e, _⟩ := hit x hx
    exact ⟨p, e, rimL_lt hp⟩
  · rw [List.nil_append, (hperm.map (fun x : It => x.p)).nodup_iff, hps]
    have hnd := rimL_nodup
    rw [List.nodup_iff_pairwise_ne] at hnd ⊢
    rw [List.pairwise_map]
    exact hnd.imp fun h z => h (by omega)
  · constructor
    · intro h; obtain ⟨x, hx, e, _⟩ := hti p h; exact ⟨x, hx, e⟩
    · rintro ⟨x, hx, e⟩
      obtain ⟨q, hq, e1, _⟩ := hit x hx
      have : q = p := by omega
      subst this; exact hq
  · obtain ⟨q, hq, e1, _⟩ := hit x hx
    have : q = p := by omega
    subst this
    exact absurd hi ((rimL_iff (rimL_lt hq)).mp hq)
  · obtain ⟨q, hq, e1, e2⟩ := hit x hx
    have : q = p := by omega
    subst this
    rw [lev0_get (rimL_lt hq), if_neg ((rimL_iff (rimL_lt hq)).mp hq), e2]; exact Int.le_refl _
  · obtain ⟨q, hq, e1, e2⟩ := hit x hx
    rw [e2]; exact getD_le_maxL (by have := rimL_lt hq; omega)
def pushAll (xs : List It) (ts : List It) : List It := ts.foldl push xs
theorem pushAll_perm : ∀ (ts xs : List It), (pushAll xs ts).Perm (xs ++ ts)
  | [], xs => by simp [pushAll]
  | t :: ts, xs => by
    have h := pushAll_perm ts (push xs t)
    have e : pushAll xs (t :: ts) = pushAll (push xs t) ts := rfl
    rw [e]
    refine h.trans ?_
    have := (push_perm xs t).append_right ts
    simpa using this
theorem pushAll_ord : ∀ (ts xs : List It), Ord 0 xs → Ord 0 (pushAll xs ts)
  | [], xs, h => h
  | t :: ts, xs, h => pushAll_ord ts _ (push_ord t h)
theorem pushAll_snoc (xs ts : List It) (t : It) : pushAll xs (ts ++ [t]) = push (pushAll xs ts) t := by unfold pushAll; rw [List.foldl_append]; rfl
theorem replace_top {xs : List It} (t : It) (h : 0 < xs.length) : (nth xs 0 :: replace xs t).Perm (xs ++ [t]) := by
  refine ((replace_perm t h).cons _).trans ?_
  cases xs with
  | nil => simp at h
  | cons x xs =>
    show (x :: t :: xs).Perm (x :: xs ++ [t])
    exact List.Perm.cons _ (List.perm_append_singleton t xs).symm
theorem pop_top {zs : List It} (y : It) : (nth (zs ++ [y]) 0 :: (if zs = [] then [] else replace zs y)).Perm (zs ++ [y]) := by
  by_cases h : zs = []
  · subst h; exact .refl _
  · rw [if_neg h]
    have h0 : 0 < zs.length := List.length_pos_iff.mpr h
    rw [nth_append_left h0]
    exact replace_top y h0
theorem pop_ord {zs : List It} {y : It} (h : Ord 0 (zs ++ [y])) : Ord 0 (if zs = [] then [] else replace zs y) := by
  by_cases hz : zs = []
  · rw [if_pos hz]; intro i _ hi; simp at hi
  · rw [if_neg hz]; exact replace_ord y (List.length_pos_iff.mpr hz) (ord_left h)
theorem mem_nth0 {xs : List It} (h : 0 < xs.length) : nth xs 0 ∈ xs := by rw [nth_eq h]; exact List.getElem_mem h
/-! ## the end -/
theorem lev_map {lv : List Int} (hl : lv.length = 25) : (List.range 25).map (fun k => lv.getD k 0) = lv := by
  apply List.ext_getElem
  · simp [hl]
  · intro i h1 h2; simp [h2]
theorem end_levels {lv : List Int} (hl : lv.length = 25) {told : List It} (E : (told.map fun x => x.p).Perm ((List.range 25).map fun (n : Nat) => (n : Int)) ∧ (∀ x ∈ told, ∀ p : Nat, x.p = p → x.h = lv.getD p 0) ∧ told.Pairwise fun x y => x.h ≤ y.h)
    {ns : List Int} (hp : ns.Perm lv) (hs : ns.Pairwise (· ≤ ·)) : told.map (fun x => x.h) = ns := by
  have e1 : told.map (fun x => x.h) = (told.map fun x => x.p).map fun z => lv.getD z.toNat 0 := by
    rw [List.map_map]
    apply List.map_congr_left
    intro x hx
    have : x.p ∈ (List.range 25).map fun (n : Nat) => (n : Int) := E.1.mem_iff.mp (List.mem_map_of_mem (f := fun x : It => x.p) hx)
    obtain ⟨p, _, e⟩ := List.mem_map.mp this
    have := E.2.1 x hx p e.symm
    show x.h = lv.getD x.p.toNat 0
    rw [this, ← e, Int.toNat_natCast]
  have e2 : (told.map fun x => x.h).Perm lv := by
    rw [e1]
    refine (E.1.map _).trans ?_
    rw [List.map_map]
    have : (List.range 25).map ((fun z : Int => lv.getD z.toNat 0) ∘ fun (n : Nat) => (n : Int)) = lv := by
      refine Eq.trans (List.map_congr_left fun k _ => ?_) (lev_map hl)
      show lv.getD ((k : Int).toNat) 0 = _
      rw [Int.toNat_natCast]
    rw [this]
  exact (e2.trans hp.symm).eq_of_pairwise (fun a b _ _ h1 h2 => Int.le_antisymm h1 h2) (List.pairwise_map.mpr E.2.2) hs
theorem end_items {lv : List Int} {told its its' : List It} (E : (told.map fun x => x.p).Perm ((List.range 25).map fun (n : Nat) => (n : Int)) ∧ (∀ x ∈ told, ∀ p : Nat, x.p = p → x.h = lv.getD p 0) ∧ told.Pairwise fun x y => x.h ≤ y.h)
    (h : its.map (fun x => (x.h, x.p)) = told.map fun x => (x.p, x.h)) (hp : its'.Perm its) (hs : its'.Pairwise fun x y => x.h ≤ y.h) :
    its'.map (fun x => (x.h, x.p)) = (List.range 25).map fun (k : Nat) => ((k : Int), lv.getD k 0) := by
  have p1 : (its'.map fun x => (x.h, x.p)).Perm (told.map fun x => (x.p, x.h)) := by rw [← h]; exact hp.map _
  have e1 : told.map (fun x => (x.p, x.h)) = (told.map fun x => x.p).map fun z => (z, lv.getD z.toNat 0) := by
    rw [List.map_map]
    apply List.map_congr_left
    intro x hx
    have : x.p ∈ (List.range 25).map fun (n : Nat) => (n : Int) := E.1.mem_iff.mp (List.mem_map_of_mem (f := fun x : It => x.p) hx)
    obtain ⟨p, _, e⟩ := List.mem_map.mp this
    have := E.2.1 x hx p e.symm
    show (x.p, x.h) = (x.p, lv.getD x.p.toNat 0)
    rw [this, ← e, Int.toNat_natCast]
  have p2 : (its'.map fun x => (x.h, x.p)).Perm ((List.range 25).map fun (k : Nat) => ((k : Int), lv.getD k 0)) := by
    refine p1.trans ?_
    rw [e1]
    refine (E.1.map _).trans ?_
    rw [List.map_map]
    exact .refl _
  refine p2.eq_of_pairwise (le := fun a b => a.1 ≤ b.1) (fun a b ha hb h1 h2 => ?_) (List.pairwise_map.mpr hs) ?_
  · obtain ⟨k, _, rfl⟩ := List.mem_map.mp hb
    obtain ⟨j, _, rfl⟩ := List.mem_map.mp (p2.mem_iff.mp ha)
    have : j = k := by
      have h1 : (j : Int) ≤ k := h1
      have h2 : (k : Int) ≤ j := h2
      omega
    rw [this]
  · rw [List.pairwise_map]
    exact List.pairwise_lt_range.imp fun h => by
      show ((_ : Nat) : Int) ≤ ((_ : Nat) : Int)
      omega
theorem told_nodup {lv : List Int} {told its : List It} (E : (told.map fun x => x.p).Perm ((List.range 25).map fun (n : Nat) => (n : Int)) ∧ (∀ x ∈ told, ∀ p : Nat, x.p = p → x.h = lv.getD p 0) ∧ told.Pairwise fun x y => x.h ≤ y.h)
    (h : its.map (fun x => (x.h, x.p)) = told.map fun x => (x.p, x.h)) : (its.map fun x => x.h).Nodup ∧ its.length = 25 := by
  have e : its.map (fun x => x.h) = told.map fun x => x.p := by
    have := congrArg (List.map Prod.fst) h
    rw [List.map_map, List.map_map] at this
    exact this
  constructor
  · rw [e, E.1.nodup_iff]; decide
  · have h1 := congrArg List.length e
    have h2 := E.1.length_eq
    simp only [List.length_map, List.length_range] at h1 h2
    omega
/-! ## data -/
section
variable {prog : Program} {w : World} {h₀ : Heap}
theorem hcmp2 {d : Nat} {σ : Store} {Q : V → Store → Prop} {x y : It} (hx : σ x.ad = some (lstI x)) (hy : σ y.ad = some (lstI y)) (q : Q (.bool (It.lt x y)) σ) : WCmp prog w h₀ d .Lt (.ref x.ad) (.ref y.ad) σ Q := cmp_lt_lst hx hy q
theorem ne_refs {σ : Store} {x : It} {l : Addr} {xs : List It} (hx : σ x.ad = some (lstI x)) (hl : σ l = some (.list (refs xs))) : x.ad ≠ l := fun z => by
  rw [z, hl] at hx
  cases xs with
  | nil => cases hx
  | cons y ys =>
    injection hx with hx
    injection hx with hx
    injection hx with hx _
    cases hx
theorem ne_nats {σ : Store} {x : It} {l : Addr} {ns : List Nat} (hx : σ x.ad = some (lstI x)) (hl : σ l = some (.list (natV ns))) (h : 2 < ns.length) : x.ad ≠ l := fun z => by
  rw [z, hl] at hx
  injection hx with hx
  injection hx with hx
  have := congrArg List.length hx
  rw [natV_length] at this
  simp at this
  omega
def itD (xs : List It) : List PyData := xs.map fun x => PyData.list [.int x.h, .int x.p]
theorem rd_items {σ : Store} : ∀ {xs : List It}, (∀ x ∈ xs, σ x.ad = some (lstI x)) → RDs σ (refs xs) (itD xs)
  | [], _ => .nil
  | x :: xs, h => .cons (.list (h x List.mem_cons_self) (.cons (.int _) (.cons (.int _) .nil))) (rd_items fun y hy => h y (List.mem_cons_of_mem _ hy))
theorem itD_lay : ∀ xs : List It, PyData.canLayAll0 (itD xs) = true
  | [] => by simp [itD, PyData.canLayAll0]
  | x :: xs => by
    have := itD_lay xs
    simp only [itD] at this ⊢
    simp [PyData.canLayAll0, PyData.canLay0, this]
theorem itD_depth : ∀ xs : List It, PyData.depthAll (itD xs) ≤ 5
  | [] => by simp [itD, PyData.depthAll]
  | x :: xs => by
    have := itD_depth xs
    simp only [itD] at this ⊢
    simp only [List.map_cons, PyData.depthAll, PyData.depth]
    omega
theorem itD_shaped (xs : List It) : SeqAt.shaped (.list (itD xs)) = true := by
  have h1 := itD_depth xs
  have h2 : PyData.depth (.list (itD xs)) ≤ 64 := by simp only [PyData.depth]; omega
  show (PyData.canLay0 (.list (itD xs)) && decide (PyData.depth (.list (itD xs)) ≤ 64)) = true
  rw [Bool.and_eq_true]
  exact ⟨by simp only [PyData.canLay0]; exact itD_lay xs, decide_eq_true h2⟩
theorem itD_mix : ∀ xs : List It, SeqAt.noMixAll (itD xs) (itD xs) = true
  | [] => by simp [itD, SeqAt.noMixAll]
  | x :: xs => by
    have := itD_mix xs
    simp only [itD] at this ⊢
    simp [SeqAt.noMixAll, SeqAt.noMix, this]
theorem same_nil (xs : List It) : Spec.same (.list (itD xs)) (.list []) = xs.isEmpty := by
  cases xs <;> simp [itD, Spec.same, Spec.sameAll]
theorem mix_nil (xs : List It) : SeqAt.noMix (.list (itD xs)) (.list []) = true := by
  cases xs <;> simp [itD, SeqAt.noMix, SeqAt.noMixAll]
theorem cmp_ne_nil {d : Nat} {σ : Store} {Q : V → Store → Prop} {a b : Addr} {xs : List It} (ha : σ a = some (.list (refs xs))) (hg : ∀ x ∈ xs, σ x.ad = some (lstI x)) (hb : σ b = some (.list [])) (q : Q (.bool (!xs.isEmpty)) σ) : WCmp prog w h₀ d .NotEq (.ref a) (.ref b) σ Q :=
  cmp_ne_data (.list ha (rd_items hg)) (.list hb .nil) (itD_shaped xs) (by decide +kernel) (mix_nil xs) (by rw [same_nil]; exact q)
theorem cmp_eq_nil {d : Nat} {σ : Store} {Q : V → Store → Prop} {a b : Addr} {xs : List It} (ha : σ a = some (.list (refs xs))) (hg : ∀ x ∈ xs, σ x.ad = some (lstI x)) (hb : σ b = some (.list [])) (q : Q (.bool xs.isEmpty) σ) : WCmp prog w h₀ d .Eq (.ref a) (.ref b) σ Q :=
  cmp_eq_data (.list ha (rd_items hg)) (.list hb .nil) (itD_shaped xs) (by decide +kernel) (mix_nil xs) (by rw [same_nil]; exact q)
theorem cmp_eq_its {d : Nat} {σ : Store} {Q : V → Store → Prop} {a b : Addr} {xs ys : List It} (ha : σ a = some (.list (refs xs))) (hg : ∀ x ∈ xs, σ x.ad = some (lstI x)) (hb : σ b = some (.list (refs ys))) (hk : ∀ x ∈ ys, σ x.ad = some (lstI x))
    (e : xs.map (fun x => (x.h, x.p)) = ys.map fun x => (x.h, x.p)) (q : Q (.bool true) σ) : WCmp prog w h₀ d .Eq (.ref a) (.ref b) σ Q := by
  have ed : itD xs = itD ys := by
    have h1 : ∀ zs : List It, itD zs = (zs.map fun x => (x.h, x.p)).map fun z => PyData.list [.int z.1, .int z.2] := fun zs => by rw [List.map_map]; rfl
    rw [h1, h1, e]
  have r1 := rd_items hg
  rw [ed] at r1
  exact cmp_eq_data (.list ha r1) (.list hb (rd_items hk)) (itD_shaped ys) (itD_shaped ys) (by simp only [SeqAt.noMix]; exact itD_mix ys) (by rw [same_refl]; exact q)
def intD (ns : List Int) : List PyData := ns.map PyData.int
theorem rd_ints {σ : Store} : ∀ ns : List Int, RDs σ (intV ns) (intD ns)
  | [] => .nil
  | n :: ns => .cons (.int n) (rd_ints ns)
theorem intD_lay : ∀ ns : List Int, PyData.canLayAll0 (intD ns) = true
  | [] => by simp [intD, PyData.canLayAll0]
  | n :: ns => by
    have := intD_lay ns
    simp only [intD] at this ⊢
    simp [PyData.canLayAll0, PyData.canLay0, this]
theorem intD_depth : ∀ ns : List Int, PyData.depthAll (intD ns) ≤ 5
  | [] => by simp [intD, PyData.depthAll]
  | n :: ns => by
    have := intD_depth ns
    simp only [intD] at this ⊢
    simp only [List.map_cons, PyData.depthAll, PyData.depth]
    omega
theorem intD_shaped (ns : List Int) : SeqAt.shaped (.list (intD ns)) = true := by
  have h1 := intD_depth ns
  have h2 : PyData.depth (.list (intD ns)) ≤ 64 := by simp only [PyData.depth]; omega
  show (PyData.canLay0 (.list (intD ns)) && decide (PyData.depth (.list (intD ns)) ≤ 64)) = true
  rw [Bool.and_eq_true]
  exact ⟨by simp only [PyData.canLay0]; exact intD_lay ns, decide_eq_true h2⟩
theorem intD_mix : ∀ ns : List Int, SeqAt.noMixAll (intD ns) (intD ns) = true
  | [] => by simp [intD, SeqAt.noMixAll]
  | n :: ns => by
    have := intD_mix ns
    simp only [intD] at this ⊢
    simp [SeqAt.noMixAll, SeqAt.noMix, this]
theorem cmp_ne_ints {d : Nat} {σ : Store} {Q : V → Store → Prop} {a b : Addr} {ns : List Int} (ha : σ a = some (.list (intV ns))) (hb : σ b = some (.list (intV ns))) (q : Q (.bool false) σ) : WCmp prog w h₀ d .NotEq (.ref a) (.ref b) σ Q :=
  cmp_ne_data (.list ha (rd_ints ns)) (.list hb (rd_ints ns)) (intD_shaped ns) (intD_shaped ns) (by simp only [SeqAt.noMix]; exact intD_mix ns) (by rw [same_refl]; exact q)
end
end Mine
end
section
open PySem PySem.W PySem.Calls PyProof.Rows
set_option autoImplicit false
namespace Mine
theorem fill2e : PySem.Challenge.rw_mg0010_02 = PySem.Challenge.rw_mg0010_02 ∧ Mine.hd2.heap_39 = Mine.hd2.heap_39 := by
  k_fill; exact ⟨rfl, rfl⟩
theorem vrs_ints : ∀ {vs : List Value} {ns : List Int}, IntsAre vs ns → VRs vs (intV ns)
  | _, _, .nil => .nil
  | _, _, .cons n t h => .cons (.int n t) (vrs_ints h)
theorem cf_apart : ∀ (names : List (Str × NameKind)) (n : Nat) (acc : List (Str × Addr)), (acc.Pairwise fun x y => x.2 ≠ y.2) → (∀ p ∈ acc, p.2 < n) → (cellsFrom n names acc).Pairwise fun x y => x.2 ≠ y.2
  | [], _, _, h, _ => h
  | (name, kind) :: r, n, acc, h, hl => by
    unfold cellsFrom
    split
    · refine cf_apart r (n + 1) _ (List.pairwise_cons.mpr ⟨fun p hp => Nat.ne_of_gt (hl p hp), h⟩) fun p hp => ?_
      rcases List.mem_cons.mp hp with rfl | hp
      · exact Nat.lt_succ_self _
      · exact Nat.lt_succ_of_lt (hl p hp)
    · exact cf_apart r n acc h hl
theorem cells_at {cm : Str → Option Value} {h₀ h : Heap} {L : Addr} : ∀ {cs : List (Str × Addr)} {cells : List (Addr × Obj)}, CellsAre cm cs cells → News h₀ L h cells → ∀ n c, (n, c) ∈ cs → h.IsCell c (cm n) ∧ c ≠ L ∧ h₀.get? c = none
  | _, _, .nil, _, n, c, hm => nomatch hm
  | _, _, .cons hd X, N, n, c, hm => by
    rcases List.mem_cons.mp hm with e | hm
    · injection e with e1 e2
      subst e1 e2
      have := N _ List.mem_cons_self
      exact ⟨⟨_, this.1, hd⟩, this.2.1, this.2.2⟩
    · exact cells_at X (fun p hp => N p (List.mem_cons_of_mem _ hp)) n c hm
theorem law_startC {prog : Program} {w : World} {s : Shared} {h₀ : Heap} {d : Nat} {name : Str} {scope : Scope} {L fa : Addr} {cd : Value} {x : Str} {l : Addr} {body : List Stmt} {A : Around} {K : Flow → Shared → Prop} {E : Value → Shared → Prop} {mm cm : Str → Option Value} {cells : List (Addr × Obj)}
    (F : Fr h₀ L s.heap mm) (N : News h₀ L s.heap cells) (X : CellsAre cm (cellsFrom (L + 1) scope.names []) cells) (hmm : mm x = some (.ref l)) (hk : scope.kind = .function) (hx : (envOfC name scope L fa cd).kindOf x = some .local) (hA : AOk d A)
    (h : WS prog w h₀ d (envOfC name scope L fa cd) [(x, .ref l)] body (fun _ => none) (RetQ fun v _ => v = .bool true))
    (k : ∀ h' tk, (∀ b o, h₀.get? b = some o → h'.get? b = some o) → K (.ret (.bool true)) { s with heap := h', toks := tk }) :
    wpAny (model prog w) A (execs body (envOfC name scope L fa cd)) K E s := by
  have hL : h₀.get? L = none := by
    cases e : h₀.get? L with
    | none => rfl
    | some o => exact absurd (Heap.lt_size e) (Nat.not_lt.mpr F.above)
  have look : ∀ y v, List.lookup y [(x, V.ref l)] = some v → y = x ∧ v = .ref l := fun y v e => by
    rw [List.lookup_cons] at e
    cases hyx : y == x with
    | true => rw [hyx] at e; injection e with e; exact ⟨eq_of_beq hyx, e.symm⟩
    | false => rw [hyx] at e; cases e
  have ap := cf_apart scope.names (L + 1) [] List.Pairwise.nil (fun _ h => nomatch h)
  refine wpAny_mono (h.run A s hA ⟨F.keep, fun _ _ _ => rfl, (fun _ _ e => nomatch e)⟩ ⟨hk, rfl, rfl, ⟨mm, F.ns, fun y v _ e => ?_⟩, fun y c hc => ?_, ⟨rfl, hL⟩, fun y c hc => ?_, fun y z c h1 h2 => ?_⟩) (fun f s' p => ?_) fun _ _ z => z.elim
  · obtain ⟨rfl, rfl⟩ := look y v e
    exact ⟨_, hmm, .ref l⟩
  · refine ⟨_, (cells_at X N y c (mem_of_lookup hc)).1, fun v hk' e => ?_⟩
    obtain ⟨rfl, rfl⟩ := look y v e
    rw [hx] at hk'
    rcases hk' with z | z <;> cases z
  · have := cells_at X N y c (mem_of_lookup hc)
    exact ⟨rfl, this.2.2, this.2.1⟩
  · exact name_of_addr ap (mem_of_lookup h1) (mem_of_lookup h2)
  · obtain ⟨fl, h', tk, σ', m', rfl, hf, st, ok, lk, q⟩ := p
    cases hf with
    | next => exact absurd q (by intro z; cases z)
    | brk => exact absurd q (by intro z; cases z)
    | cont => exact absurd q (by intro z; cases z)
    | ret hv =>
      have q' := q
      cases hv <;> first | (have z : _ = V.bool true := q'; cases z) | skip
      exact k h' tk ok.base
theorem law_holds : PySem.Challenge.rw_mg0010_02.Holds := Mine.hd2 (by
  k_go0; (all_goals try k_fold)
  rename_i w s₀ s₁ mg mb G1 Y fa o pm doc ho hg KX X V GL T B TE TW w13 w12 M w11 w10 hcd zs hs hlay0 hL1 hr1 hl2 w8 w7 ls vs w4 hL ra w1' r0 hI hr hcond1 hcond0 K0 hD h₁ tk₁ F o3 o2 o1 o0 l3 l2 l1 l0 N0 X0
  have G : Glo s₁.heap mg mb := ⟨T.g, T.b, T.nolimit⟩
  have hB := T.builtins
  have hls : ∀ σ', RdL s₁.heap σ' ls (intV zs) := fun _ => .inr ⟨vs, hL, vrs_ints hI⟩
  have hz : zs.length ≤ 1000 := by omega
  clear G1 Y GL TE TW M hcd hs hL1 hr1 hl2 ra w1' r0 hr hcond0 hcond1 K0 hD l3 l2 l1 l0 B V
  refine law_startC (d := 6) (x := "script") (l := ls) F N0 X0 rfl rfl rfl (AOk.deeper (d := 6) (A := callerA) ⟨rfl, by decide, by decide⟩ _) ?_ ?_
  rotate_left
  · intro h' tk keep
    refine ⟨.inl ⟨_, .bool true, [], rfl, ?_, .bool true, ?_, unshared_nil⟩, keep, rfl, hg⟩
    · intro cls; rfl
    · wrow_post
  clear qk ek N0 X0 F
  -- heights
  ktr_unf
  refine' we_comp ?kB ?_ ?ks
  case ks => intro _; rfl
  case kB =>
    refine' ⟨?c1, ?c2, rfl, by decide, by decide⟩
    case c1 => with_unfolding_all exact rfl
    case c2 => repeat (first | exact List.forall_mem_nil _ | refine List.forall_mem_cons.mpr ⟨⟨rfl, rfl, fun _ => rfl⟩, ?_⟩)
  refine wi_list (we_slice_upto ?_ ?ks)
  case ks => intro _ _; rfl
  ktr_unf
  refine ⟨ls, _, 63, rfl, hls _, by rw [intV_length, sizeLine_eq]; omega, rfl, fun b1 hb1 => ?_⟩
  have e63 : (intV zs).take 63 = intV (zs.take 63) := by simp [intV, List.map_take]
  rw [e63]
  have hz63 : (zs.take 63).length ≤ 63 := by rw [List.length_take]; omega
  generalize zs.take 63 = ys0 at hz63
  refine ⟨b1, _, rfl, upd_same _ _ _, ?_⟩
  refine ⟨by rw [intV_length, sizeLine_eq]; omega, fun i ys σ' => ∃ ns : List Int, ys = intV ns ∧ ns.length = i ∧ σ' b1 = some (.list (intV ys0)), ⟨[], rfl, rfl, upd_same _ _ _⟩, (by rintro i ys σ' ⟨_, _, _, h⟩; exact h), ?_, ?_⟩
  · rintro i v ys σ' hv ⟨ns, rfl, hns, hb⟩ Ca
    have hi : i < ys0.length := by
      have := (List.getElem?_eq_some_iff.mp hv).1
      rw [intV_length] at this; exact this
    rw [intV_get hi] at hv
    injection hv with hv
    subst hv
    refine ⟨_, asg_name rfl, compturn0 ?_⟩
    ktr_unf
    refine op_pow (by decide) (by decide +kernel) ?_
    refine op_mod (by decide) ?_
    have key : ∀ z : Int, ∃ ns' : List Int, intV ns ++ [V.int z] = intV ns' ∧ ns'.length = i + 1 ∧ σ' b1 = some (.list (intV ys0)) := fun z => ⟨ns ++ [z], by simp [intV], by simp [hns], hb⟩
    exact key _
  rintro ys σ₁ ⟨ns, rfl, hns, hb⟩ nl hnl
  have hns' : ns.length ≤ 63 := by rw [hns, intV_length]; exact hz63
  ktr_unf
  refine heights_c (d := 5) G KX hB (upd_same _ _ _) (by omega) fun f hf fa hfa => ?_
  have hσ0 : upd (upd σ₁ nl (.list (intV ns))) fa (.list (intV f)) fa = some (.list (intV f)) := upd_same _ _ _
  revert hσ0
  generalize upd (upd σ₁ nl (.list (intV ns))) fa (.list (intV f)) = σ₂
  intro hfa2
  clear hb hnl hfa hns hns' hz63 e63 hls hL hI
  -- seen
  ktr_unf
  refine' we_comp ?kB ?_ ?ks
  case ks => intro _; rfl
  case kB =>
    refine' ⟨?c1, ?c2, rfl, by decide, by decide⟩
    case c1 => with_unfolding_all exact rfl
    case c2 => repeat (first | exact List.forall_mem_nil _ | refine List.forall_mem_cons.mpr ⟨⟨rfl, rfl, fun _ => rfl⟩, ?_⟩)
  refine wi_range G ?kn ?_ ?k1 ?k2
  case kn => exact gname_B G KX hB (by k_is) (by rfl) (by decide)
  case k1 => rfl
  case k2 => rfl
  ktr_unf
  refine ⟨25, rfl, by omega, by omega, ?_⟩
  refine ⟨by rw [sizeLine_eq]; decide, fun i ys σ' => ys = natV ((List.range i).filter fun k => decide ((bes k).length < 4)) ∧ σ' fa = some (.list (intV f)), ⟨rfl, hfa2⟩, fun _ _ _ _ => trivial, ?_, ?_⟩
  · rintro i v ys σ' hv ⟨rfl, hs⟩ Ca
    obtain ⟨hi, rfl⟩ := range_at (a := 0) hv
    have hi : i < 25 := hi
    refine ⟨_, asg_name rfl, compturn1 ?_⟩
    ktr_unf
    refine bes_c (d := 5) G KX hB hi fun a ha => ?_
    have hs' : upd σ' a (.list (natV (bes i))) fa = some (.list (intV f)) := sub_upd ha _ _ hs
    ktr_unf
    refine wc_len (upd_same _ _ _) (by rw [natV_length]; have := bes_len i; omega) ?_
    rw [natV_length]
    ktr_unf
    by_cases c : (bes i).length < 4
    · rw [decide_eq_true (by omega), if_pos rfl]
      ktr_unf
      refine ⟨?_, hs'⟩
      rw [List.range_succ, List.filter_append]
      simp [natV, c]
    · rw [decide_eq_false (by omega), if_neg (by simp)]
      refine ⟨?_, hs'⟩
      rw [List.range_succ, List.filter_append]
      simp [natV, c]
  rintro ys σ₃ ⟨rfl, hfa3⟩ sa hsa
  rw [rangeV_length]
  have hfs : fa ≠ sa := fun z => by rw [z, hsa] at hfa3; cases hfa3
  have hsa4 : upd σ₃ sa (.list (natV rimL)) sa = some (.list (natV rimL)) := upd_same _ _ _
  have hfa4 : upd σ₃ sa (.list (natV rimL)) fa = some (.list (intV f)) := sub_upd hsa _ _ hfa3
  change Seq _ _ _ _ _ _ _ _ _ (upd σ₃ sa (.list (natV rimL)))
  revert hsa4 hfa4
  generalize upd σ₃ sa (.list (natV rimL)) = σ₄
  intro hsa4 hfa4
  clear hfa2 hfa3 hsa
  -- heap
  ktr_unf
  refine' wx_assign_comp ?kB ?_ ?k1 ?k2 ?k3
  case k1 => rfl
  case k2 => rfl
  case k3 => intro _; rfl
  case kB =>
    refine' ⟨?c1, ?c2, rfl, by decide, by decide⟩
    case c1 => with_unfolding_all exact rfl
    case c2 => repeat (first | exact List.forall_mem_nil _ | refine List.forall_mem_cons.mpr ⟨⟨rfl, rfl, fun _ => rfl⟩, ?_⟩)
  refine wi_list ?_
  ktr_unf
  refine ⟨sa, _, rfl, hsa4, ?_⟩
  refine ⟨by rw [natV_length, rimL_len, sizeLine_eq]; decide, fun i ys σ' => ∃ its : List It, ys = refs its ∧ its.map (fun x => (x.h, x.p)) = (rimL.take i).map (fun p => (f.getD p 0, ((p : Nat) : Int))) ∧ (∀ x ∈ its, σ' x.ad = some (lstI x)) ∧ Sub σ₄ σ',
    ⟨[], rfl, by simp, (fun _ h => nomatch h), Sub.refl _⟩, (by rintro i ys σ' ⟨its, _, _, _, h⟩; exact h _ _ hsa4), ?_, ?_⟩
  · rintro i v ys σ' hv ⟨its, rfl, t1, t2, t3⟩ Ca
    have hi : i < rimL.length := by
      have := (List.getElem?_eq_some_iff.mp hv).1
      rw [natV_length] at this; exact this
    have hv' : v = .int ((rimL[i] : Nat) : Int) := by
      rw [natV, List.getElem?_map, List.getElem?_eq_getElem hi] at hv
      injection hv with hv
      exact hv.symm
    subst hv'
    have hn25 : rimL[i] < 25 := rimL_lt (List.getElem_mem hi)
    have htake : rimL.take (i + 1) = rimL.take i ++ [rimL[i]] := by rw [List.take_add_one, List.getElem?_eq_getElem hi]; rfl
    generalize rimL[i] = n at hn25 htake
    refine ⟨_, asg_name rfl, compturn0 ?_⟩
    refine we_list ?_
    ktr_unf
    refine ⟨_, item_list (t3 _ _ hfa4) (intV_get (by omega)) (by rw [intV_length]; omega), ?_⟩
    ktr_unf
    refine ⟨by rw [sizeLine_eq]; exact (by decide : 2 ≤ 16777216), fun a hna => ?_⟩
    refine ⟨its ++ [⟨a, f.getD n 0, n⟩], by simp [refs], ?_, ?_, t3.trans (sub_upd hna)⟩
    · rw [htake, List.map_append, List.map_append, t1]; rfl
    · intro x hx
      rcases List.mem_append.mp hx with h | h
      · exact sub_upd hna _ _ (t2 x h)
      · rw [List.mem_singleton] at h; subst h; rw [upd_same]; rfl
  rintro ys σ₅ ⟨its0, rfl, t1, t2, t3⟩ ha hha
  rw [natV_length, List.take_length] at t1
  have hfh : fa ≠ ha := fun z => by rw [← z, t3 _ _ hfa4] at hha; cases hha
  have hsh : sa ≠ ha := fun z => by rw [← z, t3 _ _ hsa4] at hha; cases hha
  have s6 := sub_upd (o := .list (refs its0)) hha
  have hl0 : its0.length = 16 := by have := congrArg List.length t1; rw [List.length_map, List.length_map, rimL_len] at this; exact this
  ktr_unf
  refine wx_if ?_
  ktr_unf
  refine heapify_c (d := 3) (obj := lstI) G KX hB hcmp2 (upd_same _ _ _) (fun x hx => s6 _ _ (t2 x hx)) (fun x hx => ne_refs (s6 _ _ (t2 x hx)) (upd_same _ _ _)) (by omega) ?_
  rw [upd_upd]
  ktr_unf
  rw [show (!V.isNone V.none) = false from rfl, if_neg (by simp)]
  ktr_unf
  have hsp := heapify_spec its0
  generalize heapify its0 = xs0 at hsp
  have hxl : xs0.length = 16 := by rw [hsp.1.length_eq]; exact hl0
  have I0 := finv_init hf t1 hsp.1 hsp.2
  have g1 : upd σ₅ ha (.list (refs xs0)) ha = some (.list (refs xs0)) := upd_same _ _ _
  have g2 : upd σ₅ ha (.list (refs xs0)) fa = some (.list (intV f)) := by rw [upd_ne _ _ hfh]; exact t3 _ _ hfa4
  have g3 : upd σ₅ ha (.list (refs xs0)) sa = some (.list (natV rimL)) := by rw [upd_ne _ _ hsh]; exact t3 _ _ hsa4
  have g4 : ∀ x ∈ xs0, upd σ₅ ha (.list (refs xs0)) x.ad = some (lstI x) := fun x hx => by
    have hx1 := s6 _ _ (t2 x (hsp.1.mem_iff.mp hx))
    have hne : x.ad ≠ ha := ne_refs hx1 (upd_same _ _ _)
    rw [upd_ne _ _ hne]; rw [upd_ne _ _ hne] at hx1; exact hx1
  revert g1 g2 g3 g4
  generalize upd σ₅ ha (.list (refs xs0)) = σ₆
  intro g1 g2 g3 g4
  clear t1 t2 t3 hha s6 hsa4 hfa4 hsp hl0
  refine we_list ?_
  ktr_unf
  refine ⟨by rw [sizeLine_eq]; decide, fun ta hta => ?_⟩
  have hft : fa ≠ ta := fun z => by rw [← z, g2] at hta; cases hta
  have hst : sa ≠ ta := fun z => by rw [← z, g3] at hta; cases hta
  have hht : ha ≠ ta := fun z => by rw [← z, g1] at hta; cases hta
  have s7 := sub_upd (o := .list []) hta
  ktr_unf
  refine wx_whileL (α := List It × List It × List Nat × Int) (fun a => [("heights", .ref fa), ("seen", .ref sa), ("heap", .ref ha), ("told", .ref ta)])
    (fun a σ => σ fa = some (.list (intV f)) ∧ σ sa = some (.list (natV a.2.2.1)) ∧ σ ha = some (.list (refs a.1)) ∧ σ ta = some (.list (refs a.2.1)) ∧ (∀ x ∈ a.2.1 ++ a.1, σ x.ad = some (lstI x)) ∧ FInv f a.1 a.2.1 a.2.2.1 a.2.2.2 ∧ a.2.1.length + (a.1.length + 2 * (25 - a.2.2.1.length)) ≤ 1000)
    (fun a => a.1.length + 2 * (25 - a.2.2.1.length)) (xs0, [], rimL, (nth xs0 0).h)
    (.cons rfl (.cons rfl (.cons rfl (.cons rfl .nil)))) ⟨s7 _ _ g2, s7 _ _ g3, s7 _ _ g1, upd_same _ _ _, fun x hx => s7 _ _ (g4 x hx), I0, by dsimp only; rw [List.length_nil]; omega⟩ ?_
  clear g1 g2 g3 g4 s7 hta I0
  rintro ⟨xs, told, seen, before⟩ σ ⟨k1, k2, k3, k4, k5, I, kl⟩
  dsimp only at k1 k2 k3 k4 k5 I kl ⊢
  have kt : told.length ≤ 1000 := by omega
  ktr_unf
  refine we_list ?_
  ktr_unf
  refine ⟨by rw [sizeLine_eq]; decide, fun e he => ?_⟩
  have se : Sub σ (upd σ e (.list [])) := sub_upd he
  refine cmp_ne_nil (se _ _ k3) (fun x hx => se _ _ (k5 x (List.mem_append_right _ hx))) (upd_same _ _ _) ?_
  ktr_unf
  cases hxs : xs with
  | nil =>
    subst hxs
    rw [show (!([] : List It).isEmpty) = false from rfl, if_neg (by simp)]
    intro m' hm'
    refine seq_next (WS.has hm' ?_)
    refine WS.weakenσ ?_ se
    clear se he e
    have E := finv_end hf I
    rw [List.append_nil] at k5
    ktr_unf
    refine levels_c (d := 3) G KX hB k1 hf fun la hla => ?_
    have hll := lev_length f 9
    have s1 := sub_upd (o := .list (intV (lev f 9))) hla
    have q1 : upd σ la (.list (intV (lev f 9))) la = some (.list (intV (lev f 9))) := upd_same _ _ _
    have q4 := s1 _ _ k4
    have q5 : ∀ x ∈ told, upd σ la (.list (intV (lev f 9))) x.ad = some (lstI x) := fun x hx => s1 _ _ (k5 x hx)
    revert q1 q4 q5 E hll
    generalize upd σ la (.list (intV (lev f 9))) = τ
    generalize lev f 9 = lv
    intro E hll q1 q4 q5
    clear s1 k1 k2 k3 k4 k5 I kl
    ktr_unf
    refine wx_if ?_
    ktr_unf
    refine' we_comp ?kB ?_ ?ks
    case ks => intro _; rfl
    case kB =>
      refine' ⟨?c1, ?c2, rfl, by decide, by decide⟩
      case c1 => with_unfolding_all exact rfl
      case c2 => repeat (first | exact List.forall_mem_nil _ | refine List.forall_mem_cons.mpr ⟨⟨rfl, rfl, fun _ => rfl⟩, ?_⟩)
    refine wi_list ?_
    ktr_unf
    refine ⟨ta, _, rfl, q4, ?_⟩
    refine ⟨by rw [refs_length, sizeLine_eq]; omega, fun i ys τ' => ys = intV ((told.take i).map fun x => x.h) ∧ τ' = τ, ⟨by simp [intV], rfl⟩, (by rintro i ys τ' ⟨_, rfl⟩; exact q4), ?_, ?_⟩
    · rintro i v ys τ' hv ⟨rfl, rfl⟩ Ca
      have hi : i < told.length := by
        have := (List.getElem?_eq_some_iff.mp hv).1
        rw [refs_length] at this; exact this
      have hv' : v = .ref told[i].ad := by simpa [refs, hi] using hv.symm
      subst hv'
      have htake : told.take (i + 1) = told.take i ++ [told[i]] := by rw [List.take_add_one, List.getElem?_eq_getElem hi]; rfl
      have hx := q5 told[i] (List.getElem_mem hi)
      generalize told[i] = x at htake hx
      refine ⟨_, asg_lst2 hx rfl rfl, compturn0 ?_⟩
      ktr_unf
      refine ⟨?_, rfl⟩
      rw [htake, List.map_append]
      simp [intV]
    rintro ys τ' ⟨rfl, rfl⟩ D hD
    rw [refs_length, List.take_length]
    have s2 := sub_upd (o := .list (intV (told.map fun x => x.h))) hD
    ktr_unf
    refine wc_sorted (s2 _ _ q1) (by omega) fun ns' p1 p2 D2 hD2 => ?_
    have s3 := sub_upd (o := .list (intV ns')) hD2
    have en : told.map (fun x => x.h) = ns' := end_levels hll E p1 p2
    refine cmp_ne_ints (ns := ns') (by have := s3 _ _ (upd_same τ' D (.list (intV (told.map fun x => x.h)))); rw [en] at this ⊢; exact this) (upd_same _ _ _) ?_
    ktr_unf
    rw [if_neg (by simp)]
    ktr_unf
    have r1 := s3 _ _ (s2 _ _ q1)
    have r4 := s3 _ _ (s2 _ _ q4)
    have r5 : ∀ x ∈ told, upd (upd τ' D (.list (intV (told.map fun x => x.h)))) D2 (.list (intV ns')) x.ad = some (lstI x) := fun x hx => s3 _ _ (s2 _ _ (q5 x hx))
    revert r1 r4 r5
    generalize upd (upd τ' D (.list (intV (told.map fun x => x.h)))) D2 (.list (intV ns')) = τ₂
    intro r1 r4 r5
    clear q1 q4 q5 s2 s3 hD hD2 p1 p2 en
    ktr_unf
    refine' we_comp ?kB ?_ ?ks
    case ks => intro _; rfl
    case kB =>
      refine' ⟨?c1, ?c2, rfl, by decide, by decide⟩
      case c1 => with_unfolding_all exact rfl
      case c2 => repeat (first | exact List.forall_mem_nil _ | refine List.forall_mem_cons.mpr ⟨⟨rfl, rfl, fun _ => rfl⟩, ?_⟩)
    refine wi_list ?_
    ktr_unf
    refine ⟨ta, _, rfl, r4, ?_⟩
    refine ⟨by rw [refs_length, sizeLine_eq]; omega, fun i ys τ' => ∃ its : List It, ys = refs its ∧ its.map (fun x => (x.h, x.p)) = (told.take i).map (fun x => (x.p, x.h)) ∧ (∀ x ∈ its, τ' x.ad = some (lstI x)) ∧ Sub τ₂ τ',
      ⟨[], rfl, by simp, (fun _ h => nomatch h), Sub.refl _⟩, (by rintro i ys τ' ⟨its, _, _, _, h⟩; exact h _ _ r4), ?_, ?_⟩
    · rintro i v ys τ' hv ⟨its, rfl, t1, t2, t3⟩ Ca
      have hi : i < told.length := by
        have := (List.getElem?_eq_some_iff.mp hv).1
        rw [refs_length] at this; exact this
      have hv' : v = .ref told[i].ad := by simpa [refs, hi] using hv.symm
      subst hv'
      have htake : told.take (i + 1) = told.take i ++ [told[i]] := by rw [List.take_add_one, List.getElem?_eq_getElem hi]; rfl
      have hx := t3 _ _ (r5 told[i] (List.getElem_mem hi))
      generalize told[i] = x at htake hx
      refine ⟨_, asg_lst2 hx rfl rfl, compturn0 ?_⟩
      refine we_list ?_
      ktr_unf
      refine ⟨by rw [sizeLine_eq]; exact (by decide : 2 ≤ 16777216), fun a hna => ?_⟩
      refine ⟨its ++ [⟨a, x.p, x.h⟩], by simp [refs], ?_, ?_, t3.trans (sub_upd hna)⟩
      · rw [htake, List.map_append, List.map_append, t1]; rfl
      · intro y hy
        rcases List.mem_append.mp hy with h | h
        · exact sub_upd hna _ _ (t2 y h)
        · rw [List.mem_singleton] at h; subst h; rw [upd_same]; rfl
    rintro ys τ₃ ⟨its, rfl, t1, t2, t3⟩ D hD
    rw [refs_length, List.take_length] at t1
    have s4 := sub_upd (o := .list (refs its)) hD
    obtain ⟨nd, l25⟩ := told_nodup E t1
    ktr_unf
    refine wc_sorted_lst (upd_same _ _ _) (fun x hx => s4 _ _ (t2 x hx)) (by omega) (by omega) nd fun its' p1 p2 D2 hD2 => ?_
    have s5 := sub_upd (o := .list (refs its')) hD2
    have ei := end_items E t1 p1 p2
    have u1 := s5 _ _ (s4 _ _ (t3 _ _ r1))
    have u2 : upd (upd τ₃ D (.list (refs its))) D2 (.list (refs its')) D2 = some (.list (refs its')) := upd_same _ _ _
    have u3 : ∀ x ∈ its', upd (upd τ₃ D (.list (refs its))) D2 (.list (refs its')) x.ad = some (lstI x) := fun x hx => s5 _ _ (s4 _ _ (t2 x (p1.mem_iff.mp hx)))
    revert u1 u2 u3
    generalize upd (upd τ₃ D (.list (refs its))) D2 (.list (refs its')) = τ₄
    intro u1 u2 u3
    clear t1 t2 t3 r1 r4 r5 s4 s5 hD hD2 p1 p2 nd l25
    ktr_unf
    refine' we_comp ?kB ?_ ?ks
    case ks => intro _; rfl
    case kB =>
      refine' ⟨?c1, ?c2, rfl, by decide, by decide⟩
      case c1 => with_unfolding_all exact rfl
      case c2 => repeat (first | exact List.forall_mem_nil _ | refine List.forall_mem_cons.mpr ⟨⟨rfl, rfl, fun _ => rfl⟩, ?_⟩)
    refine wi_range G ?kn ?_ ?k1 ?k2
    case kn => exact gname_B G KX hB (by k_is) (by rfl) (by decide)
    case k1 => rfl
    case k2 => rfl
    ktr_unf
    refine ⟨25, rfl, by omega, by omega, ?_⟩
    refine ⟨by rw [sizeLine_eq]; decide, fun i ys τ' => ∃ its : List It, ys = refs its ∧ its.map (fun x => (x.h, x.p)) = (List.range i).map (fun (k : Nat) => ((k : Int), lv.getD k 0)) ∧ (∀ x ∈ its, τ' x.ad = some (lstI x)) ∧ Sub τ₄ τ',
      ⟨[], rfl, by simp, (fun _ h => nomatch h), Sub.refl _⟩, fun _ _ _ _ => trivial, ?_, ?_⟩
    · rintro i v ys τ' hv ⟨its, rfl, t1, t2, t3⟩ Ca
      obtain ⟨hi, rfl⟩ := range_at (a := 0) hv
      have hi : i < 25 := hi
      refine ⟨_, asg_name rfl, compturn0 ?_⟩
      refine we_list ?_
      ktr_unf
      refine ⟨_, item_list (t3 _ _ u1) (intV_get (by omega)) (by rw [intV_length]; omega), ?_⟩
      ktr_unf
      refine ⟨by rw [sizeLine_eq]; exact (by decide : 2 ≤ 16777216), fun a hna => ?_⟩
      refine ⟨its ++ [⟨a, i, lv.getD i 0⟩], by simp [refs], ?_, ?_, t3.trans (sub_upd hna)⟩
      · rw [List.range_succ, List.map_append, List.map_append, t1]; rfl
      · intro y hy
        rcases List.mem_append.mp hy with h | h
        · exact sub_upd hna _ _ (t2 y h)
        · rw [List.mem_singleton] at h; subst h; rw [upd_same]; rfl
    rintro ys τ₅ ⟨its3, rfl, t1, t2, t3⟩ D3 hD3
    rw [rangeV_length] at t1
    have s6 := sub_upd (o := .list (refs its3)) hD3
    refine cmp_eq_its (s6 _ _ (t3 _ _ u2)) (fun x hx => s6 _ _ (t3 _ _ (u3 x hx))) (upd_same _ _ _) (fun x hx => s6 _ _ (t2 x hx)) ?_ ?_
    · rw [ei, t1]; rfl
    · ktr_unf
  | cons x9 xs9 =>
    have hpos : 0 < xs.length := by rw [hxs]; simp
    rw [← hxs]
    rw [show (!xs.isEmpty) = true by rw [hxs]; rfl, if_pos rfl]
    refine WS.weakenσ ?_ se
    clear hxs x9 xs9 se he e
    have htop := mem_nth0 hpos
    obtain ⟨p0, hp0, hp25⟩ := I.item _ (List.mem_append_right _ htop)
    have turn := @finv_turn f hf xs
    have hs16 : 16 ≤ seen.length := by obtain ⟨c, hc, _⟩ := I.D; omega
    have hs25 := I.seenLen
    ktr_unf
    refine ⟨_, item_refs (i := 0) k3 hpos (by omega), ?_⟩
    rw [show xs.getD 0 noIt = nth xs 0 from rfl]
    generalize htp : nth xs 0 = top at *
    have htop' : top ∈ told ++ xs := List.mem_append_right _ htop
    ktr_unf
    refine wx_unpack2 ?_ (Or.inr ⟨rfl, _, rfl⟩) (Or.inl rfl) ?ks1 ?ks2
    case ks1 => with_unfolding_all rfl
    case ks2 => with_unfolding_all rfl
    ktr_unf
    refine ⟨top.ad, _, _, rfl, .inl (k5 top htop'), ?_⟩
    rw [hp0]
    ktr_unf
    refine' wx_assign_comp ?kB ?_ ?k1 ?k2 ?k3
    case k1 => rfl
    case k2 => rfl
    case k3 => intro _; rfl
    case kB =>
      refine' ⟨?c1, ?c2, rfl, by decide, by decide⟩
      case c1 => with_unfolding_all exact rfl
      case c2 => repeat (first | exact List.forall_mem_nil _ | refine List.forall_mem_cons.mpr ⟨⟨rfl, rfl, fun _ => rfl⟩, ?_⟩)
    refine wi_list ?_
    ktr_unf
    refine bes_c (d := 5) G KX hB hp25 fun nl hnl => ?_
    have sn : Sub σ (upd σ nl (.list (natV (bes p0)))) := sub_upd hnl
    refine ⟨nl, _, rfl, upd_same _ _ _, ?_⟩
    refine ⟨by rw [natV_length, sizeLine_eq]; have := bes_len p0; omega, fun i ys σ' => ys = natV (((bes p0).take i).filter fun n => !decide (n ∈ seen)) ∧ σ' = upd σ nl (.list (natV (bes p0))), ⟨by simp [natV], rfl⟩, (by rintro i ys σ' ⟨_, rfl⟩; exact upd_same _ _ _), ?_, ?_⟩
    · rintro i v ys σ' hv ⟨rfl, rfl⟩ Ca
      have hi : i < (bes p0).length := by
        have := (List.getElem?_eq_some_iff.mp hv).1
        rw [natV_length] at this; exact this
      have hv' : v = .int (((bes p0)[i] : Nat) : Int) := by
        rw [natV, List.getElem?_map, List.getElem?_eq_getElem hi] at hv
        injection hv with hv
        exact hv.symm
      subst hv'
      have htake : (bes p0).take (i + 1) = (bes p0).take i ++ [(bes p0)[i]] := by rw [List.take_add_one, List.getElem?_eq_getElem hi]; rfl
      generalize (bes p0)[i] = n at htake
      refine ⟨_, asg_name rfl, compturn1 ?_⟩
      ktr_unf
      refine cmp_notin_nat (sn _ _ k2) ?_
      ktr_unf
      by_cases c : n ∈ seen
      · rw [decide_eq_true c, if_neg (by simp)]
        refine ⟨?_, rfl⟩
        rw [htake, List.filter_append]; simp [c]
      · rw [decide_eq_false c, show (!false) = true from rfl, if_pos rfl]
        ktr_unf
        refine ⟨?_, rfl⟩
        rw [htake, List.filter_append]; simp [natV, c]
    rintro ys σ' ⟨rfl, rfl⟩ na hna
    rw [natV_length, List.take_length]
    change Seq _ _ _ _ _ _ _ _ _ (upd (upd σ nl (.list (natV (bes p0)))) na (.list (natV (fresh seen p0))))
    have sna := sub_upd (o := .list (natV (fresh seen p0))) hna
    have sA : Sub σ (upd (upd σ nl (.list (natV (bes p0)))) na (.list (natV (fresh seen p0)))) := sn.trans sna
    have hfl : (fresh seen p0).length ≤ 4 := Nat.le_trans (List.length_filter_le _ _) (bes_len p0)
    have hnas : na ≠ sa := fun z => by rw [z, sn _ _ k2] at hna; cases hna
    have ana := upd_same (upd σ nl (.list (natV (bes p0)))) na (.list (natV (fresh seen p0)))
    revert sA ana
    generalize upd (upd σ nl (.list (natV (bes p0)))) na (.list (natV (fresh seen p0))) = σ₁'
    intro sA ana
    have k1' := sA _ _ k1
    have k2' := sA _ _ k2
    have k3' := sA _ _ k3
    have k4' := sA _ _ k4
    have k5' : ∀ x ∈ told ++ xs, σ₁' x.ad = some (lstI x) := fun x hx => sA _ _ (k5 x hx)
    clear sA sna sn hna hnl k1 k2 k3 k4 k5
    -- seen.extend(new)
    ktr_unf
    refine we_extend ?_ ?kx ?ky ?kz
    case kx => rfl
    case ky => rfl
    case kz => rfl
    ktr_unf
    refine ⟨sa, _, rfl, k2', ?_⟩
    ktr_unf
    refine ⟨na, _, _, rfl, k2', ana, by rw [natV_length]; omega, by rw [natV_length]; omega, (fun b h => nomatch h), ?_⟩
    have eap : natV seen ++ natV (fresh seen p0) = natV (seen ++ fresh seen p0) := by simp [natV]
    rw [eap]
    have n1 : upd σ₁' sa (.list (natV (seen ++ fresh seen p0))) fa = some (.list (intV f)) := by rw [upd_ne _ _ hfs]; exact k1'
    have n2 : upd σ₁' sa (.list (natV (seen ++ fresh seen p0))) sa = some (.list (natV (seen ++ fresh seen p0))) := upd_same _ _ _
    have n3 : upd σ₁' sa (.list (natV (seen ++ fresh seen p0))) ha = some (.list (refs xs)) := by rw [upd_ne _ _ (Ne.symm hsh)]; exact k3'
    have n4 : upd σ₁' sa (.list (natV (seen ++ fresh seen p0))) ta = some (.list (refs told)) := by rw [upd_ne _ _ (Ne.symm hst)]; exact k4'
    have n5 : ∀ x ∈ told ++ xs, upd σ₁' sa (.list (natV (seen ++ fresh seen p0))) x.ad = some (lstI x) := fun x hx => by
      rw [upd_ne _ _ (ne_nats (k5' x hx) k2' (by omega))]; exact k5' x hx
    have n6 : upd σ₁' sa (.list (natV (seen ++ fresh seen p0))) na = some (.list (natV (fresh seen p0))) := by rw [upd_ne _ _ hnas]; exact ana
    revert n1 n2 n3 n4 n5 n6
    generalize upd σ₁' sa (.list (natV (seen ++ fresh seen p0))) = σ₂'
    intro n1 n2 n3 n4 n5 n6
    clear k1' k2' k3' k4' k5' ana eap
    -- coming
    ktr_unf
    refine' wx_assign_comp ?kB ?_ ?k1 ?k2 ?k3
    case k1 => rfl
    case k2 => rfl
    case k3 => intro _; rfl
    case kB =>
      refine' ⟨?c1, ?c2, rfl, by decide, by decide⟩
      case c1 => with_unfolding_all exact rfl
      case c2 => repeat (first | exact List.forall_mem_nil _ | refine List.forall_mem_cons.mpr ⟨⟨rfl, rfl, fun _ => rfl⟩, ?_⟩)
    refine wi_list ?_
    ktr_unf
    refine ⟨na, _, rfl, n6, ?_⟩
    refine ⟨by rw [natV_length, sizeLine_eq]; omega, fun i ys σ' => ∃ its : List It, ys = refs its ∧ its.map (fun x => (x.h, x.p)) = ((fresh seen p0).take i).map (fun n => (max top.h (f.getD n 0), ((n : Nat) : Int))) ∧ (∀ x ∈ its, σ' x.ad = some (lstI x)) ∧ Sub σ₂' σ',
      ⟨[], rfl, by simp, (fun _ h => nomatch h), Sub.refl _⟩, (by rintro i ys σ' ⟨its, _, _, _, h⟩; exact h _ _ n6), ?_, ?_⟩
    · rintro i v ys σ' hv ⟨its, rfl, t1, t2, t3⟩ Ca
      have hi : i < (fresh seen p0).length := by
        have := (List.getElem?_eq_some_iff.mp hv).1
        rw [natV_length] at this; exact this
      have hv' : v = .int (((fresh seen p0)[i] : Nat) : Int) := by
        rw [natV, List.getElem?_map, List.getElem?_eq_getElem hi] at hv
        injection hv with hv
        exact hv.symm
      subst hv'
      have hn25 : (fresh seen p0)[i] < 25 := bes_lt p0 hp25 _ (List.mem_filter.mp (List.getElem_mem hi)).1
      have htake : (fresh seen p0).take (i + 1) = (fresh seen p0).take i ++ [(fresh seen p0)[i]] := by rw [List.take_add_one, List.getElem?_eq_getElem hi]; rfl
      generalize (fresh seen p0)[i] = n at hn25 htake
      refine ⟨_, asg_name rfl, compturn0 ?_⟩
      refine we_list ?_
      ktr_unf
      refine ⟨_, item_list (t3 _ _ n1) (intV_get (by omega)) (by rw [intV_length]; omega), ?_⟩
      ktr_unf
      refine wc_max2 ?_
      ktr_unf
      refine ⟨by rw [sizeLine_eq]; exact (by decide : 2 ≤ 16777216), fun a hna => ?_⟩
      refine ⟨its ++ [⟨a, max top.h (f.getD n 0), n⟩], by simp [refs], ?_, ?_, t3.trans (sub_upd hna)⟩
      · rw [htake, List.map_append, List.map_append, t1]; rfl
      · intro x hx
        rcases List.mem_append.mp hx with h | h
        · exact sub_upd hna _ _ (t2 x h)
        · rw [List.mem_singleton] at h; subst h; rw [upd_same]; rfl
    rintro ys σ₃' ⟨its, rfl, t1, t2, t3⟩ D hD
    rw [natV_length, List.take_length] at t1
    have hil : its.length ≤ 4 := by have := congrArg List.length t1; rw [List.length_map, List.length_map] at this; omega
    have sD := sub_upd (o := .list (refs its)) hD
    have sAll := t3.trans sD
    have hDh : D ≠ ha := fun z => by rw [z, t3 _ _ n3] at hD; cases hD
    have hDt : D ≠ ta := fun z => by rw [z, t3 _ _ n4] at hD; cases hD
    have m1 := sAll _ _ n1
    have m2 := sAll _ _ n2
    have m3 := sAll _ _ n3
    have m4 := sAll _ _ n4
    have m5 : ∀ x ∈ told ++ xs ++ its, upd σ₃' D (.list (refs its)) x.ad = some (lstI x) := fun x hx => by
      rcases List.mem_append.mp hx with h | h
      · exact sAll _ _ (n5 x h)
      · exact sD _ _ (t2 x h)
    have m6 : upd σ₃' D (.list (refs its)) D = some (.list (refs its)) := upd_same _ _ _
    revert m1 m2 m3 m4 m5 m6
    generalize upd σ₃' D (.list (refs its)) = σ₄'
    intro m1 m2 m3 m4 m5 m6
    clear n1 n2 n3 n4 n5 n6 t2 t3 sD sAll hD
    have inX : ∀ y ∈ xs, y ∈ told ++ xs ++ its := fun y hy => List.mem_append_left _ (List.mem_append_right _ hy)
    have inI : ∀ y ∈ its, y ∈ told ++ xs ++ its := fun y hy => List.mem_append_right _ hy
    -- if coming == []
    ktr_unf
    refine wx_if_join (J := fun m' σ' => Has m' [("heights", .ref fa), ("seen", .ref sa), ("heap", .ref ha), ("told", .ref ta), ("top", .ref top.ad), ("gone", .ref top.ad)] ∧ ∃ xs', (top :: xs').Perm (xs ++ its) ∧ Ord 0 xs' ∧
      σ' fa = some (.list (intV f)) ∧ σ' sa = some (.list (natV (seen ++ fresh seen p0))) ∧ σ' ha = some (.list (refs xs')) ∧ σ' ta = some (.list (refs told)) ∧ ∀ x ∈ told ++ xs ++ its, σ' x.ad = some (lstI x)) ?_ ?_
    · ktr_unf
      refine we_list ?_
      ktr_unf
      refine ⟨by rw [sizeLine_eq]; decide, fun e he => ?_⟩
      have se : Sub σ₄' (upd σ₄' e (.list [])) := sub_upd he
      refine cmp_eq_nil (se _ _ m6) (fun x hx => se _ _ (m5 x (inI x hx))) (upd_same _ _ _) ?_
      ktr_unf
      cases hie : its.isEmpty with
      | true =>
        rw [if_pos rfl]
        refine WS.weakenσ ?_ se
        clear se he e
        have hnil : its = [] := List.isEmpty_iff.mp hie
        have hxy : xs.dropLast ++ [xs.getLast (List.length_pos_iff.mp hpos)] = xs := List.dropLast_concat_getLast _
        ktr_unf
        refine pop_c (d := 3) (obj := lstI) (xs := xs.dropLast) (x := xs.getLast (List.length_pos_iff.mp hpos)) G KX hB hcmp2 ?_ ?_ ?_ ?_ ?_
        · rw [hxy]; exact m3
        · rw [hxy]; exact fun y hy => m5 y (inX y hy)
        · rw [hxy]; exact fun y hy => ne_refs (m5 y (inX y hy)) m3
        · rw [List.length_dropLast]; omega
        · rw [hxy, htp]
          ktr_unf
          refine ⟨.cons rfl (.cons rfl (.cons rfl (.cons rfl (.cons rfl (.cons rfl .nil))))), _, ?_, pop_ord (by rw [hxy]; exact I.ord), by rw [upd_ne _ _ hfh]; exact m1, by rw [upd_ne _ _ hsh]; exact m2, upd_same _ _ _, by rw [upd_ne _ _ (Ne.symm hht)]; exact m4, fun x hx => by rw [upd_ne _ _ (ne_refs (m5 x hx) m3)]; exact m5 x hx⟩
          have := pop_top (zs := xs.dropLast) (xs.getLast (List.length_pos_iff.mp hpos))
          rw [hxy, htp] at this
          rw [hnil]; simpa using this
      | false =>
        rw [if_neg (by simp)]
        refine WS.weakenσ ?_ se
        clear se he e
        have hip : 0 < its.length := by cases its with | nil => simp at hie | cons _ _ => simp
        ktr_unf
        refine ⟨_, item_refs (i := 0) m6 hip (by omega), ?_⟩
        rw [show its.getD 0 noIt = nth its 0 from rfl]
        ktr_unf
        have hm0 := mem_nth0 hip
        have hx0' := m5 _ (inI _ hm0)
        refine replace_c (d := 3) (obj := lstI) G KX hB hcmp2 m3 (fun y hy => m5 y (inX y hy)) hx0' (fun y hy => ne_refs (m5 y (inX y hy)) m3) (ne_refs hx0' m3) hpos (by omega) ?_
        rw [htp]
        have hp1 : (top :: (replace xs (nth its 0) ++ its.drop 1)).Perm (xs ++ its) := by
          have h1 := (replace_top (nth its 0) hpos).append_right (its.drop 1)
          rw [htp] at h1
          have h2 : its = nth its 0 :: its.drop 1 := by cases its with | nil => simp at hip | cons _ _ => rfl
          refine (show (top :: (replace xs (nth its 0) ++ its.drop 1)).Perm _ from h1).trans ?_
          rw [List.append_assoc]
          conv => rhs; rw [h2]
          exact .refl _
        have hp2 : Ord 0 (replace xs (nth its 0)) := replace_ord _ hpos I.ord
        generalize replace xs (nth its 0) = xs1 at hp1 hp2
        have v1 : upd σ₄' ha (.list (refs xs1)) fa = some (.list (intV f)) := by rw [upd_ne _ _ hfh]; exact m1
        have v2 : upd σ₄' ha (.list (refs xs1)) sa = some (.list (natV (seen ++ fresh seen p0))) := by rw [upd_ne _ _ hsh]; exact m2
        have v3 : upd σ₄' ha (.list (refs xs1)) ha = some (.list (refs xs1)) := upd_same _ _ _
        have v4 : upd σ₄' ha (.list (refs xs1)) ta = some (.list (refs told)) := by rw [upd_ne _ _ (Ne.symm hht)]; exact m4
        have v5 : ∀ x ∈ told ++ xs ++ its, upd σ₄' ha (.list (refs xs1)) x.ad = some (lstI x) := fun x hx => by rw [upd_ne _ _ (ne_refs (m5 x hx) m3)]; exact m5 x hx
        have v6 : upd σ₄' ha (.list (refs xs1)) D = some (.list (refs its)) := by rw [upd_ne _ _ hDh]; exact m6
        revert v1 v2 v3 v4 v5 v6
        generalize upd σ₄' ha (.list (refs xs1)) = σ₅'
        intro v1 v2 v3 v4 v5 v6
        ktr_unf
        refine wx_forL ?_ ?ks
        case ks => intro _; rfl
        refine wi_list ?_
        refine we_slice_from ?_ ?ks
        case ks => intro _ _; with_unfolding_all rfl
        ktr_unf
        refine ⟨D, refs its, 1, rfl, .inl v6, by rw [refs_length, sizeLine_eq]; omega, rfl, fun S hS => ?_⟩
        have sS := sub_upd (o := .list ((refs its).drop 1)) hS
        have hSh : S ≠ ha := fun z => by rw [z, v3] at hS; cases hS
        have hlen1 : xs1.length ≤ 1004 := by
          have := hp1.length_eq
          rw [List.length_cons, List.length_append, List.length_append] at this
          omega
        have hin : ∀ y ∈ xs1 ++ its.drop 1, y ∈ told ++ xs ++ its := fun y hy => by
          have := hp1.mem_iff.mp (List.mem_cons_of_mem _ hy)
          rcases List.mem_append.mp this with h | h
          · exact inX y h
          · exact inI y h
        refine ⟨S, _, rfl, upd_same _ _ _, ?_⟩
        refine ⟨fun j => [("heights", .ref fa), ("seen", .ref sa), ("heap", .ref ha), ("told", .ref ta), ("top", .ref top.ad), ("gone", .ref top.ad)],
          fun j τ => τ fa = some (.list (intV f)) ∧ τ sa = some (.list (natV (seen ++ fresh seen p0))) ∧ τ ha = some (.list (refs (pushAll xs1 ((its.drop 1).take j)))) ∧ τ ta = some (.list (refs told)) ∧ (∀ x ∈ told ++ xs ++ its, τ x.ad = some (lstI x)) ∧ τ S = some (.list ((refs its).drop 1)),
          .cons rfl (.cons rfl (.cons rfl (.cons rfl (.cons rfl (.cons rfl .nil))))), ⟨sS _ _ v1, sS _ _ v2, sS _ _ v3, sS _ _ v4, fun x hx => sS _ _ (v5 x hx), upd_same _ _ _⟩, fun j τ h => h.2.2.2.2.2, ?_, ?_⟩
        · rintro j v τ hv ⟨y1, y2, y3, y4, y5, y6⟩
          have hj : j < (its.drop 1).length := by
            have := (List.getElem?_eq_some_iff.mp hv).1
            rw [List.length_drop, refs_length] at this; rw [List.length_drop]; exact this
          have hv' : v = .ref (its.drop 1)[j].ad := by
            have e : (refs its).drop 1 = refs (its.drop 1) := by simp [refs]
            rw [e, refs, List.getElem?_map, List.getElem?_eq_getElem hj] at hv
            injection hv with hv
            exact hv.symm
          subst hv'
          have htk : (its.drop 1).take (j + 1) = (its.drop 1).take j ++ [(its.drop 1)[j]] := by rw [List.take_add_one, List.getElem?_eq_getElem hj]; rfl
          have hpm := pushAll_perm ((its.drop 1).take j) xs1
          have hps := pushAll_snoc xs1 ((its.drop 1).take j) (its.drop 1)[j]
          rw [← htk] at hps
          have hym : (its.drop 1)[j] ∈ told ++ xs ++ its := hin _ (List.mem_append_right _ (List.getElem_mem hj))
          have hmem : ∀ y ∈ pushAll xs1 ((its.drop 1).take j) ++ [(its.drop 1)[j]], y ∈ told ++ xs ++ its := fun y hy => by
            rcases List.mem_append.mp hy with h | h
            · rcases List.mem_append.mp (hpm.mem_iff.mp h) with h | h
              · exact hin y (List.mem_append_left _ h)
              · exact hin y (List.mem_append_right _ (List.mem_of_mem_take h))
            · rw [List.mem_singleton] at h; rw [h]; exact hym
          have hpl : (pushAll xs1 ((its.drop 1).take j)).length < 100000 := by
            rw [hpm.length_eq, List.length_append, List.length_take, List.length_drop]; omega
          generalize (its.drop 1)[j] = y at hym hmem hps
          refine ⟨_, asg_name rfl, ?_⟩
          ktr_unf
          refine wx_if ?_
          ktr_unf
          refine push_c (d := 4) (obj := lstI) G KX hB hcmp2 y3 (fun z hz => y5 z (hmem z hz)) (fun z hz => ne_refs (y5 z (hmem z hz)) y3) hpl ?_
          ktr_unf
          rw [show (!V.isNone V.none) = false from rfl, if_neg (by simp)]
          ktr_unf
          refine ⟨.cons rfl (.cons rfl (.cons rfl (.cons rfl (.cons rfl (.cons rfl .nil))))), by rw [upd_ne _ _ hfh]; exact y1, by rw [upd_ne _ _ hsh]; exact y2, by rw [hps]; exact upd_same _ _ _, by rw [upd_ne _ _ (Ne.symm hht)]; exact y4, fun x hx => ?_, ?_⟩
          · rw [upd_ne _ _ (ne_refs (y5 x hx) y3)]; exact y5 x hx
          · rw [upd_ne _ _ hSh]; exact y6
        · rintro m₇ τ hm₇ ⟨y1, y2, y3, y4, y5, y6⟩
          have e9 : (its.drop 1).take ((refs its).drop 1).length = its.drop 1 := by
            rw [List.length_drop, refs_length, ← List.length_drop, List.take_length]
          rw [e9] at y3
          have hpm := pushAll_perm (its.drop 1) xs1
          refine seq_next ?_
          ktr_unf
          exact ⟨hm₇, _, (hpm.cons top).trans hp1, pushAll_ord _ _ hp2, y1, y2, y3, y4, y5⟩
    · rintro m' σ' ⟨hm', xs', hp1, hp2, v1, v2, v3, v4, v5⟩
      refine seq_next (WS.has hm' ?_)
      have TT := turn (told := told) (its := its) I hpos hp0 t1 hp1 hp2
      ktr_unf
      refine wx_if ?_
      ktr_unf
      refine cmp_isnot_self ?_
      ktr_unf
      rw [if_neg (by simp)]
      ktr_unf
      refine we_append ?_ ?kx ?ky ?kz
      case kx => rfl
      case ky => rfl
      case kz => rfl
      ktr_unf
      refine ⟨ta, _, rfl, v4, ?_⟩
      ktr_unf
      refine ⟨_, v4, by rw [refs_length, sizeLine_eq]; omega, (fun b h => nomatch h), ?_⟩
      have ert : refs told ++ [V.ref top.ad] = refs (told ++ [top]) := by simp [refs]
      rw [ert]
      ktr_unf
      have hmem : ∀ x ∈ told ++ [top] ++ xs', x ∈ told ++ xs ++ its := fun x hx => by
        rcases List.mem_append.mp hx with h | h
        · rcases List.mem_append.mp h with h | h
          · exact List.mem_append_left _ (List.mem_append_left _ h)
          · rw [List.mem_singleton] at h; rw [h]; exact inX top htop
        · rcases List.mem_append.mp (hp1.mem_iff.mp (List.mem_cons_of_mem _ h)) with h | h
          · exact inX x h
          · exact inI x h
      refine ⟨(xs', told ++ [top], seen ++ fresh seen p0, top.h), TT.2, .cons rfl (.cons rfl (.cons rfl (.cons rfl .nil))), by rw [upd_ne _ _ hft]; exact v1, by rw [upd_ne _ _ hst]; exact v2, by rw [upd_ne _ _ hht]; exact v3, upd_same _ _ _, fun x hx => ?_, TT.1, ?_⟩
      · have hx' := v5 x (hmem x hx)
        rw [upd_ne _ _ (ne_refs hx' v4)]; exact hx'
      · have := TT.2
        dsimp only
        rw [List.length_append, List.length_singleton]
        omega)
end Mine
end
theorem PySem.Challenge.cw_mg0010_02_holds : PySem.Challenge.rw_mg0010_02.Holds := by
  exact Mine.law_holds
