import PyProof.Rows.All
import Wide.All
import OpenK.AllK
import Wide.FinOn
import PySem.Challenge.RW_re0045_01
set_option Elab.async false
set_option autoImplicit false

noncomputable section
namespace Mine
open PySem PyProof.Rows

/-- values of the small language -/
inductive MV where
  | none | bool (b : Bool) | int (i : Int) | str (l : List Nat) | list (l : List MV) | tup (l : List MV)

def Fz (h : Heap) (mu : Addr → Prop) : Addr → Obj → Prop := fun b o => h.get? b = some o ∧ ¬ mu b

mutual
inductive VRep (G : Addr → Obj → Prop) : Value → MV → Prop
  | none : VRep G .none .none
  | bool (b : Bool) : VRep G (.bool b) (.bool b)
  | int (i : Int) (t : Tok) : VRep G (.int i t) (.int i)
  | str (l : List Nat) (t : Tok) : VRep G (.str ⟨⟨l⟩⟩ t) (.str l)
  | list {a : Addr} {items : List Value} {n : Nat} {l : List MV} : G a ⟨.type "list", .none, .seq ⟨items⟩ n, #[]⟩ → VReps G items l → VRep G (.ref a) (.list l)
  | tup {a : Addr} {items : List Value} {n : Nat} {l : List MV} : G a ⟨.type "tuple", .none, .seq ⟨items⟩ n, #[]⟩ → VReps G items l → VRep G (.ref a) (.tup l)
inductive VReps (G : Addr → Obj → Prop) : List Value → List MV → Prop
  | nil : VReps G [] []
  | cons {v : Value} {x : MV} {vs : List Value} {xs : List MV} : VRep G v x → VReps G vs xs → VReps G (v :: vs) (x :: xs)
end

mutual
theorem VRep.mono {G G' : Addr → Obj → Prop} (h : ∀ b o, G b o → G' b o) : ∀ {v : Value} {x : MV}, VRep G v x → VRep G' v x
  | _, _, .none => .none
  | _, _, .bool b => .bool b
  | _, _, .int i t => .int i t
  | _, _, .str l t => .str l t
  | _, _, .list g r => .list (h _ _ g) (VReps.mono h r)
  | _, _, .tup g r => .tup (h _ _ g) (VReps.mono h r)
theorem VReps.mono {G G' : Addr → Obj → Prop} (h : ∀ b o, G b o → G' b o) : ∀ {vs : List Value} {xs : List MV}, VReps G vs xs → VReps G' vs xs
  | _, _, .nil => .nil
  | _, _, .cons a r => .cons (VRep.mono h a) (VReps.mono h r)
end

section
variable {G : Addr → Obj → Prop}
theorem VReps.length {vs : List Value} {xs : List MV} (h : VReps G vs xs) : vs.length = xs.length := by
  induction vs generalizing xs with
  | nil => cases h; rfl
  | cons v vs ih => cases h with | cons a r => simp [ih r]
theorem VReps.append {vs ws : List Value} {xs ys : List MV} (h : VReps G vs xs) (h' : VReps G ws ys) : VReps G (vs ++ ws) (xs ++ ys) := by
  induction vs generalizing xs with
  | nil => cases h; exact h'
  | cons v vs ih => cases h with | cons a r => exact .cons a (ih r)
theorem VReps.get {vs : List Value} {xs : List MV} (h : VReps G vs xs) {i : Nat} {x : MV} (hx : xs[i]? = some x) : ∃ v, vs[i]? = some v ∧ VRep G v x := by
  induction vs generalizing xs i with
  | nil => cases h; cases hx
  | cons v vs ih =>
    cases h with
    | cons a r =>
      cases i with
      | zero => cases hx; exact ⟨v, rfl, a⟩
      | succ i => exact ih r hx
theorem VReps.take {vs : List Value} {xs : List MV} (h : VReps G vs xs) (k : Nat) : VReps G (vs.take k) (xs.take k) := by
  induction vs generalizing xs k with
  | nil => cases h; simp; exact .nil
  | cons v vs ih =>
    cases h with
    | cons a r => cases k with
      | zero => exact .nil
      | succ k => exact .cons a (ih r k)
theorem VReps.drop {vs : List Value} {xs : List MV} (h : VReps G vs xs) (k : Nat) : VReps G (vs.drop k) (xs.drop k) := by
  induction vs generalizing xs k with
  | nil => cases h; simp; exact .nil
  | cons v vs ih =>
    cases h with
    | cons a r => cases k with
      | zero => exact .cons a r
      | succ k => exact ih r k
theorem VReps.set {vs : List Value} {xs : List MV} (h : VReps G vs xs) {v : Value} {x : MV} (hv : VRep G v x) (k : Nat) : VReps G (vs.set k v) (xs.set k x) := by
  induction vs generalizing xs k with
  | nil => cases h; exact .nil
  | cons w vs ih =>
    cases h with
    | cons a r => cases k with
      | zero => exact .cons hv r
      | succ k => exact .cons a (ih r k)
end

structure GK (a b : Array GenState) : Prop where
  keep : ∀ (g : Nat) x, a[g]? = some x → b[g]? = some x
  bare : AllBare a → AllBare b
theorem GK.refl (a : Array GenState) : GK a a := ⟨fun _ _ h => h, fun h => h⟩
theorem GK.trans {a b c : Array GenState} (x : GK a b) (y : GK b c) : GK a c := ⟨fun g z h => y.keep g z (x.keep g z h), y.bare ∘ x.bare⟩
structure Step (s s' : Shared) : Prop where
  grow : ∀ b o, s.heap.get? b = some o → s'.heap.get? b = some o
  os : s'.os = s.os
  gens : GK s.gens s'.gens
theorem Step.refl (s : Shared) : Step s s := ⟨fun _ _ h => h, rfl, GK.refl _⟩
theorem Step.trans {a b c : Shared} (x : Step a b) (y : Step b c) : Step a c := ⟨fun p o h => y.grow p o (x.grow p o h), y.os.trans x.os, x.gens.trans y.gens⟩
theorem Step.toks (s : Shared) (k : Nat) : Step s { s with toks := k } := ⟨fun _ _ h => h, rfl, GK.refl _⟩
theorem Step.push (s : Shared) (o : Obj) (k : Nat) : Step s { s with heap := s.heap.push o, toks := k } := ⟨fun _ _ h => Heap.get?_push_of_some _ h, rfl, GK.refl _⟩

/-- what is known of the top -/
structure Tp (mg mb : Str → Option Value) (hb : Heap) (h : Heap) : Prop where
  g : h.Ns mainGlobals mg
  b : h.Ns builtinsNs mb
  nolimit : h.NoLimit
  keep : ∀ b o, hb.get? b = some o → h.get? b = some o
theorem Tp.step {mg mb : Str → Option Value} {hb : Heap} {s s' : Shared} (T : Tp mg mb hb s.heap) (x : Step s s') : Tp mg mb hb s'.heap := ⟨T.g.keeps x.grow, T.b.keeps x.grow, T.nolimit.keeps x.grow, fun b o h => x.grow b o (T.keep b o h)⟩

inductive Sl where
  | val (v : MV) | own (l : List MV)
abbrev Loc := List (Nat × Sl)
def getL (σ : Loc) (x : Nat) : Option Sl := List.rec (motive := fun _ => Option Sl) .none (fun p _ ih => Bool.rec (motive := fun _ => Option Sl) ih (some p.2) (Nat.beq p.1 x)) σ
def setL (σ : Loc) (x : Nat) (v : Sl) : Loc := List.rec (motive := fun _ => Loc) [(x, v)] (fun p r ih => Bool.rec (motive := fun _ => Loc) (p :: ih) ((x, v) :: r) (Nat.beq p.1 x)) σ
theorem getL_c (p : Nat × Sl) (r : Loc) (x : Nat) : getL (p :: r) x = match Nat.beq p.1 x with | true => some p.2 | false => getL r x := by
  show Bool.rec (motive := fun _ => Option Sl) (getL r x) (some p.2) (Nat.beq p.1 x) = _
  cases Nat.beq p.1 x <;> rfl
theorem setL_c (p : Nat × Sl) (r : Loc) (x : Nat) (v : Sl) : setL (p :: r) x v = match Nat.beq p.1 x with | true => (x, v) :: r | false => p :: setL r x v := by
  show Bool.rec (motive := fun _ => Loc) (p :: setL r x v) ((x, v) :: r) (Nat.beq p.1 x) = _
  cases Nat.beq p.1 x <;> rfl
theorem beq_dec (a b : Nat) : Nat.beq a b = decide (a = b) := by
  by_cases h : a = b
  · subst h; simp
  · rw [decide_eq_false h]
    cases hq : Nat.beq a b with
    | false => rfl
    | true => exact absurd (Nat.eq_of_beq_eq_true hq) h
theorem getL_setL (σ : Loc) (x : Nat) (v : Sl) (y : Nat) : getL (setL σ x v) y = if x = y then some v else getL σ y := by
  induction σ with
  | nil =>
    show getL ((x, v) :: []) y = _
    rw [getL_c, beq_dec]; by_cases h : x = y <;> simp [h]
  | cons p r ih =>
    rw [setL_c, beq_dec]
    by_cases h : p.1 = x
    · rw [decide_eq_true h]
      dsimp only
      rw [getL_c, beq_dec]
      by_cases q : x = y
      · simp [q]
      · have e : getL (p :: r) y = getL r y := by
          rw [getL_c, beq_dec, h, decide_eq_false q]
        simp [q, e]
    · rw [decide_eq_false h]
      dsimp only
      rw [getL_c, ih, getL_c, beq_dec]
      by_cases q : p.1 = y
      · have : x ≠ y := fun z => h (q.trans z.symm)
        simp [q, this]
      · simp [q]

/-- the frame at L bears σ -/
structure FR (nm : Nat → Str) (L : Addr) (σ : Loc) (h : Heap) (m : Str → Option Value) (ad : Nat → Addr) (mu : Addr → Prop) : Prop where
  ns : h.Ns L m
  muL : mu L
  muIn : ∀ b, mu b → ∃ o, h.get? b = some o
  val : ∀ x v, getL σ x = some (.val v) → ∃ val, m (nm x) = some val ∧ VRep (Fz h mu) val v
  own : ∀ x l, getL σ x = some (.own l) → m (nm x) = some (.ref (ad x)) ∧ mu (ad x) ∧ ad x ≠ L ∧ ∃ items n, h.get? (ad x) = some ⟨.type "list", .none, .seq ⟨items⟩ n, #[]⟩ ∧ VReps (Fz h mu) items l
  inj : ∀ x y lx ly, getL σ x = some (.own lx) → getL σ y = some (.own ly) → ad x = ad y → x = y

theorem Fz.step {s s' : Shared} {mu : Addr → Prop} (x : Step s s') (b : Addr) (o : Obj) (h : Fz s.heap mu b o) : Fz s'.heap mu b o := ⟨x.grow b o h.1, h.2⟩
theorem VRep.step {s s' : Shared} {mu : Addr → Prop} (x : Step s s') {v : Value} {y : MV} (r : VRep (Fz s.heap mu) v y) : VRep (Fz s'.heap mu) v y := r.mono (Fz.step x)
theorem VReps.step {s s' : Shared} {mu : Addr → Prop} (x : Step s s') {v : List Value} {y : List MV} (r : VReps (Fz s.heap mu) v y) : VReps (Fz s'.heap mu) v y := r.mono (Fz.step x)
theorem FR.step {nm : Nat → Str} {L : Addr} {σ : Loc} {s s' : Shared} {m : Str → Option Value} {ad : Nat → Addr} {mu : Addr → Prop} (R : FR nm L σ s.heap m ad mu) (x : Step s s') : FR nm L σ s'.heap m ad mu where
  ns := R.ns.keeps x.grow
  muL := R.muL
  muIn := fun b hb => let ⟨o, ho⟩ := R.muIn b hb; ⟨o, x.grow b o ho⟩
  val := fun y v hy => let ⟨val, h1, h2⟩ := R.val y v hy; ⟨val, h1, h2.step x⟩
  own := fun y l hy => let ⟨h1, h2, h3, items, n, h4, h5⟩ := R.own y l hy; ⟨h1, h2, h3, items, n, x.grow _ _ h4, h5.step x⟩
  inj := R.inj
theorem muFresh {h : Heap} {mu : Addr → Prop} (R : ∀ b, mu b → ∃ o, h.get? b = some o) : ¬ mu h.objs.size := fun hm => by
  obtain ⟨o, ho⟩ := R _ hm
  exact absurd (Heap.lt_size ho) (Nat.lt_irrefl _)

structure AOk (A : Around) (d : Nat) : Prop where
  handled : A.handled = .none
  depth : A.depth + d < recursionLimit
  units : A.units + 20 * d < cLine
theorem AOk.deeper {A : Around} {d : Nat} (h : AOk A (d + 1)) (env : Env) : AOk (A.deeper env) d :=
  ⟨h.handled, by show A.depth + 1 + d < _; have := h.depth; omega, by show A.units + 3 + 20 * d < _; have := h.units; omega⟩
theorem AOk.mono {A : Around} {d e : Nat} (h : AOk A d) (hd : e ≤ d) : AOk A e := ⟨h.handled, by have := h.depth; omega, by have := h.units; omega⟩

/-- what stays fixed while a frame's code is looked at -/
structure Cx where
  prog : Program
  w : World
  A : Around
  env : Env
  nm : Nat → Str
  mg : Str → Option Value
  mb : Str → Option Value
  hb : Heap
  d : Nat
structure Cx.Ok (c : Cx) : Prop where
  a : AOk c.A c.d
  fn : c.env.scope.kind = .function
  gl : c.env.globals = mainGlobals
  bl : c.env.builtins = builtinsNs
  inj : ∀ x y, c.nm x = c.nm y → x = y

abbrev Cx.M (c : Cx) : Model := model c.prog c.w

def Cx.Ev (c : Cx) {α β : Type} (t : Sem α) (f : Loc → Option β) (rep : (Addr → Obj → Prop) → α → β → Prop) : Prop :=
  ∀ σ v, f σ = some v → ∀ s m ad mu, FR c.nm c.env.locals σ s.heap m ad mu → Tp c.mg c.mb c.hb s.heap →
    wpAny c.M c.A t (fun val s' => Step s s' ∧ rep (Fz s'.heap mu) val v) (fun _ _ => False) s
abbrev Cx.E (c : Cx) (e : Expr) (f : Loc → Option MV) : Prop := c.Ev (eval e c.env) f VRep
def TRep (_ : Addr → Obj → Prop) (b : Bool) (v : Bool) : Prop := b = v
abbrev Cx.T (c : Cx) (e : Expr) (f : Loc → Option Bool) : Prop := c.Ev (isTrue e c.env (eval e c.env)) f TRep
abbrev Cx.Es (c : Cx) (es : List Expr) (f : Loc → Option (List MV)) : Prop := ∀ pos, c.Ev (spliced (backTo pos (starEach es c.env))) f VReps

def o1 {β : Type} (k : MV → Option β) : Option MV → Option β
  | .none => .none
  | .some v => k v
def o2 {β : Type} (k : MV → MV → Option β) : Option MV → Option MV → Option β
  | .none, _ => .none
  | .some v, y => o1 (k v) y
def oc : Option MV → Option (List MV) → Option (List MV)
  | .none, _ => .none
  | .some _, .none => .none
  | .some v, .some l => .some (v :: l)
theorem o1_some {β : Type} {k : MV → Option β} {x : Option MV} {r : β} (h : o1 k x = some r) : ∃ v, x = some v ∧ k v = some r := by
  cases x with
  | none => cases h
  | some v => exact ⟨v, rfl, h⟩
theorem o2_some {β : Type} {k : MV → MV → Option β} {x y : Option MV} {r : β} (h : o2 k x y = some r) : ∃ v u, x = some v ∧ y = some u ∧ k v u = some r := by
  cases x with
  | none => cases h
  | some v => obtain ⟨u, hu, hk⟩ := o1_some h; exact ⟨v, u, rfl, hu, hk⟩
theorem oc_some {x : Option MV} {y : Option (List MV)} {r : List MV} (h : oc x y = some r) : ∃ v l, x = some v ∧ y = some l ∧ r = v :: l := by
  cases x with
  | none => cases h
  | some v => cases y with
    | none => cases h
    | some l => cases h; exact ⟨v, l, rfl, rfl, rfl⟩

section
variable (M : Model) (A : Around)
def Op1 {α β : Type} (rep : (Addr → Obj → Prop) → α → β → Prop) (t : Value → Sem α) (k : MV → Option β) : Prop :=
  ∀ a x v, k x = some v → ∀ s mu, (∀ b, mu b → ∃ o, s.heap.get? b = some o) → VRep (Fz s.heap mu) a x →
    wpAny M A (t a) (fun r s' => Step s s' ∧ rep (Fz s'.heap mu) r v) (fun _ _ => False) s
def Op2 (t : Value → Value → Sem Value) (k : MV → MV → Option MV) : Prop :=
  ∀ a b x y v, k x y = some v → ∀ s mu, (∀ b, mu b → ∃ o, s.heap.get? b = some o) → VRep (Fz s.heap mu) a x → VRep (Fz s.heap mu) b y →
    wpAny M A (t a b) (fun r s' => Step s s' ∧ VRep (Fz s'.heap mu) r v) (fun _ _ => False) s
def OpL (t : List Value → Sem Value) (k : List MV → Option MV) : Prop :=
  ∀ a x v, k x = some v → ∀ s mu, (∀ b, mu b → ∃ o, s.heap.get? b = some o) → VReps (Fz s.heap mu) a x →
    wpAny M A (t a) (fun r s' => Step s s' ∧ VRep (Fz s'.heap mu) r v) (fun _ _ => False) s
end

section
variable {c : Cx}
theorem Ev.then {α β γ δ : Type} {t : Sem α} {f : Loc → Option β} {rep : (Addr → Obj → Prop) → α → β → Prop} (h : c.Ev t f rep) {σ : Loc} {v : β} (hv : f σ = some v)
    {s s₀ : Shared} {m : Str → Option Value} {ad : Nat → Addr} {mu : Addr → Prop} (R : FR c.nm c.env.locals σ s₀.heap m ad mu) (T : Tp c.mg c.mb c.hb s₀.heap) (x : Step s₀ s) {u : α → Sem γ} {rep' : (Addr → Obj → Prop) → γ → δ → Prop} {r : δ}
    (hu : ∀ a s', Step s s' → rep (Fz s'.heap mu) a v → wpAny c.M c.A (u a) (fun q s'' => Step s₀ s'' ∧ rep' (Fz s''.heap mu) q r) (fun _ _ => False) s') :
    wpAny c.M c.A t (fun a s' => wpAny c.M c.A (u a) (fun q s'' => Step s₀ s'' ∧ rep' (Fz s''.heap mu) q r) (fun _ _ => False) s') (fun _ _ => False) s :=
  wpAny_mono (h σ v hv s m ad mu (R.step x) (T.step x)) (fun a s' ha => hu a s' ha.1 ha.2) fun _ _ e => e
theorem wp_step {α δ : Type} {M : Model} {A : Around} {t : Sem α} {s₀ s : Shared} {mu : Addr → Prop} {rep : (Addr → Obj → Prop) → α → δ → Prop} {r : δ} (x : Step s₀ s)
    (h : wpAny M A t (fun q s' => Step s s' ∧ rep (Fz s'.heap mu) q r) (fun _ _ => False) s) : wpAny M A t (fun q s' => Step s₀ s' ∧ rep (Fz s'.heap mu) q r) (fun _ _ => False) s :=
  wpAny_mono h (fun _ _ h' => ⟨x.trans h'.1, h'.2⟩) fun _ _ e => e

theorem E_bin {l r : Expr} {op : Operator} {pos : Pos} {f g : Loc → Option MV} {k : MV → MV → Option MV} (ho : Op2 c.M c.A (binaryOp op) k) (hl : c.E l f) (hr : c.E r g) :
    c.E (.BinOp l op r pos) (fun σ => o2 k (f σ) (g σ)) := by
  intro σ v hv s m ad mu R T
  obtain ⟨x, y, hx, hy, hk⟩ := o2_some hv
  refine wpAny_BinOp (wpAny_mono (hl σ x hx s m ad mu R T) (fun a s₁ ha => ?_) fun _ _ e => e)
  refine wpAny_mono (hr σ y hy s₁ m ad mu (R.step ha.1) (T.step ha.1)) (fun b s₂ hb => ?_) fun _ _ e => e
  exact wp_step (ha.1.trans hb.1) (ho a b x y v hk s₂ mu ((R.step ha.1).step hb.1).muIn (ha.2.step hb.1) hb.2)
theorem E_cmp {l r : Expr} {op : CmpOp} {pos : Pos} {f g : Loc → Option MV} {k : MV → MV → Option MV} (ho : Op2 c.M c.A (compareOp op) k) (hl : c.E l f) (hr : c.E r g) (hm : behindInMarks op r = false) :
    c.E (.Compare l [op] [r] pos) (fun σ => o2 k (f σ) (g σ)) := by
  intro σ v hv s m ad mu R T
  obtain ⟨x, y, hx, hy, hk⟩ := o2_some hv
  refine wpAny_Compare1 (wpAny_mono (hl σ x hx s m ad mu R T) (fun a s₁ ha => ?_) fun _ _ e => e) hm
  refine wpAny_mono (hr σ y hy s₁ m ad mu (R.step ha.1) (T.step ha.1)) (fun b s₂ hb => ?_) fun _ _ e => e
  exact wp_step (ha.1.trans hb.1) (ho a b x y v hk s₂ mu ((R.step ha.1).step hb.1).muIn (ha.2.step hb.1) hb.2)
def tb : MV → Option Bool
  | .bool b => some b
  | _ => .none
theorem T_cmp {l r : Expr} {op : CmpOp} {pos : Pos} {f g : Loc → Option MV} {k : MV → MV → Option MV} (ho : Op2 c.M c.A (compareOp op) k) (hl : c.E l f) (hr : c.E r g) (hm : behindInMarks op r = false) :
    c.T (.Compare l [op] [r] pos) (fun σ => o1 tb (o2 k (f σ) (g σ))) := by
  intro σ v hv s m ad mu R T
  obtain ⟨z, hz, hv⟩ := o1_some hv
  obtain ⟨x, y, hx, hy, hk⟩ := o2_some hz
  refine wpAny_isTrue_Compare1 (wpAny_mono (hl σ x hx s m ad mu R T) (fun a s₁ ha => ?_) fun _ _ e => e) hm
  refine wpAny_mono (hr σ y hy s₁ m ad mu (R.step ha.1) (T.step ha.1)) (fun b s₂ hb => ?_) fun _ _ e => e
  refine wpAny_mono (ho a b x y z hk s₂ mu ((R.step ha.1).step hb.1).muIn (ha.2.step hb.1) hb.2) (fun q s₃ hq => ?_) fun _ _ e => e
  cases z with
  | bool t => cases hv; cases hq.2; exact wpAny_truthy_bool ⟨(ha.1.trans hb.1).trans hq.1, rfl⟩
  | _ => cases hv
theorem T_plain {e : Expr} {f : Loc → Option MV} {k : MV → Option Bool} (ho : Op1 c.M c.A TRep truthy k) (he : c.E e f) (hp : isTrue e c.env (eval e c.env) = (do let v ← eval e c.env; standAt e.pos; holding [v] (truthy v))) :
    c.T e (fun σ => o1 k (f σ)) := by
  intro σ v hv s m ad mu R T
  obtain ⟨x, hx, hk⟩ := o1_some hv
  refine isTrue_plain (wpAny_mono (he σ x hx s m ad mu R T) (fun a s₁ ha => ?_) fun _ _ e => e) hp
  exact wp_step ha.1 (ho a x v hk s₁ mu (R.step ha.1).muIn ha.2)
def andB : Option Bool → Option Bool → Option Bool
  | some true, y => y
  | some false, _ => some false
  | .none, _ => .none
def orB : Option Bool → Option Bool → Option Bool
  | some false, y => y
  | some true, _ => some true
  | .none, _ => .none
def notB : Option Bool → Option Bool
  | some b => some (!b)
  | .none => .none
theorem T_not {e : Expr} {pos : Pos} {f : Loc → Option Bool} (he : c.T e f) : c.T (.UnaryOp .Not e pos) (fun σ => notB (f σ)) := by
  intro σ v hv s m ad mu R T
  dsimp only at hv
  cases hf : f σ with
  | none => rw [hf] at hv; cases hv
  | some b =>
    rw [hf] at hv; cases hv
    exact isTrue_not (wpAny_mono (he σ b hf s m ad mu R T) (fun a s₁ ha => ⟨ha.1, by rw [show a = b from ha.2]; rfl⟩) fun _ _ e => e)
theorem T_and_nil {pos : Pos} : c.T (.BoolOp .And [] pos) (fun _ => some true) := by
  intro σ v hv s m ad mu R T
  cases hv
  exact isTrue_and_nil ⟨Step.refl s, rfl⟩
theorem T_or_nil {pos : Pos} : c.T (.BoolOp .Or [] pos) (fun _ => some false) := by
  intro σ v hv s m ad mu R T
  cases hv
  exact isTrue_or_nil ⟨Step.refl s, rfl⟩
theorem T_and {e : Expr} {rest : List Expr} {pos : Pos} {f g : Loc → Option Bool} (he : c.T e f) (hr : c.T (.BoolOp .And rest pos) g) : c.T (.BoolOp .And (e :: rest) pos) (fun σ => andB (f σ) (g σ)) := by
  intro σ v hv s m ad mu R T
  dsimp only at hv
  cases hf : f σ with
  | none => rw [hf] at hv; cases hv
  | some b =>
    rw [hf] at hv
    refine isTrue_and (wpAny_mono (he σ b hf s m ad mu R T) (fun a s₁ ha => ?_) fun _ _ e => e)
    rw [show a = b from ha.2]
    cases b with
    | false => cases hv; exact ⟨ha.1, rfl⟩
    | true => exact wp_step ha.1 (hr σ v hv s₁ m ad mu (R.step ha.1) (T.step ha.1))
theorem T_or {e : Expr} {rest : List Expr} {pos : Pos} {f g : Loc → Option Bool} (he : c.T e f) (hr : c.T (.BoolOp .Or rest pos) g) : c.T (.BoolOp .Or (e :: rest) pos) (fun σ => orB (f σ) (g σ)) := by
  intro σ v hv s m ad mu R T
  dsimp only at hv
  cases hf : f σ with
  | none => rw [hf] at hv; cases hv
  | some b =>
    rw [hf] at hv
    refine isTrue_or (wpAny_mono (he σ b hf s m ad mu R T) (fun a s₁ ha => ?_) fun _ _ e => e)
    rw [show a = b from ha.2]
    cases b with
    | true => cases hv; exact ⟨ha.1, rfl⟩
    | false => exact wp_step ha.1 (hr σ v hv s₁ m ad mu (R.step ha.1) (T.step ha.1))

theorem E_int {i : Int} {k : Nat} {pos : Pos} : c.E (.Constant (.int i) k pos) (fun _ => some (.int i)) := by
  intro σ v hv s m ad mu R T
  cases hv
  exact wpAny_Constant_int ⟨Step.toks s _, .int _ _⟩
theorem E_str {x : Str} {l : List Nat} {k : Nat} {pos : Pos} (hx : x = ⟨⟨l⟩⟩) : c.E (.Constant (.str x) k pos) (fun _ => some (.str l)) := by
  intro σ v hv s m ad mu R T
  cases hv
  subst hx
  exact Calls.Constant_str ⟨Step.toks s _, .str _ _⟩
theorem E_none {k : Nat} {pos : Pos} : c.E (.Constant .none k pos) (fun _ => some .none) := by
  intro σ v hv s m ad mu R T
  cases hv
  exact wpAny_Constant_none ⟨Step.refl s, .none⟩
def gv : Option Sl → Option MV
  | some (.val v) => some v
  | _ => .none
theorem E_var (O : c.Ok) {x : Nat} {n : Str} {pos : Pos} (hn : n = c.nm x) (hk : c.env.kindOf n = some .local) (hd : (n == ("__debug__" : Str)) = false) : c.E (.Name n pos) (fun σ => gv (getL σ x)) := by
  intro σ v hv s m ad mu R T
  dsimp only at hv
  cases hg : getL σ x with
  | none => rw [hg] at hv; cases hv
  | some sl =>
    rw [hg] at hv
    cases sl with
    | own l => cases hv
    | val u =>
      cases hv
      obtain ⟨val, h1, h2⟩ := R.val x v hg
      exact wpAny_Name (wpAny_loadName_local O.fn hk R.ns (hn ▸ h1) ⟨Step.refl s, h2⟩) hd
/-- a name of the top, or of the built-ins, as a plain value -/
theorem name_glob (O : c.Ok) {n : Str} {pos : Pos} {val : Value} (hk : c.env.kindOf n = some .globalImplicit) (hv : c.mg n = some val) (hd : (n == ("__debug__" : Str)) = false) {s : Shared} (T : Tp c.mg c.mb c.hb s.heap) {Q : Value → Shared → Prop} (h : Q val s) {E : Value → Shared → Prop} :
    wpAny c.M c.A (eval (.Name n pos) c.env) Q E s := by
  refine wpAny_Name ?_ hd
  rw [loadName_read O.fn hk]
  exact Calls.loadGlobal_global (by rw [O.gl]; exact T.g) hv h
theorem name_built (O : c.Ok) {n : Str} {pos : Pos} {val : Value} (hk : c.env.kindOf n = some .globalImplicit) (hm : c.mg n = .none) (hv : c.mb n = some val) (hd : (n == ("__debug__" : Str)) = false) {s : Shared} (T : Tp c.mg c.mb c.hb s.heap) {Q : Value → Shared → Prop} (h : Q val s) {E : Value → Shared → Prop} :
    wpAny c.M c.A (eval (.Name n pos) c.env) Q E s := by
  refine wpAny_Name ?_ hd
  rw [loadName_read O.fn hk]
  exact Calls.loadGlobal_builtin (by rw [O.gl]; exact T.g) hm (by rw [O.bl]; exact T.b) hv h
theorem E_glob (O : c.Ok) {n : Str} {pos : Pos} {i : Int} {t : Tok} (hk : c.env.kindOf n = some .globalImplicit) (hv : c.mg n = some (.int i t)) (hd : (n == ("__debug__" : Str)) = false) : c.E (.Name n pos) (fun _ => some (.int i)) := by
  intro σ v hv' s m ad mu R T
  cases hv'
  exact name_glob O hk hv hd T ⟨Step.refl s, .int _ _⟩
theorem Es_nil : c.Es [] (fun _ => some []) := by
  intro pos σ v hv s m ad mu R T
  cases hv
  exact spliced_none ⟨Step.refl s, .nil⟩
theorem Es_cons {e : Expr} {es : List Expr} {f : Loc → Option MV} {g : Loc → Option (List MV)} (he : c.E e f) (hs : c.Es es g) (hst : starEach (e :: es) c.env = (false, eval e c.env) :: starEach es c.env) : c.Es (e :: es) (fun σ => oc (f σ) (g σ)) := by
  intro pos σ v hv s m ad mu R T
  obtain ⟨x, l, hx, hl, rfl⟩ := oc_some hv
  refine spliced_more (wpAny_mono (he σ x hx s m ad mu R T) (fun a s₁ ha => ?_) fun _ _ e => e) hst
  exact wpAny_mono (hs pos σ l hl s₁ m ad mu (R.step ha.1) (T.step ha.1)) (fun vs s₂ h₂ => ⟨ha.1.trans h₂.1, .cons (ha.2.step h₂.1) h₂.2⟩) fun _ _ e => e
def smallL (l : List MV) (k : List MV → MV) : Option MV := match Nat.ble l.length 100000 with
  | true => some (k l)
  | false => .none
theorem smallL_some {l : List MV} {k : List MV → MV} {v : MV} (h : smallL l k = some v) : l.length ≤ 100000 ∧ v = k l := by
  unfold smallL at h
  split at h
  · rename_i hb; exact ⟨Nat.le_of_ble_eq_true hb, by cases h; rfl⟩
  · cases h
def oL {β : Type} (k : List MV → Option β) : Option (List MV) → Option β
  | .none => .none
  | .some l => k l
theorem oL_some {β : Type} {k : List MV → Option β} {x : Option (List MV)} {r : β} (h : oL k x = some r) : ∃ v, x = some v ∧ k v = some r := by
  cases x with
  | none => cases h
  | some v => exact ⟨v, rfl, h⟩
theorem sizeLine_big : 100000 ≤ sizeLine := by decide
theorem new_seq {s : Shared} {mu : Addr → Prop} (hmu : ∀ b, mu b → ∃ o, s.heap.get? b = some o) (o : Obj) (hf : o.isFreed = false) : Fz (s.heap.push o) mu s.heap.objs.size o := ⟨Heap.get?_push_size _ hf, muFresh hmu⟩
theorem E_list {es : List Expr} {pos : Pos} {g : Loc → Option (List MV)} (hs : c.Es es g) : c.E (.List es pos) (fun σ => oL (fun l => smallL l .list) (g σ)) := by
  intro σ v hv s m ad mu R T
  obtain ⟨l, hl, hv⟩ := oL_some hv
  obtain ⟨hlen, rfl⟩ := smallL_some hv
  refine wpAny_List (wpAny_mono (hs pos σ l hl s m ad mu R T) (fun vs s₁ h₁ => ?_) fun _ _ e => e)
  refine ⟨by rw [h₁.2.length]; exact Nat.le_trans hlen sizeLine_big, h₁.1.trans (Step.push s₁ _ _), ?_⟩
  exact .list (n := 0) (new_seq (R.step h₁.1).muIn _ rfl) (h₁.2.step (Step.push s₁ _ s₁.toks))
theorem E_tup {es : List Expr} {k : Nat} {pos : Pos} {g : Loc → Option (List MV)} (hs : c.Es es g) : c.E (.Tuple es k pos) (fun σ => oL (fun l => smallL l .tup) (g σ)) := by
  intro σ v hv s m ad mu R T
  obtain ⟨l, hl, hv⟩ := oL_some hv
  obtain ⟨hlen, rfl⟩ := smallL_some hv
  refine wpAny_Tuple (wpAny_mono (hs pos σ l hl s m ad mu R T) (fun vs s₁ h₁ => ?_) fun _ _ e => e)
  refine ⟨by rw [h₁.2.length]; exact Nat.le_trans hlen sizeLine_big, h₁.1.trans (Step.push s₁ _ _), ?_⟩
  exact .tup (n := 0) (new_seq (R.step h₁.1).muIn _ rfl) (h₁.2.step (Step.push s₁ _ s₁.toks))
end
end Mine
end

noncomputable section
namespace Mine
open PySem PyProof.Rows

def guardN (n : Nat) (v : MV) : Option MV := match Nat.ble n 100000 with
  | true => some v
  | false => .none
theorem guardN_some {n : Nat} {v r : MV} (h : guardN n v = some r) : n ≤ 100000 ∧ r = v := by
  unfold guardN at h
  split at h
  · rename_i hb; exact ⟨Nat.le_of_ble_eq_true hb, by cases h; rfl⟩
  · cases h
def addV : MV → MV → Option MV
  | .int a, .int b => some (.int (a + b))
  | .str a, .str b => guardN (a.length + b.length) (.str (a ++ b))
  | .list a, .list b => guardN (a.length + b.length) (.list (a ++ b))
  | _, _ => .none
def subV : MV → MV → Option MV
  | .int a, .int b => some (.int (a - b))
  | _, _ => .none
def smallI (a : Int) : Bool := Nat.ble a.natAbs 1000000
def mulV : MV → MV → Option MV
  | .int a, .int b => match smallI a with
    | true => some (.int (a * b))
    | false => .none
  | _, _ => .none
def eqV : MV → MV → Option MV
  | .int a, .int b => some (.bool (a == b))
  | .str a, .str b => some (.bool (a == b))
  | _, _ => .none
def neV : MV → MV → Option MV
  | .int a, .int b => some (.bool (a != b))
  | .str a, .str b => some (.bool (a != b))
  | _, _ => .none
def ltV : MV → MV → Option MV
  | .int a, .int b => some (.bool (decide (a < b)))
  | _, _ => .none
def gtV : MV → MV → Option MV
  | .int a, .int b => some (.bool (decide (b < a)))
  | _, _ => .none
def isNoneV : MV → MV → Option MV
  | .none, .none => some (.bool true)
  | .int _, .none => some (.bool false)
  | .str _, .none => some (.bool false)
  | _, _ => .none
def truthV : MV → Option Bool
  | .bool b => some b
  | .int i => some (i != 0)
  | .str l => match Nat.ble l.length 100000 with
    | true => some (!l.isEmpty)
    | false => .none
  | .none => some false
  | _ => .none

section
variable {prog : Program} {w : World} {A : Around}
theorem isList_of {h : Heap} {mu : Addr → Prop} {a : Addr} {items : List Value} {n : Nat} (g : Fz h mu a ⟨.type "list", .none, .seq ⟨items⟩ n, #[]⟩) : h.IsList a ⟨items⟩ := ⟨_, g.1, rfl, n, rfl⟩

theorem op_add : Op2 (model prog w) A (binaryOp .Add) addV := by
  intro a b x y v hk s mu hmu ra rb
  cases ra with
  | int i t =>
    cases rb with
    | int j u => cases hk; exact PySem.P.add_int ⟨Step.toks s _, .int _ _⟩
    | _ => cases hk
  | str l t =>
    cases rb with
    | str l' u =>
      obtain ⟨hn, rfl⟩ := guardN_some hk
      refine PyProof.Rows.add_str (fun t' tk => ⟨Step.toks s tk, ?_⟩) ?_
      · have e : ((⟨⟨l⟩⟩ : Str) ++ (⟨⟨l'⟩⟩ : Str)) = ⟨⟨l ++ l'⟩⟩ := by
          apply Str.ext'
          show ((⟨l⟩ : Array Nat) ++ ⟨l'⟩) = _
          simp
        rw [e]; exact .str _ _
      · show l.length + l'.length ≤ sizeLine
        exact Nat.le_trans hn sizeLine_big
    | _ => cases hk
  | list g r =>
    rename_i a₁ items₁ n₁ l₁
    cases rb with
    | list g' r' =>
      rename_i a₂ items₂ n₂ l₂
      obtain ⟨hn, rfl⟩ := guardN_some hk
      have e : (⟨items₁⟩ : Array Value) ++ ⟨items₂⟩ = ⟨items₁ ++ items₂⟩ := by simp
      refine concat_meets ⟨_, g.1, rfl⟩ ⟨_, g'.1, rfl⟩ noFill_list_add seq_list_add PySem.F.slot_list_add PySem.F.entry_list_add (PySem.F.args_list_add_2 _ _) (list_addW a₁ a₂ ⟨items₁⟩ ⟨items₂⟩ n₁ n₂ none none #[] #[] ?_) ⟨g.1, g'.1, ?_⟩
      · show items₁.length + items₂.length ≤ sizeLine
        rw [r.length, r'.length]; exact Nat.le_trans hn sizeLine_big
      · rw [e]
        refine ⟨Step.push s _ _, .list (n := 0) (new_seq hmu _ rfl) ((r.append r').step (Step.push s _ s.toks))⟩
    | _ => cases hk
  | _ => cases hk
theorem op_sub : Op2 (model prog w) A (binaryOp .Sub) subV := by
  intro a b x y v hk s mu hmu ra rb
  cases ra with
  | int i t => cases rb with
    | int j u => cases hk; exact PySem.P.sub_int ⟨Step.toks s _, .int _ _⟩
    | _ => cases hk
  | _ => cases hk
theorem smallI_bits {a b : Int} (h : smallI a = true) : IntMulOk a b := by
  refine IntMulOk.of_left ?_
  have := Nat.le_of_ble_eq_true h
  exact intBits_le_64 (by omega) (by omega)
theorem op_mul : Op2 (model prog w) A (binaryOp .Mult) mulV := by
  intro a b x y v hk s mu hmu ra rb
  cases ra with
  | int i t =>
    cases rb with
    | int j u =>
      have hk : (match smallI i with | true => some (MV.int (i * j)) | false => .none) = some v := hk
      cases hb : smallI i with
      | true => rw [hb] at hk; cases hk; exact PySem.P.mul_int ⟨Step.toks s _, .int _ _⟩ (smallI_bits hb)
      | false => rw [hb] at hk; cases hk
    | _ => cases hk
  | _ => cases hk
theorem op_eq : Op2 (model prog w) A (compareOp .Eq) eqV := by
  intro a b x y v hk s mu hmu ra rb
  cases ra with
  | int i t => cases rb with
    | int j u => cases hk; exact PySem.P.eq_int ⟨Step.refl s, .bool _⟩
    | _ => cases hk
  | str i t => cases rb with
    | str j u => cases hk; exact PySem.P.eq_str ⟨Step.refl s, .bool _⟩
    | _ => cases hk
  | _ => cases hk
theorem op_ne : Op2 (model prog w) A (compareOp .NotEq) neV := by
  intro a b x y v hk s mu hmu ra rb
  cases ra with
  | int i t => cases rb with
    | int j u => cases hk; exact PySem.P.ne_int ⟨Step.refl s, .bool _⟩
    | _ => cases hk
  | str i t => cases rb with
    | str j u => cases hk; exact PySem.P.ne_str ⟨Step.refl s, .bool _⟩
    | _ => cases hk
  | _ => cases hk
theorem op_lt : Op2 (model prog w) A (compareOp .Lt) ltV := by
  intro a b x y v hk s mu hmu ra rb
  cases ra with
  | int i t => cases rb with
    | int j u => cases hk; exact PySem.P.lt_int ⟨Step.refl s, .bool _⟩
    | _ => cases hk
  | _ => cases hk
theorem op_gt : Op2 (model prog w) A (compareOp .Gt) gtV := by
  intro a b x y v hk s mu hmu ra rb
  cases ra with
  | int i t => cases rb with
    | int j u => cases hk; exact PySem.P.gt_int ⟨Step.refl s, .bool _⟩
    | _ => cases hk
  | _ => cases hk
theorem op_is : Op2 (model prog w) A (compareOp .Is) isNoneV := by
  intro a b x y v hk s mu hmu ra rb
  cases ra <;> cases rb <;> first | (cases hk; done) | (cases hk; exact is_none ⟨Step.refl s, .bool _⟩)
theorem op_truth : Op1 (model prog w) A TRep truthy truthV := by
  intro a x v hk s mu hmu ra
  cases ra with
  | none => cases hk; exact truthy_none ⟨Step.refl s, rfl⟩
  | bool b => cases hk; exact wpAny_truthy_bool ⟨Step.refl s, rfl⟩
  | int i t => cases hk; exact PySem.P.truthy_int ⟨Step.refl s, rfl⟩
  | str l t =>
    have hk : (match Nat.ble l.length 100000 with | true => some (!l.isEmpty) | false => .none) = some v := hk
    cases hb : Nat.ble l.length 100000 with
    | false => rw [hb] at hk; cases hk
    | true =>
      rw [hb] at hk
      cases hk
      have hb := Nat.le_of_ble_eq_true hb
      have hl : (⟨⟨l⟩⟩ : Str).length = l.length := rfl
      refine PySem.P.truthy_str (by rw [hl]; omega) ⟨Step.toks s _, ?_⟩
      show ((l.length : Int) != 0) = !l.isEmpty
      cases l with
      | nil => rfl
      | cons a l => simp; omega
  | list => cases hk
  | tup => cases hk
end
end Mine
end

noncomputable section
namespace Mine
open PySem PyProof.Rows PySem.Builtin.Str

def clipN (v : Option Int) (d n : Nat) : Nat := match v with
  | .none => d
  | .some (.ofNat i) => match Nat.ble i n with
    | true => i
    | false => n
  | .some (.negSucc i) => n - (i + 1)
def slcL {α : Type} (l : List α) (lo hi : Option Int) : List α := (l.take (clipN hi l.length l.length)).drop (clipN lo 0 l.length)
theorem clipN_eq (v : Option Int) (d n : Nat) : (clipN v d n : Int) = match v with
    | .none => (d : Int)
    | .some i => max 0 (min (if i < 0 then i + n else i) n) := by
  cases v with
  | none => rfl
  | some i =>
    cases i with
    | ofNat i =>
      show ((match Nat.ble i n with | true => i | false => n : Nat) : Int) = _
      cases hb : Nat.ble i n with
      | true =>
        have := Nat.le_of_ble_eq_true hb
        show (i : Int) = max 0 (min (if (i : Int) < 0 then (i : Int) + n else (i : Int)) n)
        rw [if_neg (by omega)]; omega
      | false =>
        have : ¬ i ≤ n := fun h => by rw [Nat.ble_eq_true_of_le h] at hb; cases hb
        show (n : Int) = max 0 (min (if (i : Int) < 0 then (i : Int) + n else (i : Int)) n)
        rw [if_neg (by omega)]; omega
    | negSucc i =>
      show ((n - (i + 1) : Nat) : Int) = max 0 (min (if Int.negSucc i < 0 then Int.negSucc i + n else Int.negSucc i) n)
      rw [if_pos (by omega)]; omega
theorem filterMap_range {α : Type} (l : List α) (a k : Nat) : ((List.range k).map fun j => a + j).filterMap (l[·]?) = (l.drop a).take k := by
  induction k generalizing a with
  | zero => simp
  | succ k ih =>
    rw [List.range_succ, List.map_append, List.filterMap_append, ih a, List.take_add_one]
    congr 1
    simp only [List.map_cons, List.map_nil, List.filterMap_cons, List.filterMap_nil, List.getElem?_drop]
    cases l[a + k]? <;> rfl
theorem sliceRange_one (a b : Nat) : sliceRange a b 1 = (List.range (b - a)).map fun j => a + j := by
  unfold sliceRange
  have e : (if (1 : Int) > 0 then (if (a : Int) < b then ((b : Int) - a + 1 - 1) / 1 else 0) else (if (a : Int) > b then ((a : Int) - b - 1 - 1) / (-1) else 0)).toNat = b - a := by
    rw [if_pos (by decide)]
    split <;> omega
  simp only [e]
  apply List.map_congr_left
  intro j _
  omega
theorem slc_eq {α : Type} (l : List α) (a b : Nat) : (sliceRange a b 1).filterMap (l[·]?) = (l.take b).drop a := by
  rw [sliceRange_one, filterMap_range, List.take_drop]
  by_cases h : a ≤ b
  · rw [Nat.add_sub_cancel' h]
  · have h1 : a + (b - a) = a := by omega
    rw [h1, List.drop_of_length_le (by simp; omega), List.drop_of_length_le (by simp; omega)]
theorem strSlice_eq (l : List Nat) (lo hi : Option Int) : (strSliceIndices lo hi 1 l.length).filterMap (l[·]?) = slcL l lo hi := by
  have e : strSliceIndices lo hi 1 l.length = sliceRange (clipN lo 0 l.length) (clipN hi l.length l.length) 1 := by
    rw [clipN_eq, clipN_eq]
    unfold strSliceIndices
    simp only [if_pos (show (1 : Int) > 0 by decide)]
    cases lo <;> cases hi <;> rfl
  rw [e, slc_eq]; rfl
theorem listSlice_eq {α : Type} (l : List α) (lo hi : Option Int) : (sliceRange (sliceBounds lo hi none l.length).1 (sliceBounds lo hi none l.length).2.1 (sliceBounds lo hi none l.length).2.2).filterMap (l[·]?) = slcL l lo hi := by
  have e : sliceRange (sliceBounds lo hi none l.length).1 (sliceBounds lo hi none l.length).2.1 (sliceBounds lo hi none l.length).2.2 = sliceRange (clipN lo 0 l.length) (clipN hi l.length l.length) 1 := by
    rw [clipN_eq, clipN_eq]
    unfold sliceBounds
    simp only [Option.getD_none, if_pos (show (1 : Int) > 0 by decide)]
    cases lo <;> cases hi <;> rfl
  rw [e, slc_eq]; rfl
theorem strSlice_whole (l : List Nat) (lo hi : Option Int) (h : (strSliceIndices lo hi 1 l.length).length = l.length) : slcL l lo hi = l := by
  have e : strSliceIndices lo hi 1 l.length = sliceRange (clipN lo 0 l.length) (clipN hi l.length l.length) 1 := by
    rw [clipN_eq, clipN_eq]
    unfold strSliceIndices
    simp only [if_pos (show (1 : Int) > 0 by decide)]
    cases lo <;> cases hi <;> rfl
  rw [e, sliceRange_one, List.length_map, List.length_range] at h
  have hb : clipN hi l.length l.length ≤ l.length := by
    have := clipN_eq hi l.length l.length
    cases hi <;> simp only [] at this <;> omega
  unfold slcL
  by_cases h0 : l.length = 0
  · cases l with
    | nil => simp
    | cons => cases h0
  · have h1 : clipN lo 0 l.length = 0 := by omega
    have h2 : clipN hi l.length l.length = l.length := by omega
    rw [h1, h2, List.take_length, List.drop_zero]

def partI : MV → Option (Option Int)
  | .none => some .none
  | .int i => some (some i)
  | _ => .none
def sliceV (x lo hi : MV) : Option MV := match partI lo, partI hi with
  | some lo, some hi => match x with
    | .str l => guardN l.length (.str (slcL l lo hi))
    | .list l => guardN l.length (.list (slcL l lo hi))
    | _ => .none
  | _, _ => .none
def o3 (k : MV → MV → MV → Option MV) : Option MV → Option MV → Option MV → Option MV
  | some x, some y, some z => k x y z
  | _, _, _ => .none
theorem o3_some {k : MV → MV → MV → Option MV} {x y z : Option MV} {r : MV} (h : o3 k x y z = some r) : ∃ a b c, x = some a ∧ y = some b ∧ z = some c ∧ k a b c = some r := by
  cases x with
  | none => cases h
  | some a => cases y with
    | none => cases h
    | some b => cases z with
      | none => cases h
      | some c => exact ⟨a, b, c, rfl, rfl, rfl, h⟩
abbrev Cx.P (c : Cx) (e : Option Expr) (f : Loc → Option MV) : Prop := c.Ev (evalPart e c.env) f VRep
theorem VReps.filterMap {G : Addr → Obj → Prop} {vs : List Value} {xs : List MV} (h : VReps G vs xs) (is : List Nat) : VReps G (is.filterMap (vs[·]?)) (is.filterMap (xs[·]?)) := by
  induction is with
  | nil => exact .nil
  | cons i is ih =>
    simp only [List.filterMap_cons]
    cases hx : xs[i]? with
    | some x =>
      obtain ⟨v, hv, r⟩ := h.get hx
      rw [hv]; exact .cons r ih
    | none =>
      have : vs[i]? = none := by
        rw [List.getElem?_eq_none_iff] at hx ⊢
        rw [h.length]; exact hx
      rw [this]; exact ih
section
variable {c : Cx}
theorem P_none : c.P none (fun _ => some .none) := by
  intro σ v hv s m ad mu R T
  cases hv
  exact wpAny_pure ⟨Step.refl s, .none⟩
theorem P_some {e : Expr} {f : Loc → Option MV} (h : c.E e f) : c.P (some e) f := h
theorem part_is {G : Addr → Obj → Prop} {v : Value} {x : MV} {p : Option Int} (r : VRep G v x) (h : partI x = some p) : IsPart v p := by
  cases r <;> first | (cases h; constructor) | cases h
theorem part_val {G : Addr → Obj → Prop} {v : Value} {x : MV} {p : Option Int} (r : VRep G v x) (h : partI x = some p) : ∃ q, v = partValue q ∧ q.map (·.1) = p := by
  cases r with
  | none => cases h; exact ⟨none, rfl, rfl⟩
  | int i t => cases h; exact ⟨some (i, t), rfl, rfl⟩
  | _ => cases h
theorem E_slice {value : Expr} {lower upper : Option Expr} {p pos : Pos} {f g k : Loc → Option MV} (hv : c.E value f) (hl : c.P lower g) (hu : c.P upper k) (ht : ∀ o r, letTemporaryGo value o r = pure ()) :
    c.E (.Subscript value (.Slice lower upper none p) pos) (fun σ => o3 sliceV (f σ) (g σ) (k σ)) := by
  intro σ v hv' s m ad mu R T
  obtain ⟨x, lo, hi, hx, hlo, hhi, hk⟩ := o3_some hv'
  unfold sliceV at hk
  cases hp : partI lo with
  | none => rw [hp] at hk; cases hk
  | some lo' =>
    cases hq : partI hi with
    | none => rw [hp, hq] at hk; cases hk
    | some hi' =>
      rw [hp, hq] at hk
      cases x with
      | str l =>
        obtain ⟨hn, rfl⟩ := guardN_some hk
        refine wpAny_Subscript_str_slice (wpAny_mono (hv σ _ hx s m ad mu R T) (fun o s₁ h₁ => ?_) fun _ _ e => e) ht
        refine wpAny_mono (hl σ lo hlo s₁ m ad mu (R.step h₁.1) (T.step h₁.1)) (fun vl s₂ h₂ => ?_) fun _ _ e => e
        refine wpAny_mono (hu σ hi hhi s₂ m ad mu ((R.step h₁.1).step h₂.1) ((T.step h₁.1).step h₂.1)) (fun vu s₃ h₃ => ?_) fun _ _ e => e
        obtain ⟨q₁, rfl, e₁⟩ := part_val h₂.2 hp
        obtain ⟨q₂, rfl, e₂⟩ := part_val h₃.2 hq
        have ro := h₁.2
        cases ro with
        | str _ t =>
          refine ⟨_, t, q₁, q₂, rfl, rfl, rfl, ?_⟩
          have st : ∀ k : Nat, Step s { s₃ with heap := s₃.heap.push { cls := .type "slice", data := .fields #[partValue q₁, partValue q₂, .none] }, toks := k } := fun k => ((h₁.1.trans h₂.1).trans h₃.1).trans (Step.push s₃ _ _)
          have ei : slicePicked ⟨⟨l⟩⟩ q₁ q₂ none = strSliceIndices lo' hi' 1 l.length := by
            unfold slicePicked
            rw [e₁, e₂]; rfl
          unfold sliceMade
          split
          · rename_i hw
            refine ⟨st s₃.toks, ?_⟩
            rw [ei] at hw
            have hw' : (strSliceIndices lo' hi' 1 l.length).length = (⟨⟨l⟩⟩ : Str).length := by simpa using hw
            rw [strSlice_whole l lo' hi' hw']
            exact .str _ _
          · rw [ei]
            have e3 : ((strSliceIndices lo' hi' 1 l.length).filterMap ((⟨⟨l⟩⟩ : Str).cps[·]?)).toArray = ⟨slcL l lo' hi'⟩ := by
              rw [← strSlice_eq]
              have : (fun i : Nat => (⟨⟨l⟩⟩ : Str).cps[i]?) = fun i : Nat => l[i]? := by
                funext i; simp
              rw [this]
            rw [e3]
            refine ⟨?_, st _, .str _ _⟩
            show (slcL l lo' hi').length ≤ sizeLine
            refine Nat.le_trans ?_ (Nat.le_trans hn sizeLine_big)
            unfold slcL; simp only [List.length_drop, List.length_take]; omega
      | list l =>
        obtain ⟨hn, rfl⟩ := guardN_some hk
        refine wpAny_Subscript_list_slice (wpAny_mono (hv σ _ hx s m ad mu R T) (fun o s₁ h₁ => ?_) fun _ _ e => e) ht
        refine wpAny_mono (hl σ lo hlo s₁ m ad mu (R.step h₁.1) (T.step h₁.1)) (fun vl s₂ h₂ => ?_) fun _ _ e => e
        refine wpAny_mono (hu σ hi hhi s₂ m ad mu ((R.step h₁.1).step h₂.1) ((T.step h₁.1).step h₂.1)) (fun vu s₃ h₃ => ?_) fun _ _ e => e
        have ro := (h₁.2.step h₂.1).step h₃.1
        cases ro with
        | list g r =>
          rename_i a items n
          refine ⟨a, ⟨items⟩, lo', hi', rfl, isList_of g, ?_, part_is h₂.2 hp, part_is h₃.2 hq, ?_⟩
          · show items.length ≤ sizeLine
            rw [r.length]; exact Nat.le_trans hn sizeLine_big
          · have st1 : Step s₃ { s₃ with heap := s₃.heap.push { cls := .type "slice", data := .fields #[vl, vu, .none] } } := Step.push s₃ _ _
            have e3 : slicePick ⟨items⟩ lo' hi' none = ⟨slcL items lo' hi'⟩ := by
              unfold slicePick
              rw [← listSlice_eq]
              have : (fun i : Nat => (⟨items⟩ : Array Value)[i]?) = fun i : Nat => items[i]? := by
                funext i; simp
              rw [this]; rfl
            rw [e3]
            have st2 := st1.trans (Step.push { s₃ with heap := s₃.heap.push { cls := .type "slice", data := .fields #[vl, vu, .none] } } { cls := .type "list", data := .seq ⟨slcL items lo' hi'⟩ } s₃.toks)
            refine ⟨((h₁.1.trans h₂.1).trans h₃.1).trans st2, ?_⟩
            have hmu := ((((R.step h₁.1).step h₂.1).step h₃.1).step st1).muIn
            have e4 : (s₃.heap.push { cls := .type "slice", data := .fields #[vl, vu, .none] }).objs.size = s₃.heap.objs.size + 1 := Heap.size_push ..
            have g' := new_seq (s := { s₃ with heap := s₃.heap.push { cls := .type "slice", data := .fields #[vl, vu, .none] } }) hmu { cls := .type "list", data := .seq ⟨slcL items lo' hi'⟩ } rfl
            dsimp only at g'
            rw [e4] at g'
            refine .list (n := 0) g' ?_
            have r' : VReps (Fz s₃.heap mu) (slcL items lo' hi') (slcL l lo' hi') := by
              unfold slcL
              rw [r.length]
              exact (r.take _).drop _
            exact r'.step st2
      | _ => cases hk
end
end Mine
end

noncomputable section
namespace Mine
open PySem PyProof.Rows PySem.Builtin.Str

def idxN (i : Int) (n : Nat) : Option Nat := match i with
  | .ofNat i => some i
  | .negSucc k => match Nat.ble (k + 1) n with
    | true => some (n - (k + 1))
    | false => .none
def nth {α : Type} : List α → Nat → Option α
  | [], _ => .none
  | a :: _, 0 => some a
  | _ :: l, n + 1 => nth l n
theorem nth_eq {α : Type} (l : List α) (n : Nat) : nth l n = l[n]? := by
  induction l generalizing n with
  | nil => rfl
  | cons a l ih => cases n with
    | zero => rfl
    | succ n => exact ih n
def idxV : MV → MV → Option MV
  | .str l, .int i => match smallI i, idxN i l.length with
    | true, some j => match nth l j with
      | some c => some (.str [c])
      | .none => .none
    | _, _ => .none
  | .list l, .int (.ofNat i) => match Nat.ble i 1000000 with
    | true => nth l i
    | false => .none
  | _, _ => .none
theorem smallI_iff {i : Int} (h : smallI i = true) : i.natAbs ≤ 1000000 := Nat.le_of_ble_eq_true h
theorem seqIndex_of {i : Int} {n j : Nat} (h : idxN i n = some j) (hj : j < n) : seqIndex? i n = some j := by
  have key : (if i < 0 then i + (n : Int) else i) = (j : Int) → seqIndex? i n = some j := by
    intro hi
    unfold seqIndex?
    simp only [hi]
    have : (decide ((0 : Int) ≤ (j : Int)) && decide ((j : Int) < (n : Int))) = true := by simp; omega
    rw [if_pos this]; rfl
  apply key
  cases i with
  | ofNat k =>
    have e : k = j := Option.some.inj h
    rw [← e, if_neg (by show ¬ ((k : Int) < 0); omega)]; rfl
  | negSucc k =>
    have h : (match Nat.ble (k + 1) n with | true => some (n - (k + 1)) | false => .none) = some j := h
    cases hb : Nat.ble (k + 1) n with
    | false => rw [hb] at h; cases h
    | true =>
      rw [hb] at h
      dsimp only at h
      have := Nat.le_of_ble_eq_true hb
      rw [if_pos (by omega)]
      have : n - (k + 1) = j := Option.some.inj h
      omega
section
variable {prog : Program} {w : World} {A : Around}
theorem op_idx {value slice : Expr} (hs : ∀ o i, subscripted slice false o i = operate [o, i] (getItem o i)) : Op2 (model prog w) A (subscriptTail value slice) idxV := by
  intro a b x y v hk s mu hmu ra rb
  cases ra with
  | str l t =>
    cases rb with
    | int i u =>
      have hk : (match smallI i, idxN i l.length with | true, some j => (match nth l j with | some c => some (MV.str [c]) | .none => .none) | _, _ => .none) = some v := hk
      cases h1 : smallI i with
      | false => rw [h1] at hk; cases hk
      | true =>
        cases h2 : idxN i l.length with
        | none => rw [h1, h2] at hk; cases hk
        | some j =>
          rw [h1, h2] at hk
          dsimp only at hk
          cases h3 : nth l j with
          | none => rw [h3] at hk; cases hk
          | some ch =>
            rw [h3] at hk
            cases hk
            have hb := smallI_iff h1
            rw [nth_eq] at h3
            have hj : j < l.length := by
              by_cases q : j < l.length
              · exact q
              · rw [List.getElem?_eq_none (by omega)] at h3; cases h3
            refine tail_any (T := "str") (typeIs_str s _ t) PySem.F.slot_str_getitem.lookup (PySem.P.getItem_str (c := ch) ?_ ?_ ⟨Step.toks s _, ?_⟩) (hs _ _)
            · rw [decide_eq_false (by omega), decide_eq_false (by omega)]; rfl
            · show (seqIndex? i l.length).bind (fun k => (⟨l⟩ : Array Nat)[k]?) = some ch
              rw [seqIndex_of h2 hj]
              simpa using h3
            · exact .str [ch] _
    | _ => cases hk
  | list g r =>
    rename_i a₁ items₁ n₁ l₁
    cases rb with
    | int i u =>
      cases i with
      | negSucc => cases hk
      | ofNat i =>
        have hk : (match Nat.ble i 1000000 with | true => nth l₁ i | false => .none) = some v := hk
        cases hb : Nat.ble i 1000000 with
        | false => rw [hb] at hk; cases hk
        | true =>
          rw [hb] at hk
          have hb := Nat.le_of_ble_eq_true hb
          dsimp only at hk
          rw [nth_eq] at hk
          obtain ⟨val, hv, rv⟩ := r.get hk
          refine tail_any (T := "list") (isList_of g).typeIs slot_list_getitem.lookup (wpAny_getItem_list (isList_of g) (by show (0 : Int) ≤ (i : Int); omega) (by show (i : Int) < _; omega) (x := val) ?_ ⟨Step.refl s, rv⟩) (hs _ _)
          show (⟨items₁⟩ : Array Value)[(i : Int).toNat]? = some val
          simpa using hv
    | _ => cases hk
  | _ => cases hk
def lenV : List MV → Option MV
  | [.str l] => guardN l.length (.int l.length)
  | [.list l] => guardN l.length (.int l.length)
  | _ => .none
theorem op_len : OpL (model prog w) A (fun vs => call (.builtin "len") vs) lenV := by
  intro a x v hk s mu hmu ra
  cases ra with
  | nil => cases hk
  | cons r rs =>
    cases rs with
    | cons => cases r <;> cases hk
    | nil =>
      cases r with
      | str l t =>
        obtain ⟨hn, rfl⟩ := guardN_some hk
        have e : (⟨⟨l⟩⟩ : Str).length = l.length := rfl
        exact PySem.P.len_str (by rw [e]; omega) ⟨Step.toks s _, .int _ _⟩
      | list g r =>
        rename_i a₁ items₁ n₁ l₁
        obtain ⟨hn, rfl⟩ := guardN_some hk
        have e : (⟨items₁⟩ : Array Value).size = l₁.length := r.length
        refine len_list (isList_of g) (by rw [e]; omega) ?_
        rw [e]
        exact ⟨Step.toks s _, .int _ _⟩
      | _ => cases hk
def minV : List MV → Option MV
  | [.int a, .int b] => match decide (b < a) with
    | true => some (.int b)
    | false => some (.int a)
  | _ => .none
theorem op_min (hh : A.handled = .none) : OpL (model prog w) A (fun vs => call (.builtin "min") vs) minV := by
  intro a x v hk s mu hmu ra
  cases ra with
  | nil => cases hk
  | cons r rs =>
    cases rs with
    | nil => cases r <;> cases hk
    | cons r' rs =>
      cases rs with
      | cons => cases r <;> cases r' <;> cases hk
      | nil =>
        cases r with
        | int i t =>
          cases r' with
          | int j u =>
            have hk : (match decide (j < i) with | true => some (MV.int j) | false => some (MV.int i)) = some v := hk
            refine min_two_ints hh fun h' tk hkp => ⟨⟨hkp, rfl, GK.refl _⟩, ?_⟩
            by_cases hc : j < i
            · rw [if_pos hc]
              rw [decide_eq_true hc] at hk
              cases hk; exact .int _ _
            · rw [if_neg hc]
              rw [decide_eq_false hc] at hk
              cases hk; exact .int _ _
          | _ => cases hk
        | _ => cases hk
def notInV : MV → MV → Option MV
  | .str [ch], .str l => some (.bool (!l.elem ch))
  | _, _ => .none
theorem op_notIn : Op2 (model prog w) A (compareOp .NotIn) notInV := by
  intro a b x y v hk s mu hmu ra rb
  cases ra with
  | str l t =>
    cases rb with
    | str l' u =>
      match l, hk with
      | [ch], hk =>
        cases hk
        refine PySem.P.notIn_str ⟨Step.refl s, ?_⟩
        have e := StrLaws.found_one ⟨⟨l'⟩⟩ ch
        have e2 : (!(!(occurrences ⟨⟨l'⟩⟩ ⟨⟨[ch]⟩⟩ 0 (⟨⟨l'⟩⟩ : Str).length 1).isEmpty)) = !l'.elem ch := by
          rw [show (⟨⟨[ch]⟩⟩ : Str) = ⟨#[ch]⟩ from rfl, e]
          congr 1
          simp
        rw [e2]
        exact .bool _
    | _ => cases l with
      | nil => cases hk
      | cons _ l => cases l <;> cases hk
  | _ => cases hk
def lowN (c : Nat) : Nat := match Nat.ble 65 c, Nat.ble c 90 with
  | true, true => c + 32
  | _, _ => c
def lowerV : List MV → Option MV
  | [.str l] => match l.all (fun c => Nat.ble c 127), Nat.ble l.length 100000 with
    | true, true => some (.str (l.map lowN))
    | _, _ => .none
  | _ => .none
theorem lowerOf_ascii : ∀ c, c ≤ 127 → Unicode.lowerOf c = [lowN c] := by
  have h : ((List.range 128).all fun c => Unicode.lowerOf c == [lowN c]) = true := by decide +kernel
  intro c hc
  have := List.all_eq_true.mp h c (List.mem_range.mpr (by omega))
  simpa using this
theorem lower_ascii (l : List Nat) (h : ∀ c ∈ l, c ≤ 127) : Txt.lower ⟨⟨l⟩⟩ = ⟨⟨l.map lowN⟩⟩ := by
  unfold Txt.lower placed
  congr 1
  have e : (⟨l⟩ : Array Nat).mapIdx (fun i _ => (Unicode.lowerAt ⟨l⟩ i).toArray) = ⟨l.map fun c => #[lowN c]⟩ := by
    apply Array.ext'
    rw [Array.toList_mapIdx]
    apply List.ext_getElem?
    intro i
    simp only [List.getElem?_mapIdx, List.getElem?_map]
    cases hx : l[i]? with
    | none => rfl
    | some c =>
      have hc := h c (List.mem_of_getElem? hx)
      simp only [Option.map_some, Option.some.injEq]
      unfold Unicode.lowerAt
      have : (⟨l⟩ : Array Nat)[i]? = some c := by simpa using hx
      rw [this]
      have h2 : (c == 0x3A3) = false := by simp; omega
      simp only [h2, Bool.false_and, Bool.false_eq_true, if_false]
      rw [lowerOf_ascii c hc]
  show ((⟨l⟩ : Array Nat).mapIdx fun i _ => (Unicode.lowerAt ⟨l⟩ i).toArray).flatten = _
  rw [e]
  apply Array.ext'
  rw [Array.toList_flatten]
  simp only [List.map_map]
  clear e
  induction l with
  | nil => rfl
  | cons a l ih =>
    simp only [List.map_cons, List.flatten_cons, Function.comp]
    rw [show (Array.toList ∘ fun c => #[lowN c]) = fun c => [lowN c] from rfl] at ih
    have := ih fun c hc => h c (List.mem_cons_of_mem _ hc)
    simp only [Function.comp_def] at this ⊢
    rw [this]; rfl
theorem op_lower : OpL (model prog w) A (fun vs => call (.builtin "str.lower") vs) lowerV := by
  intro a x v hk s mu hmu ra
  cases ra with
  | nil => cases hk
  | cons r rs =>
    cases rs with
    | cons => cases r <;> cases hk
    | nil =>
      cases r with
      | str l t =>
        have hk : (match l.all (fun c => Nat.ble c 127), Nat.ble l.length 100000 with | true, true => some (MV.str (l.map lowN)) | _, _ => .none) = some v := hk
        cases h1 : l.all (fun c => Nat.ble c 127) with
        | false => rw [h1] at hk; cases hk
        | true =>
          cases h2 : Nat.ble l.length 100000 with
          | false => rw [h1, h2] at hk; cases hk
          | true =>
            rw [h1, h2] at hk
            cases hk
            have hb := Nat.le_of_ble_eq_true h2
            have e := lower_ascii l fun c hc => Nat.le_of_ble_eq_true (List.all_eq_true.mp h1 c hc)
            refine SC.lower ?_ ?_
            · rw [e]
              show decide ((l.map lowN).length > sizeLine) = false
              refine decide_eq_false (Nat.not_lt.mpr ?_)
              rw [List.length_map]; exact Nat.le_trans hb sizeLine_big
            · rw [e]; exact ⟨Step.toks s _, .str _ _⟩
      | _ => cases hk
end
end Mine
end

noncomputable section
namespace Mine
open PySem PyProof.Rows PySem.Builtin.Str

def strsOf : List MV → Option (List (List Nat))
  | [] => some []
  | .str l :: r => match strsOf r with
    | some ls => some (l :: ls)
    | .none => .none
  | _ :: _ => .none
def joinN (sep : List Nat) (ls : List (List Nat)) : List Nat := (ls.drop 1).foldl (fun acc p => acc ++ sep ++ p) (ls.headD [])
def joinV : List MV → Option MV
  | [.str sep, .list l] => match strsOf l with
    | some ls => guardN (ls.foldl (fun n p => n + p.length + sep.length) 0) (.str (joinN sep ls))
    | .none => .none
  | _ => .none
def intsOf : List MV → Option (List Int)
  | [] => some []
  | .int i :: r => match intsOf r with
    | some is => some (i :: is)
    | .none => .none
  | _ :: _ => .none
def countV : List MV → Option MV
  | [.list l, .int k] => match intsOf l with
    | some is => some (.int (is.count k : Nat))
    | .none => .none
  | _ => .none
theorem VReps.strs {G : Addr → Obj → Prop} {vs : List Value} {xs : List MV} (h : VReps G vs xs) {ls : List (List Nat)} (hs : strsOf xs = some ls) : ∃ q : List (Str × Tok), vs = strValues q ∧ q.map (·.1) = ls.map fun l => (⟨⟨l⟩⟩ : Str) := by
  induction vs generalizing xs ls with
  | nil => cases h; cases hs; exact ⟨[], rfl, rfl⟩
  | cons v vs ih =>
    cases h with
    | cons a r =>
      rename_i x xs
      cases a with
      | str l t =>
        have hs : (match strsOf xs with | some ls => some (l :: ls) | .none => .none) = some ls := hs
        cases h1 : strsOf xs with
        | none => rw [h1] at hs; cases hs
        | some ls' =>
          rw [h1] at hs; cases hs
          obtain ⟨q, rfl, e⟩ := ih r h1
          exact ⟨(⟨⟨l⟩⟩, t) :: q, rfl, by simp [e]⟩
      | _ => cases hs
theorem VReps.ints {G : Addr → Obj → Prop} {vs : List Value} {xs : List MV} (h : VReps G vs xs) {is : List Int} (hs : intsOf xs = some is) : IntsAre vs is := by
  induction vs generalizing xs is with
  | nil => cases h; cases hs; exact .nil
  | cons v vs ih =>
    cases h with
    | cons a r =>
      rename_i x xs
      cases a with
      | int i t =>
        have hs : (match intsOf xs with | some is => some (i :: is) | .none => .none) = some is := hs
        cases h1 : intsOf xs with
        | none => rw [h1] at hs; cases hs
        | some is' =>
          rw [h1] at hs; cases hs
          exact .cons i t (ih r h1)
      | _ => cases hs
theorem glued_eq (sep : List Nat) (ls : List (List Nat)) : glued ⟨⟨sep⟩⟩ (ls.map fun l => (⟨⟨l⟩⟩ : Str)) = ⟨⟨joinN sep ls⟩⟩ := by
  have key : ∀ (r : List (List Nat)) (acc : List Nat), (r.map fun l => (⟨⟨l⟩⟩ : Str)).foldl (fun a p => a ++ (⟨⟨sep⟩⟩ : Str).cps ++ p.cps) ⟨acc⟩ = ⟨r.foldl (fun a p => a ++ sep ++ p) acc⟩ := by
    intro r
    induction r with
    | nil => intro acc; rfl
    | cons x r ih =>
      intro acc
      rw [List.map_cons, List.foldl_cons, List.foldl_cons, ← ih]
      congr 1
      simp
  unfold glued joinN
  congr 1
  cases ls with
  | nil => rfl
  | cons x r => exact key r x
section
variable {prog : Program} {w : World} {A : Around}
theorem op_join : OpL (model prog w) A (fun vs => call (.builtin "str.join") vs) joinV := by
  intro a x v hk s mu hmu ra
  cases ra with
  | nil => cases hk
  | cons r rs =>
    cases rs with
    | nil => cases r <;> cases hk
    | cons r' rs =>
      cases rs with
      | cons => cases r <;> cases r' <;> cases hk
      | nil =>
        cases r with
        | str sep t =>
          cases r' with
          | list g rr =>
            rename_i a₁ items₁ n₁ l₁
            have hk : (match strsOf l₁ with | some ls => guardN (ls.foldl (fun n p => n + p.length + sep.length) 0) (.str (joinN sep ls)) | .none => .none) = some v := hk
            cases h1 : strsOf l₁ with
            | none => rw [h1] at hk; cases hk
            | some ls =>
              rw [h1] at hk
              obtain ⟨hn, rfl⟩ := guardN_some hk
              obtain ⟨q, hq, e⟩ := rr.strs h1
              subst hq
              refine SC.join (D := a₁) (l := q) (texts := ls.map fun l => (⟨⟨l⟩⟩ : Str)) (isList_of g) e ?_ fun t' k => ⟨Step.toks s k, ?_⟩
              · unfold JoinOk
                have ef : (ls.map fun l => (⟨⟨l⟩⟩ : Str)).toArray.foldl (fun x1 x2 => x1 + x2.length + (⟨⟨sep⟩⟩ : Str).length) 0 = ls.foldl (fun n p => n + p.length + sep.length) 0 := by
                  rw [List.foldl_toArray, List.foldl_map]; rfl
                rw [ef]
                show (!decide (ls.foldl (fun n p => n + p.length + sep.length) 0 > sizeLine)) = true
                rw [decide_eq_false (Nat.not_lt.mpr (Nat.le_trans hn sizeLine_big))]; rfl
              · unfold Txt.join
                rw [glued_eq]; exact .str _ _
          | _ => cases hk
        | _ => cases hk
theorem op_count : OpL (model prog w) A (fun vs => call (.builtin "list.count") vs) countV := by
  intro a x v hk s mu hmu ra
  cases ra with
  | nil => cases hk
  | cons r rs =>
    cases rs with
    | nil => cases r <;> cases hk
    | cons r' rs =>
      cases rs with
      | cons => cases r <;> cases r' <;> cases hk
      | nil =>
        cases r with
        | list g rr =>
          rename_i a₁ items₁ n₁ l₁
          cases r' with
          | int k t =>
            have hk : (match intsOf l₁ with | some is => some (MV.int (is.count k : Nat)) | .none => .none) = some v := hk
            cases h1 : intsOf l₁ with
            | none => rw [h1] at hk; cases hk
            | some is =>
              rw [h1] at hk
              cases hk
              exact count_list_ints (isList_of g) (rr.ints h1) ⟨Step.toks s _, .int _ _⟩
          | _ => cases hk
        | _ => cases hk
end
section
variable {c : Cx}
theorem E_idx {value slice : Expr} {pos : Pos} {f g : Loc → Option MV} (hv : c.E value f) (hi : c.E slice g) (hs : ∀ o i, subscripted slice false o i = operate [o, i] (getItem o i)) :
    c.E (.Subscript value slice pos) (fun σ => o2 idxV (f σ) (g σ)) := by
  intro σ v hv' s m ad mu R T
  obtain ⟨x, y, hx, hy, hk⟩ := o2_some hv'
  refine Subscript_ (wpAny_mono (hv σ x hx s m ad mu R T) (fun a s₁ ha => ?_) fun _ _ e => e)
  refine wpAny_mono (hi σ y hy s₁ m ad mu (R.step ha.1) (T.step ha.1)) (fun b s₂ hb => ?_) fun _ _ e => e
  exact wp_step (ha.1.trans hb.1) (op_idx (value := value) hs a b x y v hk s₂ mu ((R.step ha.1).step hb.1).muIn (ha.2.step hb.1) hb.2)
theorem E_built (O : c.Ok) {n : Str} {np pos : Pos} {id : String} {e : Expr} {es : List Expr} {g : Loc → Option (List MV)} {k : List MV → Option MV} (hk : c.env.kindOf n = some .globalImplicit) (hm : c.mg n = .none) (hb : c.mb n = some (.builtin id)) (hd : (n == ("__debug__" : Str)) = false)
    (hs : c.Es (e :: es) g) (ho : OpL c.M c.A (fun vs => call (.builtin id) vs) k) (he : starEach (e :: es) c.env = (false, eval e c.env) :: starEach es c.env) (hp : ∀ pos, (backTo pos (starEach es c.env)).any (·.1) = false) :
    c.E (.Call (.Name n np) (e :: es) [] pos) (fun σ => oL k (g σ)) := by
  intro σ v hv s m ad mu R T
  obtain ⟨l, hl, hv⟩ := oL_some hv
  refine wpAny_Call_NameR (name_built O hk hm hb hd T ?_)
  refine callWith_builtin1 (wpAny_mono (hs pos σ l hl s m ad mu R T) (fun vs s₁ h₁ => ?_) fun _ _ e => e) he (hp pos)
  exact wp_step h₁.1 (ho vs l v hv s₁ mu (R.step h₁.1).muIn h₁.2)
theorem E_meth0 {o : Expr} {name : Str} {apos pos : Pos} {id : String} {f : Loc → Option MV} {k : List MV → Option MV} (hbase : attributeBase o name c.env (eval o c.env) = eval o c.env) (hline : (apos.endLine == pos.line) = true)
    (slot : Slot "str" name id) (hty : typeOf (.builtin id) = pure (.type "method_descriptor")) (ho : c.E o f) (hop : OpL c.M c.A (fun vs => call (.builtin id) vs) k) (hks : ∀ y v, k [y] = some v → ∃ l, y = .str l) :
    c.E (.Call (.Attribute o name apos) [] [] pos) (fun σ => o1 (fun x => k [x]) (f σ)) := by
  intro σ v hv s m ad mu R T
  obtain ⟨x, hx, hv⟩ := o1_some hv
  refine wpAny_Call_method (T := "str") (id := id) hbase rfl hline PySem.F.plainAttrs_str slot hty (wpAny_mono (ho σ x hx s m ad mu R T) (fun a s₁ ha => ?_) fun _ _ e => e)
  obtain ⟨l, rfl⟩ := hks _ _ hv
  have ra := ha.2
  cases ra with
  | str _ t =>
    refine ⟨typeIs_str s₁ _ t, fun _ e => (nomatch e), ?_⟩
    exact callWith_method0 (wp_step ha.1 (hop _ _ v hv s₁ mu (R.step ha.1).muIn (.cons (.str l t) .nil)))
theorem E_methS {o e : Expr} {es : List Expr} {name : Str} {apos pos : Pos} {id : String} {f : Loc → Option MV} {g : Loc → Option (List MV)} {k : List MV → Option MV} (hbase : attributeBase o name c.env (eval o c.env) = eval o c.env) (hline : (apos.endLine == pos.line) = true)
    (hfew : ((backTo pos (starEach (e :: es) c.env)).all (fun x => !x.1) && (backToKw pos (keywordEach [] c.env)).all (fun x => x.1.isSome)
      && decide ((e :: es).length + ([] : List Keyword).length + (if ([] : List Keyword).isEmpty then 0 else 1) < 30)) = true)
    (slot : Slot "str" name id) (hty : typeOf (.builtin id) = pure (.type "method_descriptor")) (ho : c.E o f) (hs : c.Es (e :: es) g) (hop : OpL c.M c.A (fun vs => call (.builtin id) vs) k) (hks : ∀ y ys v, k (y :: ys) = some v → ∃ l, y = .str l)
    (he : starEach (e :: es) c.env = (false, eval e c.env) :: starEach es c.env) (hp : ∀ pos, (backTo pos (starEach es c.env)).any (·.1) = false) :
    c.E (.Call (.Attribute o name apos) (e :: es) [] pos) (fun σ => oL k (oc (f σ) (g σ))) := by
  intro σ v hv s m ad mu R T
  obtain ⟨xs, hxs, hv⟩ := oL_some hv
  obtain ⟨x, l, hx, hl, rfl⟩ := oc_some hxs
  refine wpAny_Call_method (T := "str") (id := id) hbase hfew hline PySem.F.plainAttrs_str slot hty (wpAny_mono (ho σ x hx s m ad mu R T) (fun a s₁ ha => ?_) fun _ _ e => e)
  obtain ⟨l', rfl⟩ := hks _ _ _ hv
  have ra := ha.2
  cases ra with
  | str _ t =>
    refine ⟨typeIs_str s₁ _ t, fun _ e => (nomatch e), ?_⟩
    refine callWith_method1 (wpAny_mono (hs pos σ l hl s₁ m ad mu (R.step ha.1) (T.step ha.1)) (fun vs s₂ h₂ => ?_) fun _ _ e => e) he (hp pos)
    exact wp_step (ha.1.trans h₂.1) (hop _ _ v hv s₂ mu ((R.step ha.1).step h₂.1).muIn (.cons (.str l' t) h₂.2))
theorem E_methL {o e : Expr} {es : List Expr} {name : Str} {apos pos : Pos} {id : String} {f : Loc → Option MV} {g : Loc → Option (List MV)} {k : List MV → Option MV} (hbase : attributeBase o name c.env (eval o c.env) = eval o c.env) (hline : (apos.endLine == pos.line) = true)
    (hfew : ((backTo pos (starEach (e :: es) c.env)).all (fun x => !x.1) && (backToKw pos (keywordEach [] c.env)).all (fun x => x.1.isSome)
      && decide ((e :: es).length + ([] : List Keyword).length + (if ([] : List Keyword).isEmpty then 0 else 1) < 30)) = true)
    (slot : Slot "list" name id) (hty : typeOf (.builtin id) = pure (.type "method_descriptor")) (ho : c.E o f) (hs : c.Es (e :: es) g) (hop : OpL c.M c.A (fun vs => call (.builtin id) vs) k) (hks : ∀ y ys v, k (y :: ys) = some v → ∃ l, y = .list l)
    (he : starEach (e :: es) c.env = (false, eval e c.env) :: starEach es c.env) (hp : ∀ pos, (backTo pos (starEach es c.env)).any (·.1) = false) :
    c.E (.Call (.Attribute o name apos) (e :: es) [] pos) (fun σ => oL k (oc (f σ) (g σ))) := by
  intro σ v hv s m ad mu R T
  obtain ⟨xs, hxs, hv⟩ := oL_some hv
  obtain ⟨x, l, hx, hl, rfl⟩ := oc_some hxs
  refine wpAny_Call_method (T := "list") (id := id) hbase hfew hline PySem.F.plainAttrs_list slot hty (wpAny_mono (ho σ x hx s m ad mu R T) (fun a s₁ ha => ?_) fun _ _ e => e)
  obtain ⟨l', rfl⟩ := hks _ _ _ hv
  have ra := ha.2
  cases ra with
  | list g' rr =>
    refine ⟨(isList_of g').typeIs, fun b e => ⟨_, (by cases e; exact g'.1), rfl⟩, ?_⟩
    refine callWith_method1 (wpAny_mono (hs pos σ l hl s₁ m ad mu (R.step ha.1) (T.step ha.1)) (fun vs s₂ h₂ => ?_) fun _ _ e => e) he (hp pos)
    exact wp_step (ha.1.trans h₂.1) (hop _ _ v hv s₂ mu ((R.step ha.1).step h₂.1).muIn (.cons (ha.2.step h₂.1) h₂.2))
def orV (x y : Option MV) : Option MV := match x with
  | .none => .none
  | some v => match truthV v with
    | .none => .none
    | some true => some v
    | some false => y
theorem E_or {a b : Expr} {pos : Pos} {f g : Loc → Option MV} (ha : c.E a f) (hb : c.E b g) : c.E (.BoolOp .Or [a, b] pos) (fun σ => orV (f σ) (g σ)) := by
  intro σ v hv s m ad mu R T
  dsimp only at hv
  cases hx : f σ with
  | none => rw [hx] at hv; cases hv
  | some x =>
    rw [hx] at hv
    unfold orV at hv
    dsimp only at hv
    cases ht : truthV x with
    | none => rw [ht] at hv; cases hv
    | some t =>
      rw [ht] at hv
      refine wpAny_Or2 (wpAny_mono (ha σ x hx s m ad mu R T) (fun a s₁ h₁ => ?_) fun _ _ e => e)
      refine wpAny_mono (op_truth a x t ht s₁ mu (R.step h₁.1).muIn h₁.2) (fun b s₂ h₂ => ?_) fun _ _ e => e
      rw [show b = t from h₂.2]
      cases t with
      | true => cases hv; exact ⟨h₁.1.trans h₂.1, h₁.2.step h₂.1⟩
      | false => exact wp_step (h₁.1.trans h₂.1) (hb σ v hv s₂ m ad mu ((R.step h₁.1).step h₂.1) ((T.step h₁.1).step h₂.1))
def andV (x y : Option MV) : Option MV := match x with
  | .none => .none
  | some v => match truthV v with
    | .none => .none
    | some false => some v
    | some true => y
theorem E_and {a b : Expr} {pos : Pos} {f g : Loc → Option MV} (ha : c.E a f) (hb : c.E b g) : c.E (.BoolOp .And [a, b] pos) (fun σ => andV (f σ) (g σ)) := by
  intro σ v hv s m ad mu R T
  dsimp only at hv
  cases hx : f σ with
  | none => rw [hx] at hv; cases hv
  | some x =>
    rw [hx] at hv
    unfold andV at hv
    dsimp only at hv
    cases ht : truthV x with
    | none => rw [ht] at hv; cases hv
    | some t =>
      rw [ht] at hv
      refine wpAny_And2 (wpAny_mono (ha σ x hx s m ad mu R T) (fun a s₁ h₁ => ?_) fun _ _ e => e)
      refine wpAny_mono (op_truth a x t ht s₁ mu (R.step h₁.1).muIn h₁.2) (fun b s₂ h₂ => ?_) fun _ _ e => e
      rw [show b = t from h₂.2]
      cases t with
      | false => cases hv; exact ⟨h₁.1.trans h₂.1, h₁.2.step h₂.1⟩
      | true => exact wp_step (h₁.1.trans h₂.1) (hb σ v hv s₂ m ad mu ((R.step h₁.1).step h₂.1) ((T.step h₁.1).step h₂.1))
/-- an item of an own list -/
def ownIdx (sl : Option Sl) (i : MV) : Option MV := match sl, i with
  | some (.own l), .int (.ofNat i) => match Nat.ble i 1000000 with
    | true => nth l i
    | false => .none
  | _, _ => .none
theorem E_ownIdx (O : c.Ok) {x : Nat} {n : Str} {np pos : Pos} {slice : Expr} {g : Loc → Option MV} (hn : n = c.nm x) (hk : c.env.kindOf n = some .local) (hd : (n == ("__debug__" : Str)) = false) (hi : c.E slice g) (hs : ∀ o i, subscripted slice false o i = operate [o, i] (getItem o i)) :
    c.E (.Subscript (.Name n np) slice pos) (fun σ => o1 (ownIdx (getL σ x)) (g σ)) := by
  intro σ v hv s m ad mu R T
  obtain ⟨y, hy, hv⟩ := o1_some hv
  cases hg : getL σ x with
  | none => rw [hg] at hv; cases hv
  | some sl =>
    cases sl with
    | val => rw [hg] at hv; cases hv
    | own l =>
      rw [hg] at hv
      obtain ⟨h1, h2, h3, items, k, h4, h5⟩ := R.own x l hg
      refine Subscript_ (wpAny_Name (wpAny_loadName_local O.fn hk R.ns (hn ▸ h1) ?_) hd)
      refine wpAny_mono (hi σ y hy s m ad mu R T) (fun b s₂ hb => ?_) fun _ _ e => e
      have rb := hb.2
      cases rb with
      | int i u =>
        cases i with
        | negSucc => cases hv
        | ofNat i =>
          have hv : (match Nat.ble i 1000000 with | true => nth l i | false => .none) = some v := hv
          cases hbl : Nat.ble i 1000000 with
          | false => rw [hbl] at hv; cases hv
          | true =>
            rw [hbl] at hv
            have hbl := Nat.le_of_ble_eq_true hbl
            dsimp only at hv
            rw [nth_eq] at hv
            obtain ⟨val, hval, rv⟩ := h5.get hv
            have hL : s₂.heap.IsList (ad x) ⟨items⟩ := ⟨_, hb.1.grow _ _ h4, rfl, k, rfl⟩
            refine tail_any (T := "list") hL.typeIs slot_list_getitem.lookup (wpAny_getItem_list hL (by show (0 : Int) ≤ (i : Int); omega) (by show (i : Int) < _; omega) (x := val) ?_ ⟨hb.1, rv.step hb.1⟩) (hs _ _)
            show (⟨items⟩ : Array Value)[(i : Int).toNat]? = some val
            simpa using hval
      | _ => cases hv
end
end Mine
end

noncomputable section
namespace Mine
open PySem PyProof.Rows PySem.Builtin.Str

inductive Fl where
  | next | ret (v : MV)
def FlR : Fl → Flow → Prop
  | .next, f => f = .next
  | .ret v, f => ∃ val, f = .ret val ∧ VRep (fun _ _ => False) val v
abbrev SF := Loc → Option (Loc × Fl)

def muOf (L : Addr) (σ : Loc) (ad : Nat → Addr) : Addr → Prop := fun b => b = L ∨ ∃ x l, getL σ x = some (.own l) ∧ b = ad x

-- a value is brought to its plain form before it is kept: a help to the kernel alone
section
variable {RT : Type}
def frcN (n : Nat) (k : Nat → RT) : RT := match n with
  | 0 => k 0
  | m + 1 => k (m + 1)
def frcI (i : Int) (k : Int → RT) : RT := match i with
  | .ofNat n => frcN n fun n => k (.ofNat n)
  | .negSucc n => frcN n fun n => k (.negSucc n)
def frcL : List Nat → (List Nat → RT) → RT
  | [], k => k []
  | a :: r, k => frcN a fun a => frcL r fun r => k (a :: r)
def frc0 (v : MV) (k : MV → RT) : RT := match v with
  | .int i => frcI i fun i => k (.int i)
  | .str l => frcL l fun l => k (.str l)
  | .bool true => k (.bool true)
  | .bool false => k (.bool false)
  | .none => k .none
  | .list l => k (.list l)
  | .tup l => k (.tup l)
def frcL0 : List MV → (List MV → RT) → RT
  | [], k => k []
  | a :: r, k => frc0 a fun a => frcL0 r fun r => k (a :: r)
def frc1 (v : MV) (k : MV → RT) : RT := match v with
  | .list l => frcL0 l fun l => k (.list l)
  | .tup l => frcL0 l fun l => k (.tup l)
  | v => frc0 v k
def frcL1 : List MV → (List MV → RT) → RT
  | [], k => k []
  | a :: r, k => frc1 a fun a => frcL1 r fun r => k (a :: r)
def frc2 (v : MV) (k : MV → RT) : RT := match v with
  | .list l => frcL1 l fun l => k (.list l)
  | .tup l => frcL1 l fun l => k (.tup l)
  | v => frc0 v k
def frcS : Loc → (Loc → RT) → RT
  | [], k => k []
  | a :: r, k => frcS r fun r => k (a :: r)
theorem frcN_eq (n : Nat) (k : Nat → RT) : frcN n k = k n := by cases n <;> rfl
theorem frcI_eq (n : Int) (k : Int → RT) : frcI n k = k n := by cases n <;> (unfold frcI; dsimp only; rw [frcN_eq])
theorem frcL_eq (l : List Nat) (k : List Nat → RT) : frcL l k = k l := by
  induction l generalizing k with
  | nil => rfl
  | cons a r ih => unfold frcL; rw [frcN_eq, ih]
theorem frc0_eq (v : MV) (k : MV → RT) : frc0 v k = k v := by
  cases v with
  | int i => unfold frc0; dsimp only; rw [frcI_eq]
  | str l => unfold frc0; dsimp only; rw [frcL_eq]
  | bool b => cases b <;> rfl
  | _ => rfl
theorem frcL0_eq (l : List MV) (k : List MV → RT) : frcL0 l k = k l := by
  induction l generalizing k with
  | nil => rfl
  | cons a r ih => unfold frcL0; rw [frc0_eq, ih]
theorem frc1_eq (v : MV) (k : MV → RT) : frc1 v k = k v := by
  cases v with
  | list l => unfold frc1; dsimp only; rw [frcL0_eq]
  | tup l => unfold frc1; dsimp only; rw [frcL0_eq]
  | _ => unfold frc1; dsimp only; rw [frc0_eq]
theorem frcL1_eq (l : List MV) (k : List MV → RT) : frcL1 l k = k l := by
  induction l generalizing k with
  | nil => rfl
  | cons a r ih => unfold frcL1; rw [frc1_eq, ih]
theorem frc2_eq (v : MV) (k : MV → RT) : frc2 v k = k v := by
  cases v with
  | list l => unfold frc2; dsimp only; rw [frcL1_eq]
  | tup l => unfold frc2; dsimp only; rw [frcL1_eq]
  | _ => unfold frc2; dsimp only; rw [frc0_eq]
theorem frcS_eq (l : Loc) (k : Loc → RT) : frcS l k = k l := by
  induction l generalizing k with
  | nil => rfl
  | cons a r ih => unfold frcS; rw [ih]
def frcA (l : List MV) (k : List MV → RT) : RT := frcL1 l k
theorem frcA_eq (l : List MV) (k : List MV → RT) : frcA l k = k l := frcL1_eq l k
end
structure SR (c : Cx) (s₀ : Shared) (σ : Loc) (s : Shared) : Prop where
  base : Step s₀ s
  fr : ∃ m ad, FR c.nm c.env.locals σ s.heap m ad (muOf c.env.locals σ ad) ∧ ∀ b, muOf c.env.locals σ ad b → s₀.heap.get? b = .none

def Cx.Sx (c : Cx) (t : Sem Flow) (F : SF) : Prop :=
  ∀ s₀, Tp c.mg c.mb c.hb s₀.heap → ∀ σ σ' fl, F σ = some (σ', fl) → ∀ s, SR c s₀ σ s →
    wpAny c.M c.A t (fun f s' => FlR fl f ∧ SR c s₀ σ' s') (fun _ _ => False) s
abbrev Cx.S (c : Cx) (st : Stmt) (F : SF) : Prop := c.Sx (exec st c.env) F
abbrev Cx.SS (c : Cx) (sts : List Stmt) (F : SF) : Prop := c.Sx (execs sts c.env) F

theorem SR.step {c : Cx} {s₀ s s' : Shared} {σ : Loc} (R : SR c s₀ σ s) (x : Step s s') : SR c s₀ σ s' := by
  obtain ⟨m, ad, h, hm⟩ := R.fr
  exact ⟨R.base.trans x, m, ad, h.step x, hm⟩

def seqF (F G : SF) : SF := fun σ => match F σ with
  | .none => .none
  | some (σ', .next) => G σ'
  | some (σ', .ret v) => some (σ', .ret v)
section
variable {c : Cx}
theorem SS_nil : c.SS [] (fun σ => some (σ, .next)) := by
  intro s₀ T σ σ' fl hF s R
  cases hF
  exact wpAny_execs_nil ⟨rfl, R⟩
theorem SS_cons {st : Stmt} {rest : List Stmt} {F G : SF} (h : c.S st F) (hr : c.SS rest G) : c.SS (st :: rest) (seqF F G) := by
  intro s₀ T σ σ' fl hF s R
  unfold seqF at hF
  cases hf : F σ with
  | none => rw [hf] at hF; cases hF
  | some p =>
    obtain ⟨σ₁, fl₁⟩ := p
    rw [hf] at hF
    refine wpAny_execs_cons (wpAny_mono (h s₀ T σ σ₁ fl₁ hf s R) (fun f s₁ h₁ => ?_) fun _ _ e => e)
    cases fl₁ with
    | next =>
      rw [show f = Flow.next from h₁.1]
      exact hr s₀ T σ₁ σ' fl hF s₁ h₁.2
    | ret v =>
      cases hF
      obtain ⟨val, rfl, hv⟩ := h₁.1
      exact ⟨⟨val, rfl, hv⟩, h₁.2⟩

/-- storing a value under a name -/
theorem muOf_store {L : Addr} {σ : Loc} {ad : Nat → Addr} {x : Nat} {v : MV} {b : Addr} (h : muOf L (setL σ x (.val v)) ad b) : muOf L σ ad b := by
  rcases h with h | ⟨y, l, hy, e⟩
  · exact .inl h
  · rw [getL_setL] at hy
    by_cases q : x = y
    · rw [if_pos q] at hy; cases hy
    · rw [if_neg q] at hy; exact .inr ⟨y, l, hy, e⟩
theorem FR.store (inj : ∀ x y, c.nm x = c.nm y → x = y) {L : Addr} {σ : Loc} {h h' : Heap} {m : Str → Option Value} {ad : Nat → Addr} (R : FR c.nm L σ h m ad (muOf L σ ad)) {x : Nat} {val : Value} {v : MV} (hv : VRep (Fz h (muOf L σ ad)) val v)
    (hn : h'.Ns L (fun y => if y = c.nm x then some val else m y)) (hs : Heap.SameBut L h h') : FR c.nm L (setL σ x (.val v)) h' (fun y => if y = c.nm x then some val else m y) ad (muOf L (setL σ x (.val v)) ad) := by
  have fz : ∀ b o, Fz h (muOf L σ ad) b o → Fz h' (muOf L (setL σ x (.val v)) ad) b o := fun b o hb => ⟨(hs.2 b fun e => hb.2 (e ▸ R.muL)).trans hb.1, fun q => hb.2 (muOf_store q)⟩
  refine ⟨hn, .inl rfl, fun b hb => ?_, fun y u hy => ?_, fun y l hy => ?_, fun y z ly lz hy hz e => ?_⟩
  · by_cases q : b = L
    · subst q; obtain ⟨o, _, _, ho, _⟩ := hn; exact ⟨o, ho⟩
    · obtain ⟨o, ho⟩ := R.muIn b (muOf_store hb); exact ⟨o, (hs.2 b q).trans ho⟩
  · rw [getL_setL] at hy
    by_cases q : x = y
    · subst q; rw [if_pos rfl] at hy; cases hy
      exact ⟨val, by simp, hv.mono fz⟩
    · rw [if_neg q] at hy
      obtain ⟨w, h1, h2⟩ := R.val y u hy
      refine ⟨w, ?_, h2.mono fz⟩
      have : c.nm y ≠ c.nm x := fun e => q (inj _ _ e).symm
      simp [this, h1]
  · have hy' := hy
    rw [getL_setL] at hy
    by_cases q : x = y
    · rw [if_pos q] at hy; cases hy
    · rw [if_neg q] at hy
      obtain ⟨h1, h2, h3, items, n, h4, h5⟩ := R.own y l hy
      have : c.nm y ≠ c.nm x := fun e => q (inj _ _ e).symm
      exact ⟨by simp [this, h1], .inr ⟨y, l, hy', rfl⟩, h3, items, n, (hs.2 _ h3).trans h4, h5.mono fz⟩
  · rw [getL_setL] at hy hz
    by_cases q : x = y
    · rw [if_pos q] at hy; cases hy
    · by_cases q' : x = z
      · rw [if_pos q'] at hz; cases hz
      · rw [if_neg q] at hy; rw [if_neg q'] at hz; exact R.inj y z ly lz hy hz e
theorem Step.sameBut {s₀ s : Shared} {L : Addr} {h' : Heap} {tk : Nat} (x : Step s₀ s) (hL : s₀.heap.get? L = .none) (hs : Heap.SameBut L s.heap h') : Step s₀ { s with heap := h', toks := tk } :=
  ⟨fun b o hb => (hs.2 b fun e => by rw [e, hL] at hb; cases hb).trans (x.grow b o hb), x.os, x.gens⟩
theorem wpStoreG (O : c.Ok) {x : Nat} {n : Str} {val : Value} {v : MV} {s₀ s : Shared} {σ : Loc} (hn : n = c.nm x) (hk : c.env.kindOf n = some .local) (R : SR c s₀ σ s)
    {m : Str → Option Value} {ad : Nat → Addr} (F : FR c.nm c.env.locals σ s.heap m ad (muOf c.env.locals σ ad)) (hmu : ∀ b, muOf c.env.locals σ ad b → s₀.heap.get? b = .none) (hv : VRep (Fz s.heap (muOf c.env.locals σ ad)) val v) {Q : Unit → Shared → Prop}
    (h : ∀ s' m', s'.gens = s.gens → SR c s₀ (setL σ x (.val v)) s' → FR c.nm c.env.locals (setL σ x (.val v)) s'.heap m' ad (muOf c.env.locals (setL σ x (.val v)) ad) → (∀ b o, b ≠ c.env.locals → s.heap.get? b = some o → s'.heap.get? b = some o) → Q () s') {E : Value → Shared → Prop} : wpAny c.M c.A (storeName c.env n val) Q E s := by
  subst hn
  refine wpAny_storeName_local hk F.ns (fun h' hns hsb => ?_) (by rw [O.fn]; rfl)
  have F' := FR.store (c := c) O.inj F hv hns hsb
  exact h _ _ rfl ⟨R.base.sameBut (hmu _ F.muL) hsb, _, _, F', fun b hb => hmu b (muOf_store hb)⟩ F' fun b o hb ho => (hsb.2 b hb).trans ho
theorem wpStore (O : c.Ok) {x : Nat} {n : Str} {val : Value} {v : MV} {s₀ s : Shared} {σ : Loc} (hn : n = c.nm x) (hk : c.env.kindOf n = some .local) (R : SR c s₀ σ s)
    {m : Str → Option Value} {ad : Nat → Addr} (F : FR c.nm c.env.locals σ s.heap m ad (muOf c.env.locals σ ad)) (hmu : ∀ b, muOf c.env.locals σ ad b → s₀.heap.get? b = .none) (hv : VRep (Fz s.heap (muOf c.env.locals σ ad)) val v) {Q : Unit → Shared → Prop}
    (h : ∀ s' m', SR c s₀ (setL σ x (.val v)) s' → FR c.nm c.env.locals (setL σ x (.val v)) s'.heap m' ad (muOf c.env.locals (setL σ x (.val v)) ad) → (∀ b o, b ≠ c.env.locals → s.heap.get? b = some o → s'.heap.get? b = some o) → Q () s') {E : Value → Shared → Prop} : wpAny c.M c.A (storeName c.env n val) Q E s :=
  wpStoreG O hn hk R F hmu hv fun s' m' _ => h s' m'
theorem fz_store {L : Addr} {σ : Loc} {ad : Nat → Addr} {x : Nat} {v : MV} {h h' : Heap} (k : ∀ b o, b ≠ L → h.get? b = some o → h'.get? b = some o) (b : Addr) (o : Obj) (hb : Fz h (muOf L σ ad) b o) : Fz h' (muOf L (setL σ x (.val v)) ad) b o :=
  ⟨k b o (fun e => hb.2 (.inl e)) hb.1, fun q => hb.2 (muOf_store q)⟩
def asgF (x : Nat) (f : Loc → Option MV) : SF := fun σ => match f σ with
  | .none => .none
  | some v => frc2 v fun v => frcS (setL σ x (.val v)) fun σ => some (σ, .next)
theorem asgF_eq {x : Nat} {f : Loc → Option MV} {σ : Loc} {v : MV} (h : f σ = some v) : asgF x f σ = some (setL σ x (.val v), .next) := by
  unfold asgF
  rw [h]
  simp only [frc2_eq, frcS_eq]
theorem S_assign (O : c.Ok) {x : Nat} {n : Str} {np pos : Pos} {e : Expr} {f : Loc → Option MV} (hn : n = c.nm x) (hk : c.env.kindOf n = some .local) (he : c.E e f) (hs : swapsWith e (some (.Name n np)) pos.line c.env = pure false) :
    c.S (.Assign [.Name n np] e pos) (asgF x f) := by
  intro s₀ T σ σ' fl hF s R
  unfold asgF at hF
  cases hf : f σ with
  | none => rw [hf] at hF; cases hF
  | some v =>
    rw [hf] at hF
    simp only [frc2_eq, frcS_eq] at hF
    cases hF
    obtain ⟨m, ad, F, hmu⟩ := R.fr
    refine wpAny_Assign_Name (wpAny_mono (he σ v hf s m ad _ F (T.step R.base)) (fun val s₁ h₁ => ?_) fun _ _ e => e) hs
    exact wpStore O hn hk (R.step h₁.1) (F.step h₁.1) hmu h₁.2 fun s' m' R' _ _ => ⟨rfl, R'⟩
theorem S_chain2 (O : c.Ok) {x y : Nat} {n k : Str} {np kp pos : Pos} {e : Expr} {f : Loc → Option MV} (hn : n = c.nm x) (hk : c.env.kindOf n = some .local) (hn' : k = c.nm y) (hk' : c.env.kindOf k = some .local) (he : c.E e f)
    (ha : (assignEach [.Name n np, .Name k kp] c.env).map (·.2) = [assign (.Name n np) c.env, assign (.Name k kp) c.env]) (hw : swappedStores [.Name n np, .Name k kp] e c.env = pure none) :
    c.S (.Assign [.Name n np, .Name k kp] e pos) (fun σ => match f σ with | .none => .none | some v => some (setL (setL σ x (.val v)) y (.val v), .next)) := by
  intro s₀ T σ σ' fl hF s R
  dsimp only at hF
  cases hf : f σ with
  | none => rw [hf] at hF; cases hF
  | some v =>
    rw [hf] at hF
    cases hF
    obtain ⟨m, ad, F, hmu⟩ := R.fr
    refine wpAny_Assign_two (wpAny_mono (he σ v hf s m ad _ F (T.step R.base)) (fun val s₁ h₁ => ?_) fun _ _ e => e) ha hw
    refine wpAny_assign_Name (wpStore O hn hk (R.step h₁.1) (F.step h₁.1) hmu h₁.2 fun s' m' R' F' fz => ?_)
    exact wpAny_assign_Name (wpStore O hn' hk' R' F' (fun b hb => hmu b (muOf_store hb)) (h₁.2.mono (fz_store fz)) fun s'' m'' R'' _ _ => ⟨rfl, R''⟩)
theorem S_aug (O : c.Ok) {x : Nat} {n : Str} {np pos : Pos} {op : Operator} {e : Expr} {f : Loc → Option MV} {k : MV → MV → Option MV} (hn : n = c.nm x) (hk : c.env.kindOf n = some .local) (he : c.E e f) (ho : Op2 c.M c.A (inplaceOp op) k) :
    c.S (.AugAssign (.Name n np) op e pos) (asgF x fun σ => o2 k (gv (getL σ x)) (f σ)) := by
  intro s₀ T σ σ' fl hF s R
  unfold asgF at hF
  dsimp only at hF
  cases hf : o2 k (gv (getL σ x)) (f σ) with
  | none => rw [hf] at hF; cases hF
  | some v =>
    rw [hf] at hF
    simp only [frc2_eq, frcS_eq] at hF
    cases hF
    obtain ⟨u, z, hu, hz, hv⟩ := o2_some hf
    obtain ⟨m, ad, F, hmu⟩ := R.fr
    have hg : getL σ x = some (.val u) := by
      cases q : getL σ x with
      | none => rw [q] at hu; cases hu
      | some sl => cases sl with
        | own => rw [q] at hu; cases hu
        | val => rw [q] at hu; cases hu; rfl
    obtain ⟨val, h1, h2⟩ := F.val x u hg
    refine wpAny_AugAssign_Name (wpAny_loadName_local O.fn hk F.ns (hn ▸ h1) ?_)
    refine wpAny_mono (he σ z hz s m ad _ F (T.step R.base)) (fun vz s₁ h₁ => ?_) fun _ _ e => e
    refine wpAny_mono (ho val vz u z v hv s₁ _ (F.step h₁.1).muIn (h2.step h₁.1) h₁.2) (fun r s₂ h₂ => ?_) fun _ _ e => e
    exact wpStore O hn hk (R.step (h₁.1.trans h₂.1)) (F.step (h₁.1.trans h₂.1)) hmu h₂.2 fun s' m' R' _ _ => ⟨rfl, R'⟩
def flatV : MV → Bool
  | .list _ => false
  | .tup _ => false
  | _ => true
theorem VRep.flat {G G' : Addr → Obj → Prop} {val : Value} {v : MV} (r : VRep G val v) (h : flatV v = true) : VRep G' val v := by
  cases r <;> first | (constructor; done) | (cases h; done)
def retF (f : Loc → Option MV) : SF := fun σ => match f σ with
  | .none => .none
  | some v => match flatV v with
    | true => some (σ, .ret v)
    | false => .none
theorem S_ret {e : Expr} {pos : Pos} {f : Loc → Option MV} (he : c.E e f) : c.S (.Return (some e) pos) (retF f) := by
  intro s₀ T σ σ' fl hF s R
  unfold retF at hF
  cases hf : f σ with
  | none => rw [hf] at hF; cases hF
  | some v =>
    rw [hf] at hF
    dsimp only at hF
    cases hfl : flatV v with
    | false => rw [hfl] at hF; cases hF
    | true =>
      rw [hfl] at hF
      cases hF
      obtain ⟨m, ad, F, hmu⟩ := R.fr
      exact wpAny_Return_some (wpAny_mono (he σ v hf s m ad _ F (T.step R.base)) (fun val s₁ h₁ => ⟨⟨val, rfl, h₁.2.flat hfl⟩, R.step h₁.1⟩) fun _ _ e => e)
def ifF (t : Loc → Option Bool) (F G : SF) : SF := fun σ => match t σ with
  | some true => F σ
  | some false => G σ
  | .none => .none
theorem S_if {e : Expr} {body orelse : List Stmt} {pos : Pos} {t : Loc → Option Bool} {F G : SF} (he : c.T e t) (hb : c.SS body F) (ho : c.SS orelse G) : c.S (.If e body orelse pos) (ifF t F G) := by
  intro s₀ T σ σ' fl hF s R
  unfold ifF at hF
  obtain ⟨m, ad, Fr, hmu⟩ := R.fr
  cases ht : t σ with
  | none => rw [ht] at hF; cases hF
  | some b =>
    rw [ht] at hF
    refine wpAny_If (wpAny_mono (he σ b ht s m ad _ Fr (T.step R.base)) (fun b' s₁ h₁ => ?_) fun _ _ e => e)
    rw [show b' = b from h₁.2]
    cases b with
    | true => exact hb s₀ T σ σ' fl hF s₁ (R.step h₁.1)
    | false => exact ho s₀ T σ σ' fl hF s₁ (R.step h₁.1)
def whF (t : Loc → Option Bool) (F : SF) : Nat → SF
  | 0, _ => .none
  | n + 1, σ => match t σ with
    | .none => .none
    | some false => some (σ, .next)
    | some true => match F σ with
      | .none => .none
      | some (σ', .next) => whF t F n σ'
      | some (σ', .ret v) => some (σ', .ret v)
theorem S_while {e : Expr} {body : List Stmt} {pos : Pos} {t : Loc → Option Bool} {F : SF} (N : Nat) (he : c.T e t) (hb : c.SS body F) : c.S (.While e body [] pos) (whF t F N) := by
  intro s₀ T σ σ' fl hF s R
  refine wpAny_While (codeAny_whileLoop (I := fun n s => ∃ σ, whF t F n σ = some (σ', fl) ∧ SR c s₀ σ s) (fun n s hI => ?_) N ⟨σ, hF, R⟩)
  obtain ⟨σ, hF, R⟩ := hI
  cases n with
  | zero => cases hF
  | succ n =>
    unfold whF at hF
    obtain ⟨m, ad, Fr, hmu⟩ := R.fr
    cases ht : t σ with
    | none => rw [ht] at hF; cases hF
    | some b =>
      rw [ht] at hF
      refine wpAny_mono (he σ b ht s m ad _ Fr (T.step R.base)) (fun b' s₁ h₁ => ?_) fun _ _ e => e.elim
      rw [show b' = b from h₁.2]
      cases b with
      | false =>
        cases hF
        exact wpAny_execs_nil ⟨rfl, R.step h₁.1⟩
      | true =>
        dsimp only at hF
        cases hf : F σ with
        | none => rw [hf] at hF; cases hF
        | some p =>
          obtain ⟨σ₁, fl₁⟩ := p
          rw [hf] at hF
          refine wpAny_mono (hb s₀ T σ σ₁ fl₁ hf s₁ (R.step h₁.1)) (fun f s₂ h₂ => ?_) fun _ _ e => e.elim
          cases fl₁ with
          | next =>
            rw [show f = Flow.next from h₂.1]
            exact ⟨n, Nat.lt_succ_self n, σ₁, hF, h₂.2⟩
          | ret v =>
            cases hF
            obtain ⟨val, rfl, hv⟩ := h₂.1
            exact ⟨⟨val, rfl, hv⟩, h₂.2⟩
end
end Mine
end

noncomputable section
namespace Mine
open PySem PyProof.Rows PySem.Builtin.Str

open Classical in
noncomputable def hideP (h : Heap) (mu : Addr → Prop) : Heap := ⟨h.objs.mapIdx fun i o => if mu i then ⟨.none, .none, .freed, #[]⟩ else o, h.life⟩
theorem hideP_mu {h : Heap} {mu : Addr → Prop} {b : Addr} (hb : mu b) : (hideP h mu).get? b = .none := by
  unfold hideP Heap.get?
  simp only [Array.getElem?_mapIdx]
  cases h.objs[b]? with
  | none => rfl
  | some o => simp [hb]
theorem hideP_not {h : Heap} {mu : Addr → Prop} {b : Addr} (hb : ¬ mu b) : (hideP h mu).get? b = h.get? b := by
  unfold hideP Heap.get?
  simp only [Array.getElem?_mapIdx]
  cases h.objs[b]? with
  | none => rfl
  | some o => simp [hb]
theorem hideP_of {h : Heap} {mu : Addr → Prop} {b : Addr} {o : Obj} (hb : (hideP h mu).get? b = some o) : ¬ mu b ∧ h.get? b = some o := by
  by_cases q : mu b
  · rw [hideP_mu q] at hb; cases hb
  · exact ⟨q, by rwa [hideP_not q] at hb⟩
section
variable {c : Cx}
/-- another base: all that lies outside the frame and its own lists -/
theorem SR.reframeG {s₀ s : Shared} {σ : Loc} (R : SR c s₀ σ s) (T : Tp c.mg c.mb c.hb s₀.heap) {m : Str → Option Value} {ad : Nat → Addr} (F : FR c.nm c.env.locals σ s.heap m ad (muOf c.env.locals σ ad)) (hmu : ∀ b, muOf c.env.locals σ ad b → s₀.heap.get? b = .none) :
    ∃ s₁, Tp c.mg c.mb c.hb s₁.heap ∧ SR c s₁ σ s ∧ (∀ b o, s.heap.get? b = some o → ¬ muOf c.env.locals σ ad b → s₁.heap.get? b = some o) ∧ (∀ σ' s', SR c s₁ σ' s' → SR c s₀ σ' s') ∧ s₁.gens = s.gens := by
  have key : ∀ b o, s₀.heap.get? b = some o → (hideP s.heap (muOf c.env.locals σ ad)).get? b = some o := fun b o hb => by
    rw [hideP_not fun q => by rw [hmu b q] at hb; cases hb]
    exact R.base.grow b o hb
  refine ⟨{ s with heap := hideP s.heap (muOf c.env.locals σ ad) }, ⟨T.g.keeps key, T.b.keeps key, T.nolimit.keeps key, fun b o hb => key b o (T.keep b o hb)⟩, ⟨⟨fun b o hb => (hideP_of hb).2, rfl, GK.refl _⟩, m, ad, F, fun b hb => hideP_mu hb⟩, fun b o hb hn => (hideP_not hn).trans hb, fun σ' s' R' => ?_, rfl⟩
  refine ⟨⟨fun b o hb => R'.base.grow b o (key b o hb), R'.base.os.trans R.base.os, R.base.gens.trans R'.base.gens⟩, ?_⟩
  obtain ⟨m', ad', F', hmu'⟩ := R'.fr
  refine ⟨m', ad', F', fun b hb => ?_⟩
  cases q : s₀.heap.get? b with
  | none => rfl
  | some o => have := hmu' b hb; rw [key b o q] at this; cases this
theorem SR.reframe {s₀ s : Shared} {σ : Loc} (R : SR c s₀ σ s) (T : Tp c.mg c.mb c.hb s₀.heap) {m : Str → Option Value} {ad : Nat → Addr} (F : FR c.nm c.env.locals σ s.heap m ad (muOf c.env.locals σ ad)) (hmu : ∀ b, muOf c.env.locals σ ad b → s₀.heap.get? b = .none) :
    ∃ s₁, Tp c.mg c.mb c.hb s₁.heap ∧ SR c s₁ σ s ∧ (∀ b o, s.heap.get? b = some o → ¬ muOf c.env.locals σ ad b → s₁.heap.get? b = some o) ∧ ∀ σ' s', SR c s₁ σ' s' → SR c s₀ σ' s' := by
  obtain ⟨s₁, h1, h2, h3, h4, _⟩ := R.reframeG T F hmu
  exact ⟨s₁, h1, h2, h3, h4⟩
/-- an object of another kind does not bear the frame -/
structure Odd (o : Obj) : Prop where
  list : o.cls ≠ .type "list"
  tup : o.cls ≠ .type "tuple"
  data : ∀ es ep, o.data ≠ .dict es ep
mutual
theorem VRep.avoid {G : Addr → Obj → Prop} {it : Addr} (h : ∀ o, G it o → Odd o) : ∀ {v : Value} {x : MV}, VRep G v x → VRep (fun b o => G b o ∧ b ≠ it) v x
  | _, _, .none => .none
  | _, _, .bool b => .bool b
  | _, _, .int i t => .int i t
  | _, _, .str l t => .str l t
  | _, _, .list g r => .list ⟨g, fun e => (h _ (e ▸ g)).list rfl⟩ (VReps.avoid h r)
  | _, _, .tup g r => .tup ⟨g, fun e => (h _ (e ▸ g)).tup rfl⟩ (VReps.avoid h r)
theorem VReps.avoid {G : Addr → Obj → Prop} {it : Addr} (h : ∀ o, G it o → Odd o) : ∀ {vs : List Value} {xs : List MV}, VReps G vs xs → VReps (fun b o => G b o ∧ b ≠ it) vs xs
  | _, _, .nil => .nil
  | _, _, .cons a r => .cons (VRep.avoid h a) (VReps.avoid h r)
end
theorem FR.oddNot {L : Addr} {σ : Loc} {h : Heap} {m : Str → Option Value} {ad : Nat → Addr} (F : FR c.nm L σ h m ad (muOf L σ ad)) {it : Addr} {o : Obj} (ho : h.get? it = some o) (hd : Odd o) : ¬ muOf L σ ad it := by
  rintro (e | ⟨x, l, hx, e⟩)
  · subst e
    obtain ⟨oL, es, ep, h1, h2, _⟩ := F.ns
    rw [h1] at ho; cases ho
    exact hd.data es ep h2
  · obtain ⟨_, _, _, items, n, h4, _⟩ := F.own x l hx
    rw [← e, ho] at h4; cases h4
    exact hd.list rfl
/-- an object of another kind is changed -/
theorem SR.odd {s₀ s : Shared} {σ : Loc} (R : SR c s₀ σ s) {it : Addr} {o : Obj} {h' : Heap} {tk : Nat} (ho : s.heap.get? it = some o) (hd : Odd o) (h0 : s₀.heap.get? it = .none) (hk : ∀ b o, b ≠ it → s.heap.get? b = some o → h'.get? b = some o) :
    SR c s₀ σ { s with heap := h', toks := tk } := by
  obtain ⟨m, ad, F, hmu⟩ := R.fr
  have hn := F.oddNot ho hd
  have fz : ∀ b o, Fz s.heap (muOf c.env.locals σ ad) b o ∧ b ≠ it → Fz h' (muOf c.env.locals σ ad) b o := fun b o hb => ⟨hk b o hb.2 hb.1.1, hb.1.2⟩
  have odd : ∀ o', Fz s.heap (muOf c.env.locals σ ad) it o' → Odd o' := fun o' hb => by
    have := hb.1; rw [ho] at this; cases this; exact hd
  refine ⟨⟨fun b o' hb => hk b o' (fun e => by rw [e, h0] at hb; cases hb) (R.base.grow b o' hb), R.base.os, R.base.gens⟩, m, ad, ⟨?_, F.muL, fun b hb => ?_, fun x v hx => ?_, fun x l hx => ?_, F.inj⟩, hmu⟩
  · obtain ⟨oL, es, ep, h1, r⟩ := F.ns
    exact ⟨oL, es, ep, hk _ _ (fun e => hn (.inl e.symm)) h1, r⟩
  · obtain ⟨o', ho'⟩ := F.muIn b hb
    exact ⟨o', hk b o' (fun e => hn (e ▸ hb)) ho'⟩
  · obtain ⟨val, h1, h2⟩ := F.val x v hx
    exact ⟨val, h1, (h2.avoid odd).mono fz⟩
  · obtain ⟨h1, h2, h3, items, n, h4, h5⟩ := F.own x l hx
    exact ⟨h1, h2, h3, items, n, hk _ _ (fun e => hn (e ▸ h2)) h4, (h5.avoid odd).mono fz⟩

def forF (x : Nat) (F : SF) : List MV → SF
  | [], σ => some (σ, .next)
  | v :: r, σ => match F (setL σ x (.val v)) with
    | .none => .none
    | some (σ', .next) => forF x F r σ'
    | some (σ', .ret u) => some (σ', .ret u)
def rangeL (a : Int) : Nat → List MV
  | 0 => []
  | n + 1 => .int a :: rangeL (a + 1) n
def rangeA : List MV → Option (Int × Nat)
  | [.int b] => match smallI b with
    | true => some (0, b.toNat)
    | false => .none
  | [.int a, .int b] => match smallI a, smallI b with
    | true, true => some (a, (b - a).toNat)
    | _, _ => .none
  | _ => .none
def forR (x : Nat) (g : Loc → Option (List MV)) (F : SF) : SF := fun σ => match g σ with
  | .none => .none
  | some l => match rangeA l with
    | .none => .none
    | some (a, n) => forF x F (rangeL a n) σ
theorem odd_rangeIter (x l st : Int) : Odd { cls := .type "range_iterator", dict := none, data := .fields #[rawInt x, rawInt l, rawInt st], slots := #[] } := ⟨by simp, by simp, fun _ _ => by simp⟩
theorem small_range {a b : Int} (ha : a.natAbs ≤ 1000000) (hb : b.natAbs ≤ 1000000) : Builtin.Range.small a b 1 = true ∧ Builtin.Range.rangeSize a b 1 = ((b - a).toNat : Int) := by
  have e : Builtin.Range.rangeSize a b 1 = ((b - a).toNat : Int) := by
    unfold Builtin.Range.rangeSize
    rw [if_pos (by decide)]
    split <;> omega
  refine ⟨?_, e⟩
  exact PySem.small_one (by omega) (by omega) (by omega) (by omega)
/-- the loop itself, its iterator at hand -/
theorem forLoop_range (O : c.Ok) {x : Nat} {n : Str} {np : Pos} {body : List Stmt} {F : SF} (hn : n = c.nm x) (hk : c.env.kindOf n = some .local) (hb : c.SS body F)
    {s₀ : Shared} (T : Tp c.mg c.mb c.hb s₀.heap) {it : Addr} {σ' : Loc} {fl : Fl} (h0 : s₀.heap.get? it = .none) (E : Value → Shared → Prop) :
    ∀ (k : Nat) (a : Int) (σ : Loc) (s : Shared), forF x F (rangeL a k) σ = some (σ', fl) → SR c s₀ σ s → IsRangeIter s.heap it a k 1 →
      codeAny c.M c.A (.forLoop (.Name n np) (.ref it) body [] c.env) (fun r s' => match r with | .ok f => FlR fl f ∧ SR c s₀ σ' s' | .error e => E e s') s := by
  intro k a σ s hF R hI
  refine codeAny_forLoop (I := fun k s => ∃ a σ, forF x F (rangeL a k) σ = some (σ', fl) ∧ SR c s₀ σ s ∧ IsRangeIter s.heap it a k 1) (fun k s hI => ?_) k ⟨a, σ, hF, R, hI⟩
  obtain ⟨a, σ, hF, R, hI⟩ := hI
  cases k with
  | zero =>
    cases hF
    refine wpAny_pyNext_range_end O.a.handled hI (by simp) fun h' he => ?_
    exact wpAny_execs_nil ⟨rfl, R.odd hI (odd_rangeIter _ _ _) h0 fun b o hb ho => he b o hb ho⟩
  | succ k =>
    refine wpAny_pyNext_range_item hI (by omega) fun h' hi' hs => ?_
    have R₁ : SR c s₀ σ { s with heap := h', toks := s.toks + 1 } := R.odd hI (odd_rangeIter _ _ _) h0 fun b o hb ho => (hs.2 b hb).trans ho
    obtain ⟨m, ad, Fr, hmu⟩ := R₁.fr
    refine wpAny_assign_Name (wpStore O hn hk R₁ Fr hmu (.int a _) fun s₂ m₂ R₂ F₂ k₂ => ?_)
    have hi₂ : IsRangeIter s₂.heap it (a + 1) k 1 := by
      refine k₂ it _ (fun e => ?_) ?_
      · exact Fr.oddNot hi' (odd_rangeIter _ _ _) (.inl e)
      · have e : (((k + 1 : Nat) : Int) - 1) = (k : Int) := by omega
        rw [e] at hi'; exact hi'
    obtain ⟨s₁', T₁, R₁', kp, back⟩ := R₂.reframe T F₂ fun b hb => hmu b (muOf_store hb)
    have hF : (match F (setL σ x (.val (.int a))) with | .none => .none | some (σ', .next) => forF x F (rangeL (a + 1) k) σ' | some (σ', .ret u) => some (σ', .ret u)) = some (σ', fl) := hF
    cases hf : F (setL σ x (.val (.int a))) with
    | none => rw [hf] at hF; cases hF
    | some p =>
      obtain ⟨σ₁, fl₁⟩ := p
      rw [hf] at hF
      refine wpAny_mono (hb s₁' T₁ _ σ₁ fl₁ hf s₂ R₁') (fun f s₃ h₃ => ?_) fun _ _ e => e.elim
      have hi₃ : IsRangeIter s₃.heap it (a + 1) k 1 := h₃.2.base.grow _ _ (kp it _ hi₂ (F₂.oddNot hi₂ (odd_rangeIter _ _ _)))
      cases fl₁ with
      | next =>
        rw [show f = Flow.next from h₃.1]
        exact ⟨k, Nat.lt_succ_self k, a + 1, σ₁, hF, back _ _ h₃.2, hi₃⟩
      | ret u =>
        cases hF
        obtain ⟨val, rfl, hv⟩ := h₃.1
        exact ⟨⟨val, rfl, hv⟩, back _ _ h₃.2⟩
theorem fresh_none {s₀ s : Shared} (x : Step s₀ s) : s₀.heap.get? s.heap.objs.size = .none := by
  cases q : s₀.heap.get? s.heap.objs.size with
  | none => rfl
  | some o => exact absurd (Heap.lt_size (x.grow _ _ q)) (Nat.lt_irrefl _)
theorem S_forRange (O : c.Ok) {x : Nat} {n rn : Str} {np rp cp pos : Pos} {e : Expr} {es : List Expr} {g : Loc → Option (List MV)} {body : List Stmt} {F : SF} (hn : n = c.nm x) (hk : c.env.kindOf n = some .local)
    (hk' : c.env.kindOf rn = some .globalImplicit) (hm : c.mg rn = .none) (hr : c.mb rn = some (.type "range")) (hd : (rn == ("__debug__" : Str)) = false) (hs : c.Es (e :: es) g) (he : starEach (e :: es) c.env = (false, eval e c.env) :: starEach es c.env) (hp : ∀ pos, (backTo pos (starEach es c.env)).any (·.1) = false)
    (hb : c.SS body F) (hfs : ∀ v, foldedSetIterable (.Call (.Name rn rp) (e :: es) [] cp) c.env v = pure v) :
    c.S (.For (.Name n np) (.Call (.Name rn rp) (e :: es) [] cp) body [] pos) (forR x g F) := by
  intro s₀ T σ σ' fl hF s R
  unfold forR at hF
  obtain ⟨m, ad, Fr, hmu⟩ := R.fr
  cases hg : g σ with
  | none => rw [hg] at hF; cases hF
  | some l =>
    rw [hg] at hF
    dsimp only at hF
    cases hra : rangeA l with
    | none => rw [hra] at hF; cases hF
    | some p =>
      obtain ⟨a, k⟩ := p
      rw [hra] at hF
      dsimp only at hF
      refine wpAny_For ?_ hfs
      refine wpAny_Call_NameR (name_built O hk' hm hr hd (T.step R.base) ?_)
      refine PyProof.Rows.callWith_type1 (wpAny_mono (hs cp σ l hg s m ad _ Fr (T.step R.base)) (fun vs s₁ h₁ => ?_) fun _ _ e => e) he (hp cp)
      have fin : ∀ (a b : Int) (t u v : Tok) (s₂ : Shared), Step s₁ s₂ → a.natAbs ≤ 1000000 → b.natAbs ≤ 1000000 → IsRange s₂.heap s₁.heap.objs.size a b 1 t u v → forF x F (rangeL a (b - a).toNat) σ = some (σ', fl) →
          wpAny c.M c.A (pyIter (.ref s₁.heap.objs.size)) (fun it s₂ => codeAny c.M c.A (.forLoop (.Name n np) it body [] c.env) (fun r s' => match r with | .ok f => FlR fl f ∧ SR c s₀ σ' s' | .error e => cameBackBy c.M c.A c.env (fun _ _ => False) e s') s₂) (fun _ _ => False) s₂ := by
        intro a b t u v s₂ x₂ ha hb' hR hF
        obtain ⟨h1, h2⟩ := small_range ha hb'
        refine wpAny_pyIter_range hR h1 ?_
        rw [h2]
        have R₂ := R.step (h₁.1.trans x₂)
        refine forLoop_range O hn hk hb T (fresh_none R₂.base) _ (b - a).toNat a σ _ hF (R₂.step (Step.push s₂ _ s₂.toks)) ?_
        exact Heap.get?_push_size _ rfl
      have rr := h₁.2
      cases rr with
      | nil => cases hra
      | cons r rs =>
        cases rs with
        | nil =>
          cases r with
          | int b t =>
            have hra : (match smallI b with | true => some ((0 : Int), b.toNat) | false => .none) = some (a, k) := hra
            cases hsb : smallI b with
            | false => rw [hsb] at hra; cases hra
            | true =>
              rw [hsb] at hra
              cases hra
              refine call_range_1 ?_
              refine fin 0 b _ _ _ _ (Step.push s₁ _ _) (by omega) (smallI_iff hsb) (Heap.get?_push_size _ rfl) ?_
              rw [Int.sub_zero]; exact hF
          | _ => cases hra
        | cons r' rs =>
          cases rs with
          | cons => cases r <;> cases r' <;> cases hra
          | nil =>
            cases r with
            | int a' t =>
              cases r' with
              | int b u =>
                have hra : (match smallI a', smallI b with | true, true => some (a', (b - a').toNat) | _, _ => .none) = some (a, k) := hra
                cases hsa : smallI a' with
                | false => rw [hsa] at hra; cases hra
                | true =>
                  cases hsb : smallI b with
                  | false => rw [hsa, hsb] at hra; cases hra
                  | true =>
                    rw [hsa, hsb] at hra
                    cases hra
                    exact call_range_2 (fin a b _ _ _ _ (Step.push s₁ _ _) (smallI_iff hsa) (smallI_iff hsb) (Heap.get?_push_size _ rfl) hF)
              | _ => cases hra
            | _ => cases hra
end
end Mine
end

noncomputable section
namespace Mine
open PySem PyProof.Rows PySem.Builtin.Str

abbrev lobj (items : List Value) (n : Nat) : Obj := ⟨.type "list", .none, .seq ⟨items⟩ n, #[]⟩

/-- an expression that makes a fresh list of plain items -/
def Cx.Fresh (c : Cx) (e : Expr) (f : Loc → Option (List MV)) : Prop :=
  ∀ σ l, f σ = some l → ∀ s m ad mu, FR c.nm c.env.locals σ s.heap m ad mu → Tp c.mg c.mb c.hb s.heap →
    wpAny c.M c.A (eval e c.env) (fun val s' => Step s s' ∧ ∃ a items n, val = .ref a ∧ s.heap.get? a = .none ∧ s'.heap.get? a = some (lobj items n) ∧ VReps (fun _ _ => False) items l) (fun _ _ => False) s
section
variable {c : Cx}
theorem Fresh_nil {pos : Pos} : c.Fresh (.List [] pos) (fun _ => some []) := by
  intro σ l hl s m ad mu R T
  cases hl
  refine wpAny_List (spliced_none ⟨Nat.zero_le _, Step.push s _ _, _, [], 0, rfl, ?_, Heap.get?_push_size _ rfl, .nil⟩)
  exact fresh_none (Step.refl s)
def rangeS (a st : Int) : Nat → List MV
  | 0 => []
  | n + 1 => .int a :: rangeS (a + st) st n
def lrV : List MV → Option (List MV)
  | [.int a, .int b, .int st] => match smallI a, smallI b, smallI st, decide (0 < st) with
    | true, true, true, true => some (rangeS a st (Builtin.Range.rangeSize a b st).toNat)
    | _, _, _, _ => .none
  | _ => .none
theorem rangeS_reps (a st : Int) (items : List Value) (k : Nat) (hl : items.length = k) (h : ∀ (j : Nat) v, items[j]? = some v → ∃ t, v = Value.int (a + (j : Int) * st) t) : VReps (fun _ _ => False) items (rangeS a st k) := by
  induction k generalizing a items with
  | zero => cases items with
    | nil => exact .nil
    | cons => cases hl
  | succ k ih => cases items with
    | nil => cases hl
    | cons v items =>
      obtain ⟨t, ht⟩ := h 0 v rfl
      subst ht
      have e : a + ((0 : Nat) : Int) * st = a := by simp
      rw [e]
      refine .cons (.int a t) (ih (a + st) items (by simpa using hl) fun j v hj => ?_)
      obtain ⟨t, ht⟩ := h (j + 1) v (by simpa using hj)
      refine ⟨t, ?_⟩
      rw [ht]; congr 1
      rw [show ((j + 1 : Nat) : Int) = (j : Int) + 1 from rfl, Int.add_mul]; omega
theorem rangeSize_le {a b st : Int} (ha : a.natAbs ≤ 1000000) (hb : b.natAbs ≤ 1000000) (hs : 0 < st) : 0 ≤ Builtin.Range.rangeSize a b st ∧ Builtin.Range.rangeSize a b st ≤ 2000001 := by
  unfold Builtin.Range.rangeSize
  rw [if_pos hs]
  split
  · have h1 : 0 ≤ (b - a - 1) / st := Int.ediv_nonneg (by omega) (by omega)
    have h2 : (b - a - 1) / st ≤ (b - a - 1) := Int.ediv_le_self _ (by omega)
    omega
  · omega
theorem small_any {a b st : Int} (ha : a.natAbs ≤ 1000000) (hb : b.natAbs ≤ 1000000) (hc : st.natAbs ≤ 1000000) (hs : 0 < st) : Builtin.Range.small a b st = true := by
  have hz := rangeSize_le ha hb hs
  unfold Builtin.Range.small
  simp only [Builtin.Range.rangeFitsLong, Bool.and_eq_true, Bool.or_eq_true, decide_eq_true_eq, beq_iff_eq, if_pos (show st > 0 from hs)]
  omega
theorem lrV_some {xs l : List MV} (h : lrV xs = some l) : ∃ a b st, xs = [.int a, .int b, .int st] ∧ smallI a = true ∧ smallI b = true ∧ smallI st = true ∧ 0 < st ∧ l = rangeS a st (Builtin.Range.rangeSize a b st).toNat := by
  unfold lrV at h
  split at h
  · rename_i a b st
    split at h
    · rename_i h1 h2 h3 h4
      cases h
      exact ⟨a, b, st, rfl, h1, h2, h3, of_decide_eq_true h4, rfl⟩
    · cases h
  · cases h
theorem VReps.three {G : Addr → Obj → Prop} {vs : List Value} {a b d : Int} (h : VReps G vs [.int a, .int b, .int d]) : ∃ t u q, vs = [.int a t, .int b u, .int d q] := by
  cases h with
  | cons r rs => cases r; cases rs with
    | cons r rs => cases r; cases rs with
      | cons r rs => cases r; cases rs; exact ⟨_, _, _, rfl⟩
theorem Fresh_range (O : c.Ok) {ln rn : Str} {lp rp cp pos : Pos} {e : Expr} {es : List Expr} {g : Loc → Option (List MV)} (hkl : c.env.kindOf ln = some .globalImplicit) (hml : c.mg ln = .none) (hl : c.mb ln = some (.type "list")) (hdl : (ln == ("__debug__" : Str)) = false)
    (hk' : c.env.kindOf rn = some .globalImplicit) (hm : c.mg rn = .none) (hr : c.mb rn = some (.type "range")) (hd : (rn == ("__debug__" : Str)) = false) (hs : c.Es (e :: es) g) (he : starEach (e :: es) c.env = (false, eval e c.env) :: starEach es c.env) (hp : ∀ pos, (backTo pos (starEach es c.env)).any (·.1) = false)
    (he' : starEach [.Call (.Name rn rp) (e :: es) [] cp] c.env = [(false, eval (.Call (.Name rn rp) (e :: es) [] cp) c.env)]) :
    c.Fresh (.Call (.Name ln lp) [.Call (.Name rn rp) (e :: es) [] cp] [] pos) (fun σ => oL lrV (g σ)) := by
  intro σ l hl' s m ad mu R T
  obtain ⟨xs, hxs, hv⟩ := oL_some hl'
  refine wpAny_Call_NameR (name_built O hkl hml hl hdl T ?_)
  refine PyProof.Rows.callWith_type1 (spliced_more ?_ he') he' rfl
  refine wpAny_Call_NameR (name_built O hk' hm hr hd T ?_)
  refine PyProof.Rows.callWith_type1 (wpAny_mono (hs cp σ xs hxs s m ad mu R T) (fun vs s₁ h₁ => ?_) fun _ _ e => e) he (hp cp)
  obtain ⟨a, b, st, rfl, h1, h2, h3, h4, rfl⟩ := lrV_some hv
  obtain ⟨t, u, q, rfl⟩ := VReps.three h₁.2
  have b1 := smallI_iff h1
  have b2 := smallI_iff h2
  have b3 := smallI_iff h3
  have hz := rangeSize_le b1 b2 h4
  refine call_range_3 (by omega) ?_ (Or.inl (PyProof.noPylong_small (by omega)))
  have st₂ : Step s₁ { s₁ with heap := s₁.heap.push { cls := .type "range", data := .fields #[.int a t, .int b u, .int st q] }, toks := s₁.toks } := Step.push s₁ _ _
  refine spliced_none ?_
  have hsm : Builtin.Range.small a b st = true := small_any b1 b2 b3 h4
  refine call_list_range (n := (Builtin.Range.rangeSize a b st).toNat) O.a.handled (Heap.get?_push_size _ rfl) hsm (by omega) (by omega) fun h' tk acc' c' hk hS' hacc => ?_
  have st₃ := st₂.trans (Step.mk (s := { s₁ with heap := s₁.heap.push { cls := .type "range", data := .fields #[.int a t, .int b u, .int st q] }, toks := s₁.toks }) (s' := { s₁ with heap := h', toks := tk }) hk rfl (GK.refl _))
  refine ⟨h₁.1.trans st₃, _, acc'.toList, c', rfl, fresh_none (h₁.1.trans st₂), hS', ?_⟩
  refine rangeS_reps a st _ _ (by rw [Array.length_toList]; exact hacc.1) fun j v hj => hacc.2 j v (by simpa using hj)
end
end Mine
end

noncomputable section
namespace Mine
open PySem PyProof.Rows PySem.Builtin.Str

section
variable {prog : Program} {w : World} {A : Around} {E : Value → Shared → Prop} {s : Shared}
theorem upd_get {h : Heap} {l : Addr} {items : List Value} {n : Nat} (ho : h.get? l = some (lobj items n)) (f : Array Value → Array Value) : ∃ n', (h.update l (Obj.mapSeq f)).get? l = some (lobj (f ⟨items⟩).toList n') :=
  ⟨_, (Heap.get?_update_self (Obj.mapSeq f) ho rfl).trans rfl⟩
theorem append_exact {l : Addr} {items : List Value} {n : Nat} {x : Value} {Q : Value → Shared → Prop} (ho : s.heap.get? l = some (lobj items n)) (hz : items.length ≤ 100000)
    (hQ : ∀ h' n', h'.get? l = some (lobj (items ++ [x]) n') → Heap.SameBut l s.heap h' → Q .none { s with heap := h' }) : wpAny (model prog w) A (call (.builtin "list.append") [.ref l, x]) Q E s := by
  have hT : s.TypeIs (.ref l) "list" := ⟨_, ho, rfl⟩
  refine wpAny_call_entry slot_list_append hT entry_list_append ?_ (args_list_append _ _)
  show wpAny _ _ (updateSeq l (·.push x) >>= fun _ => ret .none) _ _ s
  obtain ⟨n', hn'⟩ := upd_get ho (·.push x)
  refine wpAny_bind (wpAny_updateSeq ho rfl (wpAny_pure ⟨.none, rfl, hQ _ n' ?_ (Heap.SameBut.update ..)⟩) ?_ ?_)
  · simpa using hn'
  · show items.length ≤ sizeLine
    exact Nat.le_trans hz sizeLine_big
  · show ((⟨items⟩ : Array Value).push x).size ≤ sizeLine + 1
    rw [Array.size_push]
    exact Nat.succ_le_succ (Nat.le_trans hz sizeLine_big)
theorem setItem_exact {l : Addr} {items : List Value} {n j : Nat} {k : Int} {t : Tok} {v : Value} {Q : Unit → Shared → Prop} (ho : s.heap.get? l = some (lobj items n)) (hk : k = (j : Int)) (hj : j < items.length) (hfit : j ≤ 1000000)
    (hQ : ∀ h' n', h'.get? l = some (lobj (items.set j v) n') → Heap.SameBut l s.heap h' → Q () { s with heap := h' }) : wpAny (model prog w) A (setItem (.ref l) (.int k t) v) Q E s := by
  have hT : s.TypeIs (.ref l) "list" := ⟨_, ho, rfl⟩
  unfold setItem
  try with_reducible refine wpAny_holding ?_
  first | refine wpAny_bind (wpAny_pure ?_) | skip
  refine wpAny_bind (wpAny_sequenceKey hT (by decide) ?_)
  refine wpAny_bind (wpAny_callSpecial?_slot (name := Str.ofString "__setitem__") hT slot_list_setitem
    (wpAny_call_entry slot_list_setitem hT entry_list_setitem ?_ (args_list_setitem _ _ _)))
  show wpAny _ _ (Builtin.List.listSubscript? (.int k t) >>= _) _ _ s
  refine wpAny_bind (wpAny_listSubscript_int (fitsIndex_of (by omega) (by omega)) ?_)
  subst hk
  have hx' : (⟨items⟩ : Array Value)[j]? = some items[j] := by simp [hj]
  show wpAny _ _ ((seqItemAt l j >>= fun r => pure (r.map (j, ·))) >>= _) _ _ s
  refine wpAny_bind (wpAny_bind (wpAny_seqItemAt ho rfl (wpAny_pure ?_)))
  rw [hx']
  show wpAny _ _ (setSeqItemAt l j v >>= _) _ _ s
  obtain ⟨n', hn'⟩ := upd_get ho (·.setIfInBounds j v)
  have hfin := hQ _ n' (by simpa using hn') (Heap.SameBut.update ..)
  refine wpAny_bind (wpAny_setSeqItemAt ho rfl ?_)
  first
    | exact wpAny_bind (wpAny_pure (wpAny_pure ⟨.none, rfl, wpAny_pure hfin⟩))
    | exact wpAny_pure ⟨.none, rfl, wpAny_pure hfin⟩
end
section
variable {c : Cx}
def newF (x : Nat) (f : Loc → Option (List MV)) : SF := fun σ => match f σ with
  | .none => .none
  | some l => some (setL σ x (.own l), .next)
theorem S_new (O : c.Ok) {x : Nat} {n : Str} {np pos : Pos} {e : Expr} {f : Loc → Option (List MV)} (hn : n = c.nm x) (hk : c.env.kindOf n = some .local) (he : c.Fresh e f) (hs : swapsWith e (some (.Name n np)) pos.line c.env = pure false) :
    c.S (.Assign [.Name n np] e pos) (newF x f) := by
  intro s₀ T σ σ' fl hF s R
  unfold newF at hF
  cases hf : f σ with
  | none => rw [hf] at hF; cases hF
  | some l =>
    rw [hf] at hF
    cases hF
    obtain ⟨m, ad, F, hmu⟩ := R.fr
    refine wpAny_Assign_Name (wpAny_mono (he σ l hf s m ad _ F (T.step R.base)) (fun val s₁ h₁ => ?_) fun _ _ e => e) hs
    obtain ⟨st, a, items, k, rfl, ha, ha', hr⟩ := h₁
    subst hn
    have F₁ := F.step st
    refine wpAny_storeName_local hk F₁.ns (fun h' hns hsb => ?_) (by rw [O.fn]; rfl)
    have aL : a ≠ c.env.locals := fun e => by
      obtain ⟨o, ho⟩ := F.muIn _ F.muL
      rw [← e, ha] at ho; cases ho
    let ad' : Nat → Addr := fun y => if y = x then a else ad y
    have mu' : ∀ b, muOf c.env.locals (setL σ x (.own l)) ad' b → b = a ∨ muOf c.env.locals σ ad b := by
      rintro b (e | ⟨y, ly, hy, e⟩)
      · exact .inr (.inl e)
      · by_cases q : y = x
        · left; rw [e]; show (if y = x then a else ad y) = a; rw [if_pos q]
        · right
          rw [getL_setL, if_neg (Ne.symm q)] at hy
          refine .inr ⟨y, ly, hy, ?_⟩
          rw [e]; show (if y = x then a else ad y) = ad y; rw [if_neg q]
    have fz : ∀ b o, Fz s.heap (muOf c.env.locals σ ad) b o → Fz h' (muOf c.env.locals (setL σ x (.own l)) ad') b o := fun b o hb =>
      ⟨(hsb.2 b fun e => hb.2 (.inl e)).trans (st.grow b o hb.1), fun q => (mu' b q).elim (fun e => by rw [e] at hb; have := hb.1; rw [ha] at this; cases this) hb.2⟩
    refine ⟨rfl, (R.step st).base.sameBut (hmu _ F.muL) hsb, _, ad', ⟨hns, .inl rfl, fun b hb => ?_, fun y u hy => ?_, fun y ly hy => ?_, fun y z ly lz hy hz e => ?_⟩, fun b hb => ?_⟩
    · rcases mu' b hb with e | q
      · subst e; exact ⟨_, (hsb.2 _ aL).trans ha'⟩
      · by_cases qL : b = c.env.locals
        · subst qL; obtain ⟨o, _, _, ho, _⟩ := hns; exact ⟨o, ho⟩
        · obtain ⟨o, ho⟩ := F₁.muIn b q; exact ⟨o, (hsb.2 b qL).trans ho⟩
    · rw [getL_setL] at hy
      by_cases q : x = y
      · rw [if_pos q] at hy; cases hy
      · rw [if_neg q] at hy
        obtain ⟨w, h1, h2⟩ := F.val y u hy
        refine ⟨w, ?_, h2.mono fz⟩
        have : c.nm y ≠ c.nm x := fun e => q (O.inj _ _ e).symm
        simp [this, h1]
    · have hy' := hy
      rw [getL_setL] at hy
      by_cases q : x = y
      · subst q
        rw [if_pos rfl] at hy; cases hy
        have e : ad' x = a := if_pos rfl
        refine ⟨by simp [e], .inr ⟨x, l, hy', rfl⟩, by rw [e]; exact aL, items, k, ?_, hr.mono fun _ _ h => h.elim⟩
        rw [e]; exact (hsb.2 _ aL).trans ha'
      · rw [if_neg q] at hy
        obtain ⟨h1, h2, h3, items', n', h4, h5⟩ := F.own y ly hy
        have e : ad' y = ad y := if_neg (Ne.symm q)
        have : c.nm y ≠ c.nm x := fun e => q (O.inj _ _ e).symm
        refine ⟨by simp [this, h1, e], .inr ⟨y, ly, hy', rfl⟩, by rw [e]; exact h3, items', n', ?_, h5.mono fz⟩
        rw [e]; exact (hsb.2 _ h3).trans (st.grow _ _ h4)
    · rw [getL_setL] at hy hz
      have none_a : ∀ y ly, getL σ y = some (.own ly) → ad y ≠ a := fun y ly hy e => by
        obtain ⟨_, _, _, _, _, h4, _⟩ := F.own y ly hy
        rw [e, ha] at h4; cases h4
      by_cases q : x = y
      · by_cases q' : x = z
        · exact q.symm.trans q'
        · rw [if_neg q'] at hz
          have e1 : ad' y = a := if_pos q.symm
          have e2 : ad' z = ad z := if_neg (Ne.symm q')
          rw [e1, e2] at e
          exact absurd e.symm (none_a z lz hz)
      · rw [if_neg q] at hy
        have e1 : ad' y = ad y := if_neg (Ne.symm q)
        by_cases q' : x = z
        · have e2 : ad' z = a := if_pos q'.symm
          rw [e1, e2] at e
          exact absurd e (none_a y ly hy)
        · rw [if_neg q'] at hz
          have e2 : ad' z = ad z := if_neg (Ne.symm q')
          rw [e1, e2] at e
          exact F.inj y z ly lz hy hz e
    · rcases mu' b hb with e | q
      · subst e
        cases q0 : s₀.heap.get? b with
        | none => rfl
        | some o => rw [R.base.grow b o q0] at ha; cases ha
      · exact hmu b q
/-- an own list is changed -/
theorem SR.mut {s₀ s : Shared} {σ : Loc} (R : SR c s₀ σ s) {m : Str → Option Value} {ad : Nat → Addr} (F : FR c.nm c.env.locals σ s.heap m ad (muOf c.env.locals σ ad)) (hmu : ∀ b, muOf c.env.locals σ ad b → s₀.heap.get? b = .none)
    {x : Nat} {l l' : List MV} (hx : getL σ x = some (.own l)) {h' : Heap} {items' : List Value} {n' tk : Nat} (hs : Heap.SameBut (ad x) s.heap h') (hg : h'.get? (ad x) = some (lobj items' n')) (hr : VReps (Fz s.heap (muOf c.env.locals σ ad)) items' l') :
    SR c s₀ (setL σ x (.own l')) { s with heap := h', toks := tk } := by
  obtain ⟨x1, x2, x3, _, _, _, _⟩ := F.own x l hx
  have mu' : ∀ b, muOf c.env.locals (setL σ x (.own l')) ad b → muOf c.env.locals σ ad b := by
    rintro b (e | ⟨y, ly, hy, e⟩)
    · exact .inl e
    · rw [getL_setL] at hy
      by_cases q : x = y
      · subst q; exact .inr ⟨x, l, hx, e⟩
      · rw [if_neg q] at hy; exact .inr ⟨y, ly, hy, e⟩
  have fz : ∀ b o, Fz s.heap (muOf c.env.locals σ ad) b o → Fz h' (muOf c.env.locals (setL σ x (.own l')) ad) b o := fun b o hb =>
    ⟨(hs.2 b fun e => hb.2 (e ▸ x2)).trans hb.1, fun q => hb.2 (mu' b q)⟩
  refine ⟨⟨fun b o hb => (hs.2 b fun e => by rw [e, hmu _ x2] at hb; cases hb).trans (R.base.grow b o hb), R.base.os, R.base.gens⟩, m, ad, ⟨?_, .inl rfl, fun b hb => ?_, fun y u hy => ?_, fun y ly hy => ?_, fun y z ly lz hy hz e => ?_⟩, fun b hb => hmu b (mu' b hb)⟩
  · obtain ⟨oL, es, ep, h1, r⟩ := F.ns
    exact ⟨oL, es, ep, (hs.2 _ (Ne.symm x3)).trans h1, r⟩
  · by_cases q : b = ad x
    · subst q; exact ⟨_, hg⟩
    · obtain ⟨o, ho⟩ := F.muIn b (mu' b hb); exact ⟨o, (hs.2 b q).trans ho⟩
  · rw [getL_setL] at hy
    by_cases q : x = y
    · rw [if_pos q] at hy; cases hy
    · rw [if_neg q] at hy
      obtain ⟨w, h1, h2⟩ := F.val y u hy
      exact ⟨w, h1, h2.mono fz⟩
  · have hy' := hy
    rw [getL_setL] at hy
    by_cases q : x = y
    · subst q
      rw [if_pos rfl] at hy; cases hy
      exact ⟨x1, .inr ⟨x, _, hy', rfl⟩, x3, items', n', hg, hr.mono fz⟩
    · rw [if_neg q] at hy
      obtain ⟨h1, h2, h3, items, n, h4, h5⟩ := F.own y ly hy
      exact ⟨h1, .inr ⟨y, _, hy', rfl⟩, h3, items, n, (hs.2 _ fun e => q (F.inj y x ly l hy hx e).symm).trans h4, h5.mono fz⟩
  · rw [getL_setL] at hy hz
    by_cases q : x = y
    · by_cases q' : x = z
      · exact q.symm.trans q'
      · rw [if_neg q'] at hz; subst q
        exact F.inj x z l lz hx hz e
    · rw [if_neg q] at hy
      by_cases q' : x = z
      · subst q'; exact F.inj y x ly l hy hx e
      · rw [if_neg q'] at hz; exact F.inj y z ly lz hy hz e
def appF (x : Nat) (f : Loc → Option MV) : SF := fun σ => match f σ with
  | .none => .none
  | some v => match getL σ x with
    | some (.own l) => match Nat.ble l.length 100000 with
      | true => some (setL σ x (.own (l ++ [v])), .next)
      | false => .none
    | _ => .none
theorem S_append (O : c.Ok) {x : Nat} {n : Str} {np apos cpos pos : Pos} {e : Expr} {f : Loc → Option MV} (hn : n = c.nm x) (hk : c.env.kindOf n = some .local) (hd : (n == ("__debug__" : Str)) = false) (he : c.E e f)
    (hbase : attributeBase (.Name n np) "append" c.env (eval (.Name n np) c.env) = eval (.Name n np) c.env)
    (hfew : ((backTo cpos (starEach [e] c.env)).all (fun x => !x.1) && (backToKw cpos (keywordEach [] c.env)).all (fun x => x.1.isSome)
      && decide (([e] : List Expr).length + ([] : List Keyword).length + (if ([] : List Keyword).isEmpty then 0 else 1) < 30)) = true)
    (hline : (apos.endLine == cpos.line) = true) (htrees : backTo cpos (starEach [e] c.env) = [(false, eval e c.env)])
    (hi : interactive c.env = false) (hs : swapsWith (.Call (.Attribute (.Name n np) "append" apos) [e] [] cpos) none pos.line c.env = pure false) :
    c.S (.Expr (.Call (.Attribute (.Name n np) "append" apos) [e] [] cpos) pos) (appF x f) := by
  intro s₀ T σ σ' fl hF s R
  unfold appF at hF
  cases hf : f σ with
  | none => rw [hf] at hF; cases hF
  | some v =>
    rw [hf] at hF
    dsimp only at hF
    cases hx : getL σ x with
    | none => rw [hx] at hF; cases hF
    | some sl => cases sl with
      | val => rw [hx] at hF; cases hF
      | own l =>
        rw [hx] at hF
        dsimp only at hF
        cases hb : Nat.ble l.length 100000 with
        | false => rw [hb] at hF; cases hF
        | true =>
          rw [hb] at hF
          cases hF
          obtain ⟨m, ad, F, hmu⟩ := R.fr
          obtain ⟨x1, x2, x3, items, k, x4, x5⟩ := F.own x l hx
          refine wpAny_Expr (wpAny_Call_append hbase hfew hline htrees ?_) hi hs
          refine wpAny_Name (wpAny_loadName_local O.fn hk F.ns (hn ▸ x1) ⟨ad x, ⟨items⟩, rfl, ⟨_, k, x4, rfl, rfl, rfl⟩, ?_⟩) hd
          refine wpAny_mono (he σ v hf s m ad _ F (T.step R.base)) (fun val s₁ h₁ => ?_) fun _ _ e => e
          refine append_exact (h₁.1.grow _ _ x4) (by rw [x5.length]; exact Nat.le_of_ble_eq_true hb) fun h' n' hg hsb => ?_
          exact ⟨rfl, (R.step h₁.1).mut (F.step h₁.1) hmu hx hsb hg ((x5.step h₁.1).append (.cons h₁.2 .nil))⟩
def setF (x : Nat) (i f : Loc → Option MV) : SF := fun σ => match f σ, i σ, getL σ x with
  | some v, some (.int (.ofNat j)), some (.own l) => match Nat.blt j l.length, Nat.ble j 1000000 with
    | true, true => some (setL σ x (.own (l.set j v)), .next)
    | _, _ => .none
  | _, _, _ => .none
theorem S_setitem (O : c.Ok) {x : Nat} {n : Str} {np sp pos : Pos} {i e : Expr} {g f : Loc → Option MV} (hn : n = c.nm x) (hk : c.env.kindOf n = some .local) (hd : (n == ("__debug__" : Str)) = false) (hi : c.E i g) (he : c.E e f)
    (hs : swapsWith e (some (.Subscript (.Name n np) i sp)) pos.line c.env = pure false) : c.S (.Assign [.Subscript (.Name n np) i sp] e pos) (setF x g f) := by
  intro s₀ T σ σ' fl hF s R
  unfold setF at hF
  split at hF
  · rename_i v j l hf hg hx
    split at hF
    · rename_i hb hb2
      cases hF
      obtain ⟨m, ad, F, hmu⟩ := R.fr
      obtain ⟨x1, x2, x3, items, k, x4, x5⟩ := F.own x l hx
      refine wpAny_Assign_Subscript (wpAny_mono (he σ v hf s m ad _ F (T.step R.base)) (fun val s₁ h₁ => ?_) fun _ _ e => e) hs
      refine wpAny_Name (wpAny_loadName_local O.fn hk (F.step h₁.1).ns (hn ▸ x1) ?_) hd
      refine wpAny_mono (hi σ _ hg s₁ m ad _ (F.step h₁.1) ((T.step R.base).step h₁.1)) (fun iv s₂ h₂ => ?_) fun _ _ e => e
      have r2 := h₂.2
      cases r2 with
      | int _ t =>
        have hj : j < items.length := by rw [x5.length]; exact Nat.le_of_ble_eq_true hb
        refine setItem_exact ((h₁.1.trans h₂.1).grow _ _ x4) rfl hj (Nat.le_of_ble_eq_true hb2) fun h' n' hg' hsb => ?_
        exact ⟨rfl, (R.step (h₁.1.trans h₂.1)).mut (F.step (h₁.1.trans h₂.1)) hmu hx hsb hg' ((x5.step (h₁.1.trans h₂.1)).set (h₁.2.step h₂.1) j)⟩
    · cases hF
  · cases hF
/-- from here on the list is not changed any more -/
def frzF (x : Nat) (G : SF) : SF := fun σ => match getL σ x with
  | some (.own l) => G (setL σ x (.val (.list l)))
  | _ => .none
theorem SS_freeze {x : Nat} {sts : List Stmt} {G : SF} (h : c.SS sts G) : c.SS sts (frzF x G) := by
  intro s₀ T σ σ' fl hF s R
  unfold frzF at hF
  split at hF
  · rename_i l hx
    refine h s₀ T _ σ' fl hF s ⟨R.base, ?_⟩
    obtain ⟨m, ad, F, hmu⟩ := R.fr
    obtain ⟨x1, x2, x3, items, k, x4, x5⟩ := F.own x l hx
    have fz : ∀ b o, Fz s.heap (muOf c.env.locals σ ad) b o → Fz s.heap (muOf c.env.locals (setL σ x (.val (.list l))) ad) b o := fun b o hb => ⟨hb.1, fun q => hb.2 (muOf_store q)⟩
    refine ⟨m, ad, ⟨F.ns, .inl rfl, fun b hb => F.muIn b (muOf_store hb), fun y u hy => ?_, fun y ly hy => ?_, fun y z ly lz hy hz e => ?_⟩, fun b hb => hmu b (muOf_store hb)⟩
    · rw [getL_setL] at hy
      by_cases q : x = y
      · subst q; rw [if_pos rfl] at hy; cases hy
        refine ⟨_, x1, .list (n := k) ⟨x4, ?_⟩ (x5.mono fz)⟩
        rintro (e | ⟨y, ly, hy, e⟩)
        · exact x3 e
        · rw [getL_setL] at hy
          by_cases q : x = y
          · rw [if_pos q] at hy; cases hy
          · rw [if_neg q] at hy
            exact q (F.inj x y l ly hx hy e)
      · rw [if_neg q] at hy
        obtain ⟨w, h1, h2⟩ := F.val y u hy
        exact ⟨w, h1, h2.mono fz⟩
    · have hy' := hy
      rw [getL_setL] at hy
      by_cases q : x = y
      · rw [if_pos q] at hy; cases hy
      · rw [if_neg q] at hy
        obtain ⟨h1, h2, h3, items', n', h4, h5⟩ := F.own y ly hy
        exact ⟨h1, .inr ⟨y, ly, hy', rfl⟩, h3, items', n', h4, h5.mono fz⟩
    · rw [getL_setL] at hy hz
      by_cases q : x = y
      · rw [if_pos q] at hy; cases hy
      · by_cases q' : x = z
        · rw [if_pos q'] at hz; cases hz
        · rw [if_neg q] at hy; rw [if_neg q'] at hz; exact F.inj y z ly lz hy hz e
  · cases hF
end
end Mine
end

noncomputable section
namespace Mine
open PySem PyProof.Rows PySem.Builtin.Str

section
variable {c : Cx}
def swapF (x y : Nat) (f : Loc → Option MV) : SF := fun σ => match f σ with
  | some (.tup [v, u]) => some (setL (setL σ y (.val u)) x (.val v), .next)
  | _ => .none
theorem S_swap (O : c.Ok) {x y : Nat} {n k : Str} {elts : List Expr} {tk : Nat} {tp pos : Pos} {e : Expr} {f : Loc → Option MV} (hn : n = c.nm x) (hk : c.env.kindOf n = some .local) (hn' : k = c.nm y) (hk' : c.env.kindOf k = some .local) (he : c.E e f)
    (hs : swapsWithSole [.Tuple elts tk tp] e pos.line c.env = pure false) (hw : swappedStores [.Tuple elts tk tp] e c.env = pure (some [n, k])) :
    c.S (.Assign [.Tuple elts tk tp] e pos) (swapF x y f) := by
  intro s₀ T σ σ' fl hF s R
  unfold swapF at hF
  split at hF
  · rename_i v u hf
    cases hF
    obtain ⟨m, ad, F, hmu⟩ := R.fr
    refine Assign_Tuple_swapped (wpAny_mono (he σ _ hf s m ad _ F (T.step R.base)) (fun val s₁ h₁ => ?_) fun _ _ e => e) hs hw
    have rv := h₁.2
    cases rv with
    | tup g r =>
      rename_i a items q
      cases r with
      | cons r1 r =>
        cases r with
        | cons r2 r =>
          cases r
          rename_i w1 w2
          have ht : IsTup s₁.heap a ⟨[w1, w2]⟩ := ⟨_, g.1, rfl, q, rfl⟩
          show wpAny _ _ (unpackItems (.ref a) (⟨[w1, w2]⟩ : Array Value).size none) _ _ _
          refine unpackItems_tuple O.a.handled ht fun h' hx => ?_
          have st : Step s₁ { s₁ with heap := h' } := ⟨fun b o hb => hx b o (Nat.ne_of_lt (Heap.lt_size hb)) hb, rfl, GK.refl _⟩
          have R₂ := R.step (h₁.1.trans st)
          have F₂ := F.step (h₁.1.trans st)
          show wpAny c.M c.A (assignInOrder [fun v => bindName c.env k v, fun v => bindName c.env n v] [w2, w1]) _ _ _
          refine assignInOrder_cons (wpAny_bindName (wpStore O hn' hk' R₂ F₂ hmu (r2.step st) fun s₃ m₃ R₃ F₃ k₃ => ?_))
          refine assignInOrder_cons (wpAny_bindName (wpStore O hn hk R₃ F₃ (fun b hb => hmu b (muOf_store hb)) ((r1.step st).mono (fz_store k₃)) fun s₄ m₄ R₄ F₄ k₄ => ?_))
          exact assignInOrder_nil ⟨rfl, R₄⟩
  · cases hF
end

/-- a def of the top, by what it hands back -/
structure Fn (prog : Program) (w : World) (mg mb : Str → Option Value) (hb : Heap) (n : Str) (d : Nat) (φ : List MV → Option MV) : Prop where
  ok : ∃ a o fd, mg n = some (.ref a) ∧ hb.get? a = some o ∧ o.data = .func fd ∧
    ∀ A, AOk A d → ∀ vs v, φ vs = some v → ∀ s vals, Tp mg mb hb s.heap → VReps (fun b o => s.heap.get? b = some o) vals vs →
      codeAny (model prog w) A (.call (.ref a) ⟨vals, []⟩) (fun r s' => ∃ val, r = .ok (.ret val) ∧ Step s s' ∧ VRep (fun _ _ => False) val v) s
abbrev Cx.Fn (c : Cx) (n : Str) (φ : List MV → Option MV) : Prop := Mine.Fn c.prog c.w c.mg c.mb c.hb n c.d φ
theorem Fn.mono {prog : Program} {w : World} {mg mb : Str → Option Value} {hb : Heap} {n : Str} {d d' : Nat} {φ : List MV → Option MV} (h : Fn prog w mg mb hb n d φ) (hd : d ≤ d') : Fn prog w mg mb hb n d' φ := by
  obtain ⟨a, o, fd, h1, h2, h3, h4⟩ := h.ok
  exact ⟨a, o, fd, h1, h2, h3, fun A hA => h4 A (hA.mono hd)⟩
theorem Fn.of {prog : Program} {w : World} {mg mb : Str → Option Value} {hb : Heap} {n : Str} {d : Nat} {φ ψ : List MV → Option MV} (h : Fn prog w mg mb hb n d φ) (hd : ∀ vs v, ψ vs = some v → φ vs = some v) : Fn prog w mg mb hb n d ψ := by
  obtain ⟨a, o, fd, h1, h2, h3, h4⟩ := h.ok
  exact ⟨a, o, fd, h1, h2, h3, fun A hA vs v hv => h4 A hA vs v (hd vs v hv)⟩
section
variable {c : Cx}
theorem E_call (O : c.Ok) {n : Str} {np pos : Pos} {e : Expr} {es : List Expr} {g : Loc → Option (List MV)} {φ : List MV → Option MV} (hf : c.Fn n φ) (hk : c.env.kindOf n = some .globalImplicit) (hd : (n == ("__debug__" : Str)) = false)
    (hs : c.Es (e :: es) g) (he : starEach (e :: es) c.env = (false, eval e c.env) :: starEach es c.env) :
    c.E (.Call (.Name n np) (e :: es) [] pos) (fun σ => oL (fun l => frcA l φ) (g σ)) := by
  intro σ v hv s m ad mu R T
  obtain ⟨l, hl, hv⟩ := oL_some hv
  rw [frcA_eq] at hv
  obtain ⟨a, o, fd, h1, h2, h3, h4⟩ := hf.ok
  refine wpAny_Call_NameR (name_glob O hk h1 hd T ?_)
  refine callWith_def h3 (wpAny_mono (hs pos σ l hl s m ad mu R T) (fun vs s₁ h₁ => ⟨(T.step h₁.1).keep _ _ h2, ?_⟩) fun _ _ e => e) he
  refine wpAny_call (codeAny_mono (h4 c.A O.a l v hv s₁ vs (T.step h₁.1) (h₁.2.mono fun b o hb => hb.1)) fun r s₂ hr => ?_)
  obtain ⟨val, rfl, st, rv⟩ := hr
  exact ⟨h₁.1.trans st, rv.mono fun _ _ h => h.elim⟩
end

/-- the context of a def's body -/
abbrev fcx (prog : Program) (w : World) (A : Around) (name : Str) (scope : Scope) (L a : Addr) (cd : Value) (nm : Nat → Str) (mg mb : Str → Option Value) (hb : Heap) (d : Nat) : Cx :=
  { prog, w, A := A.deeper (envOf name scope L a cd), env := envOf name scope L a cd, nm, mg, mb, hb, d }
def retV : Option (Loc × Fl) → Option MV
  | some (_, .ret v) => some v
  | _ => .none
theorem init_sr {c : Cx} {s : Shared} {h₁ : Heap} {m : Str → Option Value} {σ : Loc} {tk : Nat} (F : PyProof.Rows.Fr s.heap s.heap.objs.size h₁ m) (hL : c.env.locals = s.heap.objs.size)
    (hv : ∀ x v, getL σ x = some (.val v) → ∃ val, m (c.nm x) = some val ∧ VRep (fun b o => s.heap.get? b = some o) val v) (ho : ∀ x l, getL σ x ≠ some (.own l)) : SR c s σ { s with heap := h₁, toks := tk } := by
  have mu : ∀ b, muOf c.env.locals σ (fun _ => 0) b → b = s.heap.objs.size := by
    rintro b (e | ⟨x, l, hx, _⟩)
    · exact e.trans hL
    · exact absurd hx (ho x l)
  refine ⟨⟨F.keep, rfl, GK.refl _⟩, m, fun _ => 0, ⟨by rw [hL]; exact F.ns, .inl rfl, fun b hb => ?_, fun x v hx => ?_, fun x l hx => absurd hx (ho x l), fun x _ lx _ hx => absurd hx (ho x lx)⟩, fun b hb => ?_⟩
  · rw [mu b hb]; obtain ⟨o, _, _, h, _⟩ := F.ns; exact ⟨o, h⟩
  · obtain ⟨val, h1, h2⟩ := hv x v hx
    refine ⟨val, h1, h2.mono fun b o hb => ⟨F.keep b o hb, fun q => ?_⟩⟩
    rw [mu b q] at hb
    exact absurd (Heap.lt_size hb) (Nat.lt_irrefl _)
  · rw [mu b hb]; exact fresh_none (Step.refl s)

section
variable {prog : Program} {w : World} {mg mb : Str → Option Value} {hb : Heap} {name : Str} {params : Arguments} {body : List Stmt} {scope : Scope} {nm : Nat → Str} {d : Nat} {F : SF}
/-- what a def hands back, by its body -/
theorem fn_body {a : Addr} {o : Obj} {pm cd doc : Value} (hm : mg name = some (.ref a)) (ho : hb.get? a = some o) (hdat : o.data = .func (Calls.docDef name params body scope pm cd doc)) (hcd : hb.CodeRec cd name)
    (σ₀ : List MV → Option Loc) (binds : List Value → List (Str × Value))
    (hbind : ∀ vs vals σ G, σ₀ vs = some σ → VReps G vals vs → bindArgs (Calls.docDef name params body scope pm cd doc) ⟨vals, []⟩ = pure (binds vals) ∧ (∀ x ∈ binds vals, scope.names.lookup x.1 = some .local) ∧
      (∀ x l, getL σ x ≠ some (.own l)) ∧ ∀ x v, getL σ x = some (.val v) → ∃ val, (binds vals).reverse.lookup (nm x) = some val ∧ VRep G val v)
    (hbody : ∀ A L, AOk A (d + 1) → (fcx prog w A name scope L a cd nm mg mb hb d).SS body F)
    (hco : scope.isCoroutine = false) (hgen : scope.isGenerator = false) (hk : scope.kind = .function) (hcell : ∀ x ∈ scope.names, x.2 ≠ .cell) :
    Fn prog w mg mb hb name (d + 1) (fun vs => retV ((σ₀ vs).bind F)) := by
  refine ⟨a, o, _, hm, ho, hdat, fun A hA vs v hv s vals T rv => ?_⟩
  cases hσ : σ₀ vs with
  | none => rw [hσ] at hv; cases hv
  | some σ =>
    rw [hσ] at hv
    obtain ⟨hb1, hb2, hb3, hb4⟩ := hbind vs vals σ _ hσ rv
    refine call_plain_ret (by have := hA.depth; omega) (T.keep _ _ ho) hdat T.nolimit (hcd.keeps T.keep) hb1 hb2 (fun h₁ Fr => ?_) hco hgen hk hcell
    have R : SR (fcx prog w A name scope s.heap.objs.size a cd nm mg mb hb d) s σ { s with heap := h₁, toks := s.toks + (binds vals).length } := init_sr Fr rfl hb4 hb3
    have hv : retV (F σ) = some v := hv
    cases hF : F σ with
    | none => rw [hF] at hv; cases hv
    | some p =>
      obtain ⟨σ', fl⟩ := p
      rw [hF] at hv
      cases fl with
      | next => cases hv
      | ret u =>
        cases hv
        refine wpAny_mono (hbody A s.heap.objs.size hA s T σ σ' _ hF _ R) (fun f s' h' => ?_) fun _ _ e => e
        obtain ⟨val, rfl, rv'⟩ := h'.1
        exact ⟨val, rfl, h'.2.base, rv'⟩
end
end Mine
end

noncomputable section
namespace Mine
open PySem PyProof.Rows PySem.Builtin.Str

/-- the def at a place of the text -/
def defAt (i : Nat) : Option (Str × Arguments × List Stmt × Scope) := match PySem.Challenge.pw_re0045_01.main.body[i]? with
  | some (.FunctionDef n a b _ _ _ sc _ _ _) => some (n, a, b, sc)
  | _ => .none
def dName (i : Nat) : Str := match defAt i with | some p => p.1 | .none => Str.empty
def dArgs (i : Nat) : Arguments := match defAt i with | some p => p.2.1 | .none => ⟨[], [], .none, [], [], .none, []⟩
def dBody (i : Nat) : List Stmt := match defAt i with | some p => p.2.2.1 | .none => []
def dScope (i : Nat) : Scope := match defAt i with | some p => p.2.2.2 | .none => PySem.Challenge.pw_re0045_01.main.scope

def nmL : List Str := [Str.ofString "ch_a", Str.ofString "ch_b", Str.ofString "a", Str.ofString "b", Str.ofString "max_cost", Str.ofString "pre", Str.ofString "post", Str.ofString "row", Str.ofString "result", Str.ofString "bindex", Str.ofString "bchar", Str.ofString "distance", Str.ofString "minimum", Str.ofString "index", Str.ofString "substitute", Str.ofString "insert_delete", Str.ofString "addr", Str.ofString "start", Str.ofString "open_pos", Str.ofString "pos", Str.ofString "ch", Str.ofString "script", Str.ofString "end", Str.ofString "sent_beads", Str.ofString "fair", Str.ofString "told", Str.ofString "due", Str.ofString "first", Str.ofString "second", Str.ofString "third", Str.ofString "pieces", Str.ofString "share", Str.ofString "texts", Str.ofString "left", Str.ofString "sent", Str.ofString "greats", Str.ofString "grown", Str.ofString "other", Str.ofString "numbers", Str.ofString "kinds", Str.ofString "i", Str.ofString "place", Str.ofString "data", Str.ofString "escape"]
def nm (i : Nat) : Str := match nth nmL i with
  | some s => s
  | .none => ⟨#[i + 2000000]⟩
theorem nm_inj : ∀ x y, nm x = nm y → x = y := by
  have key : ∀ x, 44 ≤ x → nm x = ⟨#[x + 2000000]⟩ := fun x hx => by
    unfold nm
    have hl : nmL.length = 44 := rfl
    rw [nth_eq, List.getElem?_eq_none (by rw [hl]; exact hx)]
  have small : ((List.range 44).all fun x => ((List.range 44).all fun y => decide (nm x = nm y → x = y)) && (nm x).cps.all fun ch => decide (ch < 2000000)) = true := by decide +kernel
  have sm : ∀ x, x < 44 → (∀ y, y < 44 → nm x = nm y → x = y) ∧ ∀ ch ∈ (nm x).cps, ch < 2000000 := fun x hx => by
    have h := List.all_eq_true.mp small x (List.mem_range.mpr hx)
    rw [Bool.and_eq_true] at h
    refine ⟨fun y hy => of_decide_eq_true (List.all_eq_true.mp h.1 y (List.mem_range.mpr hy)), fun ch hc => ?_⟩
    have h2 := h.2
    rw [Array.all_eq_true_iff_forall_mem] at h2
    exact of_decide_eq_true (h2 ch hc)
  intro x y e
  by_cases hx : x < 44
  · by_cases hy : y < 44
    · exact (sm x hx).1 y hy e
    · rw [key y (by omega)] at e
      have := (sm x hx).2 (y + 2000000) (by rw [e]; simp)
      omega
  · by_cases hy : y < 44
    · rw [key x (by omega)] at e
      have := (sm y hy).2 (x + 2000000) (by rw [← e]; simp)
      omega
    · rw [key x (by omega), key y (by omega)] at e
      have : #[x + 2000000] = #[y + 2000000] := by injection e
      simpa using this

/-- the plain facts of the top that the bodies use -/
structure Tf (mg mb : Str → Option Value) : Prop where
  len : mg "len" = .none ∧ mb "len" = some (.builtin "len")
  min : mg "min" = .none ∧ mb "min" = some (.builtin "min")
  list : mg "list" = .none ∧ mb "list" = some (.type "list")
  range : mg "range" = .none ∧ mb "range" = some (.type "range")
  sum : mg "sum" = .none ∧ mb "sum" = some (.builtin "sum")
  zip : mg "zip" = .none ∧ mb "zip" = some (.type "zip")
  enumerate : mg "enumerate" = .none ∧ mb "enumerate" = some (.type "enumerate")
  move : ∃ t, mg "_MOVE_COST" = some (.int 2 t)
  case : ∃ t, mg "_CASE_COST" = some (.int 1 t)
  most : ∃ t, mg "_MAX_STRING_SIZE" = some (.int 40 t)

theorem fcx_ok {prog : Program} {w : World} {A : Around} {name : Str} {scope : Scope} {L a : Addr} {cd : Value} {mg mb : Str → Option Value} {hb : Heap} {d : Nat} (hA : AOk A (d + 1)) (hk : scope.kind = .function) :
    (fcx prog w A name scope L a cd nm mg mb hb d).Ok := ⟨hA.deeper _, hk, rfl, rfl, nm_inj⟩

end Mine
end

noncomputable section
namespace Mine
open PySem PyProof.Rows PySem.Builtin.Str

theorem lower_str : ∀ y v, lowerV [y] = some v → ∃ l, y = .str l := by
  intro y v h
  cases y <;> first | exact ⟨_, rfl⟩ | cases h
theorem join_str : ∀ y ys v, joinV (y :: ys) = some v → ∃ l, y = .str l := by
  intro y ys v h
  cases y <;> first | exact ⟨_, rfl⟩ | cases h
theorem count_list : ∀ y ys v, countV (y :: ys) = some v → ∃ l, y = .list l := by
  intro y ys v h
  cases y <;> first | exact ⟨_, rfl⟩ | cases h

set_option maxRecDepth 100000 in
def costP : { F : SF // ∀ (prog : Program) (w : World) (A : Around) (L a : Addr) (cd : Value) (mg mb : Str → Option Value) (hb : Heap) (d : Nat), AOk A (d + 1) → Tf mg mb → (fcx prog w A (dName 13) (dScope 13) L a cd nm mg mb hb d).SS (dBody 13) F } := ⟨_, by
  intro prog w A L a cd mg mb hb d hA H
  have O : (fcx prog w A (dName 13) (dScope 13) L a cd nm mg mb hb d).Ok := fcx_ok hA rfl
  obtain ⟨t1, h1⟩ := H.case
  obtain ⟨t2, h2⟩ := H.move
  exact SS_cons (S_if (T_cmp op_eq (E_var O (x := 0) rfl rfl rfl) (E_var O (x := 1) rfl rfl rfl) rfl) (SS_cons (S_ret E_int) SS_nil) SS_nil)
   (SS_cons (S_if (T_cmp op_eq (E_meth0 rfl rfl PySem.F.slot_str_lower PySem.F.type_str_lower (E_var O (x := 0) rfl rfl rfl) op_lower lower_str) (E_meth0 rfl rfl PySem.F.slot_str_lower PySem.F.type_str_lower (E_var O (x := 1) rfl rfl rfl) op_lower lower_str) rfl) (SS_cons (S_ret (E_glob O rfl h1 rfl)) SS_nil) SS_nil)
   (SS_cons (S_ret (E_glob O rfl h2 rfl)) SS_nil))⟩
def costφ (vs : List MV) : Option MV := match vs with
  | [x, y] => retV (costP.1 [(0, .val x), (1, .val y)])
  | _ => .none
end Mine
end

noncomputable section
namespace Mine
open PySem PyProof.Rows PySem.Builtin.Str
section
variable {prog : Program} {w : World} {A : Around}
theorem op_iadd : Op2 (model prog w) A (inplaceOp .Add) (fun x y => match x, y with | .int a, .int b => some (.int (a + b)) | _, _ => .none) := by
  intro a b x y v hk s mu hmu ra rb
  cases ra with
  | int i t => cases rb with
    | int j u => cases hk; exact PySem.P.iadd_int ⟨Step.toks s _, .int _ _⟩
    | _ => cases hk
  | _ => cases hk
theorem op_isub : Op2 (model prog w) A (inplaceOp .Sub) subV := by
  intro a b x y v hk s mu hmu ra rb
  cases ra with
  | int i t => cases rb with
    | int j u => cases hk; exact PySem.P.isub_int ⟨Step.toks s _, .int _ _⟩
    | _ => cases hk
  | _ => cases hk
end
set_option maxRecDepth 100000 in
set_option maxHeartbeats 2000000 in
def levP : { F : SF // ∀ (prog : Program) (w : World) (A : Around) (L a : Addr) (cd : Value) (mg mb : Str → Option Value) (hb : Heap) (d : Nat), AOk A (d + 1) → Tf mg mb → Fn prog w mg mb hb "_substitution_cost" d costφ → (fcx prog w A (dName 14) (dScope 14) L a cd nm mg mb hb d).SS (dBody 14) F } := ⟨_, by
  intro prog w A L a cd mg mb hb d hA H hc
  have O : (fcx prog w A (dName 14) (dScope 14) L a cd nm mg mb hb d).Ok := fcx_ok hA rfl
  obtain ⟨t2, h2⟩ := H.move
  obtain ⟨t3, h3⟩ := H.most
  exact (SS_cons (S_if (T_cmp op_eq (E_var O (x := 2) rfl rfl rfl) (E_var O (x := 3) rfl rfl rfl) rfl) (SS_cons (S_ret E_int)
 SS_nil) SS_nil)
 (SS_cons (S_assign O (x := 5) rfl rfl E_int rfl)
 (SS_cons (S_while 60 (T_and (T_plain op_truth (E_slice (E_var O (x := 2) rfl rfl rfl) (P_some (E_var O (x := 5) rfl rfl rfl)) P_none (fun _ _ => rfl)) rfl) (T_and (T_plain op_truth (E_slice (E_var O (x := 3) rfl rfl rfl) (P_some (E_var O (x := 5) rfl rfl rfl)) P_none (fun _ _ => rfl)) rfl) (T_and (T_cmp op_eq (E_idx (E_var O (x := 2) rfl rfl rfl) (E_var O (x := 5) rfl rfl rfl) (fun _ _ => rfl)) (E_idx (E_var O (x := 3) rfl rfl rfl) (E_var O (x := 5) rfl rfl rfl) (fun _ _ => rfl)) rfl) T_and_nil))) (SS_cons (S_aug O (x := 5) rfl rfl E_int op_iadd)
 SS_nil))
 (SS_cons (S_assign O (x := 2) rfl rfl (E_slice (E_var O (x := 2) rfl rfl rfl) (P_some (E_var O (x := 5) rfl rfl rfl)) P_none (fun _ _ => rfl)) rfl)
 (SS_cons (S_assign O (x := 3) rfl rfl (E_slice (E_var O (x := 3) rfl rfl rfl) (P_some (E_var O (x := 5) rfl rfl rfl)) P_none (fun _ _ => rfl)) rfl)
 (SS_cons (S_assign O (x := 6) rfl rfl E_int rfl)
 (SS_cons (S_while 60 (T_and (T_plain op_truth (E_slice (E_var O (x := 2) rfl rfl rfl) P_none (P_some (E_or (E_var O (x := 6) rfl rfl rfl) E_none)) (fun _ _ => rfl)) rfl) (T_and (T_plain op_truth (E_slice (E_var O (x := 3) rfl rfl rfl) P_none (P_some (E_or (E_var O (x := 6) rfl rfl rfl) E_none)) (fun _ _ => rfl)) rfl) (T_and (T_cmp op_eq (E_idx (E_var O (x := 2) rfl rfl rfl) (E_bin op_sub (E_var O (x := 6) rfl rfl rfl) E_int) (fun _ _ => rfl)) (E_idx (E_var O (x := 3) rfl rfl rfl) (E_bin op_sub (E_var O (x := 6) rfl rfl rfl) E_int) (fun _ _ => rfl)) rfl) T_and_nil))) (SS_cons (S_aug O (x := 6) rfl rfl E_int op_isub)
 SS_nil))
 (SS_cons (S_assign O (x := 2) rfl rfl (E_slice (E_var O (x := 2) rfl rfl rfl) P_none (P_some (E_or (E_var O (x := 6) rfl rfl rfl) E_none)) (fun _ _ => rfl)) rfl)
 (SS_cons (S_assign O (x := 3) rfl rfl (E_slice (E_var O (x := 3) rfl rfl rfl) P_none (P_some (E_or (E_var O (x := 6) rfl rfl rfl) E_none)) (fun _ _ => rfl)) rfl)
 (SS_cons (S_if (T_or (T_not (T_plain op_truth (E_var O (x := 2) rfl rfl rfl) rfl)) (T_or (T_not (T_plain op_truth (E_var O (x := 3) rfl rfl rfl) rfl)) T_or_nil)) (SS_cons (S_ret (E_bin op_mul (E_glob O rfl h2 rfl) (E_bin op_add (E_built O rfl H.len.1 H.len.2 rfl (Es_cons (E_var O (x := 2) rfl rfl rfl) Es_nil rfl) op_len rfl (fun _ => rfl)) (E_built O rfl H.len.1 H.len.2 rfl (Es_cons (E_var O (x := 3) rfl rfl rfl) Es_nil rfl) op_len rfl (fun _ => rfl)))))
 SS_nil) SS_nil)
 (SS_cons (S_if (T_or (T_cmp op_gt (E_built O rfl H.len.1 H.len.2 rfl (Es_cons (E_var O (x := 2) rfl rfl rfl) Es_nil rfl) op_len rfl (fun _ => rfl)) (E_glob O rfl h3 rfl) rfl) (T_or (T_cmp op_gt (E_built O rfl H.len.1 H.len.2 rfl (Es_cons (E_var O (x := 3) rfl rfl rfl) Es_nil rfl) op_len rfl (fun _ => rfl)) (E_glob O rfl h3 rfl) rfl) T_or_nil)) (SS_cons (S_ret (E_bin op_add (E_var O (x := 4) rfl rfl rfl) E_int))
 SS_nil) SS_nil)
 (SS_cons (S_if (T_cmp op_lt (E_built O rfl H.len.1 H.len.2 rfl (Es_cons (E_var O (x := 3) rfl rfl rfl) Es_nil rfl) op_len rfl (fun _ => rfl)) (E_built O rfl H.len.1 H.len.2 rfl (Es_cons (E_var O (x := 2) rfl rfl rfl) Es_nil rfl) op_len rfl (fun _ => rfl)) rfl) (SS_cons (S_swap O (x := 2) (y := 3) rfl rfl rfl rfl (E_tup (Es_cons (E_var O (x := 3) rfl rfl rfl) (Es_cons (E_var O (x := 2) rfl rfl rfl) Es_nil rfl) rfl)) rfl rfl)
 SS_nil) SS_nil)
 (SS_cons (S_if (T_cmp op_gt (E_bin op_mul (E_bin op_sub (E_built O rfl H.len.1 H.len.2 rfl (Es_cons (E_var O (x := 3) rfl rfl rfl) Es_nil rfl) op_len rfl (fun _ => rfl)) (E_built O rfl H.len.1 H.len.2 rfl (Es_cons (E_var O (x := 2) rfl rfl rfl) Es_nil rfl) op_len rfl (fun _ => rfl))) (E_glob O rfl h2 rfl)) (E_var O (x := 4) rfl rfl rfl) rfl) (SS_cons (S_ret (E_bin op_add (E_var O (x := 4) rfl rfl rfl) E_int))
 SS_nil) SS_nil)
 (SS_cons (S_new O (x := 7) rfl rfl (Fresh_range O rfl H.list.1 H.list.2 rfl rfl H.range.1 H.range.2 rfl (Es_cons (E_glob O rfl h2 rfl) (Es_cons (E_bin op_mul (E_glob O rfl h2 rfl) (E_bin op_add (E_built O rfl H.len.1 H.len.2 rfl (Es_cons (E_var O (x := 2) rfl rfl rfl) Es_nil rfl) op_len rfl (fun _ => rfl)) E_int)) (Es_cons (E_glob O rfl h2 rfl) Es_nil rfl) rfl) rfl) rfl (fun _ => rfl) rfl) rfl)
 (SS_cons (S_assign O (x := 8) rfl rfl E_int rfl)
 (SS_cons (S_forRange O (x := 9) rfl rfl rfl H.range.1 H.range.2 rfl (Es_cons (E_built O rfl H.len.1 H.len.2 rfl (Es_cons (E_var O (x := 3) rfl rfl rfl) Es_nil rfl) op_len rfl (fun _ => rfl)) Es_nil rfl) rfl (fun _ => rfl) (SS_cons (S_assign O (x := 10) rfl rfl (E_idx (E_var O (x := 3) rfl rfl rfl) (E_var O (x := 9) rfl rfl rfl) (fun _ _ => rfl)) rfl)
 (SS_cons (S_chain2 O (x := 11) (y := 8) rfl rfl rfl rfl (E_bin op_mul (E_var O (x := 9) rfl rfl rfl) (E_glob O rfl h2 rfl)) rfl rfl)
 (SS_cons (S_assign O (x := 12) rfl rfl E_int rfl)
 (SS_cons (S_forRange O (x := 13) rfl rfl rfl H.range.1 H.range.2 rfl (Es_cons (E_built O rfl H.len.1 H.len.2 rfl (Es_cons (E_var O (x := 2) rfl rfl rfl) Es_nil rfl) op_len rfl (fun _ => rfl)) Es_nil rfl) rfl (fun _ => rfl) (SS_cons (S_assign O (x := 14) rfl rfl (E_bin op_add (E_var O (x := 11) rfl rfl rfl) (E_call O hc rfl rfl (Es_cons (E_var O (x := 10) rfl rfl rfl) (Es_cons (E_idx (E_var O (x := 2) rfl rfl rfl) (E_var O (x := 13) rfl rfl rfl) (fun _ _ => rfl)) Es_nil rfl) rfl) rfl)) rfl)
 (SS_cons (S_assign O (x := 11) rfl rfl (E_ownIdx O (x := 7) rfl rfl rfl (E_var O (x := 13) rfl rfl rfl) (fun _ _ => rfl)) rfl)
 (SS_cons (S_assign O (x := 15) rfl rfl (E_bin op_add (E_built O rfl H.min.1 H.min.2 rfl (Es_cons (E_var O (x := 8) rfl rfl rfl) (Es_cons (E_var O (x := 11) rfl rfl rfl) Es_nil rfl) rfl) (op_min O.a.handled) rfl (fun _ => rfl)) (E_glob O rfl h2 rfl)) rfl)
 (SS_cons (S_assign O (x := 8) rfl rfl (E_built O rfl H.min.1 H.min.2 rfl (Es_cons (E_var O (x := 15) rfl rfl rfl) (Es_cons (E_var O (x := 14) rfl rfl rfl) Es_nil rfl) rfl) (op_min O.a.handled) rfl (fun _ => rfl)) rfl)
 (SS_cons (S_setitem O (x := 7) rfl rfl rfl (E_var O (x := 13) rfl rfl rfl) (E_var O (x := 8) rfl rfl rfl) rfl)
 (SS_cons (S_if (T_cmp op_lt (E_var O (x := 8) rfl rfl rfl) (E_var O (x := 12) rfl rfl rfl) rfl) (SS_cons (S_assign O (x := 12) rfl rfl (E_var O (x := 8) rfl rfl rfl) rfl)
 SS_nil) SS_nil)
 SS_nil)))))) (fun _ => rfl))
 (SS_cons (S_if (T_cmp op_gt (E_var O (x := 12) rfl rfl rfl) (E_var O (x := 4) rfl rfl rfl) rfl) (SS_cons (S_ret (E_bin op_add (E_var O (x := 4) rfl rfl rfl) E_int))
 SS_nil) SS_nil)
 SS_nil))))) (fun _ => rfl))
 (SS_cons (S_ret (E_var O (x := 8) rfl rfl rfl))
 SS_nil)))))))))))))))))⟩
def levφ (vs : List MV) : Option MV := match vs with
  | [x, y, z] => retV (levP.1 [(2, .val x), (3, .val y), (4, .val z)])
  | _ => .none
end Mine
end

noncomputable section
namespace Mine
open PySem PyProof.Rows PySem.Builtin.Str

/-- a def of the text stands in the heap -/
def DefIn (mg : Str → Option Value) (hb : Heap) (i : Nat) : Prop :=
  ∃ a o pm cd doc, mg (dName i) = some (.ref a) ∧ hb.get? a = some o ∧ o.data = .func (Calls.docDef (dName i) (dArgs i) (dBody i) (dScope i) pm cd doc) ∧ hb.CodeRec cd (dName i)
theorem getL_cons (p : Nat × Sl) (r : Loc) (x : Nat) : getL (p :: r) x = if p.1 = x then some p.2 else getL r x := by
  rw [getL_c, beq_dec]; by_cases h : p.1 = x <;> simp [h]
section
variable {prog : Program} {w : World} {mg mb : Str → Option Value} {hb : Heap} {d : Nat}
def loc2 (x y : Nat) : List MV → Option Loc
  | [a, b] => some [(x, .val a), (y, .val b)]
  | _ => .none
def loc3 (x y z : Nat) : List MV → Option Loc
  | [a, b, e] => some [(x, .val a), (y, .val b), (z, .val e)]
  | _ => .none
def loc1 (x : Nat) : List MV → Option Loc
  | [a] => some [(x, .val a)]
  | _ => .none
set_option maxRecDepth 100000 in
theorem cost_fn (D : DefIn mg hb 13) (H : Tf mg mb) : Fn prog w mg mb hb "_substitution_cost" (d + 1) costφ := by
  obtain ⟨a, o, pm, cd, doc, h1, h2, h3, h4⟩ := D
  have key := fn_body (prog := prog) (w := w) (mb := mb) (nm := nm) (d := d) (F := costP.1) h1 h2 h3 h4 (loc2 0 1) (fun vals => match vals with | [u, v] => [("ch_a", u), ("ch_b", v)] | _ => []) ?_ (fun A L hA => costP.2 prog w A L a cd mg mb hb d hA H) rfl rfl rfl (by decide +kernel)
  · exact key.of fun vs v hv => by
      unfold costφ at hv
      split at hv
      · exact hv
      · cases hv
  · intro vs vals σ G hσ rv
    unfold loc2 at hσ
    split at hσ
    · cases hσ
      cases rv with
      | cons r1 rv => cases rv with
        | cons r2 rv =>
          cases rv
          refine ⟨rfl, locs (by kernel_rfl), fun x l hx => ?_, fun x v hx => ?_⟩
          · rw [getL_cons, getL_cons] at hx
            split at hx
            · cases hx
            · split at hx
              · cases hx
              · cases hx
          · rw [getL_cons, getL_cons] at hx
            split at hx
            · rename_i e; cases hx; subst e; exact ⟨_, by kernel_rfl, r1⟩
            · split at hx
              · rename_i e; cases hx; subst e; exact ⟨_, by kernel_rfl, r2⟩
              · cases hx
    · cases hσ
set_option maxRecDepth 100000 in
theorem lev_fn (D : DefIn mg hb 14) (H : Tf mg mb) (hc : Fn prog w mg mb hb "_substitution_cost" d costφ) : Fn prog w mg mb hb "_levenshtein_distance" (d + 1) levφ := by
  obtain ⟨a, o, pm, cd, doc, h1, h2, h3, h4⟩ := D
  have key := fn_body (prog := prog) (w := w) (mb := mb) (nm := nm) (d := d) (F := levP.1) h1 h2 h3 h4 (loc3 2 3 4) (fun vals => match vals with | [u, v, q] => [("a", u), ("b", v), ("max_cost", q)] | _ => []) ?_ (fun A L hA => levP.2 prog w A L a cd mg mb hb d hA H hc) rfl rfl rfl (by decide +kernel)
  · exact key.of fun vs v hv => by
      unfold levφ at hv
      split at hv
      · exact hv
      · cases hv
  · intro vs vals σ G hσ rv
    unfold loc3 at hσ
    split at hσ
    · cases hσ
      cases rv with
      | cons r1 rv => cases rv with
        | cons r2 rv => cases rv with
          | cons r3 rv =>
            cases rv
            refine ⟨rfl, locs (by kernel_rfl), fun x l hx => ?_, fun x v hx => ?_⟩
            · rw [getL_cons, getL_cons, getL_cons] at hx
              split at hx
              · cases hx
              · split at hx
                · cases hx
                · split at hx
                  · cases hx
                  · cases hx
            · rw [getL_cons, getL_cons, getL_cons] at hx
              split at hx
              · rename_i e; cases hx; subst e; exact ⟨_, by kernel_rfl, r1⟩
              · split at hx
                · rename_i e; cases hx; subst e; exact ⟨_, by kernel_rfl, r2⟩
                · split at hx
                  · rename_i e; cases hx; subst e; exact ⟨_, by kernel_rfl, r3⟩
                  · cases hx
    · cases hσ
end
end Mine
end

noncomputable section
namespace Mine
open PySem PyProof.Rows PySem.Builtin.Str

section
variable {M : Model} {A : Around} {R : GenEnd} {Y : Protocol} {n : Nat} {s₀ : Shared} {c : Code} {fs : List Frame} {s : Shared} {env : Env}
  {K : Flow → Sem Fin} {H : Value → Sem Fin} {gd : Bool → Bool} {lv : List Value → List Value}
/-- a statement without a yield -/
theorem seg_stmt {st : Stmt} {rest : List Stmt} (h : wpAny M (A.over c fs) (exec st env) (fun f s' => f = .next ∧ Seg M A R Y n s₀ c ((execs rest env).wrap K H gd lv) fs s') (fun _ _ => False) s) :
    Seg M A R Y n s₀ c ((execs (st :: rest) env).wrap K H gd lv) fs s := by
  refine seg_execs_cons (seg_wrap (wpAny_mono h (fun f s' h' => ?_) fun _ _ e => e.elim))
  rw [h'.1]; exact h'.2
theorem seg_If {test : Expr} {body orelse : List Stmt} {pos : Pos} (h : wpAny M (A.over c fs) (isTrue test env (eval test env)) (fun b s' => Seg M A R Y n s₀ c ((if b = true then execs body env else execs orelse env).wrap K H gd lv) fs s') (fun _ _ => False) s) :
    Seg M A R Y n s₀ c ((exec (.If test body orelse pos) env).wrap K H gd lv) fs s := by
  rw [exec_If]
  show Seg M A R Y n s₀ c (.at pos fun _ => ((isTrue test env (eval test env) >>= fun b => if b = true then execs body env else execs orelse env)).wrap K H gd lv) fs s
  refine seg_at ?_
  rw [Sem.bind_eq_wrap', Sem.wrap_wrap]
  exact seg_wrap (wpAny_mono h (fun b s' h' => h') fun _ _ e => e.elim)
end
section
variable {prog : Program} {w : World} {A : Around} {R : GenEnd} {Y : Protocol} {n : Nat} {s₀ : Shared} {fs : List Frame} {s : Shared} {env : Env}
abbrev loopK (target : Expr) (it : Value) (body : List Stmt) (env : Env) : Flow → Sem Fin := fun f => match f with
  | .next | .cont => .pure (.again (.forLoop target it body [] env))
  | .brk => .pure (.done .next)
  | .ret v => .pure (.done (.ret v))
abbrev loopH (env : Env) : Value → Sem Fin := fun e => (do noteFrame e env; theTreesLotGoes e : Sem Unit).wrap (fun _ => .raise e) .raise id id
theorem seg_forLoop {target : Expr} {it : Value} {body : List Stmt}
    (h : wpAny (model prog w) (A.over (.forLoop target it body [] env) fs) (pyNext it) (fun r s₁ => match r with
      | none => Seg (model prog w) A R Y n s₀ (.forLoop target it body [] env) (.pure (.again (.block [] env))) fs s₁
      | some v => wpAny (model prog w) (A.over (.forLoop target it body [] env) fs) (letOwnedTupleGo target it v) (fun _ s₂ => wpAny (model prog w) (A.over (.forLoop target it body [] env) fs) (assign target env v)
          (fun _ s₃ => Seg (model prog w) A R Y n s₀ (.forLoop target it body [] env) ((execs body env).wrap (loopK target it body env) (loopH env) id id) fs s₃) (fun _ _ => False) s₂) (fun _ _ => False) s₁) (fun _ _ => False) s) :
    Seg (model prog w) A R Y n s₀ (.forLoop target it body [] env) ((model prog w).den (.forLoop target it body [] env)) fs s := by
  show Seg _ A R Y n s₀ _ ((forTurn target it body [] env).onRaise (fun x => do noteFrame x env; theTreesLotGoes x)) fs s
  unfold forTurn
  rw [Sem.onRaise_eq_wrap]
  show Seg _ A R Y n s₀ _ (.at target.pos fun _ => (((pyNext it).onRaise (fun _ => standAt { target.pos with line := 0 })) >>= _).wrap _ _ _ _) fs s
  refine seg_at ?_
  rw [Sem.bind_eq_wrap', Sem.wrap_wrap]
  refine seg_wrap (wpAny_onRaise (wpAny_mono h (fun r s₁ h₁ => ?_) fun _ _ e => e.elim))
  cases r with
  | none => exact h₁
  | some v =>
    show Seg _ A R Y n s₀ _ ((letOwnedTupleGo target it v >>= fun _ => assign target env v >>= fun _ => execs body env >>= _).wrap _ _ _ _) fs s₁
    rw [Sem.bind_eq_wrap', Sem.wrap_wrap]
    refine seg_wrap (wpAny_mono h₁ (fun _ s₂ h₂ => ?_) fun _ _ e => e.elim)
    show Seg _ A R Y n s₀ _ ((assign target env v >>= fun _ => execs body env >>= _).wrap _ _ _ _) fs s₂
    rw [Sem.bind_eq_wrap', Sem.wrap_wrap]
    refine seg_wrap (wpAny_mono h₂ (fun _ s₃ h₃ => ?_) fun _ _ e => e.elim)
    show Seg _ A R Y n s₀ _ ((execs body env >>= _).wrap _ _ _ _) fs s₃
    rw [Sem.bind_eq_wrap', Sem.wrap_wrap]
    rw [Sem.wrap_congr (execs body env) _ _ (K' := loopK target it body env) (H' := loopH env) (fun f => by cases f <;> rfl)
      (fun e => by first | exact Sem.bind_eq_wrap _ _ | (show (do noteFrame e env; theTreesLotGoes e : Sem Unit).bind (fun _ => .raise e) = _; rw [Sem.bind_eq_wrap]))]
    exact h₃
end
end Mine
end

noncomputable section
namespace Mine
open PySem PyProof.Rows PySem.Builtin.Str

/-- what _iter_escaped_chars yields -/
def escL : Nat → Bool → List Nat → Option (List (MV × MV))
  | _, false, [] => some []
  | _, true, [] => .none
  | k, true, c :: r => match escL (k + 1) false r with
    | some q => some ((.int k, .str [92, c]) :: q)
    | .none => .none
  | k, false, c :: r => match Nat.beq c 92 with
    | true => escL (k + 1) true r
    | false => match escL (k + 1) false r with
      | some q => some ((.int k, .str [c]) :: q)
      | .none => .none

section
variable {M : Model} {A : Around} {R : GenEnd} {Y : Protocol} {n : Nat} {s₀ : Shared} {c : Code} {fs : List Frame} {s : Shared} {env : Env}
  {K : Flow → Sem Fin} {H : Value → Sem Fin} {gd : Bool → Bool} {lv : List Value → List Value}
abbrev ownBack (env : Env) (K : Flow → Sem Fin) (H : Value → Sem Fin) (gd : Bool → Bool) (lv : List Value → List Value) : Result → Sem Fin :=
  fun r => ((match r with | .ok f => (.pure f : Sem Flow) | .error e => .raise e).onRaise fun (x : Value) => do
        if (← field x 1) == Value.none then unsupported "frame.own-activation:exception-without-traceback"
        setFlight x env.frame).wrap K H gd lv
theorem seg_For {target iter : Expr} {body : List Stmt} {pos : Pos} (hs : ∀ x, foldedSetIterable iter env x = pure x)
    (h : wpAny M (A.over c fs) (eval iter env) (fun x s₁ => wpAny M (A.over c fs) (pyIter x) (fun it s₂ => ∀ p, Seg M A R Y n s₀ (.forLoop target it body [] env) (M.den (.forLoop target it body [] env))
      (.ret (ownBack env K H gd lv) none (gd false) (lv []) c p [] :: fs) s₂) (fun _ _ => False) s₁) (fun _ _ => False) s) :
    Seg M A R Y n s₀ c ((exec (.For target iter body [] pos) env).wrap K H gd lv) fs s := by
  rw [exec_For]
  refine seg_at ?_
  show Seg M A R Y n s₀ c ((eval iter env >>= fun x₀ => foldedSetIterable iter env x₀ >>= fun x => standAt iter.pos >>= fun _ => holding [x] (pyIter x) >>= fun it => runOwn (.forLoop target it body [] env) env).wrap K H gd lv) fs s
  simp only [hs, pure_bind]
  rw [Sem.bind_eq_wrap', Sem.wrap_wrap]
  refine seg_wrap (wpAny_mono h (fun x s₁ h₁ => ?_) fun _ _ e => e.elim)
  refine seg_at ?_
  show Seg M A R Y n s₀ c ((holding [x] (pyIter x) >>= fun it => runOwn (.forLoop target it body [] env) env).wrap K H gd lv) fs s₁
  rw [Sem.bind_eq_wrap', Sem.wrap_wrap]
  refine seg_wrap (wpAny_holding (wpAny_mono h₁ (fun it s₂ h₂ => ?_) fun _ _ e => e.elim))
  exact seg_call h₂
end

mutual
theorem VRep.cls {G : Addr → Obj → Prop} : ∀ {v : Value} {x : MV}, VRep G v x → VRep (fun b o => G b o ∧ (o.cls = .type "list" ∨ o.cls = .type "tuple")) v x
  | _, _, .none => .none
  | _, _, .bool b => .bool b
  | _, _, .int i t => .int i t
  | _, _, .str l t => .str l t
  | _, _, .list g r => .list ⟨g, .inl rfl⟩ (VReps.cls r)
  | _, _, .tup g r => .tup ⟨g, .inr rfl⟩ (VReps.cls r)
theorem VReps.cls {G : Addr → Obj → Prop} : ∀ {vs : List Value} {xs : List MV}, VReps G vs xs → VReps (fun b o => G b o ∧ (o.cls = .type "list" ∨ o.cls = .type "tuple")) vs xs
  | _, _, .nil => .nil
  | _, _, .cons a r => .cons (VRep.cls a) (VReps.cls r)
end
/-- objects of another kind are changed -/
theorem FR.oddP {nm : Nat → Str} {L : Addr} {σ : Loc} {h h' : Heap} {m : Str → Option Value} {ad : Nat → Addr} {mu : Addr → Prop} (F : FR nm L σ h m ad mu) (P : Addr → Prop) (hP : ∀ b, P b → ∃ o, h.get? b = some o ∧ Odd o) (hm : ∀ b, P b → ¬ mu b)
    (hk : ∀ b o, ¬ P b → h.get? b = some o → h'.get? b = some o) : FR nm L σ h' m ad mu := by
  have av : ∀ b o, Fz h mu b o → o.cls = .type "list" ∨ o.cls = .type "tuple" → Fz h' mu b o := fun b o hb hc => ⟨hk b o (fun q => by
    obtain ⟨o', ho', hd⟩ := hP b q
    have := hb.1; rw [ho'] at this; cases this
    exact hc.elim hd.list hd.tup) hb.1, hb.2⟩
  refine ⟨?_, F.muL, fun b hb => ?_, fun x v hx => ?_, fun x l hx => ?_, F.inj⟩
  · obtain ⟨oL, es, ep, h1, r⟩ := F.ns
    exact ⟨oL, es, ep, hk _ _ (fun q => hm _ q F.muL) h1, r⟩
  · obtain ⟨o', ho'⟩ := F.muIn b hb
    exact ⟨o', hk b o' (fun q => hm b q hb) ho'⟩
  · obtain ⟨val, h1, h2⟩ := F.val x v hx
    exact ⟨val, h1, h2.cls.mono fun b o hb => av b o hb.1 hb.2⟩
  · obtain ⟨h1, h2, h3, items, n, h4, h5⟩ := F.own x l hx
    exact ⟨h1, h2, h3, items, n, hk _ _ (fun q => hm _ q h2) h4, h5.cls.mono fun b o hb => av b o hb.1 hb.2⟩
end Mine
end

noncomputable section
namespace Mine
open PySem PyProof.Rows PySem.Builtin.Str

abbrev genv (Lg a : Addr) (cd : Value) : Env := envOf (dName 2) (dScope 2) Lg a cd
abbrev gcx (prog : Program) (w : World) (A : Around) (Lg a : Addr) (cd : Value) (mg mb : Str → Option Value) (hb : Heap) (d : Nat) : Cx := { prog, w, A, env := genv Lg a cd, nm, mg, mb, hb, d }
def gTarget : Expr := match nth (dBody 2) 2 with | some (Stmt.For t _ _ _ _) => t | _ => .Constant .none 0 ⟨0, 0, 0, 0⟩
def gIter : Expr := match nth (dBody 2) 2 with | some (Stmt.For _ i _ _ _) => i | _ => .Constant .none 0 ⟨0, 0, 0, 0⟩
def gBody : List Stmt := match nth (dBody 2) 2 with | some (Stmt.For _ _ b _ _) => b | _ => []

structure KX (Lg e it : Addr) (s s' : Shared) : Prop where
  keep : ∀ b o, b ≠ Lg → b ≠ e → b ≠ it → s.heap.get? b = some o → s'.heap.get? b = some o
  os : s'.os = s.os
  gens : GK s.gens s'.gens
theorem KX.refl (Lg e it : Addr) (s : Shared) : KX Lg e it s s := ⟨fun _ _ _ _ _ h => h, rfl, GK.refl _⟩
theorem KX.trans {Lg e it : Addr} {s₁ s₂ s₃ : Shared} (x : KX Lg e it s₁ s₂) (y : KX Lg e it s₂ s₃) : KX Lg e it s₁ s₃ := ⟨fun b o h1 h2 h3 h => y.keep b o h1 h2 h3 (x.keep b o h1 h2 h3 h), y.os.trans x.os, x.gens.trans y.gens⟩

/-- the generator's frame between two statements -/
structure GE (mg mb : Str → Option Value) (hb : Heap) (Lg : Addr) (σ : Loc) (s : Shared) : Prop where
  fr : ∃ m ad, FR nm Lg σ s.heap m ad (muOf Lg σ ad)
  noown : ∀ x lx, getL σ x ≠ some (.own lx)
  tp : Tp mg mb hb s.heap
  top : hb.get? Lg = .none
  flat : ∀ x v, getL σ x = some (.val v) → flatV v = true
structure GS (mg mb : Str → Option Value) (hb : Heap) (Lg e it : Addr) (l : List Nat) (t : Tok) (k : Nat) (esc : Bool) (σ : Loc) (s : Shared) : Prop extends GE mg mb hb Lg σ s where
  esc : getL σ 43 = some (.val (.bool esc))
  en : ∃ old, IsEnum s.heap e it k old
  st : s.heap.IsStrIter it "str_ascii_iterator" ⟨⟨l⟩⟩ t k
  ne : e ≠ it ∧ e ≠ Lg ∧ it ≠ Lg
  top2 : hb.get? e = .none ∧ hb.get? it = .none

section
variable {prog : Program} {w : World} {mg mb : Str → Option Value} {hb : Heap} {a : Addr} {cd : Value} {Lg e it : Addr} {l : List Nat} {t : Tok} {d : Nat}
theorem muOf_only {L : Addr} {σ : Loc} {ad : Nat → Addr} (hn : ∀ x lx, getL σ x ≠ some (.own lx)) {b : Addr} (h : muOf L σ ad b) : b = L := by
  rcases h with h | ⟨x, lx, hx, _⟩
  · exact h
  · exact absurd hx (hn x lx)
theorem Tp.up (T0 : Tp mg mb hb hb) {h : Heap} (k : ∀ b o, hb.get? b = some o → h.get? b = some o) : Tp mg mb hb h := ⟨T0.g.keeps k, T0.b.keeps k, T0.nolimit.keeps k, k⟩
theorem GE.sr (T0 : Tp mg mb hb hb) {A : Around} {σ : Loc} {s : Shared} (G : GE mg mb hb Lg σ s) : ∃ sB, Tp mg mb hb sB.heap ∧ SR (gcx prog w A Lg a cd mg mb hb d) sB σ s ∧ (∀ b o, b ≠ Lg → s.heap.get? b = some o → sB.heap.get? b = some o) ∧ sB.os = s.os ∧ sB.gens = s.gens := by
  obtain ⟨m, ad, F⟩ := G.fr
  have key : ∀ b o, b ≠ Lg → s.heap.get? b = some o → (hideP s.heap (muOf Lg σ ad)).get? b = some o := fun b o hb ho => (hideP_not fun q => hb (muOf_only G.noown q)).trans ho
  refine ⟨{ s with heap := hideP s.heap (muOf Lg σ ad) }, T0.up fun b o ho => key b o (fun e => by rw [e, G.top] at ho; cases ho) (G.tp.keep b o ho), ⟨⟨fun b o ho => (hideP_of ho).2, rfl, GK.refl _⟩, m, ad, F, fun b hb => hideP_mu hb⟩, key, rfl, rfl⟩
/-- a statement of the generator's -/
theorem g_stmt (T0 : Tp mg mb hb hb) {A : Around} {st : Stmt} {F : SF} (h : (gcx prog w A Lg a cd mg mb hb d).S st F) {σ σ' : Loc} {s : Shared} {k : Nat} {esc esc' : Bool} (G : GS mg mb hb Lg e it l t k esc σ s) (hF : F σ = some (σ', .next)) (hn : ∀ x lx, getL σ' x ≠ some (.own lx)) (he : getL σ' 43 = some (.val (.bool esc'))) (hfl : ∀ x v, getL σ' x = some (.val v) → flatV v = true) :
    wpAny (model prog w) A (exec st (genv Lg a cd)) (fun f s' => f = .next ∧ GS mg mb hb Lg e it l t k esc' σ' s' ∧ KX Lg e it s s') (fun _ _ => False) s := by
  obtain ⟨sB, TB, R, kp, ho, hg⟩ := G.toGE.sr (prog := prog) (w := w) (a := a) (cd := cd) (d := d) (A := A) T0
  refine wpAny_mono (h sB TB σ σ' .next hF s R) (fun f s' h' => ⟨h'.1, ?_, ?_⟩) fun _ _ e => e
  · have R' := h'.2
    obtain ⟨m, ad, F', _⟩ := R'.fr
    have k2 : ∀ b o, b ≠ Lg → s.heap.get? b = some o → s'.heap.get? b = some o := fun b o hb ho => R'.base.grow b o (kp b o hb ho)
    obtain ⟨old, en⟩ := G.en
    obtain ⟨oi, hi, r⟩ := G.st
    exact ⟨⟨⟨m, ad, F'⟩, hn, TB.step R'.base, G.top, hfl⟩, he, ⟨old, k2 _ _ G.ne.2.1 en⟩, ⟨oi, k2 _ _ G.ne.2.2 hi, r⟩, G.ne, G.top2⟩
  · exact ⟨fun b o h1 _ _ hb => h'.2.base.grow b o (kp b o h1 hb), h'.2.base.os.trans ho, by rw [← hg]; exact h'.2.base.gens⟩
/-- an expression of the generator's -/
theorem g_expr {A : Around} {α β : Type} {tr : Sem α} {f : Loc → Option β} {rep : (Addr → Obj → Prop) → α → β → Prop} (h : (gcx prog w A Lg a cd mg mb hb d).Ev tr f rep) {σ : Loc} {s : Shared} {k : Nat} {esc : Bool} (G : GS mg mb hb Lg e it l t k esc σ s) {v : β} (hF : f σ = some v) :
    wpAny (model prog w) A tr (fun x s' => GS mg mb hb Lg e it l t k esc σ s' ∧ Step s s' ∧ ∃ mu : Addr → Prop, (∀ b, mu b → b = Lg) ∧ mu Lg ∧ rep (Fz s'.heap mu) x v) (fun _ _ => False) s := by
  obtain ⟨m, ad, F⟩ := G.fr
  refine wpAny_mono (h σ v hF s m ad _ F G.tp) (fun x s' h' => ?_) fun _ _ e => e
  obtain ⟨old, en⟩ := G.en
  obtain ⟨oi, hi, r⟩ := G.st
  exact ⟨⟨⟨⟨m, ad, F.step h'.1⟩, G.noown, G.tp.step h'.1, G.top, G.flat⟩, G.esc, ⟨old, h'.1.grow _ _ en⟩, ⟨oi, h'.1.grow _ _ hi, r⟩, G.ne, G.top2⟩, h'.1, _, fun b hb => muOf_only G.noown hb, .inl rfl, h'.2⟩
theorem Step.kx {s s' : Shared} (x : Step s s') : KX Lg e it s s' := ⟨fun b o _ _ _ h => x.grow b o h, x.os, x.gens⟩

def gR (Lg e it : Addr) : GenEnd := fun n s₀ r s₁ => r = .ok (.ret .none) ∧ (n = 0 ∧ KX Lg e it s₀ s₁)
def gY (mg mb : Str → Option Value) (hb : Heap) (Lg e it : Addr) (Ls : List (MV × MV)) : Protocol := fun n s₀ v s' kap =>
  KX Lg e it s₀ s' ∧ (∃ x y, Ls[Ls.length - 1 - n]? = some (x, y) ∧ n < Ls.length ∧ VRep (fun b o => s'.heap.get? b = some o ∧ s₀.heap.get? b = .none) v (.tup [x, y])) ∧ (∀ b, b = Lg ∨ b = e ∨ b = it → ∃ o, s'.heap.get? b = some o ∧ ∀ xs n, o.data ≠ .seq xs n) ∧
    ∀ s'', (∀ b o, b = Lg ∨ b = e ∨ b = it → s'.heap.get? b = some o → s''.heap.get? b = some o) → Tp mg mb hb s''.heap → kap (.send .none) s''
end
end Mine
end

noncomputable section
namespace Mine
open PySem PyProof.Rows PySem.Builtin.Str

theorem over_func {A : Around} {d : Nat} (h : AOk A (d + 1)) (b : List Stmt) (env : Env) : AOk (A.over (.func b env) []) d :=
  ⟨h.handled, by show A.depth + 0 + 1 + d < _; have := h.depth; omega, by show A.units + 0 + 3 + 20 * d < _; have := h.units; omega⟩
theorem over_loop {A : Around} {d : Nat} (h : AOk A (d + 1)) (b b' : List Stmt) (env : Env) (tg : Expr) (itv : Value) (k : Result → Sem Fin) (g : Bool) (lv kp : List Value) (p : Pos) :
    AOk (A.over (.forLoop tg itv b' [] env) [.ret k none g lv (.func b env) p kp]) d :=
  ⟨h.handled, by show A.depth + 1 + 0 + d < _; have := h.depth; omega, by show A.units + 3 + 0 + 20 * d < _; have := h.units; omega⟩
theorem odd_enum (vs : Array Value) : Odd { cls := .type "enumerate", dict := none, data := .fields vs, slots := #[] } := ⟨by simp, by simp, fun _ _ => by simp⟩
theorem odd_strIter {o : Obj} {vs : Array Value} (h1 : o.cls = .type "str_ascii_iterator") (h2 : o.data = .fields vs) : Odd o := ⟨by rw [h1]; simp, by rw [h1]; simp, fun _ _ => by rw [h2]; simp⟩

section
variable {prog : Program} {w : World} {mg mb : Str → Option Value} {hb : Heap} {a : Addr} {cd : Value} {Lg e it : Addr} {l : List Nat} {t : Tok} {d : Nat}
set_option maxRecDepth 100000 in
theorem g_next (T0 : Tp mg mb hb hb) {A : Around} (hA : AOk A d) {σ : Loc} {s : Shared} {k ch : Nat} {esc : Bool} (G : GS mg mb hb Lg e it l t k esc σ s) (hk : l[k]? = some ch) :
    wpAny (model prog w) A (pyNext (.ref e)) (fun r s₁ => match r with
      | none => False
      | some v => wpAny (model prog w) A (letOwnedTupleGo gTarget (.ref e) v) (fun _ s₂ => wpAny (model prog w) A (assign gTarget (genv Lg a cd) v)
          (fun _ s₃ => GS mg mb hb Lg e it l t (k + 1) esc (setL (setL σ 19 (.val (.int k))) 20 (.val (.str [ch]))) s₃ ∧ KX Lg e it s s₃) (fun _ _ => False) s₂) (fun _ _ => False) s₁) (fun _ _ => False) s := by
  have hlt : k < l.length := by
    by_cases q : k < l.length
    · exact q
    · rw [List.getElem?_eq_none (by omega)] at hk; cases hk
  obtain ⟨old, en⟩ := G.en
  have hh : A.in1.handled = none := hA.handled
  obtain ⟨n1, n2, n3⟩ := G.ne
  refine wpAny_pyNext_enum_itemD (Draws.strAscii hh it ⟨⟨l⟩⟩ t) en G.st hlt n1 (by simpa using n1) fun x h' tk hx hen hst htu hsz hkp => ?_
  obtain ⟨c', u, hc', rfl⟩ := hx
  have ec : c' = ch := by
    have : (⟨l⟩ : Array Nat)[k]? = some c' := hc'
    rw [List.getElem?_toArray] at this
    rw [hk] at this; cases this; rfl
  subst ec
  refine wpAny_letOwnedTupleGo_enum hen fun h₂ en₂ sb₂ => ?_
  have hT : s.heap.objs.size ≠ e := Ne.symm (Nat.ne_of_lt (Heap.lt_size en))
  have htu₂ : IsTup h₂ s.heap.objs.size #[.int k tk, .str ⟨#[c']⟩ u] := ⟨_, (sb₂.2 _ hT).trans htu, rfl, 0, rfl⟩
  refine assign_Tuple_tuple hA.handled htu₂ rfl rfl fun h₃ ext => ?_
  have k₃ : ∀ b o, h₂.get? b = some o → h₃.get? b = some o := fun b o hb => ext b o (Nat.ne_of_lt (Heap.lt_size hb)) hb
  have keep : ∀ b o, b ≠ e → b ≠ it → s.heap.get? b = some o → h₃.get? b = some o := fun b o h1 h2 hb => k₃ b o ((sb₂.2 b h1).trans (hkp b o h1 h2 hb))
  obtain ⟨oi, hi, hci, hdi⟩ := G.st
  obtain ⟨m, ad, F⟩ := G.fr
  have F₃ : FR nm Lg σ h₃ m ad (muOf Lg σ ad) := F.oddP (fun b => b = e ∨ b = it) (fun b hb => by
      rcases hb with rfl | rfl
      · exact ⟨_, en, odd_enum _⟩
      · exact ⟨_, hi, odd_strIter hci hdi⟩) (fun b hb q => by
      have := muOf_only G.noown q
      rcases hb with rfl | rfl
      · exact n2 this
      · exact n3 this) fun b o hb ho => keep b o (fun e => hb (.inl e)) (fun e => hb (.inr e)) ho
  have GE₃ : GE mg mb hb Lg σ ({ s with heap := h₃, toks := tk + 1 } : Shared) := ⟨⟨m, ad, F₃⟩, G.noown, T0.up fun b o ho => keep b o (fun e => by rw [e, G.top2.1] at ho; cases ho) (fun e => by rw [e, G.top2.2] at ho; cases ho) (G.tp.keep b o ho), G.top, G.flat⟩
  obtain ⟨sB, TB, R, kp, ho, hg⟩ := GE₃.sr (prog := prog) (w := w) (a := a) (cd := cd) (d := d) (A := A) T0
  have O : (gcx prog w A Lg a cd mg mb hb d).Ok := ⟨hA, rfl, rfl, rfl, nm_inj⟩
  obtain ⟨m₁, ad₁, F₁, hmu₁⟩ := R.fr
  show wpAny (model prog w) A (assignInOrder [assign (.Name "pos" _) (genv Lg a cd), assign (.Name "ch" _) (genv Lg a cd)] [.int k tk, .str ⟨#[c']⟩ u]) _ _ _
  refine assignInOrder_cons (wpAny_assign_Name (wpStore O (x := 19) rfl rfl R F₁ hmu₁ (.int (k : Int) tk) fun s₄ m₄ R₄ F₄ k₄ => ?_))
  refine assignInOrder_cons (wpAny_assign_Name (wpStore O (x := 20) rfl rfl R₄ F₄ (fun b hb => hmu₁ b (muOf_store hb)) (.str [c'] u) fun s₅ m₅ R₅ F₅ k₅ => ?_))
  refine assignInOrder_nil ?_
  have k₆ : ∀ b o, b ≠ Lg → h₃.get? b = some o → s₅.heap.get? b = some o := fun b o hb ho => R₅.base.grow b o (kp b o hb ho)
  have nw : ∀ y ly, getL (setL (setL σ 19 (.val (.int k))) 20 (.val (.str [c']))) y ≠ some (.own ly) := fun y ly => by
    rw [getL_setL, getL_setL]
    split
    · simp
    · split
      · simp
      · exact G.noown y ly
  have fl : ∀ y v, getL (setL (setL σ 19 (.val (.int k))) 20 (.val (.str [c']))) y = some (.val v) → flatV v = true := fun y v hy => by
    rw [getL_setL, getL_setL] at hy
    split at hy
    · cases hy; rfl
    · split at hy
      · cases hy; rfl
      · exact G.flat y v hy
  refine ⟨⟨⟨⟨_, _, F₅⟩, nw, TB.step R₅.base, G.top, fl⟩, by rw [getL_setL, getL_setL]; simpa using G.esc, ⟨_, k₆ _ _ n2 (k₃ _ _ en₂)⟩, ?_, G.ne, G.top2⟩, ?_⟩
  · obtain ⟨oj, hj, r⟩ := hst
    exact ⟨oj, k₆ _ _ n3 (k₃ _ _ ((sb₂.2 _ (Ne.symm n1)).trans hj)), r⟩
  · refine ⟨fun b o h1 h2 h3 hb => k₆ b o h1 (keep b o h2 h3 hb), R₅.base.os.trans ho, ?_⟩
    have := R₅.base.gens
    rw [hg] at this
    exact this
end
end Mine
end

noncomputable section
namespace Mine
open PySem PyProof.Rows PySem.Builtin.Str

section
variable {prog : Program} {w : World} {mg mb : Str → Option Value} {hb : Heap} {a : Addr} {cd : Value} {Lg e it : Addr} {l : List Nat} {t : Tok} {d : Nat}
/-- while the generator sleeps -/
theorem GS.move {σ : Loc} {s s' : Shared} {k : Nat} {esc : Bool} (G : GS mg mb hb Lg e it l t k esc σ s) (hk : ∀ b o, b = Lg ∨ b = e ∨ b = it → s.heap.get? b = some o → s'.heap.get? b = some o) (T : Tp mg mb hb s'.heap) : GS mg mb hb Lg e it l t k esc σ s' := by
  obtain ⟨m, ad, F⟩ := G.fr
  obtain ⟨old, en⟩ := G.en
  obtain ⟨oi, hi, r⟩ := G.st
  have hL : ∀ b, muOf Lg σ ad b → b = Lg := fun b hb => muOf_only G.noown hb
  refine ⟨⟨⟨m, ad, ?_, .inl rfl, fun b hb => ?_, fun x v hx => ?_, fun x lx hx => absurd hx (G.noown x lx), F.inj⟩, G.noown, T, G.top, G.flat⟩, G.esc, ⟨old, hk _ _ (.inr (.inl rfl)) en⟩, ⟨oi, hk _ _ (.inr (.inr rfl)) hi, r⟩, G.ne, G.top2⟩
  · obtain ⟨oL, es, ep, h1, r⟩ := F.ns
    exact ⟨oL, es, ep, hk _ _ (.inl rfl) h1, r⟩
  · obtain ⟨o, ho⟩ := F.muIn b hb
    exact ⟨o, hk b o (.inl (hL b hb)) ho⟩
  · obtain ⟨val, h1, h2⟩ := F.val x v hx
    exact ⟨val, h1, h2.flat (G.flat x v hx)⟩
theorem GS.live {σ : Loc} {s : Shared} {k : Nat} {esc : Bool} (G : GS mg mb hb Lg e it l t k esc σ s) : ∀ b, b = Lg ∨ b = e ∨ b = it → ∃ o, s.heap.get? b = some o ∧ ∀ xs n, o.data ≠ .seq xs n := by
  obtain ⟨m, ad, F⟩ := G.fr
  obtain ⟨old, en⟩ := G.en
  obtain ⟨oi, hi, r⟩ := G.st
  rintro b (rfl | rfl | rfl)
  · obtain ⟨oL, es, ep, h1, h2, _⟩ := F.ns
    exact ⟨oL, h1, fun _ _ => by rw [h2]; simp⟩
  · exact ⟨_, en, fun _ _ => by simp⟩
  · exact ⟨_, hi, fun _ _ => by rw [r.2]; simp⟩
abbrev gLoop (Lg a e : Addr) (cd : Value) : Code := .forLoop gTarget (.ref e) gBody [] (genv Lg a cd)
theorem nw_set {σ : Loc} {x : Nat} {v : MV} (h : ∀ y ly, getL σ y ≠ some (.own ly)) : ∀ y ly, getL (setL σ x (.val v)) y ≠ some (.own ly) := fun y ly => by
  rw [getL_setL]
  split
  · simp
  · exact h y ly
theorem fl_set {σ : Loc} {x : Nat} {v : MV} (h : ∀ y u, getL σ y = some (.val u) → flatV u = true) (hv : flatV v = true) : ∀ y u, getL (setL σ x (.val v)) y = some (.val u) → flatV u = true := fun y u hy => by
  rw [getL_setL] at hy
  split at hy
  · cases hy; exact hv
  · exact h y u hy
def boolC (b : Bool) : Loc → Option MV := fun _ => some (.bool b)
theorem E_bool {c : Cx} {b : Bool} {k : Nat} {pos : Pos} : c.E (.Constant (.bool b) k pos) (boolC b) := by
  intro σ v hv s m ad mu R T
  cases hv
  exact wpAny_Constant_bool ⟨Step.refl s, .bool _⟩
theorem tup_fresh {c : Cx} {es : List Expr} {k : Nat} {pos : Pos} {g : Loc → Option (List MV)} (hs : c.Es es g) {σ : Loc} {l : List MV} (hl : g σ = some l) (hlen : l.length ≤ 100000) {s : Shared} {m : Str → Option Value} {ad : Nat → Addr} {mu : Addr → Prop} (R : FR c.nm c.env.locals σ s.heap m ad mu) (T : Tp c.mg c.mb c.hb s.heap) :
    wpAny c.M c.A (eval (.Tuple es k pos) c.env) (fun val s' => Step s s' ∧ ∃ b items, val = .ref b ∧ s.heap.get? b = .none ∧ s'.heap.get? b = some ⟨.type "tuple", .none, .seq ⟨items⟩ 0, #[]⟩ ∧ VReps (Fz s'.heap mu) items l) (fun _ _ => False) s := by
  refine wpAny_Tuple (wpAny_mono (hs pos σ l hl s m ad mu R T) (fun vs s₁ h₁ => ?_) fun _ _ e => e)
  refine ⟨by rw [h₁.2.length]; exact Nat.le_trans hlen sizeLine_big, h₁.1.trans (Step.push s₁ _ _), _, vs, rfl, fresh_none h₁.1, Heap.get?_push_size _ rfl, h₁.2.step (Step.push s₁ _ s₁.toks)⟩
/-- a yield of the generator's, and what comes behind it -/
theorem g_yield {A : Around} {Ls : List (MV × MV)} {n : Nat} {s₀ s : Shared} {fs : List Frame} {σ : Loc} {k : Nat} {esc : Bool} {es : List Expr} {tk : Nat} {tp yp pos : Pos} {K : Flow → Sem Fin} {H : Value → Sem Fin} {c : Code} {f : Loc → Option (List MV)} {x y : MV}
    (hfs : splitAtGen fs = none) (hfg : fs.any Frame.guarded = false) (hE : (gcx prog w (A.over c fs) Lg a cd mg mb hb d).Es es f) (hf : f σ = some [x, y]) (hxy : flatV x = true ∧ flatV y = true)
    (G : GS mg mb hb Lg e it l t k esc σ s) (hk : KX Lg e it s₀ s) (hn : n < Ls.length) (hp : Ls[Ls.length - 1 - n]? = some (x, y))
    (hgo : ∀ s'', GS mg mb hb Lg e it l t k esc σ s'' → Seg (model prog w) A (gR Lg e it) (gY mg mb hb Lg e it Ls) n s'' c (K .next) fs s'') :
    Seg (model prog w) A (gR Lg e it) (gY mg mb hb Lg e it Ls) (n + 1) s₀ c ((exec (.Expr (.Yield (some (.Tuple es tk tp)) yp) pos) (genv Lg a cd)).wrap K H id id) fs s := by
  obtain ⟨m, ad, F⟩ := G.fr
  refine seg_Expr_Yield hfs rfl hfg (wpAny_mono (tup_fresh hE hf (by simp) F G.tp) (fun v s' h' => ?_) fun _ _ e => e.elim)
  obtain ⟨st, b, items, rfl, hb0, hb1, rv⟩ := h'
  intro kap hkap
  refine ⟨hk.trans st.kx, ⟨x, y, hp, hn, ?_⟩, fun b hb => ?_, fun s'' hk2 T'' => ?_⟩
  · refine .tup (n := 0) ⟨hb1, ?_⟩ ?_
    · have nb : ∀ q, q = Lg ∨ q = e ∨ q = it → b ≠ q := fun q hq e => by
        obtain ⟨o, ho, _⟩ := G.live q hq
        rw [← e, hb0] at ho; cases ho
      cases q : s₀.heap.get? b with
      | none => rfl
      | some o => have := hk.keep b o (nb _ (.inl rfl)) (nb _ (.inr (.inl rfl))) (nb _ (.inr (.inr rfl))) q; rw [hb0] at this; cases this
    · cases rv with
      | cons r1 rv => cases rv with
        | cons r2 rv =>
          cases rv
          exact .cons (r1.flat hxy.1) (.cons (r2.flat hxy.2) .nil)
  · obtain ⟨o, ho, hq⟩ := G.live b hb
    exact ⟨o, st.grow b o ho, hq⟩
  · refine hkap .none s'' (hgo s'' (G.move (fun b o hb ho => hk2 b o hb (st.grow b o ho)) T''))
theorem drop_cons {α : Type} {l : List α} {k : Nat} {c : α} (h : l[k]? = some c) : l.drop k = c :: l.drop (k + 1) := by
  have hlt : k < l.length := by
    by_cases q : k < l.length
    · exact q
    · rw [List.getElem?_eq_none (by omega)] at h; cases h
  rw [List.drop_eq_getElem_cons hlt]
  rw [List.getElem?_eq_getElem hlt] at h
  cases h; rfl
/-- the generator's loop -/
theorem g_loop (T0 : Tp mg mb hb hb) {A : Around} (hA : AOk A (d + 1)) {Ls : List (MV × MV)} {b : List Stmt} {kb : Result → Sem Fin} {p : Pos}
    (hend : ∀ σ s₀ s, GE mg mb hb Lg σ s → getL σ 43 = some (.val (.bool false)) → KX Lg e it s₀ s → Seg (model prog w) A (gR Lg e it) (gY mg mb hb Lg e it Ls) 0 s₀ (.func b (genv Lg a cd)) (kb (.ok .next)) [] s) :
    ∀ (j k : Nat) (esc : Bool) (σ : Loc) (s s₀ : Shared) (pre q : List (MV × MV)), k + j = l.length → escL k esc (l.drop k) = some q → Ls = pre ++ q → GS mg mb hb Lg e it l t k esc σ s → KX Lg e it s₀ s →
      Seg (model prog w) A (gR Lg e it) (gY mg mb hb Lg e it Ls) q.length s₀ (gLoop Lg a e cd) ((model prog w).den (gLoop Lg a e cd)) [.ret kb none false [] (.func b (genv Lg a cd)) p []] s := by
  intro j
  induction j with
  | zero =>
    intro k esc σ s s₀ pre q hkj hq hL G hk
    have hA' := over_loop hA b gBody (genv Lg a cd) gTarget (.ref e) kb false [] [] p
    rw [List.drop_of_length_le (by omega)] at hq
    cases esc with
    | true => cases hq
    | false =>
      cases hq
      obtain ⟨old, en⟩ := G.en
      obtain ⟨n1, n2, n3⟩ := G.ne
      have hst : s.heap.IsStrIter it "str_ascii_iterator" ⟨⟨l⟩⟩ t l.length := by
        have := G.st
        rwa [show k = l.length by omega] at this
      have D := Draws.strAscii (prog := prog) (w := w) (A := (A.over (gLoop Lg a e cd) [.ret kb none false [] (.func b (genv Lg a cd)) p []]).in1) hA'.handled it ⟨⟨l⟩⟩ t
      refine seg_forLoop (wpAny_pyNext_enum_endD D en hst fun h' ext => ?_)
      have G' : GE mg mb hb Lg σ ({ s with heap := h' } : Shared) := by
        obtain ⟨m, ad, F⟩ := G.fr
        obtain ⟨oi, hi, hci, hdi⟩ := G.st
        refine ⟨⟨m, ad, F.oddP (fun b => b = it) (fun b hb => ⟨_, hb ▸ hi, odd_strIter hci hdi⟩) (fun b hb q => n3 (hb ▸ muOf_only G.noown q)) fun b o hb ho => ext b o hb ho⟩, G.noown, T0.up fun b o ho => ext b o (fun e => by rw [e, G.top2.2] at ho; cases ho) (G.tp.keep b o ho), G.top, G.flat⟩
      refine seg_again rfl ?_
      refine seg_leaf (k := kb) (.ok .next) (hend σ s₀ _ G' G.esc (hk.trans ⟨fun b o _ _ h3 hb => ext b o h3 hb, rfl, GK.refl _⟩))
  | succ j ih =>
    intro k esc σ s s₀ pre q hkj hq hL G hk
    have hA' := over_loop hA b gBody (genv Lg a cd) gTarget (.ref e) kb false [] [] p
    have O : (gcx prog w (A.over (gLoop Lg a e cd) [.ret kb none false [] (.func b (genv Lg a cd)) p []]) Lg a cd mg mb hb d).Ok := ⟨hA', rfl, rfl, rfl, nm_inj⟩
    have hlt : k < l.length := by omega
    have hch : l[k]? = some l[k] := List.getElem?_eq_getElem hlt
    generalize l[k] = ch at hch
    rw [drop_cons hch] at hq
    refine seg_forLoop (wpAny_mono (g_next (a := a) (cd := cd) T0 hA' G hch) (fun r s₁ h₁ => ?_) fun _ _ e => e)
    cases r with
    | none => exact h₁.elim
    | some v =>
      refine wpAny_mono h₁ (fun _ s₂ h₂ => wpAny_mono h₂ (fun _ s₃ h₃ => ?_) fun _ _ e => e) fun _ _ e => e
      obtain ⟨G₃, K₃⟩ := h₃
      have K03 := hk.trans K₃
      have vpos : gv (getL (setL (setL σ 19 (.val (.int k))) 20 (.val (.str [ch]))) 19) = some (.int k) := by rw [getL_setL, getL_setL]; rfl
      have vch : gv (getL (setL (setL σ 19 (.val (.int k))) 20 (.val (.str [ch]))) 20) = some (.str [ch]) := by rw [getL_setL]; rfl
      generalize setL (setL σ 19 (.val (.int k))) 20 (.val (.str [ch])) = σ₃ at G₃ vpos vch
      have vesc : gv (getL σ₃ 43) = some (.bool esc) := by rw [G₃.esc]; rfl
      refine seg_execs_cons (seg_If (wpAny_mono (g_expr (T_plain op_truth (E_var O (x := 43) rfl rfl rfl) rfl) G₃ (v := esc) (by show o1 truthV (gv (getL σ₃ 43)) = _; rw [vesc]; rfl)) (fun b₁ s₄ h₄ => ?_) fun _ _ e => e))
      obtain ⟨G₄, st₄, _, _, _, eb⟩ := h₄
      rw [show b₁ = esc from eb]
      have K04 := K03.trans st₄.kx
      cases esc with
      | true =>
        rw [if_pos rfl]
        have hq : (match escL (k + 1) false (l.drop (k + 1)) with | some q => some ((MV.int k, MV.str [92, ch]) :: q) | .none => .none) = some q := hq
        cases hr : escL (k + 1) false (l.drop (k + 1)) with
        | none => rw [hr] at hq; cases hq
        | some q' =>
          rw [hr] at hq; cases hq
          refine seg_execs_cons ?_
          refine g_yield (n := q'.length) rfl rfl (Es_cons (E_var O (x := 19) rfl rfl rfl) (Es_cons (E_bin op_add (E_str (l := [92]) rfl) (E_var O (x := 20) rfl rfl rfl)) Es_nil rfl) rfl) (x := .int k) (y := .str [92, ch]) ?_ ⟨rfl, rfl⟩ G₄ K04 (by rw [hL, List.length_append, List.length_cons]; omega) ?_ fun s₅ G₅ => ?_
          · show oc (gv (getL σ₃ 19)) (oc (o2 addV (some (.str [92])) (gv (getL σ₃ 20))) (some [])) = _
            rw [vpos, vch]; rfl
          · rw [hL, List.length_append, List.length_cons]
            rw [show pre.length + (q'.length + 1) - 1 - q'.length = pre.length by omega]
            simp
          · refine seg_stmt (wpAny_mono (g_stmt T0 (S_assign O (x := 43) rfl rfl E_bool rfl) G₅ (σ' := setL σ₃ 43 (.val (.bool false))) (esc' := false) (asgF_eq rfl) (nw_set G₅.noown) (by rw [getL_setL]; rfl) (fl_set G₅.flat rfl)) (fun f s₆ h₆ => ⟨h₆.1, ?_⟩) fun _ _ e => e)
            refine seg_again rfl ?_
            exact ih (k + 1) false _ s₆ s₅ (pre ++ [(.int k, .str [92, ch])]) q' (by omega) hr (by rw [hL]; simp) h₆.2.1 h₆.2.2
      | false =>
        rw [if_neg Bool.false_ne_true]
        refine seg_execs_cons (seg_If (wpAny_mono (g_expr (T_cmp op_eq (E_var O (x := 20) rfl rfl rfl) (E_str (l := [92]) rfl) rfl) G₄ (v := ([ch] == [92])) (by show o1 tb (o2 eqV (gv (getL σ₃ 20)) (some (.str [92]))) = _; rw [vch]; rfl)) (fun b₂ s₅ h₅ => ?_) fun _ _ e => e))
        obtain ⟨G₅, st₅, _, _, _, eb₅⟩ := h₅
        rw [show b₂ = ([ch] == [92]) from eb₅]
        have K05 := K04.trans st₅.kx
        have hq : (match Nat.beq ch 92 with | true => escL (k + 1) true (l.drop (k + 1)) | false => (match escL (k + 1) false (l.drop (k + 1)) with | some q => some ((MV.int k, MV.str [ch]) :: q) | .none => .none)) = some q := hq
        have eb2 : ([ch] == [92]) = Nat.beq ch 92 := by
          rw [beq_dec]
          by_cases h : ch = 92
          · subst h; rfl
          · simp [h]
        rw [eb2]
        cases hb92 : Nat.beq ch 92 with
        | true =>
          rw [hb92] at hq
          rw [if_pos rfl]
          refine seg_stmt (wpAny_mono (g_stmt T0 (S_assign O (x := 43) rfl rfl E_bool rfl) G₅ (σ' := setL σ₃ 43 (.val (.bool true))) (esc' := true) (asgF_eq rfl) (nw_set G₅.noown) (by rw [getL_setL]; rfl) (fl_set G₅.flat rfl)) (fun f s₆ h₆ => ⟨h₆.1, ?_⟩) fun _ _ e => e)
          refine seg_again rfl ?_
          exact ih (k + 1) true _ s₆ s₀ pre q (by omega) hq hL h₆.2.1 (K05.trans h₆.2.2)
        | false =>
          rw [hb92] at hq
          rw [if_neg Bool.false_ne_true]
          cases hr : escL (k + 1) false (l.drop (k + 1)) with
          | none => rw [hr] at hq; cases hq
          | some q' =>
            rw [hr] at hq; cases hq
            refine seg_execs_cons ?_
            refine g_yield (n := q'.length) rfl rfl (Es_cons (E_var O (x := 19) rfl rfl rfl) (Es_cons (E_var O (x := 20) rfl rfl rfl) Es_nil rfl) rfl) (x := .int k) (y := .str [ch]) ?_ ⟨rfl, rfl⟩ G₅ K05 (by rw [hL, List.length_append, List.length_cons]; omega) ?_ fun s₆ G₆ => ?_
            · show oc (gv (getL σ₃ 19)) (oc (gv (getL σ₃ 20)) (some [])) = _
              rw [vpos, vch]; rfl
            · rw [hL, List.length_append, List.length_cons]
              rw [show pre.length + (q'.length + 1) - 1 - q'.length = pre.length by omega]
              simp
            · refine seg_again rfl ?_
              exact ih (k + 1) false _ s₆ s₆ (pre ++ [(.int k, .str [ch])]) q' (by omega) hr (by rw [hL]; simp) G₆ (KX.refl _ _ _ _)
end
end Mine
end

noncomputable section
namespace Mine
open PySem PyProof.Rows PySem.Builtin.Str

section
variable {prog : Program} {w : World} {mg mb : Str → Option Value} {hb : Heap} {a : Addr} {cd : Value} {Lg : Addr} {l : List Nat} {t : Tok} {d : Nat}
/-- the generator's code, woken for the first time -/
theorem g_start (T0 : Tp mg mb hb hb) (H : Tf mg mb) {A : Around} (hA : AOk A (d + 1)) {Ls : List (MV × MV)} (hl : l.all (fun c => decide (c < 128)) = true) (hq : escL 0 false l = some Ls) {s : Shared} {m : Str → Option Value}
    (hm : m "addr" = some (.str ⟨⟨l⟩⟩ t)) (hns : s.heap.Ns Lg m) (T : Tp mg mb hb s.heap) (hL : hb.get? Lg = .none) :
    Seg (model prog w) A (gR Lg (s.heap.objs.size + 1) s.heap.objs.size) (gY mg mb hb Lg (s.heap.objs.size + 1) s.heap.objs.size Ls) Ls.length s (.func (dBody 2) (genv Lg a cd)) ((model prog w).den (.func (dBody 2) (genv Lg a cd))) [] s := by
  have hA' := over_func hA (dBody 2) (genv Lg a cd)
  refine seg_func ?_
  have hLs : @LT.lt Nat _ Lg s.heap.objs.size := hns.lt
  refine seg_stmt (wpAny_Assign_Name (wpAny_Constant_int (wpAny_storeName_local rfl hns (fun h₁ hn₁ hs₁ => ⟨rfl, ?_⟩) rfl)) rfl)
  refine seg_stmt (wpAny_Assign_Name (wpAny_Constant_bool (wpAny_storeName_local rfl hn₁ (fun h₂ hn₂ hs₂ => ⟨rfl, ?_⟩) rfl)) rfl)
  have k₁ : ∀ b o, b ≠ Lg → s.heap.get? b = some o → h₂.get? b = some o := fun b o hb ho => (hs₂.2 b hb).trans ((hs₁.2 b hb).trans ho)
  have z₂ : h₂.objs.size = s.heap.objs.size := by rw [hs₂.1]; exact hs₁.1
  have T₂ : Tp mg mb hb h₂ := T0.up fun b o ho => k₁ b o (fun e => by rw [e, hL] at ho; cases ho) (T.keep b o ho)
  have O : (gcx prog w (A.over (.func (dBody 2) (genv Lg a cd)) []) Lg a cd mg mb hb d).Ok := ⟨hA', rfl, rfl, rfl, nm_inj⟩
  refine seg_execs_cons (seg_For (fun _ => rfl) ?_)
  refine wpAny_Call_NameR (name_built O rfl H.enumerate.1 H.enumerate.2 rfl T₂ ?_)
  refine PyProof.Rows.callWith_type1 (spliced_more (wpAny_Name (wpAny_loadName_local rfl rfl hn₂ (v := .str ⟨⟨l⟩⟩ t) ?_ (spliced_none ?_)) rfl) rfl) rfl rfl
  · show (if (Str.ofString "addr") = Str.ofString "escape" then _ else if (Str.ofString "addr") = Str.ofString "pos" then _ else m "addr") = _
    rw [if_neg (by decide +kernel), if_neg (by decide +kernel)]; exact hm
  refine call_enumerate_str fun h₃ en₃ st₃ sz₃ k₃ => ?_
  have z₃ : ({ s with heap := h₂, toks := s.toks + 1 + 1 } : Shared).heap.objs.size = s.heap.objs.size := z₂
  rw [show ({ s with heap := h₂, toks := s.toks + 1 + 1 } : Shared).heap.objs.size = s.heap.objs.size from z₂] at *
  refine wpAny_pyIter_enum en₃ fun p => ?_
  have hty : strIterType ⟨⟨l⟩⟩ = "str_ascii_iterator" := by
    unfold strIterType
    have : (⟨⟨l⟩⟩ : Str).cps.all (fun x => decide (x < 128)) = true := by simpa using hl
    rw [this]; rfl
  rw [hty] at st₃
  have nLe : @Ne Nat Lg (s.heap.objs.size + 1) := by omega
  have nLi : @Ne Nat Lg s.heap.objs.size := by omega
  have nei : @Ne Nat (s.heap.objs.size + 1) s.heap.objs.size := by omega
  have fresh : ∀ b : Nat, s.heap.objs.size ≤ b → hb.get? b = .none := fun b hb' => by
    cases q : hb.get? b with
    | none => rfl
    | some o => exact absurd (Heap.lt_size (T.keep b o q)) (Nat.not_lt.mpr hb')
  let σ : Loc := [(16, .val (.str l)), (19, .val (.int 0)), (43, .val (.bool false))]
  have hget : ∀ x v, getL σ x = some (.val v) → (x = 16 ∧ v = .str l) ∨ (x = 19 ∧ v = .int 0) ∨ (x = 43 ∧ v = .bool false) := fun x v hx => by
    rw [getL_cons, getL_cons, getL_cons] at hx
    split at hx
    · rename_i e; cases hx; exact .inl ⟨e.symm, rfl⟩
    · split at hx
      · rename_i e; cases hx; exact .inr (.inl ⟨e.symm, rfl⟩)
      · split at hx
        · rename_i e; cases hx; exact .inr (.inr ⟨e.symm, rfl⟩)
        · cases hx
  have nown : ∀ x lx, getL σ x ≠ some (.own lx) := fun x lx hx => by
    rw [getL_cons, getL_cons, getL_cons] at hx
    split at hx
    · cases hx
    · split at hx
      · cases hx
      · split at hx
        · cases hx
        · cases hx
  have hn₃ := hn₂.keeps k₃
  refine g_loop (t := t) (l := l) (Ls := Ls) T0 hA (fun σ' s₀' s' G' e' K' => ?_) l.length 0 false σ _ _ [] Ls (by omega) hq rfl ⟨⟨⟨_, fun _ => 0, hn₃, .inl rfl, fun b hb' => ?_, fun x v hx => ?_, fun x lx hx => absurd hx (nown x lx), fun x _ lx _ hx => absurd hx (nown x lx)⟩, nown, T0.up fun b o ho => k₃ b o (T₂.keep b o ho), hL, fun x v hx => ?_⟩, rfl, ⟨_, en₃⟩, st₃, ⟨nei, Ne.symm nLe, Ne.symm nLi⟩, fresh _ (Nat.le_succ _), fresh _ (Nat.le_refl _)⟩ ⟨fun b o h1 _ _ ho => k₃ b o (k₁ b o h1 ho), rfl, GK.refl _⟩
  · have O' : (gcx prog w (A.over (.func (dBody 2) (genv Lg a cd)) []) Lg a cd mg mb hb d).Ok := O
    obtain ⟨m', ad', F'⟩ := G'.fr
    refine seg_execs_cons (seg_If (wpAny_mono ((T_plain op_truth (E_var O' (x := 43) rfl rfl rfl) rfl) σ' false (by show o1 truthV (gv (getL σ' 43)) = _; rw [e']; rfl) s' m' ad' _ F' G'.tp) (fun b₁ s₄ h₄ => ?_) fun _ _ e => e))
    rw [show b₁ = false from h₄.2, if_neg Bool.false_ne_true]
    exact seg_end (.ok (.ret .none)) ⟨rfl, rfl, K'.trans h₄.1.kx⟩
  · rw [muOf_only nown hb']
    obtain ⟨o, _, _, ho, _⟩ := hn₃; exact ⟨o, ho⟩
  · rcases hget x v hx with ⟨rfl, rfl⟩ | ⟨rfl, rfl⟩ | ⟨rfl, rfl⟩
    · refine ⟨_, ?_, .str l t⟩
      show (if (Str.ofString "addr") = Str.ofString "escape" then _ else if (Str.ofString "addr") = Str.ofString "pos" then _ else m "addr") = _
      rw [if_neg (by decide +kernel), if_neg (by decide +kernel)]; exact hm
    · refine ⟨_, ?_, .int 0 s.toks⟩
      show (if (Str.ofString "pos") = Str.ofString "escape" then _ else if (Str.ofString "pos") = Str.ofString "pos" then _ else m "pos") = _
      rw [if_neg (by decide +kernel), if_pos rfl]
    · refine ⟨_, ?_, .bool false⟩
      show (if (Str.ofString "escape") = Str.ofString "escape" then _ else _) = _
      rw [if_pos rfl]
  · rcases hget x v hx with ⟨rfl, rfl⟩ | ⟨rfl, rfl⟩ | ⟨rfl, rfl⟩ <;> rfl
end
end Mine
end

noncomputable section
namespace Mine
open PySem PyProof.Rows PySem.Builtin.Str

section
variable {prog : Program} {w : World} {A : Around} {E : Value → Shared → Prop} {s : Shared}
/-- the next item of a def's generator; what sleeps is bare -/
theorem next_gen {b : Addr} {g n : Nat} {gs : GenState} {P : Nat → Shared → Shared → Prop} {Y : Protocol} {Q : Option Value → Shared → Prop} (hh : A.handled = none)
    (hl : s.heap.NoLimit) (hroom : A.depth < recursionLimit) (hg : s.heap.IsGen b g) (hgs : s.gens[g]? = some gs)
    (hgo : gs.Goes (model prog w) A.in1 (fun n s₀ r s₁ => r = .ok (.ret .none) ∧ P n s₀ s₁) Y n (.send .none) (s.setGen g .running))
    (hY : ∀ v s₁ gs', gs'.bare = true → Y (n - 1) (s.setGen g .running) v s₁ (fun r' s'' => match n with
        | 0 => False
        | m + 1 => gs'.Goes (model prog w) A.in1 (fun n s₀ r s₁ => r = .ok (.ret .none) ∧ P n s₀ s₁) Y m r' s'') → Q (some v) (s₁.setGen g gs'))
    (hP : ∀ s₁, P n (s.setGen g .running) s₁ → ∀ h', (∀ b o, s₁.heap.get? b = some o → h'.get? b = some o) → Q none { s₁.setGen g .finished with heap := h' }) :
    wpAny (model prog w) A (pyNext (.ref b)) Q E s := by
  unfold pyNext
  refine wpAny_bind (wpAny_attempt (wpAny_callSpecial?_slot (name := Str.ofString "__next__") hg.typeIs slot_gen_next
    (wpAny_call_entry slot_gen_next hg.typeIs entry_gen_next ?_ (args_gen_next _))))
  show wpAny _ A.in1 (Builtin.Generator.genWake (.ref b) (.send .none)) _ _ s
  unfold Builtin.Generator.genWake
  refine wpAny_bind (wpAny_holding (wpAny_genNumber hg (wpAny_bind (wpAny_genState hgs ?_))))
  cases gs with
  | running => exact hgo.elim
  | finished => exact hgo.elim
  | _ =>
    refine wpAny_bind (wpAny_roomToWake hl hroom ?_)
    show wpAny _ A.in1 (.resume g (.send .none) [] _) _ _ s
    refine wpAny_resumeQ hgs hgo (fun x s₁ hx => ?_) (fun v s₁ gs' hb hv => ?_)
    · obtain ⟨rfl, hp⟩ := hx
      show wpAny _ A.in1 (newExc (.type "StopIteration") [] >>= _) _ _ _
      refine wpAny_bind ?_
      simp only [newExc, newTuple]
      refine wpAny_bind (wpAny_newObj_type ?_ (by size_fits))
      refine wpAny_bind (m := firstArgMember _ _) (wpAny_of_eq (a := Value.none) (by first | rfl | (simp only [firstArgMember]; rfl)) ?_)
      refine wpAny_newObj_type ?_ (by size_fits)
      simp only [raiseNew]
      refine wpAny_bind (wpAny_bind (wpAny_handled ?_))
      first | rw [show A.in1.handled = none from hh] | rw [hh]
      refine wpAny_throw ?_
      refine wpAny_bind (wpAny_isInstance (T := "StopIteration") (b := true) ⟨_, Heap.get?_push_size _ rfl, rfl⟩ isSubtype_stop ?_)
      exact wpAny_pure (hP s₁ hp _ fun b o hb => Heap.get?_push_of_some _ (Heap.get?_push_of_some _ hb))
    · exact wpAny_pure ⟨v, rfl, wpAny_pure (hY v s₁ gs' hb hv)⟩
theorem letGo_gen {elts : List Expr} {k : Nat} {pos : Pos} {b c : Addr} {g : Nat} {Q : Unit → Shared → Prop} (hg : s.heap.IsGen b g) (h : Q () s) :
    wpAny (model prog w) A (letOwnedTupleGo (.Tuple elts k pos) (.ref b) (.ref c)) Q E s := by
  obtain ⟨o, n1, n2, ho, hc, hd, _⟩ := hg
  unfold letOwnedTupleGo
  refine wpAny_bind (wpAny_load ho ?_)
  rw [hc, hd]
  show wpAny _ A (if (["enumerate", "zip", "dict_itemiterator", "dict_reverseitemiterator", "odict_iterator", "itertools.zip_longest", "itertools.pairwise"].contains "generator" && _) = true then _ else _) Q E s
  rw [if_neg (by simp)]
  exact wpAny_pure h
/-- a for loop whatever its target -/
theorem forLoop_any {R : Result → Shared → Prop} {target : Expr} {itv : Value} {body : List Stmt} {env : Env} (I : Nat → Shared → Prop)
    (turn : ∀ n s, I n s → wpAny (model prog w) A (pyNext itv) (fun r s₁ => match r with
      | none => R (.ok .next) s₁
      | some v => wpAny (model prog w) A (letOwnedTupleGo target itv v) (fun _ s₂ => wpAny (model prog w) A (assign target env v) (fun _ s₃ => wpAny (model prog w) A (execs body env) (fun f s₄ => match f with
          | .next | .cont => ∃ m, m < n ∧ I m s₄
          | .brk => R (.ok .next) s₄
          | .ret v => R (.ok (.ret v)) s₄) (fun _ _ => False) s₃) (fun _ _ => False) s₂) (fun _ _ => False) s₁) (fun _ _ => False) s)
    (n : Nat) (h : I n s) : codeAny (model prog w) A (.forLoop target itv body [] env) R s := by
  refine codeAny_loop' rfl I (fun n s hI => ?_) n h
  show wpAny _ _ ((forTurn target itv body [] env).onRaise (fun x => do noteFrame x env; theTreesLotGoes x)) _ _ s
  refine wpAny_noted ?_
  simp only [forTurn]
  refine wpAny_bind (wpAny_standAt (wpAny_bind (wpAny_onRaise (wpAny_mono (turn n s hI) (fun r s₁ h₁ => ?_) fun _ _ h' => h'.elim))))
  cases r with
  | none => exact wpAny_pure (.inr ⟨rfl, codeAny_block (wpAny_execs_nil h₁)⟩)
  | some v =>
    refine wpAny_bind (wpAny_mono h₁ (fun _ s₂ h₂ => ?_) fun _ _ h' => h'.elim)
    refine wpAny_bind (wpAny_mono h₂ (fun _ s₃ h₃ => wpAny_bind (wpAny_mono h₃ (fun f s₄ h₄ => ?_) fun _ _ h' => h'.elim)) fun _ _ h' => h'.elim)
    cases f with
    | next => exact wpAny_pure (.inl ⟨rfl, h₄⟩)
    | cont => exact wpAny_pure (.inl ⟨rfl, h₄⟩)
    | brk => exact wpAny_pure h₄
    | ret v => exact wpAny_pure h₄
end

def forG (x y : Nat) (F : SF) : List (MV × MV) → SF
  | [], σ => some (σ, .next)
  | (u, v) :: r, σ => match F (setL (setL σ x (.val u)) y (.val v)) with
    | .none => .none
    | some (σ', .next) => forG x y F r σ'
    | some (σ', .ret z) => some (σ', .ret z)
mutual
theorem VRep.seqs {G : Addr → Obj → Prop} : ∀ {v : Value} {x : MV}, VRep G v x → VRep (fun b o => G b o ∧ ∃ c items n, o = ⟨c, .none, .seq items n, #[]⟩) v x
  | _, _, .none => .none
  | _, _, .bool b => .bool b
  | _, _, .int i t => .int i t
  | _, _, .str l t => .str l t
  | _, _, .list g r => .list ⟨g, _, _, _, rfl⟩ (VReps.seqs r)
  | _, _, .tup g r => .tup ⟨g, _, _, _, rfl⟩ (VReps.seqs r)
theorem VReps.seqs {G : Addr → Obj → Prop} : ∀ {vs : List Value} {xs : List MV}, VReps G vs xs → VReps (fun b o => G b o ∧ ∃ c items n, o = ⟨c, .none, .seq items n, #[]⟩) vs xs
  | _, _, .nil => .nil
  | _, _, .cons a r => .cons (VRep.seqs a) (VReps.seqs r)
end
/-- objects that are no lists and no tuples are changed -/
theorem FR.noSeq {nm : Nat → Str} {L : Addr} {σ : Loc} {h h' : Heap} {m : Str → Option Value} {ad : Nat → Addr} (F : FR nm L σ h m ad (muOf L σ ad)) (P : Addr → Prop) (hP : ∀ b o, P b → h.get? b = some o → ∀ xs n, o.data ≠ .seq xs n) (hL : ¬ P L)
    (hk : ∀ b o, ¬ P b → h.get? b = some o → h'.get? b = some o) : FR nm L σ h' m ad (muOf L σ ad) := by
  have no : ∀ b items n c, h.get? b = some ⟨c, none, .seq items n, #[]⟩ → ¬ P b := fun b items n c hb q => hP b _ q hb _ _ rfl
  have hm : ∀ b, muOf L σ ad b → ¬ P b := by
    rintro b (rfl | ⟨x, l, hx, rfl⟩) q
    · exact hL q
    · obtain ⟨_, _, _, items, n, h4, _⟩ := F.own x l hx
      exact no _ _ _ _ h4 q
  have av : ∀ {v : Value} {x : MV}, VRep (Fz h (muOf L σ ad)) v x → VRep (Fz h' (muOf L σ ad)) v x := fun r => (VRep.seqs r).mono fun b o hb => by
    obtain ⟨hb, c, items, n, rfl⟩ := hb
    exact ⟨hk b _ (no _ _ _ _ hb.1) hb.1, hb.2⟩
  have avs : ∀ {v : List Value} {x : List MV}, VReps (Fz h (muOf L σ ad)) v x → VReps (Fz h' (muOf L σ ad)) v x := fun r => (VReps.seqs r).mono fun b o hb => by
    obtain ⟨hb, c, items, n, rfl⟩ := hb
    exact ⟨hk b _ (no _ _ _ _ hb.1) hb.1, hb.2⟩
  refine ⟨?_, F.muL, fun b hb => ?_, fun x v hx => ?_, fun x l hx => ?_, F.inj⟩
  · obtain ⟨oL, es, ep, h1, r⟩ := F.ns
    exact ⟨oL, es, ep, hk _ _ hL h1, r⟩
  · obtain ⟨o', ho'⟩ := F.muIn b hb
    exact ⟨o', hk b o' (hm b hb) ho'⟩
  · obtain ⟨val, h1, h2⟩ := F.val x v hx
    exact ⟨val, h1, av h2⟩
  · obtain ⟨h1, h2, h3, items, n, h4, h5⟩ := F.own x l hx
    exact ⟨h1, h2, h3, items, n, hk _ _ (hm _ h2) h4, avs h5⟩
end Mine
end

noncomputable section
namespace Mine
open PySem PyProof.Rows PySem.Builtin.Str

theorem setGen_ne {s : Shared} {g j : Nat} {x : GenState} (h : g ≠ j) : (s.setGen g x).gens[j]? = s.gens[j]? := by
  unfold Shared.setGen
  simp [Array.getElem?_setIfInBounds, h]
theorem setGen_eq {s : Shared} {g : Nat} {x y : GenState} (h : s.gens[g]? = some y) : (s.setGen g x).gens[g]? = some x := by
  have : g < s.gens.size := by
    by_cases q : g < s.gens.size
    · exact q
    · rw [Array.getElem?_eq_none (by omega)] at h; cases h
  unfold Shared.setGen
  simp [Array.getElem?_setIfInBounds, this]
theorem setGen_bare {s : Shared} {g : Nat} {x : GenState} (h : AllBare s.gens) (hx : x.bare = true) : AllBare (s.setGen g x).gens := by
  intro y hy
  unfold Shared.setGen at hy
  obtain ⟨i, hi, rfl⟩ := Array.getElem_of_mem hy
  have e := Array.getElem?_eq_getElem hi
  by_cases q : g = i
  · subst q
    rw [Array.getElem?_setIfInBounds] at e
    simp only [if_true] at e
    split at e
    · rw [← Option.some.inj e]; exact hx
    · cases e
  · rw [Array.getElem?_setIfInBounds, if_neg q] at e
    exact h _ (Array.mem_of_getElem? e)
section
variable {c : Cx}
/-- where the generator's own things lie -/
structure Ap (c : Cx) (s₀ : Shared) (gO Lg e it : Addr) (s : Shared) : Prop where
  base : ∀ b, b = Lg ∨ b = e ∨ b = it → s₀.heap.get? b = .none ∧ b ≠ c.env.locals ∧ b ≠ gO ∧ c.hb.get? b = .none
  seq : ∀ b o, b = Lg ∨ b = e ∨ b = it → s.heap.get? b = some o → ∀ xs n, o.data ≠ .seq xs n
theorem forLoop_gen (O : c.Ok) (T0 : Tp c.mg c.mb c.hb c.hb) {x y : Nat} {n k : Str} {np kp tp : Pos} {tk : Nat} {body : List Stmt} {F : SF} (hn : n = c.nm x) (hk : c.env.kindOf n = some .local) (hn' : k = c.nm y) (hk' : c.env.kindOf k = some .local) (hb : c.SS body F)
    {s₀ : Shared} (T : Tp c.mg c.mb c.hb s₀.heap) {gO Lg : Addr} {g : Nat} {Ls : List (MV × MV)} (hflat : ∀ p ∈ Ls, flatV p.1 = true ∧ flatV p.2 = true) {σ' : Loc} {fl : Fl} (hg0 : s₀.gens[g]? = none) (hgO : s₀.heap.get? gO = .none) (E : Value → Shared → Prop)
    {σ : Loc} {s : Shared} {gs : GenState} {e it : Addr} (hF : forG x y F Ls σ = some (σ', fl)) (R : SR c s₀ σ s) (hG : s.heap.IsGen gO g) (hgs : s.gens[g]? = some gs) (hbare : gs.bare = true)
    (hgo : gs.Goes c.M c.A.in1 (gR Lg e it) (gY c.mg c.mb c.hb Lg e it Ls) Ls.length (.send .none) (s.setGen g .running)) (ap : Ap c s₀ gO Lg e it s) :
    codeAny c.M c.A (.forLoop (.Tuple [.Name n np, .Name k kp] tk tp) (.ref gO) body [] c.env) (fun r s' => match r with | .ok f => FlR fl f ∧ SR c s₀ σ' s' | .error e => E e s') s := by
  refine forLoop_any (I := fun m s => ∃ σ pre r gs e it, m = r.length ∧ Ls = pre ++ r ∧ forG x y F r σ = some (σ', fl) ∧ SR c s₀ σ s ∧ s.heap.IsGen gO g ∧ s.gens[g]? = some gs ∧ gs.bare = true ∧
    gs.Goes c.M c.A.in1 (gR Lg e it) (gY c.mg c.mb c.hb Lg e it Ls) r.length (.send .none) (s.setGen g .running) ∧ Ap c s₀ gO Lg e it s) ?_ Ls.length ⟨σ, [], Ls, gs, e, it, rfl, rfl, hF, R, hG, hgs, hbare, hgo, ap⟩
  clear hF R hG hgs hbare hgo ap
  intro m s hI
  obtain ⟨σ, pre, r, gs, e, it, rfl, hL, hF, R, hG, hgs, hbare, hgo, ap⟩ := hI
  have Ts := T.step R.base
  -- the consumer's state behind a segment
  have back : ∀ (s₁ : Shared) (gs' : GenState) (h' : Heap), gs'.bare = true → KX Lg e it (s.setGen g .running) s₁ → (∀ b o, s₁.heap.get? b = some o → h'.get? b = some o) → SR c s₀ σ ({ s₁.setGen g gs' with heap := h' } : Shared) := by
    intro s₁ gs' h' hb' kx hk'
    obtain ⟨m, ad, Fr, hmu⟩ := R.fr
    refine ⟨⟨fun b o ho => ?_, kx.os.trans R.base.os, ⟨fun j z hz => ?_, fun hb0 => ?_⟩⟩, m, ad, Fr.noSeq (fun b => b = Lg ∨ b = e ∨ b = it) (fun b o hP ho => ap.seq b o hP ho) (fun q => (ap.base _ q).2.1 rfl) (fun b o hP ho => hk' b o (kx.keep b o (fun q => hP (.inl q)) (fun q => hP (.inr (.inl q))) (fun q => hP (.inr (.inr q))) ho)), hmu⟩
    · have nb : ∀ q, q = Lg ∨ q = e ∨ q = it → b ≠ q := fun q hq eq => by
        rw [eq, (ap.base q hq).1] at ho; cases ho
      exact hk' b o (kx.keep b o (nb _ (.inl rfl)) (nb _ (.inr (.inl rfl))) (nb _ (.inr (.inr rfl))) (R.base.grow b o ho))
    · have hj : g ≠ j := fun q => by rw [← q, hg0] at hz; cases hz
      show (s₁.setGen g gs').gens[j]? = some z
      rw [setGen_ne hj]
      refine kx.gens.keep j z ?_
      rw [setGen_ne hj]
      exact R.base.gens.keep j z hz
    · exact setGen_bare (kx.gens.bare (setGen_bare (R.base.gens.bare hb0) rfl)) hb'
  have hGk : ∀ (s₁ : Shared) (h' : Heap), KX Lg e it (s.setGen g .running) s₁ → (∀ b o, s₁.heap.get? b = some o → h'.get? b = some o) → h'.IsGen gO g := fun s₁ h' kx hk' => by
    obtain ⟨o, n1, n2, ho, rr⟩ := hG
    exact ⟨o, n1, n2, hk' _ _ (kx.keep gO o (fun q => (ap.base _ (.inl rfl)).2.2.1 q.symm) (fun q => (ap.base _ (.inr (.inl rfl))).2.2.1 q.symm) (fun q => (ap.base _ (.inr (.inr rfl))).2.2.1 q.symm) ho), rr⟩
  refine next_gen (P := fun n s₀ s₁ => n = 0 ∧ KX Lg e it s₀ s₁) (Y := gY c.mg c.mb c.hb Lg e it Ls) O.a.handled Ts.nolimit (by have := O.a.depth; omega) hG hgs hgo (fun v s₁ gs' hb' hy => ?_) (fun s₁ hp h' hk₁ => ?_)
  · obtain ⟨kx, ⟨u, z, hpair, hlt, rv⟩, live, hgoOn⟩ := hy
    have T₁ : Tp c.mg c.mb c.hb s₁.heap := T0.up fun b o ho => by
      have nb : ∀ q, q = Lg ∨ q = e ∨ q = it → b ≠ q := fun q hq eq => by
        rw [eq, (ap.base q hq).2.2.2] at ho; cases ho
      exact kx.keep b o (nb _ (.inl rfl)) (nb _ (.inr (.inl rfl))) (nb _ (.inr (.inr rfl))) (Ts.keep b o ho)
    cases r with
    | nil => exact (hgoOn s₁ (fun b o _ h => h) T₁).elim
    | cons pr r =>
      have hpr : pr = (u, z) := by
        have : Ls.length - 1 - (List.length (pr :: r) - 1) = pre.length := by rw [hL]; simp
        rw [this, hL, List.getElem?_append_right (Nat.le_refl _)] at hpair
        simpa using hpair
      subst hpr
      have hfl := hflat (u, z) (by rw [hL]; simp)
      cases rv with
      | tup gt rt =>
        rename_i tA items nn
        cases rt with
        | cons r1 rt => cases rt with
          | cons r2 rt =>
            cases rt
            rename_i w1 w2
            have R₁ := back s₁ gs' s₁.heap hb' kx (fun _ _ h => h)
            have G₁ := hGk s₁ s₁.heap kx (fun _ _ h => h)
            refine letGo_gen (s := s₁.setGen g gs') G₁ ?_
            have ht : IsTup (s₁.setGen g gs').heap tA ⟨[w1, w2]⟩ := ⟨_, gt.1, rfl, nn, rfl⟩
            show wpAny c.M c.A (assign (.Tuple [.Name n np, .Name k kp] tk tp) c.env (.ref tA)) _ _ _
            refine assign_Tuple_tuple O.a.handled ht rfl rfl fun h₂ ext => ?_
            have st₂ : Step (s₁.setGen g gs') ({ s₁.setGen g gs' with heap := h₂ } : Shared) := ⟨fun b o hb => ext b o (Nat.ne_of_lt (Heap.lt_size hb)) hb, rfl, GK.refl _⟩
            have R₂ := R₁.step st₂
            obtain ⟨m₂, ad₂, F₂, hmu₂⟩ := R₂.fr
            show wpAny c.M c.A (assignInOrder [assign (.Name n np) c.env, assign (.Name k kp) c.env] [w1, w2]) _ _ _
            refine assignInOrder_cons (wpAny_assign_Name (wpStoreG O hn hk R₂ F₂ hmu₂ (r1.flat hfl.1) fun s₃ m₃ g₃ R₃ F₃ k₃ => ?_))
            refine assignInOrder_cons (wpAny_assign_Name (wpStoreG O hn' hk' R₃ F₃ (fun b hb => hmu₂ b (muOf_store hb)) (r2.flat hfl.2) fun s₄ m₄ g₄ R₄ F₄ k₄ => ?_))
            refine assignInOrder_nil ?_
            have hF : (match F (setL (setL σ x (.val u)) y (.val z)) with | .none => .none | some (σ', .next) => forG x y F r σ' | some (σ', .ret q) => some (σ', .ret q)) = some (σ', fl) := hF
            obtain ⟨sB, TB, RB, kpB, backB, gB⟩ := R₄.reframeG T F₄ fun b hb => hmu₂ b (muOf_store (muOf_store hb))
            -- what lies apart from the frame goes on
            have kk : ∀ b o, ¬ muOf c.env.locals (setL (setL σ x (.val u)) y (.val z)) ad₂ b → s₁.heap.get? b = some o → sB.heap.get? b = some o := fun b o hb ho =>
              kpB b o (k₄ b o (fun q => hb (.inl q)) (k₃ b o (fun q => hb (.inl q)) (st₂.grow b o ho))) hb
            have gk : sB.gens[g]? = some gs' := by
              rw [gB, g₄, g₃]
              have hr : (s.setGen g .running).gens[g]? = some .running := setGen_eq hgs
              exact setGen_eq (kx.gens.keep g _ hr)
            cases hf : F (setL (setL σ x (.val u)) y (.val z)) with
            | none => rw [hf] at hF; cases hF
            | some p =>
              obtain ⟨σ₁, fl₁⟩ := p
              rw [hf] at hF
              refine wpAny_mono (hb sB TB _ σ₁ fl₁ hf s₄ RB) (fun f s₅ h₅ => ?_) fun _ _ e => e
              cases fl₁ with
              | ret q =>
                cases hF
                obtain ⟨val, rfl, hv⟩ := h₅.1
                exact ⟨⟨val, rfl, hv⟩, backB _ _ h₅.2⟩
              | next =>
                rw [show f = Flow.next from h₅.1]
                have on : ∀ b o, ¬ muOf c.env.locals (setL (setL σ x (.val u)) y (.val z)) ad₂ b → s₁.heap.get? b = some o → s₅.heap.get? b = some o := fun b o hb ho => h₅.2.base.grow b o (kk b o hb ho)
                have notmu : ∀ b o, b ≠ c.env.locals → s₁.heap.get? b = some o → (∀ xs n, o.data ≠ .seq xs n) → ¬ muOf c.env.locals (setL (setL σ x (.val u)) y (.val z)) ad₂ b := by
                  rintro b o hbL hbo hns (q | ⟨x', l', hx', rfl⟩)
                  · exact hbL q
                  · obtain ⟨_, _, h3', items', n', h4', _⟩ := F₄.own x' l' hx'
                    have h5' := k₄ _ _ h3' (k₃ _ _ h3' (st₂.grow _ _ hbo))
                    rw [h5'] at h4'; cases h4'
                    exact hns _ _ rfl
                obtain ⟨og, q1, q2, hog, hogc, hogd, hogs⟩ := G₁
                have ogn : gO ≠ c.env.locals := fun q => by
                  obtain ⟨oL, es, ep, hL1, hL2, _⟩ := F₂.ns
                  have := st₂.grow _ _ hog
                  rw [q, hL1] at this; cases this
                  rw [hL2] at hogd; cases hogd
                have hgen : s₅.heap.IsGen gO g := ⟨og, q1, q2, on gO og (notmu gO og ogn hog fun xs nn => by rw [hogd]; simp) hog, hogc, hogd, hogs⟩
                have lv : ∀ b o, b = Lg ∨ b = e ∨ b = it → s₁.heap.get? b = some o → s₅.heap.get? b = some o := fun b o hP ho => by
                  obtain ⟨o', ho', hq'⟩ := live b hP
                  have : o' = o := by rw [ho] at ho'; cases ho'; rfl
                  subst this
                  exact on b o' (notmu b o' (ap.base b hP).2.1 ho hq') ho
                refine ⟨r.length, by simp, σ₁, pre ++ [(u, z)], r, gs', e, it, rfl, by rw [hL]; simp, hF, backB _ _ h₅.2, hgen, h₅.2.base.gens.keep g _ gk, hb', ?_, ⟨ap.base, fun b o hP ho xs nn => ?_⟩⟩
                · have T₅ : Tp c.mg c.mb c.hb s₅.heap := TB.step h₅.2.base
                  exact hgoOn (s₅.setGen g .running) lv T₅
                · obtain ⟨o', ho', hq'⟩ := live b hP
                  have := lv b o' hP ho'
                  rw [this] at ho; cases ho
                  exact hq' xs nn
  · obtain ⟨h0, kx⟩ := hp
    cases r with
    | cons => cases h0
    | nil =>
      cases hF
      exact ⟨rfl, back s₁ .finished h' rfl kx hk₁⟩
end
end Mine
end

noncomputable section
namespace Mine
open PySem PyProof.Rows PySem.Builtin.Str

theorem escL_flat : ∀ (l : List Nat) (k : Nat) (b : Bool) (q : List (MV × MV)), escL k b l = some q → ∀ p ∈ q, flatV p.1 = true ∧ flatV p.2 = true := by
  intro l
  induction l with
  | nil =>
    intro k b q h
    cases b with
    | true => cases h
    | false => cases h; intro p hp; cases hp
  | cons c r ih =>
    intro k b q h
    cases b with
    | true =>
      have h : (match escL (k + 1) false r with | some q => some ((MV.int k, MV.str [92, c]) :: q) | .none => .none) = some q := h
      cases hr : escL (k + 1) false r with
      | none => rw [hr] at h; cases h
      | some q' =>
        rw [hr] at h; cases h
        intro p hp
        rcases List.mem_cons.mp hp with rfl | hp
        · exact ⟨rfl, rfl⟩
        · exact ih _ _ _ hr p hp
    | false =>
      have h : (match Nat.beq c 92 with | true => escL (k + 1) true r | false => (match escL (k + 1) false r with | some q => some ((MV.int k, MV.str [c]) :: q) | .none => .none)) = some q := h
      cases hb : Nat.beq c 92 with
      | true => rw [hb] at h; exact ih _ _ _ h
      | false =>
        rw [hb] at h
        dsimp only at h
        cases hr : escL (k + 1) false r with
        | none => rw [hr] at h; cases h
        | some q' =>
          rw [hr] at h; cases h
          intro p hp
          rcases List.mem_cons.mp hp with rfl | hp
          · exact ⟨rfl, rfl⟩
          · exact ih _ _ _ hr p hp
def forE (x y : Nat) (f : Loc → Option MV) (F : SF) : SF := fun σ => match f σ with
  | some (.str l) => match l.all (fun c => decide (c < 128)), escL 0 false l with
    | true, some Ls => forG x y F Ls σ
    | _, _ => .none
  | _ => .none
section
variable {c : Cx}
theorem AOk.in1 {A : Around} {d : Nat} (h : AOk A (d + 1)) : AOk A.in1 d := ⟨h.handled, by show A.depth + d < _; have := h.depth; omega, by show A.units + 1 + 20 * d < _; have := h.units; omega⟩
set_option maxRecDepth 100000 in
theorem S_forGen (O : c.Ok) (T0 : Tp c.mg c.mb c.hb c.hb) (D : DefIn c.mg c.hb 2) (H : Tf c.mg c.mb) (hd : 2 ≤ c.d) {x y : Nat} {n k gn : Str} {np kp tp gp cp pos : Pos} {tk : Nat} {e : Expr} {f : Loc → Option MV} {body : List Stmt} {F : SF}
    (hgn : gn = dName 2) (hgk : c.env.kindOf gn = some .globalImplicit) (hgd : (gn == ("__debug__" : Str)) = false) (hn : n = c.nm x) (hk : c.env.kindOf n = some .local) (hn' : k = c.nm y) (hk' : c.env.kindOf k = some .local) (he : c.E e f) (hst : starEach [e] c.env = [(false, eval e c.env)]) (hb : c.SS body F)
    (hfs : ∀ v, foldedSetIterable (.Call (.Name gn gp) [e] [] cp) c.env v = pure v) :
    c.S (.For (.Tuple [.Name n np, .Name k kp] tk tp) (.Call (.Name gn gp) [e] [] cp) body [] pos) (forE x y f F) := by
  intro s₀ T σ σ' fl hF s R
  unfold forE at hF
  split at hF
  · rename_i l hf
    split at hF
    · rename_i Ls hasc hesc
      obtain ⟨m, ad, Fr, hmu⟩ := R.fr
      obtain ⟨a, o, pm, cd, doc, h1, h2, h3, h4⟩ := D
      refine wpAny_For ?_ hfs
      refine wpAny_Call_NameR (name_glob O hgk (hgn ▸ h1) hgd (T.step R.base) ?_)
      refine callWith_def h3 (spliced_more (wpAny_mono (he σ _ hf s m ad _ Fr (T.step R.base)) (fun v s₁ hv => spliced_none ⟨((T.step R.base).step hv.1).keep _ _ h2, ?_⟩) fun _ _ e => e) hst) hst
      have rv := hv.2
      cases rv with
      | str _ t =>
        have T₁ : Tp c.mg c.mb c.hb s₁.heap := (T.step R.base).step hv.1
        have R₁ := R.step hv.1
        refine wpAny_call (codeAny_call_generator (by have := O.a.depth; omega) (T₁.keep _ _ h2) h3 rfl rfl rfl (h4.keeps T₁.keep) ?_)
        refine wpAny_of_eq (a := [(Str.ofString "addr", Value.str ⟨⟨l⟩⟩ t)]) rfl ?_
        refine wpAny_newFunctionEnv (show ∀ x ∈ (dScope 2).names, x.2 ≠ .cell by decide +kernel) (locs (by kernel_rfl)) (fun h' hns hsb => ⟨?_, ?_⟩) rfl
        · exact T₁.nolimit.keeps fun b o ho => (hsb.2 b (Nat.ne_of_lt (Heap.lt_size ho))).trans (Heap.get?_push_of_some _ ho)
        have zL : h'.objs.size = s₁.heap.objs.size + 1 := by rw [hsb.1, Heap.size_push]
        have kp : ∀ b o, s₁.heap.get? b = some o → h'.get? b = some o := fun b o ho => (hsb.2 b (Nat.ne_of_lt (Heap.lt_size ho))).trans (Heap.get?_push_of_some _ ho)
        let code : Code := .func (dBody 2) (genv s₁.heap.objs.size a cd)
        let gObj : Obj := { cls := .type "generator", data := .fields #[.int s₁.gens.size 0, .str (dName 2) (s₁.toks + 1), .str (dName 2) (s₁.toks + 1 + 1)] }
        let s₂ : Shared := { s₁ with gens := s₁.gens.push (.fresh code), toks := s₁.toks + 1 + 1 + 1, heap := h'.push gObj }
        show wpAny c.M c.A (pyIter (.ref h'.objs.size)) _ _ s₂
        have hGO : s₂.heap.IsGen h'.objs.size s₁.gens.size := ⟨gObj, _, _, Heap.get?_push_size _ rfl, rfl, rfl, rfl⟩
        refine wpAny_pyIter_gen hGO ?_
        have st₂ : Step s₁ s₂ := ⟨fun b o ho => Heap.get?_push_of_some _ (kp b o ho), rfl, ⟨fun j z hz => by
          have hj : j < s₁.gens.size := by
            by_cases q : j < s₁.gens.size
            · exact q
            · rw [Array.getElem?_eq_none (by omega)] at hz; cases hz
          show (s₁.gens.push (.fresh code))[j]? = some z
          rw [Array.getElem?_push, if_neg (by omega)]; exact hz, fun hb0 => hb0.push rfl⟩⟩
        have z₂ : s₂.heap.objs.size = s₁.heap.objs.size + 1 + 1 := by
          show (h'.push gObj).objs.size = _
          rw [Heap.size_push, zL]
        have R₂ := R₁.step st₂
        have T₂ : Tp c.mg c.mb c.hb s₂.heap := T₁.step st₂
        have s0n : ∀ b : Nat, s₁.heap.objs.size ≤ b → s₀.heap.get? b = .none := fun b hb' => by
          cases q : s₀.heap.get? b with
          | none => rfl
          | some o => exact absurd (Heap.lt_size (R₁.base.grow b o q)) (Nat.not_lt.mpr hb')
        have hbn : ∀ b : Nat, s₁.heap.objs.size ≤ b → c.hb.get? b = .none := fun b hb' => by
          cases q : c.hb.get? b with
          | none => rfl
          | some o => exact absurd (Heap.lt_size (T₁.keep b o q)) (Nat.not_lt.mpr hb')
        have hLoc : @LT.lt Nat _ c.env.locals s₁.heap.objs.size := (Fr.step hv.1).ns.lt
        have hLns : s₂.heap.Ns s₁.heap.objs.size (fun x => [(Str.ofString "addr", Value.str ⟨⟨l⟩⟩ t)].reverse.lookup x) := hns.push _
        refine forLoop_gen O T0 hn hk hn' hk' hb T (Lg := s₁.heap.objs.size) (g := s₁.gens.size) (Ls := Ls) (escL_flat _ _ _ _ hesc) ?_ (s0n _ (by rw [zL]; exact Nat.le_succ _)) _ (e := s₂.heap.objs.size + 1) (it := s₂.heap.objs.size) (gs := .fresh code) hF R₂ hGO ?_ rfl ?_ ⟨?_, ?_⟩
        · cases q : s₀.gens[s₁.gens.size]? with
          | none => rfl
          | some z =>
            have := R₁.base.gens.keep _ z q
            rw [Array.getElem?_eq_none (Nat.le_refl _)] at this; cases this
        · show (s₁.gens.push (.fresh code))[s₁.gens.size]? = _
          rw [Array.getElem?_push, if_pos rfl]
        · refine ⟨rfl, ?_⟩
          have hA1 : AOk c.A.in1 (0 + 1) := AOk.in1 (O.a.mono hd)
          exact g_start (d := 0) (s := s₂.setGen s₁.gens.size .running) (l := l) (t := t) T0 H hA1 hasc hesc rfl hLns T₂ (hbn _ (Nat.le_refl _))
        · intro b hP
          have hge : @LE.le Nat _ s₁.heap.objs.size b ∧ @Ne Nat b h'.objs.size := by
            rcases hP with rfl | rfl | rfl
            · exact ⟨Nat.le_refl _, by rw [zL]; exact Nat.ne_of_lt (Nat.lt_succ_self _)⟩
            · rw [z₂, zL]; exact ⟨by omega, by omega⟩
            · rw [z₂, zL]; exact ⟨by omega, by omega⟩
          exact ⟨s0n b hge.1, Nat.ne_of_gt (Nat.lt_of_lt_of_le hLoc hge.1), hge.2, hbn b hge.1⟩
        · intro b o hP ho xs nn
          rcases hP with rfl | rfl | rfl
          · obtain ⟨oL, es, ep, q1, q2, _⟩ := hLns
            rw [q1] at ho; cases ho
            rw [q2]; simp
          · exact absurd (Heap.lt_size ho) (Nat.not_lt.mpr (Nat.le_succ _))
          · exact absurd (Heap.lt_size ho) (Nat.lt_irrefl _)
    · cases hF
  · cases hF
end
end Mine
end

noncomputable section
namespace Mine
open PySem PyProof.Rows PySem.Builtin.Str

set_option maxRecDepth 100000 in
set_option maxHeartbeats 2000000 in
def stripP : { F : SF // ∀ (prog : Program) (w : World) (A : Around) (L a : Addr) (cd : Value) (mg mb : Str → Option Value) (hb : Heap) (d : Nat), AOk A (d + 1) → 2 ≤ d → Tp mg mb hb hb → DefIn mg hb 2 → Tf mg mb → (fcx prog w A (dName 3) (dScope 3) L a cd nm mg mb hb d).SS (dBody 3) F } := ⟨_, by
  intro prog w A L a cd mg mb hb d hA hd T0 D H
  have O : (fcx prog w A (dName 3) (dScope 3) L a cd nm mg mb hb d).Ok := fcx_ok hA rfl
  exact SS_cons (S_if (T_cmp op_notIn (E_str (l := [34]) rfl) (E_var O (x := 16) rfl rfl rfl) rfl) (SS_cons (S_ret (E_var O (x := 16) rfl rfl rfl)) SS_nil) SS_nil)
    (SS_cons (S_assign O (x := 17) rfl rfl E_int rfl)
    (SS_cons (S_assign O (x := 18) rfl rfl E_none rfl)
    (SS_cons (S_new O (x := 8) rfl rfl Fresh_nil rfl)
    (SS_cons (S_forGen O T0 D H hd (x := 19) (y := 20) rfl rfl rfl rfl rfl rfl rfl (E_var O (x := 16) rfl rfl rfl) rfl
      (SS_cons (S_if (T_cmp op_eq (E_var O (x := 20) rfl rfl rfl) (E_str (l := [34]) rfl) rfl)
        (SS_cons (S_if (T_cmp op_is (E_var O (x := 18) rfl rfl rfl) E_none rfl)
          (SS_cons (S_assign O (x := 18) rfl rfl (E_var O (x := 19) rfl rfl rfl) rfl) SS_nil)
          (SS_cons (S_if (T_cmp op_ne (E_var O (x := 17) rfl rfl rfl) (E_var O (x := 18) rfl rfl rfl) rfl)
             (SS_cons (S_append O (x := 8) rfl rfl rfl (E_slice (E_var O (x := 16) rfl rfl rfl) (P_some (E_var O (x := 17) rfl rfl rfl)) (P_some (E_var O (x := 18) rfl rfl rfl)) (fun _ _ => rfl)) rfl rfl rfl rfl rfl rfl) SS_nil) SS_nil)
          (SS_cons (S_assign O (x := 17) rfl rfl (E_bin op_add (E_var O (x := 19) rfl rfl rfl) E_int) rfl)
          (SS_cons (S_assign O (x := 18) rfl rfl E_none rfl) SS_nil)))) SS_nil) SS_nil) SS_nil) (fun _ => rfl))
    (SS_cons (S_if (T_cmp op_lt (E_var O (x := 17) rfl rfl rfl) (E_built O rfl H.len.1 H.len.2 rfl (Es_cons (E_var O (x := 16) rfl rfl rfl) Es_nil rfl) op_len rfl (fun _ => rfl)) rfl)
       (SS_cons (S_append O (x := 8) rfl rfl rfl (E_slice (E_var O (x := 16) rfl rfl rfl) (P_some (E_var O (x := 17) rfl rfl rfl)) P_none (fun _ _ => rfl)) rfl rfl rfl rfl rfl rfl) SS_nil) SS_nil)
    (SS_freeze (x := 8) (SS_cons (S_ret (E_methS rfl rfl rfl PySem.F.slot_str_join PySem.F.type_str_join (E_str (l := []) rfl) (Es_cons (E_var O (x := 8) rfl rfl rfl) Es_nil rfl) op_join join_str rfl (fun _ => rfl))) SS_nil)))))))⟩
def stripφ (vs : List MV) : Option MV := match vs with
  | [x] => retV (stripP.1 [(16, .val x)])
  | _ => .none
section
variable {prog : Program} {w : World} {mg mb : Str → Option Value} {hb : Heap} {d : Nat}
set_option maxRecDepth 100000 in
theorem strip_fn (T0 : Tp mg mb hb hb) (D2 : DefIn mg hb 2) (D : DefIn mg hb 3) (H : Tf mg mb) (hd : 2 ≤ d) : Fn prog w mg mb hb "_strip_quoted_realnames" (d + 1) stripφ := by
  obtain ⟨a, o, pm, cd, doc, h1, h2, h3, h4⟩ := D
  have key := fn_body (prog := prog) (w := w) (mb := mb) (nm := nm) (d := d) (F := stripP.1) h1 h2 h3 h4 (loc1 16) (fun vals => match vals with | [u] => [("addr", u)] | _ => []) ?_ (fun A L hA => stripP.2 prog w A L a cd mg mb hb d hA hd T0 D2 H) rfl rfl rfl (by decide +kernel)
  · exact key.of fun vs v hv => by
      unfold stripφ at hv
      split at hv
      · exact hv
      · cases hv
  · intro vs vals σ G hσ rv
    unfold loc1 at hσ
    split at hσ
    · cases hσ
      cases rv with
      | cons r1 rv =>
        cases rv
        refine ⟨rfl, locs (by kernel_rfl), fun x l hx => ?_, fun x v hx => ?_⟩
        · rw [getL_cons] at hx
          split at hx
          · cases hx
          · cases hx
        · rw [getL_cons] at hx
          split at hx
          · rename_i e; cases hx; subst e; exact ⟨_, by kernel_rfl, r1⟩
          · cases hx
    · cases hσ
end
end Mine
end

noncomputable section
namespace Mine
open PySem PyProof.Rows PySem.Builtin.Str

def pickN (bs : List (List Nat)) : List Int → Option (List (List Nat))
  | [] => some []
  | .ofNat i :: r => match Nat.ble i 1000000, nth bs i, pickN bs r with
    | true, some b, some q => some (b :: q)
    | _, _, _ => .none
  | .negSucc _ :: _ => .none
def textV (l b : List MV) : Option (List Nat) := match Nat.ble l.length 100000, intsOf l, strsOf b with
  | true, some is, some bs => match pickN bs is with
    | some ls => match Nat.ble (ls.foldl (fun n p => n + p.length + 0) 0) 100000 with
      | true => some (joinN [] ls)
      | false => .none
    | .none => .none
  | _, _, _ => .none
def textφ : List MV → Option MV
  | [.list l, .list b] => match textV l b with
    | some t => some (.str t)
    | .none => .none
  | _ => .none
theorem textV_some {l b : List MV} {t : List Nat} (h : textV l b = some t) : ∃ is bs ls, l.length ≤ 100000 ∧ intsOf l = some is ∧ strsOf b = some bs ∧ pickN bs is = some ls ∧ ls.foldl (fun n p => n + p.length + 0) 0 ≤ 100000 ∧ t = joinN [] ls := by
  unfold textV at h
  split at h
  · rename_i is bs h1 h2 h3
    split at h
    · rename_i ls h4
      split at h
      · rename_i h5
        cases h
        exact ⟨is, bs, ls, Nat.le_of_ble_eq_true h1, h2, h3, h4, Nat.le_of_ble_eq_true h5, rfl⟩
      · cases h
    · cases h
  · cases h
theorem textφ_some {vs : List MV} {v : MV} (h : textφ vs = some v) : ∃ l b t, vs = [.list l, .list b] ∧ textV l b = some t ∧ v = .str t := by
  unfold textφ at h
  split at h
  · rename_i l b
    split at h
    · rename_i t ht; cases h; exact ⟨l, b, t, rfl, ht, rfl⟩
    · cases h
  · cases h

theorem kp_refl (s : Shared) : Keeps s s := ⟨s.heap, s.toks, rfl, fun _ _ h => h⟩
theorem kp_step {s s' : Shared} (k : Keeps s s') : Step s s' := by
  obtain ⟨h', tk, rfl, hk⟩ := k
  exact ⟨hk, rfl, GK.refl _⟩
/-- as Fn, and nothing but the heap and the marks is turned -/
structure FnK (prog : Program) (w : World) (mg mb : Str → Option Value) (hb : Heap) (n : Str) (d : Nat) (φ : List MV → Option MV) : Prop where
  ok : ∃ a o fd, mg n = some (.ref a) ∧ hb.get? a = some o ∧ o.data = .func fd ∧
    ∀ A, AOk A d → ∀ vs v, φ vs = some v → ∀ s vals, Tp mg mb hb s.heap → VReps (fun b o => s.heap.get? b = some o) vals vs →
      codeAny (model prog w) A (.call (.ref a) ⟨vals, []⟩) (fun r s' => ∃ val, r = .ok (.ret val) ∧ Keeps s s' ∧ VRep (fun _ _ => False) val v) s
theorem FnK.fn {prog : Program} {w : World} {mg mb : Str → Option Value} {hb : Heap} {n : Str} {d : Nat} {φ : List MV → Option MV} (h : FnK prog w mg mb hb n d φ) : Fn prog w mg mb hb n d φ := by
  obtain ⟨a, o, fd, h1, h2, h3, h4⟩ := h.ok
  exact ⟨a, o, fd, h1, h2, h3, fun A hA vs v hv s vals T rv => codeAny_mono (h4 A hA vs v hv s vals T rv) fun r s' ⟨val, e, k, q⟩ => ⟨val, e, kp_step k, q⟩⟩

theorem VReps.two {G : Addr → Obj → Prop} {vs : List Value} {x y : MV} (h : VReps G vs [x, y]) : ∃ u v, vs = [u, v] ∧ VRep G u x ∧ VRep G v y := by
  cases h with
  | cons r rs => cases rs with
    | cons r' rs => cases rs; exact ⟨_, _, rfl, r, r'⟩
theorem VRep.isL {G : Addr → Obj → Prop} {v : Value} {l : List MV} (h : VRep G v (.list l)) : ∃ a items n, v = .ref a ∧ G a ⟨.type "list", .none, .seq ⟨items⟩ n, #[]⟩ ∧ VReps G items l := by
  cases h with
  | list g r => exact ⟨_, _, _, rfl, g, r⟩
theorem pickN_get {bs : List (List Nat)} {is : List Int} {ls : List (List Nat)} (h : pickN bs is = some ls) : ∀ (j : Nat) i, is[j]? = some i → ∃ k : Nat, i = k ∧ k ≤ 1000000 ∧ ∃ b, bs[k]? = some b ∧ ls[j]? = some b := by
  induction is generalizing ls with
  | nil => intro j i hj; cases hj
  | cons i is ih =>
    cases i with
    | negSucc => cases h
    | ofNat i =>
      have h : (match Nat.ble i 1000000, nth bs i, pickN bs is with | true, some b, some q => some (b :: q) | _, _, _ => .none) = some ls := h
      split at h
      · rename_i b q h1 h2 h3
        cases h
        intro j k hj
        cases j with
        | zero => cases hj; exact ⟨i, rfl, Nat.le_of_ble_eq_true h1, b, by rw [← nth_eq]; exact h2, rfl⟩
        | succ j => exact ih h3 j k hj
      · cases h
theorem pickN_len {bs : List (List Nat)} {is : List Int} {ls : List (List Nat)} (h : pickN bs is = some ls) : ls.length = is.length := by
  induction is generalizing ls with
  | nil => cases h; rfl
  | cons i is ih =>
    cases i with
    | negSucc => cases h
    | ofNat i =>
      have h : (match Nat.ble i 1000000, nth bs i, pickN bs is with | true, some b, some q => some (b :: q) | _, _, _ => .none) = some ls := h
      split at h
      · rename_i b q h1 h2 h3
        cases h
        simp [ih h3]
      · cases h
theorem VReps.at {G : Addr → Obj → Prop} {vs : List Value} {xs : List MV} (h : VReps G vs xs) {i : Nat} {v : Value} (hv : vs[i]? = some v) : ∃ x, xs[i]? = some x ∧ VRep G v x := by
  induction vs generalizing xs i with
  | nil => cases hv
  | cons w vs ih =>
    cases h with
    | cons a r =>
      cases i with
      | zero => cases hv; exact ⟨_, rfl, a⟩
      | succ i => exact ih r hv
end Mine
end

noncomputable section
namespace Mine
open PySem PyProof.Rows PySem.Builtin.Str
section
variable {prog : Program} {w : World} {mg mb : Str → Option Value} {hb : Heap} {d : Nat}
def atB (bs : List (List Nat)) (v y : Value) : Prop := ∃ i : Nat, ∃ t b u, v = .int (i : Int) t ∧ bs[i]? = some b ∧ y = .str ⟨⟨b⟩⟩ u
theorem paired_strs {bs : List (List Nat)} {is : List Int} {ls : List (List Nat)} (h : pickN bs is = some ls) : ∀ {vs ys : List Value}, IntsAre vs is → Paired (atB bs) vs ys → ∃ q : List (Str × Tok), ys = strValues q ∧ q.map (·.1) = ls.map fun l => (⟨⟨l⟩⟩ : Str) := by
  induction is generalizing ls with
  | nil =>
    intro vs ys hi hp
    cases h
    cases hi
    cases hp
    exact ⟨[], rfl, rfl⟩
  | cons i is ih =>
    intro vs ys hi hp
    cases hi with
    | cons _ t hi =>
      cases hp with
      | cons ha hp =>
        cases i with
        | negSucc => cases h
        | ofNat i =>
          have h : (match Nat.ble i 1000000, nth bs i, pickN bs is with | true, some b, some q => some (b :: q) | _, _, _ => .none) = some ls := h
          split at h
          · rename_i b q h1 h2 h3
            cases h
            obtain ⟨q', rfl, e⟩ := ih h3 hi hp
            obtain ⟨j, t', b', u, e1, e2, rfl⟩ := ha
            injection e1 with e1 _
            have e1 : (i : Int) = (j : Int) := e1
            have : i = j := by omega
            subst this
            rw [nth_eq] at h2
            rw [h2] at e2; cases e2
            exact ⟨(⟨⟨b⟩⟩, u) :: q', rfl, by simp [e]⟩
          · cases h
theorem intsOf_at {xs : List MV} {is : List Int} (h : intsOf xs = some is) {i : Nat} {x : MV} (hx : xs[i]? = some x) : ∃ k, x = .int k ∧ is[i]? = some k := by
  induction xs generalizing is i with
  | nil => cases hx
  | cons y xs ih =>
    cases y with
    | int k =>
      have h : (match intsOf xs with | some is => some (k :: is) | .none => .none) = some is := h
      cases h1 : intsOf xs with
      | none => rw [h1] at h; cases h
      | some is' =>
        rw [h1] at h; cases h
        cases i with
        | zero => cases hx; exact ⟨k, rfl, rfl⟩
        | succ i => exact ih h1 hx
    | _ => cases h
theorem strsOf_at {xs : List MV} {is : List (List Nat)} (h : strsOf xs = some is) {i : Nat} {b : List Nat} (hx : is[i]? = some b) : xs[i]? = some (.str b) := by
  induction xs generalizing is i with
  | nil => cases h; cases hx
  | cons y xs ih =>
    cases y with
    | str k =>
      have h : (match strsOf xs with | some is => some (k :: is) | .none => .none) = some is := h
      cases h1 : strsOf xs with
      | none => rw [h1] at h; cases h
      | some is' =>
        rw [h1] at h; cases h
        cases i with
        | zero => cases hx; rfl
        | succ i => exact ih h1 hx
    | _ => cases h
set_option maxRecDepth 100000 in
theorem text_fn (D : DefIn mg hb 17) : FnK prog w mg mb hb "_law_text" (d + 1) textφ := by
  obtain ⟨a, o, pm, cd, doc, h1, h2, h3, h4⟩ := D
  refine ⟨a, o, _, h1, h2, h3, fun A hA vs v hv s vals T rv => ?_⟩
  obtain ⟨l, b, t, rfl, ht, rfl⟩ := textφ_some hv
  obtain ⟨is, bs, ls, hlen, hi, hbs, hp, hsum, rfl⟩ := textV_some ht
  obtain ⟨u1, u2, rfl, r1, r2⟩ := rv.two
  obtain ⟨au, iu, nu, rfl, gu, ru⟩ := r1.isL
  obtain ⟨ab, ib, nb, rfl, gb, rb⟩ := r2.isL
  refine call_cells_ret (binds := [("kinds", Value.ref au), ("beads", Value.ref ab)]) (by have := hA.depth; omega) (T.keep _ _ h2) h3 T.nolimit (h4.keeps T.keep) rfl ?_ (fun h₁ tk F X => ?_) rfl rfl rfl
  · intro x hx
    rcases List.mem_cons.mp hx with rfl | hx
    · exact .inl (by kernel_rfl)
    · rw [List.mem_singleton.mp hx]
      exact .inr ⟨by kernel_rfl, by kernel_rfl⟩
  have hl₁ : h₁.IsList au ⟨iu⟩ := ⟨_, F.keep _ _ gu, rfl, nu, rfl⟩
  refine wpAny_execs_cons (wpAny_Return_some (wpAny_Call_method (T := "str") (id := "str.join") rfl rfl rfl PySem.F.plainAttrs_str PySem.F.slot_str_join PySem.F.type_str_join (Calls.Constant_str ?_)))
  refine ⟨typeIs_str _ _ _, fun _ e => (nomatch e), ?_⟩
  refine callWith_method1 (spliced_more (wpAny_ListComp_free (cl := [("beads", s.heap.objs.size + 1)]) (fun _ => true) (atB bs) ?_ ?_ ?_ ?_ ?_ ?_ ?_) rfl) rfl rfl
  · rfl
  · decide +kernel
  · rfl
  · decide +kernel
  · rfl
  · refine ldLoc F (v := .ref au) (by kernel_rfl) ?_ 
    refine wpAny_pyIter_list hl₁ ?_
    have hlt : au < h₁.objs.size := Heap.lt_size (F.keep _ _ gu)
    have hII : (⟨iu⟩ : Array Value).size = l.length := ru.length
    refine ⟨h₁.objs.size, [h₁.objs.size, au], [h₁.objs.size], (⟨iu⟩ : Array Value).size, _, _, rfl, Walks.list (A := A.deeper (envOfC (dName 17) (dScope 17) s.heap.objs.size a cd)) hA.handled h₁.objs.size au (Nat.ne_of_lt hlt) ⟨iu⟩, ?_, ⟨⟨_, Heap.get?_push_size _ rfl, rfl, rfl⟩, hl₁.push _⟩, fun b hb => ?_, ⟨?_, ?_⟩, ?_⟩
    · rw [hII]; exact Nat.le_trans hlen sizeLine_big
    · show b < (h₁.push _).objs.size
      rw [Heap.size_push]
      rcases List.mem_cons.mp hb with rfl | hb
      · exact Nat.lt_succ_self _
      · rw [List.mem_singleton.mp hb]; exact Nat.lt_succ_of_lt hlt
    · intro C i v s₃ m₃ E' _ _ _ _ _ _
      exact wpAny_pure ⟨rfl, kp_refl _⟩
    · intro C i v s₃ m₃ E' hC hv _ hn hm hk _
      obtain ⟨x, hx, rx⟩ := ru.at (show iu[i]? = some v by simpa using hv)
      obtain ⟨ki, hki, rki⟩ := intsOf_at hi hx
      subst hki
      obtain ⟨k, rfl, hk6, bb, hbb, hlb⟩ := pickN_get hp i ki rki
      cases rx with
      | int _ t =>
        have old : ∀ b o, h₁.get? b = some o → s₃.heap.get? b = some o := fun b o ho => hk b o (by simp; exact Nat.ne_of_lt (Heap.lt_size ho)) (Heap.get?_push_of_some _ ho)
        have hcell : s₃.heap.IsCell (s.heap.objs.size + 1) (some (.ref ab)) := (show h₁.IsCell (s.heap.objs.size + 1) (some (.ref ab)) from X.cell "beads" _ (by kernel_rfl)).keeps old
        have hlb : s₃.heap.IsList ab ⟨ib⟩ := ⟨_, old _ _ (F.keep _ _ gb), rfl, nb, rfl⟩
        obtain ⟨vb, hvb, rvb⟩ := rb.get (strsOf_at hbs hbb)
        refine Subscript_ (ldCellK (c := s.heap.objs.size + 1) (by kernel_rfl) hcell ?_)
        refine ldVarK hn hm ?_
        cases rvb with
        | str _ u =>
          exact tail_any (T := "list") hlb.typeIs slot_list_getitem.lookup (wpAny_getItem_list hlb (by omega) (by omega) (x := .str ⟨⟨bb⟩⟩ u) (by simpa using hvb) ⟨⟨k, t, bb, u, rfl, hbb, rfl⟩, kp_refl _⟩) rfl
    · intro D h' tk' ys vs hD hyl hyp hvl hvs hpair hkeep
      have hvv : vs = iu := by
        apply List.ext_getElem?
        intro j
        by_cases q : j < vs.length
        · have := hvs j vs[j] (by simp [q])
          rw [List.getElem?_eq_getElem q]
          exact (by simpa using this.symm)
        · rw [List.getElem?_eq_none (by omega), List.getElem?_eq_none (by rw [hvl] at q; simpa using q)]
      subst hvv
      rw [List.filter_eq_self.mpr (fun _ _ => rfl)] at hpair
      obtain ⟨q, hq, e⟩ := paired_strs hp (ru.ints hi) hpair
      refine spliced_none ?_
      have hyl' : h'.IsList D (strValues q).toArray := by rw [← hq]; simpa using hyl
      have kp : ∀ b o, s.heap.get? b = some o → h'.get? b = some o := fun b o ho => hkeep b o (by simp; exact Nat.ne_of_lt (Heap.lt_size (F.keep b o ho))) (Heap.get?_push_of_some _ (F.keep b o ho))
      refine SC.join (D := D) (l := q) (texts := ls.map fun l => (⟨⟨l⟩⟩ : Str)) hyl' e ?_ fun t' k => ?_
      · unfold JoinOk
        have ef : (ls.map fun l => (⟨⟨l⟩⟩ : Str)).toArray.foldl (fun x1 x2 => x1 + x2.length + (Str.ofString "" : Str).length) 0 = ls.foldl (fun n p => n + p.length + 0) 0 := by
          rw [List.foldl_toArray, List.foldl_map]; rfl
        rw [ef]
        show (!decide (ls.foldl (fun n p => n + p.length + 0) 0 > sizeLine)) = true
        rw [decide_eq_false (Nat.not_lt.mpr (Nat.le_trans hsum sizeLine_big))]; rfl
      · refine ⟨_, rfl, ⟨h', k, rfl, kp⟩, ?_⟩
        have e2 : Txt.join (Str.ofString "") (ls.map fun l => (⟨⟨l⟩⟩ : Str)) = ⟨⟨joinN [] ls⟩⟩ := glued_eq [] ls
        rw [e2]
        exact .str _ _
  · intro _; rfl
end
end Mine
end

noncomputable section
namespace Mine
open PySem PyProof.Rows PySem.Builtin.Str
set_option maxRecDepth 100000
theorem plainAttrs_rp : PlainAttrs "re.Pattern" :=
  ⟨⟨"object.__getattribute__", by rw [typeLookup_type, builtinLookup_eq_fast]; kernel_rfl, by decide +kernel⟩, by rw [typeLookup_type, builtinLookup_eq_fast]; kernel_rfl⟩
theorem slot_rp_sub : Slot "re.Pattern" "sub" "re.Pattern.sub" :=
  .of (owner := "re.Pattern") (n := "sub") (by rw [typeLookup_type, builtinLookup_eq_fast]; kernel_rfl) (by decide +kernel) (by decide +kernel) (by decide +kernel)
    (by first | exact .inl (by decide +kernel) | exact .inr (by decide +kernel)) (by rw [isSubtype_type]; kernel_rfl)
theorem type_rp_sub : typeOf (.builtin "re.Pattern.sub") = pure (.type "method_descriptor") := by show builtinType _ = _; rw [builtinType_eq_fast]; kernel_rfl
end Mine
namespace Mine
open PySem PyProof.Rows PySem.Builtin.Str
set_option maxRecDepth 100000
theorem entry_rp_sub : entryFor table "re.Pattern.sub" = some Builtin.«re.Pattern.sub» := entryFor_of_tree (by kernel_rfl)
theorem entry_rp_loop : entryFor table "re.Pattern.sub.loop" = some Builtin.«re.Pattern.sub.loop» := entryFor_of_tree (by kernel_rfl)
theorem args_rp_sub (a b c : Value) : argsOk "re.Pattern.sub" ⟨[a, b, c], []⟩ := by unfold argsOk; kernel_rfl
theorem no_call_str : typeLookup (.type "str") "__call__" = pure none := by rw [typeLookup_type, builtinLookup_eq_fast]; kernel_rfl
end Mine
end

noncomputable section
namespace Mine
open PySem PyProof.Rows PySem.Builtin.Str PySem.Builtin.Re

def mturns : Nat → Sre.M → Option Sre.M
  | 0, _ => .none
  | n + 1, m => match (m.runFor 4).outcome with
    | some _ => some (m.runFor 4)
    | .none => mturns n (m.runFor 4)
/-- where the next match lies: its begin and its end -/
def nextF (code text : Array Nat) (start : Nat) (must : Bool) : Option (Option (Nat × Nat)) :=
  match mturns 1000 (Sre.forSearch code text 0 start text.size must) with
  | some m => match m.outcome with
    | some .matched => some (some (m.start, m.handed))
    | some .failed => some .none
    | _ => .none
  | .none => .none
def code1 : Array Nat := #[14, 4, 0, 1, 1, 6, 1, 16, 46, 1]
def code2 : Array Nat := #[14, 9, 4, 1, 2, 16, 10, 16, 13, 0, 7, 7, 16, 13, 16, 10, 15, 18, 5, 16, 10, 15, 13, 11, 16, 13, 5, 5, 0, 16, 10, 1, 15, 2, 0, 1]
section
variable {M : Model} {A : Around} {E : Value → Shared → Prop} {s : Shared}
theorem drive_wp {Q : Sre.M → Shared → Prop} : ∀ (n N : Nat) (m m' : Sre.M), n ≤ N → mturns n m = some m' → m'.outcome.isSome = true → Q m' s → wpAny M A (reDrive N m) Q E s := by
  intro n
  induction n with
  | zero => intro N m m' _ h; cases h
  | succ n ih =>
    intro N m m' hN h ho hQ
    cases N with
    | zero => omega
    | succ N =>
      unfold reDrive
      have h : (match (m.runFor 4).outcome with | some _ => some (m.runFor 4) | .none => mturns n (m.runFor 4)) = some m' := h
      show wpAny M A (if (m.runFor 4).outcome.isSome = true then pure (m.runFor 4) else (rule "sre.turn" >>= fun _ => reDrive N (m.runFor 4))) Q E s
      cases hq : (m.runFor 4).outcome with
      | some x =>
        rw [hq] at h; cases h
        rw [if_pos (show (some x).isSome = true from rfl)]
        exact wpAny_pure hQ
      | none =>
        rw [hq] at h
        rw [if_neg (by simp)]
        exact wpAny_bind (wpAny_rule (ih N _ m' (by omega) h ho hQ))
theorem next_wp {t : ReTarget} {start : Nat} {must : Bool} {r : Option (Nat × Nat)} {Q : Option Sre.M → Shared → Prop} (hk : t.groups = 0) (hl : t.lim = t.text.size)
    (h : nextF t.code t.text start must = some r) (hQ : ∀ o : Option Sre.M, o.map (fun m => (m.start, m.handed)) = r → Q o s) : wpAny M A (reNextFound t start must) Q E s := by
  unfold nextF at h
  unfold reNextFound reRunToEnd
  rw [hk, hl]
  split at h
  · rename_i m' hm
    have ho : m'.outcome.isSome = true := by
      cases hq : m'.outcome with
      | none => rw [hq] at h; cases h
      | some _ => rfl
    refine wpAny_bind (drive_wp 1000 _ _ m' ?_ hm ho ?_)
    · exact Nat.le_of_ble_eq_true rfl
    refine wpAny_bind (wpAny_forIn_list _ (fun _ _ s' => s' = s) (fun _ s' => _) (fun x rest b s' hs => ?_) (fun b s' hs => ?_) _ _ rfl)
    · subst hs
      split
      · exact wpAny_bind (wpAny_rule (wpAny_pure rfl))
      · exact wpAny_pure rfl
    · subst hs
      split at h
      · rename_i hq; cases h
        rw [hq]
        exact wpAny_pure (hQ _ rfl)
      · rename_i hq; cases h
        rw [hq]
        exact wpAny_pure (hQ _ rfl)
      · cases h
  · cases h
end
end Mine
end

noncomputable section
namespace Mine
open PySem PyProof.Rows PySem.Builtin.Str PySem.Builtin.Re

def RPat (h : Heap) (P : Addr) (code : Array Nat) : Prop :=
  ∃ o vs T oT items n, h.get? P = some o ∧ (o.cls = .type "re.Pattern" ∧ o.dict = .none) ∧ o.data = .fields vs ∧ reRawNat (vs.getD 2 .none) = 0 ∧ reRawNat (vs.getD 6 .none) = 0 ∧ vs.getD 5 .none = .ref T ∧
    h.get? T = some oT ∧ oT.cls = .type "tuple" ∧ oT.data = .seq items n ∧ (items.map reRawOf).map (·.toNat) = code
theorem RPat.keeps {h h' : Heap} {P D : Addr} {code : Array Nat} {items : List Value} {n : Nat} (x : RPat h P code) (hD : h.get? D = some (lobj items n)) (hk : ∀ b o, b ≠ D → h.get? b = some o → h'.get? b = some o) : RPat h' P code := by
  obtain ⟨o, vs, T, oT, its, m, h1, h2, h3, h4, h5, h6, h7, h8, h9, h10⟩ := x
  refine ⟨o, vs, T, oT, its, m, hk _ _ (fun e => ?_) h1, h2, h3, h4, h5, h6, hk _ _ (fun e => ?_) h7, h8, h9, h10⟩
  · rw [e, hD] at h1; cases h1; exact absurd h2.1 (by simp)
  · rw [e, hD] at h7; cases h7; exact absurd h8 (by simp)
theorem RPat.mono {h h' : Heap} {P : Addr} {code : Array Nat} (x : RPat h P code) (hk : ∀ b o, h.get? b = some o → h'.get? b = some o) : RPat h' P code := by
  obtain ⟨o, vs, T, oT, its, m, h1, h2, h3, h4, h5, h6, h7, h8, h9, h10⟩ := x
  exact ⟨o, vs, T, oT, its, m, hk _ _ h1, h2, h3, h4, h5, h6, hk _ _ h7, h8, h9, h10⟩
section
variable {M : Model} {A : Around} {E : Value → Shared → Prop} {s : Shared}
theorem whole_wp {P : Addr} {code : Array Nat} {x : Str} {t : Tok} {Q : ReTarget → Shared → Prop} (R : RPat s.heap P code) (hQ : Q ⟨.ref P, .str x t, code, x.cps, 0, 0, 0, x.cps.size⟩ s) : wpAny M A (reWholeTarget (.ref P) (.str x t)) Q E s := by
  obtain ⟨o, vs, T, oT, its, m, h1, h2, h3, h4, h5, h6, h7, h8, h9, h10⟩ := R
  unfold reWholeTarget
  refine wpAny_bind (wpAny_fieldsOf h1 h3 ?_)
  refine wpAny_bind (wpAny_of_eq (a := (x.cps, 0)) rfl ?_)
  simp only [h5, beq_self_eq_true, Bool.true_and, show ((0 : Nat) == 1) = false from rfl, Bool.false_eq_true, if_false, Bool.and_false]
  refine wpAny_bind (wpAny_of_eq (a := ()) rfl ?_)
  unfold reRawItems
  rw [h6]
  refine wpAny_bind (wpAny_bind (wpAny_seqItems h7 h9 (wpAny_pure (wpAny_pure ?_))))
  rw [h4]
  show Q ⟨_, _, (its.map reRawOf).map (·.toNat), _, _, _, _, _⟩ s
  rw [h10]
  exact hQ
end
def ext (l : List Nat) (b e : Nat) : List Nat := (l.take e).drop b
def subL (code : Array Nat) (repl text : List Nat) : Nat → Nat → Bool → Option (List (List Nat))
  | 0, _, _ => .none
  | n + 1, start, must => match nextF code ⟨text⟩ start must with
    | .none => .none
    | some .none => match Nat.blt start text.length with
      | true => some [ext text start text.length]
      | false => some []
    | some (some (b, e)) => match subL code repl text n e (Nat.beq e b) with
      | .none => .none
      | some r => match Nat.blt start b with
        | true => some (ext text start b :: repl :: r)
        | false => some (repl :: r)
section
variable {M : Model} {A : Around} {E : Value → Shared → Prop} {s : Shared}
theorem slice_wp {l : List Nat} {b e : Nat} {Q : Value → Shared → Prop} (hl : l.length ≤ 1000) (hQ : Q (.str ⟨⟨ext l b e⟩⟩ s.toks) { s with toks := s.toks + 1 }) : wpAny M A (reSlice ⟨l⟩ 0 b e) Q E s := by
  unfold reSlice
  rw [if_pos (show ((0 : Nat) == 0) = true from rfl)]
  have e1 : (⟨(⟨l⟩ : Array Nat).extract b e⟩ : Str) = ⟨⟨ext l b e⟩⟩ := by
    congr 1
    rw [List.extract_toArray]
    unfold ext
    rw [List.drop_take]
  rw [e1]
  refine wpAny_mkStr hQ ?_
  show (ext l b e).length ≤ sizeLine
  unfold ext
  rw [List.length_drop, List.length_take]
  exact Nat.le_trans (by omega) sizeLine_big
theorem push_wp {D : Addr} {items : List Value} {n : Nat} {x : Value} {Q : Unit → Shared → Prop} (ho : s.heap.get? D = some (lobj items n)) (hz : items.length ≤ 100000)
    (hQ : ∀ h' n', h'.get? D = some (lobj (items ++ [x]) n') → Heap.SameBut D s.heap h' → Q () { s with heap := h' }) : wpAny M A (updateSeq D (fun a => a.push x)) Q E s := by
  obtain ⟨n', hn'⟩ := upd_get ho (·.push x)
  refine wpAny_updateSeq ho rfl (hQ _ n' ?_ (Heap.SameBut.update ..)) ?_ ?_
  · simpa using hn'
  · show items.length ≤ sizeLine
    exact Nat.le_trans hz sizeLine_big
  · show ((⟨items⟩ : Array Value).push x).size ≤ sizeLine + 1
    rw [Array.size_push]
    exact Nat.succ_le_succ (Nat.le_trans hz sizeLine_big)
end
section
variable {prog : Program} {w : World} {A : Around} {E : Value → Shared → Prop}
theorem tail_wp {text : List Nat} {D : Addr} {s : Shared} {q : List (Str × Tok)} {c : Nat} {Q : Fin → Shared → Prop} (hD : s.heap.get? D = some (lobj (strValues q) c)) (htl : text.length ≤ 1000)
    (hj : q.foldl (fun n p => n + p.1.length + 0) 0 ≤ 100000)
    (hQ : ∀ h' tk u, (∀ b o, s.heap.get? b = some o → h'.get? b = some o) → Q (.done (.ret (.str ⟨⟨joinN [] (q.map fun p => p.1.cps.toList)⟩⟩ u))) { s with heap := h', toks := tk }) :
    wpAny (model prog w) A (do
      let joiner ← reSlice ⟨text⟩ 0 0 0
      let its ← seqItems? (Value.ref D)
      if (its.getD #[]).isEmpty = true then do
        let text ← pure joiner
        ret text
      else do
        let text ← call (Value.builtin "str.join") [joiner, Value.ref D]
        ret text) Q E s := by
  refine wpAny_bind (slice_wp htl ?_)
  refine wpAny_bind (wpAny_seqItems (s := { s with toks := s.toks + 1 }) hD rfl ?_)
  have e0 : ext text 0 0 = [] := by simp [ext]
  rw [e0]
  cases q with
  | nil =>
    rw [if_pos (show ((some (⟨strValues []⟩ : Array Value)).getD #[]).isEmpty = true from rfl)]
    exact wpAny_bind (wpAny_pure (wpAny_pure (hQ s.heap _ _ fun _ _ h => h)))
  | cons p q =>
    rw [if_neg (by simp [strValues])]
    refine wpAny_bind (SC.join (D := D) (l := p :: q) (texts := (p :: q).map (·.1)) ⟨_, hD, rfl, c, rfl⟩ rfl ?_ fun t' k => wpAny_pure ?_)
    · unfold JoinOk
      have ef : ((p :: q).map (·.1)).toArray.foldl (fun x1 x2 => x1 + x2.length + (⟨⟨[]⟩⟩ : Str).length) 0 = (p :: q).foldl (fun n p => n + p.1.length + 0) 0 := by
        rw [List.foldl_toArray, List.foldl_map]; rfl
      rw [ef]
      show (!decide ((p :: q).foldl (fun n p => n + p.1.length + 0) 0 > sizeLine)) = true
      rw [decide_eq_false (Nat.not_lt.mpr (Nat.le_trans hj sizeLine_big))]; rfl
    · have e2 : Txt.join ⟨⟨[]⟩⟩ ((p :: q).map (·.1)) = ⟨⟨joinN [] ((p :: q).map fun p => p.1.cps.toList)⟩⟩ := by
        have := glued_eq [] ((p :: q).map fun p => p.1.cps.toList)
        rw [List.map_map] at this
        exact this
      rw [e2]
      exact hQ s.heap _ _ fun _ _ h => h
theorem sub_loop {P : Addr} {code : Array Nat} {text repl : List Nat} {t tr : Tok} : ∀ (n : Nat) (start : Nat) (must : Bool) (k : Nat) (ps : List (List Nat)), subL code repl text n start must = some ps →
    ∀ (s : Shared) (D : Addr) (q : List (Str × Tok)) (c : Nat) (R : Result → Shared → Prop), RPat s.heap P code → s.heap.get? D = some (lobj (strValues q) c) → text.length ≤ 1000 → q.length + ps.length ≤ 10000 →
    (q.map (fun p => p.1.cps.toList) ++ ps).foldl (fun n p => n + p.length + 0) 0 ≤ 100000 →
    (∀ h' tk u, (∀ b o, b ≠ D → s.heap.get? b = some o → h'.get? b = some o) → R (.ok (.ret (.str ⟨⟨joinN [] (q.map (fun p => p.1.cps.toList) ++ ps)⟩⟩ u))) { s with heap := h', toks := tk }) →
    codeAny (model prog w) A (.builtin "re.Pattern.sub.loop" ⟨[.ref P, .str ⟨⟨text⟩⟩ t, .str ⟨⟨repl⟩⟩ tr, rawInt 0, rawInt 0, rawInt k, rawInt start, rawInt start, .bool must, .ref D, .bool false], []⟩) R s := by
  intro n
  induction n with
  | zero => intro start must k ps h; cases h
  | succ n ih =>
    intro start must k ps h s D q c R hP hD htl hql hjs hR
    refine codeAny_builtin entry_rp_loop ?_
    rw [Around.under_plainId (by decide +kernel)]
    unfold Builtin.«re.Pattern.sub.loop»
    refine wpAny_bind (whole_wp hP ?_)
    dsimp only [rawInt]
    simp only [show ((0 : Int) == 0) = true from rfl, show ((0 : Int) != 0) = false from rfl, Bool.false_and, Bool.false_eq_true, if_false, if_true, Int.toNat_natCast, show ((0 : Nat) == 0) = true from rfl, show ((0 : Int) == 1) = false from rfl]
    refine wpAny_bind (wpAny_of_eq (a := ()) rfl ?_)
    have h : (match nextF code ⟨text⟩ start must with
      | .none => .none
      | some .none => (match Nat.blt start text.length with | true => some [ext text start text.length] | false => some [])
      | some (some (b, e)) => (match subL code repl text n e (Nat.beq e b) with
        | .none => .none
        | some r => (match Nat.blt start b with | true => some (ext text start b :: repl :: r) | false => some (repl :: r)))) = some ps := h
    cases hnx : nextF code ⟨text⟩ start must with
    | none => rw [hnx] at h; cases h
    | some r =>
      rw [hnx] at h
      refine wpAny_bind (next_wp (r := r) rfl rfl hnx fun o ho => ?_)
      cases r with
      | none =>
        cases o with
        | some m => cases ho
        | none =>
          dsimp only at h ⊢
          by_cases hlt : start < text.length
          · rw [show Nat.blt start text.length = true from Nat.ble_eq_true_of_le hlt] at h
            cases h
            rw [if_pos (show start < (⟨text⟩ : Array Nat).size from hlt)]
            refine wpAny_bind (slice_wp htl ?_)
            refine wpAny_bind (push_wp (s := { s with toks := s.toks + 1 }) hD (by unfold strValues; rw [List.length_map]; omega) fun h' n' hD' hs => ?_)
            have e1 : strValues q ++ [Value.str ⟨⟨ext text start (⟨text⟩ : Array Nat).size⟩⟩ s.toks] = strValues (q ++ [(⟨⟨ext text start text.length⟩⟩, s.toks)]) := by simp [strValues]
            rw [e1] at hD'
            refine tail_wp hD' htl ?_ fun h'' tk u hk => ?_
            · rw [List.foldl_append, List.foldl_map] at hjs
              rw [List.foldl_append]; exact hjs
            · rw [List.map_append]
              exact hR h'' tk u fun b o hb ho => hk b o ((hs.2 b hb).trans ho)
          · rw [show Nat.blt start text.length = false from by cases hq : Nat.blt start text.length with | false => rfl | true => exact absurd (Nat.le_of_ble_eq_true hq) hlt] at h
            cases h
            rw [if_neg (show ¬ start < (⟨text⟩ : Array Nat).size from hlt)]
            refine tail_wp hD htl ?_ fun h'' tk u hk => ?_
            · rw [List.append_nil, List.foldl_map] at hjs
              exact hjs
            · rw [List.append_nil] at hR
              exact hR h'' tk u fun b o hb ho => hk b o ho
      | some p =>
        obtain ⟨b, e⟩ := p
        cases o with
        | none => cases ho
        | some m =>
          have ho : (m.start, m.handed) = (b, e) := by simpa using ho
          have hb : m.start = b := congrArg Prod.fst ho
          have he : m.handed = e := congrArg Prod.snd ho
          dsimp only at h ⊢
          rw [hb, he]
          rw [show (e == b) = Nat.beq e b from by rw [beq_dec]; rfl]
          have fin : ∀ (s' : Shared) (q' : List (Str × Tok)) (c' : Nat) (r : List (List Nat)), subL code repl text n e (Nat.beq e b) = some r → (∀ b o, b ≠ D → s.heap.get? b = some o → s'.heap.get? b = some o) → (∃ h tk, s' = { s with heap := h, toks := tk }) → s'.heap.get? D = some (lobj (strValues q') c') →
              q'.map (fun p => p.1.cps.toList) ++ repl :: r = q.map (fun p => p.1.cps.toList) ++ ps → q'.length + r.length + 1 = q.length + ps.length →
              wpAny (model prog w) A.in1 (do
                let item ← pure (Value.str ⟨⟨repl⟩⟩ tr)
                if (item != Value.none) = true then do
                  updateSeq D fun x => x.push item
                  again (Code.builtin "re.Pattern.sub.loop" { pos := [Value.ref P, Value.str ⟨⟨text⟩⟩ t, Value.str ⟨⟨repl⟩⟩ tr, Value.int 0 0, Value.int 0 0, Value.int (↑k + 1) 0, Value.int ↑e 0, Value.int ↑e 0, Value.bool (Nat.beq e b), Value.ref D, Value.bool false] })
                else
                  again (Code.builtin "re.Pattern.sub.loop" { pos := [Value.ref P, Value.str ⟨⟨text⟩⟩ t, Value.str ⟨⟨repl⟩⟩ tr, Value.int 0 0, Value.int 0 0, Value.int (↑k + 1) 0, Value.int ↑e 0, Value.int ↑e 0, Value.bool (Nat.beq e b), Value.ref D, Value.bool false] }))
              (fun fin s' => match fin with | .done f => R (.ok f) s' | .again c' => c'.quiet = true ∧ codeAny (model prog w) A c' R s') (fun e s' => R (.error e) s') s' := by
            intro s' q' c' r hr hk hs' hD' hps hlen
            refine wpAny_bind (wpAny_pure ?_)
            rw [if_pos (show (Value.str ⟨⟨repl⟩⟩ tr != Value.none) = true from rfl)]
            refine wpAny_bind (push_wp hD' (by unfold strValues; rw [List.length_map]; omega) fun h'' n'' hD'' hs'' => ?_)
            refine wpAny_pure ⟨plainId_quiet (by decide +kernel) _, ?_⟩
            have e1 : strValues q' ++ [Value.str ⟨⟨repl⟩⟩ tr] = strValues (q' ++ [(⟨⟨repl⟩⟩, tr)]) := by simp [strValues]
            rw [e1] at hD''
            have hmp : (q' ++ [((⟨⟨repl⟩⟩ : Str), tr)]).map (fun p => p.1.cps.toList) ++ r = q.map (fun p => p.1.cps.toList) ++ ps := by
              rw [← hps]; simp
            refine ih e (Nat.beq e b) (k + 1) r hr { s' with heap := h'' } D (q' ++ [(⟨⟨repl⟩⟩, tr)]) n'' R ?_ hD'' htl ?_ ?_ ?_
            · exact (hP.keeps hD hk).keeps hD' fun b o hb ho => (hs''.2 b hb).trans ho
            · rw [List.length_append, List.length_singleton]; omega
            · rw [hmp]; exact hjs
            · rw [hmp]
              intro h3 tk u hk3
              obtain ⟨h0, tk0, rfl⟩ := hs'
              exact hR h3 tk u fun b o hb ho => hk3 b o hb ((hs''.2 b hb).trans (hk b o hb ho))
          cases hr : subL code repl text n e (Nat.beq e b) with
          | none => rw [hr] at h; cases h
          | some r =>
            rw [hr] at h
            dsimp only at h
            by_cases hlt : start < b
            · rw [show Nat.blt start b = true from Nat.ble_eq_true_of_le hlt] at h
              cases h
              rw [if_pos hlt]
              refine wpAny_bind (slice_wp htl ?_)
              refine wpAny_bind (push_wp (s := { s with toks := s.toks + 1 }) hD (by unfold strValues; rw [List.length_map]; omega) fun h' n' hD' hs => ?_)
              have e1 : strValues q ++ [Value.str ⟨⟨ext text start b⟩⟩ s.toks] = strValues (q ++ [(⟨⟨ext text start b⟩⟩, s.toks)]) := by simp [strValues]
              rw [e1] at hD'
              refine fin _ (q ++ [(⟨⟨ext text start b⟩⟩, s.toks)]) n' r hr (fun b o hb ho => (hs.2 b hb).trans ho) ⟨h', _, rfl⟩ hD' ?_ ?_
              · simp
              · simp; omega
            · rw [show Nat.blt start b = false from by cases hq : Nat.blt start b with | false => rfl | true => exact absurd (Nat.le_of_ble_eq_true hq) hlt] at h
              cases h
              rw [if_neg hlt]
              exact fin s q c r hr (fun b o hb ho => ho) ⟨s.heap, s.toks, rfl⟩ hD rfl (by simp; omega)
end
end Mine
end

noncomputable section
namespace Mine
open PySem PyProof.Rows PySem.Builtin.Str PySem.Builtin.Re
def subV' (code : Array Nat) (repl text : List Nat) : Option (List Nat) := match Nat.ble text.length 1000, subL code repl text 1000 0 false with
  | true, some ps => match Nat.ble ps.length 1000, Nat.ble (ps.foldl (fun n p => n + p.length + 0) 0) 100000 with
    | true, true => some (joinN [] ps)
    | _, _ => .none
  | _, _ => .none
section
variable {prog : Program} {w : World} {A : Around} {E : Value → Shared → Prop} {s : Shared}
theorem sub_wp {P : Addr} {code : Array Nat} {text repl r : List Nat} {t tr : Tok} {Q : Value → Shared → Prop} (hP : RPat s.heap P code) (hc : (⟨repl⟩ : Array Nat).contains 92 = false) (h : subV' code repl text = some r)
    (hQ : ∀ h' tk u, (∀ b o, s.heap.get? b = some o → h'.get? b = some o) → Q (.str ⟨⟨r⟩⟩ u) { s with heap := h', toks := tk }) :
    wpAny (model prog w) A (call (.builtin "re.Pattern.sub") [.ref P, .str ⟨⟨repl⟩⟩ tr, .str ⟨⟨text⟩⟩ t]) Q E s := by
  unfold subV' at h
  split at h
  · rename_i ps h1 h2
    split at h
    · rename_i h3 h4
      cases h
      have hT : s.TypeIs (.ref P) "re.Pattern" := by
        obtain ⟨o, vs, T, oT, its, m, g1, g2, _⟩ := hP
        exact ⟨o, g1, g2.1⟩
      refine wpAny_call (codeAny_call_builtin slot_rp_sub.plain entry_rp_sub (slot_rp_sub.check _ _ _ _ _ _ _ _ hT (args_rp_sub _ _ _) ?_))
      show wpAny _ _ (reSubstitute "re.Pattern.sub" "sub" false ⟨[.ref P, .str ⟨⟨repl⟩⟩ tr, .str ⟨⟨text⟩⟩ t], []⟩) _ _ s
      unfold reSubstitute
      refine wpAny_bind (wpAny_of_eq (a := [some (.str ⟨⟨repl⟩⟩ tr), some (.str ⟨⟨text⟩⟩ t), none]) rfl ?_)
      refine wpAny_bind (wpAny_pure ?_)
      refine wpAny_bind (wpAny_specialOf_val (T := "str") rfl no_call_str ?_)
      simp only [Option.isSome_none, Bool.false_eq_true, if_false]
      refine wpAny_bind (wpAny_of_eq (a := some (⟨⟨repl⟩⟩ : Str)) rfl ?_)
      refine wpAny_bind (wpAny_pure ?_)
      rw [if_pos (show (!(⟨repl⟩ : Array Nat).contains 92) = true by rw [hc]; rfl)]
      refine wpAny_bind (wpAny_pure ?_)
      refine wpAny_bind (wpAny_holding (whole_wp hP ?_))
      dsimp only
      rw [if_neg (fun e => nomatch e)]
      refine wpAny_bind (wpAny_newObj_type ?_)
      refine wpAny_pure ⟨plainId_quiet (by decide +kernel) _, ?_⟩
      refine sub_loop (code := code) 1000 0 false 0 ps h2 { s with heap := s.heap.push { cls := .type "list", data := .seq #[] } } s.heap.objs.size [] 0 _ (hP.mono fun b o ho => Heap.get?_push_of_some _ ho) (Heap.get?_push_size _ rfl) (Nat.le_of_ble_eq_true h1) ?_ (Nat.le_of_ble_eq_true h4) fun h' tk u hk => ?_
      · have := Nat.le_of_ble_eq_true h3
        show 0 + ps.length ≤ 10000
        omega
      · exact hQ h' tk u fun b o ho => hk b o (Nat.ne_of_lt (Heap.lt_size ho)) (Heap.get?_push_of_some _ ho)
    · cases h
  · cases h
end
section
variable {c : Cx}
def subMV (code : Array Nat) : MV → MV → Option MV
  | .str repl, .str text => match repl.all (fun c => !Nat.beq c 92), subV' code repl text with
    | true, some r => some (.str r)
    | _, _ => .none
  | _, _ => .none
theorem E_sub (O : c.Ok) {n : Str} {code : Array Nat} {np apos pos : Pos} {e1 e2 : Expr} {f g : Loc → Option MV} {P : Addr} (hP : c.mg n = some (.ref P)) (hR : RPat c.hb P code) (hk : c.env.kindOf n = some .globalImplicit) (hd : (n == ("__debug__" : Str)) = false)
    (hbase : attributeBase (.Name n np) "sub" c.env (eval (.Name n np) c.env) = eval (.Name n np) c.env) (hline : (apos.endLine == pos.line) = true)
    (hfew : ((backTo pos (starEach [e1, e2] c.env)).all (fun x => !x.1) && (backToKw pos (keywordEach [] c.env)).all (fun x => x.1.isSome)
      && decide (([e1, e2] : List Expr).length + ([] : List Keyword).length + (if ([] : List Keyword).isEmpty then 0 else 1) < 30)) = true)
    (h1 : c.E e1 f) (h2 : c.E e2 g) (he1 : starEach [e1, e2] c.env = (false, eval e1 c.env) :: starEach [e2] c.env) (he2 : starEach [e2] c.env = (false, eval e2 c.env) :: starEach [] c.env) (hp : ∀ pos, (backTo pos (starEach [e2] c.env)).any (·.1) = false) :
    c.E (.Call (.Attribute (.Name n np) "sub" apos) [e1, e2] [] pos) (fun σ => o2 (subMV code) (f σ) (g σ)) := by
  intro σ v hv s m ad mu R T
  obtain ⟨x, y, hx, hy, hk'⟩ := o2_some hv
  have hRs : RPat s.heap P code := hR.mono T.keep
  refine wpAny_Call_method (T := "re.Pattern") (id := "re.Pattern.sub") hbase hfew hline plainAttrs_rp slot_rp_sub type_rp_sub (name_glob O hk hP hd T ?_)
  have hRs' := hRs
  obtain ⟨o, vs, T', oT, its, m', g1, g2, _⟩ := hRs
  refine ⟨⟨o, g1, g2.1⟩, fun b e => ⟨o, by cases e; exact g1, g2.2⟩, ?_⟩
  refine callWith_method1 (spliced_more (wpAny_mono (h1 σ x hx s m ad mu R T) (fun a s₁ ha => ?_) fun _ _ e => e) he1) he1 (hp pos)
  refine spliced_more (wpAny_mono (h2 σ y hy s₁ m ad mu (R.step ha.1) (T.step ha.1)) (fun b s₂ hb => spliced_none ?_) fun _ _ e => e) he2
  have ra := ha.2
  have rb := hb.2
  unfold subMV at hk'
  split at hk'
  · rename_i repl text
    split at hk'
    · rename_i r q1 q2
      cases hk'
      cases ra with
      | str _ t1 =>
        cases rb with
        | str _ t2 =>
          refine sub_wp (code := code) (r := r) (hRs'.mono (ha.1.trans hb.1).grow) ?_ q2 fun h' tk u hk => ⟨(ha.1.trans hb.1).trans ⟨hk, rfl, GK.refl _⟩, .str _ _⟩
          cases hq : (⟨repl⟩ : Array Nat).contains 92 with
          | false => rfl
          | true =>
            have : 92 ∈ repl := by simpa using hq
            have := List.all_eq_true.mp q1 92 this
            cases this
    · cases hk'
  · cases hk'
end
/-- the facts of the top that quotedata uses -/
structure Tq (mg : Str → Option Value) (hb : Heap) : Prop where
  t1 : ∃ P, mg "_twin_re_1" = some (.ref P) ∧ RPat hb P code1
  t2 : ∃ P, mg "_twin_re_2" = some (.ref P) ∧ RPat hb P code2
  crlf : ∃ t, mg "CRLF" = some (.str ⟨⟨[13, 10]⟩⟩ t)
theorem E_globS {c : Cx} (O : c.Ok) {n : Str} {pos : Pos} {l : List Nat} {t : Tok} (hk : c.env.kindOf n = some .globalImplicit) (hv : c.mg n = some (.str ⟨⟨l⟩⟩ t)) (hd : (n == ("__debug__" : Str)) = false) : c.E (.Name n pos) (fun _ => some (.str l)) := by
  intro σ v hv' s m ad mu R T
  cases hv'
  exact name_glob O hk hv hd T ⟨Step.refl s, .str _ _⟩
set_option maxRecDepth 100000 in
def quoteP : { F : SF // ∀ (prog : Program) (w : World) (A : Around) (L a : Addr) (cd : Value) (mg mb : Str → Option Value) (hb : Heap) (d : Nat), AOk A (d + 1) → Tq mg hb → (fcx prog w A (dName 8) (dScope 8) L a cd nm mg mb hb d).SS (dBody 8) F } := ⟨_, by
  intro prog w A L a cd mg mb hb d hA H
  have O : (fcx prog w A (dName 8) (dScope 8) L a cd nm mg mb hb d).Ok := fcx_ok hA rfl
  obtain ⟨P1, p1, r1⟩ := H.t1
  obtain ⟨P2, p2, r2⟩ := H.t2
  obtain ⟨t3, h3⟩ := H.crlf
  exact SS_cons (S_ret (E_sub O (code := code1) p1 r1 rfl rfl rfl rfl rfl (E_str (l := [46, 46]) rfl) (E_sub O (code := code2) p2 r2 rfl rfl rfl rfl rfl (E_globS O rfl h3 rfl) (E_var O (x := 42) rfl rfl rfl) rfl rfl (fun _ => rfl)) rfl rfl (fun _ => rfl))) SS_nil⟩
def quoteφ (vs : List MV) : Option MV := match vs with
  | [x] => retV (quoteP.1 [(42, .val x)])
  | _ => .none
section
variable {prog : Program} {w : World} {mg mb : Str → Option Value} {hb : Heap} {d : Nat}
set_option maxRecDepth 100000 in
theorem quote_fn (D : DefIn mg hb 8) (H : Tq mg hb) : Fn prog w mg mb hb "quotedata" (d + 1) quoteφ := by
  obtain ⟨a, o, pm, cd, doc, h1, h2, h3, h4⟩ := D
  have key := fn_body (prog := prog) (w := w) (mb := mb) (nm := nm) (d := d) (F := quoteP.1) h1 h2 h3 h4 (loc1 42) (fun vals => match vals with | [u] => [("data", u)] | _ => []) ?_ (fun A L hA => quoteP.2 prog w A L a cd mg mb hb d hA H) rfl rfl rfl (by decide +kernel)
  · exact key.of fun vs v hv => by
      unfold quoteφ at hv
      split at hv
      · exact hv
      · cases hv
  · intro vs vals σ G hσ rv
    unfold loc1 at hσ
    split at hσ
    · cases hσ
      cases rv with
      | cons r1 rv =>
        cases rv
        refine ⟨rfl, locs (by kernel_rfl), fun x l hx => ?_, fun x v hx => ?_⟩
        · rw [getL_cons] at hx
          split at hx
          · cases hx
          · cases hx
        · rw [getL_cons] at hx
          split at hx
          · rename_i e; cases hx; subst e; exact ⟨_, by kernel_rfl, r1⟩
          · cases hx
    · cases hσ
end
end Mine
end

noncomputable section
namespace Mine
open PySem PyProof.Rows PySem.Builtin.Str
theorem odd_listIter (a : Addr) (i : Nat) (n : Nat) : Odd { cls := .type "list_iterator", dict := none, data := .fields #[.ref a, .int i n], slots := #[] } := ⟨by simp, by simp, fun _ _ => by simp⟩
theorem flat_of {G : Addr → Obj → Prop} {v : Value} {x : MV} (h : VRep (fun _ _ => False) v x) : VRep G v x := h.mono fun _ _ h => h.elim
theorem flats_of {G : Addr → Obj → Prop} {v : List Value} {x : List MV} (h : VReps (fun _ _ => False) v x) : VReps G v x := h.mono fun _ _ h => h.elim
section
variable {c : Cx}
/-- a value bound by a step that also turns an iterator -/
theorem FR.bind (inj : ∀ x y, c.nm x = c.nm y → x = y) {L : Addr} {σ : Loc} {h h' : Heap} {m : Str → Option Value} {ad : Nat → Addr} (R : FR c.nm L σ h m ad (muOf L σ ad)) {x : Nat} {val : Value} {v : MV} {it : Addr} {o : Obj}
    (ho : h.get? it = some o) (hd : Odd o) (hv : VRep (Fz h' (muOf L (setL σ x (.val v)) ad)) val v)
    (hn : h'.Ns L (fun y => if y = c.nm x then some val else m y)) (hs : ∀ b o, b ≠ L → b ≠ it → h.get? b = some o → h'.get? b = some o) : FR c.nm L (setL σ x (.val v)) h' (fun y => if y = c.nm x then some val else m y) ad (muOf L (setL σ x (.val v)) ad) := by
  have hnot := R.oddNot ho hd
  have fz : ∀ b o, Fz h (muOf L σ ad) b o ∧ b ≠ it → Fz h' (muOf L (setL σ x (.val v)) ad) b o := fun b o hb => ⟨hs b o (fun e => hb.1.2 (e ▸ R.muL)) hb.2 hb.1.1, fun q => hb.1.2 (muOf_store q)⟩
  have odd : ∀ o', Fz h (muOf L σ ad) it o' → Odd o' := fun o' hb => by
    have := hb.1; rw [ho] at this; cases this; exact hd
  refine ⟨hn, .inl rfl, fun b hb => ?_, fun y u hy => ?_, fun y l hy => ?_, fun y z ly lz hy hz e => ?_⟩
  · by_cases q : b = L
    · subst q; obtain ⟨o, _, _, ho, _⟩ := hn; exact ⟨o, ho⟩
    · obtain ⟨o, ho⟩ := R.muIn b (muOf_store hb); exact ⟨o, hs b o q (fun e => hnot (e ▸ muOf_store hb)) ho⟩
  · rw [getL_setL] at hy
    by_cases q : x = y
    · subst q; rw [if_pos rfl] at hy; cases hy
      exact ⟨val, by simp, hv⟩
    · rw [if_neg q] at hy
      obtain ⟨w, h1, h2⟩ := R.val y u hy
      refine ⟨w, ?_, (h2.avoid odd).mono fz⟩
      have : c.nm y ≠ c.nm x := fun e => q (inj _ _ e).symm
      simp [this, h1]
  · have hy' := hy
    rw [getL_setL] at hy
    by_cases q : x = y
    · rw [if_pos q] at hy; cases hy
    · rw [if_neg q] at hy
      obtain ⟨h1, h2, h3, items, n, h4, h5⟩ := R.own y l hy
      have : c.nm y ≠ c.nm x := fun e => q (inj _ _ e).symm
      exact ⟨by simp [this, h1], .inr ⟨y, l, hy', rfl⟩, h3, items, n, hs _ _ h3 (fun e => hnot (e ▸ h2)) h4, (h5.avoid odd).mono fz⟩
  · rw [getL_setL] at hy hz
    by_cases q : x = y
    · rw [if_pos q] at hy; cases hy
    · by_cases q' : x = z
      · rw [if_pos q'] at hz; cases hz
      · rw [if_neg q] at hy; rw [if_neg q'] at hz; exact R.inj y z ly lz hy hz e
def mapO (φ : MV → Option MV) : List MV → Option (List MV)
  | [] => some []
  | x :: r => match φ x, mapO φ r with
    | some y, some q => some (y :: q)
    | _, _ => .none
def mapR (φ : MV → Option MV) (G : Addr → Obj → Prop) (v y : Value) : Prop := ∃ x r, VRep G v x ∧ φ x = some r ∧ VRep (fun _ _ => False) y r
/-- what a comprehension's element does -/
def Cx.Elt (c : Cx) (elt : Expr) (z : Str) (scope : Scope) (cl : List (Str × Addr)) (φ : MV → Option MV) : Prop :=
  ∀ (C : Addr) (v : Value) (x r : MV), φ x = some r → ∀ (s : Shared) (m : Str → Option Value), VRep (fun b o => s.heap.get? b = some o) v x → s.heap.Ns C m → m z = some v → Tp c.mg c.mb c.hb s.heap →
    wpAny c.M c.A (eval elt (compEnvC scope cl C c.env)) (fun y s' => VRep (fun _ _ => False) y r ∧ Keeps s s') (fun _ _ => False) s
theorem mapO_at {φ : MV → Option MV} {l r : List MV} (h : mapO φ l = some r) {i : Nat} {x : MV} (hx : l[i]? = some x) : ∃ y, φ x = some y ∧ r[i]? = some y := by
  induction l generalizing r i with
  | nil => cases hx
  | cons a l ih =>
    have h : (match φ a, mapO φ l with | some y, some q => some (y :: q) | _, _ => .none) = some r := h
    split at h
    · rename_i y q h1 h2
      cases h
      cases i with
      | zero => cases hx; exact ⟨y, h1, rfl⟩
      | succ i => exact ih h2 hx
    · cases h
theorem mapO_len {φ : MV → Option MV} {l r : List MV} (h : mapO φ l = some r) : r.length = l.length := by
  induction l generalizing r with
  | nil => cases h; rfl
  | cons a l ih =>
    have h : (match φ a, mapO φ l with | some y, some q => some (y :: q) | _, _ => .none) = some r := h
    split at h
    · rename_i y q h1 h2
      cases h
      simp [ih h2]
    · cases h
theorem reps_of_paired {φ : MV → Option MV} {F : Value → Value → Prop} : ∀ {l r : List MV} {vs ys : List Value}, mapO φ l = some r → Paired F vs ys →
    (∀ (j : Nat) v x y r, vs[j]? = some v → l[j]? = some x → φ x = some r → F v y → VRep (fun _ _ => False) y r) → vs.length = l.length → VReps (fun _ _ => False) ys r := by
  intro l
  induction l with
  | nil =>
    intro r vs ys h hp hF hl
    cases h
    cases vs with
    | nil => cases hp; exact .nil
    | cons => cases hl
  | cons a l ih =>
    intro r vs ys h hp hF hl
    have h : (match φ a, mapO φ l with | some y, some q => some (y :: q) | _, _ => .none) = some r := h
    split at h
    · rename_i y q h1 h2
      cases h
      cases hp with
      | nil => cases hl
      | cons ha hp =>
        refine .cons (hF 0 _ _ _ _ rfl rfl h1 ha) (ih h2 hp (fun j v x y r h1 h2 => hF (j + 1) v x y r (by simpa using h1) (by simpa using h2)) (by simpa using hl))
    · cases h
end
mutual
theorem VRep.det {G : Addr → Obj → Prop} (hG : ∀ b o o', G b o → G b o' → o = o') : ∀ {v : Value} {x y : MV}, VRep G v x → VRep G v y → x = y
  | _, _, _, .none, h => by cases h; rfl
  | _, _, _, .bool b, h => by cases h; rfl
  | _, _, _, .int i t, h => by cases h; rfl
  | _, _, _, .str l t, h => by cases h; rfl
  | _, _, _, .list g r, h => by
    cases h with
    | list g' r' =>
      have e := hG _ _ _ g g'
      simp only [Obj.mk.injEq, Data.seq.injEq, Array.mk.injEq] at e
      obtain ⟨_, _, ⟨rfl, _⟩, _⟩ := e
      rw [VReps.det hG r r']
    | tup g' r' =>
      have e := hG _ _ _ g g'
      simp at e
  | _, _, _, .tup g r, h => by
    cases h with
    | tup g' r' =>
      have e := hG _ _ _ g g'
      simp only [Obj.mk.injEq, Data.seq.injEq, Array.mk.injEq] at e
      obtain ⟨_, _, ⟨rfl, _⟩, _⟩ := e
      rw [VReps.det hG r r']
    | list g' r' =>
      have e := hG _ _ _ g g'
      simp at e
theorem VReps.det {G : Addr → Obj → Prop} (hG : ∀ b o o', G b o → G b o' → o = o') : ∀ {v : List Value} {x y : List MV}, VReps G v x → VReps G v y → x = y
  | _, _, _, .nil, h => by cases h; rfl
  | _, _, _, .cons a r, h => by
    cases h with
    | cons a' r' => rw [VRep.det hG a a', VReps.det hG r r']
end
section
variable {c : Cx}
def compF (y : Nat) (f : Loc → Option MV) (φ : MV → Option MV) : SF := fun σ => match f σ with
  | some (.list l) => match Nat.ble l.length 100000, mapO φ l with
    | true, some r => frc2 (.list r) fun v => frcS (setL σ y (.val v)) fun σ => some (σ, .next)
    | _, _ => .none
  | _ => .none
theorem S_comp (O : c.Ok) {y : Nat} {n z : Str} {elt iter : Expr} {pz np pos spos : Pos} {scope : Scope} {cl : List (Str × Addr)} {f : Loc → Option MV} {φ : MV → Option MV} (hn : n = c.nm y) (hk : c.env.kindOf n = some .local) (hi : c.E iter f) (he : c.Elt elt z scope cl φ)
    (hsw : swapsWith (.ListComp elt [⟨.Name z pz, iter, [], 0⟩] scope pos) (some (.Name n np)) spos.line c.env = pure true)
    (hclos : closureFor scope c.env = pure cl) (hcell : ∀ z ∈ scope.names, z.2 ≠ .cell) (hkind : scope.kind = .function)
    (hnames : ∀ z ∈ scope.names, z.2 = .local → scope.names.lookup z.1 = some .local) (hx : scope.names.lookup z = some .local) (hs : ∀ x, foldedSetIterable iter c.env x = pure x) :
    c.S (.Assign [.Name n np] (.ListComp elt [⟨.Name z pz, iter, [], 0⟩] scope pos) spos) (compF y f φ) := by
  intro s₀ T σ σ' fl hF s R
  unfold compF at hF
  split at hF
  · rename_i l hf
    split at hF
    · rename_i r hb hr
      rw [frc2_eq, frcS_eq] at hF
      cases hF
      obtain ⟨m, ad, Fr, hmu⟩ := R.fr
      rw [exec_Assign_Name_used _ _ _ _ hsw]
      refine wpAny_bind (wpAny_standAt (wpAny_bind ?_))
      show wpAny _ c.A (do let _ ← comprehension (.ListComp elt [⟨.Name z pz, iter, [], 0⟩] scope pos) scope c.env _ (newList []) false (eval iter c.env) (some (assign (.Name n np) c.env))) _ _ s
      refine wpAny_bind (wpAny_mono (wpAny_comprehension_free (use := some (assign (.Name n np) c.env)) (Q := fun _ s' => SR c s₀ (setL σ y (.val (.list r))) s') rfl hs hclos hkind hnames
        (wpAny_mono (hi σ _ hf s m ad _ Fr (T.step R.base)) (fun xv s₁ h₁ => ?_) fun _ _ e => e)) (fun _ s' hq => wpAny_pure (wpAny_pure ⟨rfl, hq⟩)) fun _ _ e => e)
      obtain ⟨ax, items, k, rfl, ga, ra⟩ := h₁.2.isL
      have hl : s₁.heap.IsList ax ⟨items⟩ := isList_of ga
      have T₁ := (T.step R.base).step h₁.1
      have Fr₁ := Fr.step h₁.1
      have hlt : ax < s₁.heap.objs.size := Heap.lt_size ga.1
      refine wpAny_pyIter_list hl ?_
      have stI : Step s₁ { s₁ with heap := s₁.heap.push { cls := .type "list_iterator", data := .fields #[.ref ax, .int 0 0] } } := Step.push s₁ _ s₁.toks
      have hII : (⟨items⟩ : Array Value).size = l.length := ra.length
      have Fr₂ := Fr₁.step stI
      refine comp_block_walkC (RR := fun acc C => compPost c.M c.A (fun _ _ => False) (some (assign (.Name n np) c.env)) (fun _ s' => SR c s₀ (setL σ y (.val (.list r))) s') acc C)
        (Walks.list (A := c.A) O.a.handled s₁.heap.objs.size ax (Nat.ne_of_lt hlt) ⟨items⟩) (by rw [hII]; exact Nat.le_trans (Nat.le_of_ble_eq_true hb) sizeLine_big) (fun _ => true)
        (fun v y => ∀ x q, VRep (fun b o => s₁.heap.get? b = some o) v x → φ x = some q → VRep (fun _ _ => False) y q) hcell hkind hx ⟨⟨_, Heap.get?_push_size _ rfl, rfl, rfl⟩, hl.push _⟩ (fun b hb => ?_) ⟨?_, ?_⟩ ?_
      · show b < (s₁.heap.push _).objs.size
        rw [Heap.size_push]
        rcases List.mem_cons.mp hb with rfl | hb
        · exact Nat.lt_succ_self _
        · rw [List.mem_singleton.mp hb]; exact Nat.lt_succ_of_lt hlt
      · intro C i v s₃ m₃ E' _ _ _ _ _ _
        exact wpAny_pure ⟨rfl, kp_refl _⟩
      · intro C i v s₃ m₃ E' hC hv _ hn' hm hk' _
        have hv' : items[i]? = some v := by simpa using hv
        obtain ⟨x, hx', rx⟩ := ra.at hv'
        obtain ⟨q, hq, _⟩ := mapO_at hr hx'
        have old : ∀ b o, s₁.heap.get? b = some o → s₃.heap.get? b = some o := fun b o ho => hk' b o (by simp; exact Nat.ne_of_lt (Heap.lt_size ho)) (Heap.get?_push_of_some _ ho)
        have rx' : VRep (fun b o => s₁.heap.get? b = some o) v x := rx.mono fun b o h => h.1
        have T₃ : Tp c.mg c.mb c.hb s₃.heap := ⟨T₁.g.keeps old, T₁.b.keeps old, T₁.nolimit.keeps old, fun b o h => old b o (T₁.keep b o h)⟩
        refine wpAny_mono (he C v x q hq s₃ m₃ (rx'.mono old) hn' hm T₃) (fun yv s₄ h₄ => ⟨fun x' q' rx'' hq' => ?_, h₄.2⟩) fun _ _ e => e.elim
        have : x = x' := VRep.det (fun b o o' h h' => by rw [h] at h'; cases h'; rfl) rx' rx''
        subst this
        rw [hq] at hq'; cases hq'
        exact h₄.1
      · intro D C h' tk m' ys vs hD hC hDC hnC hlD hplD hlen hP hpair hkeep
        have hvv : vs = items := by
          apply List.ext_getElem?
          intro j
          by_cases q : j < vs.length
          · have := hP j vs[j] (by simp [q])
            rw [List.getElem?_eq_getElem q]
            exact (by simpa using this.symm)
          · rw [List.getElem?_eq_none (by omega), List.getElem?_eq_none (by rw [hlen] at q; simpa using q)]
        subst hvv
        rw [List.filter_eq_self.mpr (fun _ _ => rfl)] at hpair
        have hys : VReps (fun _ _ => False) ys.toList r := reps_of_paired hr hpair (fun j v x yv q hv hx' hq hF => by
          obtain ⟨x', hx'', rx⟩ := ra.at hv
          rw [hx'] at hx''; cases hx''
          exact hF x q (rx.mono fun b o h => h.1) hq) ra.length
        let I : Addr := s₁.heap.objs.size
        have hIL : c.env.locals ≠ I := fun e => by
          obtain ⟨o, ho⟩ := Fr₁.muIn _ Fr₁.muL
          rw [e] at ho
          exact absurd (Heap.lt_size ho) (Nat.lt_irrefl _)
        have gI : (s₁.heap.push { cls := .type "list_iterator", data := .fields #[.ref ax, .int 0 0] }).get? I = some _ := Heap.get?_push_size _ rfl
        have hn₃ : h'.Ns c.env.locals m := Fr₂.ns.at' fun o e => hkeep _ o (by simpa using hIL) e
        have hLC : c.env.locals ≠ C := fun e => by
          obtain ⟨o, ho⟩ := Fr₂.muIn _ Fr₂.muL
          rw [e, hC] at ho; cases ho
        have hLD : c.env.locals ≠ D := fun e => by
          obtain ⟨o, ho⟩ := Fr₂.muIn _ Fr₂.muL
          rw [e, hD] at ho; cases ho
        show wpAny _ c.A (assign (.Name n np) c.env (.ref D)) _ _ _
        subst hn
        refine wpAny_assign_Name (wpAny_storeName_local hk hn₃ (fun h₂ hn₂ hs₂ => ?_) (by rw [O.fn]; rfl))
        refine ⟨m', hnC.sameBut hs₂ (Ne.symm hLC), fun h₃ hs₃ => ?_⟩
        have keep : ∀ b o, b ≠ c.env.locals → b ≠ I → (s₁.heap.push { cls := .type "list_iterator", data := .fields #[.ref ax, .int 0 0] }).get? b = some o → h₃.get? b = some o := fun b o hbL hbI e =>
          hs₃.extBut b o (fun q => by rw [q] at e; rw [show (s₁.heap.push { cls := .type "list_iterator", data := .fields #[.ref ax, .int 0 0] }).get? C = none from hC] at e; cases e) (hs₂.extBut b o hbL (hkeep b o (by simpa using hbI) e))
        obtain ⟨nD, gD⟩ := hplD
        have gD₃ : h₃.get? D = some (lobj ys.toList nD) := by
          have := hs₃.extBut _ _ hDC (hs₂.extBut _ _ (Ne.symm hLD) gD)
          simpa using this
        have nmu : ¬ muOf c.env.locals (setL σ y (.val (.list r))) ad D := fun q => by
          obtain ⟨o, ho⟩ := Fr₂.muIn _ (muOf_store q)
          rw [show s₁.heap.push _ = s₁.heap.push _ from rfl] at ho
          rw [show (s₁.heap.push { cls := .type "list_iterator", data := .fields #[.ref ax, .int 0 0] }).get? D = none from hD] at ho; cases ho
        have FB := FR.bind (c := c) O.inj Fr₂ (x := y) (val := .ref D) (v := .list r) gI (odd_listIter _ _ _) (.list (n := nD) ⟨gD₃, nmu⟩ (flats_of hys)) (hn₂.sameBut hs₃ hLC) keep
        refine ⟨⟨fun b o hb => ?_, (R.base.trans h₁.1).os, (R.base.trans h₁.1).gens⟩, _, ad, FB, fun b hb => hmu b (muOf_store hb)⟩
        have hb1 := (R.base.trans h₁.1).grow b o hb
        refine keep b o (fun e => ?_) (Nat.ne_of_lt (Heap.lt_size hb1)) (Heap.get?_push_of_some _ hb1)
        rw [e, hmu _ Fr.muL] at hb; cases hb
    · cases hF
  · cases hF
end
end Mine
end

noncomputable section
namespace Mine
open PySem PyProof.Rows PySem.Builtin.Str
def modV : MV → MV → Option MV
  | .int a, .int b => match decide (0 < b) with
    | true => some (.int (a % b))
    | false => .none
  | _, _ => .none
def fdivV : MV → MV → Option MV
  | .int a, .int b => match decide (0 < b), smallI b with
    | true, true => some (.int (a / b))
    | _, _ => .none
  | _, _ => .none
section
variable {prog : Program} {w : World} {A : Around}
theorem op_mod : Op2 (model prog w) A (binaryOp .Mod) modV := by
  intro a b x y v hk s mu hmu ra rb
  unfold modV at hk
  split at hk
  · rename_i i j
    split at hk
    · rename_i hd
      cases hk
      have hd := of_decide_eq_true hd
      cases ra; cases rb
      refine mod_int' (by omega) ⟨Step.toks s _, ?_⟩
      rw [Int.fmod_eq_emod_of_nonneg _ (by omega)]
      exact .int _ _
    · cases hk
  · cases hk
theorem op_fdiv : Op2 (model prog w) A (binaryOp .FloorDiv) fdivV := by
  intro a b x y v hk s mu hmu ra rb
  unfold fdivV at hk
  split at hk
  · rename_i i j
    split at hk
    · rename_i hd hs
      cases hk
      have hd := of_decide_eq_true hd
      have hs := smallI_iff hs
      cases ra; cases rb
      refine floordiv_int (by omega) ⟨Step.toks s _, ?_⟩ (Or.inl (PyProof.noPylong_small (by omega)))
      rw [Int.fdiv_eq_ediv_of_nonneg _ (by omega)]
      exact .int _ _
    · cases hk
  · cases hk
end
/-- a statement of a def's body -/
def stA (i j : Nat) : Stmt := match nth (dBody i) j with
  | some s => s
  | .none => .Pass ⟨0, 0, 0, 0⟩
def m3V : MV → Option MV
  | .int a => some (.int (a % 3))
  | _ => .none
section
variable {c : Cx}
theorem Elt_m3 {z : Str} {np kp pos : Pos} {k : Nat} {scope : Scope} {cl : List (Str × Addr)} (hfn : scope.kind = .function) (hk : ∀ C, (compEnvC scope cl C c.env).kindOf z = some .local) (hd : (z == ("__debug__" : Str)) = false) :
    c.Elt (.BinOp (.Name z np) .Mod (.Constant (.int 3) k kp) pos) z scope cl m3V := by
  intro C v x r hr s m rx hn hm T
  unfold m3V at hr
  split at hr
  · rename_i a
    cases hr
    cases rx
    refine wpAny_BinOp (wpAny_Name (wpAny_loadName_local (env := compEnvC scope cl C c.env) hfn (hk C) hn hm ?_) hd)
    refine wpAny_Constant_int (mod_int' (by decide) ⟨?_, _, _, rfl, fun _ _ h => h⟩)
    rw [Int.fmod_eq_emod_of_nonneg _ (by omega)]
    exact .int _ _
  · cases hr
end
set_option maxRecDepth 100000 in
set_option maxHeartbeats 2000000 in
def rowP : { F : SF × SF // ∀ (prog : Program) (w : World) (A : Around) (L a : Addr) (cd : Value) (mg mb : Str → Option Value) (hb : Heap) (d : Nat), AOk A (d + 1) → Tf mg mb → (fcx prog w A (dName 16) (dScope 16) L a cd nm mg mb hb d).S (stA 16 0) F.1 ∧ (fcx prog w A (dName 16) (dScope 16) L a cd nm mg mb hb d).S (stA 16 1) F.2 } := ⟨(_, _), by
  intro prog w A L a cd mg mb hb d hA H
  have O : (fcx prog w A (dName 16) (dScope 16) L a cd nm mg mb hb d).Ok := fcx_ok hA rfl
  constructor
  · exact S_comp O (y := 39) (cl := []) rfl rfl (E_var O (x := 38) rfl rfl rfl) (Elt_m3 rfl (fun _ => rfl) rfl) rfl rfl (by decide +kernel) rfl (by decide +kernel) rfl (fun _ => rfl)
  · exact S_forRange O (x := 40) rfl rfl rfl H.range.1 H.range.2 rfl (Es_cons E_int Es_nil rfl) rfl (fun _ => rfl)
      (SS_cons (S_assign O (x := 41) rfl rfl (E_bin op_mod (E_bin op_fdiv (E_idx (E_var O (x := 38) rfl rfl rfl) (E_var O (x := 40) rfl rfl rfl) (fun _ _ => rfl)) E_int) (E_bin op_add E_int (E_var O (x := 40) rfl rfl rfl))) rfl)
      (SS_cons (S_assign O (x := 39) rfl rfl (E_bin op_add (E_bin op_add (E_slice (E_var O (x := 39) rfl rfl rfl) P_none (P_some (E_var O (x := 41) rfl rfl rfl)) (fun _ _ => rfl))
          (E_list (Es_cons (E_bin op_mod (E_idx (E_var O (x := 38) rfl rfl rfl) (E_var O (x := 40) rfl rfl rfl) (fun _ _ => rfl)) E_int) Es_nil rfl)))
          (E_slice (E_var O (x := 39) rfl rfl rfl) (P_some (E_var O (x := 41) rfl rfl rfl)) P_none (fun _ _ => rfl))) rfl)
      SS_nil)) (fun _ => rfl)⟩
def rowφ (l : List MV) : Option MV := match seqF rowP.1.1 rowP.1.2 [(38, .val (.list l))] with
  | some (σ, .next) => gv (getL σ 39)
  | _ => .none
end Mine
end

noncomputable section
namespace Mine
open PySem PyProof.Rows PySem.Builtin.Str
section
variable {c : Cx}
theorem VRep.avoidD {G : Addr → Obj → Prop} {it : Addr} (h : ∀ o, G it o → o.cls ≠ .type "list" ∧ o.cls ≠ .type "tuple") : ∀ {v : Value} {x : MV}, VRep G v x → VRep (fun b o => G b o ∧ b ≠ it) v x := by
  have key : (∀ v x, VRep G v x → VRep (fun b o => G b o ∧ b ≠ it) v x) := by
    intro v x r
    refine VRep.rec (motive_1 := fun v x _ => VRep (fun b o => G b o ∧ b ≠ it) v x) (motive_2 := fun v x _ => VReps (fun b o => G b o ∧ b ≠ it) v x) ?_ ?_ ?_ ?_ ?_ ?_ ?_ ?_ r
    · exact .none
    · exact .bool
    · exact .int
    · exact .str
    · intro a items n l g _ ih; exact .list ⟨g, fun e => (h _ (e ▸ g)).1 rfl⟩ ih
    · intro a items n l g _ ih; exact .tup ⟨g, fun e => (h _ (e ▸ g)).2 rfl⟩ ih
    · exact .nil
    · intro v x vs xs _ _ i1 i2; exact .cons i1 i2
  exact fun {v x} r => key v x r
theorem FR.varB {σ : Loc} {s : Shared} {m : Str → Option Value} {ad : Nat → Addr} {mu : Addr → Prop} (O : c.Ok) (F : FR c.nm c.env.locals σ s.heap m ad mu) {x : Nat} {v : MV} {n : Str} {pos : Pos} (hg : getL σ x = some (.val v)) (hn : n = c.nm x) (hk : c.env.kindOf n = some .local) (hd : (n == ("__debug__" : Str)) = false) {Q : Value → Shared → Prop} {E : Value → Shared → Prop}
    (hQ : ∀ val, VRep (Fz s.heap mu) val v → Q val s) : wpAny c.M c.A (eval (.Name n pos) c.env) Q E s := by
  obtain ⟨val, h1, h2⟩ := F.val x v hg
  exact wpAny_Name (wpAny_loadName_local O.fn hk F.ns (hn ▸ h1) (hQ val h2)) hd
end
section
variable {prog : Program} {w : World} {mg mb : Str → Option Value} {hb : Heap} {d : Nat}
set_option maxRecDepth 100000 in
theorem row_fn (D : DefIn mg hb 16) (H : Tf mg mb) : ∃ a o fd, mg "_law_row" = some (.ref a) ∧ hb.get? a = some o ∧ o.data = .func fd ∧
    ∀ A, AOk A (d + 1) → ∀ l v, rowφ l = some v → ∀ s val, Tp mg mb hb s.heap → VRep (fun b o => s.heap.get? b = some o) val (.list l) →
      codeAny (model prog w) A (.call (.ref a) ⟨[val], []⟩) (fun r s' => ∃ val', r = .ok (.ret val') ∧ Step s s' ∧ VRep (fun b o => s'.heap.get? b = some o) val' v) s := by
  obtain ⟨a, o, pm, cd, doc, h1, h2, h3, h4⟩ := D
  refine ⟨a, o, _, h1, h2, h3, fun A hA l v hv s val T rv => ?_⟩
  refine call_plain_ret (binds := [("numbers", val)]) (by have := hA.depth; omega) (T.keep _ _ h2) h3 T.nolimit (h4.keeps T.keep) rfl (locs (by kernel_rfl)) (fun h₁ Fr => ?_) rfl rfl rfl (by decide +kernel)
  have O : (fcx prog w A (dName 16) (dScope 16) s.heap.objs.size a cd nm mg mb hb d).Ok := fcx_ok hA rfl
  have R : SR (fcx prog w A (dName 16) (dScope 16) s.heap.objs.size a cd nm mg mb hb d) s [(38, .val (.list l))] { s with heap := h₁, toks := s.toks + 1 } := by
    refine init_sr Fr rfl (fun x v hx => ?_) fun x l hx => ?_
    · rw [getL_cons] at hx
      split at hx
      · rename_i e; cases hx; subst e; exact ⟨_, by kernel_rfl, rv⟩
      · cases hx
    · rw [getL_cons] at hx
      split at hx
      · cases hx
      · cases hx
  obtain ⟨S1, S2⟩ := rowP.2 prog w A s.heap.objs.size a cd mg mb hb d hA H
  unfold rowφ at hv
  split at hv
  · rename_i σ' hF
    unfold seqF at hF
    cases hf1 : rowP.1.1 [(38, .val (.list l))] with
    | none => rw [hf1] at hF; cases hF
    | some p =>
      obtain ⟨σ₁, fl₁⟩ := p
      rw [hf1] at hF
      cases fl₁ with
      | ret u => cases hF
      | next =>
        refine wpAny_execs_cons (wpAny_mono (S1 s T _ _ _ hf1 _ R) (fun f s₁ k₁ => ?_) fun _ _ e => e)
        rw [show f = Flow.next from k₁.1]
        refine wpAny_execs_cons (wpAny_mono (S2 s T _ _ _ hF _ k₁.2) (fun f s₂ k₂ => ?_) fun _ _ e => e)
        rw [show f = Flow.next from k₂.1]
        obtain ⟨m, ad, F, hmu⟩ := k₂.2.fr
        have hg : getL σ' 39 = some (.val v) := by
          unfold gv at hv
          split at hv
          · rename_i q; cases hv; exact q
          · cases hv
        refine wpAny_execs_cons (wpAny_Return_some (FR.varB O F (x := 39) hg rfl rfl rfl fun vl rvl => ?_))
        exact ⟨vl, rfl, k₂.2.base, rvl.mono fun b o h => h.1⟩
  · cases hv
end
end Mine
end

noncomputable section
namespace Mine
open PySem PyProof.Rows PySem.Builtin.Str PySem.SeqAt PySem.MeetsSeq
def eqLs : List MV → List MV → Bool
  | [], [] => true
  | .tup [.str a, .int i] :: r, .tup [.str b, .int j] :: q => match a == b, i == j with
    | true, true => eqLs r q
    | _, _ => false
  | _, _ => false
def eqLV : MV → MV → Option MV
  | .list a, .list b => match eqLs a b with
    | true => some (.bool true)
    | false => .none
  | _, _ => .none
theorem eqLs_cons {x y : MV} {r q : List MV} (h : eqLs (x :: r) (y :: q) = true) : x = y ∧ (∃ a i, x = .tup [.str a, .int i]) ∧ eqLs r q = true := by
  unfold eqLs at h
  split at h
  · rename_i e _; cases e
  · rename_i a i r' b j q' e1 e2
    injection e1 with e1 e1'
    injection e2 with e2 e2'
    subst e1 e1' e2 e2'
    split at h
    · rename_i h1 h2
      have h1 := eq_of_beq h1
      have h2 := eq_of_beq h2
      subst h1 h2
      exact ⟨rfl, ⟨_, _, rfl⟩, h⟩
    · cases h
  · cases h
theorem eqLs_eq {a b : List MV} (h : eqLs a b = true) : a = b ∧ ∀ x ∈ a, ∃ u i, x = .tup [.str u, .int i] := by
  induction a generalizing b with
  | nil => cases b with
    | nil => exact ⟨rfl, fun x hx => nomatch hx⟩
    | cons => cases h
  | cons x r ih =>
    cases b with
    | nil => cases x <;> exact absurd h (by unfold eqLs; simp)
    | cons y q =>
      obtain ⟨rfl, h2, h3⟩ := eqLs_cons h
      obtain ⟨rfl, h4⟩ := ih h3
      exact ⟨rfl, fun z hz => (List.mem_cons.mp hz).elim (fun e => e ▸ h2) (h4 z)⟩
section
variable {prog : Program} {w : World} {A : Around}
theorem strAt {s : Shared} (a : List Nat) (t u : Tok) : EqAt A s (.str ⟨⟨a⟩⟩ t) (.str ⟨⟨a⟩⟩ u) true := by
  have := (eqGives_str ⟨⟨a⟩⟩ ⟨⟨a⟩⟩ t u).at A s
  rw [beq_self_eq_true] at this
  exact this
theorem intAt {s : Shared} (i : Int) (t u : Tok) : EqAt A s (.int i t) (.int i u) true := by
  have := (EqGives.int i i t u).at A s
  rw [beq_self_eq_true] at this
  exact this
theorem tup_eqAt {h : Heap} {s : Shared} {mu : Addr → Prop} {v u : Value} {a : List Nat} {i : Int} (hs : s.heap = h) (hu : A.units < cLine) (rv : VRep (Fz h mu) v (.tup [.str a, .int i])) (ru : VRep (Fz h mu) u (.tup [.str a, .int i])) : EqAt A s v u true := by
  subst hs
  cases rv with
  | tup g r =>
    cases ru with
    | tup g' r' =>
      rename_i ta it na tb ib nb
      by_cases e : ta = tb
      · subst e; exact EqAt.same _
      · obtain ⟨w1, w2, rfl, r1, r2⟩ := r.two
        obtain ⟨w3, w4, rfl, r3, r4⟩ := r'.two
        cases r1; cases r2; cases r3; cases r4
        refine EqAt.of_refs e ?_
        have key := RcAt.tuples (A := A) (s := s) (l := ta) (b := tb) (e := fun _ => true) ⟨_, g.1, rfl, na, rfl⟩ ⟨_, g'.1, rfl, nb, rfl⟩ hu (fun j h1 h2 => ?_)
        · exact key
        · rcases j with _ | _ | j
          · exact strAt _ _ _
          · exact intAt _ _ _
          · exact absurd h1 (by show ¬ (j + 1 + 1 < 2); omega)
theorem op_eqL (hu : A.units + 20 < cLine) : Op2 (model prog w) A (compareOp .Eq) eqLV := by
  intro a b x y v hk s mu hmu ra rb
  unfold eqLV at hk
  split at hk
  · rename_i l l'
    split at hk
    · rename_i he
      cases hk
      obtain ⟨rfl, ht⟩ := eqLs_eq he
      obtain ⟨aa, ia, na, rfl, ga, r1⟩ := ra.isL
      obtain ⟨ab, ib, nb, rfl, gb, r2⟩ := rb.isL
      have hsz : (⟨ia⟩ : Array Value).size = (⟨ib⟩ : Array Value).size := r1.length.trans r2.length.symm
      refine eq_listAt (e := fun _ => true) (isList_of ga) (isList_of gb) hsz (by omega) (fun j h1 h2 => ?_) ⟨Step.refl s, ?_⟩
      · obtain ⟨z, hz, rz⟩ := r1.at (i := j) (v := (⟨ia⟩ : Array Value)[j]) (by simp)
        obtain ⟨z', hz', rz'⟩ := r2.at (i := j) (v := (⟨ib⟩ : Array Value)[j]) (by simp)
        rw [hz] at hz'; cases hz'
        obtain ⟨u, i, rfl⟩ := ht z (List.mem_of_getElem? hz)
        exact tup_eqAt rfl (by show A.units + 1 < cLine; omega) rz rz'
      · have : ((List.range (⟨ia⟩ : Array Value).size).all fun _ => true) = true := by simp
        rw [this]; exact .bool _
    · cases hk
  · cases hk
end
section
variable {c : Cx}
/-- the cell of the frame, by what the base holds -/
structure CellB (c : Cx) (ca : Addr) (bl : List MV) : Prop where
  kind : c.env.kindOf "beads" = some .cell
  look : c.env.cells.lookup (Str.ofString "beads") = some ca
  val : ∃ bv, c.hb.IsCell ca (some bv) ∧ VRep (fun b o => c.hb.get? b = some o) bv (.list bl)
theorem E_callB (O : c.Ok) {ca : Addr} {bl : List MV} (B : CellB c ca bl) {n : Str} {np bp pos : Pos} {e : Expr} {f : Loc → Option MV} {φ : List MV → Option MV} (hf : c.Fn n φ) (hk : c.env.kindOf n = some .globalImplicit) (hd : (n == ("__debug__" : Str)) = false)
    (h1 : c.E e f) (he : starEach [e, .Name "beads" bp] c.env = (false, eval e c.env) :: starEach [.Name "beads" bp] c.env) (he2 : starEach [.Name "beads" bp] c.env = [(false, eval (.Name "beads" bp) c.env)]) :
    c.E (.Call (.Name n np) [e, .Name "beads" bp] [] pos) (fun σ => o1 (fun x => frc2 x fun x => φ [x, .list bl]) (f σ)) := by
  intro σ v hv s m ad mu R T
  obtain ⟨x, hx, hv⟩ := o1_some hv
  rw [frc2_eq] at hv
  obtain ⟨a, o, fd, g1, g2, g3, g4⟩ := hf.ok
  obtain ⟨bv, b1, b2⟩ := B.val
  refine wpAny_Call_NameR (name_glob O hk g1 hd T ?_)
  refine callWith_def g3 (spliced_more (wpAny_mono (h1 σ x hx s m ad mu R T) (fun u s₁ hu => ?_) fun _ _ e => e) he) he
  have T₁ := T.step hu.1
  refine spliced_more (wpAny_Name (wpAny_loadName_cell O.fn B.kind B.look (b1.keeps T₁.keep) (spliced_none ⟨T₁.keep _ _ g2, ?_⟩)) rfl) he2
  refine wpAny_call (codeAny_mono (g4 c.A O.a [x, .list bl] v hv s₁ [u, bv] T₁ (.cons (hu.2.mono fun b o hb => hb.1) (.cons (b2.mono T₁.keep) .nil))) fun r s₂ hr => ?_)
  obtain ⟨val, rfl, st, rv⟩ := hr
  exact ⟨hu.1.trans st, flat_of rv⟩
theorem Elt_text (O : c.Ok) {ca : Addr} {bl : List MV} (B : CellB c ca bl) {n z : Str} {np zp bp pos : Pos} {scope : Scope} {cl : List (Str × Addr)} (hf : FnK c.prog c.w c.mg c.mb c.hb n c.d textφ) (hfn : scope.kind = .function) (hcl : cl.lookup (Str.ofString "beads") = some ca)
    (hk : ∀ C, (compEnvC scope cl C c.env).kindOf z = some .local) (hd : (z == ("__debug__" : Str)) = false)
    (hkn : ∀ C, (compEnvC scope cl C c.env).kindOf n = some .globalImplicit) (hdn : (n == ("__debug__" : Str)) = false) (hkb : ∀ C, (compEnvC scope cl C c.env).kindOf "beads" = some .cell)
    (he : ∀ C, starEach [.Name z zp, .Name "beads" bp] (compEnvC scope cl C c.env) = (false, eval (.Name z zp) (compEnvC scope cl C c.env)) :: starEach [.Name "beads" bp] (compEnvC scope cl C c.env))
    (he2 : ∀ C, starEach [.Name "beads" bp] (compEnvC scope cl C c.env) = [(false, eval (.Name "beads" bp) (compEnvC scope cl C c.env))]) :
    c.Elt (.Call (.Name n np) [.Name z zp, .Name "beads" bp] [] pos) z scope cl (fun x => textφ [x, .list bl]) := by
  intro C v x r hr s m rx hn hm T
  obtain ⟨a, o, fd, g1, g2, g3, g4⟩ := hf.ok
  obtain ⟨bv, b1, b2⟩ := B.val
  have load : ∀ Q : Value → Shared → Prop, Q (.ref a) s → wpAny c.M c.A (eval (.Name n np) (compEnvC scope cl C c.env)) Q (fun _ _ => False) s := fun Q hQ => by
    refine wpAny_Name ?_ hdn
    rw [loadName_read (env := compEnvC scope cl C c.env) hfn (hkn C)]
    exact Calls.loadGlobal_global (env := compEnvC scope cl C c.env) (show s.heap.Ns c.env.globals c.mg by rw [O.gl]; exact T.g) g1 hQ
  refine wpAny_Call_NameR (load _ ?_)
  refine callWith_def g3 (spliced_more (wpAny_Name (wpAny_loadName_local (env := compEnvC scope cl C c.env) hfn (hk C) hn hm ?_) hd) (he C)) (he C)
  refine spliced_more (wpAny_Name (wpAny_loadName_cell (env := compEnvC scope cl C c.env) hfn (hkb C) hcl (b1.keeps T.keep) (spliced_none ⟨T.keep _ _ g2, ?_⟩)) rfl) (he2 C)
  refine wpAny_call (codeAny_mono (g4 c.A O.a [x, .list bl] r hr s [v, bv] T (.cons rx (.cons (b2.mono T.keep) .nil))) fun q s₂ hq => ?_)
  obtain ⟨val, rfl, st, rv⟩ := hq
  exact ⟨rv, st⟩
end
end Mine
end

noncomputable section
namespace Mine
open PySem PyProof.Rows PySem.Builtin.Str
def zipI : List Int → List Int → List MV
  | a :: x, b :: y => .int (a + b) :: zipI x y
  | _, _ => []
def zipV : List MV → Option MV
  | [.list a, .list b] => match intsOf a, intsOf b, Nat.ble a.length 1000 with
    | some x, some y, true => some (.list (zipI x y))
    | _, _, _ => .none
  | _ => .none
theorem zipI_len : ∀ x y : List Int, (zipI x y).length = min x.length y.length
  | [], _ => by simp [zipI]
  | _ :: _, [] => by simp [zipI]
  | a :: x, b :: y => by simp [zipI, zipI_len x y]
theorem zipI_get : ∀ (x y : List Int) (i : Nat) (a b : Int), x[i]? = some a → y[i]? = some b → (zipI x y)[i]? = some (.int (a + b))
  | [], _, _, _, _, h, _ => by simp at h
  | _ :: _, [], _, _, _, _, h => by simp at h
  | p :: x, q :: y, i, a, b, h, h' => by
    cases i with
    | zero => cases h; cases h'; rfl
    | succ i => exact zipI_get x y i a b h h'
theorem zipV_some {l : List MV} {v : MV} (h : zipV l = some v) : ∃ a b x y, l = [.list a, .list b] ∧ intsOf a = some x ∧ intsOf b = some y ∧ a.length ≤ 1000 ∧ v = .list (zipI x y) := by
  unfold zipV at h
  split at h
  · rename_i a b
    split at h
    · rename_i x y h1 h2 h3
      cases h
      exact ⟨a, b, x, y, rfl, h1, h2, Nat.le_of_ble_eq_true h3, rfl⟩
    · cases h
  · cases h
theorem ints_get {vs : List Value} {is : List Int} (h : IntsAre vs is) {i : Nat} {v : Value} (hv : vs[i]? = some v) : ∃ k t, v = .int k t ∧ is[i]? = some k := by
  induction h generalizing i with
  | nil => cases hv
  | cons k t _ ih =>
    cases i with
    | zero => cases hv; exact ⟨k, t, rfl, rfl⟩
    | succ i => exact ih hv
theorem intsOf_len {xs : List MV} {is : List Int} (h : intsOf xs = some is) : is.length = xs.length := by
  induction xs generalizing is with
  | nil => cases h; rfl
  | cons y xs ih =>
    cases y with
    | int k =>
      have h : (match intsOf xs with | some is => some (k :: is) | .none => .none) = some is := h
      cases h1 : intsOf xs with
      | none => rw [h1] at h; cases h
      | some is' => rw [h1] at h; cases h; simp [ih h1]
    | _ => cases h
theorem neN {a b : Nat} (h : a ≠ b) : @Ne Addr a b := h
section
variable {c : Cx}
set_option maxHeartbeats 1000000 in
theorem E_zipAdd (O : c.Ok) {na nb zn : Str} {ap bp tp pa pb zp cp pos ep : Pos} {tk : Nat} {scope : Scope} {e : Expr} {es : List Expr} {g : Loc → Option (List MV)}
    (hk : c.env.kindOf zn = some .globalImplicit) (hm : c.mg zn = .none) (hz : c.mb zn = some (.type "zip")) (hd : (zn == ("__debug__" : Str)) = false) (hs : c.Es (e :: es) g) (hst : starEach (e :: es) c.env = (false, eval e c.env) :: starEach es c.env) (hp : ∀ pos, (backTo pos (starEach es c.env)).any (·.1) = false)
    (hclos : closureFor scope c.env = pure []) (hcell : ∀ z ∈ scope.names, z.2 ≠ .cell) (hkind : scope.kind = .function)
    (hnames : ∀ z ∈ scope.names, z.2 = .local → scope.names.lookup z.1 = some .local) (hxa : scope.names.lookup na = some .local) (hxb : scope.names.lookup nb = some .local) (hab : na ≠ nb) (hda : (na == ("__debug__" : Str)) = false) (hdb : (nb == ("__debug__" : Str)) = false)
    (hfs : ∀ x, foldedSetIterable (.Call (.Name zn zp) (e :: es) [] cp) c.env x = pure x) :
    c.E (.ListComp (.BinOp (.Name na pa) .Add (.Name nb pb) ep) [⟨.Tuple [.Name na ap, .Name nb bp] tk tp, .Call (.Name zn zp) (e :: es) [] cp, [], 0⟩] scope pos) (fun σ => oL zipV (g σ)) := by
  intro σ v hv s m ad mu R T
  obtain ⟨l, hl, hv⟩ := oL_some hv
  obtain ⟨la, lb, ia, ib, rfl, hia, hib, hlen, rfl⟩ := zipV_some hv
  rw [eval_ListComp]
  refine wpAny_comprehension_free (use := none) rfl hfs hclos hkind hnames ?_
  refine wpAny_Call_NameR (name_built O hk hm hz hd T ?_)
  refine PyProof.Rows.callWith_type1 (wpAny_mono (hs cp σ _ hl s m ad mu R T) (fun vs s₁ h₁ => ?_) fun _ _ e => e) hst (hp cp)
  obtain ⟨u1, u2, rfl, r1, r2⟩ := h₁.2.two
  obtain ⟨aa, va, ka, rfl, ga, ra⟩ := r1.isL
  obtain ⟨ab, vb, kb, rfl, gb, rb⟩ := r2.isL
  have isa := ra.ints hia
  have isb := rb.ints hib
  have lta : aa < s₁.heap.objs.size := Heap.lt_size ga.1
  have ltb : ab < s₁.heap.objs.size := Heap.lt_size gb.1
  refine call_zip_2 (isList_of ga) (isList_of gb) fun h₂ z1 z2 z3 z4 z5 z6 z7 => ?_
  refine wpAny_pyIter_zip (s := { s₁ with heap := h₂ }) z1 ?_
  have W := WalksT.zip2 (prog := c.prog) (w := c.w) (A := c.A) O.a.handled _ _ _ _ _ _ _ (zipApart_new lta ltb) ⟨va⟩ ⟨vb⟩
  generalize hN : s₁.heap.objs.size = N at *
  refine wpAny_newObj_type (wpAny_newFunctionEnv hcell (by intro y hy; simp at hy) (fun h₃ hns₃ hsb₃ => ?_) hkind)
  dsimp only at hns₃ hsb₃ ⊢
  have lta' : @LT.lt Nat _ aa N := lta
  have ltb' : @LT.lt Nat _ ab N := ltb
  have eD : h₂.objs.size = N + 5 := z6
  have eC : (h₂.push { cls := Value.type "list", data := Data.seq #[] }).objs.size = N + 6 := by rw [Heap.size_push, eD]
  have gD0 : (h₂.push { cls := Value.type "list", data := Data.seq #[] }).get? h₂.objs.size = some (lobj [] 0) := Heap.get?_push_size _ rfl
  have old0 : ∀ b o, h₂.get? b = some o → (h₂.push { cls := Value.type "list", data := Data.seq #[] }).get? b = some o := fun b o h => Heap.get?_push_of_some _ h
  generalize hH : h₂.push { cls := Value.type "list", data := Data.seq #[] } = H2 at *
  generalize hC : H2.objs.size = C at *
  generalize hD : h₂.objs.size = D at *
  subst eD eC
  have gD3 : h₃.get? (N + 5) = some (lobj [] 0) := hsb₃.extBut _ _ (neN (by omega)) (Heap.get?_push_of_some _ gD0)
  have old3 : ∀ b o, h₂.get? b = some o → h₃.get? b = some o := fun b o h => hsb₃.extBut b o (neN (by have : @LT.lt Nat _ b (N + 5) := hD ▸ Heap.lt_size h; omega)) (Heap.get?_push_of_some _ (old0 b o h))
  have St3 := W.frame 0 h₂ h₃ ⟨z1, z2, ⟨_, _, z3⟩, z4, z5, (isList_of ga).at fun o e => z7 _ _ e, (isList_of gb).at fun o e => z7 _ _ e⟩ fun b _ o e => old3 b o e
  have hlen1 : va.length = ia.length := ra.length.trans (by clear hv; clear ra; exact (intsOf_len hia).symm)
  have hlen2 : vb.length = ib.length := rb.length.trans (by clear hv; clear rb; exact (intsOf_len hib).symm)
  have hmin : min (⟨va⟩ : Array Value).size (⟨vb⟩ : Array Value).size = min va.length vb.length := rfl
  have hva : va.length ≤ 1000 := by rw [ra.length]; exact hlen
  have loop : ∀ s₃ : Shared, s₃ = { s₁ with heap := h₃, toks := s₁.toks + ([] : List (Str × Value)).length } →
      codeAny c.M c.A (.compLoop (.ListComp (.BinOp (.Name na pa) .Add (.Name nb pb) ep) [⟨.Tuple [.Name na ap, .Name nb bp] tk tp, .Call (.Name zn zp) (e :: es) [] cp, [], 0⟩] scope pos) 0 (.ref (N + 4)) (.ref (N + 5)) (compEnvC scope [] (N + 6) c.env))
        (compPost c.M c.A (fun _ _ => False) none (fun q s' => Step s s' ∧ VRep (Fz s'.heap mu) q (.list (zipI ia ib))) (.ref (N + 5)) (N + 6)) s₃ := by
    rintro s₃ rfl
    refine LCp.codeAny_compLoop_pair
      (fun k s' => ∃ h' tk' i ys n m', s' = { s₁ with heap := h', toks := tk' } ∧ i ≤ min (⟨va⟩ : Array Value).size (⟨vb⟩ : Array Value).size ∧ k = min (⟨va⟩ : Array Value).size (⟨vb⟩ : Array Value).size + 1 - i ∧ ys.length = i ∧ h'.get? (N + 5) = some (lobj ys n) ∧ VReps (fun _ _ => False) ys ((zipI ia ib).take i) ∧ h'.Ns (N + 6) m' ∧
        (IsZip h' (N + 4) (N + 2) (N + 3) Value.none ∧ IsPair h' (N + 2) (Value.ref N) (Value.ref (N + 1)) ∧ (∃ a b, IsPair h' (N + 3) a b) ∧ h'.IsListIter N aa i ∧ h'.IsListIter (N + 1) ab i ∧ h'.IsList aa ⟨va⟩ ∧ h'.IsList ab ⟨vb⟩) ∧
        (∀ b o, s₁.heap.get? b = some o → h'.get? b = some o)) ?_ (min (⟨va⟩ : Array Value).size (⟨vb⟩ : Array Value).size + 1)
      ⟨h₃, _, 0, [], 0, _, rfl, Nat.zero_le _, rfl, rfl, gD3, .nil, hns₃, St3, fun b o h => old3 b o (z7 b o h)⟩
    rintro k s' ⟨h', tk', i, ys, n, m', rfl, hi, rfl, hyl, gD', hys, hn', hst', kp'⟩
    have old5 : ∀ {b : Addr} {o : Obj}, s₁.heap.get? b = some o → b < N := fun h => by rw [← hN]; exact Heap.lt_size h
    by_cases hlt : i < min (⟨va⟩ : Array Value).size (⟨vb⟩ : Array Value).size
    · refine W.item i _ _ _ hlt hst' fun Tt vals h4 tk4 hP hTge hTup hMid hk4 => ?_
      refine W.go _ _ _ i Tt _ _ _ hMid fun h5 hst5 hk5 => ?_
      obtain ⟨x, y, hx, hy, rfl⟩ := hP
      obtain ⟨p, t, rfl, hp'⟩ := ints_get isa (show va[i]? = some x by simpa using hx)
      obtain ⟨q, u, rfl, hq'⟩ := ints_get isb (show vb[i]? = some y by simpa using hy)
      have hTup5 : IsTup h5 Tt #[.int p t, .int q u] := hTup.at fun o e => hk5 _ o (W.apart i Tt _ hMid) e
      refine assign_Tuple_tuple O.a.handled hTup5 rfl rfl fun h6 he6 => ?_
      have k6 : ∀ b o, b ∉ [N + 4, N + 3, N, N + 1] → h'.get? b = some o → h6.get? b = some o := fun b o hb h => by
        have h5' := hk5 b o hb (hk4 b o hb h)
        exact he6 b o (Nat.ne_of_lt (Heap.lt_size h5')) h5'
      have hn6 : h6.Ns (N + 6) m' := hn'.at' fun o e => k6 _ o (by simp) e
      have hst6 := W.frame (i + 1) h5 h6 hst5 fun b _ o e => he6 b o (Nat.ne_of_lt (Heap.lt_size e)) e
      refine assignInOrder_cons (wpAny_assign_Name (wpAny_storeName_local (env := compEnvC scope [] (N + 6) c.env) (lookup_relabel_local hxa) hn6 (fun h7 hn7 hs7 => ?_) (by simp [compEnvC, relabel, hkind])))
      refine assignInOrder_cons (wpAny_assign_Name (wpAny_storeName_local (env := compEnvC scope [] (N + 6) c.env) (lookup_relabel_local hxb) hn7 (fun h8 hn8 hs8 => ?_) (by simp [compEnvC, relabel, hkind])))
      refine assignInOrder_nil ?_
      refine wpAny_BinOp (wpAny_Name (wpAny_loadName_local (env := compEnvC scope [] (N + 6) c.env) hkind (lookup_relabel_local hxa) hn8 (v := .int p t) (by simp [hab]) ?_) hda)
      refine wpAny_Name (wpAny_loadName_local (env := compEnvC scope [] (N + 6) c.env) hkind (lookup_relabel_local hxb) hn8 (v := .int q u) (by simp) ?_) hdb
      refine PySem.P.add_int ?_
      have k8 : ∀ b o, b ≠ N + 6 → h6.get? b = some o → h8.get? b = some o := fun b o hb h => hs8.extBut b o hb (hs7.extBut b o hb h)
      have gD8 : h8.get? (N + 5) = some (lobj ys n) := k8 _ _ (neN (by omega)) (k6 _ _ (by simp) gD')
      refine append_exact gD8 (by rw [hyl]; have : i < va.length := Nat.lt_of_lt_of_le hlt (Nat.min_le_left _ _); omega) fun h9 n9 gD9 hs9 => ?_
      refine ⟨_, ?_, h9, _, i + 1, _, n9, _, rfl, hlt, rfl, by rw [List.length_append, hyl]; rfl, gD9, ?_, hn8.at' fun o e => hs9.extBut _ o (show @Ne Nat (N + 6) (N + 5) by omega) e, ?_, fun b o h => ?_⟩
      · omega
      · rw [List.take_add_one, zipI_get ia ib i p q hp' hq']
        exact hys.append (.cons (.int _ _) .nil)
      · refine W.frame (i + 1) h6 h9 hst6 fun b hb o e => hs9.extBut b o ?_ (k8 b o ?_ e)
        · simp only [List.mem_cons, List.not_mem_nil, or_false] at hb
          rcases hb with rfl | rfl | rfl | rfl | rfl | rfl | rfl <;> exact neN (by omega)
        · simp only [List.mem_cons, List.not_mem_nil, or_false] at hb
          rcases hb with rfl | rfl | rfl | rfl | rfl | rfl | rfl <;> exact neN (by omega)
      · have hbN : @LT.lt Nat _ b N := old5 h
        refine hs9.extBut b o (neN (by omega)) (k8 b o (neN (by omega)) (k6 b o ?_ (kp' b o h)))
        simp only [List.mem_cons, List.not_mem_nil, or_false]
        rintro (e | e | e | e) <;> exact neN (by omega) e
    · obtain rfl : i = min (⟨va⟩ : Array Value).size (⟨vb⟩ : Array Value).size := Nat.le_antisymm hi (Nat.not_lt.mp hlt)
      refine W.done _ _ _ hst' fun h4 tk4 hk4 => ?_
      refine ⟨m', hn'.at' fun o e => hk4 _ o (by simp) e, fun h5 hs5 => ?_⟩
      have kp5 : ∀ b o, s₁.heap.get? b = some o → h5.get? b = some o := fun b o h => by
        have hbN : @LT.lt Nat _ b N := old5 h
        refine hs5.extBut b o (neN (by omega)) (hk4 b o ?_ (kp' b o h))
        simp only [List.mem_cons, List.not_mem_nil, or_false]
        rintro (e | e | e | e) <;> exact neN (by omega) e
      refine ⟨h₁.1.trans ⟨kp5, rfl, GK.refl _⟩, .list (n := n) ⟨hs5.extBut _ _ (neN (by omega)) (hk4 _ _ (by simp) gD'), fun hmu => ?_⟩ ?_⟩
      · obtain ⟨o, ho⟩ := R.muIn _ hmu
        have : @LT.lt Nat _ (N + 5) N := old5 (h₁.1.grow _ _ ho)
        omega
      · have e1 : (zipI ia ib).take (min (⟨va⟩ : Array Value).size (⟨vb⟩ : Array Value).size) = zipI ia ib := by
          rw [List.take_of_length_le]
          rw [zipI_len, hmin, hlen1, hlen2]
          exact Nat.le_refl _
        rw [e1] at hys
        exact flats_of hys
  exact codeAny_compStart_list (loop _ rfl) (W.self 0 _ _ _ St3 (loop _ rfl))
end
end Mine
end

noncomputable section
namespace Mine
/-- the beads by the line end -/
def endN (e : Nat) : List Nat := match e with
  | 0 => [10]
  | 1 => [13]
  | _ => [13, 10]
def beadN (e k : Nat) : List Nat := match k with
  | 0 => endN e ++ [46]
  | 1 => [92, 34]
  | _ => [65, 46]
def sentN (k : Nat) : List Nat := match k with
  | 0 => [13, 10, 46, 46]
  | 1 => [92, 34]
  | _ => [65, 46]
def txtN (e : Nat) : List Nat → List Nat
  | [] => []
  | k :: r => beadN e k ++ txtN e r
def sntN : List Nat → List Nat
  | [] => []
  | k :: r => sentN k ++ sntN r
def eqL : List Nat → List Nat → Bool
  | [], [] => true
  | a :: r, b :: q => match Nat.beq a b with
    | true => eqL r q
    | false => false
  | _, _ => false
theorem eqL_eq : ∀ {a b : List Nat}, eqL a b = true → a = b
  | [], [], _ => rfl
  | [], _ :: _, h => by cases h
  | _ :: _, [], h => by cases h
  | a :: r, b :: q, h => by
    have h : (match Nat.beq a b with | true => eqL r q | false => false) = true := h
    cases hb : Nat.beq a b with
    | false => rw [hb] at h; cases h
    | true => rw [hb] at h; rw [Nat.eq_of_beq_eq_true hb, eqL_eq h]
def isS (o : Option MV) (t : List Nat) : Bool := match o with
  | some (.str l) => eqL l t
  | _ => false
theorem isS_eq {o : Option MV} {t : List Nat} (h : isS o t = true) : o = some (.str t) := by
  unfold isS at h
  split at h
  · rw [eqL_eq h]
  · cases h
def isI (o : Option MV) (t : Int) : Bool := match o with
  | some (.int l) => decide (l = t)
  | _ => false
theorem isI_eq {o : Option MV} {t : Int} (h : isI o t = true) : o = some (.int t) := by
  unfold isI at h
  split at h
  · rw [of_decide_eq_true h]
  · cases h
def cntN : List Nat → Nat
  | [] => 0
  | k :: r => match Nat.beq k 2 with
    | true => cntN r + 1
    | false => cntN r
def all3 (p : Nat → Nat → Nat → Bool) : Bool := p 0 0 0 && p 0 0 1 && p 0 0 2 && p 0 1 0 && p 0 1 1 && p 0 1 2 && p 0 2 0 && p 0 2 1 && p 0 2 2 && p 1 0 0 && p 1 0 1 && p 1 0 2 && p 1 1 0 && p 1 1 1 && p 1 1 2 && p 1 2 0 && p 1 2 1 && p 1 2 2 && p 2 0 0 && p 2 0 1 && p 2 0 2 && p 2 1 0 && p 2 1 1 && p 2 1 2 && p 2 2 0 && p 2 2 1 && p 2 2 2
theorem all3_at {p : Nat → Nat → Nat → Bool} (h : all3 p = true) {a b c : Nat} (ha : a < 3) (hb : b < 3) (hc : c < 3) : p a b c = true := by
  unfold all3 at h
  simp only [Bool.and_eq_true] at h
  match a, b, c, ha, hb, hc with
  | 0, 0, 0, _, _, _ => exact h.1.1.1.1.1.1.1.1.1.1.1.1.1.1.1.1.1.1.1.1.1.1.1.1.1.1
  | 0, 0, 1, _, _, _ => simp [h]
  | 0, 0, 2, _, _, _ => simp [h]
  | 0, 1, 0, _, _, _ => simp [h]
  | 0, 1, 1, _, _, _ => simp [h]
  | 0, 1, 2, _, _, _ => simp [h]
  | 0, 2, 0, _, _, _ => simp [h]
  | 0, 2, 1, _, _, _ => simp [h]
  | 0, 2, 2, _, _, _ => simp [h]
  | 1, 0, 0, _, _, _ => simp [h]
  | 1, 0, 1, _, _, _ => simp [h]
  | 1, 0, 2, _, _, _ => simp [h]
  | 1, 1, 0, _, _, _ => simp [h]
  | 1, 1, 1, _, _, _ => simp [h]
  | 1, 1, 2, _, _, _ => simp [h]
  | 1, 2, 0, _, _, _ => simp [h]
  | 1, 2, 1, _, _, _ => simp [h]
  | 1, 2, 2, _, _, _ => simp [h]
  | 2, 0, 0, _, _, _ => simp [h]
  | 2, 0, 1, _, _, _ => simp [h]
  | 2, 0, 2, _, _, _ => simp [h]
  | 2, 1, 0, _, _, _ => simp [h]
  | 2, 1, 1, _, _, _ => simp [h]
  | 2, 1, 2, _, _, _ => simp [h]
  | 2, 2, 0, _, _, _ => simp [h]
  | 2, 2, 1, _, _, _ => simp [h]
  | 2, 2, 2, _, _, _ => simp [h]
set_option maxRecDepth 100000
theorem q0 : all3 (fun a b c => isS (quoteφ [.str (txtN 0 [a, b, c])]) (sntN [a, b, c])) = true := by decide +kernel
theorem q1 : all3 (fun a b c => isS (quoteφ [.str (txtN 1 [a, b, c])]) (sntN [a, b, c])) = true := by decide +kernel
theorem q2 : all3 (fun a b c => isS (quoteφ [.str (txtN 2 [a, b, c])]) (sntN [a, b, c])) = true := by decide +kernel
theorem quote_txt {e a b c : Nat} (he : e < 3) (ha : a < 3) (hb : b < 3) (hc : c < 3) : quoteφ [.str (txtN e [a, b, c])] = some (.str (sntN [a, b, c])) := by
  match e, he with
  | 0, _ => exact isS_eq (all3_at q0 ha hb hc)
  | 1, _ => exact isS_eq (all3_at q1 ha hb hc)
  | 2, _ => exact isS_eq (all3_at q2 ha hb hc)
def lowL : List Nat → List Nat
  | [] => []
  | c :: r => lowN c :: lowL r
theorem l0 : all3 (fun a b c => isI (levφ [.str (txtN 0 [a, b, c]), .str (lowL (txtN 0 [a, b, c])), .int 3]) (Int.ofNat (cntN [a, b, c]))) = true := by decide +kernel
theorem l1 : all3 (fun a b c => isI (levφ [.str (txtN 1 [a, b, c]), .str (lowL (txtN 1 [a, b, c])), .int 3]) (Int.ofNat (cntN [a, b, c]))) = true := by decide +kernel
theorem l2 : all3 (fun a b c => isI (levφ [.str (txtN 2 [a, b, c]), .str (lowL (txtN 2 [a, b, c])), .int 3]) (Int.ofNat (cntN [a, b, c]))) = true := by decide +kernel
theorem r0 : all3 (fun a b c => isI (levφ [.str (lowL (txtN 0 [a, b, c])), .str (txtN 0 [a, b, c]), .int 3]) (Int.ofNat (cntN [a, b, c]))) = true := by decide +kernel
theorem r1 : all3 (fun a b c => isI (levφ [.str (lowL (txtN 1 [a, b, c])), .str (txtN 1 [a, b, c]), .int 3]) (Int.ofNat (cntN [a, b, c]))) = true := by decide +kernel
theorem r2 : all3 (fun a b c => isI (levφ [.str (lowL (txtN 2 [a, b, c])), .str (txtN 2 [a, b, c]), .int 3]) (Int.ofNat (cntN [a, b, c]))) = true := by decide +kernel
theorem lev_txt {e a b c : Nat} (he : e < 3) (ha : a < 3) (hb : b < 3) (hc : c < 3) : levφ [.str (txtN e [a, b, c]), .str (lowL (txtN e [a, b, c])), .int 3] = some (.int (Int.ofNat (cntN [a, b, c]))) := by
  match e, he with
  | 0, _ => exact isI_eq (all3_at l0 ha hb hc)
  | 1, _ => exact isI_eq (all3_at l1 ha hb hc)
  | 2, _ => exact isI_eq (all3_at l2 ha hb hc)
theorem lev_txt' {e a b c : Nat} (he : e < 3) (ha : a < 3) (hb : b < 3) (hc : c < 3) : levφ [.str (lowL (txtN e [a, b, c])), .str (txtN e [a, b, c]), .int 3] = some (.int (Int.ofNat (cntN [a, b, c]))) := by
  match e, he with
  | 0, _ => exact isI_eq (all3_at r0 ha hb hc)
  | 1, _ => exact isI_eq (all3_at r1 ha hb hc)
  | 2, _ => exact isI_eq (all3_at r2 ha hb hc)
end Mine
end

noncomputable section
namespace Mine
open PySem PyProof.Rows PySem.Builtin.Str
abbrev lcx (prog : Program) (w : World) (A : Around) (L a : Addr) (cd : Value) (mg mb : Str → Option Value) (hb : Heap) (d : Nat) : Cx :=
  { prog, w, A := A.deeper (envOfC (dName 18) (dScope 18) L a cd), env := envOfC (dName 18) (dScope 18) L a cd, nm, mg, mb, hb, d }
theorem lcx_ok {prog : Program} {w : World} {A : Around} {L a : Addr} {cd : Value} {mg mb : Str → Option Value} {hb : Heap} {d : Nat} (hA : AOk A (d + 1)) : (lcx prog w A L a cd mg mb hb d).Ok := ⟨hA.deeper _, rfl, rfl, rfl, nm_inj⟩
structure Fns (prog : Program) (w : World) (mg mb : Str → Option Value) (hb : Heap) (d : Nat) : Prop where
  strip : Fn prog w mg mb hb "_strip_quoted_realnames" d stripφ
  quote : Fn prog w mg mb hb "quotedata" d quoteφ
  lev : Fn prog w mg mb hb "_levenshtein_distance" d levφ
  text : FnK prog w mg mb hb "_law_text" d textφ
set_option maxRecDepth 100000 in
set_option maxHeartbeats 4000000 in
def cutP (bl : List MV) : { F : SF // ∀ (prog : Program) (w : World) (A : Around) (L a : Addr) (cd : Value) (mg mb : Str → Option Value) (hb : Heap) (d : Nat), AOk A (d + 1) → 5 ≤ d → Tf mg mb → Fns prog w mg mb hb d → CellB (lcx prog w A L a cd mg mb hb d) (L + 1) bl →
    (lcx prog w A L a cd mg mb hb d).SS ((dBody 18).drop 3) F } := ⟨_, by
  intro prog w A L a cd mg mb hb d hA hd H N B
  have O : (lcx prog w A L a cd mg mb hb d).Ok := lcx_ok hA
  have hu : (lcx prog w A L a cd mg mb hb d).A.units + 20 < cLine := by have := O.a.units; have h5 : 5 ≤ (lcx prog w A L a cd mg mb hb d).d := hd; omega
  exact SS_cons (S_assign O (x := 23) rfl rfl (E_list (Es_cons (E_str (l := [13, 10, 46, 46]) rfl) (Es_cons (E_str (l := [92, 34]) rfl) (Es_cons (E_str (l := [65, 46]) rfl) Es_nil rfl) rfl) rfl)) rfl)
    (SS_cons (S_assign O (x := 24) rfl rfl E_int rfl)
    (SS_cons (S_new O (x := 25) rfl rfl Fresh_nil rfl)
    (SS_cons (S_new O (x := 26) rfl rfl Fresh_nil rfl)
    (SS_cons (S_forRange O (x := 27) rfl rfl rfl H.range.1 H.range.2 rfl (Es_cons E_int Es_nil rfl) rfl (fun _ => rfl)
      (SS_cons (S_forRange O (x := 28) rfl rfl rfl H.range.1 H.range.2 rfl
        (Es_cons (E_bin op_add (E_var O (x := 27) rfl rfl rfl) (E_built O rfl H.min.1 H.min.2 rfl (Es_cons (E_var O (x := 27) rfl rfl rfl) (Es_cons E_int Es_nil rfl) rfl) (op_min O.a.handled) rfl (fun _ => rfl))) (Es_cons (E_bin op_add (E_var O (x := 27) rfl rfl rfl) E_int) Es_nil rfl) rfl) rfl (fun _ => rfl)
        (SS_cons (S_assign O (x := 29) rfl rfl (E_bin op_sub (E_bin op_add (E_var O (x := 28) rfl rfl rfl) E_int) (E_var O (x := 27) rfl rfl rfl)) rfl)
        (SS_cons (S_assign O (x := 30) rfl rfl (E_list (Es_cons (E_slice (E_var O (x := 7) rfl rfl rfl) P_none (P_some (E_var O (x := 27) rfl rfl rfl)) (fun _ _ => rfl))
            (Es_cons (E_slice (E_var O (x := 7) rfl rfl rfl) (P_some (E_var O (x := 27) rfl rfl rfl)) (P_some (E_var O (x := 28) rfl rfl rfl)) (fun _ _ => rfl))
            (Es_cons (E_slice (E_var O (x := 7) rfl rfl rfl) (P_some (E_var O (x := 28) rfl rfl rfl)) (P_some (E_var O (x := 29) rfl rfl rfl)) (fun _ _ => rfl))
            (Es_cons (E_slice (E_var O (x := 7) rfl rfl rfl) (P_some (E_var O (x := 29) rfl rfl rfl)) P_none (fun _ _ => rfl)) Es_nil rfl) rfl) rfl) rfl)) rfl)
        (SS_cons (S_assign O (x := 31) rfl rfl (E_bin op_add (E_idx (E_var O (x := 30) rfl rfl rfl) E_int (fun _ _ => rfl)) (E_idx (E_var O (x := 30) rfl rfl rfl) E_int (fun _ _ => rfl))) rfl)
        (SS_cons (S_comp O (y := 32) (cl := [(Str.ofString "beads", L + 1)]) rfl rfl (E_var O (x := 30) rfl rfl rfl) (Elt_text O B N.text rfl rfl (fun _ => rfl) rfl (fun _ => rfl) rfl (fun _ => rfl) (fun _ => rfl) (fun _ => rfl)) rfl rfl (by decide +kernel) rfl (by decide +kernel) rfl (fun _ => rfl))
        (SS_cons (S_assign O (x := 33) rfl rfl (E_call O N.strip rfl rfl (Es_cons (E_bin op_add (E_methS rfl rfl rfl PySem.F.slot_str_join PySem.F.type_str_join (E_str (l := [34]) rfl) (Es_cons (E_var O (x := 32) rfl rfl rfl) Es_nil rfl) op_join join_str rfl (fun _ => rfl)) (E_str (l := [34]) rfl)) Es_nil rfl) rfl) rfl)
        (SS_cons (S_if (T_cmp op_ne (E_var O (x := 33) rfl rfl rfl) (E_callB O B N.text.fn rfl rfl (E_var O (x := 31) rfl rfl rfl) rfl rfl) rfl) (SS_cons (S_ret E_bool) SS_nil) SS_nil)
        (SS_cons (S_assign O (x := 34) rfl rfl (E_call O N.quote rfl rfl (Es_cons (E_var O (x := 33) rfl rfl rfl) Es_nil rfl) rfl) rfl)
        (SS_cons (S_assign O (x := 35) rfl rfl (E_call O N.lev rfl rfl (Es_cons (E_var O (x := 33) rfl rfl rfl) (Es_cons (E_meth0 rfl rfl PySem.F.slot_str_lower PySem.F.type_str_lower (E_var O (x := 33) rfl rfl rfl) op_lower lower_str) (Es_cons E_int Es_nil rfl) rfl) rfl) rfl) rfl)
        (SS_cons (S_append O (x := 25) rfl rfl rfl (E_tup (Es_cons (E_var O (x := 34) rfl rfl rfl) (Es_cons (E_var O (x := 35) rfl rfl rfl) Es_nil rfl) rfl)) rfl rfl rfl rfl rfl rfl)
        (SS_cons (S_append O (x := 26) rfl rfl rfl (E_tup (Es_cons (E_call O N.text.fn rfl rfl (Es_cons (E_var O (x := 31) rfl rfl rfl) (Es_cons (E_var O (x := 23) rfl rfl rfl) Es_nil rfl) rfl) rfl) (Es_cons (E_methL rfl rfl rfl PySem.F.slot_list_count PySem.F.type_list_count (E_var O (x := 31) rfl rfl rfl) (Es_cons E_int Es_nil rfl) op_count count_list rfl (fun _ => rfl)) Es_nil rfl) rfl)) rfl rfl rfl rfl rfl rfl)
        (SS_cons (S_assign O (x := 36) rfl rfl (E_bin op_sub (E_built O rfl H.len.1 H.len.2 rfl (Es_cons (E_var O (x := 34) rfl rfl rfl) Es_nil rfl) op_len rfl (fun _ => rfl)) (E_built O rfl H.len.1 H.len.2 rfl (Es_cons (E_var O (x := 33) rfl rfl rfl) Es_nil rfl) op_len rfl (fun _ => rfl))) rfl)
        (SS_cons (S_if (T_and (T_cmp op_eq (E_bin op_mul E_int (E_var O (x := 35) rfl rfl rfl)) (E_methL rfl rfl rfl PySem.F.slot_list_count PySem.F.type_list_count (E_var O (x := 7) rfl rfl rfl) (Es_cons E_int Es_nil rfl) op_count count_list rfl (fun _ => rfl)) rfl)
              (T_and (T_cmp op_eq (E_bin op_mul E_int (E_var O (x := 36) rfl rfl rfl)) (E_bin op_mul (E_methL rfl rfl rfl PySem.F.slot_list_count PySem.F.type_list_count (E_var O (x := 7) rfl rfl rfl) (Es_cons E_int Es_nil rfl) op_count count_list rfl (fun _ => rfl)) (E_bin op_sub E_int (E_built O rfl H.len.1 H.len.2 rfl (Es_cons (E_var O (x := 22) rfl rfl rfl) Es_nil rfl) op_len rfl (fun _ => rfl)))) rfl) T_and_nil))
          (SS_cons (S_assign O (x := 24) rfl rfl (E_bin op_add (E_var O (x := 24) rfl rfl rfl) E_int) rfl)
          (SS_cons (S_assign O (x := 37) rfl rfl (E_call O N.strip rfl rfl (Es_cons (E_bin op_add (E_str (l := [34]) rfl) (E_methS rfl rfl rfl PySem.F.slot_str_join PySem.F.type_str_join (E_str (l := [34]) rfl) (Es_cons (E_var O (x := 32) rfl rfl rfl) Es_nil rfl) op_join join_str rfl (fun _ => rfl))) Es_nil rfl) rfl) rfl)
          (SS_cons (S_if (T_cmp op_ne (E_var O (x := 37) rfl rfl rfl) (E_callB O B N.text.fn rfl rfl (E_bin op_add (E_idx (E_var O (x := 30) rfl rfl rfl) E_int (fun _ _ => rfl)) (E_idx (E_var O (x := 30) rfl rfl rfl) E_int (fun _ _ => rfl))) rfl rfl) rfl) (SS_cons (S_ret E_bool) SS_nil) SS_nil)
          (SS_cons (S_if (T_cmp op_ne (E_bin op_sub (E_built O rfl H.len.1 H.len.2 rfl (Es_cons (E_call O N.quote rfl rfl (Es_cons (E_var O (x := 37) rfl rfl rfl) Es_nil rfl) rfl) Es_nil rfl) op_len rfl (fun _ => rfl)) (E_built O rfl H.len.1 H.len.2 rfl (Es_cons (E_var O (x := 37) rfl rfl rfl) Es_nil rfl) op_len rfl (fun _ => rfl))) (E_var O (x := 36) rfl rfl rfl) rfl) (SS_cons (S_ret E_bool) SS_nil) SS_nil)
          (SS_cons (S_if (T_cmp op_ne (E_call O N.lev rfl rfl (Es_cons (E_meth0 rfl rfl PySem.F.slot_str_lower PySem.F.type_str_lower (E_var O (x := 37) rfl rfl rfl) op_lower lower_str) (Es_cons (E_var O (x := 37) rfl rfl rfl) (Es_cons E_int Es_nil rfl) rfl) rfl) rfl) (E_var O (x := 35) rfl rfl rfl) rfl) (SS_cons (S_ret E_bool) SS_nil) SS_nil)
          SS_nil))))) SS_nil)
        SS_nil)))))))))))) (fun _ => rfl)) SS_nil) (fun _ => rfl))
    (SS_freeze (x := 25) (SS_freeze (x := 26) (SS_cons (S_ret (E_and (E_cmp op_gt (E_var O (x := 24) rfl rfl rfl) E_int rfl) (E_cmp (op_eqL hu) (E_var O (x := 25) rfl rfl rfl) (E_var O (x := 26) rfl rfl rfl) rfl))) SS_nil)))))))⟩
end Mine
end

noncomputable section
namespace Mine
open PySem PyProof.Rows PySem.Builtin.Str
def sumV : List MV → Option MV
  | [.list []] => some (.int 0)
  | [.list [.int d]] => some (.int d)
  | _ => .none
section
variable {prog : Program} {w : World} {A : Around}
theorem sum_wp (hh : A.handled = .none) {a : Addr} {items : List Value} {n : Nat} {s : Shared} {Q : Value → Shared → Prop} {E : Value → Shared → Prop} (g : s.heap.get? a = some (lobj items n)) (val : Nat → Int) (hv : ∀ i v, items[i]? = some v → ∃ t, v = Value.int (val i) t)
    (hQ : ∀ h' tk t', (∀ b o, s.heap.get? b = some o → h'.get? b = some o) → Q (.int (preSum val items.length) t') { s with heap := h', toks := tk }) :
    wpAny (model prog w) A (call (.builtin "sum") [.ref a]) Q E s := by
  have hl : s.heap.IsList a ⟨items⟩ := ⟨_, g, rfl, n, rfl⟩
  have hlt : a < s.heap.objs.size := Heap.lt_size g
  refine call_sum_walkG (wpAny_pyIter_list hl ?_)
  refine ⟨s.heap.objs.size, [s.heap.objs.size, a], [s.heap.objs.size], (⟨items⟩ : Array Value).size, _, _, val, rfl, Walks.list (A := A.in1) hh s.heap.objs.size a (Nat.ne_of_lt hlt) ⟨items⟩, ⟨⟨_, Heap.get?_push_size _ rfl, rfl, rfl⟩, hl.push _⟩, fun b hb => ?_, fun i v hi => hv i v (by simpa using hi), fun h' tk t' hk => ?_⟩
  · show b < (s.heap.push _).objs.size
    rw [Heap.size_push]
    rcases List.mem_cons.mp hb with rfl | hb
    · exact Nat.lt_succ_self _
    · rw [List.mem_singleton.mp hb]; exact Nat.lt_succ_of_lt hlt
  · exact hQ h' tk t' fun b o ho => hk b o (by simp; exact Nat.ne_of_lt (Heap.lt_size ho)) (Heap.get?_push_of_some _ ho)
theorem op_sum (hh : A.handled = .none) : OpL (model prog w) A (fun vs => call (.builtin "sum") vs) sumV := by
  intro a x v hk s mu hmu ra
  unfold sumV at hk
  split at hk
  · cases hk
    cases ra with
    | cons r rs =>
      cases rs
      obtain ⟨aa, items, n, rfl, g, r⟩ := r.isL
      cases r
      exact sum_wp hh g.1 (fun _ => 0) (fun i v hi => by cases hi) fun h' tk t' hk => ⟨⟨hk, rfl, GK.refl _⟩, .int _ _⟩
  · rename_i d
    cases hk
    cases ra with
    | cons r rs =>
      cases rs
      obtain ⟨aa, items, n, rfl, g, r⟩ := r.isL
      cases r with
      | cons r1 r2 =>
        cases r2
        cases r1 with
        | int _ t =>
          refine sum_wp hh g.1 (fun _ => d) (fun i v hi => ?_) fun h' tk t' hk => ⟨⟨hk, rfl, GK.refl _⟩, ?_⟩
          · cases i with
            | zero => cases hi; exact ⟨t, rfl⟩
            | succ i => cases hi
          · have e : preSum (fun _ => d) 1 = d := by simp [preSum]
            show VRep _ (.int (preSum (fun _ => d) 1) t') _
            rw [e]; exact .int _ _
  · cases hk
end
def noOwn : Loc → Bool
  | [] => true
  | (_, .val _) :: r => noOwn r
  | (_, .own _) :: _ => false
theorem noOwn_get : ∀ {σ : Loc} {x : Nat} {l : List MV}, noOwn σ = true → getL σ x ≠ some (.own l)
  | [], _, _, _, h => by cases h
  | (y, .val v) :: r, x, l, h, e => by
    rw [getL_cons] at e
    split at e
    · cases e
    · exact noOwn_get (σ := r) h e
  | (_, .own _) :: _, _, _, h, _ => by cases h
theorem VRep.avoidE {G : Addr → Obj → Prop} {it : Addr} (h : ∀ o, G it o → ∀ xs n, o.data ≠ .seq xs n) : ∀ {v : Value} {x : MV}, VRep G v x → VRep (fun b o => G b o ∧ b ≠ it) v x := by
  have key : (∀ v x, VRep G v x → VRep (fun b o => G b o ∧ b ≠ it) v x) := by
    intro v x r
    refine VRep.rec (motive_1 := fun v x _ => VRep (fun b o => G b o ∧ b ≠ it) v x) (motive_2 := fun v x _ => VReps (fun b o => G b o ∧ b ≠ it) v x) ?_ ?_ ?_ ?_ ?_ ?_ ?_ ?_ r
    · exact .none
    · exact .bool
    · exact .int
    · exact .str
    · intro a items n l g _ ih; exact .list ⟨g, fun e => h _ (e ▸ g) _ _ rfl⟩ ih
    · intro a items n l g _ ih; exact .tup ⟨g, fun e => h _ (e ▸ g) _ _ rfl⟩ ih
    · exact .nil
    · intro v x vs xs _ _ i1 i2; exact .cons i1 i2
  exact fun {v x} r => key v x r
/-- what the def of the row does -/
def RowFn (prog : Program) (w : World) (mg mb : Str → Option Value) (hb : Heap) (d : Nat) : Prop :=
  ∃ a o fd, mg "_law_row" = some (.ref a) ∧ hb.get? a = some o ∧ o.data = .func fd ∧
    ∀ A, AOk A d → ∀ l v, rowφ l = some v → ∀ s val, Tp mg mb hb s.heap → VRep (fun b o => s.heap.get? b = some o) val (.list l) →
      codeAny (model prog w) A (.call (.ref a) ⟨[val], []⟩) (fun r s' => ∃ val', r = .ok (.ret val') ∧ Step s s' ∧ VRep (fun b o => s'.heap.get? b = some o) val' v) s
def rowF (x : Nat) (f : Loc → Option MV) : SF := fun σ => match noOwn σ, f σ with
  | true, some (.list l) => match rowφ l with
    | some v => some (setL σ x (.val v), .next)
    | .none => .none
  | _, _ => .none
section
variable {c : Cx}
theorem S_row (O : c.Ok) (hr : RowFn c.prog c.w c.mg c.mb c.hb c.d) {x : Nat} {n rn : Str} {np rp cp pos : Pos} {e : Expr} {f : Loc → Option MV} (hn : n = c.nm x) (hk : c.env.kindOf n = some .local) (hrn : rn = Str.ofString "_law_row") (hkr : c.env.kindOf rn = some .globalImplicit) (hd : (rn == ("__debug__" : Str)) = false)
    (he : c.E e f) (hst : starEach [e] c.env = [(false, eval e c.env)]) (hs : swapsWith (.Call (.Name rn rp) [e] [] cp) (some (.Name n np)) pos.line c.env = pure false) :
    c.S (.Assign [.Name n np] (.Call (.Name rn rp) [e] [] cp) pos) (rowF x f) := by
  intro s₀ T σ σ' fl hF s R
  unfold rowF at hF
  split at hF
  · rename_i l hno hf
    split at hF
    · rename_i v hv
      cases hF
      obtain ⟨m, ad, F, hmu⟩ := R.fr
      obtain ⟨a, o, fd, g1, g2, g3, g4⟩ := hr
      subst hrn
      refine wpAny_Assign_Name (wpAny_Call_NameR (name_glob O hkr g1 hd (T.step R.base) ?_)) hs
      refine callWith_def g3 (spliced_more (wpAny_mono (he σ _ hf s m ad _ F (T.step R.base)) (fun u s₁ h₁ => ?_) fun _ _ e => e) hst) hst
      have T₁ := (T.step R.base).step h₁.1
      refine spliced_none ⟨T₁.keep _ _ g2, ?_⟩
      refine wpAny_call (codeAny_mono (g4 c.A O.a l v hv s₁ u T₁ (h₁.2.mono fun b o hb => hb.1)) fun r s₂ hr => ?_)
      obtain ⟨val', rfl, st, rv⟩ := hr
      have st2 := h₁.1.trans st
      have F₂ := F.step st2
      have rv' : VRep (Fz s₂.heap (muOf c.env.locals σ ad)) val' v := (rv.avoidE (it := c.env.locals) (fun o ho xs nn => by
        obtain ⟨oL, es, ep, q1, q2, _⟩ := F₂.ns
        rw [q1] at ho; cases ho
        rw [q2]; simp)).mono fun b o h => ⟨h.1, fun q => q.elim h.2 fun ⟨y, ly, hy, _⟩ => noOwn_get hno hy⟩
      exact wpStore O hn hk (R.step st2) F₂ hmu rv' fun s' m' R' _ _ => ⟨rfl, R'⟩
    · cases hF
  · cases hF
/-- fewer names are told -/
theorem SR.forget {s₀ s : Shared} {σ σ' : Loc} (R : SR c s₀ σ s) (h : ∀ x v, getL σ' x = some v → getL σ x = some v) (hn : noOwn σ = true) : SR c s₀ σ' s := by
  obtain ⟨m, ad, F, hmu⟩ := R.fr
  have no' : ∀ x l, getL σ' x ≠ some (.own l) := fun x l e => noOwn_get hn (h x _ e)
  have mu : ∀ b, muOf c.env.locals σ' ad b → muOf c.env.locals σ ad b := by
    rintro b (e | ⟨x, l, hx, _⟩)
    · exact .inl e
    · exact absurd hx (no' x l)
  refine ⟨R.base, m, ad, ⟨F.ns, .inl rfl, fun b hb => F.muIn b (mu b hb), fun x v hx => ?_, fun x l hx => absurd hx (no' x l), fun x _ lx _ hx => absurd hx (no' x lx)⟩, fun b hb => hmu b (mu b hb)⟩
  obtain ⟨val, h1, h2⟩ := F.val x v (h x _ hx)
  exact ⟨val, h1, h2.mono fun b o hb => ⟨hb.1, fun q => hb.2 (mu b q)⟩⟩
end
set_option maxRecDepth 100000 in
set_option maxHeartbeats 2000000 in
def headP : { F : (SF × (Loc → Option MV)) × (Loc → Option MV) // ∀ (prog : Program) (w : World) (A : Around) (L a : Addr) (cd : Value) (mg mb : Str → Option Value) (hb : Heap) (d : Nat), AOk A (d + 1) → Tf mg mb → RowFn prog w mg mb hb d →
    (lcx prog w A L a cd mg mb hb d).S (stA 18 0) F.1.1 ∧ (lcx prog w A L a cd mg mb hb d).S (stA 18 1) (asgF 22 F.1.2) ∧
    ∃ np e pos, stA 18 2 = .Assign [.Name "beads" np] e pos ∧ (lcx prog w A L a cd mg mb hb d).E e F.2 ∧ swapsWith e (some (.Name "beads" np)) pos.line (lcx prog w A L a cd mg mb hb d).env = pure false } := ⟨((_, _), _), by
  intro prog w A L a cd mg mb hb d hA H hr
  have O : (lcx prog w A L a cd mg mb hb d).Ok := lcx_ok hA
  refine ⟨?_, ?_, ?_⟩
  · exact S_row O hr (x := 7) rfl rfl rfl rfl rfl (E_zipAdd O rfl H.zip.1 H.zip.2 rfl
      (Es_cons (E_list (Es_cons E_int (Es_cons E_int (Es_cons E_int Es_nil rfl) rfl) rfl)) (Es_cons (E_bin op_add (E_slice (E_var O (x := 21) rfl rfl rfl) P_none (P_some E_int) (fun _ _ => rfl)) (E_list (Es_cons E_int (Es_cons E_int (Es_cons E_int Es_nil rfl) rfl) rfl))) Es_nil rfl) rfl)
      rfl (fun _ => rfl) rfl (by decide +kernel) rfl (by decide +kernel) rfl rfl (by decide +kernel) rfl rfl (fun _ => rfl)) rfl rfl
  · exact S_assign O (x := 22) rfl rfl (E_idx (E_list (Es_cons (E_str (l := [10]) rfl) (Es_cons (E_str (l := [13]) rfl) (Es_cons (E_str (l := [13, 10]) rfl) Es_nil rfl) rfl) rfl))
      (E_bin op_mod (E_built O rfl H.sum.1 H.sum.2 rfl (Es_cons (E_slice (E_var O (x := 21) rfl rfl rfl) (P_some E_int) (P_some E_int) (fun _ _ => rfl)) Es_nil rfl) (op_sum O.a.handled) rfl (fun _ => rfl)) E_int) (fun _ _ => rfl)) rfl
  · exact ⟨_, _, _, rfl, E_list (Es_cons (E_bin op_add (E_var O (x := 22) rfl rfl rfl) (E_str (l := [46]) rfl)) (Es_cons (E_str (l := [92, 34]) rfl) (Es_cons (E_str (l := [65, 46]) rfl) Es_nil rfl) rfl) rfl), rfl⟩⟩
end Mine
end

noncomputable section
namespace Mine
open PySem PyProof.Rows PySem.Builtin.Str
section
variable {c : Cx}
/-- a cell is changed -/
theorem SR.cellSet {s₀ s : Shared} {σ : Loc} (R : SR c s₀ σ s) {it : Addr} {o : Obj} {v : Option Value} {h' : Heap} {tk : Nat} (ho : s.heap.get? it = some o) (hd : o.data = .cell v) (h0 : s₀.heap.get? it = .none) (hk : ∀ b o, b ≠ it → s.heap.get? b = some o → h'.get? b = some o) :
    SR c s₀ σ { s with heap := h', toks := tk } := by
  obtain ⟨m, ad, F, hmu⟩ := R.fr
  have hn : ¬ muOf c.env.locals σ ad it := by
    rintro (e | ⟨x, l, hx, e⟩)
    · subst e
      obtain ⟨oL, es, ep, h1, h2, _⟩ := F.ns
      rw [h1] at ho; cases ho
      rw [h2] at hd; cases hd
    · obtain ⟨_, _, _, items, n, h4, _⟩ := F.own x l hx
      rw [← e, ho] at h4; cases h4
      cases hd
  have fz : ∀ b o, Fz s.heap (muOf c.env.locals σ ad) b o ∧ b ≠ it → Fz h' (muOf c.env.locals σ ad) b o := fun b o hb => ⟨hk b o hb.2 hb.1.1, hb.1.2⟩
  have odd : ∀ o', Fz s.heap (muOf c.env.locals σ ad) it o' → ∀ xs n, o'.data ≠ .seq xs n := fun o' hb xs n e => by
    have := hb.1; rw [ho] at this; cases this; rw [hd] at e; cases e
  refine ⟨⟨fun b o' hb => hk b o' (fun e => by rw [e, h0] at hb; cases hb) (R.base.grow b o' hb), R.base.os, R.base.gens⟩, m, ad, ⟨?_, F.muL, fun b hb => ?_, fun x v hx => ?_, fun x l hx => ?_, F.inj⟩, hmu⟩
  · obtain ⟨oL, es, ep, h1, r⟩ := F.ns
    exact ⟨oL, es, ep, hk _ _ (fun e => hn (.inl e.symm)) h1, r⟩
  · obtain ⟨o', ho'⟩ := F.muIn b hb
    exact ⟨o', hk b o' (fun e => hn (e ▸ hb)) ho'⟩
  · obtain ⟨val, h1, h2⟩ := F.val x v hx
    exact ⟨val, h1, (h2.avoidE odd).mono fz⟩
  · obtain ⟨h1, h2, h3, items, n, h4, h5⟩ := F.own x l hx
    refine ⟨h1, h2, h3, items, n, hk _ _ (fun e => hn (e ▸ h2)) h4, ?_⟩
    have key : ∀ (v : Value) (x : MV), VRep (Fz s.heap (muOf c.env.locals σ ad)) v x → VRep (Fz h' (muOf c.env.locals σ ad)) v x := fun v x r => (r.avoidE odd).mono fz
    have keys : ∀ (vs : List Value) (xs : List MV), VReps (Fz s.heap (muOf c.env.locals σ ad)) vs xs → VReps (Fz h' (muOf c.env.locals σ ad)) vs xs := by
      intro vs
      induction vs with
      | nil => intro xs h; cases h; exact .nil
      | cons v vs ih =>
        intro xs h
        cases h with
        | cons a r => exact .cons (key _ _ a) (ih _ r)
    exact keys _ _ h5
end
theorem DefIn.keep {mg : Str → Option Value} {hb hb' : Heap} {i : Nat} (D : DefIn mg hb i) (k : ∀ b o, hb.get? b = some o → hb'.get? b = some o) : DefIn mg hb' i := by
  obtain ⟨a, o, pm, cd, doc, h1, h2, h3, h4⟩ := D
  exact ⟨a, o, pm, cd, doc, h1, k _ _ h2, h3, h4.keeps k⟩
theorem Tq.keep {mg : Str → Option Value} {hb hb' : Heap} (D : Tq mg hb) (k : ∀ b o, hb.get? b = some o → hb'.get? b = some o) : Tq mg hb' := by
  obtain ⟨⟨P, h1, h2⟩, ⟨P', h3, h4⟩, h5⟩ := D
  exact ⟨⟨P, h1, h2.mono k⟩, ⟨P', h3, h4.mono k⟩, h5⟩
structure Defs (mg : Str → Option Value) (hb : Heap) : Prop where
  d2 : DefIn mg hb 2
  d3 : DefIn mg hb 3
  d8 : DefIn mg hb 8
  d13 : DefIn mg hb 13
  d14 : DefIn mg hb 14
  d16 : DefIn mg hb 16
  d17 : DefIn mg hb 17
  d18 : DefIn mg hb 18
section
variable {prog : Program} {w : World} {mg mb : Str → Option Value} {hb : Heap}
theorem fns_of (T : Tp mg mb hb hb) (H : Tf mg mb) (Q : Tq mg hb) (D : Defs mg hb) : Fns prog w mg mb hb 11 ∧ RowFn prog w mg mb hb 11 := by
  refine ⟨⟨(strip_fn (d := 10) T D.d2 D.d3 H (by omega)), quote_fn (d := 10) D.d8 Q, lev_fn (d := 10) D.d14 H (cost_fn (d := 9) D.d13 H), text_fn (d := 10) D.d17⟩, row_fn (d := 10) D.d16 H⟩
set_option maxRecDepth 100000 in
theorem law_run {A : Around} {s : Shared} (hA : AOk A 12) (T : Tp mg mb s.heap s.heap) (H : Tf mg mb) (Q : Tq mg s.heap) (D : Defs mg s.heap) {script : Value} {S : MV} (rs : VRep (fun b o => s.heap.get? b = some o) script S) {row : MV} {e : List Nat} {bl : List MV} {σ' : Loc}
    (hrow : headP.1.1.1 [(21, .val S)] = some ([(21, .val S), (7, .val row)], .next)) (hend : headP.1.1.2 [(21, .val S), (7, .val row)] = some (.str e)) (hbl : headP.1.2 [(21, .val S), (7, .val row), (22, .val (.str e))] = some (.list bl))
    (hcut : (cutP bl).1 [(7, .val row), (22, .val (.str e))] = some (σ', .ret (.bool true))) :
    ∃ a, mg (dName 18) = some (.ref a) ∧ codeAny (model prog w) A (.call (.ref a) ⟨[script], []⟩) (fun r s' => r = .ok (.ret (.bool true)) ∧ Step s s') s := by
  have D18 := D.d18
  obtain ⟨a, o, pm, cd, doc, h1, h2, h3, h4⟩ := D18
  refine ⟨a, h1, ?_⟩
  refine call_cells_ret (binds := [("script", script)]) (by have := hA.depth; omega) h2 h3 T.nolimit h4 rfl ?_ (fun h₁ tk F X => ?_) rfl rfl rfl
  · intro x hx
    rw [List.mem_singleton.mp hx]
    exact .inl (by kernel_rfl)
  generalize hL : s.heap.objs.size = L at *
  have R0 : SR (lcx prog w A L a cd mg mb s.heap 11) s [(21, .val S)] { s with heap := h₁, toks := tk } := by
    subst hL
    refine init_sr F rfl (fun x v hx => ?_) fun x l hx => ?_
    · rw [getL_cons] at hx
      split at hx
      · rename_i e; cases hx; subst e; exact ⟨_, by kernel_rfl, rs⟩
      · cases hx
    · rw [getL_cons] at hx
      split at hx
      · cases hx
      · cases hx
  have muB : ∀ {σ : Loc} {ad : Nat → Addr} {b : Addr}, noOwn σ = true → muOf L σ ad b → b = L := fun hn q => q.elim id fun ⟨x, l, hx, _⟩ => absurd hx (noOwn_get hn)
  have neL : @Ne Nat (L + 1) L := by omega
  obtain ⟨N, RF⟩ := fns_of (prog := prog) (w := w) T H Q D
  obtain ⟨S0, S1, np, ex, pos, est, E2, sw⟩ := headP.2 prog w A L a cd mg mb s.heap 11 hA H RF
  obtain ⟨m0, ad0, F0, hmu0⟩ := R0.fr
  obtain ⟨s₁, T₁, R1, kp1, back1⟩ := R0.reframe T F0 hmu0
  obtain ⟨oc, hoc, hdc⟩ := X.cell (Str.ofString "beads") (L + 1) (by kernel_rfl)
  have hoc1 : s₁.heap.get? (L + 1) = some oc := kp1 _ _ hoc fun q => neL (muB rfl q)
  show wpAny (model prog w) (lcx prog w A L a cd mg mb s.heap 11).A (execs (stA 18 0 :: stA 18 1 :: stA 18 2 :: (dBody 18).drop 3) (lcx prog w A L a cd mg mb s.heap 11).env) _ _ _
  refine wpAny_execs_cons (wpAny_mono (S0 s₁ T₁ _ _ _ hrow _ R1) (fun f s2 k2 => ?_) fun _ _ e => e)
  rw [show f = Flow.next from k2.1]
  refine wpAny_execs_cons (wpAny_mono (S1 s₁ T₁ _ _ _ (asgF_eq hend) _ k2.2) (fun f s3 k3 => ?_) fun _ _ e => e)
  rw [show f = Flow.next from k3.1]
  have R3 : SR (lcx prog w A L a cd mg mb s.heap 11) s₁ [(21, .val S), (7, .val row), (22, .val (.str e))] s3 := k3.2
  rw [est]
  obtain ⟨m3, ad3, F3, hmu3⟩ := R3.fr
  refine wpAny_execs_cons (wpAny_Assign_Name (wpAny_mono (E2 _ _ hbl s3 m3 ad3 _ F3 (T₁.step R3.base)) (fun bv s4 h4 => ?_) fun _ _ e => e) sw)
  have R4 := back1 _ _ (R3.step h4.1)
  have hoc4 : s4.heap.get? (L + 1) = some oc := h4.1.grow _ _ (R3.base.grow _ _ hoc1)
  have hs0 : s.heap.get? (L + 1) = none := by
    cases q : s.heap.get? (L + 1) with
    | none => rfl
    | some o' =>
      have h5 : @LT.lt Nat _ (L + 1) s.heap.objs.size := Heap.lt_size q
      rw [hL] at h5
      omega
  refine wpAny_storeName_cell rfl (by kernel_rfl) (c := L + 1) (by kernel_rfl) (v₀ := none) ⟨oc, hoc4, hdc⟩ fun h' hcell hsb => ?_
  have R5 := (R4.cellSet (h' := h') (tk := s4.toks) hoc4 hdc hs0 fun b o hb ho => (hsb.2 b hb).trans ho).forget (σ' := [(7, .val row), (22, .val (.str e))]) (fun x v hx => by
    rw [getL_cons, getL_cons] at hx
    rw [getL_cons, getL_cons, getL_cons]
    split at hx
    · rename_i e; subst e; exact hx
    · split at hx
      · rename_i e; subst e; exact hx
      · cases hx) rfl
  obtain ⟨m5, ad5, F5, hmu5⟩ := R5.fr
  obtain ⟨s6, T6, R6, kp6, back6⟩ := R5.reframe T F5 hmu5
  have T6' : Tp mg mb s6.heap s6.heap := ⟨T6.g, T6.b, T6.nolimit, fun _ _ h => h⟩
  have k6 : ∀ b o, s.heap.get? b = some o → s6.heap.get? b = some o := T6.keep
  have D6 : Defs mg s6.heap := ⟨D.d2.keep k6, D.d3.keep k6, D.d8.keep k6, D.d13.keep k6, D.d14.keep k6, D.d16.keep k6, D.d17.keep k6, D.d18.keep k6⟩
  obtain ⟨N6, _⟩ := fns_of (prog := prog) (w := w) T6' H (Q.keep k6) D6
  have B : CellB (lcx prog w A L a cd mg mb s6.heap 11) (L + 1) bl := by
    refine ⟨by kernel_rfl, by kernel_rfl, bv, ?_, ?_⟩
    · obtain ⟨o5, ho5, hd5⟩ := hcell
      exact ⟨o5, kp6 _ _ ho5 fun q => neL (muB rfl q), hd5⟩
    · have r4 := h4.2.avoidE (it := L + 1) fun o' ho' xs n e => by
        have := ho'.1
        rw [hoc4] at this; cases this
        rw [hdc] at e; cases e
      refine r4.mono fun b o hb => kp6 b o ((hsb.2 b hb.2).trans hb.1.1) fun q => hb.1.2 (.inl (muB rfl q))
  refine wpAny_mono ((cutP bl).2 prog w A L a cd mg mb s6.heap 11 hA (by omega) H N6 B s6 T6' _ σ' _ hcut _ ⟨R6.base, R6.fr⟩) (fun f s' hf => ?_) fun _ _ e => e
  obtain ⟨⟨val, rfl, rv⟩, R'⟩ := hf
  cases rv
  exact ⟨rfl, (back6 _ _ ⟨R'.base, R'.fr⟩).base⟩
end
end Mine
end

noncomputable section
namespace Mine
open PySem PyProof.Rows PySem.Builtin.Str
theorem guardN_ok {n : Nat} {v : MV} (h : n ≤ 100000) : guardN n v = some v := by
  unfold guardN
  rw [Nat.ble_eq_true_of_le h]
theorem smallL_ok {l : List MV} {k : List MV → MV} (h : l.length ≤ 100000) : smallL l k = some (k l) := by
  unfold smallL
  rw [Nat.ble_eq_true_of_le h]
theorem slcL_len {α : Type} (l : List α) (a b : Option Int) : (slcL l a b).length ≤ l.length := by
  unfold slcL; simp only [List.length_drop, List.length_take]; omega
def insL (p : Int) (m : Int) (l : List MV) : List MV := slcL l .none (some p) ++ [.int m] ++ slcL l (some p) .none
theorem clipN_le (v : Option Int) (n : Nat) : clipN v n n ≤ n := by
  have := clipN_eq v n n
  cases v <;> simp only [] at this <;> omega
theorem insL_len (p m : Int) (l : List MV) : (insL p m l).length ≤ 2 * l.length + 1 := by
  unfold insL
  have h1 := slcL_len l .none (some p)
  have h2 := slcL_len l (some p) .none
  simp only [List.length_append, List.length_singleton]
  omega
theorem sliceV_lo {l : List MV} {p : Int} (h : l.length ≤ 100000) : sliceV (.list l) (.int p) .none = some (.list (slcL l (some p) .none)) := guardN_ok h
theorem sliceV_hi {l : List MV} {p : Int} (h : l.length ≤ 100000) : sliceV (.list l) .none (.int p) = some (.list (slcL l .none (some p))) := guardN_ok h
theorem ins_val {l : List MV} {p m : Int} (h : l.length ≤ 1000) : o2 addV (o2 addV (sliceV (.list l) .none (.int p)) (some (.list [.int m]))) (sliceV (.list l) (.int p) .none) = some (.list (insL p m l)) := by
  rw [sliceV_lo (by omega), sliceV_hi (by omega)]
  have h1 := slcL_len l .none (some p)
  have h2 := slcL_len l (some p) .none
  show o2 addV (guardN ((slcL l .none (some p)).length + 1) (.list (slcL l .none (some p) ++ [.int m]))) _ = _
  rw [guardN_ok (by omega)]
  show guardN ((slcL l .none (some p) ++ [MV.int m]).length + (slcL l (some p) .none).length) _ = _
  rw [guardN_ok (by rw [List.length_append, List.length_singleton]; omega)]
  rfl
def rowG : Loc → Option MV := fun σ => o2 modV (o2 fdivV (o2 idxV (gv (getL σ 38)) (gv (getL σ 40))) (some (.int 3))) (o2 addV (some (.int 4)) (gv (getL σ 40)))
def rowH : Loc → Option MV := fun σ => o2 addV (o2 addV (o3 sliceV (gv (getL σ 39)) (some .none) (gv (getL σ 41))) (oL (fun l => smallL l .list) (oc (o2 modV (o2 idxV (gv (getL σ 38)) (gv (getL σ 40))) (some (.int 3))) (some [])))) (o3 sliceV (gv (getL σ 39)) (gv (getL σ 41)) (some .none))
def rowB : SF := seqF (asgF 41 rowG) (seqF (asgF 39 rowH) fun σ => some (σ, .next))
theorem rowP_shape : rowP.1.1 = compF 39 (fun σ => gv (getL σ 38)) m3V ∧ rowP.1.2 = forR 40 (fun _ => oc (some (.int 3)) (some [])) rowB := ⟨rfl, rfl⟩
theorem modV_ok {a b : Int} (h : 0 < b) : modV (.int a) (.int b) = some (.int (a % b)) := by
  show (match decide (0 < b) with | true => some (MV.int (a % b)) | false => .none) = _
  rw [decide_eq_true h]
theorem row_turn {x i : Int} {ns l : List MV} {σ : Loc} (h38 : getL σ 38 = some (.val (.list ns))) (h39 : getL σ 39 = some (.val (.list l))) (h40 : getL σ 40 = some (.val (.int i))) (hi : 0 < 4 + i) (hx : idxV (.list ns) (.int i) = some (.int x)) (hl : l.length ≤ 1000) :
    rowB σ = some (setL (setL σ 41 (.val (.int (x / 3 % (4 + i))))) 39 (.val (.list (insL (x / 3 % (4 + i)) (x % 3) l))), .next) := by
  have e1 : rowG σ = some (.int (x / 3 % (4 + i))) := by
    unfold rowG
    rw [h38, h40]
    show o2 modV (o2 fdivV (idxV (.list ns) (.int i)) (some (.int 3))) (some (.int (4 + i))) = _
    rw [hx]
    exact modV_ok hi
  unfold rowB seqF
  rw [asgF_eq e1]
  dsimp only
  generalize hσ : setL σ 41 (.val (.int (x / 3 % (4 + i)))) = σ₁
  have g38 : getL σ₁ 38 = some (.val (.list ns)) := by rw [← hσ, getL_setL, if_neg (by decide)]; exact h38
  have g39 : getL σ₁ 39 = some (.val (.list l)) := by rw [← hσ, getL_setL, if_neg (by decide)]; exact h39
  have g40 : getL σ₁ 40 = some (.val (.int i)) := by rw [← hσ, getL_setL, if_neg (by decide)]; exact h40
  have g41 : getL σ₁ 41 = some (.val (.int (x / 3 % (4 + i)))) := by rw [← hσ, getL_setL, if_pos rfl]
  have e2 : rowH σ₁ = some (.list (insL (x / 3 % (4 + i)) (x % 3) l)) := by
    unfold rowH
    rw [g38, g39, g40, g41]
    show o2 addV (o2 addV (sliceV (.list l) .none (.int _)) (oL (fun l => smallL l .list) (oc (o2 modV (idxV (.list ns) (.int i)) (some (.int 3))) (some [])))) (sliceV (.list l) (.int _) .none) = _
    rw [hx]
    exact ins_val hl
  rw [asgF_eq e2]
theorem row_val (x y z : Int) : rowφ [.int x, .int y, .int z] = some (.list (insL (z / 3 % (4 + 2)) (z % 3) (insL (y / 3 % (4 + 1)) (y % 3) (insL (x / 3 % (4 + 0)) (x % 3) [.int (x % 3), .int (y % 3), .int (z % 3)])))) := by
  unfold rowφ
  rw [rowP_shape.1, rowP_shape.2]
  generalize hns : ([.int x, .int y, .int z] : List MV) = ns
  have e0 : compF 39 (fun σ => gv (getL σ 38)) m3V [(38, .val (.list ns))] = some ([(38, .val (.list ns)), (39, .val (.list [.int (x % 3), .int (y % 3), .int (z % 3)]))], .next) := by
    unfold compF
    subst hns
    show frc2 _ _ = _
    rw [frc2_eq, frcS_eq]
    rfl
  have hf : forR 40 (fun _ => oc (some (.int 3)) (some [])) rowB [(38, .val (.list ns)), (39, .val (.list [.int (x % 3), .int (y % 3), .int (z % 3)]))] = forF 40 rowB [.int 0, .int 1, .int 2] [(38, .val (.list ns)), (39, .val (.list [.int (x % 3), .int (y % 3), .int (z % 3)]))] := rfl
  unfold seqF
  rw [e0]
  dsimp only
  rw [hf]
  unfold forF
  generalize hk0 : ([.int (x % 3), .int (y % 3), .int (z % 3)] : List MV) = k0
  have l0 : k0.length = 3 := by rw [← hk0]; rfl
  rw [row_turn (x := x) (i := 0) (ns := ns) (l := k0) rfl rfl rfl (by decide) (by rw [← hns]; rfl) (by omega)]
  dsimp only
  have l1 := insL_len (x / 3 % (4 + 0)) (x % 3) k0
  generalize insL (x / 3 % (4 + 0)) (x % 3) k0 = k1 at *
  unfold forF
  rw [row_turn (x := y) (i := 1) (ns := ns) (l := k1) rfl rfl rfl (by decide) (by rw [← hns]; rfl) (by omega)]
  dsimp only
  have l2 := insL_len (y / 3 % (4 + 1)) (y % 3) k1
  generalize insL (y / 3 % (4 + 1)) (y % 3) k1 = k2 at *
  unfold forF
  rw [row_turn (x := z) (i := 2) (ns := ns) (l := k2) rfl rfl rfl (by decide) (by rw [← hns]; rfl) (by omega)]
  rfl
end Mine
end

noncomputable section
namespace Mine
open PySem PyProof.Rows PySem.Builtin.Str
def mvs (l : List Nat) : List MV := l.map fun k => MV.int (Int.ofNat k)
def insN (p m : Nat) (l : List Nat) : List Nat := l.take p ++ m :: l.drop p
def rowN (a b c : Nat) : List Nat := insN (c / 3 % 6) (c % 3) (insN (b / 3 % 5) (b % 3) (insN (a / 3 % 4) (a % 3) [a % 3, b % 3, c % 3]))
theorem clipN_nat (p d n : Nat) : clipN (some (Int.ofNat p)) d n = min p n := by
  show (match Nat.ble p n with | true => p | false => n) = _
  cases h : Nat.ble p n with
  | true => have := Nat.le_of_ble_eq_true h; dsimp only; omega
  | false =>
    have : ¬ p ≤ n := fun q => by rw [Nat.ble_eq_true_of_le q] at h; cases h
    dsimp only; omega
theorem slc_hi {α : Type} (l : List α) (p : Nat) : slcL l .none (some (Int.ofNat p)) = l.take p := by
  unfold slcL
  rw [clipN_nat]
  show (l.take (min p l.length)).drop 0 = _
  rw [List.drop_zero]
  by_cases h : p ≤ l.length
  · rw [Nat.min_eq_left h]
  · rw [Nat.min_eq_right (by omega), List.take_length, List.take_of_length_le (by omega)]
theorem slc_lo {α : Type} (l : List α) (p : Nat) : slcL l (some (Int.ofNat p)) .none = l.drop p := by
  unfold slcL
  rw [clipN_nat]
  show (l.take l.length).drop (min p l.length) = _
  rw [List.take_length]
  by_cases h : p ≤ l.length
  · rw [Nat.min_eq_left h]
  · rw [Nat.min_eq_right (by omega), List.drop_length, List.drop_of_length_le (by omega)]
theorem slc_two {α : Type} (l : List α) (p q : Nat) (h : p ≤ q) : slcL l (some (Int.ofNat p)) (some (Int.ofNat q)) = (l.take q).drop p := by
  unfold slcL
  rw [clipN_nat, clipN_nat]
  by_cases hq : q ≤ l.length
  · rw [show min q l.length = q by omega, show min p l.length = p by omega]
  · rw [show min q l.length = l.length by omega, List.take_length, List.take_of_length_le (l := l) (i := q) (by omega)]
    by_cases hp : p ≤ l.length
    · rw [show min p l.length = p by omega]
    · rw [show min p l.length = l.length by omega, List.drop_length, List.drop_of_length_le (by omega)]
theorem insL_nat (p m : Nat) (l : List Nat) : insL (Int.ofNat p) (Int.ofNat m) (mvs l) = mvs (insN p m l) := by
  unfold insL insN mvs
  rw [slc_hi, slc_lo]
  simp [List.map_append, List.map_take, List.map_drop]
theorem row_nat (x y z : Int) : rowφ [.int x, .int y, .int z] = some (.list (mvs (rowN (x % 12).toNat (y % 15).toNat (z % 18).toNat))) := by
  rw [row_val]
  have a1 : x % 3 = Int.ofNat ((x % 12).toNat % 3) := by show _ = (((x % 12).toNat % 3 : Nat) : Int); omega
  have b1 : y % 3 = Int.ofNat ((y % 15).toNat % 3) := by show _ = (((y % 15).toNat % 3 : Nat) : Int); omega
  have c1 : z % 3 = Int.ofNat ((z % 18).toNat % 3) := by show _ = (((z % 18).toNat % 3 : Nat) : Int); omega
  have a2 : x / 3 % (4 + 0) = Int.ofNat ((x % 12).toNat / 3 % 4) := by show _ = (((x % 12).toNat / 3 % 4 : Nat) : Int); omega
  have b2 : y / 3 % (4 + 1) = Int.ofNat ((y % 15).toNat / 3 % 5) := by show _ = (((y % 15).toNat / 3 % 5 : Nat) : Int); omega
  have c2 : z / 3 % (4 + 2) = Int.ofNat ((z % 18).toNat / 3 % 6) := by show _ = (((z % 18).toNat / 3 % 6 : Nat) : Int); omega
  rw [a1, b1, c1, a2, b2, c2]
  have e0 : ([.int (Int.ofNat ((x % 12).toNat % 3)), .int (Int.ofNat ((y % 15).toNat % 3)), .int (Int.ofNat ((z % 18).toNat % 3))] : List MV) = mvs [(x % 12).toNat % 3, (y % 15).toNat % 3, (z % 18).toNat % 3] := rfl
  rw [e0, insL_nat, insL_nat, insL_nat]
  rfl
/-- the beads by the line end -/
def blOf (e : Nat) : List MV := [.str (endN e ++ [46]), .str [92, 34], .str [65, 46]]
def isTrueR (o : Option (Loc × Fl)) : Bool := match o with
  | some (_, .ret (.bool true)) => true
  | _ => false
theorem isTrueR_some {o : Option (Loc × Fl)} (h : isTrueR o = true) : ∃ σ', o = some (σ', .ret (.bool true)) := by
  unfold isTrueR at h
  split at h
  · exact ⟨_, rfl⟩
  · cases h
def lawC (e : Nat) (r : List Nat) : Bool := isTrueR ((cutP (blOf e)).1 [(7, .val (.list (mvs r))), (22, .val (.str (endN e)))])
def zipF (S : MV) : Option MV := oL zipV (oc (some (.list [.int 3, .int 7, .int 14])) (oc (o2 addV (o3 sliceV (some S) (some .none) (some (.int 3))) (some (.list [.int 0, .int 0, .int 0]))) (some [])))
def zipG : Loc → Option MV := fun σ => oL zipV (oc (some (.list [.int 3, .int 7, .int 14])) (oc (o2 addV (o3 sliceV (gv (getL σ 21)) (some .none) (some (.int 3))) (some (.list [.int 0, .int 0, .int 0]))) (some [])))
theorem head_row : headP.1.1.1 = rowF 7 zipG := rfl
theorem head_end (S row : MV) : headP.1.1.2 [(21, .val S), (7, .val row)] = o2 idxV (some (.list [.str [10], .str [13], .str [13, 10]])) (o2 modV (oL sumV (oc (o3 sliceV (some S) (some (.int 3)) (some (.int 4))) (some []))) (some (.int 3))) := rfl
theorem rowF_val {S : MV} {l : List MV} {v : MV} (h1 : zipF S = some (.list l)) (h2 : rowφ l = some v) : headP.1.1.1 [(21, .val S)] = some ([(21, .val S), (7, .val v)], .next) := by
  have h1 : zipG [(21, .val S)] = some (.list l) := h1
  rw [head_row]
  unfold rowF
  rw [h1]
  dsimp only [noOwn]
  rw [h2]
  rfl
theorem ints_map (l : List Int) : intsOf (l.map MV.int) = some l := by
  induction l with
  | nil => rfl
  | cons a r ih => show (match intsOf (r.map MV.int) with | some is => some (a :: is) | .none => .none) = _; rw [ih]
theorem zip_val {ns : List Int} (h : ns.length ≤ 63) : ∃ x y z, zipF (.list (ns.map MV.int)) = some (.list [.int x, .int y, .int z]) := by
  have e1 : sliceV (.list (ns.map MV.int)) .none (.int 3) = some (.list ((ns.take 3).map MV.int)) := by
    show guardN (ns.map MV.int).length (.list (slcL (ns.map MV.int) .none (some (Int.ofNat 3)))) = _
    rw [guardN_ok (by rw [List.length_map]; omega), slc_hi, List.map_take]
  have e2 : zipF (.list (ns.map MV.int)) = some (.list (zipI [3, 7, 14] (ns.take 3 ++ [0, 0, 0]))) := by
    show oL zipV (oc (some (.list [.int 3, .int 7, .int 14])) (oc (o2 addV (sliceV (.list (ns.map MV.int)) .none (.int 3)) (some (.list [.int 0, .int 0, .int 0]))) (some []))) = _
    rw [e1]
    show oL zipV (oc (some (.list [.int 3, .int 7, .int 14])) (oc (guardN (((ns.take 3).map MV.int).length + 3) (.list ((ns.take 3).map MV.int ++ [.int 0, .int 0, .int 0]))) (some []))) = _
    rw [guardN_ok (by rw [List.length_map, List.length_take]; omega)]
    have e3 : (ns.take 3).map MV.int ++ [.int 0, .int 0, .int 0] = (ns.take 3 ++ [0, 0, 0]).map MV.int := by simp
    rw [e3]
    show (match intsOf [.int 3, .int 7, .int 14], intsOf ((ns.take 3 ++ [0, 0, 0]).map MV.int), Nat.ble 3 1000 with | some x, some y, true => some (MV.list (zipI x y)) | _, _, _ => .none) = _
    rw [ints_map]
    rfl
  rw [e2]
  match ns with
  | [] => exact ⟨_, _, _, rfl⟩
  | [a] => exact ⟨_, _, _, rfl⟩
  | [a, b] => exact ⟨_, _, _, rfl⟩
  | a :: b :: d :: r => exact ⟨_, _, _, rfl⟩
theorem sum_val {ns : List Int} (h : ns.length ≤ 63) : ∃ d, oL sumV (oc (o3 sliceV (some (.list (ns.map MV.int))) (some (.int 3)) (some (.int 4))) (some [])) = some (.int d) := by
  have e1 : sliceV (.list (ns.map MV.int)) (.int 3) (.int 4) = some (.list (((ns.take 4).drop 3).map MV.int)) := by
    show guardN (ns.map MV.int).length (.list (slcL (ns.map MV.int) (some (Int.ofNat 3)) (some (Int.ofNat 4)))) = _
    rw [guardN_ok (by rw [List.length_map]; omega), slc_two _ _ _ (by omega), List.map_drop, List.map_take]
  show ∃ d, oL sumV (oc (sliceV (.list (ns.map MV.int)) (.int 3) (.int 4)) (some [])) = some (.int d)
  rw [e1]
  match ns with
  | [] => exact ⟨_, rfl⟩
  | [a] => exact ⟨_, rfl⟩
  | [a, b] => exact ⟨_, rfl⟩
  | [a, b, c] => exact ⟨_, rfl⟩
  | a :: b :: c :: d :: r => exact ⟨_, rfl⟩
theorem plain (chk : ∀ a b c e, a < 12 → b < 15 → c < 18 → e < 3 → lawC e (rowN a b c) = true) {ns : List Int} (h : ns.length ≤ 63) : ∃ row e bl σ', headP.1.1.1 [(21, .val (.list (ns.map MV.int)))] = some ([(21, .val (.list (ns.map MV.int))), (7, .val row)], .next) ∧
    headP.1.1.2 [(21, .val (.list (ns.map MV.int))), (7, .val row)] = some (.str e) ∧ headP.1.2 [(21, .val (.list (ns.map MV.int))), (7, .val row), (22, .val (.str e))] = some (.list bl) ∧ (cutP bl).1 [(7, .val row), (22, .val (.str e))] = some (σ', .ret (.bool true)) := by
  obtain ⟨x, y, z, hz⟩ := zip_val h
  obtain ⟨d, hd⟩ := sum_val h
  generalize hS : MV.list (ns.map MV.int) = S at *
  have hrow : headP.1.1.1 [(21, .val S)] = some ([(21, .val S), (7, .val (.list (mvs (rowN (x % 12).toNat (y % 15).toNat (z % 18).toNat))))], .next) := by
    exact rowF_val hz (row_nat x y z)
  have c1 := chk (x % 12).toNat (y % 15).toNat (z % 18).toNat
  generalize hr : rowN (x % 12).toNat (y % 15).toNat (z % 18).toNat = r at *
  have hend : headP.1.1.2 [(21, .val S), (7, .val (.list (mvs r)))] = o2 idxV (some (.list [.str [10], .str [13], .str [13, 10]])) (some (.int (d % 3))) := by
    rw [head_end, hd]
    show o2 idxV _ (modV (.int d) (.int 3)) = _
    rw [modV_ok (by decide)]
  have cases3 : d % 3 = Int.ofNat 0 ∨ d % 3 = Int.ofNat 1 ∨ d % 3 = Int.ofNat 2 := by
    show d % 3 = ((0 : Nat) : Int) ∨ d % 3 = ((1 : Nat) : Int) ∨ d % 3 = ((2 : Nat) : Int)
    omega
  rcases cases3 with q | q | q
  · obtain ⟨σ', hσ⟩ := isTrueR_some (c1 0 (by omega) (by omega) (by omega) (by omega))
    exact ⟨_, endN 0, blOf 0, σ', hrow, by rw [hend, q]; rfl, rfl, hσ⟩
  · obtain ⟨σ', hσ⟩ := isTrueR_some (c1 1 (by omega) (by omega) (by omega) (by omega))
    exact ⟨_, endN 1, blOf 1, σ', hrow, by rw [hend, q]; rfl, rfl, hσ⟩
  · obtain ⟨σ', hσ⟩ := isTrueR_some (c1 2 (by omega) (by omega) (by omega) (by omega))
    exact ⟨_, endN 2, blOf 2, σ', hrow, by rw [hend, q]; rfl, rfl, hσ⟩
end Mine
end

noncomputable section
namespace Mine
open PySem PyProof.Rows PySem.Builtin.Str PySem.W PySem.Builtin.Re
def gInt (K : Frag) (x : Str) (i : Int) : Bool := match nsIn K mainGlobals x with
  | some (some (.int j _)) => decide (j = i)
  | _ => false
def gStr (K : Frag) (x : Str) (l : List Nat) : Bool := match nsIn K mainGlobals x with
  | some (some (.str ⟨⟨m⟩⟩ _)) => eqL m l
  | _ => false
def gNone (K : Frag) (x : Str) : Bool := match nsIn K mainGlobals x with
  | some .none => true
  | _ => false
def tupIs (K : Frag) (T : Addr) (code : List Nat) : Bool := match K.lookup T with
  | some ⟨.type u, _, .seq items _, _⟩ => decide (u = "tuple") && eqL ((items.map reRawOf).map (·.toNat)).toList code
  | _ => false
def patIs (K : Frag) (P : Addr) (code : List Nat) : Bool := match K.lookup P with
  | some ⟨.type t, .none, .fields vs, _⟩ => decide (t = "re.Pattern") && Nat.beq (reRawNat (vs.getD 2 .none)) 0 && Nat.beq (reRawNat (vs.getD 6 .none)) 0 && (match vs.getD 5 .none with
    | .ref T => tupIs K T code
    | _ => false)
  | _ => false
def gPat (K : Frag) (x : Str) (code : List Nat) : Bool := match nsIn K mainGlobals x with
  | some (some (.ref P)) => patIs K P code
  | _ => false
section
variable {K : Frag} {h : Heap} {mg : Str → Option Value}
theorem gInt_ok {x : Str} {i : Int} (X : K.In h) (G : h.Ns mainGlobals mg) (e : gInt K x i = true) : ∃ t, mg x = some (.int i t) := by
  unfold gInt at e
  split at e
  · rename_i j t q
    have := of_decide_eq_true e
    subst this
    exact ⟨t, mg_of X G q⟩
  · cases e
theorem gStr_ok {x : Str} {l : List Nat} (X : K.In h) (G : h.Ns mainGlobals mg) (e : gStr K x l = true) : ∃ t, mg x = some (.str ⟨⟨l⟩⟩ t) := by
  unfold gStr at e
  split at e
  · rename_i m t q
    rw [← eqL_eq e]
    exact ⟨t, mg_of X G q⟩
  · cases e
theorem gNone_ok {x : Str} (X : K.In h) (G : h.Ns mainGlobals mg) (e : gNone K x = true) : mg x = none := by
  unfold gNone at e
  split at e
  · rename_i q; exact mg_none_of X G q
  · cases e
theorem tupIs_ok {T : Addr} {code : List Nat} (X : K.In h) (e : tupIs K T code = true) : ∃ oT items n, h.get? T = some oT ∧ oT.cls = .type "tuple" ∧ oT.data = .seq items n ∧ (items.map reRawOf).map (·.toNat) = ⟨code⟩ := by
  unfold tupIs at e
  split at e
  · rename_i u d items n sl q
    rw [Bool.and_eq_true] at e
    have e1 := of_decide_eq_true e.1
    subst e1
    exact ⟨_, items, n, X _ _ q, rfl, rfl, by rw [← eqL_eq e.2]⟩
  · cases e
theorem gPat_ok {x : Str} {code : List Nat} (X : K.In h) (G : h.Ns mainGlobals mg) (e : gPat K x code = true) : ∃ P, mg x = some (.ref P) ∧ RPat h P ⟨code⟩ := by
  unfold gPat at e
  split at e
  · rename_i P q
    refine ⟨P, mg_of X G q, ?_⟩
    unfold patIs at e
    split at e
    · rename_i t vs sl q2
      rw [Bool.and_eq_true, Bool.and_eq_true, Bool.and_eq_true] at e
      obtain ⟨⟨⟨e1, e2⟩, e3⟩, e4⟩ := e
      have e1 := of_decide_eq_true e1
      subst e1
      split at e4
      · rename_i T q3
        obtain ⟨oT, items, n, g1, g2, g3, g4⟩ := tupIs_ok X e4
        exact ⟨_, vs, T, oT, items, n, X _ _ q2, ⟨rfl, rfl⟩, rfl, Nat.eq_of_beq_eq_true e2, Nat.eq_of_beq_eq_true e3, q3, g1, g2, g3, g4⟩
      · cases e4
    · cases e
  · cases e
end
def topOk (K : Frag) : Bool := gNone K "len" && gNone K "min" && gNone K "list" && gNone K "range" && gNone K "sum" && gNone K "zip" && gNone K "enumerate" && gInt K "_MOVE_COST" 2 && gInt K "_CASE_COST" 1 && gInt K "_MAX_STRING_SIZE" 40
def patOk (K : Frag) : Bool := gPat K "_twin_re_1" [14, 4, 0, 1, 1, 6, 1, 16, 46, 1] && gPat K "_twin_re_2" [14, 9, 4, 1, 2, 16, 10, 16, 13, 0, 7, 7, 16, 13, 16, 10, 15, 18, 5, 16, 10, 15, 13, 11, 16, 13, 5, 5, 0, 16, 10, 1, 15, 2, 0, 1] && gStr K "CRLF" [13, 10]
theorem tf_of {K : Frag} {h : Heap} {mg mb : Str → Option Value} (X : K.In h) (G : h.Ns mainGlobals mg) (hb : ∀ x : Str, x ≠ "__name__" → mb x = bootBuiltins x) (e : topOk K = true) : Tf mg mb := by
  unfold topOk at e
  simp only [Bool.and_eq_true] at e
  obtain ⟨⟨⟨⟨⟨⟨⟨⟨⟨e1, e2⟩, e3⟩, e4⟩, e5⟩, e6⟩, e7⟩, e8⟩, e9⟩, e10⟩ := e
  exact ⟨⟨gNone_ok X G e1, (hb _ (by decide +kernel)).trans (by kernel_rfl)⟩, ⟨gNone_ok X G e2, (hb _ (by decide +kernel)).trans (by kernel_rfl)⟩, ⟨gNone_ok X G e3, (hb _ (by decide +kernel)).trans (by kernel_rfl)⟩,
    ⟨gNone_ok X G e4, (hb _ (by decide +kernel)).trans (by kernel_rfl)⟩, ⟨gNone_ok X G e5, (hb _ (by decide +kernel)).trans (by kernel_rfl)⟩, ⟨gNone_ok X G e6, (hb _ (by decide +kernel)).trans (by kernel_rfl)⟩, ⟨gNone_ok X G e7, (hb _ (by decide +kernel)).trans (by kernel_rfl)⟩,
    gInt_ok X G e8, gInt_ok X G e9, gInt_ok X G e10⟩
theorem tq_of {K : Frag} {h : Heap} {mg : Str → Option Value} (X : K.In h) (G : h.Ns mainGlobals mg) (e : patOk K = true) : Tq mg h := by
  unfold patOk at e
  simp only [Bool.and_eq_true] at e
  obtain ⟨⟨e1, e2⟩, e3⟩ := e
  exact ⟨gPat_ok X G e1, gPat_ok X G e2, gStr_ok X G e3⟩
abbrev recAt (i : Nat) (pos : Pos) : DefRec := ⟨dName i, dArgs i, dBody i, dScope i, pos⟩
theorem goodEnd {c : ClaimW} {cl : Str → Option Addr} {mean : ExcName → Option Value} {args : List WData} {s₁ s' : Shared} (hr : ∀ cls, c.raises args cls = false) (hp : c.post args (.bool true) args = true) (st : Step s₁ s') (hg : s₁.gens = #[]) : GoodWG c cl mean args s₁ (.ok (.ret (.bool true))) s' :=
  ⟨.inl ⟨_, _, [], rfl, hr, ReadsW.bool true, hp, fun _ => ⟨List.nodup_nil, fun _ hm => (nomatch hm)⟩⟩, OldK.of_keep st.grow, st.os, st.gens.bare (by rw [hg]; exact AllBare.empty)⟩
theorem ints_reps {G : Addr → Obj → Prop} {vs : List Value} {ns : List Int} (h : IntsAre vs ns) : VReps G vs (ns.map MV.int) := by
  induction h with
  | nil => exact .nil
  | cons i t _ ih => exact .cons (.int i t) ih
theorem finish (chk : ∀ a b c e, a < 12 → b < 15 → c < 18 → e < 3 → lawC e (rowN a b c) = true)
    {c : ClaimW} {prog : Program} {w : World} {p : Program} {loose : List Str} {mean mean' : ExcName → Option Value} {mg mb : Str → Option Value} {cl : Str → Option Addr} {args : List WData} {s₁ : Shared} {K : Frag} {fa a : Addr} {ns : List Int} {vs : List Value}
    (T : Top p loose mean mg mb s₁.heap) (KX : K.In s₁.heap) (hg : s₁.gens = #[]) (hmg : mg (dName 18) = some (.ref fa)) (hL : s₁.heap.get? a = some { cls := .type "list", data := .seq vs.toArray }) (hI : IntsAre vs ns) (hlen : ns.length ≤ 63)
    (r2 : recAt 2 ⟨3, 0, 15, 25⟩ ∈ recsOf p) (r3 : recAt 3 ⟨16, 0, 33, 26⟩ ∈ recsOf p) (r8 : recAt 8 ⟨38, 0, 39, 59⟩ ∈ recsOf p) (r13 : recAt 13 ⟨44, 0, 49, 21⟩ ∈ recsOf p) (r14 : recAt 14 ⟨50, 0, 87, 17⟩ ∈ recsOf p)
    (r16 : recAt 16 ⟨89, 0, 94, 16⟩ ∈ recsOf p) (r17 : recAt 17 ⟨95, 0, 96, 51⟩ ∈ recsOf p) (r18 : recAt 18 ⟨97, 0, 128, 35⟩ ∈ recsOf p)
    (tok : topOk K = true) (pok : patOk K = true) (hr : ∀ cls, c.raises args cls = false) (hp : c.post args (.bool true) args = true) :
    wpAny (model prog w) callerA (call (.ref fa) [.ref a]) (fun v s' => GoodWG c cl mean' args s₁ (.ok (.ret v)) s') (fun e s' => GoodWG c cl mean' args s₁ (.error e) s') s₁ := by
  have H : Tf mg mb := tf_of KX T.g T.builtins tok
  have Q : Tq mg s₁.heap := tq_of KX T.g pok
  have dIn : ∀ {i : Nat} {pos : Pos}, recAt i pos ∈ recsOf p → DefIn mg s₁.heap i := fun hm => by
    obtain ⟨a, o, pm, code, doc, h1, h2, h3, h4⟩ := T.fn _ hm
    exact ⟨a, o, pm, code, doc, h1, h2, h3, h4⟩
  have Df : Defs mg s₁.heap := ⟨dIn r2, dIn r3, dIn r8, dIn r13, dIn r14, dIn r16, dIn r17, dIn r18⟩
  have Tt : Tp mg mb s₁.heap s₁.heap := ⟨T.g, T.b, T.nolimit, fun _ _ h => h⟩
  have hA : AOk callerA 12 := ⟨rfl, by decide, by decide⟩
  have rs : VRep (fun b o => s₁.heap.get? b = some o) (.ref a) (.list (ns.map MV.int)) := .list (items := vs) (n := 0) hL (ints_reps hI)
  obtain ⟨row, e, bl, σ', q1, q2, q3, q4⟩ := plain chk hlen
  obtain ⟨fa', hf, hc⟩ := law_run (prog := prog) (w := w) hA Tt H Q Df rs q1 q2 q3 q4
  rw [hmg] at hf
  cases hf
  refine wpAny_call (codeAny_mono hc fun r s' hr' => ?_)
  obtain ⟨rfl, st⟩ := hr'
  exact goodEnd hr hp st hg
end Mine
end

noncomputable section
namespace Mine
open PySem PyProof.Rows PySem.Builtin.Str
def nx : SF := fun σ => some (σ, .next)
def sBody : SF := seqF (ifF (fun σ => o1 tb (o2 eqV (gv (getL σ 20)) (some (.str [34])))) (seqF (ifF (fun σ => o1 tb (o2 isNoneV (gv (getL σ 18)) (some .none)))
  (seqF (asgF 18 fun σ => gv (getL σ 19)) nx)
  (seqF (ifF (fun σ => o1 tb (o2 neV (gv (getL σ 17)) (gv (getL σ 18)))) (seqF (appF 8 fun σ => o3 sliceV (gv (getL σ 16)) (gv (getL σ 17)) (gv (getL σ 18))) nx) nx)
    (seqF (asgF 17 fun σ => o2 addV (gv (getL σ 19)) (some (.int 1))) (seqF (asgF 18 fun _ => some .none) nx)))) nx) nx) nx
def sRest : SF := seqF (ifF (fun σ => o1 tb (o2 ltV (gv (getL σ 17)) (oL lenV (oc (gv (getL σ 16)) (some []))))) (seqF (appF 8 fun σ => o3 sliceV (gv (getL σ 16)) (gv (getL σ 17)) (some .none)) nx) nx)
  (frzF 8 (seqF (retF fun σ => oL joinV (oc (some (.str [])) (oc (gv (getL σ 8)) (some [])))) nx))
theorem strip_shape : stripP.1 = seqF (ifF (fun σ => o1 tb (o2 notInV (some (.str [34])) (gv (getL σ 16)))) (seqF (retF fun σ => gv (getL σ 16)) nx) nx)
  (seqF (asgF 17 fun _ => some (.int 0)) (seqF (asgF 18 fun _ => some .none) (seqF (newF 8 fun _ => some []) (seqF (forE 19 20 (fun σ => gv (getL σ 16)) sBody) sRest)))) := rfl
structure S4 (l : List Nat) (start : Nat) (op : MV) (res : List MV) (σ : Loc) : Prop where
  g16 : getL σ 16 = some (.val (.str l))
  g17 : getL σ 17 = some (.val (.int (Int.ofNat start)))
  g18 : getL σ 18 = some (.val op)
  g8 : getL σ 8 = some (.own res)
theorem S4.pair {l : List Nat} {start : Nat} {op : MV} {res : List MV} {σ : Loc} (h : S4 l start op res σ) (u v : Sl) : S4 l start op res (setL (setL σ 19 u) 20 v) := by
  constructor
  · rw [getL_setL, if_neg (by decide), getL_setL, if_neg (by decide)]; exact h.g16
  · rw [getL_setL, if_neg (by decide), getL_setL, if_neg (by decide)]; exact h.g17
  · rw [getL_setL, if_neg (by decide), getL_setL, if_neg (by decide)]; exact h.g18
  · rw [getL_setL, if_neg (by decide), getL_setL, if_neg (by decide)]; exact h.g8
def isQ (p : MV × MV) : Prop := ∃ c, p.2 = .str c ∧ (c == [34]) = false
theorem seqF_next {F G : SF} {σ σ' : Loc} (h : F σ = some (σ', .next)) : seqF F G σ = G σ' := by
  unfold seqF; rw [h]
theorem ifF_true {t : Loc → Option Bool} {F G : SF} {σ : Loc} (h : t σ = some true) : ifF t F G σ = F σ := by unfold ifF; rw [h]
theorem ifF_false {t : Loc → Option Bool} {F G : SF} {σ : Loc} (h : t σ = some false) : ifF t F G σ = G σ := by unfold ifF; rw [h]
theorem body_skip {σ : Loc} {c : List Nat} (h20 : getL σ 20 = some (.val (.str c))) (hc : (c == [34]) = false) : sBody σ = some (σ, .next) := by
  have ht : (fun σ => o1 tb (o2 eqV (gv (getL σ 20)) (some (.str [34])))) σ = some false := by
    dsimp only
    rw [h20]
    show some (c == [34]) = some false
    rw [hc]
  unfold sBody
  rw [seqF_next (σ' := σ)]
  · rfl
  · rw [ifF_false ht]; rfl
theorem body_open {σ : Loc} {l : List Nat} {start k : Nat} {res : List MV} (h : S4 l start .none res σ) (h19 : getL σ 19 = some (.val (.int (Int.ofNat k)))) (h20 : getL σ 20 = some (.val (.str [34]))) :
    ∃ σ', sBody σ = some (σ', .next) ∧ S4 l start (.int (Int.ofNat k)) res σ' := by
  have ht : (fun σ => o1 tb (o2 eqV (gv (getL σ 20)) (some (.str [34])))) σ = some true := by
    dsimp only
    rw [h20]; rfl
  have ht2 : (fun σ => o1 tb (o2 isNoneV (gv (getL σ 18)) (some .none))) σ = some true := by
    dsimp only
    rw [h.g18]; rfl
  refine ⟨setL σ 18 (.val (.int (Int.ofNat k))), ?_, ?_⟩
  · unfold sBody
    rw [seqF_next (σ' := setL σ 18 (.val (.int (Int.ofNat k))))]
    · rfl
    · rw [ifF_true ht, seqF_next (σ' := setL σ 18 (.val (.int (Int.ofNat k))))]
      · rfl
      · rw [ifF_true ht2, seqF_next (asgF_eq (v := .int (Int.ofNat k)) (by rw [h19]; rfl))]
        rfl
  · constructor
    · rw [getL_setL, if_neg (by decide)]; exact h.g16
    · rw [getL_setL, if_neg (by decide)]; exact h.g17
    · rw [getL_setL, if_pos rfl]
    · rw [getL_setL, if_neg (by decide)]; exact h.g8
def resA (l : List Nat) (s o : Nat) (res : List MV) : List MV := if s = o then res else res ++ [.str ((l.take o).drop s)]
theorem appF_eq {x : Nat} {f : Loc → Option MV} {σ : Loc} {v : MV} {r : List MV} (h : f σ = some v) (hx : getL σ x = some (.own r)) (hl : r.length ≤ 100000) : appF x f σ = some (setL σ x (.own (r ++ [v])), .next) := by
  unfold appF
  rw [h]
  dsimp only
  rw [hx]
  dsimp only
  rw [Nat.ble_eq_true_of_le hl]
theorem body_close {σ : Loc} {l : List Nat} {start o k : Nat} {res : List MV} (h : S4 l start (.int (Int.ofNat o)) res σ) (h19 : getL σ 19 = some (.val (.int (Int.ofNat k)))) (h20 : getL σ 20 = some (.val (.str [34]))) (hso : start ≤ o) (hl : l.length ≤ 1000) (hr : res.length ≤ 1000) :
    ∃ σ', sBody σ = some (σ', .next) ∧ S4 l (k + 1) .none (resA l start o res) σ' := by
  have ht : (fun σ => o1 tb (o2 eqV (gv (getL σ 20)) (some (.str [34])))) σ = some true := by
    dsimp only
    rw [h20]; rfl
  have ht2 : (fun σ => o1 tb (o2 isNoneV (gv (getL σ 18)) (some .none))) σ = some false := by
    dsimp only
    rw [h.g18]; rfl
  have step1 : ∃ σ₁, ifF (fun σ => o1 tb (o2 neV (gv (getL σ 17)) (gv (getL σ 18)))) (seqF (appF 8 fun σ => o3 sliceV (gv (getL σ 16)) (gv (getL σ 17)) (gv (getL σ 18))) nx) nx σ = some (σ₁, .next) ∧ getL σ₁ 16 = some (.val (.str l)) ∧ getL σ₁ 8 = some (.own (resA l start o res)) ∧ getL σ₁ 19 = some (.val (.int (Int.ofNat k))) := by
    by_cases hq : start = o
    · subst hq
      refine ⟨σ, ?_, h.g16, by rw [h.g8]; unfold resA; rw [if_pos rfl], h19⟩
      rw [ifF_false]
      · rfl
      · rw [h.g17, h.g18]
        show some (Int.ofNat start != Int.ofNat start) = some false
        simp
    · refine ⟨setL σ 8 (.own (res ++ [.str ((l.take o).drop start)])), ?_, ?_, ?_, ?_⟩
      · rw [ifF_true, seqF_next (appF_eq (v := .str ((l.take o).drop start)) ?_ h.g8 (by omega))]
        · rfl
        · rw [h.g16, h.g17, h.g18]
          show guardN l.length (.str (slcL l (some (Int.ofNat start)) (some (Int.ofNat o)))) = _
          rw [guardN_ok (by omega), slc_two _ _ _ hso]
        · rw [h.g17, h.g18]
          show some (Int.ofNat start != Int.ofNat o) = some true
          congr 1
          simp
          intro e
          exact hq (Int.ofNat.inj e)
      · rw [getL_setL, if_neg (by decide)]; exact h.g16
      · rw [getL_setL, if_pos rfl]; unfold resA; rw [if_neg hq]
      · rw [getL_setL, if_neg (by decide)]; exact h19
  obtain ⟨σ₁, e1, q16, q8, q19⟩ := step1
  refine ⟨setL (setL σ₁ 17 (.val (.int (Int.ofNat (k + 1))))) 18 (.val .none), ?_, ?_⟩
  · unfold sBody
    rw [seqF_next (σ' := setL (setL σ₁ 17 (.val (.int (Int.ofNat (k + 1))))) 18 (.val .none))]
    · rfl
    · rw [ifF_true ht, seqF_next (σ' := setL (setL σ₁ 17 (.val (.int (Int.ofNat (k + 1))))) 18 (.val .none))]
      · rfl
      · rw [ifF_false ht2, seqF_next e1, seqF_next (asgF_eq (v := .int (Int.ofNat (k + 1))) (by rw [q19]; rfl)), seqF_next (asgF_eq (v := .none) rfl)]
        rfl
  · constructor
    · rw [getL_setL, if_neg (by decide), getL_setL, if_neg (by decide)]; exact q16
    · rw [getL_setL, if_neg (by decide), getL_setL, if_pos rfl]
    · rw [getL_setL, if_pos rfl]
    · rw [getL_setL, if_neg (by decide), getL_setL, if_neg (by decide)]; exact q8
theorem forG_cons {x y : Nat} {F : SF} {u v : MV} {r : List (MV × MV)} {σ σ' : Loc} (h : F (setL (setL σ x (.val u)) y (.val v)) = some (σ', .next)) : forG x y F ((u, v) :: r) σ = forG x y F r σ' := by
  rw [forG]
  rw [h]
theorem forG_skip {l : List Nat} {start : Nat} {op : MV} {res : List MV} {q : List (MV × MV)} : ∀ {pre : List (MV × MV)} {σ : Loc}, (∀ p ∈ pre, isQ p) → S4 l start op res σ → ∃ σ', forG 19 20 sBody (pre ++ q) σ = forG 19 20 sBody q σ' ∧ S4 l start op res σ' := by
  intro pre
  induction pre with
  | nil => intro σ _ h; exact ⟨σ, rfl, h⟩
  | cons p pre ih =>
    intro σ hp h
    obtain ⟨u, v⟩ := p
    obtain ⟨c, hv, hc⟩ := hp _ List.mem_cons_self
    have hv : v = .str c := hv
    subst hv
    have h' := h.pair (.val u) (.val (.str c))
    have eb := body_skip (σ := setL (setL σ 19 (.val u)) 20 (.val (.str c))) (c := c) (by rw [getL_setL, if_pos rfl]) hc
    obtain ⟨σ', e, hs⟩ := ih (fun p hp' => hp p (List.mem_cons_of_mem _ hp')) h'
    refine ⟨σ', ?_, hs⟩
    rw [← e]
    exact forG_cons eb
theorem forG_open {l : List Nat} {start k : Nat} {res : List MV} {q : List (MV × MV)} {σ : Loc} (h : S4 l start .none res σ) : ∃ σ', forG 19 20 sBody ((.int (k : Nat), .str [34]) :: q) σ = forG 19 20 sBody q σ' ∧ S4 l start (.int (Int.ofNat k)) res σ' := by
  obtain ⟨σ', e, hs⟩ := body_open (k := k) (h.pair (.val (.int (k : Nat))) (.val (.str [34]))) (by rw [getL_setL, if_neg (by decide), getL_setL, if_pos rfl]; rfl) (by rw [getL_setL, if_pos rfl])
  refine ⟨σ', ?_, hs⟩
  exact forG_cons e
theorem forG_close {l : List Nat} {start o k : Nat} {res : List MV} {q : List (MV × MV)} {σ : Loc} (h : S4 l start (.int (Int.ofNat o)) res σ) (hso : start ≤ o) (hl : l.length ≤ 1000) (hr : res.length ≤ 1000) : ∃ σ', forG 19 20 sBody ((.int (k : Nat), .str [34]) :: q) σ = forG 19 20 sBody q σ' ∧ S4 l (k + 1) .none (resA l start o res) σ' := by
  obtain ⟨σ', e, hs⟩ := body_close (k := k) (h.pair (.val (.int (k : Nat))) (.val (.str [34]))) (by rw [getL_setL, if_neg (by decide), getL_setL, if_pos rfl]; rfl) (by rw [getL_setL, if_pos rfl]) hso hl hr
  refine ⟨σ', ?_, hs⟩
  exact forG_cons e
end Mine
end

noncomputable section
namespace Mine
open PySem PyProof.Rows PySem.Builtin.Str
theorem escL_plain {k c : Nat} {r : List Nat} {q : List (MV × MV)} (hc : Nat.beq c 92 = false) (h : escL (k + 1) false r = some q) : escL k false (c :: r) = some ((.int k, .str [c]) :: q) := by
  rw [escL, hc]
  dsimp only
  rw [h]
theorem escL_pair {k c : Nat} {r : List Nat} {q : List (MV × MV)} (h : escL (k + 2) false r = some q) : escL k false (92 :: c :: r) = some ((.int (k + 1 : Nat), .str [92, c]) :: q) := by
  show escL (k + 1) true (c :: r) = _
  rw [escL, h]
theorem escL_txt (e : Nat) : ∀ (ks : List Nat) (k : Nat), ∃ pre, (∀ p ∈ pre, isQ p) ∧ ∀ rest q, escL (k + (txtN e ks).length) false rest = some q → escL k false (txtN e ks ++ rest) = some (pre ++ q)
  | [], k => ⟨[], (fun p hp => nomatch hp), fun rest q h => h⟩
  | a :: ks, k => by
    obtain ⟨pre, hp, h⟩ := escL_txt e ks (k + (beadN e a).length)
    have key : ∃ pb, (∀ p ∈ pb, isQ p) ∧ ∀ rest q, escL (k + (beadN e a).length) false rest = some q → escL k false (beadN e a ++ rest) = some (pb ++ q) := by
      match a with
      | 0 =>
        match e with
        | 0 => exact ⟨[(.int (k : Nat), .str [10]), (.int (k + 1 : Nat), .str [46])], (by intro p hp; simp at hp; rcases hp with rfl | rfl <;> exact ⟨_, rfl, rfl⟩), fun rest q h => escL_plain rfl (escL_plain rfl h)⟩
        | 1 => exact ⟨[(.int (k : Nat), .str [13]), (.int (k + 1 : Nat), .str [46])], (by intro p hp; simp at hp; rcases hp with rfl | rfl <;> exact ⟨_, rfl, rfl⟩), fun rest q h => escL_plain rfl (escL_plain rfl h)⟩
        | _ + 2 => exact ⟨[(.int (k : Nat), .str [13]), (.int (k + 1 : Nat), .str [10]), (.int (k + 1 + 1 : Nat), .str [46])], (by intro p hp; simp at hp; rcases hp with rfl | rfl | rfl <;> exact ⟨_, rfl, rfl⟩), fun rest q h => escL_plain rfl (escL_plain rfl (escL_plain rfl h))⟩
      | 1 => exact ⟨[(.int (k + 1 : Nat), .str [92, 34])], (by intro p hp; simp at hp; subst hp; exact ⟨_, rfl, rfl⟩), fun rest q h => escL_pair h⟩
      | _ + 2 => exact ⟨[(.int (k : Nat), .str [65]), (.int (k + 1 : Nat), .str [46])], (by intro p hp; simp at hp; rcases hp with rfl | rfl <;> exact ⟨_, rfl, rfl⟩), fun rest q h => escL_plain rfl (escL_plain rfl h)⟩
    obtain ⟨pb, hb, h'⟩ := key
    refine ⟨pb ++ pre, fun p hp' => (List.mem_append.mp hp').elim (hb p) (hp p), fun rest q hq => ?_⟩
    show escL k false ((beadN e a ++ txtN e ks) ++ rest) = _
    rw [List.append_assoc, List.append_assoc]
    refine h' _ _ (h rest q ?_)
    rw [Nat.add_assoc, ← List.length_append]
    exact hq
theorem escL_q {k : Nat} {r : List Nat} {q : List (MV × MV)} (h : escL (k + 1) false r = some q) : escL k false (34 :: r) = some ((.int k, .str [34]) :: q) := escL_plain rfl h
theorem txt_ascii (e : Nat) : ∀ ks : List Nat, ∀ c ∈ txtN e ks, c < 128
  | [], c, h => nomatch h
  | a :: ks, c, h => by
    have h : c ∈ beadN e a ++ txtN e ks := h
    rcases List.mem_append.mp h with h | h
    · match a with
      | 0 => match e with
        | 0 => simp [beadN, endN] at h; omega
        | 1 => simp [beadN, endN] at h; omega
        | _ + 2 => simp [beadN, endN] at h; omega
      | 1 => simp [beadN] at h; omega
      | _ + 2 => simp [beadN] at h; omega
    · exact txt_ascii e ks c h
def emp (t : List Nat) : List MV := if t = [] then [] else [.str t]
theorem joinN_nil_cons (a : List Nat) (ls : List (List Nat)) : joinN [] (a :: ls) = a ++ joinN [] ls := by
  have key : ∀ (ls : List (List Nat)) (acc : List Nat), ls.foldl (fun acc p => acc ++ [] ++ p) acc = acc ++ ls.foldl (fun acc p => acc ++ [] ++ p) [] := by
    intro ls
    induction ls with
    | nil => intro acc; simp
    | cons b ls ih => intro acc; rw [List.foldl_cons, List.foldl_cons, ih, ih ([] ++ [] ++ b)]; simp
  cases ls with
  | nil => simp [joinN]
  | cons b ls =>
    show ls.foldl (fun acc p => acc ++ [] ++ p) (a ++ [] ++ b) = a ++ ls.foldl (fun acc p => acc ++ [] ++ p) b
    rw [key ls (a ++ [] ++ b), key ls b]; simp
theorem join_emp (t u : List Nat) (ht : t.length ≤ 1000) (hu : u.length ≤ 1000) : joinV [.str [], .list (emp t ++ emp u)] = some (.str (t ++ u)) := by
  unfold emp
  by_cases h1 : t = []
  · subst h1
    by_cases h2 : u = []
    · subst h2; rfl
    · rw [if_pos rfl, if_neg h2]
      show guardN (0 + u.length + 0) (.str (joinN [] [u])) = _
      rw [guardN_ok (by omega)]
      simp [joinN]
  · by_cases h2 : u = []
    · subst h2
      rw [if_neg h1, if_pos rfl]
      show guardN (0 + t.length + 0) (.str (joinN [] [t])) = _
      rw [guardN_ok (by omega)]
      simp [joinN]
    · rw [if_neg h1, if_neg h2]
      show guardN (0 + t.length + 0 + u.length + 0) (.str (joinN [] [t, u])) = _
      rw [guardN_ok (by omega)]
      rw [joinN_nil_cons]
      simp [joinN]
/-- the end of the def, by what the loop has left -/
theorem strip_end {σ : Loc} {l : List Nat} {start : Nat} {op : MV} {res : List MV} {t u : List Nat} (h : S4 l start op res σ) (hl : l.length ≤ 1000) (hr : res.length ≤ 1000) (ht : t.length ≤ 1000) (hu : u.length ≤ 1000)
    (he : res ++ (if start < l.length then [.str (l.drop start)] else []) = emp t ++ emp u) : retV (sRest σ) = some (.str (t ++ u)) := by
  have step : ∃ σ₁, ifF (fun σ => o1 tb (o2 ltV (gv (getL σ 17)) (oL lenV (oc (gv (getL σ 16)) (some []))))) (seqF (appF 8 fun σ => o3 sliceV (gv (getL σ 16)) (gv (getL σ 17)) (some .none)) nx) nx σ = some (σ₁, .next) ∧ getL σ₁ 8 = some (.own (emp t ++ emp u)) := by
    have hlen : oL lenV (oc (gv (getL σ 16)) (some [])) = some (.int (Int.ofNat l.length)) := by
      rw [h.g16]
      show guardN l.length (.int l.length) = _
      rw [guardN_ok (by omega)]
      rfl
    by_cases hs : start < l.length
    · rw [if_pos hs] at he
      refine ⟨setL σ 8 (.own (res ++ [.str (l.drop start)])), ?_, by rw [getL_setL, if_pos rfl, he]⟩
      rw [ifF_true, seqF_next (appF_eq (v := .str (l.drop start)) ?_ h.g8 (by omega))]
      · rfl
      · rw [h.g16, h.g17]
        show guardN l.length (.str (slcL l (some (Int.ofNat start)) .none)) = _
        rw [guardN_ok (by omega), slc_lo]
      · rw [hlen, h.g17]
        show some (decide (Int.ofNat start < Int.ofNat l.length)) = some true
        rw [decide_eq_true (by show (start : Int) < (l.length : Int); omega)]
    · rw [if_neg hs, List.append_nil] at he
      refine ⟨σ, ?_, by rw [h.g8, he]⟩
      rw [ifF_false]
      · rfl
      · rw [hlen, h.g17]
        show some (decide (Int.ofNat start < Int.ofNat l.length)) = some false
        rw [decide_eq_false (by show ¬ ((start : Int) < (l.length : Int)); omega)]
  obtain ⟨σ₁, e1, q8⟩ := step
  unfold sRest
  rw [seqF_next e1]
  unfold frzF
  rw [q8]
  dsimp only
  have e2 : (fun σ => oL joinV (oc (some (.str [])) (oc (gv (getL σ 8)) (some [])))) (setL σ₁ 8 (.val (.list (emp t ++ emp u)))) = some (.str (t ++ u)) := by
    dsimp only
    rw [getL_setL, if_pos rfl]
    exact join_emp t u ht hu
  unfold seqF retF
  rw [e2]
  rfl
end Mine
end

noncomputable section
namespace Mine
open PySem PyProof.Rows PySem.Builtin.Str
theorem seg_of {α : Type} {l a b c : List α} {n m : Nat} (hl : l = a ++ (b ++ c)) (hn : n = a.length) (hm : m = a.length + b.length) : (l.take m).drop n = b := by
  subst hl hn hm
  rw [← List.append_assoc, List.take_append_of_le_length (by simp), List.take_of_length_le (by simp), List.drop_left]
theorem notIn_34 {l : List Nat} (h : 34 ∈ l) : o1 tb (o2 notInV (some (.str [34])) (some (.str l))) = some false := by
  show some (!l.elem 34) = some false
  rw [List.elem_eq_true_of_mem h]
  rfl
theorem resA_emp {l t : List Nat} {s o : Nat} {res : List MV} (ht : (l.take o).drop s = t) (hs : s = o ↔ t = []) : resA l s o res = res ++ emp t := by
  unfold resA emp
  by_cases h : s = o
  · rw [if_pos h, if_pos (hs.mp h), List.append_nil]
  · rw [if_neg h, if_neg (fun q => h (hs.mpr q)), ht]
/-- the def up to its loop -/
theorem strip_run {l : List Nat} {Ls : List (MV × MV)} {r : MV} (h34 : 34 ∈ l) (hasc : ∀ c ∈ l, c < 128) (he : escL 0 false l = some Ls) (hloop : ∀ σ, S4 l 0 .none [] σ → ∃ σ', forG 19 20 sBody Ls σ = some (σ', .next) ∧ retV (sRest σ') = some r) : stripφ [.str l] = some r := by
  show retV (stripP.1 [(16, .val (.str l))]) = _
  rw [strip_shape]
  rw [seqF_next (σ' := [(16, .val (.str l))]) (by rw [ifF_false (notIn_34 h34)]; rfl)]
  rw [seqF_next (asgF_eq (v := .int 0) rfl), seqF_next (asgF_eq (v := .none) rfl)]
  rw [seqF_next (σ' := setL (setL (setL [(16, .val (.str l))] 17 (.val (.int 0))) 18 (.val .none)) 8 (.own [])) rfl]
  obtain ⟨σ', e1, e2⟩ := hloop (setL (setL (setL [(16, .val (.str l))] 17 (.val (.int 0))) 18 (.val .none)) 8 (.own [])) ⟨rfl, rfl, rfl, rfl⟩
  rw [seqF_next (σ' := σ')]
  · exact e2
  · unfold forE
    dsimp only
    rw [show gv (getL (setL (setL (setL [(16, Sl.val (MV.str l))] 17 (.val (.int 0))) 18 (.val .none)) 8 (.own [])) 16) = some (.str l) from rfl]
    dsimp only
    rw [show l.all (fun c => decide (c < 128)) = true from List.all_eq_true.mpr fun c hc => decide_eq_true (hasc c hc), he]
    exact e1
theorem strip_left (e : Nat) (p0 p1 p2 p3 : List Nat) (h0 : (txtN e p0).length ≤ 200) (h1 : (txtN e p1).length ≤ 200) (h2 : (txtN e p2).length ≤ 200) (h3 : (txtN e p3).length ≤ 200) :
    stripφ [.str (txtN e p0 ++ 34 :: (txtN e p1 ++ 34 :: (txtN e p2 ++ 34 :: (txtN e p3 ++ [34]))))] = some (.str (txtN e p0 ++ txtN e p2)) := by
  obtain ⟨q0, n0, e0⟩ := escL_txt e p0 0
  obtain ⟨q1, n1, e1⟩ := escL_txt e p1 (0 + (txtN e p0).length + 1)
  obtain ⟨q2, n2, e2⟩ := escL_txt e p2 (0 + (txtN e p0).length + 1 + (txtN e p1).length + 1)
  obtain ⟨q3, n3, e3⟩ := escL_txt e p3 (0 + (txtN e p0).length + 1 + (txtN e p1).length + 1 + (txtN e p2).length + 1)
  have a0 := txt_ascii e p0
  have a1 := txt_ascii e p1
  have a2 := txt_ascii e p2
  have a3 := txt_ascii e p3
  generalize txtN e p0 = t0 at *
  generalize txtN e p1 = t1 at *
  generalize txtN e p2 = t2 at *
  generalize txtN e p3 = t3 at *
  generalize hl : t0 ++ 34 :: (t1 ++ 34 :: (t2 ++ 34 :: (t3 ++ [34]))) = l
  have hlen : l.length = t0.length + t1.length + t2.length + t3.length + 4 := by rw [← hl]; simp; omega
  refine strip_run (Ls := q0 ++ (.int (0 + t0.length : Nat), .str [34]) :: (q1 ++ (.int (0 + t0.length + 1 + t1.length : Nat), .str [34]) :: (q2 ++ (.int (0 + t0.length + 1 + t1.length + 1 + t2.length : Nat), .str [34]) :: (q3 ++ [(.int (0 + t0.length + 1 + t1.length + 1 + t2.length + 1 + t3.length : Nat), .str [34])])))) (by rw [← hl]; simp) ?_ ?_ fun σ hσ => ?_
  · intro c hc
    rw [← hl] at hc
    simp only [List.mem_append, List.mem_cons, List.not_mem_nil, or_false] at hc
    rcases hc with hc | rfl | hc | rfl | hc | rfl | hc | rfl <;> first | exact a0 _ hc | exact a1 _ hc | exact a2 _ hc | exact a3 _ hc | omega
  · rw [← hl]
    refine e0 _ _ (escL_q (e1 _ _ (escL_q (e2 _ _ (escL_q (e3 _ _ (escL_q ?_)))))))
    rfl
  · obtain ⟨σ1, f1, s1⟩ := forG_skip (q := (.int (0 + t0.length : Nat), .str [34]) :: (q1 ++ (.int (0 + t0.length + 1 + t1.length : Nat), .str [34]) :: (q2 ++ (.int (0 + t0.length + 1 + t1.length + 1 + t2.length : Nat), .str [34]) :: (q3 ++ [(.int (0 + t0.length + 1 + t1.length + 1 + t2.length + 1 + t3.length : Nat), .str [34])])))) n0 hσ
    obtain ⟨σ2, f2, s2⟩ := forG_open (k := 0 + t0.length) (q := q1 ++ (.int (0 + t0.length + 1 + t1.length : Nat), .str [34]) :: (q2 ++ (.int (0 + t0.length + 1 + t1.length + 1 + t2.length : Nat), .str [34]) :: (q3 ++ [(.int (0 + t0.length + 1 + t1.length + 1 + t2.length + 1 + t3.length : Nat), .str [34])]))) s1
    obtain ⟨σ3, f3, s3⟩ := forG_skip (q := (.int (0 + t0.length + 1 + t1.length : Nat), .str [34]) :: (q2 ++ (.int (0 + t0.length + 1 + t1.length + 1 + t2.length : Nat), .str [34]) :: (q3 ++ [(.int (0 + t0.length + 1 + t1.length + 1 + t2.length + 1 + t3.length : Nat), .str [34])]))) n1 s2
    obtain ⟨σ4, f4, s4⟩ := forG_close (k := 0 + t0.length + 1 + t1.length) (q := q2 ++ (.int (0 + t0.length + 1 + t1.length + 1 + t2.length : Nat), .str [34]) :: (q3 ++ [(.int (0 + t0.length + 1 + t1.length + 1 + t2.length + 1 + t3.length : Nat), .str [34])])) s3 (Nat.zero_le _) (by omega) (by simp)
    rw [resA_emp (s := 0) (o := 0 + t0.length) (t := t0) (seg_of (a := []) (b := t0) (c := 34 :: (t1 ++ 34 :: (t2 ++ 34 :: (t3 ++ [34])))) hl.symm rfl (by simp)) (by rw [← List.length_eq_zero_iff]; omega)] at s4
    obtain ⟨σ5, f5, s5⟩ := forG_skip (q := (.int (0 + t0.length + 1 + t1.length + 1 + t2.length : Nat), .str [34]) :: (q3 ++ [(.int (0 + t0.length + 1 + t1.length + 1 + t2.length + 1 + t3.length : Nat), .str [34])])) n2 s4
    obtain ⟨σ6, f6, s6⟩ := forG_open (k := 0 + t0.length + 1 + t1.length + 1 + t2.length) (q := q3 ++ [(.int (0 + t0.length + 1 + t1.length + 1 + t2.length + 1 + t3.length : Nat), .str [34])]) s5
    obtain ⟨σ7, f7, s7⟩ := forG_skip (q := [(.int (0 + t0.length + 1 + t1.length + 1 + t2.length + 1 + t3.length : Nat), .str [34])]) n3 s6
    obtain ⟨σ8, f8, s8⟩ := forG_close (k := 0 + t0.length + 1 + t1.length + 1 + t2.length + 1 + t3.length) (q := []) s7 (by omega) (by omega) (by unfold emp; split <;> simp)
    rw [resA_emp (t := t2) (seg_of (a := t0 ++ 34 :: (t1 ++ [34])) (b := t2) (c := 34 :: (t3 ++ [34])) (by rw [← hl]; simp) (by simp; omega) (by simp; omega)) (by rw [← List.length_eq_zero_iff]; omega)] at s8
    refine ⟨σ8, ?_, ?_⟩
    · rw [f1, f2, f3, f4, f5, f6, f7, f8]; rfl
    · refine strip_end s8 (by omega) (by unfold emp; split <;> split <;> simp) (by omega) (by omega) ?_
      rw [if_neg (by omega)]; simp
theorem strip_other (e : Nat) (p0 p1 p2 p3 : List Nat) (h0 : (txtN e p0).length ≤ 200) (h1 : (txtN e p1).length ≤ 200) (h2 : (txtN e p2).length ≤ 200) (h3 : (txtN e p3).length ≤ 200) :
    stripφ [.str (34 :: (txtN e p0 ++ 34 :: (txtN e p1 ++ 34 :: (txtN e p2 ++ 34 :: txtN e p3))))] = some (.str (txtN e p1 ++ txtN e p3)) := by
  obtain ⟨q0, n0, e0⟩ := escL_txt e p0 (0 + 1)
  obtain ⟨q1, n1, e1⟩ := escL_txt e p1 (0 + 1 + (txtN e p0).length + 1)
  obtain ⟨q2, n2, e2⟩ := escL_txt e p2 (0 + 1 + (txtN e p0).length + 1 + (txtN e p1).length + 1)
  obtain ⟨q3, n3, e3⟩ := escL_txt e p3 (0 + 1 + (txtN e p0).length + 1 + (txtN e p1).length + 1 + (txtN e p2).length + 1)
  have a0 := txt_ascii e p0
  have a1 := txt_ascii e p1
  have a2 := txt_ascii e p2
  have a3 := txt_ascii e p3
  generalize txtN e p0 = t0 at *
  generalize txtN e p1 = t1 at *
  generalize txtN e p2 = t2 at *
  generalize txtN e p3 = t3 at *
  generalize hl : 34 :: (t0 ++ 34 :: (t1 ++ 34 :: (t2 ++ 34 :: t3))) = l
  have hlen : l.length = t0.length + t1.length + t2.length + t3.length + 4 := by rw [← hl]; simp; omega
  refine strip_run (Ls := (.int (0 : Nat), .str [34]) :: (q0 ++ (.int (0 + 1 + t0.length : Nat), .str [34]) :: (q1 ++ (.int (0 + 1 + t0.length + 1 + t1.length : Nat), .str [34]) :: (q2 ++ (.int (0 + 1 + t0.length + 1 + t1.length + 1 + t2.length : Nat), .str [34]) :: q3)))) (by rw [← hl]; simp) ?_ ?_ fun σ hσ => ?_
  · intro c hc
    rw [← hl] at hc
    simp only [List.mem_append, List.mem_cons] at hc
    rcases hc with rfl | hc | rfl | hc | rfl | hc | rfl | hc <;> first | exact a0 _ hc | exact a1 _ hc | exact a2 _ hc | exact a3 _ hc | omega
  · rw [← hl]
    refine escL_q (e0 _ _ (escL_q (e1 _ _ (escL_q (e2 _ _ (escL_q ?_))))))
    have := e3 [] [] rfl
    rw [List.append_nil, List.append_nil] at this
    exact this
  · obtain ⟨σ0, f0, s0⟩ := forG_open (k := 0) (q := q0 ++ (.int (0 + 1 + t0.length : Nat), .str [34]) :: (q1 ++ (.int (0 + 1 + t0.length + 1 + t1.length : Nat), .str [34]) :: (q2 ++ (.int (0 + 1 + t0.length + 1 + t1.length + 1 + t2.length : Nat), .str [34]) :: q3))) hσ
    obtain ⟨σ1, f1, s1⟩ := forG_skip (q := (.int (0 + 1 + t0.length : Nat), .str [34]) :: (q1 ++ (.int (0 + 1 + t0.length + 1 + t1.length : Nat), .str [34]) :: (q2 ++ (.int (0 + 1 + t0.length + 1 + t1.length + 1 + t2.length : Nat), .str [34]) :: q3))) n0 s0
    obtain ⟨σ2, f2, s2⟩ := forG_close (k := 0 + 1 + t0.length) (q := q1 ++ (.int (0 + 1 + t0.length + 1 + t1.length : Nat), .str [34]) :: (q2 ++ (.int (0 + 1 + t0.length + 1 + t1.length + 1 + t2.length : Nat), .str [34]) :: q3)) s1 (Nat.le_refl _) (by omega) (by simp)
    rw [show resA l 0 0 [] = [] from if_pos rfl] at s2
    obtain ⟨σ3, f3, s3⟩ := forG_skip (q := (.int (0 + 1 + t0.length + 1 + t1.length : Nat), .str [34]) :: (q2 ++ (.int (0 + 1 + t0.length + 1 + t1.length + 1 + t2.length : Nat), .str [34]) :: q3)) n1 s2
    obtain ⟨σ4, f4, s4⟩ := forG_open (k := 0 + 1 + t0.length + 1 + t1.length) (q := q2 ++ (.int (0 + 1 + t0.length + 1 + t1.length + 1 + t2.length : Nat), .str [34]) :: q3) s3
    obtain ⟨σ5, f5, s5⟩ := forG_skip (q := (.int (0 + 1 + t0.length + 1 + t1.length + 1 + t2.length : Nat), .str [34]) :: q3) n2 s4
    obtain ⟨σ6, f6, s6⟩ := forG_close (k := 0 + 1 + t0.length + 1 + t1.length + 1 + t2.length) (q := q3) s5 (by omega) (by omega) (by simp)
    rw [resA_emp (t := t1) (seg_of (a := 34 :: (t0 ++ [34])) (b := t1) (c := 34 :: (t2 ++ 34 :: t3)) (by rw [← hl]; simp) (by simp; omega) (by simp; omega)) (by rw [← List.length_eq_zero_iff]; omega)] at s6
    obtain ⟨σ7, f7, s7⟩ := forG_skip (pre := q3) (q := []) n3 s6
    rw [List.append_nil] at f7
    refine ⟨σ7, ?_, ?_⟩
    · rw [f0, f1, f2, f3, f4, f5, f6, f7]; rfl
    · refine strip_end s7 (by omega) (by unfold emp; split <;> simp) (by omega) (by omega) ?_
      have hd : l.drop (0 + 1 + t0.length + 1 + t1.length + 1 + t2.length + 1) = t3 := by
        have hl' : l = (34 :: (t0 ++ 34 :: (t1 ++ 34 :: (t2 ++ [34])))) ++ t3 := by rw [← hl]; simp
        rw [hl', List.drop_left' (by simp; omega)]
      rw [hd]
      simp only [List.nil_append]
      congr 1
      unfold emp
      by_cases q : t3 = []
      · rw [if_pos q, if_neg (by rw [q] at hlen; simp at hlen; omega)]
      · have : t3.length ≠ 0 := fun z => q (List.length_eq_zero_iff.mp z)
        rw [if_neg q, if_pos (by omega)]
end Mine
end

noncomputable section
namespace Mine
open PySem PyProof.Rows PySem.Builtin.Str
def lt3 (ks : List Nat) : Prop := ∀ k ∈ ks, k < 3
def mapB (f : Nat → List Nat) : List Nat → List (List Nat)
  | [] => []
  | k :: r => f k :: mapB f r
def catB (f : Nat → List Nat) : List Nat → List Nat
  | [] => []
  | k :: r => f k ++ catB f r
theorem pickN_val {bs : List (List Nat)} {f : Nat → List Nat} (hb : ∀ k, k < 3 → nth bs k = some (f k)) : ∀ {ks : List Nat}, lt3 ks → pickN bs (ks.map Int.ofNat) = some (mapB f ks)
  | [], _ => rfl
  | k :: ks, h => by
    have h1 := hb k (h k List.mem_cons_self)
    have h2 := pickN_val hb (ks := ks) fun x hx => h x (List.mem_cons_of_mem _ hx)
    have h3 : Nat.ble k 1000000 = true := Nat.ble_eq_true_of_le (by have := h k List.mem_cons_self; omega)
    show (match Nat.ble k 1000000, nth bs k, pickN bs (ks.map Int.ofNat) with | true, some b, some q => some (b :: q) | _, _, _ => .none) = _
    rw [h1, h2, h3]
    rfl
theorem ints_mvs (ks : List Nat) : intsOf (mvs ks) = some (ks.map Int.ofNat) := by
  have : mvs ks = (ks.map Int.ofNat).map MV.int := by unfold mvs; rw [List.map_map]; rfl
  rw [this, ints_map]
theorem join_mapB (f : Nat → List Nat) : ∀ ks, joinN [] (mapB f ks) = catB f ks
  | [] => rfl
  | k :: ks => by
    show joinN [] (f k :: mapB f ks) = f k ++ catB f ks
    rw [joinN_nil_cons, join_mapB f ks]
theorem fold_len : ∀ (ls : List (List Nat)) (acc m : Nat), (∀ l ∈ ls, l.length ≤ m) → ls.foldl (fun n p => n + p.length + 0) acc ≤ acc + m * ls.length
  | [], acc, m, _ => by simp
  | l :: ls, acc, m, h => by
    rw [List.foldl_cons]
    have h1 := fold_len ls (acc + l.length + 0) m fun x hx => h x (List.mem_cons_of_mem _ hx)
    have h2 := h l List.mem_cons_self
    rw [List.length_cons, Nat.mul_add]
    omega
theorem mapB_mem {f : Nat → List Nat} {m : Nat} (hf : ∀ k, (f k).length ≤ m) : ∀ {ks : List Nat} {l : List Nat}, l ∈ mapB f ks → l.length ≤ m
  | [], l, h => nomatch h
  | k :: ks, l, h => by
    rcases List.mem_cons.mp h with rfl | h
    · exact hf k
    · exact mapB_mem hf h
theorem mapB_len {f : Nat → List Nat} : ∀ {ks : List Nat}, (mapB f ks).length = ks.length
  | [] => rfl
  | k :: ks => congrArg (· + 1) (mapB_len (ks := ks))
theorem text_val {bl : List MV} {bs : List (List Nat)} {f : Nat → List Nat} (hbl : strsOf bl = some bs) (hb : ∀ k, k < 3 → nth bs k = some (f k)) (hf : ∀ k, (f k).length ≤ 10) {ks : List Nat} (h : lt3 ks) (hl : ks.length ≤ 100) : textφ [.list (mvs ks), .list bl] = some (.str (catB f ks)) := by
  have h2 := fold_len (mapB f ks) 0 10 fun l hl => mapB_mem hf hl
  rw [mapB_len] at h2
  have ht : textV (mvs ks) bl = some (catB f ks) := by
    unfold textV
    rw [ints_mvs, hbl, Nat.ble_eq_true_of_le (by unfold mvs; rw [List.length_map]; omega)]
    dsimp only
    rw [pickN_val hb h]
    dsimp only
    rw [Nat.ble_eq_true_of_le (by omega), join_mapB]
  unfold textφ
  dsimp only
  rw [ht]
theorem cat_txt (e : Nat) : ∀ ks, catB (beadN e) ks = txtN e ks
  | [] => rfl
  | k :: ks => congrArg (beadN e k ++ ·) (cat_txt e ks)
theorem cat_snt : ∀ ks, catB sentN ks = sntN ks
  | [] => rfl
  | k :: ks => congrArg (sentN k ++ ·) (cat_snt ks)
theorem bead_len (e k : Nat) : (beadN e k).length ≤ 10 := by
  match k with
  | 0 => match e with
    | 0 => decide
    | 1 => decide
    | _ + 2 => show (3 : Nat) ≤ 10; decide
  | 1 => show (2 : Nat) ≤ 10; decide
  | _ + 2 => show (2 : Nat) ≤ 10; decide
theorem sent_len (k : Nat) : (sentN k).length ≤ 10 := by
  match k with
  | 0 => decide
  | 1 => decide
  | _ + 2 => show (2 : Nat) ≤ 10; decide
def sentL : List MV := [.str [13, 10, 46, 46], .str [92, 34], .str [65, 46]]
theorem text_bl (e : Nat) {ks : List Nat} (h : lt3 ks) (hl : ks.length ≤ 100) : textφ [.list (mvs ks), .list (blOf e)] = some (.str (txtN e ks)) := by
  rw [← cat_txt]
  refine text_val (bs := [beadN e 0, beadN e 1, beadN e 2]) rfl (fun k hk => ?_) (bead_len e) h hl
  match k, hk with
  | 0, _ => rfl
  | 1, _ => rfl
  | 2, _ => rfl
theorem text_sent {ks : List Nat} (h : lt3 ks) (hl : ks.length ≤ 100) : textφ [.list (mvs ks), .list sentL] = some (.str (sntN ks)) := by
  rw [← cat_snt]
  refine text_val (bs := [sentN 0, sentN 1, sentN 2]) rfl (fun k hk => ?_) sent_len h hl
  match k, hk with
  | 0, _ => rfl
  | 1, _ => rfl
  | 2, _ => rfl
theorem txt_len (e : Nat) : ∀ ks : List Nat, (txtN e ks).length ≤ 10 * ks.length
  | [] => by simp [txtN]
  | k :: ks => by
    have h1 := txt_len e ks
    have h2 := bead_len e k
    show (beadN e k ++ txtN e ks).length ≤ _
    rw [List.length_append, List.length_cons]
    omega
theorem txt_app (e : Nat) : ∀ a b : List Nat, txtN e (a ++ b) = txtN e a ++ txtN e b
  | [], b => rfl
  | k :: a, b => by
    show beadN e k ++ txtN e (a ++ b) = (beadN e k ++ txtN e a) ++ txtN e b
    rw [txt_app e a b, List.append_assoc]
/-- how often a kind stands in the row -/
def cnt (k : Nat) : List Nat → Nat
  | [] => 0
  | a :: r => (if a = k then 1 else 0) + cnt k r
theorem cnt_app (k : Nat) : ∀ a b : List Nat, cnt k (a ++ b) = cnt k a + cnt k b
  | [], b => by simp [cnt]
  | x :: a, b => by
    show (if x = k then 1 else 0) + cnt k (a ++ b) = ((if x = k then 1 else 0) + cnt k a) + cnt k b
    rw [cnt_app k a b]; omega
theorem cntN_eq : ∀ ks : List Nat, cntN ks = cnt 2 ks
  | [] => rfl
  | a :: r => by
    have ih := cntN_eq r
    show (match Nat.beq a 2 with | true => cntN r + 1 | false => cntN r) = (if a = 2 then 1 else 0) + cnt 2 r
    rw [beq_dec, ih]
    by_cases h : a = 2
    · rw [decide_eq_true h, if_pos h]; exact Nat.add_comm _ _
    · rw [decide_eq_false h, if_neg h]; exact (Nat.zero_add _).symm
theorem snt_len (e : Nat) (he : e < 3) : ∀ ks : List Nat, (sntN ks).length = (txtN e ks).length + cnt 0 ks * (3 - (endN e).length)
  | [] => by simp [sntN, txtN, cnt]
  | a :: r => by
    have ih := snt_len e he r
    show (sentN a ++ sntN r).length = (beadN e a ++ txtN e r).length + ((if a = 0 then 1 else 0) + cnt 0 r) * (3 - (endN e).length)
    rw [List.length_append, List.length_append, ih, Nat.add_mul]
    match a with
    | 0 =>
      match e, he with
      | 0, _ => simp [sentN, beadN, endN]; omega
      | 1, _ => simp [sentN, beadN, endN]; omega
      | 2, _ => simp [sentN, beadN, endN]; omega
    | 1 => simp [sentN, beadN]; omega
    | _ + 2 => simp [sentN, beadN]; omega
theorem count_mvs (k : Nat) : ∀ ks : List Nat, (ks.map Int.ofNat).count (Int.ofNat k) = cnt k ks
  | [] => rfl
  | a :: r => by
    rw [List.map_cons, List.count_cons, count_mvs k r]
    show _ = (if a = k then 1 else 0) + cnt k r
    by_cases h : a = k
    · subst h; simp; omega
    · rw [if_neg h, if_neg (by simp; intro q; exact h (by omega))]; omega
theorem countV_mvs (k : Nat) (ks : List Nat) : countV [.list (mvs ks), .int (Int.ofNat k)] = some (.int (Int.ofNat (cnt k ks))) := by
  show (match intsOf (mvs ks) with | some is => some (MV.int (is.count (Int.ofNat k) : Nat)) | .none => .none) = _
  rw [ints_mvs]
  dsimp only
  rw [count_mvs]
  rfl
theorem low_map : ∀ l : List Nat, l.map lowN = lowL l
  | [] => rfl
  | a :: r => congrArg (lowN a :: ·) (low_map r)
theorem lower_txt (e : Nat) (ks : List Nat) (hl : ks.length ≤ 100) : lowerV [.str (txtN e ks)] = some (.str (lowL (txtN e ks))) := by
  have h := txt_len e ks
  show (match (txtN e ks).all (fun c => Nat.ble c 127), Nat.ble (txtN e ks).length 100000 with | true, true => some (MV.str ((txtN e ks).map lowN)) | _, _ => .none) = _
  rw [List.all_eq_true.mpr fun c hc => Nat.ble_eq_true_of_le (by have := txt_ascii e ks c hc; omega), Nat.ble_eq_true_of_le (by omega), low_map]
end Mine
end

noncomputable section
namespace Mine
open PySem PyProof.Rows PySem.Builtin.Str
abbrev vr (x : Nat) : Loc → Option MV := fun σ => gv (getL σ x)
def c1 : SF := asgF 29 fun σ => o2 subV (o2 addV (gv (getL σ 28)) (some (.int 3))) (gv (getL σ 27))
def c2 : SF := asgF 30 fun σ => oL (fun l => smallL l .list) (oc (o3 sliceV (gv (getL σ 7)) (some .none) (gv (getL σ 27))) (oc (o3 sliceV (gv (getL σ 7)) (gv (getL σ 27)) (gv (getL σ 28))) (oc (o3 sliceV (gv (getL σ 7)) (gv (getL σ 28)) (gv (getL σ 29))) (oc (o3 sliceV (gv (getL σ 7)) (gv (getL σ 29)) (some .none)) (some [])))))
def c3 : SF := asgF 31 fun σ => o2 addV (o2 idxV (gv (getL σ 30)) (some (.int 0))) (o2 idxV (gv (getL σ 30)) (some (.int 2)))
def c4 (bl : List MV) : SF := compF 32 (fun σ => gv (getL σ 30)) (fun x => textφ [x, .list bl])
def jn : Loc → Option MV := fun σ => oL joinV (oc (some (.str [34])) (oc (gv (getL σ 32)) (some [])))
def c5 : SF := asgF 33 fun σ => oL (fun l => frcA l stripφ) (oc (o2 addV (jn σ) (some (.str [34]))) (some []))
def rF : SF := seqF (retF (boolC false)) nx
def c6 (bl : List MV) : SF := ifF (fun σ => o1 tb (o2 neV (gv (getL σ 33)) (o1 (fun x => frc2 x fun x => textφ [x, .list bl]) (gv (getL σ 31))))) rF nx
def c7 : SF := asgF 34 fun σ => oL (fun l => frcA l quoteφ) (oc (gv (getL σ 33)) (some []))
def c8 : SF := asgF 35 fun σ => oL (fun l => frcA l levφ) (oc (gv (getL σ 33)) (oc (o1 (fun x => lowerV [x]) (gv (getL σ 33))) (oc (some (.int 3)) (some []))))
def c9 : SF := appF 25 fun σ => oL (fun l => smallL l .tup) (oc (gv (getL σ 34)) (oc (gv (getL σ 35)) (some [])))
def c10 : SF := appF 26 fun σ => oL (fun l => smallL l .tup) (oc (oL (fun l => frcA l textφ) (oc (gv (getL σ 31)) (oc (gv (getL σ 23)) (some [])))) (oc (oL countV (oc (gv (getL σ 31)) (oc (some (.int 2)) (some [])))) (some [])))
def c11 : SF := asgF 36 fun σ => o2 subV (oL lenV (oc (gv (getL σ 34)) (some []))) (oL lenV (oc (gv (getL σ 33)) (some [])))
def t12 : Loc → Option Bool := fun σ => andB (o1 tb (o2 eqV (o2 mulV (some (.int 2)) (gv (getL σ 35))) (oL countV (oc (gv (getL σ 7)) (oc (some (.int 2)) (some []))))))
  (andB (o1 tb (o2 eqV (o2 mulV (some (.int 2)) (gv (getL σ 36))) (o2 mulV (oL countV (oc (gv (getL σ 7)) (oc (some (.int 0)) (some [])))) (o2 subV (some (.int 3)) (oL lenV (oc (gv (getL σ 22)) (some []))))))) (some true))
def d1 : SF := asgF 24 fun σ => o2 addV (gv (getL σ 24)) (some (.int 1))
def d2 : SF := asgF 37 fun σ => oL (fun l => frcA l stripφ) (oc (o2 addV (some (.str [34])) (jn σ)) (some []))
def d3 (bl : List MV) : SF := ifF (fun σ => o1 tb (o2 neV (gv (getL σ 37)) (o1 (fun x => frc2 x fun x => textφ [x, .list bl]) (o2 addV (o2 idxV (gv (getL σ 30)) (some (.int 1))) (o2 idxV (gv (getL σ 30)) (some (.int 3))))))) rF nx
def d4 : SF := ifF (fun σ => o1 tb (o2 neV (o2 subV (oL lenV (oc (oL (fun l => frcA l quoteφ) (oc (gv (getL σ 37)) (some []))) (some []))) (oL lenV (oc (gv (getL σ 37)) (some [])))) (gv (getL σ 36)))) rF nx
def d5 : SF := ifF (fun σ => o1 tb (o2 neV (oL (fun l => frcA l levφ) (oc (o1 (fun x => lowerV [x]) (gv (getL σ 37))) (oc (gv (getL σ 37)) (oc (some (.int 3)) (some []))))) (gv (getL σ 35)))) rF nx
def c12 (bl : List MV) : SF := ifF t12 (seqF d1 (seqF d2 (seqF (d3 bl) (seqF d4 (seqF d5 nx))))) nx
def cutF (bl : List MV) : SF := seqF c1 (seqF c2 (seqF c3 (seqF (c4 bl) (seqF c5 (seqF (c6 bl) (seqF c7 (seqF c8 (seqF c9 (seqF c10 (seqF c11 (seqF (c12 bl) nx)))))))))))
def g28 : Loc → Option (List MV) := fun σ => oc (o2 addV (gv (getL σ 27)) (oL minV (oc (gv (getL σ 27)) (oc (some (.int 1)) (some []))))) (oc (o2 addV (gv (getL σ 27)) (some (.int 4))) (some []))
def finV : Loc → Option MV := fun σ => andV (o2 gtV (gv (getL σ 24)) (some (.int 0))) (o2 eqLV (gv (getL σ 25)) (gv (getL σ 26)))
set_option maxRecDepth 100000 in
theorem cut_shape (bl : List MV) : (cutP bl).1 = seqF (asgF 23 fun _ => some (.list sentL)) (seqF (asgF 24 fun _ => some (.int 0)) (seqF (newF 25 fun _ => some []) (seqF (newF 26 fun _ => some [])
  (seqF (forR 27 (fun _ => some [.int 3]) (seqF (forR 28 g28 (cutF bl)) nx)) (frzF 25 (frzF 26 (seqF (retF finV) nx))))))) := rfl
end Mine
end

noncomputable section
namespace Mine
open PySem PyProof.Rows PySem.Builtin.Str
theorem asg_step {x : Nat} {f : Loc → Option MV} {σ : Loc} {v : MV} (h : f σ = some v) : ∃ σ', (∀ G, seqF (asgF x f) G σ = G σ') ∧ getL σ' x = some (.val v) ∧ ∀ y, y ≠ x → getL σ' y = getL σ y :=
  ⟨setL σ x (.val v), fun G => seqF_next (asgF_eq h), by rw [getL_setL, if_pos rfl], fun y hy => by rw [getL_setL, if_neg (Ne.symm hy)]⟩
theorem app_step {x : Nat} {f : Loc → Option MV} {σ : Loc} {v : MV} {l : List MV} (h : f σ = some v) (hx : getL σ x = some (.own l)) (hl : l.length ≤ 100000) : ∃ σ', (∀ G, seqF (appF x f) G σ = G σ') ∧ getL σ' x = some (.own (l ++ [v])) ∧ ∀ y, y ≠ x → getL σ' y = getL σ y :=
  ⟨setL σ x (.own (l ++ [v])), fun G => seqF_next (appF_eq h hx hl), by rw [getL_setL, if_pos rfl], fun y hy => by rw [getL_setL, if_neg (Ne.symm hy)]⟩
theorem comp_step {x : Nat} {f : Loc → Option MV} {φ : MV → Option MV} {σ : Loc} {l r : List MV} (h : f σ = some (.list l)) (hm : mapO φ l = some r) (hl : l.length ≤ 100000) : ∃ σ', (∀ G, seqF (compF x f φ) G σ = G σ') ∧ getL σ' x = some (.val (.list r)) ∧ ∀ y, y ≠ x → getL σ' y = getL σ y := by
  refine ⟨setL σ x (.val (.list r)), fun G => seqF_next ?_, by rw [getL_setL, if_pos rfl], fun y hy => by rw [getL_setL, if_neg (Ne.symm hy)]⟩
  unfold compF
  rw [h]
  dsimp only
  rw [hm, Nat.ble_eq_true_of_le hl]
  dsimp only
  rw [frc2_eq, frcS_eq]
theorem if_step {t : Loc → Option Bool} {F : SF} {σ : Loc} (h : t σ = some false) : ∀ G, seqF (ifF t F nx) G σ = G σ := fun G => seqF_next (by rw [ifF_false h]; rfl)
theorem mvs_len (l : List Nat) : (mvs l).length = l.length := by unfold mvs; rw [List.length_map]
theorem mvs_app (a b : List Nat) : mvs (a ++ b) = mvs a ++ mvs b := by unfold mvs; rw [List.map_append]
theorem ne_str {t : List Nat} : o1 tb (o2 neV (some (.str t)) (some (.str t))) = some false := by
  show some (t != t) = some false
  simp
theorem three_of {l : List Nat} (h : l.length = 3) : ∃ a b c, l = [a, b, c] := by
  match l, h with
  | [a, b, c], _ => exact ⟨a, b, c, rfl⟩
theorem cnt_le (k : Nat) : ∀ l : List Nat, cnt k l ≤ l.length
  | [] => Nat.le_refl _
  | a :: r => by
    have := cnt_le k r
    show (if a = k then 1 else 0) + cnt k r ≤ r.length + 1
    split <;> omega
theorem end_len (e : Nat) (he : e < 3) : (endN e).length = 1 ∨ (endN e).length = 2 := by
  match e, he with
  | 0, _ => exact .inl rfl
  | 1, _ => exact .inl rfl
  | 2, _ => exact .inr rfl
theorem mulV_ok {n : Nat} {b : Int} (h : n ≤ 1000) : mulV (.int (Int.ofNat n)) (.int b) = some (.int (Int.ofNat n * b)) := by
  show (match smallI (Int.ofNat n) with | true => some (MV.int (Int.ofNat n * b)) | false => .none) = _
  rw [show smallI (Int.ofNat n) = true from Nat.ble_eq_true_of_le (by show n ≤ 1000000; omega)]
structure C5 (r : List Nat) (e m : Nat) (td : List MV) (σ : Loc) : Prop where
  g7 : getL σ 7 = some (.val (.list (mvs r)))
  g22 : getL σ 22 = some (.val (.str (endN e)))
  g23 : getL σ 23 = some (.val (.list sentL))
  g24 : ∃ f : Int, getL σ 24 = some (.val (.int f)) ∧ (m : Int) ≤ f
  g25 : getL σ 25 = some (.own td)
  g26 : getL σ 26 = some (.own td)
/-- the two thieves' shares are alike in both kinds -/
def fairK (s r : List Nat) : Bool := decide (2 * cnt 2 s = cnt 2 r) && decide (2 * cnt 0 s = cnt 0 r)
theorem jn_val {σ : Loc} {t0 t1 t2 t3 : List Nat} (h : getL σ 32 = some (.val (.list [.str t0, .str t1, .str t2, .str t3]))) (hl : t0.length + t1.length + t2.length + t3.length ≤ 1000) : jn σ = some (.str (t0 ++ 34 :: (t1 ++ 34 :: (t2 ++ 34 :: t3)))) := by
  unfold jn
  rw [h]
  show guardN (0 + t0.length + 1 + t1.length + 1 + t2.length + 1 + t3.length + 1) (.str (joinN [34] [t0, t1, t2, t3])) = _
  rw [guardN_ok (by omega)]
  simp [joinN]
theorem cut_turn {e i j k m : Nat} {p0 p1 p2 p3 r : List Nat} {td : List MV} {σ : Loc} (he : e < 3) (hr : r = p0 ++ (p1 ++ (p2 ++ p3))) (h3 : lt3 r) (hlen : r.length = 6) (hi : i = p0.length) (hj : j = p0.length + p1.length) (hk : k = p0.length + p1.length + p2.length) (hk3 : k + i = j + 3)
    (C : C5 r e m td σ) (g27 : getL σ 27 = some (.val (.int (Int.ofNat i)))) (g28 : getL σ 28 = some (.val (.int (Int.ofNat j)))) (htd : td.length ≤ 1000) :
    ∃ σ' u v, cutF (blOf e) σ = some (σ', .next) ∧ C5 r e (m + (if fairK (p0 ++ p2) r = true then 1 else 0)) (td ++ [.tup [.str u, .int v]]) σ' ∧ getL σ' 27 = some (.val (.int (Int.ofNat i))) := by
  have l0 : lt3 p0 := fun x hx => h3 x (by rw [hr]; simp [hx])
  have l1 : lt3 p1 := fun x hx => h3 x (by rw [hr]; simp [hx])
  have l2 : lt3 p2 := fun x hx => h3 x (by rw [hr]; simp [hx])
  have l3 : lt3 p3 := fun x hx => h3 x (by rw [hr]; simp [hx])
  have hlens : p0.length + (p1.length + (p2.length + p3.length)) = 6 := by rw [← hlen, hr]; simp
  have lsh : (p0 ++ p2).length = 3 := by rw [List.length_append]; omega
  have lot : (p1 ++ p3).length = 3 := by rw [List.length_append]; omega
  have l3s : lt3 (p0 ++ p2) := fun x hx => (List.mem_append.mp hx).elim (l0 x) (l2 x)
  have l3o : lt3 (p1 ++ p3) := fun x hx => (List.mem_append.mp hx).elim (l1 x) (l3 x)
  have T0 := txt_len e p0
  have T1 := txt_len e p1
  have T2 := txt_len e p2
  have T3 := txt_len e p3
  -- third
  obtain ⟨s1, e1, q1, k1⟩ := asg_step (x := 29) (f := fun σ => o2 subV (o2 addV (gv (getL σ 28)) (some (.int 3))) (gv (getL σ 27))) (σ := σ) (v := .int (Int.ofNat k)) (by
    rw [g28, g27]
    show some (MV.int (Int.ofNat j + 3 - Int.ofNat i)) = _
    congr 2
    show (j : Int) + 3 - (i : Int) = (k : Int)
    omega)
  -- pieces
  have sl0 : sliceV (.list (mvs r)) .none (.int (Int.ofNat i)) = some (.list (mvs p0)) := by
    show guardN (mvs r).length (.list (slcL (mvs r) .none (some (Int.ofNat i)))) = _
    rw [guardN_ok (by rw [mvs_len]; omega), slc_hi, hr, mvs_app, List.take_left' (by rw [mvs_len]; exact hi.symm)]
  have sl1 : sliceV (.list (mvs r)) (.int (Int.ofNat i)) (.int (Int.ofNat j)) = some (.list (mvs p1)) := by
    show guardN (mvs r).length (.list (slcL (mvs r) (some (Int.ofNat i)) (some (Int.ofNat j)))) = _
    rw [guardN_ok (by rw [mvs_len]; omega), slc_two _ _ _ (by omega), seg_of (a := mvs p0) (b := mvs p1) (c := mvs (p2 ++ p3)) (by rw [hr, mvs_app, mvs_app]) (by rw [mvs_len]; exact hi) (by rw [mvs_len, mvs_len]; exact hj)]
  have sl2 : sliceV (.list (mvs r)) (.int (Int.ofNat j)) (.int (Int.ofNat k)) = some (.list (mvs p2)) := by
    show guardN (mvs r).length (.list (slcL (mvs r) (some (Int.ofNat j)) (some (Int.ofNat k)))) = _
    rw [guardN_ok (by rw [mvs_len]; omega), slc_two _ _ _ (by omega), seg_of (a := mvs (p0 ++ p1)) (b := mvs p2) (c := mvs p3) (by rw [hr, ← mvs_app, ← mvs_app]; simp) (by rw [mvs_len, List.length_append]; exact hj) (by rw [mvs_len, mvs_len, List.length_append]; exact hk)]
  have sl3 : sliceV (.list (mvs r)) (.int (Int.ofNat k)) .none = some (.list (mvs p3)) := by
    show guardN (mvs r).length (.list (slcL (mvs r) (some (Int.ofNat k)) .none)) = _
    rw [guardN_ok (by rw [mvs_len]; omega), slc_lo]
    have : r = (p0 ++ (p1 ++ p2)) ++ p3 := by rw [hr]; simp
    rw [this, mvs_app, List.drop_left' (by rw [mvs_len]; simp; omega)]
  obtain ⟨s2, e2, q2, k2⟩ := asg_step (x := 30) (f := fun σ => oL (fun l => smallL l .list) (oc (o3 sliceV (gv (getL σ 7)) (some .none) (gv (getL σ 27))) (oc (o3 sliceV (gv (getL σ 7)) (gv (getL σ 27)) (gv (getL σ 28))) (oc (o3 sliceV (gv (getL σ 7)) (gv (getL σ 28)) (gv (getL σ 29))) (oc (o3 sliceV (gv (getL σ 7)) (gv (getL σ 29)) (some .none)) (some []))))))
    (σ := s1) (v := .list [.list (mvs p0), .list (mvs p1), .list (mvs p2), .list (mvs p3)]) (by
    rw [q1, k1 7 (by decide), k1 27 (by decide), k1 28 (by decide), C.g7, g27, g28]
    show oL (fun l => smallL l .list) (oc (sliceV (.list (mvs r)) .none (.int (Int.ofNat i))) (oc (sliceV (.list (mvs r)) (.int (Int.ofNat i)) (.int (Int.ofNat j))) (oc (sliceV (.list (mvs r)) (.int (Int.ofNat j)) (.int (Int.ofNat k))) (oc (sliceV (.list (mvs r)) (.int (Int.ofNat k)) .none) (some []))))) = _
    rw [sl0, sl1, sl2, sl3]
    rfl)
  -- share
  obtain ⟨s3, e3, q3, k3⟩ := asg_step (x := 31) (f := fun σ => o2 addV (o2 idxV (gv (getL σ 30)) (some (.int 0))) (o2 idxV (gv (getL σ 30)) (some (.int 2)))) (σ := s2) (v := .list (mvs (p0 ++ p2))) (by
    rw [q2]
    show guardN ((mvs p0).length + (mvs p2).length) (.list (mvs p0 ++ mvs p2)) = _
    rw [guardN_ok (by rw [mvs_len, mvs_len]; omega), mvs_app])
  -- texts
  obtain ⟨s4, e4, q4, k4⟩ := comp_step (x := 32) (f := fun σ => gv (getL σ 30)) (φ := fun x => textφ [x, .list (blOf e)]) (σ := s3) (l := [.list (mvs p0), .list (mvs p1), .list (mvs p2), .list (mvs p3)]) (r := [.str (txtN e p0), .str (txtN e p1), .str (txtN e p2), .str (txtN e p3)]) (by
    rw [k3 30 (by decide), q2]
    rfl) (by
    simp only [mapO, text_bl e l0 (by omega), text_bl e l1 (by omega), text_bl e l2 (by omega), text_bl e l3 (by omega)]) (by simp)
  have J := jn_val q4 (by omega)
  -- left
  obtain ⟨s5, e5, q5, k5⟩ := asg_step (x := 33) (f := fun σ => oL (fun l => frcA l stripφ) (oc (o2 addV (jn σ) (some (.str [34]))) (some []))) (σ := s4) (v := .str (txtN e (p0 ++ p2))) (by
    rw [J]
    show oL (fun l => frcA l stripφ) (oc (guardN ((txtN e p0 ++ 34 :: (txtN e p1 ++ 34 :: (txtN e p2 ++ 34 :: txtN e p3))).length + 1) (.str ((txtN e p0 ++ 34 :: (txtN e p1 ++ 34 :: (txtN e p2 ++ 34 :: txtN e p3))) ++ [34]))) (some [])) = _
    rw [guardN_ok (by simp; omega)]
    show frcA _ stripφ = _
    rw [frcA_eq]
    have := strip_left e p0 p1 p2 p3 (by omega) (by omega) (by omega) (by omega)
    rw [txt_app, ← this]
    congr 3
    simp)
  have p31 : getL s5 31 = some (.val (.list (mvs (p0 ++ p2)))) := by rw [k5 31 (by decide), k4 31 (by decide), q3]
  have e6 := if_step (t := fun σ => o1 tb (o2 neV (gv (getL σ 33)) (o1 (fun x => frc2 x fun x => textφ [x, .list (blOf e)]) (gv (getL σ 31))))) (F := rF) (σ := s5) (by
    rw [q5, p31]
    show o1 tb (o2 neV (some (.str _)) (frc2 (.list (mvs (p0 ++ p2))) fun x => textφ [x, .list (blOf e)])) = _
    rw [frc2_eq, text_bl e l3s (by omega)]
    exact ne_str)
  obtain ⟨a, b, c, hsh⟩ := three_of lsh
  have ha : a < 3 := l3s a (by rw [hsh]; simp)
  have hb : b < 3 := l3s b (by rw [hsh]; simp)
  have hc : c < 3 := l3s c (by rw [hsh]; simp)
  -- sent
  obtain ⟨s7, e7, q7, k7⟩ := asg_step (x := 34) (f := fun σ => oL (fun l => frcA l quoteφ) (oc (gv (getL σ 33)) (some []))) (σ := s5) (v := .str (sntN (p0 ++ p2))) (by
    rw [q5]
    show frcA [.str (txtN e (p0 ++ p2))] quoteφ = _
    rw [frcA_eq, hsh]
    exact quote_txt he ha hb hc)
  have p33 : getL s7 33 = some (.val (.str (txtN e (p0 ++ p2)))) := by rw [k7 33 (by decide), q5]
  -- greats
  obtain ⟨s8, e8, q8, k8⟩ := asg_step (x := 35) (f := fun σ => oL (fun l => frcA l levφ) (oc (gv (getL σ 33)) (oc (o1 (fun x => lowerV [x]) (gv (getL σ 33))) (oc (some (.int 3)) (some []))))) (σ := s7) (v := .int (Int.ofNat (cnt 2 (p0 ++ p2)))) (by
    rw [p33]
    show oL (fun l => frcA l levφ) (oc (some (.str (txtN e (p0 ++ p2)))) (oc (lowerV [.str (txtN e (p0 ++ p2))]) (some [.int 3]))) = _
    rw [lower_txt e _ (by omega)]
    show frcA [.str (txtN e (p0 ++ p2)), .str (lowL (txtN e (p0 ++ p2))), .int 3] levφ = _
    rw [frcA_eq, ← cntN_eq, hsh]
    exact lev_txt he ha hb hc)
  have kk : ∀ y, y < 29 → getL s8 y = getL σ y := fun y hy => by rw [k8 y (by omega), k7 y (by omega), k5 y (by omega), k4 y (by omega), k3 y (by omega), k2 y (by omega), k1 y (by omega)]
  have p34 : getL s8 34 = some (.val (.str (sntN (p0 ++ p2)))) := by rw [k8 34 (by decide), q7]
  have p31' : getL s8 31 = some (.val (.list (mvs (p0 ++ p2)))) := by rw [k8 31 (by decide), k7 31 (by decide), p31]
  -- told
  obtain ⟨s9, e9, q9, k9⟩ := app_step (x := 25) (f := fun σ => oL (fun l => smallL l .tup) (oc (gv (getL σ 34)) (oc (gv (getL σ 35)) (some [])))) (σ := s8) (v := .tup [.str (sntN (p0 ++ p2)), .int (Int.ofNat (cnt 2 (p0 ++ p2)))]) (l := td) (by
    rw [p34, q8]
    rfl) (by rw [kk 25 (by decide)]; exact C.g25) (by omega)
  -- due
  obtain ⟨s10, e10, q10, k10⟩ := app_step (x := 26) (f := fun σ => oL (fun l => smallL l .tup) (oc (oL (fun l => frcA l textφ) (oc (gv (getL σ 31)) (oc (gv (getL σ 23)) (some [])))) (oc (oL countV (oc (gv (getL σ 31)) (oc (some (.int 2)) (some [])))) (some [])))) (σ := s9) (v := .tup [.str (sntN (p0 ++ p2)), .int (Int.ofNat (cnt 2 (p0 ++ p2)))]) (l := td) (by
    rw [k9 31 (by decide), p31', k9 23 (by decide), kk 23 (by decide), C.g23]
    show oL (fun l => smallL l .tup) (oc (frcA [.list (mvs (p0 ++ p2)), .list sentL] textφ) (oc (countV [.list (mvs (p0 ++ p2)), .int (Int.ofNat 2)]) (some []))) = _
    rw [frcA_eq, text_sent l3s (by omega), countV_mvs]
    rfl) (by rw [k9 26 (by decide), kk 26 (by decide)]; exact C.g26) (by omega)
  have SL := snt_len e he (p0 ++ p2)
  have TL := txt_len e (p0 ++ p2)
  -- grown
  obtain ⟨s11, e11, q11, k11⟩ := asg_step (x := 36) (f := fun σ => o2 subV (oL lenV (oc (gv (getL σ 34)) (some []))) (oL lenV (oc (gv (getL σ 33)) (some [])))) (σ := s10) (v := .int (Int.ofNat (cnt 0 (p0 ++ p2) * (3 - (endN e).length)))) (by
    rw [k10 34 (by decide), k9 34 (by decide), p34, k10 33 (by decide), k9 33 (by decide), k8 33 (by decide), p33]
    show o2 subV (guardN (sntN (p0 ++ p2)).length (.int (sntN (p0 ++ p2)).length)) (guardN (txtN e (p0 ++ p2)).length (.int (txtN e (p0 ++ p2)).length)) = _
    rw [guardN_ok (by rw [SL]; have := cnt_le 0 (p0 ++ p2); have : cnt 0 (p0 ++ p2) * (3 - (endN e).length) ≤ 3 * 3 := Nat.mul_le_mul (by omega) (by omega); omega), guardN_ok (by omega)]
    show some (MV.int (((sntN (p0 ++ p2)).length : Nat) - ((txtN e (p0 ++ p2)).length : Nat) : Int)) = _
    rw [SL]
    congr 2
    show (((txtN e (p0 ++ p2)).length + cnt 0 (p0 ++ p2) * (3 - (endN e).length) : Nat) : Int) - ((txtN e (p0 ++ p2)).length : Int) = ((cnt 0 (p0 ++ p2) * (3 - (endN e).length) : Nat) : Int)
    rw [Int.natCast_add]
    omega)
  have EL := end_len e he
  have lot2 : (p1 ++ p3).length = 3 := lot
  have cr : ∀ q, cnt q r = cnt q (p0 ++ p2) + cnt q (p1 ++ p3) := fun q => by rw [hr, cnt_app, cnt_app, cnt_app, cnt_app, cnt_app]; omega
  have c0r : cnt 0 r ≤ 6 := hlen ▸ cnt_le 0 r
  have r35 : getL s11 35 = some (.val (.int (Int.ofNat (cnt 2 (p0 ++ p2))))) := by rw [k11 35 (by decide), k10 35 (by decide), k9 35 (by decide), q8]
  have r7 : getL s11 7 = some (.val (.list (mvs r))) := by rw [k11 7 (by decide), k10 7 (by decide), k9 7 (by decide), kk 7 (by decide), C.g7]
  have r22 : getL s11 22 = some (.val (.str (endN e))) := by rw [k11 22 (by decide), k10 22 (by decide), k9 22 (by decide), kk 22 (by decide), C.g22]
  have r23 : getL s11 23 = some (.val (.list sentL)) := by rw [k11 23 (by decide), k10 23 (by decide), k9 23 (by decide), kk 23 (by decide), C.g23]
  have r27 : getL s11 27 = some (.val (.int (Int.ofNat i))) := by rw [k11 27 (by decide), k10 27 (by decide), k9 27 (by decide), kk 27 (by decide), g27]
  have r25 : getL s11 25 = some (.own (td ++ [.tup [.str (sntN (p0 ++ p2)), .int (Int.ofNat (cnt 2 (p0 ++ p2)))]])) := by rw [k11 25 (by decide), k10 25 (by decide), q9]
  have r26 : getL s11 26 = some (.own (td ++ [.tup [.str (sntN (p0 ++ p2)), .int (Int.ofNat (cnt 2 (p0 ++ p2)))]])) := by rw [k11 26 (by decide), q10]
  obtain ⟨f, hf, hfm⟩ := C.g24
  have r24 : getL s11 24 = some (.val (.int f)) := by rw [k11 24 (by decide), k10 24 (by decide), k9 24 (by decide), kk 24 (by decide), hf]
  have r32 : getL s11 32 = some (.val (.list [.str (txtN e p0), .str (txtN e p1), .str (txtN e p2), .str (txtN e p3)])) := by rw [k11 32 (by decide), k10 32 (by decide), k9 32 (by decide), k8 32 (by decide), k7 32 (by decide), k5 32 (by decide), q4]
  have r30 : getL s11 30 = some (.val (.list [.list (mvs p0), .list (mvs p1), .list (mvs p2), .list (mvs p3)])) := by rw [k11 30 (by decide), k10 30 (by decide), k9 30 (by decide), k8 30 (by decide), k7 30 (by decide), k5 30 (by decide), k4 30 (by decide), k3 30 (by decide), q2]
  have ht12 : t12 s11 = some ((2 * Int.ofNat (cnt 2 (p0 ++ p2)) == Int.ofNat (cnt 2 r)) && (2 * Int.ofNat (cnt 0 (p0 ++ p2) * (3 - (endN e).length)) == Int.ofNat (cnt 0 r) * (3 - ((endN e).length : Int)))) := by
    unfold t12
    rw [r35, r7, q11, r22]
    show andB (o1 tb (o2 eqV (some (.int (2 * Int.ofNat (cnt 2 (p0 ++ p2))))) (countV [.list (mvs r), .int (Int.ofNat 2)])))
      (andB (o1 tb (o2 eqV (some (.int (2 * Int.ofNat (cnt 0 (p0 ++ p2) * (3 - (endN e).length))))) (o2 mulV (countV [.list (mvs r), .int (Int.ofNat 0)]) (o2 subV (some (.int 3)) (guardN (endN e).length (.int (endN e).length)))))) (some true)) = _
    rw [countV_mvs, countV_mvs, guardN_ok (by omega)]
    show andB (some (2 * Int.ofNat (cnt 2 (p0 ++ p2)) == Int.ofNat (cnt 2 r)))
      (andB (o1 tb (o2 eqV (some (.int (2 * Int.ofNat (cnt 0 (p0 ++ p2) * (3 - (endN e).length))))) (mulV (.int (Int.ofNat (cnt 0 r))) (.int (3 - ((endN e).length : Int)))))) (some true)) = _
    rw [mulV_ok (by omega)]
    show andB (some (2 * Int.ofNat (cnt 2 (p0 ++ p2)) == Int.ofNat (cnt 2 r))) (andB (some (2 * Int.ofNat (cnt 0 (p0 ++ p2) * (3 - (endN e).length)) == Int.ofNat (cnt 0 r) * (3 - ((endN e).length : Int)))) (some true)) = _
    cases (2 * Int.ofNat (cnt 2 (p0 ++ p2)) == Int.ofNat (cnt 2 r)) <;> cases (2 * Int.ofNat (cnt 0 (p0 ++ p2) * (3 - (endN e).length)) == Int.ofNat (cnt 0 r) * (3 - ((endN e).length : Int))) <;> rfl
  have hcut : cutF (blOf e) σ = seqF (c12 (blOf e)) nx s11 := by
    unfold cutF c1 c2 c3 c4 c5 c6 c7 c8 c9 c10 c11
    rw [e1, e2, e3, e4, e5, e6, e7, e8, e9, e10, e11]
  generalize hb : ((2 * Int.ofNat (cnt 2 (p0 ++ p2)) == Int.ofNat (cnt 2 r)) && (2 * Int.ofNat (cnt 0 (p0 ++ p2) * (3 - (endN e).length)) == Int.ofNat (cnt 0 r) * (3 - ((endN e).length : Int)))) = bb at ht12
  have fk : fairK (p0 ++ p2) r = true → bb = true := fun hk => by
    unfold fairK at hk
    rw [Bool.and_eq_true] at hk
    have h1 := of_decide_eq_true hk.1
    have h2 := of_decide_eq_true hk.2
    rw [← hb, Bool.and_eq_true]
    refine ⟨beq_iff_eq.mpr ?_, beq_iff_eq.mpr ?_⟩
    · show 2 * ((cnt 2 (p0 ++ p2) : Nat) : Int) = ((cnt 2 r : Nat) : Int)
      omega
    · show 2 * ((cnt 0 (p0 ++ p2) * (3 - (endN e).length) : Nat) : Int) = ((cnt 0 r : Nat) : Int) * (3 - ((endN e).length : Int))
      rcases EL with q | q <;> rw [q] <;> omega
  cases bb with
  | false =>
    refine ⟨s11, sntN (p0 ++ p2), Int.ofNat (cnt 2 (p0 ++ p2)), ?_, ⟨r7, r22, r23, ⟨f, r24, ?_⟩, r25, r26⟩, r27⟩
    · rw [hcut]
      have : c12 (blOf e) s11 = some (s11, .next) := by
        unfold c12
        rw [ifF_false ht12]; rfl
      rw [seqF_next this]; rfl
    · rw [if_neg fun q => by cases fk q]
      exact hfm
  | true =>
    rw [Bool.and_eq_true] at hb
    have h1 : 2 * ((cnt 2 (p0 ++ p2) : Nat) : Int) = ((cnt 2 r : Nat) : Int) := beq_iff_eq.mp hb.1
    have h2 : 2 * ((cnt 0 (p0 ++ p2) * (3 - (endN e).length) : Nat) : Int) = ((cnt 0 r : Nat) : Int) * (3 - ((endN e).length : Int)) := beq_iff_eq.mp hb.2
    have h2' : 2 * cnt 0 (p0 ++ p2) = cnt 0 r := by rcases EL with q | q <;> rw [q] at h2 <;> omega
    have w2 : cnt 2 (p1 ++ p3) = cnt 2 (p0 ++ p2) := by have := cr 2; omega
    have w0 : cnt 0 (p1 ++ p3) = cnt 0 (p0 ++ p2) := by have := cr 0; omega
    obtain ⟨a', b', c', hot⟩ := three_of lot
    have ha' : a' < 3 := l3o a' (by rw [hot]; simp)
    have hb' : b' < 3 := l3o b' (by rw [hot]; simp)
    have hc' : c' < 3 := l3o c' (by rw [hot]; simp)
    obtain ⟨s12, e12, q12, k12⟩ := asg_step (x := 24) (f := fun σ => o2 addV (gv (getL σ 24)) (some (.int 1))) (σ := s11) (v := .int (f + 1)) (by rw [r24]; rfl)
    have r32' : getL s12 32 = some (.val (.list [.str (txtN e p0), .str (txtN e p1), .str (txtN e p2), .str (txtN e p3)])) := by rw [k12 32 (by decide), r32]
    have J' := jn_val r32' (by omega)
    obtain ⟨s13, e13, q13, k13⟩ := asg_step (x := 37) (f := fun σ => oL (fun l => frcA l stripφ) (oc (o2 addV (some (.str [34])) (jn σ)) (some []))) (σ := s12) (v := .str (txtN e (p1 ++ p3))) (by
      rw [J']
      show oL (fun l => frcA l stripφ) (oc (guardN (1 + (txtN e p0 ++ 34 :: (txtN e p1 ++ 34 :: (txtN e p2 ++ 34 :: txtN e p3))).length) (.str ([34] ++ (txtN e p0 ++ 34 :: (txtN e p1 ++ 34 :: (txtN e p2 ++ 34 :: txtN e p3)))))) (some [])) = _
      rw [guardN_ok (by simp; omega)]
      show frcA _ stripφ = _
      rw [frcA_eq, txt_app]
      exact strip_other e p0 p1 p2 p3 (by omega) (by omega) (by omega) (by omega))
    have e14 := if_step (t := fun σ => o1 tb (o2 neV (gv (getL σ 37)) (o1 (fun x => frc2 x fun x => textφ [x, .list (blOf e)]) (o2 addV (o2 idxV (gv (getL σ 30)) (some (.int 1))) (o2 idxV (gv (getL σ 30)) (some (.int 3))))))) (F := rF) (σ := s13) (by
      rw [q13, k13 30 (by decide), k12 30 (by decide), r30]
      show o1 tb (o2 neV (some (.str _)) (o1 (fun x => frc2 x fun x => textφ [x, .list (blOf e)]) (guardN ((mvs p1).length + (mvs p3).length) (.list (mvs p1 ++ mvs p3))))) = _
      rw [guardN_ok (by rw [mvs_len, mvs_len]; omega), ← mvs_app]
      show o1 tb (o2 neV (some (.str _)) (frc2 (.list (mvs (p1 ++ p3))) fun x => textφ [x, .list (blOf e)])) = _
      rw [frc2_eq, text_bl e l3o (by omega)]
      exact ne_str)
    have SLo := snt_len e he (p1 ++ p3)
    have TLo := txt_len e (p1 ++ p3)
    have e15 := if_step (t := fun σ => o1 tb (o2 neV (o2 subV (oL lenV (oc (oL (fun l => frcA l quoteφ) (oc (gv (getL σ 37)) (some []))) (some []))) (oL lenV (oc (gv (getL σ 37)) (some [])))) (gv (getL σ 36)))) (F := rF) (σ := s13) (by
      rw [q13, k13 36 (by decide), k12 36 (by decide), q11]
      show o1 tb (o2 neV (o2 subV (oL lenV (oc (frcA [.str (txtN e (p1 ++ p3))] quoteφ) (some []))) (guardN (txtN e (p1 ++ p3)).length (.int (txtN e (p1 ++ p3)).length))) (some (.int (Int.ofNat (cnt 0 (p0 ++ p2) * (3 - (endN e).length)))))) = _
      have qo : quoteφ [.str (txtN e (p1 ++ p3))] = some (.str (sntN (p1 ++ p3))) := by rw [hot]; exact quote_txt he ha' hb' hc'
      rw [frcA_eq, qo, guardN_ok (by omega)]
      show o1 tb (o2 neV (o2 subV (guardN (sntN (p1 ++ p3)).length (.int (sntN (p1 ++ p3)).length)) _) _) = _
      rw [guardN_ok (by rw [SLo]; have := cnt_le 0 (p1 ++ p3); have : cnt 0 (p1 ++ p3) * (3 - (endN e).length) ≤ 3 * 3 := Nat.mul_le_mul (by omega) (by omega); omega)]
      show some ((((sntN (p1 ++ p3)).length : Nat) : Int) - (((txtN e (p1 ++ p3)).length : Nat) : Int) != Int.ofNat (cnt 0 (p0 ++ p2) * (3 - (endN e).length))) = some false
      congr 1
      rw [bne_eq_false_iff_eq, SLo, w0]
      show (((txtN e (p1 ++ p3)).length + cnt 0 (p0 ++ p2) * (3 - (endN e).length) : Nat) : Int) - ((txtN e (p1 ++ p3)).length : Int) = ((cnt 0 (p0 ++ p2) * (3 - (endN e).length) : Nat) : Int)
      rw [Int.natCast_add]
      omega)
    have e16 := if_step (t := fun σ => o1 tb (o2 neV (oL (fun l => frcA l levφ) (oc (o1 (fun x => lowerV [x]) (gv (getL σ 37))) (oc (gv (getL σ 37)) (oc (some (.int 3)) (some []))))) (gv (getL σ 35)))) (F := rF) (σ := s13) (by
      rw [q13, k13 35 (by decide), k12 35 (by decide), r35]
      show o1 tb (o2 neV (oL (fun l => frcA l levφ) (oc (lowerV [.str (txtN e (p1 ++ p3))]) (some [.str (txtN e (p1 ++ p3)), .int 3]))) (some (.int (Int.ofNat (cnt 2 (p0 ++ p2)))))) = _
      rw [lower_txt e _ (by omega)]
      show o1 tb (o2 neV (frcA [.str (lowL (txtN e (p1 ++ p3))), .str (txtN e (p1 ++ p3)), .int 3] levφ) (some (.int (Int.ofNat (cnt 2 (p0 ++ p2)))))) = _
      have lo : levφ [.str (lowL (txtN e (p1 ++ p3))), .str (txtN e (p1 ++ p3)), .int 3] = some (.int (Int.ofNat (cnt 2 (p0 ++ p2)))) := by rw [← w2, ← cntN_eq, hot]; exact lev_txt' he ha' hb' hc'
      rw [frcA_eq, lo]
      show some (Int.ofNat (cnt 2 (p0 ++ p2)) != Int.ofNat (cnt 2 (p0 ++ p2))) = some false
      simp)
    have hc12 : c12 (blOf e) s11 = some (s13, .next) := by
      unfold c12
      rw [ifF_true ht12]
      unfold d1 d2 d3 d4 d5
      rw [e12, e13, e14, e15, e16]
      rfl
    refine ⟨s13, sntN (p0 ++ p2), Int.ofNat (cnt 2 (p0 ++ p2)), ?_, ⟨?_, ?_, ?_, ⟨f + 1, ?_, ?_⟩, ?_, ?_⟩, ?_⟩
    · rw [hcut, seqF_next hc12]; rfl
    · rw [k13 7 (by decide), k12 7 (by decide), r7]
    · rw [k13 22 (by decide), k12 22 (by decide), r22]
    · rw [k13 23 (by decide), k12 23 (by decide), r23]
    · rw [k13 24 (by decide), q12]
    · split <;> omega
    · rw [k13 25 (by decide), k12 25 (by decide), r25]
    · rw [k13 26 (by decide), k12 26 (by decide), r26]
    · rw [k13 27 (by decide), k12 27 (by decide), r27]
end Mine
end

noncomputable section
namespace Mine
open PySem PyProof.Rows PySem.Builtin.Str
def T5 (td : List MV) : Prop := ∀ x ∈ td, ∃ u v, x = .tup [.str u, .int v]
theorem T5.refl : ∀ {td : List MV}, T5 td → eqLs td td = true
  | [], _ => rfl
  | x :: td, h => by
    obtain ⟨u, v, rfl⟩ := h x List.mem_cons_self
    have ih := T5.refl (td := td) fun y hy => h y (List.mem_cons_of_mem _ hy)
    show (match u == u, v == v with | true, true => eqLs td td | _, _ => false) = true
    rw [beq_self_eq_true, beq_self_eq_true]
    exact ih
theorem forF_cons {x : Nat} {F : SF} {v : MV} {r : List MV} {σ σ' : Loc} (h : F (setL σ x (.val v)) = some (σ', .next)) : forF x F (v :: r) σ = forF x F r σ' := by
  rw [forF]
  rw [h]
theorem C5.other {r : List Nat} {e m : Nat} {td : List MV} {σ : Loc} (C : C5 r e m td σ) {x : Nat} (v : Sl) (h : x = 27 ∨ x = 28) : C5 r e m td (setL σ x v) := by
  obtain ⟨f, hf, hm⟩ := C.g24
  constructor
  · rw [getL_setL, if_neg (by omega)]; exact C.g7
  · rw [getL_setL, if_neg (by omega)]; exact C.g22
  · rw [getL_setL, if_neg (by omega)]; exact C.g23
  · exact ⟨f, by rw [getL_setL, if_neg (by omega)]; exact hf, hm⟩
  · rw [getL_setL, if_neg (by omega)]; exact C.g25
  · rw [getL_setL, if_neg (by omega)]; exact C.g26
def pt (b : Bool) : Nat := if b = true then 1 else 0
theorem in_turn {e i j k m : Nat} {p0 p1 p2 p3 r : List Nat} {td : List MV} {σ : Loc} {rest : List MV} (he : e < 3) (hr : r = p0 ++ (p1 ++ (p2 ++ p3))) (h3 : lt3 r) (hlen : r.length = 6) (hi : i = p0.length) (hj : j = p0.length + p1.length) (hk : k = p0.length + p1.length + p2.length) (hk3 : k + i = j + 3)
    (C : C5 r e m td σ) (g27 : getL σ 27 = some (.val (.int (Int.ofNat i)))) (ht : T5 td) (htd : td.length ≤ 100) :
    ∃ σ' td', forF 28 (cutF (blOf e)) (.int (Int.ofNat j) :: rest) σ = forF 28 (cutF (blOf e)) rest σ' ∧ C5 r e (m + pt (fairK (p0 ++ p2) r)) td' σ' ∧ getL σ' 27 = some (.val (.int (Int.ofNat i))) ∧ T5 td' ∧ td'.length = td.length + 1 := by
  obtain ⟨σ', u, v, e1, C', g'⟩ := cut_turn he hr h3 hlen hi hj hk hk3 (C.other (.val (.int (Int.ofNat j))) (.inr rfl)) (by rw [getL_setL, if_neg (by decide)]; exact g27) (by rw [getL_setL, if_pos rfl]) (by omega)
  refine ⟨σ', _, forF_cons e1, C', g', fun x hx => ?_, by simp⟩
  rcases List.mem_append.mp hx with hx | hx
  · exact ht x hx
  · rw [List.mem_singleton.mp hx]; exact ⟨u, v, rfl⟩
theorem forR_eq {x : Nat} {g : Loc → Option (List MV)} {F : SF} {σ : Loc} {l : List MV} {a : Int} {n : Nat} (h : g σ = some l) (hr : rangeA l = some (a, n)) : forR x g F σ = forF x F (rangeL a n) σ := by
  unfold forR
  rw [h]
  dsimp only
  rw [hr]
section
variable {e m a b c d g h : Nat} {td : List MV} {σ : Loc}
theorem inner0 (he : e < 3) (h3 : lt3 [a, b, c, d, g, h]) (C : C5 [a, b, c, d, g, h] e m td σ) (g27 : getL σ 27 = some (.val (.int (Int.ofNat 0)))) (ht : T5 td) (htd : td.length ≤ 50) :
    ∃ σ' td', forR 28 g28 (cutF (blOf e)) σ = some (σ', .next) ∧ C5 [a, b, c, d, g, h] e (m + pt (fairK [a, b, c] [a, b, c, d, g, h]) + pt (fairK [b, c, d] [a, b, c, d, g, h]) + pt (fairK [c, d, g] [a, b, c, d, g, h]) + pt (fairK [d, g, h] [a, b, c, d, g, h])) td' σ' ∧ T5 td' ∧ td'.length = td.length + 4 := by
  obtain ⟨s1, d1, e1, C1, g1, t1, n1⟩ := in_turn (i := 0) (j := 0) (k := 3) (p0 := []) (p1 := []) (p2 := [a, b, c]) (p3 := [d, g, h]) (rest := [.int (Int.ofNat 1), .int (Int.ofNat 2), .int (Int.ofNat 3)]) he rfl h3 rfl rfl rfl rfl rfl C g27 ht (by omega)
  obtain ⟨s2, d2, e2, C2, g2, t2, n2⟩ := in_turn (i := 0) (j := 1) (k := 4) (p0 := []) (p1 := [a]) (p2 := [b, c, d]) (p3 := [g, h]) (rest := [.int (Int.ofNat 2), .int (Int.ofNat 3)]) he rfl h3 rfl rfl rfl rfl rfl C1 g1 t1 (by omega)
  obtain ⟨s3, d3, e3, C3, g3, t3, n3⟩ := in_turn (i := 0) (j := 2) (k := 5) (p0 := []) (p1 := [a, b]) (p2 := [c, d, g]) (p3 := [h]) (rest := [.int (Int.ofNat 3)]) he rfl h3 rfl rfl rfl rfl rfl C2 g2 t2 (by omega)
  obtain ⟨s4, d4, e4, C4, g4, t4, n4⟩ := in_turn (i := 0) (j := 3) (k := 6) (p0 := []) (p1 := [a, b, c]) (p2 := [d, g, h]) (p3 := []) (rest := []) he rfl h3 rfl rfl rfl rfl rfl C3 g3 t3 (by omega)
  refine ⟨s4, d4, ?_, C4, t4, by omega⟩
  rw [forR_eq (l := [.int 0, .int 4]) (a := 0) (n := 4) (by unfold g28; rw [g27]; rfl) rfl]
  show forF 28 (cutF (blOf e)) [.int (Int.ofNat 0), .int (Int.ofNat 1), .int (Int.ofNat 2), .int (Int.ofNat 3)] σ = _
  rw [e1, e2, e3, e4]; rfl
theorem inner1 (he : e < 3) (h3 : lt3 [a, b, c, d, g, h]) (C : C5 [a, b, c, d, g, h] e m td σ) (g27 : getL σ 27 = some (.val (.int (Int.ofNat 1)))) (ht : T5 td) (htd : td.length ≤ 50) :
    ∃ σ' td', forR 28 g28 (cutF (blOf e)) σ = some (σ', .next) ∧ C5 [a, b, c, d, g, h] e (m + pt (fairK [a, c, d] [a, b, c, d, g, h]) + pt (fairK [a, d, g] [a, b, c, d, g, h]) + pt (fairK [a, g, h] [a, b, c, d, g, h])) td' σ' ∧ T5 td' ∧ td'.length = td.length + 3 := by
  obtain ⟨s1, d1, e1, C1, g1, t1, n1⟩ := in_turn (i := 1) (j := 2) (k := 4) (p0 := [a]) (p1 := [b]) (p2 := [c, d]) (p3 := [g, h]) (rest := [.int (Int.ofNat 3), .int (Int.ofNat 4)]) he rfl h3 rfl rfl rfl rfl rfl C g27 ht (by omega)
  obtain ⟨s2, d2, e2, C2, g2, t2, n2⟩ := in_turn (i := 1) (j := 3) (k := 5) (p0 := [a]) (p1 := [b, c]) (p2 := [d, g]) (p3 := [h]) (rest := [.int (Int.ofNat 4)]) he rfl h3 rfl rfl rfl rfl rfl C1 g1 t1 (by omega)
  obtain ⟨s3, d3, e3, C3, g3, t3, n3⟩ := in_turn (i := 1) (j := 4) (k := 6) (p0 := [a]) (p1 := [b, c, d]) (p2 := [g, h]) (p3 := []) (rest := []) he rfl h3 rfl rfl rfl rfl rfl C2 g2 t2 (by omega)
  refine ⟨s3, d3, ?_, C3, t3, by omega⟩
  rw [forR_eq (l := [.int 2, .int 5]) (a := 2) (n := 3) (by unfold g28; rw [g27]; rfl) rfl]
  show forF 28 (cutF (blOf e)) [.int (Int.ofNat 2), .int (Int.ofNat 3), .int (Int.ofNat 4)] σ = _
  rw [e1, e2, e3]; rfl
theorem inner2 (he : e < 3) (h3 : lt3 [a, b, c, d, g, h]) (C : C5 [a, b, c, d, g, h] e m td σ) (g27 : getL σ 27 = some (.val (.int (Int.ofNat 2)))) (ht : T5 td) (htd : td.length ≤ 50) :
    ∃ σ' td', forR 28 g28 (cutF (blOf e)) σ = some (σ', .next) ∧ C5 [a, b, c, d, g, h] e (m + pt (fairK [a, b, d] [a, b, c, d, g, h]) + pt (fairK [a, b, g] [a, b, c, d, g, h]) + pt (fairK [a, b, h] [a, b, c, d, g, h])) td' σ' ∧ T5 td' ∧ td'.length = td.length + 3 := by
  obtain ⟨s1, d1, e1, C1, g1, t1, n1⟩ := in_turn (i := 2) (j := 3) (k := 4) (p0 := [a, b]) (p1 := [c]) (p2 := [d]) (p3 := [g, h]) (rest := [.int (Int.ofNat 4), .int (Int.ofNat 5)]) he rfl h3 rfl rfl rfl rfl rfl C g27 ht (by omega)
  obtain ⟨s2, d2, e2, C2, g2, t2, n2⟩ := in_turn (i := 2) (j := 4) (k := 5) (p0 := [a, b]) (p1 := [c, d]) (p2 := [g]) (p3 := [h]) (rest := [.int (Int.ofNat 5)]) he rfl h3 rfl rfl rfl rfl rfl C1 g1 t1 (by omega)
  obtain ⟨s3, d3, e3, C3, g3, t3, n3⟩ := in_turn (i := 2) (j := 5) (k := 6) (p0 := [a, b]) (p1 := [c, d, g]) (p2 := [h]) (p3 := []) (rest := []) he rfl h3 rfl rfl rfl rfl rfl C2 g2 t2 (by omega)
  refine ⟨s3, d3, ?_, C3, t3, by omega⟩
  rw [forR_eq (l := [.int 3, .int 6]) (a := 3) (n := 3) (by unfold g28; rw [g27]; rfl) rfl]
  show forF 28 (cutF (blOf e)) [.int (Int.ofNat 3), .int (Int.ofNat 4), .int (Int.ofNat 5)] σ = _
  rw [e1, e2, e3]; rfl
end
/-- one of the ten shares is fair -/
def anyFair (r : List Nat) : Bool := match r with
  | [a, b, c, d, g, h] => fairK [a, b, c] r || fairK [b, c, d] r || fairK [c, d, g] r || fairK [d, g, h] r || fairK [a, c, d] r || fairK [a, d, g] r || fairK [a, g, h] r || fairK [a, b, d] r || fairK [a, b, g] r || fairK [a, b, h] r
  | _ => false
theorem out_turn {F : SF} {σ σ' : Loc} {v : MV} {rest : List MV} (h : forR 28 g28 F (setL σ 27 (.val v)) = some (σ', .next)) : forF 27 (seqF (forR 28 g28 F) nx) (v :: rest) σ = forF 27 (seqF (forR 28 g28 F) nx) rest σ' := forF_cons (by rw [seqF_next h]; rfl)
theorem cut_all {e : Nat} {r : List Nat} (he : e < 3) (h3 : lt3 r) (hf : anyFair r = true) : ∃ σ', (cutP (blOf e)).1 [(7, .val (.list (mvs r))), (22, .val (.str (endN e)))] = some (σ', .ret (.bool true)) := by
  unfold anyFair at hf
  split at hf
  · rename_i a b c d g h
    rw [cut_shape]
    rw [seqF_next (asgF_eq (v := .list sentL) rfl), seqF_next (asgF_eq (v := .int 0) rfl)]
    generalize hσ : setL (setL [(7, Sl.val (.list (mvs [a, b, c, d, g, h]))), (22, .val (.str (endN e)))] 23 (.val (.list sentL))) 24 (.val (.int 0)) = σ
    rw [seqF_next (σ' := setL σ 25 (.own [])) rfl, seqF_next (σ' := setL (setL σ 25 (.own [])) 26 (.own [])) rfl]
    have C0 : C5 [a, b, c, d, g, h] e 0 [] (setL (setL σ 25 (.own [])) 26 (.own [])) := by
      subst hσ
      exact ⟨rfl, rfl, rfl, ⟨0, rfl, by omega⟩, rfl, rfl⟩
    generalize setL (setL σ 25 (.own [])) 26 (.own []) = σ0 at *
    have g27 : ∀ (s : Loc) (i : Nat), getL (setL s 27 (.val (.int (Int.ofNat i)))) 27 = some (.val (.int (Int.ofNat i))) := fun s i => by rw [getL_setL, if_pos rfl]
    obtain ⟨σ1, t1, e1, C1, q1, n1⟩ := inner0 he h3 (C0.other (.val (.int (Int.ofNat 0))) (.inl rfl)) (g27 _ _) (fun x hx => nomatch hx) (Nat.zero_le _)
    have n1 : t1.length = 4 := n1
    obtain ⟨σ2, t2, e2, C2, q2, n2⟩ := inner1 he h3 (C1.other (.val (.int (Int.ofNat 1))) (.inl rfl)) (g27 _ _) q1 (by omega)
    obtain ⟨σ3, t3, e3, C3, q3, n3⟩ := inner2 he h3 (C2.other (.val (.int (Int.ofNat 2))) (.inl rfl)) (g27 _ _) q2 (by omega)
    have hloop : forR 27 (fun _ => some [.int 3]) (seqF (forR 28 g28 (cutF (blOf e))) nx) σ0 = some (σ3, .next) := by
      rw [forR_eq (l := [.int 3]) (a := 0) (n := 3) rfl rfl]
      show forF 27 (seqF (forR 28 g28 (cutF (blOf e))) nx) [.int (Int.ofNat 0), .int (Int.ofNat 1), .int (Int.ofNat 2)] σ0 = _
      rw [out_turn e1, out_turn e2, out_turn e3]; rfl
    rw [seqF_next hloop]
    obtain ⟨f, hf24, hfm⟩ := C3.g24
    have hpos : 0 < f := by
      simp only [Bool.or_eq_true] at hf
      have key : ∀ x : Bool, x = true → pt x = 1 := fun x hx => by unfold pt; rw [if_pos hx]
      rcases hf with ((((((((q | q) | q) | q) | q) | q) | q) | q) | q) | q <;> rw [key _ q] at hfm <;> omega
    have hfin : finV (setL (setL σ3 25 (.val (.list t3))) 26 (.val (.list t3))) = some (.bool true) := by
      unfold finV
      rw [getL_setL, if_neg (by decide), getL_setL, if_neg (by decide), hf24, getL_setL, if_neg (by decide), getL_setL, if_pos rfl, getL_setL, if_pos rfl]
      show andV (some (.bool (decide (0 < f)))) (match eqLs t3 t3 with | true => some (.bool true) | false => .none) = _
      rw [decide_eq_true hpos, q3.refl]
      rfl
    refine ⟨setL (setL σ3 25 (.val (.list t3))) 26 (.val (.list t3)), ?_⟩
    unfold frzF
    rw [C3.g25]
    dsimp only
    rw [show getL (setL σ3 25 (.val (.list t3))) 26 = some (.own t3) by rw [getL_setL, if_neg (by decide)]; exact C3.g26]
    dsimp only
    unfold seqF retF
    rw [hfin]
    rfl
  · cases hf
end Mine
end

noncomputable section
namespace Mine
open PySem PyProof.Rows PySem.Builtin.Str
def upTo (p : Nat → Bool) : Nat → Bool
  | 0 => true
  | n + 1 => match p n with
    | true => upTo p n
    | false => false
theorem upTo_at {p : Nat → Bool} : ∀ {n : Nat}, upTo p n = true → ∀ k < n, p k = true
  | 0, _, k, hk => by omega
  | n + 1, h, k, hk => by
    have h : (match p n with | true => upTo p n | false => false) = true := h
    cases hb : p n with
    | false => rw [hb] at h; cases h
    | true =>
      rw [hb] at h
      by_cases q : k = n
      · rw [q]; exact hb
      · exact upTo_at h k (by omega)
def evn (r : List Nat) : Bool := Nat.beq (cnt 0 r % 2) 0 && Nat.beq (cnt 1 r % 2) 0 && Nat.beq (cnt 2 r % 2) 0
def okE (r : List Nat) : Bool := match evn r with
  | true => anyFair r
  | false => true
set_option maxRecDepth 100000 in
theorem all_ok : upTo (fun a => upTo (fun b => upTo (fun c => upTo (fun d => upTo (fun g => upTo (fun h => okE [a, b, c, d, g, h]) 3) 3) 3) 3) 3) 3 = true := by decide +kernel
/-- two thieves, six beads of three kinds: a fair share is among the ten -/
theorem necklace {r : List Nat} (h3 : lt3 r) (hl : r.length = 6) (he : evn r = true) : anyFair r = true := by
  match r, hl with
  | [a, b, c, d, g, h], _ =>
    have ha : a < 3 := h3 a (by simp)
    have hb : b < 3 := h3 b (by simp)
    have hc : c < 3 := h3 c (by simp)
    have hd : d < 3 := h3 d (by simp)
    have hg : g < 3 := h3 g (by simp)
    have hh : h < 3 := h3 h (by simp)
    have key : okE [a, b, c, d, g, h] = true := upTo_at (upTo_at (upTo_at (upTo_at (upTo_at (upTo_at all_ok a ha) b hb) c hc) d hd) g hg) h hh
    unfold okE at key
    rw [he] at key
    exact key
theorem cnt_ins (k p m : Nat) (l : List Nat) : cnt k (insN p m l) = cnt k [m] + cnt k l := by
  unfold insN
  have e : l = l.take p ++ l.drop p := (List.take_append_drop p l).symm
  rw [cnt_app]
  have h2 : cnt k l = cnt k (l.take p) + cnt k (l.drop p) := by
    rw [← cnt_app, ← e]
  rw [h2]
  show cnt k (l.take p) + ((if m = k then 1 else 0) + cnt k (l.drop p)) = ((if m = k then 1 else 0) + 0) + (cnt k (l.take p) + cnt k (l.drop p))
  omega
theorem lt3_ins {p m : Nat} {l : List Nat} (hm : m < 3) (h : lt3 l) : lt3 (insN p m l) := by
  intro x hx
  unfold insN at hx
  rcases List.mem_append.mp hx with q | q
  · exact h x (List.mem_of_mem_take q)
  · rcases List.mem_cons.mp q with rfl | q
    · exact hm
    · exact h x (List.mem_of_mem_drop q)
theorem len_ins (p m : Nat) (l : List Nat) : (insN p m l).length = l.length + 1 := by
  unfold insN
  simp only [List.length_append, List.length_take, List.length_cons, List.length_drop]
  omega
theorem row_lt3 (a b c : Nat) : lt3 (rowN a b c) := by
  unfold rowN
  refine lt3_ins (by omega) (lt3_ins (by omega) (lt3_ins (by omega) fun x hx => ?_))
  simp only [List.mem_cons, List.not_mem_nil, or_false] at hx
  rcases hx with rfl | rfl | rfl <;> omega
theorem row_len (a b c : Nat) : (rowN a b c).length = 6 := by
  unfold rowN
  rw [len_ins, len_ins, len_ins]
  rfl
theorem row_evn (a b c : Nat) : evn (rowN a b c) = true := by
  have key : ∀ k, cnt k (rowN a b c) % 2 = 0 := fun k => by
    unfold rowN
    rw [cnt_ins, cnt_ins, cnt_ins]
    show (cnt k [c % 3] + (cnt k [b % 3] + (cnt k [a % 3] + ((if a % 3 = k then 1 else 0) + ((if b % 3 = k then 1 else 0) + ((if c % 3 = k then 1 else 0) + 0)))))) % 2 = 0
    show (((if c % 3 = k then 1 else 0) + 0) + (((if b % 3 = k then 1 else 0) + 0) + (((if a % 3 = k then 1 else 0) + 0) + ((if a % 3 = k then 1 else 0) + ((if b % 3 = k then 1 else 0) + ((if c % 3 = k then 1 else 0) + 0)))))) % 2 = 0
    omega
  unfold evn
  rw [key, key, key]
  rfl
theorem chk : ∀ a b c e, a < 12 → b < 15 → c < 18 → e < 3 → lawC e (rowN a b c) = true := by
  intro a b c e _ _ _ he
  obtain ⟨σ', h⟩ := cut_all he (row_lt3 a b c) (necklace (row_lt3 a b c) (row_len a b c) (row_evn a b c))
  unfold lawC
  rw [h]
  rfl
end Mine
end

open PySem PySem.W PySem.W.X PySem.W.ZRun PyProof.Rows
set_option maxRecDepth 100000 in
set_option maxHeartbeats 0 in
theorem PySem.Challenge.cw_re0045_01_holds : PySem.Challenge.rw_re0045_01.Holds := by
  w_on; o_law; z_head; (case hw => w_witness2)
  k_fill
  intro w s₀ s₁ mg mb G y fa o pm cd doc dV kV ho hd hcd hD hmg hg args vals as L hpre hlay hrd hwl hlo
  z_open y L KX ZH ZN ZT
  refine Ground.open G ?_
  intro T B D TE TW
  wrow_args hpre hlay hrd hwl hlo
  obtain ⟨hat, hsz⟩ := script_at L
  have htk := script_toks L ZT
  rw [ZN] at hat hsz
  subst hat
  clear ZH y hd hcd hD B D TE TW G
  exact Mine.finish Mine.chk T KX hg hmg (script_obj L (by assumption)) (by assumption) (by omega)
    (List.mem_of_getElem? (i := 0) (by kernel_rfl)) (List.mem_of_getElem? (i := 1) (by kernel_rfl)) (List.mem_of_getElem? (i := 2) (by kernel_rfl)) (List.mem_of_getElem? (i := 3) (by kernel_rfl)) (List.mem_of_getElem? (i := 4) (by kernel_rfl)) (List.mem_of_getElem? (i := 5) (by kernel_rfl)) (List.mem_of_getElem? (i := 6) (by kernel_rfl)) (List.mem_of_getElem? (i := 7) (by kernel_rfl))
    (by kernel_rfl) (by kernel_rfl) (fun _ => rfl) (by kernel_rfl)
#print axioms PySem.Challenge.cw_re0045_01_holds
