import PyProof.Rows.All
import Wide.All
import OpenK.AllK
import Wide.FinOn
import PySem.Challenge.RW_qu0067_01
set_option Elab.async false
section
open PySem PySem.W PyProof.Rows
set_option Elab.async false
set_option linter.unusedVariables false
namespace Mine

/-- the program -/
abbrev Pg : Program := PySem.Challenge.pw_qu0067_01

/-- abstract values: ints and strs without their tokens, lists by value -/
inductive AV where
  | none
  | bool (b : Bool)
  | int (i : Int)
  | str (s : Str)
  | list (l : List AV)
  | raw (v : Value)

mutual
/-- v stands for the abstract value in h; no list of it lies at an address of hid -/
def Val (hid : Addr → Prop) (h : Heap) : AV → Value → Prop
  | .none, v => v = .none
  | .bool b, v => v = .bool b
  | .int i, v => ∃ t, v = .int i t
  | .str s, v => ∃ t, v = .str s t
  | .list l, v => ∃ a items, v = .ref a ∧ ¬ hid a ∧ h.PlainList a items ∧ Vals hid h l items.toList
  | .raw u, v => v = u
def Vals (hid : Addr → Prop) (h : Heap) : List AV → List Value → Prop
  | [], vs => vs = []
  | x :: xs, vs => ∃ v r, vs = v :: r ∧ Val hid h x v ∧ Vals hid h xs r
end

mutual
theorem Val.imp {hid hid' : Addr → Prop} {h h' : Heap} (hh : ∀ a items, h.PlainList a items → hid' a → hid a) (hk : ∀ a items, ¬ hid a → h.PlainList a items → h'.PlainList a items) :
    ∀ {av : AV} {v : Value}, Val hid h av v → Val hid' h' av v
  | .none, _, x => by simp only [Val] at x ⊢; exact x
  | .bool _, _, x => by simp only [Val] at x ⊢; exact x
  | .int _, _, x => by simp only [Val] at x ⊢; exact x
  | .str _, _, x => by simp only [Val] at x ⊢; exact x
  | .raw _, _, x => by simp only [Val] at x ⊢; exact x
  | .list l, v, x => by
    simp only [Val] at x ⊢
    obtain ⟨a, items, e, hn, hp, hv⟩ := x
    exact ⟨a, items, e, fun q => hn (hh a items hp q), hk a items hn hp, Vals.imp hh hk hv⟩
theorem Vals.imp {hid hid' : Addr → Prop} {h h' : Heap} (hh : ∀ a items, h.PlainList a items → hid' a → hid a) (hk : ∀ a items, ¬ hid a → h.PlainList a items → h'.PlainList a items) :
    ∀ {l : List AV} {vs : List Value}, Vals hid h l vs → Vals hid' h' l vs
  | [], _, x => by simp only [Vals] at x ⊢; exact x
  | y :: ys, vs, x => by
    simp only [Vals] at x ⊢
    obtain ⟨v, r, e, h1, h2⟩ := x
    exact ⟨v, r, e, Val.imp hh hk h1, Vals.imp hh hk h2⟩
end
/-- lists stay where what is written is no list -/
theorem plain_but {h h' : Heap} {wr : Addr → Prop} (hk : ∀ b o, ¬ wr b → h.get? b = some o → h'.get? b = some o) (hw : ∀ b, wr b → ∀ o, h.get? b = some o → ∀ its n, o.data ≠ .seq its n) {a : Addr} {items : Array Value}
    (x : h.PlainList a items) : h'.PlainList a items := by
  obtain ⟨n, e⟩ := x
  exact ⟨n, hk a _ (fun q => hw a q _ e items n rfl) e⟩

theorem Val.keep {hid : Addr → Prop} {h h' : Heap} (hk : ∀ a o, h.get? a = some o → h'.get? a = some o) {av : AV} {v : Value} (x : Val hid h av v) : Val hid h' av v :=
  x.imp (fun _ _ _ q => q) fun a _ _ e => e.at fun o e => hk a o e
theorem Vals.keep {hid : Addr → Prop} {h h' : Heap} (hk : ∀ a o, h.get? a = some o → h'.get? a = some o) {l : List AV} {vs : List Value} (x : Vals hid h l vs) : Vals hid h' l vs :=
  x.imp (fun _ _ _ q => q) fun a _ _ e => e.at fun o e => hk a o e
theorem Val.weak {hid hid' : Addr → Prop} {h : Heap} (hh : ∀ a, hid' a → hid a) {av : AV} {v : Value} (x : Val hid h av v) : Val hid' h av v :=
  x.imp (fun a _ _ q => hh a q) fun _ _ _ e => e
theorem Vals.weak {hid hid' : Addr → Prop} {h : Heap} (hh : ∀ a, hid' a → hid a) {l : List AV} {vs : List Value} (x : Vals hid h l vs) : Vals hid' h l vs :=
  x.imp (fun a _ _ q => hh a q) fun _ _ _ e => e
theorem Vals.length {hid : Addr → Prop} {h : Heap} : ∀ {l : List AV} {vs : List Value}, Vals hid h l vs → vs.length = l.length
  | [], _, x => by simp only [Vals] at x; subst x; rfl
  | _ :: ys, _, x => by
    simp only [Vals] at x
    obtain ⟨v, r, rfl, _, h2⟩ := x
    simp [Vals.length h2]
theorem Vals.get {hid : Addr → Prop} {h : Heap} : ∀ {l : List AV} {vs : List Value}, Vals hid h l vs → ∀ {k : Nat} {y : AV}, l[k]? = some y → ∃ v, vs[k]? = some v ∧ Val hid h y v
  | [], _, _, k, y, e => by simp at e
  | x :: xs, _, X, k, y, e => by
    simp only [Vals] at X
    obtain ⟨v, r, rfl, h1, h2⟩ := X
    cases k with
    | zero => simp at e; subst e; exact ⟨v, rfl, h1⟩
    | succ k => simp at e ⊢; exact Vals.get h2 e
theorem Vals.append {hid : Addr → Prop} {h : Heap} : ∀ {l l' : List AV} {vs vs' : List Value}, Vals hid h l vs → Vals hid h l' vs' → Vals hid h (l ++ l') (vs ++ vs')
  | [], _, _, _, x, y => by simp only [Vals] at x; subst x; exact y
  | z :: zs, _, _, _, x, y => by
    simp only [Vals] at x
    obtain ⟨v, r, rfl, h1, h2⟩ := x
    simp only [List.cons_append, Vals]
    exact ⟨v, _, rfl, h1, Vals.append h2 y⟩
theorem Vals.nil {hid : Addr → Prop} {h : Heap} : Vals hid h [] [] := by simp only [Vals]
theorem Vals.cons {hid : Addr → Prop} {h : Heap} {x : AV} {v : Value} {l : List AV} {vs : List Value} (a : Val hid h x v) (b : Vals hid h l vs) : Vals hid h (x :: l) (v :: vs) := by
  simp only [Vals]; exact ⟨v, vs, rfl, a, b⟩

/-- the ground: the world, the heap behind the top, its two name spaces -/
structure G where
  w : World
  h₀ : Heap
  mg : Str → Option Value
  mb : Str → Option Value
def G.On (g : G) (h : Heap) : Prop := ∀ b o, g.h₀.get? b = some o → h.get? b = some o
theorem G.On.keep {g : G} {h h' : Heap} (x : g.On h) (hk : ∀ a o, h.get? a = some o → h'.get? a = some o) : g.On h' := fun b o e => hk b o (x b o e)
structure G.Ok (g : G) : Prop where
  gl : g.h₀.Ns mainGlobals g.mg
  bl : g.h₀.Ns builtinsNs g.mb
  nl : g.h₀.NoLimit

/-- where an expression stands: its block, its surroundings, the lists that the block owns, what must stay, the values of its names -/
structure Fc where
  env : Env
  A : Around
  own : Addr → Option (List AV)
  pins : List (Addr × Obj)
  ext : List (Value × AV)
  asg : Str → Bool
  ρ : List (Str × AV)
def Fc.hid (c : Fc) (a : Addr) : Prop := (c.own a).isSome = true
def Fc.set (c : Fc) (x : Str) (av : AV) : Fc := { c with ρ := (x, av) :: c.ρ }
def Pinnable (o : Obj) : Prop := (∀ es n, o.data ≠ .dict es n) ∧ ∀ v, o.data ≠ .cell v
structure Vis (c : Fc) (h : Heap) : Prop where
  loc : ∃ m, h.Ns c.env.locals m ∧ ∀ x av, c.env.kindOf x = some .local → c.ρ.lookup x = some av → ∃ v, m x = some v ∧ Val c.hid h av v
  cel : ∀ x av, (c.env.kindOf x = some .cell ∨ c.env.kindOf x = some .free) → c.ρ.lookup x = some av → ∃ a v, c.env.cells.lookup x = some a ∧ h.IsCell a (some v) ∧ Val c.hid h av v
  own : ∀ a l, c.own a = some l → ∃ items, h.PlainList a items ∧ Vals c.hid h l items.toList
  pin : ∀ p ∈ c.pins, h.get? p.1 = some p.2 ∧ ¬ c.hid p.1 ∧ Pinnable p.2
  ext : ∀ p ∈ c.ext, Val c.hid h p.2 p.1
  cex : ∀ x a, c.env.cells.lookup x = some a → ∃ v, h.IsCell a v
theorem Vis.keep {c : Fc} {h h' : Heap} (x : Vis c h) (hk : ∀ a o, h.get? a = some o → h'.get? a = some o) : Vis c h' := by
  refine ⟨?_, fun y av hy hr => ?_, fun a l e => ?_, fun p hp => ⟨hk _ _ (x.pin p hp).1, (x.pin p hp).2⟩, fun p hp => (x.ext p hp).keep hk, fun y a e => (x.cex y a e).imp fun v q => q.keeps hk⟩
  · obtain ⟨m, hn, hm⟩ := x.loc
    refine ⟨m, hn.keeps hk, fun y av hy hr => ?_⟩
    obtain ⟨v, e, hv⟩ := hm y av hy hr
    exact ⟨v, e, hv.keep hk⟩
  · obtain ⟨a, v, e, hc, hv⟩ := x.cel y av hy hr
    exact ⟨a, v, e, hc.keeps hk, hv.keep hk⟩
  · obtain ⟨items, hp, hv⟩ := x.own a l e
    exact ⟨items, hp.at fun o e => hk a o e, hv.keep hk⟩
/-- what is written: things made of fields alone (iterators), none of them pinned -/
theorem Vis.but {c : Fc} {h h' : Heap} {wr : Addr → Prop} (x : Vis c h) (hk : ∀ b o, ¬ wr b → h.get? b = some o → h'.get? b = some o) (hw : ∀ b, wr b → ∀ o, h.get? b = some o → ∃ vs, o.data = .fields vs)
    (hp : ∀ p ∈ c.pins, ¬ wr p.1) : Vis c h' := by
  have pl : ∀ {a : Addr} {items : Array Value}, h.PlainList a items → h'.PlainList a items := fun q => plain_but hk (fun b hb o e its n => by
    obtain ⟨vs, q⟩ := hw b hb o e
    rw [q]; exact fun z => by cases z) q
  have vl : ∀ {av : AV} {v : Value}, Val c.hid h av v → Val c.hid h' av v := fun q => q.imp (fun _ _ _ z => z) fun _ _ _ z => pl z
  refine ⟨?_, fun y av hy hr => ?_, fun a l e => ?_, fun p hq => ⟨hk _ _ (hp p hq) (x.pin p hq).1, (x.pin p hq).2⟩, fun p hq => vl (x.ext p hq), fun y a e => ?_⟩
  · obtain ⟨m, ⟨o, es, ep, ho, hd, hr⟩, hm⟩ := x.loc
    refine ⟨m, ⟨o, es, ep, hk _ _ (fun q => ?_) ho, hd, hr⟩, fun y av hy hr => ?_⟩
    · obtain ⟨vs, z⟩ := hw _ q o ho
      rw [hd] at z; cases z
    · obtain ⟨v, e, hv⟩ := hm y av hy hr
      exact ⟨v, e, vl hv⟩
  · obtain ⟨a, v, e, ⟨o, ho, hd⟩, hv⟩ := x.cel y av hy hr
    refine ⟨a, v, e, ⟨o, hk _ _ (fun q => ?_) ho, hd⟩, vl hv⟩
    obtain ⟨vs, z⟩ := hw _ q o ho
    rw [hd] at z; cases z
  · obtain ⟨items, hp, hv⟩ := x.own a l e
    exact ⟨items, pl hp, hv.imp (fun _ _ _ z => z) fun _ _ _ z => pl z⟩
  · obtain ⟨v, o, ho, hd⟩ := x.cex y a e
    refine ⟨v, o, hk _ _ (fun q => ?_) ho, hd⟩
    obtain ⟨vs, z⟩ := hw _ q o ho
    rw [hd] at z; cases z
theorem Vis.alive {c : Fc} {h : Heap} (x : Vis c h) {a : Addr} (ha : c.hid a) : ∃ o, h.get? a = some o := by
  unfold Fc.hid at ha
  obtain ⟨l, e⟩ := Option.isSome_iff_exists.mp ha
  obtain ⟨items, ⟨n, hp⟩, _⟩ := x.own a l e
  exact ⟨_, hp⟩
theorem Vis.fresh {c : Fc} {h : Heap} (x : Vis c h) {a : Addr} (ha : h.get? a = none) : ¬ c.hid a := fun q => by
  obtain ⟨o, e⟩ := x.alive q
  rw [ha] at e; cases e

structure Ready (g : G) (c : Fc) (s : Shared) : Prop where
  on : g.On s.heap
  vis : Vis c s.heap
/-- from s to s' nothing but new things -/
structure Kp (s s' : Shared) : Prop where
  k : Keeps s s'
theorem Kp.refl (s : Shared) : Kp s s := ⟨s.heap, s.toks, rfl, fun _ _ e => e⟩
theorem Kp.trans {s s' s'' : Shared} (x : Kp s s') (y : Kp s' s'') : Kp s s'' := by
  obtain ⟨h, t, rfl, k⟩ := x
  obtain ⟨h', t', rfl, k'⟩ := y
  exact ⟨h', t', rfl, fun b o e => k' b o (k b o e)⟩
theorem Kp.tok {s s' : Shared} (x : Kp s s') (t : Nat) : Kp s { s' with toks := t } := by
  obtain ⟨h, t', rfl, k⟩ := x
  exact ⟨h, t, rfl, k⟩
theorem Kp.heap {s s' : Shared} (x : Kp s s') : ∀ b o, s.heap.get? b = some o → s'.heap.get? b = some o := by
  obtain ⟨h, t, rfl, k⟩ := x
  exact k
theorem Kp.ext {s s' : Shared} (x : Kp s s') {h : Heap} {t : Nat} (hk : ∀ b o, s'.heap.get? b = some o → h.get? b = some o) : Kp s { s' with heap := h, toks := t } := by
  obtain ⟨h', t', rfl, k⟩ := x
  exact ⟨h, t, rfl, fun b o e => hk b o (k b o e)⟩
theorem Kp.push {s s' : Shared} (x : Kp s s') (o : Obj) : Kp s { s' with heap := s'.heap.push o } := by
  obtain ⟨h', t', rfl, k⟩ := x
  exact ⟨_, t', rfl, fun b o e => Heap.get?_push_of_some _ (k b o e)⟩
theorem Ready.keep {g : G} {c : Fc} {s s' : Shared} (x : Ready g c s) (k : Kp s s') : Ready g c s' := ⟨x.on.keep k.heap, x.vis.keep k.heap⟩

section
variable {hid : Addr → Prop} {h : Heap}
theorem vint {i : Int} {t : Tok} : Val hid h (.int i) (.int i t) := by simp only [Val]; exact ⟨_, rfl⟩
theorem vstr {x : Str} {t : Tok} : Val hid h (.str x) (.str x t) := by simp only [Val]; exact ⟨_, rfl⟩
theorem vbool {b : Bool} : Val hid h (.bool b) (.bool b) := by simp only [Val]
theorem vnone : Val hid h .none .none := by simp only [Val]
theorem vraw {v : Value} : Val hid h (.raw v) v := by simp only [Val]
theorem vlist {l : List AV} {a : Addr} {items : Array Value} (hn : ¬ hid a) (hp : h.PlainList a items) (hv : Vals hid h l items.toList) : Val hid h (.list l) (.ref a) := by
  simp only [Val]; exact ⟨a, items, rfl, hn, hp, hv⟩
theorem Val.int' {i : Int} {v : Value} (x : Val hid h (.int i) v) : ∃ t, v = .int i t := by simpa only [Val] using x
theorem Val.str' {i : Str} {v : Value} (x : Val hid h (.str i) v) : ∃ t, v = .str i t := by simpa only [Val] using x
theorem Val.bool' {i : Bool} {v : Value} (x : Val hid h (.bool i) v) : v = .bool i := by simpa only [Val] using x
theorem Val.none' {v : Value} (x : Val hid h .none v) : v = .none := by simpa only [Val] using x
theorem Val.raw' {u v : Value} (x : Val hid h (.raw u) v) : v = u := by simpa only [Val] using x
theorem Val.list' {l : List AV} {v : Value} (x : Val hid h (.list l) v) : ∃ a items, v = .ref a ∧ ¬ hid a ∧ h.PlainList a items ∧ Vals hid h l items.toList := by simpa only [Val] using x
theorem Vals.nil' {vs : List Value} (x : Vals hid h [] vs) : vs = [] := by simpa only [Vals] using x
theorem Vals.cons' {y : AV} {l : List AV} {vs : List Value} (x : Vals hid h (y :: l) vs) : ∃ v r, vs = v :: r ∧ Val hid h y v ∧ Vals hid h l r := by simpa only [Vals] using x
end

/-- the expression's value, wherever the block stands -/
structure Ev (g : G) (c : Fc) (e : Expr) (av : AV) : Prop where
  run : ∀ (s : Shared) (E : Value → Shared → Prop), Ready g c s → wpAny (model Pg g.w) c.A (eval e c.env) (fun v s' => Kp s s' ∧ Val c.hid s'.heap av v) E s
/-- the expression as a test -/
structure Ts (g : G) (c : Fc) (e : Expr) (b : Bool) : Prop where
  run : ∀ (s : Shared) (E : Value → Shared → Prop), Ready g c s → wpAny (model Pg g.w) c.A (isTrue e c.env (eval e c.env)) (fun r s' => Kp s s' ∧ r = b) E s

section
variable {g : G} {c : Fc}

/-- two values, then an operation upon them -/
theorem two {e₁ e₂ : Expr} {a₁ a₂ : AV} {α : Type} {P : α → Shared → Prop} {op : Value → Value → Sem α} {s : Shared} {E : Value → Shared → Prop} (h₁ : Ev g c e₁ a₁) (h₂ : Ev g c e₂ a₂) (R : Ready g c s)
    (h : ∀ v₁ v₂ s₂, Kp s s₂ → Ready g c s₂ → Val c.hid s₂.heap a₁ v₁ → Val c.hid s₂.heap a₂ v₂ → wpAny (model Pg g.w) c.A (op v₁ v₂) P E s₂) :
    wpAny (model Pg g.w) c.A (eval e₁ c.env) (fun a s₁ => wpAny (model Pg g.w) c.A (eval e₂ c.env) (fun b s₂ => wpAny (model Pg g.w) c.A (op a b) P E s₂) E s₁) E s :=
  wpAny_mono (h₁.run s E R) (fun v₁ s₁ ⟨k₁, x₁⟩ => wpAny_mono (h₂.run s₁ E (R.keep k₁)) (fun v₂ s₂ ⟨k₂, x₂⟩ => h v₁ v₂ s₂ (k₁.trans k₂) (R.keep (k₁.trans k₂)) (x₁.keep k₂.heap) x₂) fun _ _ x => x) fun _ _ x => x

theorem ev_int {i : Int} {k : Nat} {pos : Pos} : Ev g c (.Constant (.int i) k pos) (.int i) := .mk fun s E R => wpAny_Constant_int ⟨(Kp.refl s).tok _, vint⟩
theorem ev_str {x : Str} {k : Nat} {pos : Pos} : Ev g c (.Constant (.str x) k pos) (.str x) := .mk fun s E R => wpAny_Constant_str ⟨(Kp.refl s).tok _, vstr⟩
theorem ev_none {k : Nat} {pos : Pos} : Ev g c (.Constant .none k pos) .none := .mk fun s E R => wpAny_Constant_none ⟨Kp.refl s, vnone⟩
theorem ev_bool {b : Bool} {k : Nat} {pos : Pos} : Ev g c (.Constant (.bool b) k pos) (.bool b) := .mk fun s E R => wpAny_Constant_bool ⟨Kp.refl s, vbool⟩

theorem ev_local {x : Str} {pos : Pos} {av : AV} (hr : c.ρ.lookup x = some av) (hl : c.env.kindOf x = some .local := by rfl) (hk : c.env.scope.kind = .function := by rfl)
    (hd : (x == ("__debug__" : Str)) = false := by rfl) : Ev g c (.Name x pos) av := .mk fun s E R => by
  obtain ⟨m, hn, hm⟩ := R.vis.loc
  obtain ⟨v, e, hv⟩ := hm x av hl hr
  exact wpAny_Name (wpAny_loadName_local hk hl hn e ⟨Kp.refl s, hv⟩) hd
theorem ev_cell {x : Str} {pos : Pos} {av : AV} (hr : c.ρ.lookup x = some av) (hl : c.env.kindOf x = some .cell := by rfl) (hk : c.env.scope.kind = .function := by rfl)
    (hd : (x == ("__debug__" : Str)) = false := by rfl) : Ev g c (.Name x pos) av := .mk fun s E R => by
  obtain ⟨a, v, e, hc, hv⟩ := R.vis.cel x av (.inl hl) hr
  exact wpAny_Name (wpAny_loadName_cell hk hl e hc ⟨Kp.refl s, hv⟩) hd
theorem ev_free {x : Str} {pos : Pos} {av : AV} (hr : c.ρ.lookup x = some av) (hl : c.env.kindOf x = some .free := by rfl) (hk : c.env.scope.kind = .function := by rfl)
    (hd : (x == ("__debug__" : Str)) = false := by rfl) (hcd : (x == ("__classdict__" : Str)) = false := by rfl) : Ev g c (.Name x pos) av := .mk fun s E R => by
  obtain ⟨a, v, e, hc, hv⟩ := R.vis.cel x av (.inr hl) hr
  exact wpAny_Name (wpAny_loadName_free hk hl e hc ⟨Kp.refl s, hv⟩ hcd) hd

/-- two ints, then an operation that makes a new thing of them -/
theorem ev_bin_int {op : Operator} {e₁ e₂ : Expr} {i j : Int} {av : AV} {pos : Pos} (h₁ : Ev g c e₁ (.int i)) (h₂ : Ev g c e₂ (.int j))
    (h : ∀ (s : Shared) (t u : Tok) (P : Value → Shared → Prop) (E : Value → Shared → Prop), (∀ v, Val c.hid s.heap av v → P v { s with toks := s.toks + 1 }) → wpAny (model Pg g.w) c.A (binaryOp op (.int i t) (.int j u)) P E s) :
    Ev g c (.BinOp e₁ op e₂ pos) av := .mk fun s E R => by
  refine wpAny_BinOp (two h₁ h₂ R fun v₁ v₂ s₂ k _ x₁ x₂ => ?_)
  obtain ⟨t, rfl⟩ := x₁.int'
  obtain ⟨u, rfl⟩ := x₂.int'
  exact h s₂ t u _ E fun v hv => ⟨k.tok _, hv⟩
theorem ev_add {e₁ e₂ : Expr} {i j : Int} {pos : Pos} (h₁ : Ev g c e₁ (.int i)) (h₂ : Ev g c e₂ (.int j)) : Ev g c (.BinOp e₁ .Add e₂ pos) (.int (i + j)) :=
  ev_bin_int h₁ h₂ fun _ _ _ _ _ h => PyProof.Rows.add_int (h _ vint)
theorem ev_sub {e₁ e₂ : Expr} {i j : Int} {pos : Pos} (h₁ : Ev g c e₁ (.int i)) (h₂ : Ev g c e₂ (.int j)) : Ev g c (.BinOp e₁ .Sub e₂ pos) (.int (i - j)) :=
  ev_bin_int h₁ h₂ fun _ _ _ _ _ h => PyProof.Rows.sub_int (h _ vint)
theorem ev_mul {e₁ e₂ : Expr} {i j : Int} {pos : Pos} (h₁ : Ev g c e₁ (.int i)) (h₂ : Ev g c e₂ (.int j)) (hm : IntMulOk i j) : Ev g c (.BinOp e₁ .Mult e₂ pos) (.int (i * j)) :=
  ev_bin_int h₁ h₂ fun _ _ _ _ _ h => PyProof.Rows.mul_int (h _ vint) hm
theorem ev_mod {e₁ e₂ : Expr} {i j : Int} {pos : Pos} (h₁ : Ev g c e₁ (.int i)) (h₂ : Ev g c e₂ (.int j)) (hj : j ≠ 0) : Ev g c (.BinOp e₁ .Mod e₂ pos) (.int (i.fmod j)) :=
  ev_bin_int h₁ h₂ fun _ _ _ _ _ h => PyProof.Rows.mod_int' hj (h _ vint)
theorem ev_div {e₁ e₂ : Expr} {i j : Int} {pos : Pos} (h₁ : Ev g c e₁ (.int i)) (h₂ : Ev g c e₂ (.int j)) (hj : j ≠ 0) (hj2 : j.natAbs < 1073741824) : Ev g c (.BinOp e₁ .FloorDiv e₂ pos) (.int (i.fdiv j)) :=
  ev_bin_int h₁ h₂ fun _ _ _ _ _ h => PyProof.Rows.floordiv_int hj (h _ vint) (.inl (PyProof.noPylong_small hj2))
theorem ev_and {e₁ e₂ : Expr} {i j : Int} {pos : Pos} (h₁ : Ev g c e₁ (.int i)) (h₂ : Ev g c e₂ (.int j)) : Ev g c (.BinOp e₁ .BitAnd e₂ pos) (.int (Builtin.bitAnd i j)) :=
  ev_bin_int h₁ h₂ fun _ _ _ _ _ h => PyProof.Rows.and_int (h _ vint)
theorem ev_pow {e₁ e₂ : Expr} {i j : Int} {pos : Pos} (h₁ : Ev g c e₁ (.int i)) (h₂ : Ev g c e₂ (.int j)) (hj : 0 ≤ j) (hj2 : j ≤ 1000000) (hi : i.natAbs < 2 ^ 64) : Ev g c (.BinOp e₁ .Pow e₂ pos) (.int (i ^ j.toNat)) :=
  ev_bin_int h₁ h₂ fun _ _ _ _ _ h => PyProof.Rows.pow_int_small hj hj2 hi (h _ vint)

/-- a comparison that gives a bool and makes nothing -/
def Cmp (g : G) (c : Fc) (op : CmpOp) (a₁ a₂ : AV) (b : Bool) : Prop :=
  ∀ (s : Shared) (v₁ v₂ : Value) (P E : Value → Shared → Prop), Ready g c s → Val c.hid s.heap a₁ v₁ → Val c.hid s.heap a₂ v₂ → (∀ s', Kp s s' → P (.bool b) s') → wpAny (model Pg g.w) c.A (compareOp op v₁ v₂) P E s
theorem cmp_int {op : CmpOp} {i j : Int} {b : Bool} (h : ∀ (s : Shared) (t u : Tok) (P E : Value → Shared → Prop), P (.bool b) s → wpAny (model Pg g.w) c.A (compareOp op (.int i t) (.int j u)) P E s) : Cmp g c op (.int i) (.int j) b :=
  fun s v₁ v₂ P E R x₁ x₂ hP => by
    obtain ⟨t, rfl⟩ := x₁.int'
    obtain ⟨u, rfl⟩ := x₂.int'
    exact h s t u P E (hP s (Kp.refl s))
theorem c_lt {i j : Int} : Cmp g c .Lt (.int i) (.int j) (decide (i < j)) := cmp_int fun _ _ _ _ _ h => PyProof.Rows.lt_int h
theorem c_gt {i j : Int} : Cmp g c .Gt (.int i) (.int j) (decide (j < i)) := cmp_int fun _ _ _ _ _ h => PyProof.Rows.gt_int h
theorem c_eq {i j : Int} : Cmp g c .Eq (.int i) (.int j) (i == j) := cmp_int fun _ _ _ _ _ h => PyProof.Rows.eq_int h
theorem c_ne {i j : Int} : Cmp g c .NotEq (.int i) (.int j) (i != j) := cmp_int fun _ _ _ _ _ h => PyProof.Rows.ne_int h
theorem c_seq {x y : Str} : Cmp g c .Eq (.str x) (.str y) (x == y) := fun s v₁ v₂ P E R x₁ x₂ hP => by
  obtain ⟨t, rfl⟩ := x₁.str'
  obtain ⟨u, rfl⟩ := x₂.str'
  exact PyProof.Rows.eq_str (hP s (Kp.refl s))
theorem c_sne {x y : Str} : Cmp g c .NotEq (.str x) (.str y) (x != y) := fun s v₁ v₂ P E R x₁ x₂ hP => by
  obtain ⟨t, rfl⟩ := x₁.str'
  obtain ⟨u, rfl⟩ := x₂.str'
  exact PyProof.Rows.ne_str (hP s (Kp.refl s))
theorem c_sin {x y : Str} : Cmp g c .In (.str x) (.str y) (!(Builtin.Str.occurrences y x 0 y.length 1).isEmpty) := fun s v₁ v₂ P E R x₁ x₂ hP => by
  obtain ⟨t, rfl⟩ := x₁.str'
  obtain ⟨u, rfl⟩ := x₂.str'
  exact PyProof.Rows.in_str (hP s (Kp.refl s))
theorem c_blt {p q : Bool} : Cmp g c .Lt (.bool p) (.bool q) (!p && q) := fun s v₁ v₂ P E R x₁ x₂ hP => by
  obtain rfl := x₁.bool'
  obtain rfl := x₂.bool'
  refine PyProof.Rows.lt_bool ?_
  have : (decide (b2i p < b2i q)) = (!p && q) := by cases p <;> cases q <;> decide
  rw [this]
  exact hP s (Kp.refl s)
theorem c_is_none {av : AV} {b : Bool} (hb : ∀ h v, Val c.hid h av v → (v == Value.none) = b) : Cmp g c .Is av .none b := fun s v₁ v₂ P E R x₁ x₂ hP => by
  obtain rfl := x₂.none'
  exact is_none (by rw [hb _ _ x₁]; exact hP s (Kp.refl s))
theorem c_isnot_none {av : AV} {b : Bool} (hb : ∀ h v, Val c.hid h av v → (v == Value.none) = b) : Cmp g c .IsNot av .none (!b) := fun s v₁ v₂ P E R x₁ x₂ hP => by
  obtain rfl := x₂.none'
  exact isNot_none (by rw [hb _ _ x₁]; exact hP s (Kp.refl s))

theorem ev_cmp {op : CmpOp} {e₁ e₂ : Expr} {a₁ a₂ : AV} {b : Bool} {pos : Pos} (h₁ : Ev g c e₁ a₁) (h₂ : Ev g c e₂ a₂) (h : Cmp g c op a₁ a₂ b) (hm : behindInMarks op e₂ = false := by rfl) :
    Ev g c (.Compare e₁ [op] [e₂] pos) (.bool b) := .mk fun s E R =>
  wpAny_Compare1 (two h₁ h₂ R fun v₁ v₂ s₂ k R₂ x₁ x₂ => h s₂ v₁ v₂ _ E R₂ x₁ x₂ fun s' k' => ⟨k.trans k', vbool⟩) hm
theorem ts_cmp {op : CmpOp} {e₁ e₂ : Expr} {a₁ a₂ : AV} {b : Bool} {pos : Pos} (h₁ : Ev g c e₁ a₁) (h₂ : Ev g c e₂ a₂) (h : Cmp g c op a₁ a₂ b) (hm : behindInMarks op e₂ = false := by rfl) :
    Ts g c (.Compare e₁ [op] [e₂] pos) b := .mk fun s E R =>
  wpAny_isTrue_Compare1 (two h₁ h₂ R fun v₁ v₂ s₂ k R₂ x₁ x₂ => h s₂ v₁ v₂ _ E R₂ x₁ x₂ fun s' k' => wpAny_truthy_bool ⟨k.trans k', rfl⟩) hm
theorem ts_not {e : Expr} {b : Bool} {pos : Pos} (h : Ts g c e b) : Ts g c (.UnaryOp .Not e pos) (!b) := .mk fun s E R =>
  wpAny_isTrue_Not (wpAny_mono (h.run s E R) (fun r s' ⟨k, e⟩ => ⟨k, by rw [e]⟩) fun _ _ x => x)
theorem ev_if {t e₁ e₂ : Expr} {b : Bool} {av : AV} {pos : Pos} (h : Ts g c t b) (h₁ : b = true → Ev g c e₁ av) (h₂ : b = false → Ev g c e₂ av) : Ev g c (.IfExp t e₁ e₂ pos) av := .mk fun s E R =>
  wpAny_IfExp (wpAny_mono (h.run s E R) (fun r s' ⟨k, e⟩ => by
    subst e
    cases r with
    | true => exact wpAny_mono ((h₁ rfl).run s' E (R.keep k)) (fun v s'' ⟨k', x⟩ => ⟨k.trans k', x⟩) fun _ _ x => x
    | false => exact wpAny_mono ((h₂ rfl).run s' E (R.keep k)) (fun v s'' ⟨k', x⟩ => ⟨k.trans k', x⟩) fun _ _ x => x) fun _ _ x => x)
/-- tests joined -/
structure Tall (g : G) (c : Fc) (op : BoolOp) (es : List Expr) (b : Bool) : Prop where
  run : ∀ (s : Shared) (E : Value → Shared → Prop), Ready g c s → wpAny (model Pg g.w) c.A (allTrue op es c.env) (fun r s' => Kp s s' ∧ r = b) E s
theorem tall_and_nil : Tall g c .And [] true := .mk fun s E R => wpAny_allTrue_And_nil ⟨Kp.refl s, rfl⟩
theorem tall_or_nil : Tall g c .Or [] false := .mk fun s E R => wpAny_allTrue_Or_nil ⟨Kp.refl s, rfl⟩
theorem tall_and {e : Expr} {es : List Expr} {b b' : Bool} (h : Ts g c e b) (h' : b = true → Tall g c .And es b') : Tall g c .And (e :: es) (b && b') := .mk fun s E R =>
  wpAny_allTrue_And_cons (wpAny_mono (h.run s E R) (fun r s' ⟨k, e⟩ => by
    subst e
    cases r with
    | true => exact wpAny_mono ((h' rfl).run s' E (R.keep k)) (fun v s'' ⟨k', x⟩ => ⟨k.trans k', x⟩) fun _ _ x => x
    | false => exact ⟨k, rfl⟩) fun _ _ x => x)
theorem tall_or {e : Expr} {es : List Expr} {b b' : Bool} (h : Ts g c e b) (h' : b = false → Tall g c .Or es b') : Tall g c .Or (e :: es) (b || b') := .mk fun s E R =>
  wpAny_allTrue_Or_cons (wpAny_mono (h.run s E R) (fun r s' ⟨k, e⟩ => by
    subst e
    cases r with
    | false => exact wpAny_mono ((h' rfl).run s' E (R.keep k)) (fun v s'' ⟨k', x⟩ => ⟨k.trans k', x⟩) fun _ _ x => x
    | true => exact ⟨k, rfl⟩) fun _ _ x => x)
theorem ts_bool {op : BoolOp} {es : List Expr} {b : Bool} {pos : Pos} (h : Tall g c op es b) : Ts g c (.BoolOp op es pos) b := .mk fun s E R => wpAny_isTrue_BoolOp (h.run s E R)
/-- a test by its value's truth -/
def Truth (g : G) (c : Fc) (av : AV) (b : Bool) : Prop :=
  ∀ (s : Shared) (v : Value) (P : Bool → Shared → Prop) (E : Value → Shared → Prop), Ready g c s → Val c.hid s.heap av v → (∀ s', Kp s s' → P b s') → wpAny (model Pg g.w) c.A (truthy v) P E s
theorem truth_bool {b : Bool} : Truth g c (.bool b) b := fun s v P E R x h => by
  obtain rfl := x.bool'
  exact wpAny_truthy_bool (h s (Kp.refl s))
theorem ts_value {e : Expr} {av : AV} {b : Bool} (h : Ev g c e av) (ht : Truth g c av b)
    (he : isTrue e c.env (eval e c.env) = (do let v ← eval e c.env; standAt e.pos; holding [v] (truthy v)) := by rfl) : Ts g c e b := .mk fun s E R =>
  wpAny_isTrue_value (wpAny_mono (h.run s E R) (fun v s' ⟨k, x⟩ => ht s' v _ E (R.keep k) x fun s'' k' => ⟨k.trans k', rfl⟩) fun _ _ x => x) he
end
end Mine
end
section
open PySem PySem.W PyProof.Rows
set_option Elab.async false
set_option linter.unusedVariables false
namespace Mine

/-- room for calls n deep -/
structure OkA (n : Nat) (A : Around) : Prop where
  hd : A.handled = none
  dp : A.depth + n < 1000
  un : A.units + 20 * n < 9900

/-- a block at work: since s₀ only its own things have changed -/
structure InF (g : G) (c : Fc) (s₀ s : Shared) : Prop where
  same : ∃ h tk, s = { s₀ with heap := h, toks := tk }
  keep : ∀ b o, s₀.heap.get? b = some o → s.heap.get? b = some o
  on : g.On s₀.heap
  vis : Vis c s.heap
  nL : s₀.heap.get? c.env.locals = none
  nC : ∀ x a, c.asg x = true → c.env.cells.lookup x = some a → s₀.heap.get? a = none
  apart : ∀ x y a, c.asg x = true → c.env.cells.lookup x = some a → c.env.cells.lookup y = some a → y = x
section
variable {g : G} {c : Fc} {s₀ s s' : Shared}
theorem InF.kp (F : InF g c s₀ s) : Kp s₀ s := by
  obtain ⟨h, tk, rfl⟩ := F.same
  exact ⟨h, tk, rfl, F.keep⟩
theorem InF.ready (F : InF g c s₀ s) : Ready g c s := ⟨F.on.keep F.keep, F.vis⟩
theorem InF.more (F : InF g c s₀ s) (k : Kp s s') : InF g c s₀ s' := by
  refine ⟨?_, fun b o e => k.heap b o (F.keep b o e), F.on, F.vis.keep k.heap, F.nL, F.nC, F.apart⟩
  obtain ⟨h, tk, rfl⟩ := F.same
  obtain ⟨h', tk', rfl, _⟩ := k.k
  exact ⟨h', tk', rfl⟩
/-- the heap turned: what the block sees is said anew -/
theorem InF.turn {c' : Fc} (F : InF g c s₀ s) {h : Heap} {t : Nat} (hk : ∀ b o, s₀.heap.get? b = some o → h.get? b = some o) (hv : Vis c' h) (he : c'.env = c.env := by rfl) (ha : c'.asg = c.asg := by rfl) : InF g c' s₀ { s with heap := h, toks := t } := by
  refine ⟨?_, hk, F.on, hv, by rw [he]; exact F.nL, fun x a h1 h2 => F.nC x a (by rw [← ha]; exact h1) (by rw [← he]; exact h2), fun x y a h0 h1 h2 => F.apart x y a (by rw [← ha]; exact h0) (by rw [← he]; exact h1) (by rw [← he]; exact h2)⟩
  obtain ⟨h', tk, rfl⟩ := F.same
  exact ⟨h, t, rfl⟩

theorem List.lookup_cons_ne {α : Type} {y x : Str} {b : α} {l : List (Str × α)} (h : y ≠ x) : List.lookup y ((x, b) :: l) = l.lookup y := by
  rw [List.lookup_cons]
  have : (y == x) = false := by simpa using h
  rw [this]
theorem Fc.set_hid (c : Fc) (x : Str) (av : AV) : (c.set x av).hid = c.hid := rfl

/-- a local name is bound -/
theorem st_local {M : Model} {A : Around} {x : Str} {v : Value} {av : AV} {Q : Unit → Shared → Prop} {E : Value → Shared → Prop} (F : InF g c s₀ s) (hv : Val c.hid s.heap av v)
    (h : ∀ s', InF g (c.set x av) s₀ s' → Heap.SameBut c.env.locals s.heap s'.heap → Q () s') (hl : c.env.kindOf x = some .local) (hk : c.env.scope.kind = .function) : wpAny M A (storeName c.env x v) Q E s := by
  obtain ⟨m, hn, hm⟩ := F.vis.loc
  refine wpAny_storeName_local hl hn (fun h' hn' hs' => h _ (F.turn (c' := c.set x av) ?_ ?_) hs') (by rw [hk]; rfl)
  · exact fun b o e => (hs'.2 b (by rintro rfl; rw [F.nL] at e; cases e)).trans (F.keep b o e)
  · obtain ⟨oL, es, ep, hoL, hdL, _⟩ := id hn
    have kb : ∀ b o, b ≠ c.env.locals → s.heap.get? b = some o → h'.get? b = some o := fun b o hb e => (hs'.2 b hb).trans e
    have pl : ∀ {a : Addr} {items : Array Value}, s.heap.PlainList a items → h'.PlainList a items := fun q => plain_but (wr := fun b => b = c.env.locals) kb (fun b hb o e its n => by
      rw [hb, hoL] at e; cases e; rw [hdL]; exact fun z => by cases z) q
    have vl : ∀ {av : AV} {v : Value}, Val c.hid s.heap av v → Val c.hid h' av v := fun q => q.imp (fun _ _ _ z => z) fun _ _ _ z => pl z
    refine ⟨⟨_, hn', fun y av' hy hr => ?_⟩, fun y av' hy hr => ?_, fun a l e => ?_, fun p hp => ?_, fun p hp => vl (F.vis.ext p hp), fun y a e => ?_⟩
    · by_cases q : y = x
      · subst q
        simp only [Fc.set, List.lookup_cons, beq_self_eq_true, Option.some.injEq] at hr
        subst hr
        exact ⟨v, if_pos rfl, vl hv⟩
      · rw [Fc.set, List.lookup_cons_ne q] at hr
        rw [if_neg q]
        obtain ⟨v', e, hv'⟩ := hm y av' hy hr
        exact ⟨v', e, vl hv'⟩
    · have q : y ≠ x := by
        rintro rfl
        have hy' : c.env.kindOf y = some .cell ∨ c.env.kindOf y = some .free := hy
        rw [hl] at hy'
        rcases hy' with z | z <;> cases z
      rw [Fc.set, List.lookup_cons_ne q] at hr
      obtain ⟨a, v', e, ⟨o, ho, hd⟩, hv'⟩ := F.vis.cel y av' hy hr
      refine ⟨a, v', e, ⟨o, kb a o ?_ ho, hd⟩, vl hv'⟩
      rintro rfl
      rw [hoL] at ho; cases ho
      rw [hdL] at hd; cases hd
    · obtain ⟨items, hp, hv'⟩ := F.vis.own a l e
      exact ⟨items, pl hp, hv'.imp (fun _ _ _ z => z) fun _ _ _ z => pl z⟩
    · obtain ⟨e, hn2, hpi⟩ := F.vis.pin p hp
      refine ⟨kb _ _ ?_ e, hn2, hpi⟩
      intro q
      rw [q, hoL] at e; cases e
      exact hpi.1 _ _ hdL
    · obtain ⟨v', o, ho, hd⟩ := F.vis.cex y a e
      refine ⟨v', o, kb a o ?_ ho, hd⟩
      rintro rfl
      rw [hoL] at ho; cases ho
      rw [hdL] at hd; cases hd
/-- a cell of the block's own is filled -/
theorem st_cell {M : Model} {A : Around} {x : Str} {v : Value} {av : AV} {a : Addr} {Q : Unit → Shared → Prop} {E : Value → Shared → Prop} (F : InF g c s₀ s) (hv : Val c.hid s.heap av v)
    (ha : c.env.cells.lookup x = some a) (has : c.asg x = true)
    (h : ∀ s', InF g (c.set x av) s₀ s' → Q () s') (hl : c.env.kindOf x = some .cell) (hk : c.env.scope.kind = .function) : wpAny M A (storeName c.env x v) Q E s := by
  obtain ⟨m, hn, hm⟩ := F.vis.loc
  obtain ⟨v₀, hc⟩ := F.vis.cex x a ha
  obtain ⟨oc, hoc, hdc⟩ := id hc
  refine wpAny_storeName_cell hk hl ha hc fun h' hc' hs' => h _ (F.turn (c' := c.set x av) (t := s.toks) ?_ ?_)
  · exact fun b o e => (hs'.2 b (by rintro rfl; rw [F.nC x b has ha] at e; cases e)).trans (F.keep b o e)
  · have kb : ∀ b o, b ≠ a → s.heap.get? b = some o → h'.get? b = some o := fun b o hb e => (hs'.2 b hb).trans e
    have pl : ∀ {b : Addr} {items : Array Value}, s.heap.PlainList b items → h'.PlainList b items := fun q => plain_but (wr := fun b => b = a) kb (fun b hb o e its n => by
      rw [hb, hoc] at e; cases e; rw [hdc]; exact fun z => by cases z) q
    have vl : ∀ {av : AV} {v : Value}, Val c.hid s.heap av v → Val c.hid h' av v := fun q => q.imp (fun _ _ _ z => z) fun _ _ _ z => pl z
    refine ⟨⟨m, ?_, fun y av' hy hr => ?_⟩, fun y av' hy hr => ?_, fun b l e => ?_, fun p hp => ?_, fun p hp => vl (F.vis.ext p hp), fun y b e => ?_⟩
    · obtain ⟨o, es, ep, ho, hd, r⟩ := id hn
      refine ⟨o, es, ep, kb _ _ ?_ ho, hd, r⟩
      intro q
      have ho' : s.heap.get? c.env.locals = some o := ho
      rw [show c.env.locals = a from q, hoc] at ho'; cases ho'
      rw [hdc] at hd; cases hd
    · have q : y ≠ x := by
        rintro rfl
        have hy' : c.env.kindOf y = some .local := hy
        rw [hl] at hy'; cases hy'
      rw [Fc.set, List.lookup_cons_ne q] at hr
      obtain ⟨v', e, hv'⟩ := hm y av' hy hr
      exact ⟨v', e, vl hv'⟩
    · by_cases q : y = x
      · subst q
        simp only [Fc.set, List.lookup_cons, beq_self_eq_true, Option.some.injEq] at hr
        subst hr
        exact ⟨a, v, ha, hc', vl hv⟩
      · rw [Fc.set, List.lookup_cons_ne q] at hr
        obtain ⟨b, v', e, hcb, hv'⟩ := F.vis.cel y av' hy hr
        exact ⟨b, v', e, hcb.sameBut hs' (fun z => q (F.apart x y a has ha (z ▸ e))), vl hv'⟩
    · obtain ⟨items, hp, hv'⟩ := F.vis.own b l e
      exact ⟨items, pl hp, hv'.imp (fun _ _ _ z => z) fun _ _ _ z => pl z⟩
    · obtain ⟨e, hn2, hpi⟩ := F.vis.pin p hp
      refine ⟨kb _ _ ?_ e, hn2, hpi⟩
      intro q
      rw [q, hoc] at e; cases e
      exact hpi.2 _ hdc
    · by_cases q : b = a
      · subst q; exact ⟨_, hc'⟩
      · obtain ⟨v', hcb⟩ := F.vis.cex y b e
        exact ⟨v', hcb.sameBut hs' q⟩

def Fc.setOwn (c : Fc) (a : Addr) (l : List AV) : Fc := { c with own := fun b => if b = a then some l else c.own b }
theorem Fc.setOwn_hid {c : Fc} {a : Addr} {l l' : List AV} (ha : c.own a = some l) : (c.setOwn a l').hid = c.hid := by
  funext b
  unfold Fc.hid Fc.setOwn
  by_cases q : b = a
  · subst q; simp [ha]
  · simp [q]
/-- a list of the block's own is turned -/
theorem own_turn {a : Addr} {l l' : List AV} {h' : Heap} {items' : Array Value} {t : Nat} (F : InF g c s₀ s) (ha : c.own a = some l) (hz : s₀.heap.get? a = none) (hp : h'.PlainList a items') (hs : Heap.SameBut a s.heap h') (hv : Vals c.hid s.heap l' items'.toList) :
    InF g (c.setOwn a l') s₀ { s with heap := h', toks := t } := by
  have hd := Fc.setOwn_hid (l' := l') ha
  obtain ⟨its, hpa, _⟩ := F.vis.own a l ha
  obtain ⟨n, hoa⟩ := id hpa
  have hida : c.hid a := by unfold Fc.hid; rw [ha]; rfl
  have kb : ∀ b o, b ≠ a → s.heap.get? b = some o → h'.get? b = some o := fun b o hb e => (hs.2 b hb).trans e
  have pl : ∀ {b : Addr} {items : Array Value}, b ≠ a → s.heap.PlainList b items → h'.PlainList b items := fun hb q => q.at fun o e => kb _ _ hb e
  have vl : ∀ {av : AV} {v : Value}, Val c.hid s.heap av v → Val c.hid h' av v := fun q => q.imp (fun _ _ _ z => z) fun b _ hb z => pl (by rintro rfl; exact hb hida) z
  have vls : ∀ {av : List AV} {v : List Value}, Vals c.hid s.heap av v → Vals c.hid h' av v := fun q => q.imp (fun _ _ _ z => z) fun b _ hb z => pl (by rintro rfl; exact hb hida) z
  refine F.turn (c' := c.setOwn a l') ?_ ⟨?_, ?_, ?_, ?_, ?_, ?_⟩ rfl rfl
  · exact fun b o e => kb b o (by rintro rfl; rw [hz] at e; cases e) (F.keep b o e)
  · obtain ⟨m, ⟨o, es, ep, ho, hdd, r⟩, hm⟩ := F.vis.loc
    refine ⟨m, ⟨o, es, ep, kb _ _ ?_ ho, hdd, r⟩, fun y av hy hr => ?_⟩
    · intro q
      have ho' : s.heap.get? c.env.locals = some o := ho
      rw [show c.env.locals = a from q, hoa] at ho'; cases ho'
      cases hdd
    · obtain ⟨v, e, hv⟩ := hm y av hy hr
      rw [hd]
      exact ⟨v, e, vl hv⟩
  · intro y av hy hr
    obtain ⟨b, v, e, ⟨o, ho, hdd⟩, hv⟩ := F.vis.cel y av hy hr
    rw [hd]
    refine ⟨b, v, e, ⟨o, kb _ _ ?_ ho, hdd⟩, vl hv⟩
    rintro rfl
    rw [hoa] at ho; cases ho
    cases hdd
  · intro b lb e
    rw [hd]
    by_cases q : b = a
    · subst q
      simp only [Fc.setOwn, if_true] at e
      cases e
      exact ⟨items', hp, vls hv⟩
    · simp only [Fc.setOwn, q, if_false] at e
      obtain ⟨items, hpb, hvb⟩ := F.vis.own b lb e
      exact ⟨items, pl q hpb, vls hvb⟩
  · intro p hpp
    obtain ⟨e, hn, hpi⟩ := F.vis.pin p hpp
    rw [hd]
    exact ⟨kb _ _ (by rintro q; exact hn (q ▸ hida)) e, hn, hpi⟩
  · intro p hpp
    rw [hd]
    exact vl (F.vis.ext p hpp)
  · intro y b e
    obtain ⟨v', o, ho, hdd⟩ := F.vis.cex y b e
    refine ⟨v', o, kb _ _ ?_ ho, hdd⟩
    rintro rfl
    rw [hoa] at ho; cases ho
    cases hdd
end
end Mine
end
section
open PySem PySem.W PyProof.Rows
set_option Elab.async false
set_option linter.unusedVariables false
namespace Mine
section
variable {g : G} {c : Fc}

/-- no starred one -/
def star1 : Expr → Bool | .Starred _ _ => true | _ => false
theorem starE {e : Expr} (h : star1 e = false) (es : List Expr) (env : Env) : starEach (e :: es) env = (false, eval e env) :: starEach es env := by
  cases e <;> first | rfl | cases h
/-- arguments -/
structure Evs (g : G) (c : Fc) (es : List Expr) (avs : List AV) : Prop where
  run : ∀ (s : Shared) (E : Value → Shared → Prop) (pos : Pos), Ready g c s → wpAny (model Pg g.w) c.A (spliced (backTo pos (starEach es c.env))) (fun vs s' => Kp s s' ∧ Vals c.hid s'.heap avs vs) E s
theorem evs_nil : Evs g c [] [] := .mk fun s E pos R => wpAny_items_nil ⟨Kp.refl s, Vals.nil⟩
theorem evs_cons' {e : Expr} {es : List Expr} {av : AV} {avs : List AV} (h : Ev g c e av) (hs : Evs g c es avs) (he : starEach (e :: es) c.env = (false, eval e c.env) :: starEach es c.env) : Evs g c (e :: es) (av :: avs) := .mk fun s E pos R =>
  wpAny_items_cons (wpAny_mono (h.run s E R) (fun v s₁ ⟨k₁, x₁⟩ => wpAny_mono (hs.run s₁ E pos (R.keep k₁)) (fun vs s₂ ⟨k₂, x₂⟩ => ⟨k₁.trans k₂, Vals.cons (x₁.keep k₂.heap) x₂⟩) fun _ _ x => x) fun _ _ x => x) he
theorem evs_cons {e : Expr} {es : List Expr} {av : AV} {avs : List AV} (h : Ev g c e av) (hs : Evs g c es avs) (h1 : star1 e = false := by rfl) : Evs g c (e :: es) (av :: avs) := evs_cons' h hs (starE h1 _ _)

/-- a name of the module or a built-in -/
structure FName (g : G) (c : Fc) (f : Str) (fv : Value) : Prop where
  kind : c.env.kindOf f = some .globalImplicit
  fn : c.env.scope.kind = .function
  gl : c.env.globals = mainGlobals
  bl : c.env.builtins = builtinsNs
  v : g.mg f = some fv ∨ (g.mg f = none ∧ g.mb f = some fv)
  hd : (f == ("__debug__" : Str)) = false
theorem FName.load {f : Str} {fv : Value} {p : Pos} {s : Shared} {P E : Value → Shared → Prop} (N : FName g c f fv) (G : g.Ok) (R : Ready g c s) (h : P fv s) : wpAny (model Pg g.w) c.A (eval (.Name f p) c.env) P E s := by
  rcases N.v with q | ⟨q, r⟩
  · exact Calls.Name_function_global N.fn N.kind (Calls.loadGlobal_global (by rw [N.gl]; exact G.gl.keeps R.on) q h) N.hd
  · exact Calls.Name_function_global N.fn N.kind (Calls.loadGlobal_builtin (by rw [N.gl]; exact G.gl.keeps R.on) q (by rw [N.bl]; exact G.bl.keeps R.on) r h) N.hd
theorem ev_glob {f : Str} {fv : Value} {p : Pos} {av : AV} (G : g.Ok) (N : FName g c f fv) (hv : ∀ h, Val c.hid h av fv) : Ev g c (.Name f p) av := .mk fun s E R => N.load G R ⟨Kp.refl s, hv _⟩

/-- what is called: no reference, or a def of the module -/
def Callee (g : G) (fv : Value) : Prop := (∃ id, fv = .builtin id) ∨ (∃ T, fv = .type T) ∨ ∃ a o fd, fv = .ref a ∧ g.h₀.get? a = some o ∧ o.data = .func fd
def CallV (g : G) (c : Fc) (fv : Value) (avs : List AV) (av : AV) : Prop :=
  ∀ (s : Shared) (vs : List Value) (P E : Value → Shared → Prop), Ready g c s → Vals c.hid s.heap avs vs → (∀ r s', Kp s s' → Val c.hid s'.heap av r → P r s') → wpAny (model Pg g.w) c.A (call fv vs) P E s
theorem star_any {env : Env} : ∀ {es : List Expr} {pos : Pos}, (starEach es env).any (·.1) = false → (backTo pos (starEach es env)).any (·.1) = false := by
  intro es pos h
  unfold backTo
  rw [List.any_map]
  simpa [Function.comp_def] using h
theorem call_args {f : Str} {fv : Value} {p pos : Pos} {e : Expr} {es : List Expr} {avs : List AV} {s : Shared} {P E : Value → Shared → Prop} (G : g.Ok) (N : FName g c f fv) (C : Callee g fv) (ha : Evs g c (e :: es) avs) (R : Ready g c s)
    (h : ∀ s' vs, Kp s s' → Ready g c s' → Vals c.hid s'.heap avs vs → wpAny (model Pg g.w) c.A (call fv vs) P E s')
    (he : starEach (e :: es) c.env = (false, eval e c.env) :: starEach es c.env) (hst : (starEach es c.env).any (·.1) = false) :
    wpAny (model Pg g.w) c.A (eval (.Call (.Name f p) (e :: es) [] pos) c.env) P E s := by
  refine wpAny_Call_NameR (N.load G R ?_)
  have hA := wpAny_mono (ha.run s E pos R) (Q' := fun vs s' => Kp s s' ∧ Vals c.hid s'.heap avs vs) (fun _ _ x => x) fun _ _ x => x
  have hb : backTo pos (starEach (e :: es) c.env) = (false, eval e c.env) :: backTo pos (starEach es c.env) := by rw [he]; rfl
  have hany : (backTo pos (starEach (e :: es) c.env)).any (·.1) = false := by rw [hb, List.any_cons, star_any hst]; rfl
  rcases C with ⟨id, rfl⟩ | ⟨T, rfl⟩ | ⟨a, o, fd, rfl, ho, hd⟩
  · refine Calls.callWith_builtin hany ?_
    rw [hb] at hA ⊢
    exact Calls.evalArgs_plain (wpAny_mono hA (fun vs s' x => h s' vs x.1 (R.keep x.1) x.2) fun _ _ x => x)
  · refine PySem.callWith_type hany ?_
    rw [hb] at hA ⊢
    exact Calls.evalArgs_plain (wpAny_mono hA (fun vs s' x => h s' vs x.1 (R.keep x.1) x.2) fun _ _ x => x)
  · refine Calls.callWith_function (o := o) (fd := fd) ?_
    rw [hb] at hA ⊢
    exact Calls.evalArgs_plain (wpAny_mono hA (fun vs s' x => ⟨⟨(R.keep x.1).on a o ho, hd⟩, h s' vs x.1 (R.keep x.1) x.2⟩) fun _ _ x => x)
theorem ev_call {f : Str} {fv : Value} {p pos : Pos} {e : Expr} {es : List Expr} {avs : List AV} {av : AV} (G : g.Ok) (N : FName g c f fv) (C : Callee g fv) (ha : Evs g c (e :: es) avs) (hc : CallV g c fv avs av)
    (he : starEach (e :: es) c.env = (false, eval e c.env) :: starEach es c.env := by exact starE rfl _ _) (hst : (starEach es c.env).any (·.1) = false := by rfl) :
    Ev g c (.Call (.Name f p) (e :: es) [] pos) av := .mk fun s E R =>
  call_args G N C ha R (fun s' vs k R' hv => hc s' vs _ E R' hv fun r s'' k' x => ⟨k.trans k', x⟩) he hst

/-- these addresses hold lists -/
def Lists (H : Addr → Prop) (h : Heap) : Prop := ∀ a, H a → ∃ items, h.PlainList a items
/-- a def's contract: for these arguments this value, all old things as they were; no list of H is in it -/
def Fn (g : G) (n : Nat) (fv : Value) (args : List AV) (res : AV) : Prop :=
  ∀ (H : Addr → Prop) (A : Around) (s : Shared) (vs : List Value) (P E : Value → Shared → Prop), OkA n A → g.On s.heap → Lists H s.heap → Vals H s.heap args vs →
    (∀ r s', Kp s s' → Val H s'.heap res r → P r s') → wpAny (model Pg g.w) A (call fv vs) P E s
theorem Ready.lists {s : Shared} (R : Ready g c s) : Lists c.hid s.heap := fun a ha => by
  unfold Fc.hid at ha
  obtain ⟨l, e⟩ := Option.isSome_iff_exists.mp ha
  obtain ⟨items, hp, _⟩ := R.vis.own a l e
  exact ⟨items, hp⟩
theorem Fn.use {n : Nat} {fv : Value} {args : List AV} {res : AV} (h : Fn g n fv args res) (ok : OkA n c.A) : CallV g c fv args res := fun s vs P E R hv hP =>
  h c.hid c.A s vs P E ok R.on R.lists hv hP
/-- these lists, their items as they are -/
def rawsAt (h : Heap) (a : Addr) : List AV := match h.get? a with
  | some o => match o.data with
    | .seq items _ => items.toList.map .raw
    | _ => []
  | none => []
open Classical in
noncomputable def rawOwn (H : Addr → Prop) (h : Heap) (a : Addr) : Option (List AV) := if H a then some (rawsAt h a) else none
theorem rawOwn_some {H : Addr → Prop} {h : Heap} {a : Addr} : (rawOwn H h a).isSome = true ↔ H a := by
  unfold rawOwn
  split <;> simp_all
theorem raws_vals {hid : Addr → Prop} {h : Heap} : ∀ (vs : List Value), Vals hid h (vs.map .raw) vs
  | [] => by simp only [List.map_nil, Vals]
  | v :: r => by simp only [List.map_cons, Vals]; exact ⟨v, r, rfl, by simp only [Val], raws_vals r⟩
theorem rawOwn_own {H hid : Addr → Prop} {h h' : Heap} (hL : Lists H h) (hk : ∀ a o, h.get? a = some o → h'.get? a = some o) {a : Addr} {l : List AV} (e : rawOwn H h a = some l) : ∃ items, h'.PlainList a items ∧ Vals hid h' l items.toList := by
  unfold rawOwn at e
  split at e
  · next q =>
    obtain ⟨items, n, hp⟩ := hL a q
    cases e
    refine ⟨items, ⟨n, hk _ _ hp⟩, ?_⟩
    unfold rawsAt
    rw [hp]
    exact raws_vals _
  · cases e

/-! sources of loops -/
structure Src1 (g : G) (c : Fc) (s s₂ : Shared) (items : List AV) (I : Addr) (fp wr : List Addr) (P : Nat → Value → Prop) (St : Nat → Heap → Prop) (xs : List (Value × AV)) : Prop where
  kp : Kp s s₂
  W : Walks Pg g.w c.A I fp wr items.length P St
  st : St 0 s₂.heap
  wrn : ∀ b ∈ wr, s.heap.get? b = none
  wrf : ∀ i h, St i h → ∀ b ∈ wr, ∃ o vs, h.get? b = some o ∧ o.data = .fields vs
  fpp : ∀ i h, St i h → ∀ b ∈ fp, ∃ o, h.get? b = some o ∧ Pinnable o
  fph : ∀ b ∈ fp, ¬ c.hid b
  xsv : ∀ p ∈ xs, Val c.hid s₂.heap p.2 p.1
  val : ∀ (hid : Addr → Prop) i j v av h, (∀ p ∈ xs, Val hid h p.2 p.1) → St j h → P i v → items[i]? = some av → Val hid h av v
  fpo : ∀ b ∈ fp, ∃ o, s₂.heap.get? b = some o ∧ o.cls ≠ .none
  wfp : ∀ b ∈ wr, b ∈ fp
def Src (g : G) (c : Fc) (e : Expr) (items : List AV) : Prop :=
  ∀ (s : Shared) (Q E : Value → Shared → Prop), Ready g c s → (∀ I fp wr P St xs s₂, Src1 g c s s₂ items I fp wr P St xs → Q (.ref I) s₂) →
    wpAny (model Pg g.w) c.A (eval e c.env) (fun x s₁ => wpAny (model Pg g.w) c.A (pyIter x) Q E s₁) E s

theorem get_none_of_ge {h : Heap} {a : Addr} (ha : h.objs.size ≤ a) : h.get? a = none := by
  cases e : h.get? a with
  | none => rfl
  | some o => exact absurd (Heap.lt_size e) (Nat.not_lt.mpr ha)
theorem Kp.dead {s s' : Shared} (k : Kp s s') {a : Addr} (h : s'.heap.get? a = none) : s.heap.get? a = none := by
  cases e : s.heap.get? a with
  | none => rfl
  | some o => rw [k.heap a o e] at h; cases h
theorem fieldsPin {o : Obj} {vs : Array Value} (h : o.data = .fields vs) : Pinnable o := ⟨fun _ _ e => (by rw [h] at e; cases e), fun _ e => (by rw [h] at e; cases e)⟩
theorem seqPin {o : Obj} {vs : Array Value} {n : Nat} (h : o.data = .seq vs n) : Pinnable o := ⟨fun _ _ e => (by rw [h] at e; cases e), fun _ e => (by rw [h] at e; cases e)⟩
theorem PlainList.inj {h : Heap} {a : Addr} {i j : Array Value} (x : h.PlainList a i) (y : h.IsList a j) : j = i := by
  obtain ⟨n, e⟩ := x
  obtain ⟨o, ho, _, m, hd⟩ := y
  rw [e] at ho; cases ho
  cases hd; rfl

theorem src_list {e : Expr} {l : List AV} (h : Ev g c e (.list l)) (hh : c.A.handled = none) : Src g c e l := fun s Q E R hQ =>
  wpAny_mono (h.run s E R) (fun v s₁ ⟨k, x⟩ => by
    obtain ⟨a, items, rfl, hn, hp, hv⟩ := x.list'
    have hlen : items.size = l.length := by rw [← hv.length]; simp
    refine wpAny_pyIter_list hp.isList ?_
    have hlt : a < s₁.heap.objs.size := by obtain ⟨n, e⟩ := hp; exact Heap.lt_size e
    have hne : a ≠ s₁.heap.objs.size := Nat.ne_of_lt hlt
    have W := Walks.list (prog := Pg) (w := g.w) (A := c.A) hh s₁.heap.objs.size a hne items
    rw [hlen] at W
    have hdead : s₁.heap.get? s₁.heap.objs.size = none := get_none_of_ge (Nat.le_refl _)
    refine hQ _ _ _ _ _ [(.ref a, .list l)] _ ⟨k.push _, W, ⟨⟨_, Heap.get?_push_size _ rfl, rfl, rfl⟩, hp.isList.push _⟩, ?_, ?_, ?_, ?_, ?_, ?_, ?_, fun b hb => by simp at hb; subst hb; simp⟩
    · intro b hb
      simp at hb; subst hb
      exact k.dead hdead
    · rintro i hp' ⟨⟨o, ho, _, hd⟩, _⟩ b hb
      simp at hb; subst hb
      exact ⟨o, _, ho, hd⟩
    · rintro i hp' ⟨⟨o, ho, _, hd⟩, ⟨o', ho', _, n, hd'⟩⟩ b hb
      simp at hb
      rcases hb with rfl | rfl
      · exact ⟨o, ho, fieldsPin hd⟩
      · exact ⟨o', ho', seqPin hd'⟩
    · intro b hb
      simp at hb
      rcases hb with rfl | rfl
      · exact (R.keep k).vis.fresh hdead
      · exact hn
    · intro p hp'
      simp at hp'; subst hp'
      exact x.keep fun _ _ e => Heap.get?_push_of_some _ e
    · intro hid' i j v av hh' hxs st hP hi
      have x' := hxs (.ref a, .list l) (by simp)
      obtain ⟨a', items', ea, _, hp', hv'⟩ := x'.list'
      cases ea
      have := PlainList.inj hp' st.2
      subst this
      obtain ⟨v', e', hv''⟩ := hv'.get hi
      have hP' : items[i]? = some v := hP
      have e'' : items[i]? = some v' := by rw [← Array.getElem?_toList]; exact e'
      rw [hP'] at e''; cases e''
      exact hv''
    · intro b hb
      simp at hb
      rcases hb with rfl | rfl
      · exact ⟨_, Heap.get?_push_size _ rfl, nofun⟩
      · obtain ⟨n, e⟩ := hp
        exact ⟨_, Heap.get?_push_of_some _ e, nofun⟩) fun _ _ x => x

theorem src_str {e : Expr} {x : Str} (h : Ev g c e (.str x)) (hh : c.A.handled = none) : Src g c e (x.cps.toList.map fun k => .str ⟨#[k]⟩) := fun s Q E R hQ =>
  wpAny_mono (h.run s E R) (fun v s₁ ⟨k, hx⟩ => by
    obtain ⟨t, rfl⟩ := hx.str'
    have hdead : s₁.heap.get? s₁.heap.objs.size = none := get_none_of_ge (Nat.le_refl _)
    have key : ∀ (ty : String) (o : Obj), o = { cls := .type ty, data := .fields #[.str x t, .int 0 0] } → Walks Pg g.w c.A s₁.heap.objs.size [s₁.heap.objs.size] [s₁.heap.objs.size] x.cps.size (SignAt x) (fun i h => h.IsStrIter s₁.heap.objs.size ty x t i) →
        Q (.ref s₁.heap.objs.size) { s₁ with heap := s₁.heap.push o } := by
      rintro ty o rfl W
      have hlen : x.cps.size = (x.cps.toList.map fun k => (AV.str ⟨#[k]⟩)).length := by simp
      rw [hlen] at W
      refine hQ _ _ _ _ _ [] _ ⟨k.push _, W, ⟨_, Heap.get?_push_size _ rfl, rfl, rfl⟩, ?_, ?_, ?_, ?_, ?_, ?_, ?_, fun _ h => h⟩
      · intro b hb
        simp at hb; subst hb
        exact k.dead hdead
      · rintro i hp' ⟨o, ho, _, hd⟩ b hb
        simp at hb; subst hb
        exact ⟨o, _, ho, hd⟩
      · rintro i hp' ⟨o, ho, _, hd⟩ b hb
        simp at hb; subst hb
        exact ⟨o, ho, fieldsPin hd⟩
      · intro b hb
        simp at hb; subst hb
        exact (R.keep k).vis.fresh hdead
      · intro p hp'; cases hp'
      · intro hid' i j v av h' _ _ hP hi
        obtain ⟨cc, u, e1, rfl⟩ := hP
        have : x.cps.toList[i]? = some cc := by rw [Array.getElem?_toList]; exact e1
        rw [List.getElem?_map, this] at hi
        cases hi
        exact vstr
      · intro b hb
        simp at hb; subst hb
        exact ⟨_, Heap.get?_push_size _ rfl, nofun⟩
    cases ha : x.cps.all (· < 128) with
    | false => exact wpAny_pyIter_wide ha (key _ _ rfl (Walks.strWide hh _ x t))
    | true => exact wpAny_pyIter_ascii ha (key _ _ rfl (Walks.strAscii hh _ x t))) fun _ _ x => x

/-- the zs from a on, n of them -/
def zs (a : Int) (n : Nat) : List AV := (List.range n).map fun i => .int (a + (i : Nat))
theorem range_at {a : Int} {n : Nat} {s s₁ : Shared} {Q : Value → Shared → Prop} (hh : c.A.handled = none) (R : Ready g c s) (k : Kp s s₁)
    (hQ : ∀ I fp wr P St xs s₂, Src1 g c s s₂ (zs a n) I fp wr P St xs → Q (.ref I) s₂) {hsz : Int} (hs : hsz = (n : Int)) {h : Heap} {t : Nat} (hk : ∀ b o, s₁.heap.get? b = some o → h.get? b = some o) (hle : s₁.heap.objs.size ≤ h.objs.size) :
    Q (.ref h.objs.size) { s₁ with heap := h.push { cls := .type "range_iterator", data := .fields #[rawInt a, rawInt hsz, rawInt 1] }, toks := t } := by
  subst hs
  have k₂ : Kp s { s₁ with heap := h, toks := t } := k.ext hk
  have W := Walks.range (prog := Pg) (w := g.w) (A := c.A) hh h.objs.size a 1 n
  have hlen : n = (zs a n).length := by simp [zs]
  have W' : Walks Pg g.w c.A h.objs.size [h.objs.size] [h.objs.size] (zs a n).length (fun i v => ∃ t, v = .int (a + i * 1) t) (fun i h' => IsRangeIter h' h.objs.size (a + (i : Nat) * 1) ((n : Int) - (i : Nat)) 1) := by
    rw [← hlen]; exact W
  have hdead : h.get? h.objs.size = none := get_none_of_ge (Nat.le_refl _)
  refine hQ _ _ _ _ _ [] _ ⟨k₂.push _, W', ?_, ?_, ?_, ?_, ?_, ?_, ?_, ?_, fun _ h => h⟩
  · show (h.push _).get? _ = _
    have e1 : (a + ((0 : Nat) : Int) * 1) = a := by simp
    have e2 : ((n : Int) - ((0 : Nat) : Int)) = n := by simp
    rw [e1, e2]
    exact Heap.get?_push_size _ rfl
  · intro b hb
    simp at hb; subst hb
    exact k₂.dead hdead
  · intro i hp' st b hb
    simp at hb; subst hb
    exact ⟨_, _, st, rfl⟩
  · intro i hp' st b hb
    simp at hb; subst hb
    exact ⟨_, st, fieldsPin rfl⟩
  · intro b hb
    simp at hb; subst hb
    exact (R.keep k₂).vis.fresh hdead
  · intro p hp'; cases hp'
  · intro hid' i j v av h' _ _ hP hi
    obtain ⟨u, rfl⟩ := hP
    simp only [zs, List.getElem?_map, Option.map_eq_some_iff] at hi
    obtain ⟨j', hj, rfl⟩ := hi
    have : j' = i := by
      have := List.getElem?_eq_some_iff.mp hj
      obtain ⟨h1, h2⟩ := this
      simpa using h2.symm
    subst this
    have e3 : a + (j' : Int) * 1 = a + j' := by omega
    rw [e3]
    exact vint
  · intro b hb
    simp at hb; subst hb
    exact ⟨_, Heap.get?_push_size _ rfl, nofun⟩
theorem src_range1 {e : Expr} {n : Nat} {p pos : Pos} (G : g.Ok) (N : FName g c "range" (.type "range")) (h : Ev g c e (.int n)) (hh : c.A.handled = none) (hn : (n : Int) < 2 ^ 62)
    (he : starEach [e] c.env = (false, eval e c.env) :: starEach [] c.env := by exact starE rfl _ _) : Src g c (.Call (.Name "range" p) [e] [] pos) (zs 0 n) := fun s Q E R hQ => by
  refine call_args G N (.inr (.inl ⟨_, rfl⟩)) (evs_cons' h evs_nil he) R (fun s' vs k R' hv => ?_) he rfl
  obtain ⟨v, r, rfl, hv1, hv2⟩ := hv.cons'
  obtain rfl := hv2.nil'
  obtain ⟨t, rfl⟩ := hv1.int'
  refine call_range_1 (wpAny_pyIter_range (IsRange.new ..) (small_one (by decide) (by decide) (by omega) hn) ?_)
  exact range_at (t := s'.toks + 1 + 1) hh R k hQ (by rw [rangeSize_one]; split <;> omega) (fun _ _ e => Heap.get?_push_of_some _ e) (by simp [Heap.size_push])
theorem src_range2 {e₁ e₂ : Expr} {a b : Int} {n : Nat} {p pos : Pos} (G : g.Ok) (N : FName g c "range" (.type "range")) (h₁ : Ev g c e₁ (.int a)) (h₂ : Ev g c e₂ (.int b)) (hh : c.A.handled = none)
    (ha : -(2 ^ 62) ≤ a) (ha' : a < 2 ^ 62) (hb : -(2 ^ 62) ≤ b) (hb' : b < 2 ^ 62) (hn : (n : Int) = b - a)
    (he : starEach [e₁, e₂] c.env = (false, eval e₁ c.env) :: starEach [e₂] c.env := by exact starE rfl _ _) (he2 : starEach [e₂] c.env = (false, eval e₂ c.env) :: starEach [] c.env := by exact starE rfl _ _) (hst : (starEach [e₂] c.env).any (·.1) = false := by rfl) :
    Src g c (.Call (.Name "range" p) [e₁, e₂] [] pos) (zs a n) := fun s Q E R hQ => by
  refine call_args G N (.inr (.inl ⟨_, rfl⟩)) (evs_cons' h₁ (evs_cons' h₂ evs_nil he2) he) R (fun s' vs k R' hv => ?_) he hst
  obtain ⟨v, r, rfl, hv1, hv2⟩ := hv.cons'
  obtain ⟨v', r', rfl, hv3, hv4⟩ := hv2.cons'
  obtain rfl := hv4.nil'
  obtain ⟨t, rfl⟩ := hv1.int'
  obtain ⟨u, rfl⟩ := hv3.int'
  refine call_range_2 (wpAny_pyIter_range (IsRange.new ..) (small_one ha ha' hb hb') ?_)
  exact range_at (t := s'.toks + 1) hh R k hQ (by rw [rangeSize_one]; split <;> omega) (fun _ _ e => Heap.get?_push_of_some _ e) (by simp [Heap.size_push])
end
end Mine
end
section
open PySem PySem.W PyProof.Rows
set_option Elab.async false
set_option linter.unusedVariables false
namespace Mine
section
variable {g : G} {c : Fc} {s₀ s s' : Shared}

/-- the values of the one are those of the other -/
def SubL : List (Str × AV) → List (Str × AV) → Prop
  | [], _ => True
  | p :: r, l => l.lookup p.1 = some p.2 ∧ SubL r l
theorem SubL.look : ∀ {l' l : List (Str × AV)}, SubL l' l → ∀ {x : Str} {av : AV}, l'.lookup x = some av → l.lookup x = some av
  | [], _, _, _, _, h => by cases h
  | (y, b) :: r, l, S, x, av, h => by
    by_cases q : x = y
    · subst q
      simp only [List.lookup_cons, beq_self_eq_true, Option.some.injEq] at h
      subst h; exact S.1
    · rw [List.lookup_cons_ne q] at h
      exact SubL.look S.2 h
theorem SubL.tail : ∀ {l' l : List (Str × AV)}, SubL l' l → ∀ {y : Str} {b : AV}, (∀ p ∈ l', p.1 ≠ y) → SubL l' ((y, b) :: l)
  | [], _, _, _, _, _ => trivial
  | p :: r, l, S, y, b, h => ⟨by rw [List.lookup_cons_ne (h p (.head _))]; exact S.1, SubL.tail S.2 fun q hq => h q (.tail _ hq)⟩
theorem SubL.refl' : ∀ (l : List (Str × AV)), (l.map (·.1)).Nodup → SubL l l
  | [], _ => trivial
  | (y, b) :: r, h => by
    rw [List.map_cons, List.nodup_cons] at h
    exact ⟨by simp, (SubL.refl' r h.2).tail fun p hp e => h.1 (List.mem_map.mpr ⟨p, hp, e⟩)⟩

theorem InF.sub {ρ : List (Str × AV)} (F : InF g c s₀ s) (h : SubL ρ c.ρ) : InF g { c with ρ := ρ } s₀ s := by
  refine ⟨F.same, F.keep, F.on, ⟨?_, fun y av hy hr => F.vis.cel y av hy (h.look hr), F.vis.own, F.vis.pin, F.vis.ext, F.vis.cex⟩, F.nL, F.nC, F.apart⟩
  obtain ⟨m, hn, hm⟩ := F.vis.loc
  exact ⟨m, hn, fun y av hy hr => hm y av hy (h.look hr)⟩
theorem InF.ext {xs : List (Value × AV)} (F : InF g c s₀ s) (h : ∀ p ∈ xs, Val c.hid s.heap p.2 p.1) : InF g { c with ext := xs ++ c.ext } s₀ s :=
  ⟨F.same, F.keep, F.on, ⟨F.vis.loc, F.vis.cel, F.vis.own, F.vis.pin, fun p hp => (List.mem_append.mp hp).elim (h p) (F.vis.ext p), F.vis.cex⟩, F.nL, F.nC, F.apart⟩
theorem InF.unext {xs : List (Value × AV)} (F : InF g { c with ext := xs ++ c.ext } s₀ s) : InF g c s₀ s :=
  ⟨F.same, F.keep, F.on, ⟨F.vis.loc, F.vis.cel, F.vis.own, F.vis.pin, fun p hp => F.vis.ext p (List.mem_append_right _ hp), F.vis.cex⟩, F.nL, F.nC, F.apart⟩
theorem InF.pin {ps : List (Addr × Obj)} (F : InF g c s₀ s) (h : ∀ p ∈ ps, s.heap.get? p.1 = some p.2 ∧ ¬ c.hid p.1 ∧ Pinnable p.2) : InF g { c with pins := ps ++ c.pins } s₀ s :=
  ⟨F.same, F.keep, F.on, ⟨F.vis.loc, F.vis.cel, F.vis.own, fun p hp => (List.mem_append.mp hp).elim (h p) (F.vis.pin p), F.vis.ext, F.vis.cex⟩, F.nL, F.nC, F.apart⟩
theorem InF.unpin {ps : List (Addr × Obj)} (F : InF g { c with pins := ps ++ c.pins } s₀ s) : InF g c s₀ s :=
  ⟨F.same, F.keep, F.on, ⟨F.vis.loc, F.vis.cel, F.vis.own, fun p hp => F.vis.pin p (List.mem_append_right _ hp), F.vis.ext, F.vis.cex⟩, F.nL, F.nC, F.apart⟩

/-- what stands at these places -/
def snap (h : Heap) (fp : List Addr) : List (Addr × Obj) := fp.filterMap fun b => (h.get? b).map fun o => (b, o)
theorem mem_snap {h : Heap} {fp : List Addr} {p : Addr × Obj} : p ∈ snap h fp ↔ p.1 ∈ fp ∧ h.get? p.1 = some p.2 := by
  unfold snap
  rw [List.mem_filterMap]
  constructor
  · rintro ⟨b, hb, e⟩
    obtain ⟨o, ho, rfl⟩ := Option.map_eq_some_iff.mp e
    exact ⟨hb, ho⟩
  · rintro ⟨h1, h2⟩
    exact ⟨p.1, h1, by rw [h2]; rfl⟩

/-- the next item of a source, the block as it was -/
theorem next_item {c₀ : Fc} {sS s₂ : Shared} {items : List AV} {I : Addr} {fp wr : List Addr} {P : Nat → Value → Prop} {St : Nat → Heap → Prop} {xs : List (Value × AV)} {i : Nat} {av : AV} {Q : Option Value → Shared → Prop} {E : Value → Shared → Prop}
    (S : Src1 g c₀ sS s₂ items I fp wr P St xs) (hfp : ∀ b ∈ fp, ¬ c.hid b) (hA : c.A = c₀.A) (hpw : ∀ p ∈ c.pins, p.1 ∉ wr) (hxs : ∀ p ∈ xs, p ∈ c.ext) (h0 : ∀ b ∈ wr, s₀.heap.get? b = none)
    (F : InF g c s₀ s) (st : St i s.heap) (hi : items[i]? = some av)
    (h : ∀ v s', InF g { c with pins := snap s'.heap fp ++ c.pins } s₀ s' → St (i + 1) s'.heap → Val c.hid s'.heap av v → Q (some v) s') : wpAny (model Pg g.w) c.A (pyNext (.ref I)) Q E s := by
  have hlt : i < items.length := (List.getElem?_eq_some_iff.mp hi).1
  rw [hA]
  refine S.W.item i s Q E hlt st fun v h' tk hP st' hk => ?_
  have F' : InF g c s₀ { s with heap := h', toks := tk } := by
    refine F.turn (fun b o e => hk b o (fun q => by rw [h0 b q] at e; cases e) (F.keep b o e)) (F.vis.but (wr := fun b => b ∈ wr) (fun b o q e => hk b o q e) (fun b hb o e => ?_) hpw)
    obtain ⟨o', vs, ho', hd⟩ := S.wrf i _ st b hb
    rw [e] at ho'; cases ho'
    exact ⟨vs, hd⟩
  refine h v _ (F'.pin fun p hp => ?_) st' ?_
  · obtain ⟨h1, h2⟩ := mem_snap.mp hp
    obtain ⟨o, ho, hpin⟩ := S.fpp _ _ st' p.1 h1
    have : o = p.2 := Option.some.inj (ho.symm.trans h2)
    subst this
    exact ⟨h2, hfp _ h1, hpin⟩
  · exact S.val _ i (i + 1) v av h' (fun p hp => F'.vis.ext p (hxs p hp)) st' hP hi
theorem next_end {c₀ : Fc} {sS s₂ : Shared} {items : List AV} {I : Addr} {fp wr : List Addr} {P : Nat → Value → Prop} {St : Nat → Heap → Prop} {xs : List (Value × AV)} {Q : Option Value → Shared → Prop} {E : Value → Shared → Prop}
    (S : Src1 g c₀ sS s₂ items I fp wr P St xs) (hA : c.A = c₀.A) (hpw : ∀ p ∈ c.pins, p.1 ∉ wr) (h0 : ∀ b ∈ wr, s₀.heap.get? b = none)
    (F : InF g c s₀ s) (st : St items.length s.heap) (h : ∀ s', InF g c s₀ s' → Q none s') : wpAny (model Pg g.w) c.A (pyNext (.ref I)) Q E s := by
  rw [hA]
  refine S.W.done s Q E st fun h' tk hk => h _ ?_
  refine F.turn (fun b o e => hk b o (fun q => by rw [h0 b q] at e; cases e) (F.keep b o e)) (F.vis.but (wr := fun b => b ∈ wr) (fun b o q e => hk b o q e) (fun b hb o e => ?_) hpw)
  obtain ⟨o', vs, ho', hd⟩ := S.wrf _ _ st b hb
  rw [e] at ho'; cases ho'
  exact ⟨vs, hd⟩

/-- how a name of the block is bound -/
def Bind (c : Fc) (x : Str) : Prop := c.env.scope.kind = .function ∧ (c.env.kindOf x = some .local ∨ (c.env.kindOf x = some .cell ∧ c.asg x = true ∧ (c.env.cells.lookup x).isSome = true))
theorem st_bind {M : Model} {A : Around} {x : Str} {v : Value} {av : AV} {Q : Unit → Shared → Prop} {E : Value → Shared → Prop} (B : Bind c x) (F : InF g c s₀ s) (hv : Val c.hid s.heap av v)
    (h : ∀ s', InF g (c.set x av) s₀ s' → Q () s') : wpAny M A (storeName c.env x v) Q E s := by
  rcases B.2 with q | ⟨q, r, e⟩
  · exact st_local F hv (fun s' F' _ => h s' F') q B.1
  · obtain ⟨a, ha⟩ := Option.isSome_iff_exists.mp e
    exact st_cell F hv ha r h q B.1

/-- a turn's end: on to the next, or out by a return -/
def Go (g : G) (c : Fc) (s₀ : Shared) (I : Prop) (R : Flow → Shared → Prop) (f : Flow) (s : Shared) : Prop := match f with
  | .next => I ∧ InF g c s₀ s
  | .cont => I ∧ InF g c s₀ s
  | .brk => False
  | .ret v => R (.ret v) s

theorem dead₀ (F : InF g c s₀ s) {b : Addr} (h : s.heap.get? b = none) : s₀.heap.get? b = none := F.kp.dead h

/-- a for loop: the block's names and its own lists after i turns are said by ρs and os -/
theorem ex_for {x : Str} {px pos : Pos} {iter : Expr} {body : List Stmt} {items : List AV} {R : Flow → Shared → Prop} {E : Value → Shared → Prop} (B : Bind c x) (hS : Src g c iter items) (F : InF g c s₀ s)
    (Inv : Nat → Prop) (ρs : Nat → List (Str × AV)) (os : Nat → Addr → Option (List AV)) (hos : ∀ i a, (os i a).isSome = (c.own a).isSome) (ho0 : os 0 = c.own) (hρ0 : SubL (ρs 0) c.ρ) (hI0 : Inv 0)
    (hbody : ∀ i av, items[i]? = some av → Inv i → ∀ (s₁ : Shared) (xs : List (Value × AV)) (ps : List (Addr × Obj)) (E' : Value → Shared → Prop),
      InF g { c with ρ := (x, av) :: ρs i, own := os i, ext := xs ++ c.ext, pins := ps ++ c.pins } s₀ s₁ →
      wpAny (model Pg g.w) c.A (execs body c.env) (Go g { c with ρ := ρs (i + 1), own := os (i + 1), ext := xs ++ c.ext, pins := ps ++ c.pins } s₀ (Inv (i + 1)) R) E' s₁)
    (h : ∀ s', Inv items.length → InF g { c with ρ := ρs items.length, own := os items.length } s₀ s' → R .next s')
    (hs : ∀ x, foldedSetIterable iter c.env x = pure x := by intro _; rfl) (hlt : ∀ it v, letOwnedTupleGo (.Name x px) it v = pure () := by intro _ _; rfl) :
    wpAny (model Pg g.w) c.A (exec (.For (.Name x px) iter body [] pos) c.env) R E s := by
  refine wpAny_For (hS s _ E F.ready fun I fp wr P St xs s₂ S => ?_) hs
  have hpw : ∀ p ∈ c.pins, p.1 ∉ wr := fun p hp q => by
    have := (F.vis.pin p hp).1
    rw [S.wrn _ q] at this; cases this
  have h0 : ∀ b ∈ wr, s₀.heap.get? b = none := fun b hb => dead₀ F (S.wrn b hb)
  have hhid : ∀ i a, Fc.hid { c with ρ := ρs i, own := os i, ext := xs ++ c.ext } a ↔ c.hid a := fun i a => by
    unfold Fc.hid
    dsimp only
    rw [hos i a]
  refine codeAny_forLoop_any (fun n s' => ∃ i, n = items.length - i ∧ i ≤ items.length ∧ Inv i ∧ St i s'.heap ∧ InF g { c with ρ := ρs i, own := os i, ext := xs ++ c.ext } s₀ s') ?_ items.length
    ⟨0, rfl, Nat.zero_le _, hI0, S.st, ?_⟩
  · rintro n s₁ ⟨i, rfl, hi, hI, st, F₁⟩
    by_cases q : i < items.length
    · have hav : items[i]? = some items[i] := by simp [q]
      refine next_item (c := { c with ρ := ρs i, own := os i, ext := xs ++ c.ext }) S (fun b hb q => S.fph b hb ((hhid i b).mp q)) rfl hpw (fun p hp => List.mem_append_left _ hp) h0 F₁ st hav fun v s₂ F₂ st₂ hv => ?_
      dsimp only
      refine wpAny_of_eq (hlt _ _) ?_
      refine wpAny_assign_Name (st_bind (c := { c with ρ := ρs i, own := os i, ext := xs ++ c.ext, pins := snap s₂.heap fp ++ c.pins }) B F₂ hv fun s₃ F₃ => ?_)
      refine wpAny_mono (hbody i items[i] hav hI s₃ xs (snap s₂.heap fp) _ F₃) (fun f s₄ h₄ => ?_) fun _ _ x => x
      have fin : Inv (i + 1) ∧ InF g { c with ρ := ρs (i + 1), own := os (i + 1), ext := xs ++ c.ext, pins := snap s₂.heap fp ++ c.pins } s₀ s₄ →
          ∃ m, m < items.length - i ∧ ∃ j, m = items.length - j ∧ j ≤ items.length ∧ Inv j ∧ St j s₄.heap ∧ InF g { c with ρ := ρs j, own := os j, ext := xs ++ c.ext } s₀ s₄ := fun ⟨hI', F₄⟩ =>
        ⟨items.length - (i + 1), by omega, i + 1, rfl, q, hI', S.W.frame (i + 1) _ _ st₂ fun b hb o e => (F₄.vis.pin (b, o) (List.mem_append_left _ (mem_snap.mpr ⟨hb, e⟩))).1,
          InF.unpin (c := { c with ρ := ρs (i + 1), own := os (i + 1), ext := xs ++ c.ext }) (ps := snap s₂.heap fp) F₄⟩
      cases f with
      | next => exact fin h₄
      | cont => exact fin h₄
      | brk => exact h₄.elim
      | ret v => exact h₄
    · obtain rfl : i = items.length := by omega
      refine next_end (c := { c with ρ := ρs items.length, own := os items.length, ext := xs ++ c.ext }) S rfl hpw h0 F₁ st fun s₂ F₂ => ?_
      dsimp only
      exact wpAny_execs_nil (h s₂ hI (InF.unext (c := { c with ρ := ρs items.length, own := os items.length }) (xs := xs) F₂))
  · have F₂ := (F.more S.kp).ext S.xsv
    have F₃ := F₂.sub (ρ := ρs 0) hρ0
    have e : ({ c with ρ := ρs 0, own := os 0, ext := xs ++ c.ext } : Fc) = { c with ρ := ρs 0, ext := xs ++ c.ext } := by rw [ho0]
    rw [e]
    exact F₃
end
end Mine
end
section
open PySem PySem.W PyProof.Rows
set_option Elab.async false
set_option linter.unusedVariables false
namespace Mine

def cloFrom (cells : List (Str × Addr)) : List (Str × NameKind) → List (Str × Addr) → List (Str × Addr)
  | [], acc => acc
  | (n, k) :: r, acc => if k == .free then cloFrom cells r ((n, (cells.lookup n).getD 0) :: acc) else cloFrom cells r acc
theorem closureFor_eq {scope : Scope} {env : Env} (h : ∀ p ∈ scope.names, p.2 = .free → (env.cells.lookup p.1).isSome = true) : closureFor scope env = pure (cloFrom env.cells scope.names []) := by
  have key : ∀ (f : Str × NameKind → List (Str × Addr) → Sem (ForInStep (List (Str × Addr)))),
      (∀ n k cs, f (n, k) cs = if k == .free then (do let a ← cellOf env n; pure (.yield ((n, a) :: cs))) else pure (.yield cs)) →
      ∀ (names : List (Str × NameKind)) (acc : List (Str × Addr)), (∀ p ∈ names, p.2 = .free → (env.cells.lookup p.1).isSome = true) → forIn names acc f = pure (cloFrom env.cells names acc) := by
    intro f hf names
    induction names with
    | nil => intro acc _; rfl
    | cons p r ih =>
      intro acc hp
      obtain ⟨n, k⟩ := p
      rw [List.forIn_cons, hf]
      unfold cloFrom
      by_cases q : (k == NameKind.free) = true
      · obtain ⟨a, ha⟩ := Option.isSome_iff_exists.mp (hp (n, k) (.head _) (by simpa using q))
        rw [if_pos q, if_pos q]
        have : cellOf env n = pure a := by unfold cellOf; rw [show env.cells.lookup n = some a from ha]
        rw [this, show (env.cells.lookup n).getD 0 = a by rw [show env.cells.lookup n = some a from ha]; rfl]
        exact ih _ fun z hz => hp z (.tail _ hz)
      · rw [if_neg q, if_neg q]
        exact ih _ fun z hz => hp z (.tail _ hz)
  unfold closureFor
  exact (congrArg (· >>= fun r => pure r) (key _ (fun n k cs => by dsimp only <;> split <;> rfl) scope.names [] h)).trans rfl
theorem cloFrom_sub {cells : List (Str × Addr)} : ∀ (names : List (Str × NameKind)) (acc : List (Str × Addr)), (∀ y a, acc.lookup y = some a → cells.lookup y = some a) → (∀ p ∈ names, p.2 = .free → (cells.lookup p.1).isSome = true) →
    ∀ y a, (cloFrom cells names acc).lookup y = some a → cells.lookup y = some a
  | [], acc, h, _, y, a, e => h y a e
  | (n, k) :: r, acc, h, hp, y, a, e => by
    unfold cloFrom at e
    by_cases q : (k == NameKind.free) = true
    · rw [if_pos q] at e
      refine cloFrom_sub r _ (fun z b hz => ?_) (fun p hq => hp p (.tail _ hq)) y a e
      by_cases w : z = n
      · subst w
        simp only [List.lookup_cons, beq_self_eq_true, Option.some.injEq] at hz
        obtain ⟨a', ha'⟩ := Option.isSome_iff_exists.mp (hp (z, k) (.head _) (by simpa using q))
        have ha'' : cells.lookup z = some a' := ha'
        rw [ha''] at hz ⊢
        simp at hz; rw [hz]
      · rw [List.lookup_cons_ne w] at hz
        exact h z b hz
    · rw [if_neg q] at e
      exact cloFrom_sub r _ h (fun p hq => hp p (.tail _ hq)) y a e
theorem cloFrom_has {cells : List (Str × Addr)} : ∀ (names : List (Str × NameKind)) (acc : List (Str × Addr)) (y : Str), ((acc.lookup y).isSome = true ∨ (y, NameKind.free) ∈ names) → ((cloFrom cells names acc).lookup y).isSome = true
  | [], acc, y, h => by
    rcases h with h | h
    · exact h
    · cases h
  | (n, k) :: r, acc, y, h => by
    unfold cloFrom
    by_cases q : (k == NameKind.free) = true
    · rw [if_pos q]
      refine cloFrom_has r _ y ?_
      by_cases w : y = n
      · left; subst w; simp
      · rw [List.lookup_cons_ne w]
        rcases h with h | h
        · exact .inl h
        · rcases List.mem_cons.mp h with z | z
          · cases z; exact absurd rfl w
          · exact .inr z
    · rw [if_neg q]
      refine cloFrom_has r _ y ?_
      rcases h with h | h
      · exact .inl h
      · rcases List.mem_cons.mp h with z | z
        · cases z; exact absurd rfl q
        · exact .inr z
/-- the cells of a new block: those handed to it, and its own, which are new -/
theorem cellsFrom_spec : ∀ (names : List (Str × NameKind)) (h : Heap) (acc : List (Str × Addr)),
    (∀ y a, (cellsFrom h.objs.size names acc).lookup y = some a → acc.lookup y = some a ∨ (h.objs.size ≤ a ∧ (pushCells h names).IsCell a none ∧ (y, NameKind.cell) ∈ names)) ∧
    (∀ y, (y, NameKind.cell) ∈ names → ∃ a, (cellsFrom h.objs.size names acc).lookup y = some a) ∧
    (∀ y a, (∀ k, (y, k) ∈ names → k ≠ .cell) → acc.lookup y = some a → (cellsFrom h.objs.size names acc).lookup y = some a) ∧
    (∀ y z a, h.objs.size ≤ a → (∀ x b, acc.lookup x = some b → b < h.objs.size) → (cellsFrom h.objs.size names acc).lookup y = some a → (cellsFrom h.objs.size names acc).lookup z = some a → y = z)
  | [], h, acc => ⟨fun y a e => .inl e, fun y hy => (nomatch hy), fun y a _ e => e, fun y z a ha hb e e' => absurd (hb y a e) (Nat.not_lt.mpr ha)⟩
  | (n, k) :: r, h, acc => by
    unfold cellsFrom pushCells
    by_cases q : (k == NameKind.cell) = true
    · have hk : k = .cell := by simpa using q
      subst hk
      simp only [beq_self_eq_true, if_true]
      have ih := cellsFrom_spec r (h.push { cls := .type "cell", data := .cell none }) ((n, h.objs.size) :: acc)
      rw [Heap.size_push] at ih
      obtain ⟨i1, i2, i3, i4⟩ := ih
      have new : ∀ y a, ((n, h.objs.size) :: acc).lookup y = some a → acc.lookup y = some a ∨ (y = n ∧ a = h.objs.size) := fun y a e => by
        by_cases w : y = n
        · subst w
          simp only [List.lookup_cons, beq_self_eq_true, Option.some.injEq] at e
          exact .inr ⟨rfl, e.symm⟩
        · rw [List.lookup_cons_ne w] at e; exact .inl e
      refine ⟨fun y a e => ?_, fun y hy => ?_, fun y a hy e => ?_, fun y z a ha hb e e' => ?_⟩
      · rcases i1 y a e with z | ⟨z1, z2, z3⟩
        · rcases new y a z with z | ⟨rfl, rfl⟩
          · exact .inl z
          · exact .inr ⟨Nat.le_refl _, ⟨_, pushCells_keeps _ _ _ _ (Heap.get?_push_size _ rfl), rfl⟩, .head _⟩
        · exact .inr ⟨by omega, z2, .tail _ z3⟩
      · by_cases w : (y, NameKind.cell) ∈ r
        · exact i2 y w
        · rcases List.mem_cons.mp hy with z | z
          · cases z
            by_cases v : ∃ k, (n, k) ∈ r ∧ k = NameKind.cell
            · obtain ⟨k, h1, rfl⟩ := v; exact absurd h1 w
            · exact ⟨h.objs.size, i3 n _ (fun k hk e => v ⟨k, hk, e⟩) (by simp)⟩
          · exact absurd z w
      · refine i3 y a (fun k hk => hy k (.tail _ hk)) ?_
        have : y ≠ n := by rintro rfl; exact hy .cell (.head _) rfl
        rw [List.lookup_cons_ne this]; exact e
      · have hb' : ∀ x b, ((n, h.objs.size) :: acc).lookup x = some b → b < h.objs.size + 1 := fun x b hx => by
          rcases new x b hx with w | ⟨_, w⟩
          · exact Nat.lt_succ_of_lt (hb x b w)
          · exact w ▸ Nat.lt_succ_self _
        by_cases w : h.objs.size + 1 ≤ a
        · exact i4 y z a w hb' e e'
        · have ea : a = h.objs.size := by omega
          subst ea
          have one : ∀ y, (cellsFrom (h.objs.size + 1) r ((n, h.objs.size) :: acc)).lookup y = some h.objs.size → y = n := fun y e => by
            rcases i1 y _ e with w | ⟨w, _⟩
            · rcases new y _ w with w | ⟨w, _⟩
              · exact absurd (hb y _ w) (Nat.lt_irrefl _)
              · exact w
            · omega
          rw [one y e, one z e']
    · rw [if_neg q, if_neg q]
      obtain ⟨i1, i2, i3, i4⟩ := cellsFrom_spec r h acc
      refine ⟨fun y a e => (i1 y a e).imp id fun ⟨z1, z2, z3⟩ => ⟨z1, z2, .tail _ z3⟩, fun y hy => ?_, fun y a hy e => i3 y a (fun k hk => hy k (.tail _ hk)) e, i4⟩
      rcases List.mem_cons.mp hy with z | z
      · cases z; exact absurd rfl q
      · exact i2 y z

theorem lookup_relabel_cell {env : Env} : ∀ {names : List (Str × NameKind)} {x : Str}, (relabel { kind := .function, names := names, isGenerator := false, isCoroutine := false } env).names.lookup x = (names.lookup x).map fun k => if (k == .free && env.scope.kind == .function && env.kindOf x == some .cell) then .cell else k
  | [], _ => rfl
  | (n, k) :: r, x => by
    have ih := @lookup_relabel_cell env r x
    show List.lookup x ((if (k == NameKind.free && env.scope.kind == .function && env.kindOf n == some .cell) = true then (n, NameKind.cell) else (n, k)) :: (relabel { kind := .function, names := r, isGenerator := false, isCoroutine := false } env).names) = _
    by_cases hx : x = n
    · subst hx
      simp only [List.lookup_cons, beq_self_eq_true, Option.map_some]
      split <;> simp
    · rw [List.lookup_cons_ne hx]
      have : (if (k == NameKind.free && env.scope.kind == .function && env.kindOf n == some .cell) = true then (n, NameKind.cell) else (n, k)).1 = n := by split <;> rfl
      generalize (if (k == NameKind.free && env.scope.kind == .function && env.kindOf n == some .cell) = true then (n, NameKind.cell) else (n, k)) = z at this ⊢
      obtain ⟨z1, z2⟩ := z
      cases this
      rw [List.lookup_cons_ne hx]
      exact ih
end Mine
end
section
open PySem PySem.W PyProof.Rows
set_option Elab.async false
set_option linter.unusedVariables false
namespace Mine
section
variable {g : G} {c : Fc} {s₀ s s' : Shared}

def compE (c : Fc) (scope : Scope) (C : Addr) : Env :=
  { scope := relabel scope c.env, locals := C, globals := c.env.globals, cells := cellsFrom (C + 1) scope.names (cloFrom c.env.cells scope.names []), qual := c.env.qual, func := none, code := c.env.code, frame := c.env.frame, builtins := c.env.builtins }
/-- the block of a comprehension that fills the list at D -/
def compF (c : Fc) (scope : Scope) (C D : Addr) (l : List AV) (ρ : List (Str × AV)) (ps : List (Addr × Obj)) (xs : List (Value × AV)) : Fc :=
  { env := compE c scope C, A := c.A, own := fun a => if a = D then some l else c.own a, pins := ps, ext := xs, asg := fun y => scope.names.lookup y == some .cell, ρ := ρ }
/-- what a comprehension sees of the block around -/
def frees (c : Fc) (scope : Scope) : List (Str × AV) := c.ρ.filter fun p => scope.names.lookup p.1 == some .free
theorem lookup_filter {α : Type} (f : Str → Bool) : ∀ (l : List (Str × α)) (y : Str), (l.filter fun p => f p.1).lookup y = if f y then l.lookup y else none
  | [], y => by simp
  | (n, a) :: r, y => by
    have ih := lookup_filter f r y
    by_cases q : y = n
    · subst q
      cases h : f y
      · rw [List.filter_cons_of_neg (by simp [h]), ih, h]
        simp
      · rw [List.filter_cons_of_pos (by simp [h])]
        simp
    · rw [List.lookup_cons_ne q]
      cases h : f n
      · rw [List.filter_cons_of_neg (by simp [h])]; exact ih
      · rw [List.filter_cons_of_pos (by simp [h]), List.lookup_cons_ne q]; exact ih
theorem frees_look {scope : Scope} {y : Str} {av : AV} (h : (frees c scope).lookup y = some av) : scope.names.lookup y = some .free ∧ c.ρ.lookup y = some av := by
  unfold frees at h
  rw [lookup_filter (fun y => scope.names.lookup y == some .free)] at h
  split at h
  · rename_i q; exact ⟨by simpa using q, h⟩
  · cases h

structure CompOk (c : Fc) (scope : Scope) : Prop where
  kind : scope.kind = .function
  nd : (scope.names.map (·.1)).Nodup
  fr : ∀ p ∈ scope.names, p.2 = .free → (c.env.cells.lookup p.1).isSome = true ∧ (c.env.kindOf p.1 = some .cell ∨ c.env.kindOf p.1 = some .free)
def compOkB (env : Env) (scope : Scope) : Bool :=
  scope.kind == .function && scope.names.all (fun p => p.2 != .free || ((env.cells.lookup p.1).isSome && (env.kindOf p.1 == some .cell || env.kindOf p.1 == some .free)))
theorem CompOk.of {scope : Scope} (h : compOkB c.env scope = true) (nd : (scope.names.map (·.1)).Nodup) : CompOk c scope := by
  unfold compOkB at h
  rw [Bool.and_eq_true, List.all_eq_true] at h
  refine ⟨by simpa using h.1, nd, fun p hp q => ?_⟩
  have := h.2 p hp
  rw [q] at this
  simpa using this
theorem lookup_of_nodup : ∀ {l : List (Str × NameKind)}, (l.map (·.1)).Nodup → ∀ {n : Str} {k : NameKind}, (n, k) ∈ l → l.lookup n = some k
  | (m, j) :: r, nd, n, k, h => by
    rw [List.map_cons, List.nodup_cons] at nd
    rcases List.mem_cons.mp h with e | h'
    · cases e; simp
    · have : n ≠ m := fun e => nd.1 (List.mem_map.mpr ⟨(n, k), h', e⟩)
      rw [List.lookup_cons_ne this]
      exact lookup_of_nodup nd.2 h'
theorem cloFrom_mem {cells : List (Str × Addr)} : ∀ (names : List (Str × NameKind)) (acc : List (Str × Addr)) (y : Str) (a : Addr), (cloFrom cells names acc).lookup y = some a → acc.lookup y = some a ∨ (y, NameKind.free) ∈ names
  | [], acc, y, a, e => .inl e
  | (n, k) :: r, acc, y, a, e => by
    unfold cloFrom at e
    by_cases q : (k == NameKind.free) = true
    · rw [if_pos q] at e
      have hk : k = .free := by simpa using q
      subst hk
      rcases cloFrom_mem r _ y a e with z | z
      · by_cases w : y = n
        · subst w; exact .inr (.head _)
        · rw [List.lookup_cons_ne w] at z; exact .inl z
      · exact .inr (.tail _ z)
    · rw [if_neg q] at e
      exact (cloFrom_mem r _ y a e).imp id (.tail _)
theorem relabel_look (scope : Scope) (env : Env) (x : Str) : (relabel scope env).names.lookup x = (scope.names.lookup x).map fun k => if (k == .free && env.scope.kind == .function && env.kindOf x == some .cell) then .cell else k :=
  lookup_relabel_cell

theorem new_comp_env {M : Model} {A : Around} {E : Value → Shared → Prop} {scope : Scope} {globals : Addr} {cl : List (Str × Addr)} {qual : Str} {outer : Env} {Q : Env → Shared → Prop}
    (hQ : Q { scope := scope, locals := s.heap.objs.size, globals := globals, cells := cellsFrom (s.heap.objs.size + 1) scope.names cl, qual := qual, func := none, code := outer.code, frame := outer.frame, builtins := outer.builtins }
      { s with heap := pushCells (s.heap.push { cls := .type "dict", data := .dict #[] }) scope.names }) :
    wpAny M A (newFunctionEnv scope globals cl [] qual none .none (some outer)) Q E s := by
  simp only [newFunctionEnv, Option.isSome_some, if_true]
  refine wpAny_bind (wpAny_alloc ?_)
  refine wpAny_bind (wpAny_layCells _ (fun name kind cells => by cases hkc : kind == NameKind.cell <;> simp) _ _ _ _ ?_)
  rw [show ({ s with heap := s.heap.push { cls := .type "dict", data := .dict #[] } } : Shared).heap.objs.size = s.heap.objs.size + 1 from Heap.size_push ..]
  exact wpAny_bind (wpAny_pure (wpAny_pure hQ))

/-- the block of a comprehension as it is made: behind the state s₂, whose next place is the list's -/
theorem comp_begin {scope : Scope} {s₂ : Shared} (ok : CompOk c scope) (R : Ready g c s) (k : Kp s s₂) :
    InF g (compF c scope (s₂.heap.objs.size + 1) s₂.heap.objs.size [] (frees c scope) c.pins c.ext) s
      { s₂ with heap := pushCells ((s₂.heap.push { cls := .type "list", data := .seq #[] }).push { cls := .type "dict", data := .dict #[] }) scope.names } := by
  have hD : s₂.heap.get? s₂.heap.objs.size = none := get_none_of_ge (Nat.le_refl _)
  have hsz : (s₂.heap.push { cls := .type "list", data := .seq #[] }).objs.size = s₂.heap.objs.size + 1 := Heap.size_push ..
  have hsz2 : ((s₂.heap.push { cls := .type "list", data := .seq #[] }).push { cls := .type "dict", data := .dict #[] }).objs.size = s₂.heap.objs.size + 1 + 1 := by rw [Heap.size_push, hsz]
  have hC : s₂.heap.get? (s₂.heap.objs.size + 1) = none := get_none_of_ge (Nat.le_succ _)
  have keep₂ : ∀ b o, s₂.heap.get? b = some o → (pushCells ((s₂.heap.push { cls := .type "list", data := .seq #[] }).push { cls := .type "dict", data := .dict #[] }) scope.names).get? b = some o :=
    fun b o e => pushCells_keeps _ _ b o (Heap.get?_push_of_some _ (Heap.get?_push_of_some _ e))
  have keep : ∀ b o, s.heap.get? b = some o → (pushCells ((s₂.heap.push { cls := .type "list", data := .seq #[] }).push { cls := .type "dict", data := .dict #[] }) scope.names).get? b = some o :=
    fun b o e => keep₂ b o (k.heap b o e)
  have hDs := k.dead hD
  have hCs := k.dead hC
  have R₂ := R.keep k
  have clo := fun p hp q => (ok.fr p hp q).1
  obtain ⟨p1, p2, p3, p4⟩ := cellsFrom_spec scope.names ((s₂.heap.push { cls := .type "list", data := .seq #[] }).push { cls := .type "dict", data := .dict #[] }) (cloFrom c.env.cells scope.names [])
  rw [hsz2] at p1 p2 p3 p4
  have cloLt : ∀ x b, (cloFrom c.env.cells scope.names []).lookup x = some b → b < s₂.heap.objs.size := fun x b e => by
    have := cloFrom_sub scope.names [] (fun y a e => by cases e) clo x b e
    obtain ⟨v, hv⟩ := R₂.vis.cex x b this
    exact hv.lt
  have hid' : ∀ {a : Addr} {its : Array Value}, s.heap.PlainList a its → (compF c scope (s₂.heap.objs.size + 1) s₂.heap.objs.size [] (frees c scope) c.pins c.ext).hid a → c.hid a := by
    rintro a its ⟨n, e⟩ q
    unfold Fc.hid compF at q
    dsimp only at q
    split at q
    · rename_i h; subst h; rw [hDs] at e; cases e
    · exact q
  have vl : ∀ {av : AV} {v : Value}, Val c.hid s.heap av v → Val (compF c scope (s₂.heap.objs.size + 1) s₂.heap.objs.size [] (frees c scope) c.pins c.ext).hid
      (pushCells ((s₂.heap.push { cls := .type "list", data := .seq #[] }).push { cls := .type "dict", data := .dict #[] }) scope.names) av v := fun q =>
    q.imp (fun a its z w => hid' z w) fun a its _ z => z.at fun o e => keep a o e
  have vls : ∀ {av : List AV} {v : List Value}, Vals c.hid s.heap av v → Vals (compF c scope (s₂.heap.objs.size + 1) s₂.heap.objs.size [] (frees c scope) c.pins c.ext).hid
      (pushCells ((s₂.heap.push { cls := .type "list", data := .seq #[] }).push { cls := .type "dict", data := .dict #[] }) scope.names) av v := fun q =>
    q.imp (fun a its z w => hid' z w) fun a its _ z => z.at fun o e => keep a o e
  have asgNew : ∀ x a, (scope.names.lookup x == some NameKind.cell) = true → (cellsFrom (s₂.heap.objs.size + 1 + 1) scope.names (cloFrom c.env.cells scope.names [])).lookup x = some a → s₂.heap.objs.size + 1 + 1 ≤ a := fun x a h1 h2 => by
    rcases p1 x a h2 with z | ⟨z, _⟩
    · rcases cloFrom_mem _ _ _ _ z with z | z
      · cases z
      · have := lookup_of_nodup ok.nd z
        rw [this] at h1; cases h1
    · exact z
  refine ⟨?_, keep, R.on, ⟨⟨fun _ => none, ?_, fun y av hy hr => ?_⟩, fun y av hy hr => ?_, fun a l e => ?_, fun p hp => ?_, fun p hp => vl (R.vis.ext p hp), fun y a e => ?_⟩, hCs, fun x a h1 h2 => ?_, fun x y a h1 h2 h3 => ?_⟩
  · obtain ⟨h, tk, rfl, _⟩ := k.k
    exact ⟨_, _, rfl⟩
  · have := (Heap.Ns.new (s₂.heap.push { cls := .type "list", data := .seq #[] }) (.type "dict")).keeps (pushCells_keeps scope.names _)
    rw [hsz] at this
    exact this
  · obtain ⟨q, _⟩ := frees_look hr
    have hy' : (relabel scope c.env).names.lookup y = some .local := hy
    rw [relabel_look, q] at hy'
    simp only [Option.map_some, Option.some.injEq] at hy'
    split at hy' <;> cases hy'
  · obtain ⟨q, r⟩ := frees_look hr
    have hm := mem_of_lookup q
    obtain ⟨_, hk⟩ := ok.fr _ hm rfl
    obtain ⟨a, v, e, hc, hv⟩ := R.vis.cel y av hk r
    obtain ⟨a', ha'⟩ := Option.isSome_iff_exists.mp (cloFrom_has (cells := c.env.cells) scope.names [] y (.inr hm))
    have := cloFrom_sub scope.names [] (fun y a e => by cases e) clo y a' ha'
    rw [e] at this; cases this
    refine ⟨a, v, p3 y a (fun k hk => ?_) ha', hc.keeps keep, vl hv⟩
    have := lookup_of_nodup ok.nd hk
    rw [q] at this
    cases this
    exact fun z => by cases z
  · unfold compF at e
    dsimp only at e
    split at e
    · rename_i h
      cases e
      refine ⟨#[], ⟨0, ?_⟩, Vals.nil⟩
      rw [h]
      exact pushCells_keeps _ _ _ _ (Heap.get?_push_of_some _ (Heap.get?_push_size _ rfl))
    · obtain ⟨items, hp, hv⟩ := R.vis.own a l e
      exact ⟨items, hp.at fun o e => keep a o e, vls hv⟩
  · obtain ⟨e, hn, hpi⟩ := R.vis.pin p hp
    refine ⟨keep _ _ e, fun q => hn ?_, hpi⟩
    unfold Fc.hid compF at q
    dsimp only at q
    split at q
    · rename_i h; rw [h, hDs] at e; cases e
    · exact q
  · rcases p1 y a e with z | ⟨_, z, _⟩
    · have := cloFrom_sub scope.names [] (fun y a e => by cases e) clo y a z
      obtain ⟨v, hv⟩ := R.vis.cex y a this
      exact ⟨v, hv.keeps keep⟩
    · exact ⟨_, z⟩
  · have := asgNew x a h1 h2
    exact k.dead (get_none_of_ge (by omega))
  · have := asgNew x a h1 h2
    exact p4 y x a this (fun x b e => Nat.lt_of_lt_of_le (cloLt x b e) (by first | omega | (rw [hsz2]; omega))) h3 h2

/-- the tests of a comprehension -/
def Tests (g : G) (c : Fc) (ifs : List Expr) (b : Bool) : Prop :=
  ∀ (s : Shared) (E : Value → Shared → Prop), Ready g c s →
    wpAny (model Pg g.w) c.A (forIn ifs true fun e r => if r = true then do let ok ← isTrue e c.env (eval e c.env); pure (ForInStep.yield ok) else pure (ForInStep.yield r)) (fun ok s' => Kp s s' ∧ ok = b) E s
theorem tests_nil : Tests g c [] true := fun s E R => wpAny_tests_nil ⟨Kp.refl s, rfl⟩
theorem tests_one {e : Expr} {b : Bool} (h : Ts g c e b) : Tests g c [e] b := fun s E R => wpAny_tests_one (h.run s E R)

theorem compF_hid {scope : Scope} {C D : Addr} {l l' : List AV} {ρ ρ' : List (Str × AV)} {ps ps' : List (Addr × Obj)} {xs xs' : List (Value × AV)} : (compF c scope C D l ρ ps xs).hid = (compF c scope C D l' ρ' ps' xs').hid := by
  funext a
  unfold Fc.hid compF
  dsimp only
  split <;> rfl
theorem relabel_local {scope : Scope} {env : Env} {x : Str} (h : scope.names.lookup x = some .local) : (relabel scope env).names.lookup x = some .local := by
  rw [relabel_look, h]; rfl
theorem relabel_cell {scope : Scope} {env : Env} {x : Str} (h : scope.names.lookup x = some .cell) : (relabel scope env).names.lookup x = some .cell := by
  rw [relabel_look, h]; rfl
theorem compBind {scope : Scope} {C D : Addr} {l : List AV} {ρ : List (Str × AV)} {x : Str} {ps : List (Addr × Obj)} {xs : List (Value × AV)} (ok : CompOk c scope) (hx : scope.names.lookup x = some .local ∨ scope.names.lookup x = some .cell) :
    Bind (compF c scope C D l ρ ps xs) x := by
  refine ⟨ok.kind, hx.imp relabel_local fun h => ⟨relabel_cell h, by show (scope.names.lookup x == some NameKind.cell) = true; rw [h]; rfl, ?_⟩⟩
  have key : ∀ (names : List (Str × NameKind)) (n : Nat) (acc : List (Str × Addr)), ((acc.lookup x).isSome = true ∨ (x, NameKind.cell) ∈ names) → ((cellsFrom n names acc).lookup x).isSome = true := by
    intro names
    induction names with
    | nil => intro n acc h; rcases h with h | h
             · exact h
             · cases h
    | cons p r ih =>
      intro n acc h
      obtain ⟨m, k⟩ := p
      unfold cellsFrom
      by_cases q : (k == NameKind.cell) = true
      · rw [if_pos q]
        refine ih _ _ ?_
        by_cases w : x = m
        · left; subst w; simp
        · rw [List.lookup_cons_ne w]
          rcases h with h | h
          · exact .inl h
          · rcases List.mem_cons.mp h with z | z
            · cases z; exact absurd rfl w
            · exact .inr z
      · rw [if_neg q]
        refine ih _ _ ?_
        rcases h with h | h
        · exact .inl h
        · rcases List.mem_cons.mp h with z | z
          · cases z; exact absurd rfl q
          · exact .inr z
  exact key _ _ _ (.inr (mem_of_lookup h))

/-- the loop of a comprehension with one clause: it fills the list at D -/
theorem comp_loop {x : Str} {px pos : Pos} {elt iter : Expr} {ifs : List Expr} {scope : Scope} {C D : Addr} {items : List AV} {f : AV → Option AV} {sS s₂ : Shared} {I : Addr} {fp wr : List Addr} {P : Nat → Value → Prop} {St : Nat → Heap → Prop} {xs : List (Value × AV)}
    {R : Result → Shared → Prop} (ok : CompOk c scope) (hx : scope.names.lookup x = some .local ∨ scope.names.lookup x = some .cell) (S : Src1 g c sS s₂ items I fp wr P St xs) (hc : Ready g c sS) (hDd : s₂.heap.get? D = none) (hD₀ : sS.heap.get? D = none)
    (hsz : items.length ≤ sizeLine)
    (hbody : ∀ av ∈ items, ∀ (l : List AV) (ps : List (Addr × Obj)) (zs : List (Value × AV)), Tests g (compF c scope C D l ((x, av) :: frees c scope) ps zs) ifs (f av).isSome ∧
      ∀ out, f av = some out → Ev g (compF c scope C D l ((x, av) :: frees c scope) ps zs) elt out)
    (F : InF g (compF c scope C D [] (frees c scope) c.pins c.ext) sS s) (st : St 0 s.heap) (hxsv : ∀ p ∈ xs, Val (compF c scope C D [] (frees c scope) c.pins c.ext).hid s.heap p.2 p.1)
    (h : ∀ s', InF g (compF c scope C D (items.filterMap f) (frees c scope) c.pins c.ext) sS s' → R (.ok .next) s') :
    codeAny (model Pg g.w) c.A (.compLoop (.ListComp elt [⟨.Name x px, iter, ifs, 0⟩] scope pos) 0 (.ref I) (.ref D) (compE c scope C)) R s := by
  have hfp : ∀ b ∈ fp, b ≠ D := fun b hb q => by
    obtain ⟨o, ho, _⟩ := S.fpp 0 _ S.st b hb
    rw [q, hDd] at ho; cases ho
  have hhid : ∀ (l : List AV) (ρ : List (Str × AV)) ps ys a, (compF c scope C D l ρ ps ys).hid a ↔ (a = D ∨ c.hid a) := fun l ρ ps ys a => by
    unfold Fc.hid compF
    dsimp only
    split
    · simp [*]
    · simp [*]
  have hpw : ∀ p ∈ c.pins, p.1 ∉ wr := fun p hp q => by
    have := (hc.vis.pin p hp).1
    rw [S.wrn _ q] at this; cases this
  refine codeAny_compLoop_tests (fun n s' => ∃ i, n = items.length - i + 1 ∧ i ≤ items.length ∧ St i s'.heap ∧ InF g (compF c scope C D ((items.take i).filterMap f) (frees c scope) c.pins (xs ++ c.ext)) sS s') ?_ (items.length + 1)
    ⟨0, rfl, Nat.zero_le _, st, F.ext hxsv⟩
  rintro n s₁ ⟨i, rfl, hi, st₁, F₁⟩
  by_cases q : i < items.length
  · have hav : items[i]? = some items[i] := by simp [q]
    have hmem : items[i] ∈ items := List.getElem_mem q
    refine next_item (c := (compF c scope C D ((items.take i).filterMap f) (frees c scope) c.pins (xs ++ c.ext))) S (fun b hb z => ?_) rfl hpw (fun p hp => List.mem_append_left _ hp) S.wrn F₁ st₁ hav fun v s₂ F₂ st₂ hv => ?_
    · rcases (hhid _ _ _ _ b).mp z with z | z
      · exact hfp b hb z
      · exact S.fph b hb z
    dsimp only
    refine wpAny_assign_Name (st_bind (c := compF c scope C D ((items.take i).filterMap f) (frees c scope) (snap s₂.heap fp ++ c.pins) (xs ++ c.ext)) (compBind ok hx) F₂ hv fun s₃ F₃ => ?_)
    obtain ⟨hT, hE⟩ := hbody items[i] hmem ((items.take i).filterMap f) (snap s₂.heap fp ++ c.pins) (xs ++ c.ext)
    refine wpAny_mono (hT s₃ _ F₃.ready) (fun b s₄ ⟨k₄, e₄⟩ => ?_) fun _ _ x => x
    have F₄ := F₃.more k₄
    have take : (items.take (i + 1)).filterMap f = (items.take i).filterMap f ++ (f items[i]).toList := by
      rw [List.take_add_one, hav]
      simp only [Option.toList_some, List.filterMap_append, List.filterMap_cons, List.filterMap_nil]
      cases f items[i] <;> rfl
    have fin : ∀ (l : List AV) (s₅ : Shared), l = (items.take (i + 1)).filterMap f → InF g (compF c scope C D l ((x, items[i]) :: frees c scope) (snap s₂.heap fp ++ c.pins) (xs ++ c.ext)) sS s₅ →
        ∃ m, m < items.length - i + 1 ∧ ∃ j, m = items.length - j + 1 ∧ j ≤ items.length ∧ St j s₅.heap ∧ InF g (compF c scope C D ((items.take j).filterMap f) (frees c scope) c.pins (xs ++ c.ext)) sS s₅ := by
      rintro l s₅ rfl F₅
      refine ⟨items.length - (i + 1) + 1, by omega, i + 1, rfl, q, S.W.frame (i + 1) _ _ st₂ fun b hb o e => (F₅.vis.pin (b, o) (List.mem_append_left _ (mem_snap.mpr ⟨hb, e⟩))).1, ?_⟩
      have F₆ := InF.unpin (c := compF c scope C D ((items.take (i + 1)).filterMap f) ((x, items[i]) :: frees c scope) c.pins (xs ++ c.ext)) (ps := snap s₂.heap fp) F₅
      refine ⟨F₆.same, F₆.keep, F₆.on, ⟨?_, fun y av hy hr => ?_, F₆.vis.own, F₆.vis.pin, F₆.vis.ext, F₆.vis.cex⟩, F₆.nL, F₆.nC, F₆.apart⟩
      · obtain ⟨m, hn, hm⟩ := F₆.vis.loc
        refine ⟨m, hn, fun y av hy hr => ?_⟩
        obtain ⟨z, _⟩ := frees_look hr
        have hy' : (relabel scope c.env).names.lookup y = some .local := hy
        rw [relabel_look, z] at hy'
        simp only [Option.map_some, Option.some.injEq] at hy'
        split at hy' <;> cases hy'
      · refine F₆.vis.cel y av hy ?_
        have : y ≠ x := by
          rintro rfl
          obtain ⟨z, _⟩ := frees_look hr
          rw [z] at hx
          rcases hx with w | w <;> cases w
        rw [show (compF c scope C D ((items.take (i + 1)).filterMap f) ((x, items[i]) :: frees c scope) c.pins (xs ++ c.ext)).ρ = (x, items[i]) :: frees c scope from rfl, List.lookup_cons_ne this]
        exact hr
    cases hf : f items[i] with
    | none =>
      rw [hf] at e₄
      subst e₄
      simp only [Option.isSome_none, Bool.false_eq_true, if_false]
      exact fin _ s₄ (by rw [take, hf]; simp) F₄
    | some out =>
      rw [hf] at e₄
      subst e₄
      simp only [Option.isSome_some, if_true]
      refine wpAny_mono ((hE out hf).run s₄ _ F₄.ready) (fun v' s₅ ⟨k₅, x₅⟩ => ?_) fun _ _ x => x
      have F₅ := F₄.more k₅
      obtain ⟨its, hp, hvs⟩ := F₅.vis.own D ((items.take i).filterMap f) (if_pos rfl)
      have hsz' : its.size ≤ sizeLine := by
        have e1 := hvs.length
        have e2 : ((items.take i).filterMap f).length ≤ (items.take i).length := List.length_filterMap_le _ _
        rw [List.length_take] at e2
        have e3 : its.toList.length = its.size := by simp
        omega
      refine wpAny_list_append_plain hp (fun h₆ hp₆ hs₆ => ?_) hsz'
      have F₆ := own_turn (t := s₅.toks) (l' := (items.take i).filterMap f ++ [out]) F₅ (if_pos rfl) hD₀ hp₆ hs₆ (by rw [Array.toList_push]; exact hvs.append (Vals.cons x₅ Vals.nil))
      refine fin ((items.take i).filterMap f ++ [out]) _ (by rw [take, hf]; rfl) ?_
      have e : (Fc.setOwn (compF c scope C D ((items.take i).filterMap f) ((x, items[i]) :: frees c scope) (snap s₂.heap fp ++ c.pins) (xs ++ c.ext)) D ((items.take i).filterMap f ++ [out])) =
          compF c scope C D ((items.take i).filterMap f ++ [out]) ((x, items[i]) :: frees c scope) (snap s₂.heap fp ++ c.pins) (xs ++ c.ext) := by
        unfold Fc.setOwn compF
        simp only [Fc.mk.injEq, true_and, and_true]
        funext b
        by_cases w : b = D <;> simp [w]
      rw [← e]
      exact F₆
  · obtain rfl : i = items.length := by omega
    refine next_end (c := (compF c scope C D ((items.take items.length).filterMap f) (frees c scope) c.pins (xs ++ c.ext))) S rfl hpw S.wrn F₁ st₁ fun s₂ F₂ => ?_
    dsimp only
    rw [List.take_length] at F₂
    exact h s₂ (InF.unext (c := compF c scope C D (items.filterMap f) (frees c scope) c.pins c.ext) (xs := xs) F₂)
end
end Mine
end
section
open PySem PySem.W PyProof.Rows
set_option Elab.async false
set_option linter.unusedVariables false
namespace Mine
section
variable {g : G} {c : Fc} {s₀ s s' : Shared}

/-- a dict that is no block's own is turned -/
theorem Vis.butD {h h' : Heap} {C : Addr} (x : Vis c h) (hs : Heap.SameBut C h h') (hd : ∀ o, h.get? C = some o → ∃ es n, o.data = .dict es n) (hL : c.env.locals ≠ C) : Vis c h' := by
  have hk : ∀ b o, b ≠ C → h.get? b = some o → h'.get? b = some o := fun b o q e => (hs.2 b q).trans e
  have pl : ∀ {a : Addr} {items : Array Value}, h.PlainList a items → h'.PlainList a items := fun q => plain_but (wr := fun b => b = C) hk (fun b hb o e its n => by
    subst hb
    obtain ⟨es, m, w⟩ := hd o e
    rw [w]; exact fun z => by cases z) q
  have vl : ∀ {av : AV} {v : Value}, Val c.hid h av v → Val c.hid h' av v := fun q => q.imp (fun _ _ _ z => z) fun _ _ _ z => pl z
  have cellNe : ∀ {a : Addr} {v : Option Value}, h.IsCell a v → h'.IsCell a v := by
    rintro a v ⟨o, ho, hdd⟩
    refine ⟨o, hk _ _ ?_ ho, hdd⟩
    rintro rfl
    obtain ⟨es, m, w⟩ := hd o ho
    rw [w] at hdd; cases hdd
  refine ⟨?_, fun y av hy hr => ?_, fun a l e => ?_, fun p hp => ?_, fun p hp => vl (x.ext p hp), fun y a e => (x.cex y a e).imp fun v q => cellNe q⟩
  · obtain ⟨m, hn, hm⟩ := x.loc
    refine ⟨m, hn.sameBut hs hL, fun y av hy hr => ?_⟩
    obtain ⟨v, e, hv⟩ := hm y av hy hr
    exact ⟨v, e, vl hv⟩
  · obtain ⟨a, v, e, hc, hv⟩ := x.cel y av hy hr
    exact ⟨a, v, e, cellNe hc, vl hv⟩
  · obtain ⟨items, hp, hv⟩ := x.own a l e
    exact ⟨items, pl hp, hv.imp (fun _ _ _ z => z) fun _ _ _ z => pl z⟩
  · obtain ⟨e, hn, hpi⟩ := x.pin p hp
    refine ⟨hk _ _ ?_ e, hn, hpi⟩
    intro q
    obtain ⟨es, m, w⟩ := hd p.2 (q ▸ e)
    exact hpi.1 _ _ w

/-- a comprehension with one clause, up to the end of its loop -/
theorem comp_at {x : Str} {px pos cpos : Pos} {elt iter : Expr} {ifs : List Expr} {scope : Scope} {items : List AV} {f : AV → Option AV} {use : Option (Value → Sem Unit)} {Q E : Value → Shared → Prop}
    (ok : CompOk c scope) (hx : scope.names.lookup x = some .local ∨ scope.names.lookup x = some .cell) (hS : Src g c iter items) (hsz : items.length ≤ sizeLine) (R : Ready g c s)
    (hbody : ∀ av ∈ items, ∀ (C D : Addr) (l : List AV) (ps : List (Addr × Obj)) (zs : List (Value × AV)), Tests g (compF c scope C D l ((x, av) :: frees c scope) ps zs) ifs (f av).isSome ∧
      ∀ out, f av = some out → Ev g (compF c scope C D l ((x, av) :: frees c scope) ps zs) elt out)
    (h : ∀ D C s', s.heap.get? D = none → InF g (compF c scope C D (items.filterMap f) (frees c scope) c.pins c.ext) s s' → compPost (model Pg g.w) c.A E use Q (.ref D) C (.ok .next) s')
    (hs : ∀ x, foldedSetIterable iter c.env x = pure x := by intro _; rfl) :
    wpAny (model Pg g.w) c.A (comprehension (.ListComp elt [⟨.Name x px, iter, ifs, 0⟩] scope pos) scope c.env cpos (newList []) false (eval iter c.env) use) Q E s := by
  refine wpAny_comprehension_free (use := use) (g := ⟨.Name x px, iter, ifs, 0⟩) (gs := []) rfl hs (closureFor_eq fun p hp q => (ok.fr p hp q).1) ok.kind (fun y hy hl => lookup_of_nodup ok.nd (by rw [← hl]; exact hy)) (hS s _ E R fun I fp wr P St xs s₂ S => ?_)
  refine wpAny_newObj_type (new_comp_env ?_)
  have hD : s₂.heap.get? s₂.heap.objs.size = none := get_none_of_ge (Nat.le_refl _)
  have F := comp_begin (s₂ := s₂) ok R S.kp
  have keep₂ : ∀ b o, s₂.heap.get? b = some o → (pushCells ((s₂.heap.push { cls := .type "list", data := .seq #[] }).push { cls := .type "dict", data := .dict #[] }) scope.names).get? b = some o :=
    fun b o e => pushCells_keeps _ _ b o (Heap.get?_push_of_some _ (Heap.get?_push_of_some _ e))
  have st : St 0 (pushCells ((s₂.heap.push { cls := .type "list", data := .seq #[] }).push { cls := .type "dict", data := .dict #[] }) scope.names) := S.W.frame 0 _ _ S.st fun b _ o e => keep₂ b o e
  have hxsv : ∀ p ∈ xs, Val (compF c scope (s₂.heap.objs.size + 1) s₂.heap.objs.size [] (frees c scope) c.pins c.ext).hid (pushCells ((s₂.heap.push { cls := .type "list", data := .seq #[] }).push { cls := .type "dict", data := .dict #[] }) scope.names) p.2 p.1 := fun p hp =>
    (S.xsv p hp).imp (fun a its ⟨n, e⟩ q => by
      unfold Fc.hid compF at q
      dsimp only at q
      split at q
      · rename_i w; subst w; rw [hD] at e; cases e
      · exact q) fun a its _ z => z.at fun o e => keep₂ a o e
  have loop : codeAny (model Pg g.w) c.A (.compLoop (.ListComp elt [⟨.Name x px, iter, ifs, 0⟩] scope pos) 0 (.ref I) (.ref s₂.heap.objs.size) (compE c scope (s₂.heap.objs.size + 1)))
      (compPost (model Pg g.w) c.A E use Q (.ref s₂.heap.objs.size) (s₂.heap.objs.size + 1)) { s₂ with heap := pushCells ((s₂.heap.push { cls := .type "list", data := .seq #[] }).push { cls := .type "dict", data := .dict #[] }) scope.names } :=
    comp_loop (f := f) ok hx S R hD (S.kp.dead hD) hsz (fun av hav l ps zs => hbody av hav _ _ l ps zs) F st hxsv fun s' F' => h _ _ s' (S.kp.dead hD) F'
  have e : (s₂.heap.push { cls := .type "list", data := .seq #[] }).objs.size = s₂.heap.objs.size + 1 := Heap.size_push ..
  have := codeAny_compStart_list (rest := []) loop (S.W.self 0 _ _ _ st loop)
  unfold compE at this
  have e' : (s₂.heap.push { cls := .type "list", dict := none, data := .seq ([] : List Value).toArray }).objs.size = s₂.heap.objs.size + 1 := Heap.size_push ..
  dsimp only
  rw [e']
  exact this

theorem ev_comp {x : Str} {px pos : Pos} {elt iter : Expr} {ifs : List Expr} {scope : Scope} {items : List AV} (f : AV → Option AV) (ok : CompOk c scope) (hx : scope.names.lookup x = some .local ∨ scope.names.lookup x = some .cell)
    (hS : Src g c iter items) (hsz : items.length ≤ sizeLine)
    (hbody : ∀ av ∈ items, ∀ (C D : Addr) (l : List AV) (ps : List (Addr × Obj)) (zs : List (Value × AV)), Tests g (compF c scope C D l ((x, av) :: frees c scope) ps zs) ifs (f av).isSome ∧
      ∀ out, f av = some out → Ev g (compF c scope C D l ((x, av) :: frees c scope) ps zs) elt out)
    (hs : ∀ x, foldedSetIterable iter c.env x = pure x := by intro _; rfl) :
    Ev g c (.ListComp elt [⟨.Name x px, iter, ifs, 0⟩] scope pos) (.list (items.filterMap f)) := .mk fun s E R => by
  rw [eval_ListComp]
  refine comp_at (use := none) ok hx hS hsz R hbody (fun D C s' hD F => ?_) hs
  obtain ⟨m, hn, _⟩ := F.vis.loc
  refine ⟨m, hn, fun h' hs' => ?_⟩
  obtain ⟨its, hp, hv⟩ := F.vis.own D (items.filterMap f) (if_pos rfl)
  obtain ⟨oC, es, ep, hoC, hdC, _⟩ := hn
  have kb : ∀ b o, b ≠ C → s'.heap.get? b = some o → h'.get? b = some o := fun b o q e => (hs'.2 b q).trans e
  have pl : ∀ {a : Addr} {items : Array Value}, s'.heap.PlainList a items → h'.PlainList a items := fun q => plain_but (wr := fun b => b = C) kb (fun b hb o e its n => by
    subst hb
    have hoC' : s'.heap.get? b = some oC := hoC
    rw [hoC'] at e; cases e; rw [hdC]; exact fun z => by cases z) q
  refine ⟨?_, ?_⟩
  · have keep : ∀ b o, s.heap.get? b = some o → h'.get? b = some o := fun b o e => kb b o (by rintro rfl; have := F.nL; rw [show (compF c scope b D (items.filterMap f) (frees c scope) c.pins c.ext).env.locals = b from rfl, e] at this; cases this) (F.keep b o e)
    obtain ⟨h₁, tk, rfl⟩ := F.same
    exact ⟨h', tk, rfl, keep⟩
  · refine vlist (R.vis.fresh hD) (pl hp) (hv.imp (fun a _ _ q => ?_) fun _ _ _ z => pl z)
    unfold Fc.hid compF
    dsimp only
    split
    · rfl
    · exact q

/-- a name bound to a comprehension's list, the stores exchanged -/
theorem ex_comp {x y : Str} {px py pos spos : Pos} {elt iter : Expr} {ifs : List Expr} {scope : Scope} {items : List AV} {Q : Flow → Shared → Prop} {E : Value → Shared → Prop} (f : AV → Option AV) (ok : CompOk c scope)
    (hx : scope.names.lookup x = some .local ∨ scope.names.lookup x = some .cell) (hS : Src g c iter items) (hsz : items.length ≤ sizeLine)
    (hbody : ∀ av ∈ items, ∀ (C D : Addr) (l : List AV) (ps : List (Addr × Obj)) (zs : List (Value × AV)), Tests g (compF c scope C D l ((x, av) :: frees c scope) ps zs) ifs (f av).isSome ∧
      ∀ out, f av = some out → Ev g (compF c scope C D l ((x, av) :: frees c scope) ps zs) elt out)
    (F : InF g c s₀ s) (h : ∀ s', InF g (c.set y (.list (items.filterMap f))) s₀ s' → Q .next s')
    (hsw : swapsWith (.ListComp elt [⟨.Name x px, iter, ifs, 0⟩] scope pos) (some (.Name y py)) spos.line c.env = pure true := by rfl) (hy : c.env.kindOf y = some .local := by rfl) (hk : c.env.scope.kind = .function := by rfl)
    (hs : ∀ x, foldedSetIterable iter c.env x = pure x := by intro _; rfl) :
    wpAny (model Pg g.w) c.A (exec (.Assign [.Name y py] (.ListComp elt [⟨.Name x px, iter, ifs, 0⟩] scope pos) spos) c.env) Q E s := by
  rw [exec_Assign_Name_used _ _ _ _ hsw]
  refine wpAny_bind (wpAny_standAt (wpAny_bind ?_))
  show wpAny _ c.A (do let _ ← comprehension (.ListComp elt [⟨.Name x px, iter, ifs, 0⟩] scope pos) scope c.env _ (newList []) false (eval iter c.env) (some (assign (.Name y py) c.env))) _ _ s
  refine wpAny_bind (wpAny_mono (comp_at (Q := fun _ s' => Q .next s') (use := some (assign (.Name y py) c.env)) ok hx hS hsz F.ready hbody (fun D C s' hD FC => ?_) hs) (fun _ s' hq => wpAny_pure (wpAny_pure hq)) fun _ _ e => e)
  show wpAny _ c.A (assign (.Name y py) c.env (.ref D)) _ _ _
  have F' := F.more FC.kp
  obtain ⟨m, hn, _⟩ := FC.vis.loc
  obtain ⟨its, hp, hv⟩ := FC.vis.own D (items.filterMap f) (if_pos rfl)
  have hval : Val c.hid s'.heap (.list (items.filterMap f)) (.ref D) := vlist (F.vis.fresh hD) hp (hv.weak fun a q => by
    unfold Fc.hid compF
    dsimp only
    split
    · rfl
    · exact q)
  have hCs : s.heap.get? C = none := FC.nL
  have hLC : c.env.locals ≠ C := fun e => by
    obtain ⟨_, ⟨o, _, _, ho, _⟩, _⟩ := F.vis.loc
    have ho' : s.heap.get? c.env.locals = some o := ho
    rw [e, hCs] at ho'; cases ho'
  refine wpAny_assign_Name (st_local F' hval (fun s'' F'' hsb => ?_) hy hk)
  have hn'' : s''.heap.Ns C m := Heap.Ns.sameBut hn hsb (Ne.symm hLC)
  refine ⟨m, hn'', fun h' hs' => ?_⟩
  obtain ⟨oC, es, ep, hoC, hdC, _⟩ := hn''
  have kb : ∀ b o, b ≠ C → s''.heap.get? b = some o → h'.get? b = some o := fun b o q e => (hs'.2 b q).trans e
  refine h _ (F''.turn (t := s''.toks) (fun b o e => kb b o ?_ (F''.keep b o e)) (F''.vis.butD hs' (fun o e => ?_) hLC))
  · rintro rfl
    rw [dead₀ F hCs] at e; cases e
  · rw [hoC] at e; cases e
    exact ⟨es, ep, hdC⟩
end
end Mine
end
section
open PySem PySem.W PyProof.Rows
set_option Elab.async false
set_option linter.unusedVariables false
namespace Mine
section
variable {g : G} {c : Fc} {s₀ s s' : Shared}

/-- statements at work -/
structure WP (g : G) (A : Around) (env : Env) (l : List Stmt) (Q : Flow → Shared → Prop) (E : Value → Shared → Prop) (s : Shared) : Prop where
  run : wpAny (model Pg g.w) A (execs l env) Q E s
/-- behind a statement: the rest, or out -/
def Then (g : G) (c : Fc) (rest : List Stmt) (Q : Flow → Shared → Prop) (E : Value → Shared → Prop) (f : Flow) (s : Shared) : Prop := match f with
  | .next => WP g c.A c.env rest Q E s
  | f => Q f s
theorem x_cons {st : Stmt} {rest : List Stmt} {Q : Flow → Shared → Prop} {E : Value → Shared → Prop} (h : wpAny (model Pg g.w) c.A (exec st c.env) (Then g c rest Q E) E s) : WP g c.A c.env (st :: rest) Q E s :=
  ⟨wpAny_execs_cons (wpAny_mono h (fun f s' x => by
    cases f
    · exact WP.run x
    all_goals exact x) fun _ _ x => x)⟩
theorem x_nil {A : Around} {env : Env} {Q : Flow → Shared → Prop} {E : Value → Shared → Prop} (h : Q .next s) : WP g A env [] Q E s := ⟨wpAny_execs_nil h⟩

theorem x_assign {A : Around} {env : Env} {x : Str} {p pos : Pos} {e : Expr} {av : AV} {rest : List Stmt} {Q : Flow → Shared → Prop} {E : Value → Shared → Prop} (F : InF g c s₀ s) (he : Ev g c e av) (B : Bind c x)
    (h : ∀ s', InF g (c.set x av) s₀ s' → WP g c.A c.env rest Q E s') (hs : swapsWith e (some (.Name x p)) pos.line c.env = pure false := by rfl) (hA : c.A = A := by rfl) (hE : c.env = env := by rfl) :
    WP g A env (.Assign [.Name x p] e pos :: rest) Q E s := by
  subst hA; subst hE
  exact x_cons (wpAny_Assign_Name (wpAny_mono (he.run s E F.ready) (fun v s₁ ⟨k, x⟩ => st_bind B (F.more k) x fun s' F' => h s' F') fun _ _ x => x) hs)
theorem x_comp {A : Around} {env : Env} {x y : Str} {px py pos spos : Pos} {elt iter : Expr} {ifs : List Expr} {scope : Scope} {items : List AV} {rest : List Stmt} {Q : Flow → Shared → Prop} {E : Value → Shared → Prop} (F : InF g c s₀ s) (f : AV → Option AV) (ok : CompOk c scope)
    (hx : scope.names.lookup x = some .local ∨ scope.names.lookup x = some .cell) (hS : Src g c iter items) (hsz : items.length ≤ sizeLine)
    (hbody : ∀ av ∈ items, ∀ (C D : Addr) (l : List AV) (ps : List (Addr × Obj)) (zs : List (Value × AV)), Tests g (compF c scope C D l ((x, av) :: frees c scope) ps zs) ifs (f av).isSome ∧
      ∀ out, f av = some out → Ev g (compF c scope C D l ((x, av) :: frees c scope) ps zs) elt out)
    (h : ∀ s', InF g (c.set y (.list (items.filterMap f))) s₀ s' → WP g c.A c.env rest Q E s')
    (hsw : swapsWith (.ListComp elt [⟨.Name x px, iter, ifs, 0⟩] scope pos) (some (.Name y py)) spos.line c.env = pure true := by rfl) (hy : c.env.kindOf y = some .local := by rfl) (hk : c.env.scope.kind = .function := by rfl)
    (hs : ∀ x, foldedSetIterable iter c.env x = pure x := by intro _; rfl) (hA : c.A = A := by rfl) (hE : c.env = env := by rfl) :
    WP g A env (.Assign [.Name y py] (.ListComp elt [⟨.Name x px, iter, ifs, 0⟩] scope pos) spos :: rest) Q E s := by
  subst hA; subst hE
  exact x_cons (ex_comp f ok hx hS hsz hbody F (fun s' F' => h s' F') hsw hy hk hs)
theorem x_return {A : Around} {env : Env} {pos : Pos} {e : Expr} {av : AV} {rest : List Stmt} {Q : Flow → Shared → Prop} {E : Value → Shared → Prop} (F : InF g c s₀ s) (he : Ev g c e av)
    (h : ∀ v s', InF g c s₀ s' → Val c.hid s'.heap av v → Q (.ret v) s') (hA : c.A = A := by rfl) (hE : c.env = env := by rfl) : WP g A env (.Return (some e) pos :: rest) Q E s := by
  subst hA; subst hE
  exact x_cons (wpAny_Return_some (wpAny_mono (he.run s E F.ready) (fun v s₁ ⟨k, x⟩ => h v s₁ (F.more k) x) fun _ _ x => x))
theorem x_if {A : Around} {env : Env} {pos : Pos} {t : Expr} {b : Bool} {body orelse rest : List Stmt} {Q : Flow → Shared → Prop} {E : Value → Shared → Prop} (F : InF g c s₀ s) (ht : Ts g c t b)
    (h₁ : b = true → ∀ s', InF g c s₀ s' → WP g c.A c.env body (Then g c rest Q E) E s')
    (h₂ : b = false → ∀ s', InF g c s₀ s' → WP g c.A c.env orelse (Then g c rest Q E) E s') (hA : c.A = A := by rfl) (hE : c.env = env := by rfl) :
    WP g A env (.If t body orelse pos :: rest) Q E s := by
  subst hA; subst hE
  exact x_cons (wpAny_If (wpAny_mono (ht.run s E F.ready) (fun r s' ⟨k, e⟩ => by
    subst e
    cases r with
    | true => exact (h₁ rfl s' (F.more k)).run
    | false => exact (h₂ rfl s' (F.more k)).run) fun _ _ x => x))
theorem x_for {A : Around} {env : Env} {x : Str} {px pos : Pos} {iter : Expr} {body rest : List Stmt} {items : List AV} {Q : Flow → Shared → Prop} {E : Value → Shared → Prop} (F : InF g c s₀ s) (hS : Src g c iter items) (B : Bind c x)
    (Inv : Nat → Prop) (ρs : Nat → List (Str × AV)) (os : Nat → Addr → Option (List AV)) (hos : ∀ i a, (os i a).isSome = (c.own a).isSome) (ho0 : os 0 = c.own) (hρ0 : SubL (ρs 0) c.ρ) (hI0 : Inv 0)
    (hbody : ∀ i av, items[i]? = some av → Inv i → ∀ (s₁ : Shared) (xs : List (Value × AV)) (ps : List (Addr × Obj)) (E' : Value → Shared → Prop),
      InF g { c with ρ := (x, av) :: ρs i, own := os i, ext := xs ++ c.ext, pins := ps ++ c.pins } s₀ s₁ →
      WP g c.A c.env body (Go g { c with ρ := ρs (i + 1), own := os (i + 1), ext := xs ++ c.ext, pins := ps ++ c.pins } s₀ (Inv (i + 1)) Q) E' s₁)
    (h : ∀ s', Inv items.length → InF g { c with ρ := ρs items.length, own := os items.length } s₀ s' → WP g c.A c.env rest Q E s')
    (hs : ∀ x, foldedSetIterable iter c.env x = pure x := by intro _; rfl) (hlt : ∀ it v, letOwnedTupleGo (.Name x px) it v = pure () := by intro _ _; rfl) (hA : c.A = A := by rfl) (hE : c.env = env := by rfl) :
    WP g A env (.For (.Name x px) iter body [] pos :: rest) Q E s := by
  subst hA; subst hE
  exact x_cons (ex_for (R := Then g c rest Q E) B hS F Inv ρs os hos ho0 hρ0 hI0 (fun i av h1 h2 s₁ xs ps E' F' => wpAny_mono (hbody i av h1 h2 s₁ xs ps E' F').run (fun f s' q => by cases f <;> exact q) fun _ _ x => x) h hs hlt)
/-- a while loop of n turns -/
theorem x_while {A : Around} {env : Env} {pos : Pos} {t : Expr} {body rest : List Stmt} {Q : Flow → Shared → Prop} {E : Value → Shared → Prop} (F : InF g c s₀ s) (n : Nat) (ρs : Nat → List (Str × AV)) (hρ0 : SubL (ρs 0) c.ρ)
    (ht : ∀ i, i ≤ n → Ts g { c with ρ := ρs i } t (decide (i < n)))
    (hbody : ∀ i, i < n → ∀ (s₁ : Shared) (E' : Value → Shared → Prop), InF g { c with ρ := ρs i } s₀ s₁ → WP g c.A c.env body (Go g { c with ρ := ρs (i + 1) } s₀ True Q) E' s₁)
    (h : ∀ s', InF g { c with ρ := ρs n } s₀ s' → WP g c.A c.env rest Q E s') (hA : c.A = A := by rfl) (hE : c.env = env := by rfl) :
    WP g A env (.While t body [] pos :: rest) Q E s := by
  subst hA; subst hE
  refine x_cons (wpAny_While ?_)
  refine codeAny_whileLoop (fun m s' => ∃ i, m = n - i ∧ i ≤ n ∧ InF g { c with ρ := ρs i } s₀ s') ?_ n ⟨0, rfl, Nat.zero_le _, F.sub hρ0⟩
  rintro m s₁ ⟨i, rfl, hi, F₁⟩
  refine wpAny_mono ((ht i hi).run s₁ _ F₁.ready) (fun b s₂ ⟨k, e⟩ => ?_) fun _ _ x => x
  subst e
  by_cases q : i < n
  · rw [decide_eq_true q, if_pos rfl]
    refine wpAny_mono (hbody i q s₂ _ (F₁.more k)).run (fun f s₃ h₃ => ?_) fun _ _ x => x
    cases f with
    | next => exact ⟨n - (i + 1), by omega, i + 1, rfl, q, h₃.2⟩
    | cont => exact ⟨n - (i + 1), by omega, i + 1, rfl, q, h₃.2⟩
    | brk => exact h₃.elim
    | ret v => exact h₃
  · obtain rfl : i = n := by omega
    rw [decide_eq_false q, if_neg Bool.false_ne_true]
    exact wpAny_execs_nil (h s₂ (F₁.more k))

/-! a def's frame -/
def fnF (fd : FuncData) (L a : Addr) (A : Around) (own : Addr → Option (List AV)) (ρ : List (Str × AV)) : Fc :=
  { env := callEnvC fd L a, A := A.deeper (callEnvC fd L a), own := own, pins := [], ext := [], asg := fun _ => true, ρ := ρ }
/-- a def as the top left it -/
structure DefAt (g : G) (a : Addr) (fd : FuncData) (body : List Stmt) : Prop where
  ho : ∃ o, g.h₀.get? a = some o ∧ o.data = .func fd
  cd : g.h₀.CodeRec fd.code fd.qualname
  body : fd.body = .stmts body
  clo : fd.closure = []
  co : fd.scope.isCoroutine = false
  gen : fd.scope.isGenerator = false
  kind : fd.scope.kind = .function
theorem bindL_skip {kindOf : Str → Option NameKind} {x : Str} : ∀ (binds : List (Str × Value)) (m : Str → Option Value), (∀ p ∈ binds, p.1 ≠ x) → bindL kindOf binds m x = m x
  | [], m, _ => rfl
  | (n, v) :: r, m, h => by
    unfold bindL
    rw [bindL_skip r _ fun p hp => h p (.tail _ hp)]
    split
    · have : x ≠ n := fun e => h (n, v) (.head _) e.symm
      simp [this]
    · rfl
theorem bindC_skip {kindOf : Str → Option NameKind} {x : Str} : ∀ (binds : List (Str × Value)) (m : Str → Option Value), (∀ p ∈ binds, p.1 ≠ x) → bindC kindOf binds m x = m x
  | [], m, _ => rfl
  | (n, v) :: r, m, h => by
    unfold bindC
    rw [bindC_skip r _ fun p hp => h p (.tail _ hp)]
    split
    · rfl
    · have : x ≠ n := fun e => h (n, v) (.head _) e.symm
      simp [this]
theorem bind_look {hid : Addr → Prop} {h : Heap} {kindOf : Str → Option NameKind} : ∀ (names : List Str) (avs : List AV) (vs : List Value) (m mc : Str → Option Value), Vals hid h avs vs → names.Nodup → names.length = avs.length →
    ∀ x av, (names.zip avs).lookup x = some av → ∃ v, Val hid h av v ∧ (kindOf x = some .local → bindL kindOf (names.zip vs) m x = some v) ∧ (kindOf x ≠ some .local → bindC kindOf (names.zip vs) mc x = some v)
  | [], _, _, _, _, _, _, _, x, av, e => by simp at e
  | n :: ns, [], _, _, _, _, _, hl, _, _, _ => by simp at hl
  | n :: ns, a :: as, _, m, mc, hv, hnd, hl, x, av, e => by
    obtain ⟨v, r, rfl, h1, h2⟩ := hv.cons'
    rw [List.nodup_cons] at hnd
    have hskip : ∀ p ∈ ns.zip r, p.1 ≠ n := fun p hp q => hnd.1 (q ▸ (List.of_mem_zip hp).1)
    by_cases w : x = n
    · subst w
      simp only [List.zip_cons_cons, List.lookup_cons, beq_self_eq_true, Option.some.injEq] at e
      subst e
      refine ⟨v, h1, fun hk => ?_, fun hk => ?_⟩
      · show bindL kindOf (ns.zip r) _ x = _
        rw [bindL_skip _ _ hskip, if_pos hk]; simp
      · show bindC kindOf (ns.zip r) _ x = _
        rw [bindC_skip _ _ hskip, if_neg hk]; simp
    · rw [List.zip_cons_cons, List.lookup_cons_ne w] at e
      exact bind_look ns as r _ _ h2 hnd.2 (by simpa using hl) x av e

theorem fn_enter {a : Addr} {fd : FuncData} {body : List Stmt} {names : List Str} {avs : List AV} {vs pos : List Value} {kw : List (Str × Value)} {n : Nat} {A : Around} {P E : Value → Shared → Prop} (G : g.Ok) (D : DefAt g a fd body)
    (ok : OkA (n + 1) A) {H : Addr → Prop} (on : g.On s.heap) (hL : Lists H s.heap) (hv : Vals H s.heap avs vs) (hbind : BindsTo s fd ⟨pos, kw⟩ (names.zip vs)) (hnd : names.Nodup) (hlen : names.length = avs.length)
    (hkind : ∀ x ∈ names, fd.scope.names.lookup x = some .local ∨ (x, NameKind.cell) ∈ fd.scope.names ∧ fd.scope.names.lookup x = some .cell)
    (h : ∀ s₁ E', OkA n (fnF fd s.heap.objs.size a A (rawOwn H s.heap) (names.zip avs)).A → InF g (fnF fd s.heap.objs.size a A (rawOwn H s.heap) (names.zip avs)) s s₁ →
      WP g (fnF fd s.heap.objs.size a A (rawOwn H s.heap) (names.zip avs)).A (fnF fd s.heap.objs.size a A (rawOwn H s.heap) (names.zip avs)).env body (fun f s' => P (match f with | .ret v => v | _ => .none) s') E' s₁) :
    wpAny (model Pg g.w) A (call (.ref a) pos kw) P E s := by
  obtain ⟨o, ho, hd⟩ := D.ho
  have hlv : vs.length = avs.length := hv.length
  refine wpAny_call (codeAny_call_function (by have := ok.dp; show A.depth < recursionLimit; unfold recursionLimit; omega) (on _ _ ho) hd D.co D.gen D.body (D.cd.keeps on) (hbind _ _ _ _ ?_))
  rw [D.clo]
  have spec := cellsFrom_spec fd.scope.names (s.heap.push { cls := .type "frame", data := .dict #[] }) []
  rw [Heap.size_push] at spec
  refine wpAny_newFunctionEnv_cells D.kind (fun x hx => ?_) fun env he s₁ X => ?_
  · have hx1 : x.1 ∈ names := (List.of_mem_zip hx).1
    rcases hkind x.1 hx1 with q | ⟨q, q'⟩
    · exact .inl q
    · obtain ⟨b, hb⟩ := spec.2.1 x.1 q
      exact .inr ⟨q', by rw [hb]; rfl⟩
  · subst he
    refine ⟨(G.nl.keeps on).keeps X.toInCall.keep, codeAny_func ?_⟩
    have ok' : OkA n (fnF fd s.heap.objs.size a A (rawOwn H s.heap) (names.zip avs)).A := ⟨ok.hd, by have := ok.dp; show A.depth + 1 + n < 1000; omega, by have := ok.un; show A.units + 3 + 20 * n < 9900; omega⟩
    refine wpAny_mono (h s₁ (fun e s' => wpAny (model Pg g.w) (A.deeper (callEnvC fd s.heap.objs.size a)) (leaving (callEnvC fd s.heap.objs.size a) e) (fun _ s'' => E e s'') (fun e' s'' => E e' s'') s') ok' ?_).run (fun f s' q => q) fun _ _ x => x
    have look := bind_look (hid := H) (kindOf := (callEnvC fd s.heap.objs.size a).kindOf) names avs vs (fun _ => none) (fun _ => none) hv hnd hlen
    have nohid : ∀ {av : AV} {v : Value}, Val H s.heap av v → Val (fnF fd s.heap.objs.size a A (rawOwn H s.heap) (names.zip avs)).hid s₁.heap av v := fun q =>
      (q.weak (hid' := (fnF fd s.heap.objs.size a A (rawOwn H s.heap) (names.zip avs)).hid) fun a z => rawOwn_some.mp z).keep X.toInCall.keep
    refine ⟨X.toInCall.same, X.toInCall.keep, on, ⟨⟨_, X.toInCall.ns, fun x av hk hr => ?_⟩, fun x av hk hr => ?_, fun b l e => ?_, fun p hp => ?_, fun p hp => ?_, fun x b e => ⟨_, X.cell x b e⟩⟩, ?_, fun x b _ e => ?_, fun x y b _ e1 e2 => ?_⟩
    · obtain ⟨v, q1, q2, _⟩ := look x av hr
      exact ⟨v, q2 hk, nohid q1⟩
    · obtain ⟨v, q1, _, q2⟩ := look x av hr
      have hne : (callEnvC fd s.heap.objs.size a).kindOf x ≠ some .local := by
        rcases hk with z | z
        · intro w; rw [show (callEnvC fd s.heap.objs.size a).kindOf x = some .cell from z] at w; cases w
        · intro w; rw [show (callEnvC fd s.heap.objs.size a).kindOf x = some .free from z] at w; cases w
      have hx1 : x ∈ names := (List.of_mem_zip (mem_of_lookup hr)).1
      rcases hkind x hx1 with w | ⟨w, w'⟩
      · exact absurd w hne
      · obtain ⟨b, hb⟩ := spec.2.1 x w
        refine ⟨b, v, hb, ?_, nohid q1⟩
        have e := q2 hne
        have w2 : s₁.heap.IsCell b (bindC (callEnvC fd s.heap.objs.size a).kindOf (names.zip vs) (fun _ => none) x) := X.cell x b hb
        rw [e] at w2
        exact w2
    · exact rawOwn_own hL X.toInCall.keep e
    · cases hp
    · cases hp
    · exact get_none_of_ge X.toInCall.fresh
    · exact get_none_of_ge (Nat.le_trans X.toInCall.fresh (Nat.le_of_lt (X.above x b (mem_of_lookup e))))
    · exact name_of_addr X.apart (mem_of_lookup e2) (mem_of_lookup e1)
end
end Mine
end
section
open PySem PySem.W PyProof.Rows
set_option Elab.async false
set_option linter.unusedVariables false
namespace Mine
section
variable {g : G} {c : Fc} {s₀ s s' : Shared}

/-! items and slices -/
theorem ev_item {e i : Expr} {l : List AV} {k : Int} {av : AV} {pos : Pos} (h₁ : Ev g c e (.list l)) (h₂ : Ev g c i (.int k)) (h0 : 0 ≤ k) (hk : k < 2 ^ 63) (hx : l[k.toNat]? = some av)
    (hs : ∀ o v, subscripted i false o v = operate [o, v] (getItem o v) := by intro _ _; rfl) : Ev g c (.Subscript e i pos) av := .mk fun s E R =>
  Subscript_ (two h₁ h₂ R fun v₁ v₂ s₂ kp _ x₁ x₂ => by
    obtain ⟨a, items, rfl, hn, hp, hv⟩ := x₁.list'
    obtain ⟨t, rfl⟩ := x₂.int'
    obtain ⟨v, e, hv'⟩ := hv.get hx
    exact tail_any hp.isList.typeIs slot_list_getitem.lookup (wpAny_getItem_list hp.isList h0 hk (by rw [← Array.getElem?_toList]; exact e) ⟨kp, hv'⟩) (hs _ _))
/-- an item of a list of the block's own -/
theorem ev_item_own {e i : Expr} {a : Addr} {l : List AV} {k : Int} {av : AV} {pos : Pos} (h₁ : Ev g c e (.raw (.ref a))) (ho : c.own a = some l) (h₂ : Ev g c i (.int k)) (h0 : 0 ≤ k) (hk : k < 2 ^ 63) (hx : l[k.toNat]? = some av)
    (hs : ∀ o v, subscripted i false o v = operate [o, v] (getItem o v) := by intro _ _; rfl) : Ev g c (.Subscript e i pos) av := .mk fun s E R =>
  Subscript_ (two h₁ h₂ R fun v₁ v₂ s₂ kp R₂ x₁ x₂ => by
    obtain rfl := x₁.raw'
    obtain ⟨t, rfl⟩ := x₂.int'
    obtain ⟨items, hp, hv⟩ := R₂.vis.own a l ho
    obtain ⟨v, e, hv'⟩ := hv.get hx
    exact tail_any hp.isList.typeIs slot_list_getitem.lookup (wpAny_getItem_list hp.isList h0 hk (by rw [← Array.getElem?_toList]; exact e) ⟨kp, hv'⟩) (hs _ _))
theorem ev_sitem {e i : Expr} {x : Str} {k : Int} {cp : Nat} {pos : Pos} (h₁ : Ev g c e (.str x)) (h₂ : Ev g c i (.int k)) (hk : -(2 ^ 63) ≤ k) (hk' : k < 2 ^ 63) (hx : (seqIndex? k x.length).bind (x.cps[·]?) = some cp)
    (hs : ∀ o v, subscripted i false o v = operate [o, v] (getItem o v) := by intro _ _; rfl) : Ev g c (.Subscript e i pos) (.str ⟨#[cp]⟩) := .mk fun s E R =>
  Subscript_ (two h₁ h₂ R fun v₁ v₂ s₂ kp _ x₁ x₂ => by
    obtain ⟨t, rfl⟩ := x₁.str'
    obtain ⟨u, rfl⟩ := x₂.int'
    refine tail_any (typeIs_str s₂ x t) F.slot_str_getitem.lookup (P.getItem_str ?_ hx ⟨kp.tok _, vstr⟩) (hs _ _)
    rw [Bool.or_eq_false_iff]
    exact ⟨decide_eq_false (by omega), decide_eq_false (by omega)⟩)
/-- a slice's end -/
structure EvP (g : G) (c : Fc) (e : Option Expr) (o : Option Int) : Prop where
  run : ∀ (s : Shared) (E : Value → Shared → Prop), Ready g c s → wpAny (model Pg g.w) c.A (evalPart e c.env) (fun v s' => Kp s s' ∧ IsPart v o) E s
theorem evp_none : EvP g c none none := .mk fun s E R => by rw [evalPart_none]; exact wpAny_pure ⟨Kp.refl s, .none⟩
theorem evp_some {e : Expr} {k : Int} (h : Ev g c e (.int k)) : EvP g c (some e) (some k) := .mk fun s E R => by
  rw [evalPart_some]
  exact wpAny_mono (h.run s E R) (fun v s' ⟨kp, x⟩ => ⟨kp, by obtain ⟨t, rfl⟩ := x.int'; exact .int _ _⟩) fun _ _ x => x
theorem evp_nil {e : Expr} (h : Ev g c e .none) : EvP g c (some e) none := .mk fun s E R => by
  rw [evalPart_some]
  exact wpAny_mono (h.run s E R) (fun v s' ⟨kp, x⟩ => ⟨kp, by obtain rfl := x.none'; exact .none⟩) fun _ _ x => x
theorem ev_sslice {e : Expr} {x : Str} {lo hi : Option Expr} {l u : Option Int} {p pos : Pos} (h : Ev g c e (.str x)) (hl : EvP g c lo l) (hu : EvP g c hi u) (hx : x.length ≤ sizeLine) :
    Ev g c (.Subscript e (.Slice lo hi none p) pos) (.str (Txt.slice x l u)) := .mk fun s E R => by
  refine Subscript_ (wpAny_mono (h.run s E R) (fun v s₁ ⟨k₁, x₁⟩ => ?_) fun _ _ x => x)
  obtain ⟨t, rfl⟩ := x₁.str'
  refine wpAny_Slice (wpAny_mono (hl.run s₁ E (R.keep k₁)) (fun vl s₂ ⟨k₂, p₂⟩ => wpAny_mono (hu.run s₂ E (R.keep (k₁.trans k₂))) (fun vu s₃ ⟨k₃, p₃⟩ => ?_) fun _ _ x => x) fun _ _ x => x)
  rw [evalPart_none]
  refine wpAny_pure ?_
  have k := (k₁.trans k₂).trans k₃
  have kept : KeptH (fun h => ∀ b o, s₃.heap.get? b = some o → h.get? b = some o) := fun h ob q b o e => Heap.get?_push_of_some _ (q b o e)
  have st : ∀ (y : Str) (h' : Heap) (t' k' : Nat), (∀ b o, s₃.heap.get? b = some o → h'.get? b = some o) → y = Txt.slice x l u → Kp s { s₃ with heap := h', toks := k' } ∧ Val c.hid h' (.str (Txt.slice x l u)) (.str y t') :=
    fun y h' t' k' q e => ⟨k.ext q, e ▸ vstr⟩
  cases p₂ <;> cases p₃
  · exact tail_of_ItemOn (SBH.sliceItem_nn kept (fun _ _ e => e) (fun h' t' k' q => st _ h' t' k' q rfl) hx) (ops := [.ref s₃.heap.objs.size, .str x t]) rfl (fun _ => by unfold letTemporaryGo; split <;> first | rfl | simp_all)
  · exact tail_of_ItemOn (SBH.sliceItem_ns kept (fun _ _ e => e) (fun h' t' k' q => st _ h' t' k' q rfl) hx) (ops := [.ref s₃.heap.objs.size, .str x t]) rfl (fun _ => by unfold letTemporaryGo; split <;> first | rfl | simp_all)
  · exact tail_of_ItemOn (SBH.sliceItem_sn kept (fun _ _ e => e) (fun h' t' k' q => st _ h' t' k' q rfl) hx) (ops := [.ref s₃.heap.objs.size, .str x t]) rfl (fun _ => by unfold letTemporaryGo; split <;> first | rfl | simp_all)
  · exact tail_of_ItemOn (SBH.sliceItem_ss kept (fun _ _ e => e) (fun h' t' k' q => st _ h' t' k' q rfl) hx) (ops := [.ref s₃.heap.objs.size, .str x t]) rfl (fun _ => by unfold letTemporaryGo; split <;> first | rfl | simp_all)
theorem ev_lslice {e : Expr} {l l' : List AV} {lo hi : Option Expr} {a b : Option Int} {p pos : Pos} (h : Ev g c e (.list l)) (hl : EvP g c lo a) (hu : EvP g c hi b) (hx : l.length ≤ sizeLine)
    (hpick : ∀ (hid : Addr → Prop) (hp : Heap) (items : Array Value), Vals hid hp l items.toList → Vals hid hp l' (slicePick items a b none).toList)
    (ht : ∀ o r, letTemporaryGo e o r = pure () := by intro _ _; rfl) : Ev g c (.Subscript e (.Slice lo hi none p) pos) (.list l') := .mk fun s E R => by
  refine wpAny_Subscript_list_slice (wpAny_mono (h.run s E R) (fun v s₁ ⟨k₁, x₁⟩ => wpAny_mono (hl.run s₁ E (R.keep k₁)) (fun vl s₂ ⟨k₂, p₂⟩ => wpAny_mono (hu.run s₂ E (R.keep (k₁.trans k₂))) (fun vu s₃ ⟨k₃, p₃⟩ => ?_) fun _ _ x => x) fun _ _ x => x) fun _ _ x => x) ht
  obtain ⟨r, items, rfl, hn, hp, hv⟩ := (x₁.keep (k₂.trans k₃).heap).list'
  have k := (k₁.trans k₂).trans k₃
  refine ⟨r, items, a, b, rfl, hp.isList, by have := hv.length; simp at this; omega, p₂, p₃, (k.push _).push _, ?_⟩
  have hdead : s₃.heap.get? (s₃.heap.objs.size + 1) = none := get_none_of_ge (Nat.le_succ _)
  refine vlist ((R.keep k).vis.fresh hdead) ⟨0, ?_⟩ ((hpick _ _ _ hv).keep fun b o e => Heap.get?_push_of_some _ (Heap.get?_push_of_some _ e))
  have := Heap.get?_push_size (h := s₃.heap.push { cls := .type "slice", data := .fields #[vl, vu, .none] }) (o := { cls := .type "list", data := .seq (slicePick items a b none) }) rfl
  rw [Heap.size_push] at this
  exact this

/-! lists -/
theorem ev_list {es : List Expr} {l : List AV} {pos : Pos} (h : Evs g c es l) (hl : l.length ≤ sizeLine) : Ev g c (.List es pos) (.list l) := .mk fun s E R =>
  wpAny_List (wpAny_mono (h.run s E pos R) (fun vs s₁ ⟨k, x⟩ => ⟨by rw [x.length]; exact hl, k.push _,
    vlist ((R.keep k).vis.fresh (get_none_of_ge (Nat.le_refl _))) ⟨0, Heap.get?_push_size _ rfl⟩ (x.keep fun _ _ e => Heap.get?_push_of_some _ e)⟩) fun _ _ x => x)
theorem ev_addl {e₁ e₂ : Expr} {l₁ l₂ : List AV} {pos : Pos} (h₁ : Ev g c e₁ (.list l₁)) (h₂ : Ev g c e₂ (.list l₂)) (hl : l₁.length + l₂.length ≤ sizeLine) : Ev g c (.BinOp e₁ .Add e₂ pos) (.list (l₁ ++ l₂)) := .mk fun s E R =>
  wpAny_BinOp (two h₁ h₂ R fun v₁ v₂ s₂ k R₂ x₁ x₂ => by
    obtain ⟨a, i₁, rfl, _, ⟨n, ho⟩, hv₁⟩ := x₁.list'
    obtain ⟨b, i₂, rfl, _, ⟨n2, ho2⟩, hv₂⟩ := x₂.list'
    have e1 := hv₁.length
    have e2 := hv₂.length
    simp at e1 e2
    refine concat_meets ⟨_, ho, rfl⟩ ⟨_, ho2, rfl⟩ noFill_list_add seq_list_add PySem.F.slot_list_add PySem.F.entry_list_add (PySem.F.args_list_add_2 _ _) (list_addW a b i₁ i₂ n n2 none none #[] #[] (by omega)) ⟨ho, ho2, k.push _, ?_⟩
    exact vlist (R₂.vis.fresh (get_none_of_ge (Nat.le_refl _))) ⟨0, Heap.get?_push_size _ rfl⟩ (by rw [Array.toList_append]; exact (hv₁.append hv₂).keep fun _ _ e => Heap.get?_push_of_some _ e))

/-! built-in functions -/
theorem bnum {l : List Int} {hid : Addr → Prop} {h : Heap} : ∀ {vs : List Value}, Vals hid h (l.map .int) vs → AllInts vs.toArray ∧ numsOf vs = l := by
  induction l with
  | nil => intro vs x; obtain rfl := x.nil'; exact ⟨fun v hv => by simp at hv, rfl⟩
  | cons i l ih =>
    intro vs x
    obtain ⟨v, r, rfl, h1, h2⟩ := x.cons'
    obtain ⟨t, rfl⟩ := h1.int'
    obtain ⟨a, b⟩ := ih h2
    refine ⟨fun v hv => ?_, by simp [numsOf, b]⟩
    have : v = .int i t ∨ v ∈ r.toArray := by simpa using hv
    rcases this with rfl | q
    · exact ⟨_, _, rfl⟩
    · exact a v q
theorem call_sum {l : List Int} (hh : c.A.handled = none) : CallV g c (.builtin "sum") [.list (l.map .int)] (.int l.sum) := fun s vs P E R hv hP => by
  obtain ⟨v, r, rfl, h1, h2⟩ := hv.cons'
  obtain rfl := h2.nil'
  obtain ⟨a, items, rfl, hn, hp, hvs⟩ := h1.list'
  obtain ⟨q1, q2⟩ := bnum hvs
  have q1' : AllInts items := by simpa using q1
  obtain ⟨xs, rfl⟩ := q1'.items
  rw [nums_intItems] at q2
  refine sum_intListG hh hp.isList fun h' tk t' hk => hP _ _ ((Kp.refl s).ext hk) ?_
  rw [preSum_eq, List.take_of_length_le (by simp), q2]
  exact vint
theorem call_lenl {l : List AV} (hl : l.length ≤ sizeLine) : CallV g c (.builtin "len") [.list l] (.int l.length) := fun s vs P E R hv hP => by
  obtain ⟨v, r, rfl, h1, h2⟩ := hv.cons'
  obtain rfl := h2.nil'
  obtain ⟨a, items, rfl, hn, hp, hvs⟩ := h1.list'
  have e := hvs.length
  simp at e
  refine len_list hp.isList (by have := sizeLine_eq; omega) ?_
  rw [e]
  exact hP _ _ ((Kp.refl s).tok _) vint
theorem call_lens {x : Str} (hx : x.length ≤ sizeLine) : CallV g c (.builtin "len") [.str x] (.int x.length) := fun s vs P E R hv hP => by
  obtain ⟨v, r, rfl, h1, h2⟩ := hv.cons'
  obtain rfl := h2.nil'
  obtain ⟨t, rfl⟩ := h1.str'
  exact PySem.P.len_str (by have := sizeLine_eq; omega) (hP _ _ ((Kp.refl s).tok _) vint)
theorem call_min {a b : Int} (hh : c.A.handled = none) : CallV g c (.builtin "min") [.int a, .int b] (.int (if b < a then b else a)) := fun s vs P E R hv hP => by
  obtain ⟨v, r, rfl, h1, h2⟩ := hv.cons'
  obtain ⟨v', r', rfl, h3, h4⟩ := h2.cons'
  obtain rfl := h4.nil'
  obtain ⟨t, rfl⟩ := h1.int'
  obtain ⟨u, rfl⟩ := h3.int'
  refine min_two_ints hh fun h' tk hk => hP _ _ ((Kp.refl s).ext hk) ?_
  split <;> exact vint
theorem call_ord {k : Nat} : CallV g c (.builtin "ord") [.str ⟨#[k]⟩] (.int k) := fun s vs P E R hv hP => by
  obtain ⟨v, r, rfl, h1, h2⟩ := hv.cons'
  obtain rfl := h2.nil'
  obtain ⟨t, rfl⟩ := h1.str'
  exact PySem.P.ord_of_char (hP _ _ ((Kp.refl s).tok _) vint)
theorem call_chr {i : Int} (h0 : 0 ≤ i) (h1 : i ≤ 0x10FFFF) : CallV g c (.builtin "chr") [.int i] (.str ⟨#[i.toNat]⟩) := fun s vs P E R hv hP => by
  obtain ⟨v, r, rfl, h1', h2⟩ := hv.cons'
  obtain rfl := h2.nil'
  obtain ⟨t, rfl⟩ := h1'.int'
  exact PySem.P.chr_of_int (by rw [Bool.or_eq_false_iff]; exact ⟨decide_eq_false (by omega), decide_eq_false (by omega)⟩) (hP _ _ ((Kp.refl s).tok _) vstr)
theorem truth_str {x : Str} (hx : x.length ≤ sizeLine) : Truth g c (.str x) (x.length != 0) := fun s v P E R hv h => by
  obtain ⟨t, rfl⟩ := hv.str'
  refine PySem.P.truthy_str (by have := sizeLine_eq; omega) ?_
  have : ((x.length : Int) != 0) = (x.length != 0) := by
    cases q : x.length <;> simp
    omega
  rw [this]
  exact h _ ((Kp.refl s).tok _)
end
end Mine
end
section
open PySem PySem.W PyProof.Rows
set_option Elab.async false
set_option linter.unusedVariables false
namespace Mine

/-- the program's statements -/
def stAt (i : Nat) : Stmt := Pg.main.body[i]?.getD (.Pass default)
def Stmt.dBody : Stmt → List Stmt | .FunctionDef _ _ b _ _ _ _ _ _ _ => b | _ => []
def Stmt.dScope : Stmt → Scope | .FunctionDef _ _ _ _ _ _ sc _ _ _ => sc | _ => default
def Stmt.dParams : Stmt → Arguments | .FunctionDef _ a _ _ _ _ _ _ _ _ => a | _ => default
def Stmt.dName : Stmt → Str | .FunctionDef n _ _ _ _ _ _ _ _ _ => n | _ => default
/-- the function that a def statement makes -/
def fdOf (st : Stmt) (pm cd doc dV kV : Value) : FuncData :=
  { Calls.docDef (Stmt.dName st) (Stmt.dParams st) (Stmt.dBody st) (Stmt.dScope st) pm cd doc with defaults := dV, kwdefaults := kV }

/-- the built-in names that the text uses -/
def bins : List (Str × Value) := [("len", .builtin "len"), ("ord", .builtin "ord"), ("chr", .builtin "chr"), ("sum", .builtin "sum"), ("min", .builtin "min"), ("range", .type "range"), ("list", .type "list")]
/-- the defs without defaults, by their places -/
def plainDefs : List Nat := [6, 8, 9, 11, 13, 15, 17, 22, 23, 25, 26, 27, 28, 29, 30, 31, 32, 33, 34]
/-- the ints of a display, the strs of a dict display's values, of the text itself -/
def Expr.int1 : Expr → Int | .Constant (.int i) _ _ => i | _ => 0
def Expr.str1 : Expr → Str | .Constant (.str x) _ _ => x | _ => default
def Expr.ints : Expr → List Int | .List es _ => es.map Expr.int1 | _ => []
def Stmt.val : Stmt → Expr | .Assign _ e _ => e | _ => default
def Expr.arg0 : Expr → Expr | .Call _ (a :: _) _ _ => a | _ => default
def Expr.left : Expr → Expr | .BinOp l _ _ _ => l | _ => default
def Expr.pairs : Expr → List (Int × Str)
  | .Dict ks vs _ => (ks.zip vs).map fun p => ((p.1.map Expr.int1).getD 0, Expr.str1 p.2)
  | _ => []
def upTo (a : Int) (n : Nat) : List Int := (List.range n).map fun i => a + (i : Nat)
def b1L : List Int := Expr.ints (Expr.left (Expr.arg0 (Stmt.val (stAt 5)))) ++ upTo 65024 16
def c6L : List Int := upTo 65529 5
def c7L : List Int := upTo 12272 12
def c8L : List Int := Expr.ints (Expr.left (Expr.left (Expr.arg0 (Stmt.val (stAt 14))))) ++ upTo 8234 5 ++ upTo 8298 6
def c9L : List Int := Expr.ints (Expr.left (Expr.arg0 (Stmt.val (stAt 16)))) ++ upTo 917536 96
def sets : List (Str × List Int) := [("b1_set", b1L), ("c6_set", c6L), ("c7_set", c7L), ("c8_set", c8L), ("c9_set", c9L)]
def b3L : List (Int × Str) := Expr.pairs (Stmt.val (stAt 7))
def b3At (k : Int) : Option Str := b3L.lookup k
def consts : List (Str × Int) := [("_MAX_STRING_SIZE", 40), ("_MOVE_COST", 2), ("_CASE_COST", 1)]
structure Tops (g : G) : Prop where
  ok : g.Ok
  bi : ∀ p ∈ bins, g.mg p.1 = none ∧ g.mb p.1 = some p.2
  fn : ∀ i ∈ plainDefs, ∃ a pm cd doc, g.mg (Stmt.dName (stAt i)) = some (.ref a) ∧ DefAt g a (fdOf (stAt i) pm cd doc .none .none) (Stmt.dBody (stAt i))
  set : ∀ p ∈ sets, ∃ a n, g.mg p.1 = some (.ref a) ∧ g.h₀.SetOf (intKind Pg g.w) a (fun k => p.2.contains k) n
  dic : ∃ d f, g.mg "b3_exceptions" = some (.ref d) ∧ (d == sysModules) = false ∧ g.h₀.MapOf (intKind Pg g.w) d f ∧ ∀ k, (b3At k = none ∧ f k = none) ∨ ∃ x t, b3At k = some x ∧ f k = some (.str x t)
  con : ∀ p ∈ consts, ∃ t, g.mg p.1 = some (.int p.2 t)
  bis : ∀ i ∈ [1, 2, 3], ∃ a pm cd doc dT t kD m, g.mg (Stmt.dName (stAt i)) = some (.ref a) ∧ DefAt g a (fdOf (stAt i) pm cd doc (.ref dT) (.ref kD)) (Stmt.dBody (stAt i)) ∧
    g.h₀.IsTuple dT #[.int 0 t, .none] ∧ g.h₀.Ns kD m ∧ m "key" = some .none

section
variable {g : G} {c : Fc}
theorem Tops.name (T : Tops g) {x : Str} {v : Value} (h : (x, v) ∈ bins) (hk : c.env.kindOf x = some .globalImplicit) (hf : c.env.scope.kind = .function) (hg : c.env.globals = mainGlobals) (hb : c.env.builtins = builtinsNs) (hd : (x == ("__debug__" : Str)) = false) : FName g c x v :=
  ⟨hk, hf, hg, hb, .inr (T.bi _ h), hd⟩
end

/-- out by a return, with this value -/
def Ret (s : Shared) (res : AV) (hid : Addr → Prop) (f : Flow) (s' : Shared) : Prop := ∃ v, f = .ret v ∧ Kp s s' ∧ Val hid s'.heap res v

/-- a call of the text's own def: what it gives, by the def's place in the text -/
def FnI (g : G) (n i : Nat) (args : List AV) (res : AV) : Prop := ∃ a, g.mg (Stmt.dName (stAt i)) = some (.ref a) ∧ (∃ o fd, g.h₀.get? a = some o ∧ o.data = .func fd) ∧ Fn g n (.ref a) args res

/-- the text's own def, by walking its body -/
theorem fnI {g : G} {n i : Nat} {args : List AV} {res : AV} (names : List Str) (T : Tops g) (hi : i ∈ plainDefs) (hlen : names.length = args.length) (hnd : names.Nodup)
    (hbind : ∀ pm cd doc vs s, vs.length = args.length → BindsTo s (fdOf (stAt i) pm cd doc .none .none) ⟨vs, []⟩ (names.zip vs))
    (hkind : ∀ x ∈ names, (Stmt.dScope (stAt i)).names.lookup x = some .local ∨ (x, NameKind.cell) ∈ (Stmt.dScope (stAt i)).names ∧ (Stmt.dScope (stAt i)).names.lookup x = some .cell)
    (h : ∀ (a L : Addr) (A : Around) (own : Addr → Option (List AV)) (pm cd doc : Value) (s s₁ : Shared) (E : Value → Shared → Prop), OkA n (fnF (fdOf (stAt i) pm cd doc .none .none) L a A own (names.zip args)).A → InF g (fnF (fdOf (stAt i) pm cd doc .none .none) L a A own (names.zip args)) s s₁ →
      WP g (fnF (fdOf (stAt i) pm cd doc .none .none) L a A own (names.zip args)).A (fnF (fdOf (stAt i) pm cd doc .none .none) L a A own (names.zip args)).env (Stmt.dBody (stAt i))
        (Ret s res (fnF (fdOf (stAt i) pm cd doc .none .none) L a A own (names.zip args)).hid) E s₁) : FnI g (n + 1) i args res := by
  obtain ⟨a, pm, cd, doc, hm, D⟩ := T.fn i hi
  refine ⟨a, hm, (let ⟨o, h1, h2⟩ := D.ho; ⟨o, _, h1, h2⟩), fun H A s vs P E ok on hL hv hP => ?_⟩
  refine fn_enter T.ok D ok on hL hv (hbind pm cd doc vs s hv.length) hnd hlen hkind fun s₁ E' ok' F => ?_
  refine .mk (wpAny_mono (h a s.heap.objs.size A _ pm cd doc s s₁ E' ok' F).run (fun f s' ⟨v, e, k, x⟩ => ?_) fun _ _ x => x)
  subst e
  exact hP v s' k (x.weak fun a q => rawOwn_some.mpr q)
theorem ret_ok {g : G} {c c' : Fc} {s₀ s' : Shared} {av : AV} {v : Value} (F : InF g c s₀ s') (hv : Val c.hid s'.heap av v) (hh : ∀ a, c'.hid a → c.hid a) : Ret s₀ av c'.hid (.ret v) s' := ⟨v, rfl, F.kp, hv.weak hh⟩
end Mine
end
section
open PySem PySem.W PyProof.Rows
set_option Elab.async false
set_option linter.unusedVariables false
namespace Mine
section
variable {g : G} {c : Fc} {s₀ s s' : Shared}

theorem Ev.cast {e : Expr} {a b : AV} (h : Ev g c e a) (q : a = b) : Ev g c e b := q ▸ h
theorem Ts.cast {e : Expr} {a b : Bool} (h : Ts g c e a) (q : a = b) : Ts g c e b := q ▸ h
theorem Cmp.cast {op : CmpOp} {x y : AV} {a b : Bool} (h : Cmp g c op x y a) (q : a = b) : Cmp g c op x y b := q ▸ h
theorem OkA.le {n m : Nat} {A : Around} (h : OkA n A) (hm : m ≤ n) : OkA m A := ⟨h.hd, by have := h.dp; omega, by have := h.un; omega⟩

/-- a block of a function of the module -/
structure FcF (c : Fc) : Prop where
  fn : c.env.scope.kind = .function
  gl : c.env.globals = mainGlobals
  bl : c.env.builtins = builtinsNs
theorem FcF.name (hc : FcF c) (T : Tops g) {x : Str} {v : Value} (h : (x, v) ∈ bins) (hk : c.env.kindOf x = some .globalImplicit) (hd : (x == ("__debug__" : Str)) = false) : FName g c x v := T.name h hk hc.fn hc.gl hc.bl hd

section
variable {e e₁ e₂ : Expr} {p pos : Pos}
theorem ev_lenl {l : List AV} (T : Tops g) (h : Ev g c e (.list l)) (hl : l.length ≤ sizeLine) (hc : FcF c := by exact ⟨rfl, rfl, rfl⟩) (hk : c.env.kindOf "len" = some .globalImplicit := by rfl) (he : starEach [e] c.env = (false, eval e c.env) :: starEach [] c.env := by exact starE rfl _ _) :
    Ev g c (.Call (.Name "len" p) [e] [] pos) (.int l.length) := ev_call T.ok (hc.name T (v := .builtin "len") (by decide) hk (by decide)) (.inl ⟨_, rfl⟩) (evs_cons' h evs_nil he) (call_lenl hl) he
theorem ev_lens {x : Str} (T : Tops g) (h : Ev g c e (.str x)) (hl : x.length ≤ sizeLine) (hc : FcF c := by exact ⟨rfl, rfl, rfl⟩) (hk : c.env.kindOf "len" = some .globalImplicit := by rfl) (he : starEach [e] c.env = (false, eval e c.env) :: starEach [] c.env := by exact starE rfl _ _) :
    Ev g c (.Call (.Name "len" p) [e] [] pos) (.int x.length) := ev_call T.ok (hc.name T (v := .builtin "len") (by decide) hk (by decide)) (.inl ⟨_, rfl⟩) (evs_cons' h evs_nil he) (call_lens hl) he
theorem ev_ord {k : Nat} (T : Tops g) (h : Ev g c e (.str ⟨#[k]⟩)) (hc : FcF c := by exact ⟨rfl, rfl, rfl⟩) (hk : c.env.kindOf "ord" = some .globalImplicit := by rfl) (he : starEach [e] c.env = (false, eval e c.env) :: starEach [] c.env := by exact starE rfl _ _) :
    Ev g c (.Call (.Name "ord" p) [e] [] pos) (.int k) := ev_call T.ok (hc.name T (v := .builtin "ord") (by decide) hk (by decide)) (.inl ⟨_, rfl⟩) (evs_cons' h evs_nil he) call_ord he
theorem ev_chr {i : Int} (T : Tops g) (h : Ev g c e (.int i)) (h0 : 0 ≤ i) (h1 : i ≤ 0x10FFFF) (hc : FcF c := by exact ⟨rfl, rfl, rfl⟩) (hk : c.env.kindOf "chr" = some .globalImplicit := by rfl) (he : starEach [e] c.env = (false, eval e c.env) :: starEach [] c.env := by exact starE rfl _ _) :
    Ev g c (.Call (.Name "chr" p) [e] [] pos) (.str ⟨#[i.toNat]⟩) := ev_call T.ok (hc.name T (v := .builtin "chr") (by decide) hk (by decide)) (.inl ⟨_, rfl⟩) (evs_cons' h evs_nil he) (call_chr h0 h1) he
theorem ev_sum {l : List Int} (T : Tops g) (h : Ev g c e (.list (l.map .int))) (hh : c.A.handled = none) (hc : FcF c := by exact ⟨rfl, rfl, rfl⟩) (hk : c.env.kindOf "sum" = some .globalImplicit := by rfl) (he : starEach [e] c.env = (false, eval e c.env) :: starEach [] c.env := by exact starE rfl _ _) :
    Ev g c (.Call (.Name "sum" p) [e] [] pos) (.int l.sum) := ev_call T.ok (hc.name T (v := .builtin "sum") (by decide) hk (by decide)) (.inl ⟨_, rfl⟩) (evs_cons' h evs_nil he) (call_sum hh) he
theorem ev_min {a b : Int} (T : Tops g) (h₁ : Ev g c e₁ (.int a)) (h₂ : Ev g c e₂ (.int b)) (hh : c.A.handled = none) (hc : FcF c := by exact ⟨rfl, rfl, rfl⟩) (hk : c.env.kindOf "min" = some .globalImplicit := by rfl)
    (he : starEach [e₁, e₂] c.env = (false, eval e₁ c.env) :: starEach [e₂] c.env := by exact starE rfl _ _) (he2 : starEach [e₂] c.env = (false, eval e₂ c.env) :: starEach [] c.env := by exact starE rfl _ _) (hst : (starEach [e₂] c.env).any (·.1) = false := by rfl) :
    Ev g c (.Call (.Name "min" p) [e₁, e₂] [] pos) (.int (if b < a then b else a)) := ev_call T.ok (hc.name T (v := .builtin "min") (by decide) hk (by decide)) (.inl ⟨_, rfl⟩) (evs_cons' h₁ (evs_cons' h₂ evs_nil he2) he) (call_min hh) he hst
theorem src_rng1 {n : Nat} (T : Tops g) (h : Ev g c e (.int n)) (hh : c.A.handled = none) (hn : (n : Int) < 2 ^ 62) (hc : FcF c := by exact ⟨rfl, rfl, rfl⟩) (hk : c.env.kindOf "range" = some .globalImplicit := by rfl)
    (he : starEach [e] c.env = (false, eval e c.env) :: starEach [] c.env := by exact starE rfl _ _) : Src g c (.Call (.Name "range" p) [e] [] pos) (zs 0 n) := src_range1 T.ok (hc.name T (by decide) hk (by decide)) h hh hn he
theorem src_rng2 {a b : Int} {n : Nat} (T : Tops g) (h₁ : Ev g c e₁ (.int a)) (h₂ : Ev g c e₂ (.int b)) (hh : c.A.handled = none)
    (ha : -(2 ^ 62) ≤ a) (ha' : a < 2 ^ 62) (hb : -(2 ^ 62) ≤ b) (hb' : b < 2 ^ 62) (hn : (n : Int) = b - a) (hc : FcF c := by exact ⟨rfl, rfl, rfl⟩) (hk : c.env.kindOf "range" = some .globalImplicit := by rfl)
    (he : starEach [e₁, e₂] c.env = (false, eval e₁ c.env) :: starEach [e₂] c.env := by exact starE rfl _ _) (he2 : starEach [e₂] c.env = (false, eval e₂ c.env) :: starEach [] c.env := by exact starE rfl _ _) (hst : (starEach [e₂] c.env).any (·.1) = false := by rfl) :
    Src g c (.Call (.Name "range" p) [e₁, e₂] [] pos) (zs a n) := src_range2 T.ok (hc.name T (by decide) hk (by decide)) h₁ h₂ hh ha ha' hb hb' hn he he2 hst
/-- a call of one of the text's own defs -/
theorem ev_fn {f : Str} {es : List Expr} {n i : Nat} {args : List AV} {res : AV} (T : Tops g) (h : FnI g n i args res) (ok : OkA n c.A) (ha : Evs g c (e :: es) args) (hf : Stmt.dName (stAt i) = f := by rfl) (hc : FcF c := by exact ⟨rfl, rfl, rfl⟩) (hk : c.env.kindOf f = some .globalImplicit := by rfl)
    (hd : (f == ("__debug__" : Str)) = false := by rfl)
    (he : starEach (e :: es) c.env = (false, eval e c.env) :: starEach es c.env := by exact starE rfl _ _) (hst : (starEach es c.env).any (·.1) = false := by rfl) : Ev g c (.Call (.Name f p) (e :: es) [] pos) res := by
  obtain ⟨a, hm, ⟨o, fd, ho, hod⟩, hF⟩ := h
  subst hf
  exact ev_call T.ok ⟨hk, hc.fn, hc.gl, hc.bl, .inl hm, hd⟩ (.inr (.inr ⟨a, o, fd, rfl, ho, hod⟩)) ha (hF.use ok) he hst
end

/-! methods of strs -/
theorem ev_lower {e : Expr} {x : Str} {ap pos : Pos} (h : Ev g c e (.str x)) (hx : (Txt.lower x).length ≤ 16777216) (hb : attributeBase e "lower" c.env (eval e c.env) = eval e c.env := by rfl) (hl : (ap.endLine == pos.line) = true := by rfl) :
    Ev g c (.Call (.Attribute e "lower" ap) [] [] pos) (.str (Txt.lower x)) := .mk fun s E R =>
  Call_method0 hb hl (wpAny_mono (h.run s E R) (fun v s₁ ⟨k, q⟩ => by
    obtain ⟨t, rfl⟩ := q.str'
    exact SB.lower (by unfold PySem.Builtin.Str.tooLong; simpa [sizeLine_eq] using hx) ⟨k.tok _, vstr⟩) fun _ _ x => x)
theorem ev_upper {e : Expr} {x : Str} {ap pos : Pos} (h : Ev g c e (.str x)) (hx : (Txt.upper x).length ≤ 16777216) (hb : attributeBase e "upper" c.env (eval e c.env) = eval e c.env := by rfl) (hl : (ap.endLine == pos.line) = true := by rfl) :
    Ev g c (.Call (.Attribute e "upper" ap) [] [] pos) (.str (Txt.upper x)) := .mk fun s E R =>
  Call_method0 hb hl (wpAny_mono (h.run s E R) (fun v s₁ ⟨k, q⟩ => by
    obtain ⟨t, rfl⟩ := q.str'
    exact SB.upper (by unfold PySem.Builtin.Str.tooLong; simpa [sizeLine_eq] using hx) ⟨k.tok _, vstr⟩) fun _ _ x => x)
theorem Vals.strs {hid : Addr → Prop} {h : Heap} : ∀ {l : List Str} {vs : List Value}, Vals hid h (l.map .str) vs → StrsAre vs l
  | [], _, q => by obtain rfl := q.nil'; exact .nil
  | x :: l, _, q => by
    obtain ⟨v, r, rfl, h1, h2⟩ := q.cons'
    obtain ⟨t, rfl⟩ := h1.str'
    exact .cons _ _ (Vals.strs h2)
theorem ev_join {e a : Expr} {x : Str} {l : List Str} {ap pos : Pos} (h : Ev g c e (.str x)) (ha : Ev g c a (.list (l.map .str))) (hx : (l.map (·.length)).sum + l.length * x.length ≤ 16777216)
    (hb : attributeBase e "join" c.env (eval e c.env) = eval e c.env := by rfl) (hl : (ap.endLine == pos.line) = true := by rfl) (hs : starEach [a] c.env = [(false, eval a c.env)] := by exact starE rfl _ _) :
    Ev g c (.Call (.Attribute e "join" ap) [a] [] pos) (.str (Txt.join x l)) := .mk fun s E R =>
  Call_method1 hb hs hl (wpAny_mono (h.run s E R) (fun v s₁ ⟨k, q⟩ => by
    obtain ⟨t, rfl⟩ := q.str'
    refine ⟨"str", "str.join", F.plainAttrs_str, F.slot_str_join, F.type_str_join, typeIs_str _ _ _, (fun _ e => nomatch e), ?_⟩
    refine Calls.callWith_builtin rfl (Calls.evalArgs_plain (Calls.spliced_cons (wpAny_mono (ha.run s₁ E (R.keep k)) (fun y s₂ ⟨k₂, q₂⟩ => Calls.spliced_nil ?_) fun _ _ e => e)))
    obtain ⟨b, items, rfl, _, hp, hv⟩ := q₂.list'
    exact join_list hp.isList hv.strs hx fun t' kk => ⟨(k.trans k₂).tok _, vstr⟩) fun _ _ x => x)

/-! comparisons of lists -/
theorem Vals.at {hid : Addr → Prop} {h : Heap} {α : Type} {f : α → AV} {l : List α} {vs : List Value} (q : Vals hid h (l.map f) vs) {j : Nat} (h1 : j < l.length) (h2 : j < vs.length) : Val hid h (f l[j]) vs[j] := by
  obtain ⟨v, e, hv⟩ := q.get (k := j) (y := f l[j]) (by simp [h1])
  rw [List.getElem?_eq_getElem h2] at e
  cases e
  exact hv
theorem all_range_eq {α : Type} [BEq α] [LawfulBEq α] : ∀ (l₁ l₂ : List α), l₁.length = l₂.length → ((List.range l₁.length).all fun j => l₁[j]? == l₂[j]?) = (l₁ == l₂) := by
  intro l₁ l₂ hl
  rw [Bool.eq_iff_iff]
  simp only [List.all_eq_true, List.mem_range, beq_iff_eq]
  constructor
  · intro h
    refine List.ext_getElem? fun j => ?_
    by_cases q : j < l₁.length
    · exact h j q
    · rw [List.getElem?_eq_none (by omega), List.getElem?_eq_none (by omega)]
  · rintro rfl j _
    rfl
/-- values of this kind are compared so -/
def EqKind {α : Type} [BEq α] (f : α → AV) : Prop := ∀ (hid : Addr → Prop) (h : Heap) (A : Around) (s : Shared) (x y : α) (v w : Value), Val hid h (f x) v → Val hid h (f y) w → SeqAt.EqAt A s v w (x == y)
theorem eqk_int : EqKind AV.int := fun hid h A s x y v w a b => by
  obtain ⟨t, rfl⟩ := a.int'
  obtain ⟨u, rfl⟩ := b.int'
  exact SeqAt.EqAt.int_int _ _ _ _
theorem eqk_str : EqKind AV.str := fun hid h A s x y v w a b => by
  obtain ⟨t, rfl⟩ := a.str'
  obtain ⟨u, rfl⟩ := b.str'
  exact SeqAt.EqAt.str_str _ _ _ _
theorem eqk_bool : EqKind AV.bool := fun hid h A s x y v w a b => by
  obtain rfl := a.bool'
  obtain rfl := b.bool'
  exact SeqAt.EqAt.bool_bool _ _
theorem c_leq {α : Type} [BEq α] [LawfulBEq α] {f : α → AV} (hf : EqKind f) {l₁ l₂ : List α} (ok : OkA 0 c.A) : Cmp g c .Eq (.list (l₁.map f)) (.list (l₂.map f)) (l₁ == l₂) := fun s v₁ v₂ P E R x₁ x₂ hP => by
  obtain ⟨a, i₁, rfl, _, hp₁, hv₁⟩ := x₁.list'
  obtain ⟨b, i₂, rfl, _, hp₂, hv₂⟩ := x₂.list'
  have n₁ := hv₁.length
  have n₂ := hv₂.length
  simp at n₁ n₂
  have hu : c.A.units < cLine := by have := ok.un; show c.A.units < 9900; omega
  by_cases q : l₁.length = l₂.length
  · refine SeqAt.eq_listAt (e := fun j => l₁[j]? == l₂[j]?) hp₁.isList hp₂.isList (by omega) hu (fun j h1 h2 => ?_) ?_
    · have k1 : j < l₁.length := by omega
      have k2 : j < l₂.length := by omega
      have := hf _ _ c.A.in1 s _ _ _ _ (hv₁.at (f := f) k1 (by simpa using h1)) (hv₂.at (f := f) k2 (by simpa using h2))
      simpa [k1, k2] using this
    · rw [n₁, all_range_eq _ _ q]
      exact hP s (Kp.refl s)
  · refine SeqAt.eq_list_lengthsAt hp₁.isList hp₂.isList (by simp; omega) hu ?_
    have : (l₁ == l₂) = false := by
      rw [Bool.eq_false_iff]
      intro z
      exact q (by rw [eq_of_beq z])
    rw [← this]
    exact hP s (Kp.refl s)
theorem c_lne {α : Type} [BEq α] [LawfulBEq α] {f : α → AV} (hf : EqKind f) {l₁ l₂ : List α} (ok : OkA 0 c.A) : Cmp g c .NotEq (.list (l₁.map f)) (.list (l₂.map f)) (l₁ != l₂) := fun s v₁ v₂ P E R x₁ x₂ hP => by
  obtain ⟨a, i₁, rfl, _, hp₁, hv₁⟩ := x₁.list'
  obtain ⟨b, i₂, rfl, _, hp₂, hv₂⟩ := x₂.list'
  have n₁ := hv₁.length
  have n₂ := hv₂.length
  simp at n₁ n₂
  have hu : c.A.units < cLine := by have := ok.un; show c.A.units < 9900; omega
  by_cases q : l₁.length = l₂.length
  · refine PySem.EqBoolInt.of_rcne (SeqAt.RcNeAt.lists (e := fun j => l₁[j]? == l₂[j]?) hp₁.isList hp₂.isList (by omega) hu (fun j h1 h2 => ?_)) ?_
    · have k1 : j < l₁.length := by omega
      have k2 : j < l₂.length := by omega
      have := hf _ _ c.A.in1 s _ _ _ _ (hv₁.at (f := f) k1 (by simpa using h1)) (hv₂.at (f := f) k2 (by simpa using h2))
      simpa [k1, k2] using this
    · rw [n₁, all_range_eq _ _ q]
      exact hP s (Kp.refl s)
  · refine PySem.EqBoolInt.of_rcne (SeqAt.RcNeAt.lists_lengths hp₁.isList hp₂.isList (by simp; omega) hu) ?_
    have : (l₁ != l₂) = true := by
      rw [bne, Bool.not_eq_true', Bool.eq_false_iff]
      intro z
      exact q (by rw [eq_of_beq z])
    rw [← this]
    exact hP s (Kp.refl s)
theorem c_lin {α : Type} [BEq α] [LawfulBEq α] {f : α → AV} (hf : EqKind f) {l : List α} {x : α} (hd : ∀ (hid : Addr → Prop) h y z v, Val hid h (f y) v → Val hid h (f z) v → y = z) : Cmp g c .In (f x) (.list (l.map f)) (l.contains x) := fun s v₁ v₂ P E R x₁ x₂ hP => by
  obtain ⟨b, i₂, rfl, _, hp₂, hv₂⟩ := x₂.list'
  have n₂ := hv₂.length
  simp at n₂
  classical
  have hv : ∀ (l : List α) (vs : List Value), Vals c.hid s.heap (l.map f) vs → ∃ e : Value → Bool, (∀ y ∈ vs, SeqAt.EqAt c.A.in1 s y v₁ (e y)) ∧ vs.any e = l.contains x := by
    intro l vs hvs
    refine ⟨fun y => decide (∃ z, Val c.hid s.heap (f z) y ∧ z = x), ?_, ?_⟩
    · intro y hy
      obtain ⟨j, hj, rfl⟩ := List.getElem_of_mem hy
      have hl : j < l.length := by have := hvs.length; simp at this; omega
      have q := hvs.at (f := f) hl hj
      have e1 := hf _ _ c.A.in1 s _ _ _ _ q x₁
      have : (l[j] == x) = decide (∃ z, Val c.hid s.heap (f z) vs[j] ∧ z = x) := by
        rw [Bool.eq_iff_iff, beq_iff_eq, decide_eq_true_iff]
        exact ⟨fun z => ⟨_, q, z⟩, fun ⟨z, h1, h2⟩ => (hd _ _ _ _ _ q h1).trans h2⟩
      rw [this] at e1
      exact e1
    · rw [Bool.eq_iff_iff, List.any_eq_true, List.contains_iff_mem]
      constructor
      · rintro ⟨y, hy, h1⟩
        rw [decide_eq_true_iff] at h1
        obtain ⟨z, hz, rfl⟩ := h1
        obtain ⟨j, hj, rfl⟩ := List.getElem_of_mem hy
        have hl : j < l.length := by have := hvs.length; simp at this; omega
        rw [← hd _ _ _ _ _ (hvs.at (f := f) hl hj) hz]
        exact List.getElem_mem _
      · intro hx
        obtain ⟨j, hj, rfl⟩ := List.getElem_of_mem hx
        have hl : j < vs.length := by have := hvs.length; simp at this; omega
        exact ⟨vs[j], List.getElem_mem _, by rw [decide_eq_true_iff]; exact ⟨_, hvs.at (f := f) hj hl, rfl⟩⟩
  obtain ⟨e, he1, he2⟩ := hv l _ hv₂
  refine SeqAt.in_listAt e hp₂.isList (fun y hy => he1 y (by simpa using hy)) ?_
  rw [← Array.any_toList, he2]
  exact hP s (Kp.refl s)
theorem c_iin {l : List Int} {x : Int} : Cmp g c .In (.int x) (.list (l.map .int)) (l.contains x) := c_lin (f := AV.int) eqk_int fun _ _ _ _ _ a b => by
  obtain ⟨t, rfl⟩ := a.int'
  obtain ⟨u, e⟩ := b.int'
  cases e; rfl
theorem c_bin {l : List Bool} {x : Bool} : Cmp g c .In (.bool x) (.list (l.map .bool)) (l.contains x) := c_lin (f := AV.bool) eqk_bool fun _ _ _ _ _ a b => by
  obtain rfl := a.bool'
  have e := b.bool'
  cases e; rfl
/-- among two ints -/
theorem ev_in2 {e e₁ e₂ : Expr} {x a b : Int} {k : Nat} {p pos : Pos} (h : Ev g c e (.int x)) (h₁ : Ev g c e₁ (.int a)) (h₂ : Ev g c e₂ (.int b)) (he : starEach [e₁, e₂] c.env = (false, eval e₁ c.env) :: starEach [e₂] c.env := by exact starE rfl _ _)
    (he2 : starEach [e₂] c.env = (false, eval e₂ c.env) :: starEach [] c.env := by exact starE rfl _ _) : Ev g c (.Compare e [.In] [.Tuple [e₁, e₂] k p] pos) (.bool (a == x || b == x)) := .mk fun s E R =>
  wpAny_Compare1 (wpAny_mono (h.run s E R) (fun v s₁ ⟨k₁, q₁⟩ => wpAny_Tuple (wpAny_mono ((evs_cons' h₁ (evs_cons' h₂ evs_nil he2) he).run s₁ E p (R.keep k₁)) (fun vs s₂ ⟨k₂, q₂⟩ => by
    obtain ⟨t, rfl⟩ := q₁.int'
    obtain ⟨v₁, r, rfl, hv₁, q₃⟩ := q₂.cons'
    obtain ⟨v₂, r, rfl, hv₂, q₄⟩ := q₃.cons'
    obtain rfl := q₄.nil'
    obtain ⟨t₁, rfl⟩ := hv₁.int'
    obtain ⟨t₂, rfl⟩ := hv₂.int'
    refine ⟨by rw [sizeLine_eq]; show 2 ≤ _; decide, ?_⟩
    refine SeqAt.in_tupleAt (fun y => match y with | .int i _ => i == x | _ => false) ⟨_, Heap.get?_push_size _ rfl, rfl, _, rfl⟩ (fun y hy => ?_) ?_
    · simp at hy
      rcases hy with rfl | rfl <;> exact SeqAt.EqAt.int_int _ _ _ _
    · refine ⟨(k₁.trans k₂).push _, ?_⟩
      simp
      exact vbool) fun _ _ x => x)) fun _ _ x => x)
end
end Mine
end
section
open PySem PySem.W PyProof.Rows
set_option Elab.async false
set_option linter.unusedVariables false
namespace Mine
section
variable {g : G} {c : Fc} {s₀ s s' : Shared}

theorem InF.ownEq {own : Addr → Option (List AV)} (F : InF g c s₀ s) (h : ∀ a, own a = c.own a) : InF g { c with own := own } s₀ s := by
  have : own = c.own := funext h
  subst this
  exact F
theorem setOwn_own (c : Fc) (a : Addr) (l : List AV) : (c.setOwn a l).own a = some l := if_pos rfl

/-- a new list becomes one of the block's own -/
theorem InF.adopt {l : List AV} {vs : List Value} (F : InF g c s₀ s) (hv : Vals c.hid s.heap l vs) :
    InF g (c.setOwn s.heap.objs.size l) s₀ { s with heap := s.heap.push { cls := .type "list", data := .seq vs.toArray } } := by
  have kb : ∀ b o, s.heap.get? b = some o → (s.heap.push { cls := .type "list", data := .seq vs.toArray }).get? b = some o := fun b o e => Heap.get?_push_of_some _ e
  have hn : s.heap.get? s.heap.objs.size = none := get_none_of_ge (Nat.le_refl _)
  have hh : ∀ b, (∃ o, s.heap.get? b = some o) → (c.setOwn s.heap.objs.size l).hid b → c.hid b := by
    rintro b ⟨o, e⟩ q
    unfold Fc.hid Fc.setOwn at q
    dsimp only at q
    rw [if_neg (by rintro rfl; rw [hn] at e; cases e)] at q
    exact q
  have vl : ∀ {av : AV} {v : Value}, Val c.hid s.heap av v → Val (c.setOwn s.heap.objs.size l).hid (s.heap.push { cls := .type "list", data := .seq vs.toArray }) av v := fun q =>
    q.imp (fun b its ⟨n, e⟩ z => hh b ⟨_, e⟩ z) fun b its _ e => e.at fun o e => kb b o e
  have vls : ∀ {av : List AV} {v : List Value}, Vals c.hid s.heap av v → Vals (c.setOwn s.heap.objs.size l).hid (s.heap.push { cls := .type "list", data := .seq vs.toArray }) av v := fun q =>
    q.imp (fun b its ⟨n, e⟩ z => hh b ⟨_, e⟩ z) fun b its _ e => e.at fun o e => kb b o e
  refine F.turn (c' := c.setOwn s.heap.objs.size l) (t := s.toks) (fun b o e => kb b o (F.keep b o e)) ⟨?_, ?_, ?_, ?_, ?_, ?_⟩ rfl rfl
  · obtain ⟨m, hns, hm⟩ := F.vis.loc
    refine ⟨m, hns.keeps kb, fun y av hy hr => ?_⟩
    obtain ⟨v, e, q⟩ := hm y av hy hr
    exact ⟨v, e, vl q⟩
  · intro y av hy hr
    obtain ⟨b, v, e, hc, q⟩ := F.vis.cel y av hy hr
    exact ⟨b, v, e, hc.keeps kb, vl q⟩
  · intro b lb e
    unfold Fc.setOwn at e
    dsimp only at e
    split at e
    · next q =>
      cases e
      subst q
      exact ⟨vs.toArray, ⟨0, Heap.get?_push_size _ rfl⟩, by simpa using vls hv⟩
    · obtain ⟨its, hp, hvs⟩ := F.vis.own b lb e
      exact ⟨its, hp.at fun o e => kb b o e, vls hvs⟩
  · intro p hp
    obtain ⟨e, hn2, hpi⟩ := F.vis.pin p hp
    exact ⟨kb _ _ e, fun q => hn2 (hh _ ⟨_, e⟩ q), hpi⟩
  · exact fun p hp => vl (F.vis.ext p hp)
  · intro y b e
    obtain ⟨v, q⟩ := F.vis.cex y b e
    exact ⟨v, q.keeps kb⟩
def Fc.dropOwn (c : Fc) (a : Addr) : Fc := { c with own := fun b => if b = a then none else c.own b }
/-- a list of the block's own becomes a plain value of a name -/
theorem InF.letGo {a : Addr} {l : List AV} {x : Str} (F : InF g c s₀ s) (ha : c.own a = some l) (hx : c.ρ.lookup x = some (.raw (.ref a))) :
    InF g ((c.dropOwn a).set x (.list l)) s₀ s := by
  have hh : ∀ b, (c.dropOwn a).hid b → c.hid b := by
    intro b q
    unfold Fc.hid Fc.dropOwn at q
    dsimp only at q
    split at q
    · cases q
    · exact q
  have hna : ¬ (c.dropOwn a).hid a := by
    unfold Fc.hid Fc.dropOwn
    simp
  have vl : ∀ {av : AV} {v : Value}, Val c.hid s.heap av v → Val (c.dropOwn a).hid s.heap av v := fun q => q.weak hh
  have vls : ∀ {av : List AV} {v : List Value}, Vals c.hid s.heap av v → Vals (c.dropOwn a).hid s.heap av v := fun q => q.weak hh
  obtain ⟨its, hp, hv⟩ := F.vis.own a l ha
  have hval : Val (c.dropOwn a).hid s.heap (.list l) (.ref a) := vlist hna hp (vls hv)
  refine ⟨F.same, F.keep, F.on, ⟨?_, ?_, ?_, ?_, ?_, ?_⟩, F.nL, F.nC, F.apart⟩
  · obtain ⟨m, hns, hm⟩ := F.vis.loc
    refine ⟨m, hns, fun y av hy hr => ?_⟩
    by_cases q : y = x
    · subst q
      simp only [Fc.set, List.lookup_cons, beq_self_eq_true, Option.some.injEq] at hr
      subst hr
      obtain ⟨v, e, z⟩ := hm y _ hy hx
      obtain rfl := z.raw'
      exact ⟨_, e, hval⟩
    · rw [Fc.set, List.lookup_cons_ne q] at hr
      obtain ⟨v, e, z⟩ := hm y av hy hr
      exact ⟨v, e, vl z⟩
  · intro y av hy hr
    by_cases q : y = x
    · subst q
      simp only [Fc.set, List.lookup_cons, beq_self_eq_true, Option.some.injEq] at hr
      subst hr
      obtain ⟨b, v, e, hc, z⟩ := F.vis.cel y _ hy hx
      obtain rfl := z.raw'
      exact ⟨b, _, e, hc, hval⟩
    · rw [Fc.set, List.lookup_cons_ne q] at hr
      obtain ⟨b, v, e, hc, z⟩ := F.vis.cel y av hy hr
      exact ⟨b, v, e, hc, vl z⟩
  · intro b lb e
    unfold Fc.set Fc.dropOwn at e
    dsimp only at e
    split at e
    · cases e
    · obtain ⟨its, hp, hvs⟩ := F.vis.own b lb e
      exact ⟨its, hp, vls hvs⟩
  · intro p hp
    obtain ⟨e, hn2, hpi⟩ := F.vis.pin p hp
    exact ⟨e, fun q => hn2 (hh _ q), hpi⟩
  · exact fun p hp => vl (F.vis.ext p hp)
  · exact F.vis.cex

theorem x_own {A : Around} {env : Env} {x : Str} {p pos lp : Pos} {es : List Expr} {l : List AV} {rest : List Stmt} {Q : Flow → Shared → Prop} {E : Value → Shared → Prop} (F : InF g c s₀ s) (he : Evs g c es l) (hl : l.length ≤ sizeLine) (B : Bind c x)
    (h : ∀ a s', s₀.heap.get? a = none → ¬ c.hid a → InF g ((c.setOwn a l).set x (.raw (.ref a))) s₀ s' → WP g c.A c.env rest Q E s') (hs : swapsWith (.List es lp) (some (.Name x p)) pos.line c.env = pure false := by rfl) (hA : c.A = A := by rfl) (hE : c.env = env := by rfl) :
    WP g A env (.Assign [.Name x p] (.List es lp) pos :: rest) Q E s := by
  subst hA; subst hE
  exact x_cons (wpAny_Assign_Name (wpAny_List (wpAny_mono (he.run s E lp F.ready) (fun vs s₁ ⟨k, q⟩ => ⟨by rw [q.length]; exact hl, by
    have F₁ := F.more k
    have hd : s₁.heap.get? s₁.heap.objs.size = none := get_none_of_ge (Nat.le_refl _)
    exact st_bind (c := c.setOwn s₁.heap.objs.size l) B (F₁.adopt q) vraw fun s' F' => h _ s' (dead₀ F₁ hd) (F₁.vis.fresh hd) F'⟩) fun _ _ x => x)) hs)
theorem x_append {A : Around} {env : Env} {e o : Expr} {a : Addr} {l : List AV} {av : AV} {ap cp pos : Pos} {rest : List Stmt} {Q : Flow → Shared → Prop} {E : Value → Shared → Prop} (F : InF g c s₀ s) (ho : Ev g c o (.raw (.ref a))) (ha : c.own a = some l) (hz : s₀.heap.get? a = none)
    (he : Ev g c e av) (hl : l.length ≤ sizeLine) (h : ∀ s', InF g (c.setOwn a (l ++ [av])) s₀ s' → WP g c.A c.env rest Q E s')
    (hb : attributeBase o "append" c.env (eval o c.env) = eval o c.env := by rfl) (hs : starEach [e] c.env = [(false, eval e c.env)] := by exact starE rfl _ _) (hln : (ap.endLine == cp.line) = true := by rfl)
    (hi : interactive c.env = false := by rfl) (hsw : swapsWith (.Call (.Attribute o "append" ap) [e] [] cp) none pos.line c.env = pure false := by rfl) (hA : c.A = A := by rfl) (hE : c.env = env := by rfl) :
    WP g A env (.Expr (.Call (.Attribute o "append" ap) [e] [] cp) pos :: rest) Q E s := by
  subst hA; subst hE
  refine x_cons (wpAny_Expr (Call_method1 hb hs hln (wpAny_mono (ho.run s E F.ready) (fun v s₁ ⟨k₁, q₁⟩ => ?_) fun _ _ x => x)) hi hsw)
  obtain rfl := q₁.raw'
  have F₁ := F.more k₁
  obtain ⟨its, ⟨n, hp⟩, _⟩ := F₁.vis.own a l ha
  refine ⟨"list", "list.append", PySem.F.plainAttrs_list, slot_list_append, type_list_append, ⟨_, hp, rfl⟩, fun b e => by cases e; exact ⟨_, hp, rfl⟩, ?_⟩
  refine Calls.callWith_builtin rfl (Calls.evalArgs_plain (Calls.spliced_cons (wpAny_mono (he.run s₁ E F₁.ready) (fun y s₂ ⟨k₂, q₂⟩ => Calls.spliced_nil ?_) fun _ _ e => e)))
  have F₂ := F₁.more k₂
  obtain ⟨its₂, hp₂, hv₂⟩ := F₂.vis.own a l ha
  have hsz := hv₂.length
  simp at hsz
  refine wpAny_list_append_plain hp₂ (fun h₃ hp₃ hs₃ => ?_) (by omega)
  exact h _ (own_turn (t := s₂.toks) F₂ ha hz hp₃ hs₃ (by rw [Array.toList_push]; exact hv₂.append (Vals.cons q₂ Vals.nil)))
theorem plain_update {h : Heap} {a : Addr} {its : Array Value} (f : Array Value → Array Value) (hp : h.PlainList a its) : (h.update a (Obj.mapSeq f)).PlainList a (f its) := by
  obtain ⟨n, ho⟩ := hp
  have hd : (Obj.mapSeq f { cls := .type "list", data := .seq its n }).data = .seq (f its) (if (f its).size == its.size then n else n + 1) := rfl
  exact ⟨_, Heap.get?_update_self _ ho (Obj.isFreed_of_seq hd)⟩
theorem x_extend {A : Around} {env : Env} {e o : Expr} {a : Addr} {l l' : List AV} {ap cp pos : Pos} {rest : List Stmt} {Q : Flow → Shared → Prop} {E : Value → Shared → Prop} (F : InF g c s₀ s) (ho : Ev g c o (.raw (.ref a))) (ha : c.own a = some l) (hz : s₀.heap.get? a = none)
    (he : Ev g c e (.list l')) (hl : l.length + l'.length ≤ sizeLine) (h : ∀ s', InF g (c.setOwn a (l ++ l')) s₀ s' → WP g c.A c.env rest Q E s')
    (hb : attributeBase o "extend" c.env (eval o c.env) = eval o c.env := by rfl) (hs : starEach [e] c.env = [(false, eval e c.env)] := by exact starE rfl _ _) (hln : (ap.endLine == cp.line) = true := by rfl)
    (hi : interactive c.env = false := by rfl) (hsw : swapsWith (.Call (.Attribute o "extend" ap) [e] [] cp) none pos.line c.env = pure false := by rfl) (hA : c.A = A := by rfl) (hE : c.env = env := by rfl) :
    WP g A env (.Expr (.Call (.Attribute o "extend" ap) [e] [] cp) pos :: rest) Q E s := by
  subst hA; subst hE
  refine x_cons (wpAny_Expr (Call_method1 hb hs hln (wpAny_mono (ho.run s E F.ready) (fun v s₁ ⟨k₁, q₁⟩ => ?_) fun _ _ x => x)) hi hsw)
  obtain rfl := q₁.raw'
  have F₁ := F.more k₁
  obtain ⟨its, ⟨n, hp⟩, _⟩ := F₁.vis.own a l ha
  refine ⟨"list", "list.extend", PySem.F.plainAttrs_list, PySem.F.slot_list_extend, PySem.F.type_list_extend, ⟨_, hp, rfl⟩, fun b e => by cases e; exact ⟨_, hp, rfl⟩, ?_⟩
  refine Calls.callWith_builtin rfl (Calls.evalArgs_plain (Calls.spliced_cons (wpAny_mono (he.run s₁ E F₁.ready) (fun y s₂ ⟨k₂, q₂⟩ => Calls.spliced_nil ?_) fun _ _ e => e)))
  have F₂ := F₁.more k₂
  obtain ⟨its₂, hp₂, hv₂⟩ := F₂.vis.own a l ha
  obtain ⟨b, its₃, rfl, _, ⟨n₃, hp₃⟩, hv₃⟩ := q₂.list'
  have hsz := hv₂.length
  have hsz' := hv₃.length
  simp at hsz hsz'
  obtain ⟨n₂, hp₂'⟩ := id hp₂
  refine call_meets PySem.F.slot_list_extend ⟨_, hp₂', rfl⟩ PySem.F.entry_list_extend (PySem.F.args_list_extend_2 _ _) (AutoSeq1.list_extend_list_list_0 a its₂ n₂ b its₃ n₃ (by unfold Builtin.List.listTooLong; simp [sizeLine_eq] at hl ⊢; omega) (by omega) (by omega)) ⟨hp₂', hp₃, ?_⟩
  exact h _ (own_turn (t := s₂.toks) F₂ ha hz (plain_update _ hp₂) (Heap.SameBut.update ..) (by rw [Array.toList_append]; exact hv₂.append hv₃))
end
end Mine
end
section
open PySem PySem.W PyProof.Rows
set_option Elab.async false
set_option linter.unusedVariables false
namespace Mine
section
variable {g : G} {c : Fc} {s₀ s s' : Shared}

theorem Vals.set {hid : Addr → Prop} {h : Heap} {av : AV} {v : Value} : ∀ {l : List AV} {vs : List Value}, Vals hid h l vs → ∀ (j : Nat), Val hid h av v → Vals hid h (l.set j av) (vs.set j v)
  | [], _, hv, j, q => by obtain rfl := hv.nil'; simpa using hv
  | y :: l, _, hv, j, q => by
    obtain ⟨w, r, rfl, h1, h2⟩ := hv.cons'
    cases j with
    | zero => exact Vals.cons q h2
    | succ j => exact Vals.cons h1 (Vals.set h2 j q)

theorem mapKeep {w : World} {h h' : Heap} {d : Addr} {f : Int → Option Value} (x : h.MapOf (intKind Pg w) d f) (hk : ∀ b o, h.get? b = some o → h'.get? b = some o) : h'.MapOf (intKind Pg w) d f := by
  obtain ⟨o, es, ep, e, r⟩ := x
  exact ⟨o, es, ep, hk _ _ e, r⟩
theorem setKeep {w : World} {h h' : Heap} {d : Addr} {f : Int → Bool} {n : Nat} (x : h.SetOf (intKind Pg w) d f n) (hk : ∀ b o, h.get? b = some o → h'.get? b = some o) : h'.SetOf (intKind Pg w) d f n := by
  obtain ⟨o, es, ep, t, e, r⟩ := x
  exact ⟨o, es, ep, t, hk _ _ e, r⟩

/-! globals of the module -/
theorem ev_const {x : Str} {i : Int} {p : Pos} (T : Tops g) (h : (x, i) ∈ consts := by decide) (hc : FcF c := by exact ⟨rfl, rfl, rfl⟩) (hk : c.env.kindOf x = some .globalImplicit := by rfl) (hd : (x == ("__debug__" : Str)) = false := by rfl) : Ev g c (.Name x p) (.int i) := by
  obtain ⟨t, e⟩ := T.con _ h
  exact ev_glob T.ok ⟨hk, hc.fn, hc.gl, hc.bl, .inl e, hd⟩ fun h => vint
theorem ev_inset {e : Expr} {x : Str} {l : List Int} {i : Int} {p pos : Pos} (T : Tops g) (h : (x, l) ∈ sets) (he : Ev g c e (.int i)) (hc : FcF c := by exact ⟨rfl, rfl, rfl⟩) (hk : c.env.kindOf x = some .globalImplicit := by rfl) (hd : (x == ("__debug__" : Str)) = false := by rfl) :
    Ev g c (.Compare e [.In] [.Name x p] pos) (.bool (l.contains i)) := .mk fun s E R => by
  obtain ⟨a, n, hm, hS⟩ := T.set _ h
  refine wpAny_Compare1 (wpAny_mono (he.run s E R) (fun v s₁ ⟨k₁, q₁⟩ => ?_) fun _ _ x => x)
  obtain ⟨t, rfl⟩ := q₁.int'
  have N : FName g c x (.ref a) := ⟨hk, hc.fn, hc.gl, hc.bl, .inl hm, hd⟩
  refine N.load T.ok (R.keep k₁) ?_
  exact wpAny_inSet_of (knd := intKind Pg g.w) (k := i) (by simp [intKind, Value.isInt]) rfl (setKeep hS (R.keep k₁).on) ⟨k₁.tok _, vbool⟩
theorem ev_b3 {e : Expr} {i : Int} {p ap pos : Pos} (T : Tops g) (he : Ev g c e (.int i)) (hc : FcF c := by exact ⟨rfl, rfl, rfl⟩) (hk : c.env.kindOf "b3_exceptions" = some .globalImplicit := by rfl)
    (hb : attributeBase (.Name "b3_exceptions" p) "get" c.env (eval (.Name "b3_exceptions" p) c.env) = eval (.Name "b3_exceptions" p) c.env := by rfl) (hl : (ap.endLine == pos.line) = true := by rfl) (hs : starEach [e] c.env = [(false, eval e c.env)] := by exact starE rfl _ _) :
    Ev g c (.Call (.Attribute (.Name "b3_exceptions" p) "get" ap) [e] [] pos) (match b3At i with | some x => .str x | none => .none) := .mk fun s E R => by
  obtain ⟨d, f, hm, hds, hM, hf⟩ := T.dic
  have N : FName g c "b3_exceptions" (.ref d) := ⟨hk, hc.fn, hc.gl, hc.bl, .inl hm, by decide⟩
  refine Call_method1 hb hs hl (N.load T.ok R ?_)
  have hM₀ := mapKeep hM R.on
  refine ⟨"dict", "dict.get", PySem.F.plainAttrs_dict, PySem.F.slot_dict_get, PySem.F.type_dict_get, hM₀.typeIs, hM₀.noDict, ?_⟩
  refine wpAny_dict_get1 (knd := intKind Pg g.w) hds (wpAny_mono (he.run s E R) (fun v s₁ ⟨k₁, q₁⟩ => ?_) fun _ _ x => x)
  obtain ⟨t, rfl⟩ := q₁.int'
  refine ⟨i, f, by simp [intKind, Value.isInt], mapKeep hM (R.keep k₁).on, k₁.tok _, ?_⟩
  rcases hf i with ⟨e1, e2⟩ | ⟨x, u, e1, e2⟩
  · rw [e1, e2]; exact vnone
  · rw [e1, e2]; exact vstr

/-! more of statements and expressions -/
theorem x_aug {A : Around} {env : Env} {x : Str} {p pos : Pos} {e : Expr} {op : Operator} {i j r : Int} {rest : List Stmt} {Q : Flow → Shared → Prop} {E : Value → Shared → Prop} (F : InF g c s₀ s) (hx : c.ρ.lookup x = some (.int i)) (he : Ev g c e (.int j)) (hop : (op = .Add ∧ r = i + j) ∨ (op = .Sub ∧ r = i - j))
    (h : ∀ s', InF g (c.set x (.int r)) s₀ s' → WP g c.A c.env rest Q E s') (hl : c.env.kindOf x = some .local := by rfl) (hk : c.env.scope.kind = .function := by rfl) (hA : c.A = A := by rfl) (hE : c.env = env := by rfl) :
    WP g A env (.AugAssign (.Name x p) op e pos :: rest) Q E s := by
  subst hA; subst hE
  refine x_cons (wpAny_AugAssign_Name ?_)
  obtain ⟨m, hn, hm⟩ := F.vis.loc
  obtain ⟨v, e1, hv⟩ := hm x _ hl hx
  obtain ⟨t, rfl⟩ := hv.int'
  refine wpAny_loadName_local hk hl hn e1 (wpAny_mono (he.run s E F.ready) (fun v s₁ ⟨k₁, q₁⟩ => ?_) fun _ _ x => x)
  obtain ⟨u, rfl⟩ := q₁.int'
  rcases hop with ⟨rfl, rfl⟩ | ⟨rfl, rfl⟩
  · exact PyProof.Rows.iadd_int (st_local (F.more (k₁.tok _)) vint (fun s' F' _ => h s' F') hl hk)
  · exact PyProof.Rows.isub_int (st_local (F.more (k₁.tok _)) vint (fun s' F' _ => h s' F') hl hk)
theorem x_assign2 {A : Around} {env : Env} {x y : Str} {p q pos : Pos} {e : Expr} {av : AV} {rest : List Stmt} {Q : Flow → Shared → Prop} {E : Value → Shared → Prop} (F : InF g c s₀ s) (he : Ev g c e av) (hav : ∀ hid h hid' h' v, Val hid h av v → Val hid' h' av v) (B : Bind c x) (B' : Bind c y)
    (h : ∀ s', InF g ((c.set x av).set y av) s₀ s' → WP g c.A c.env rest Q E s') (he2 : (assignEach [.Name x p, .Name y q] c.env).map (·.2) = [assign (.Name x p) c.env, assign (.Name y q) c.env] := by rfl)
    (hw : swappedStores [.Name x p, .Name y q] e c.env = pure none := by rfl) (hA : c.A = A := by rfl) (hE : c.env = env := by rfl) :
    WP g A env (.Assign [.Name x p, .Name y q] e pos :: rest) Q E s := by
  subst hA; subst hE
  exact x_cons (wpAny_Assign_two (wpAny_mono (he.run s E F.ready) (fun v s₁ ⟨k₁, q₁⟩ => wpAny_assign_Name (st_bind B (F.more k₁) q₁ fun s₂ F₂ => wpAny_assign_Name (st_bind (c := c.set x av) B' F₂ (hav _ _ _ _ _ q₁) fun s₃ F₃ => h s₃ F₃))) fun _ _ x => x) he2 hw)
theorem int_imm {i : Int} : ∀ (hid : Addr → Prop) (h : Heap) (hid' : Addr → Prop) (h' : Heap) (v : Value), Val hid h (.int i) v → Val hid' h' (.int i) v := fun _ _ _ _ _ q => by
  obtain ⟨t, rfl⟩ := q.int'
  exact vint
theorem ev_neg {e : Expr} {i : Int} {pos : Pos} (h : Ev g c e (.int i)) : Ev g c (.UnaryOp .USub e pos) (.int (-i)) := .mk fun s E R =>
  wpAny_UnaryOp (wpAny_mono (h.run s E R) (fun v s₁ ⟨k, q⟩ => by
    obtain ⟨t, rfl⟩ := q.int'
    exact PyProof.Rows.neg_int ⟨k.tok _, vint⟩) fun _ _ x => x)
theorem ev_or {e₁ e₂ : Expr} {i : Int} {av av' : AV} {pos : Pos} (h₁ : Ev g c e₁ (.int i)) (h₂ : Ev g c e₂ av) (hav : av' = if i = 0 then av else .int i) : Ev g c (.BoolOp .Or [e₁, e₂] pos) av' := .mk fun s E R =>
  wpAny_Or2 (wpAny_mono (h₁.run s E R) (fun v s₁ ⟨k, q⟩ => by
    obtain ⟨t, rfl⟩ := q.int'
    refine PyProof.Rows.truthy_int ?_
    by_cases z : i = 0
    · subst z
      subst hav
      exact wpAny_mono (h₂.run s₁ E (R.keep k)) (fun v s₂ ⟨k₂, q₂⟩ => ⟨k.trans k₂, q₂⟩) fun _ _ x => x
    · rw [if_pos (by simpa using z), hav, if_neg z]
      exact ⟨k, vint⟩) fun _ _ x => x)
theorem ev_last_own {e i : Expr} {a : Addr} {l : List AV} {av : AV} {pos : Pos} (h₁ : Ev g c e (.raw (.ref a))) (ho : c.own a = some l) (h₂ : Ev g c i (.int (-1))) (hn : l ≠ []) (hx : l[l.length - 1]? = some av)
    (hs : ∀ o v, subscripted i false o v = operate [o, v] (getItem o v) := by intro _ _; rfl) : Ev g c (.Subscript e i pos) av := .mk fun s E R =>
  Subscript_ (two h₁ h₂ R fun v₁ v₂ s₂ kp R₂ x₁ x₂ => by
    obtain rfl := x₁.raw'
    obtain ⟨t, rfl⟩ := x₂.int'
    obtain ⟨items, hp, hv⟩ := R₂.vis.own a l ho
    obtain ⟨v, e, hv'⟩ := hv.get hx
    have hl := hv.length
    simp at hl
    have : 0 < l.length := List.length_pos_iff.mpr hn
    refine tail_any hp.isList.typeIs slot_list_getitem.lookup (wpAny_getItem_list_neg hp.isList (by omega) (by omega) (by omega) ?_ ⟨kp, hv'⟩) (hs _ _)
    rw [← Array.getElem?_toList, show ((-1 : Int) + items.size).toNat = l.length - 1 by omega]
    exact e)
theorem x_setitem {A : Around} {env : Env} {e o i : Expr} {a : Addr} {l : List AV} {k : Int} {av : AV} {p pos : Pos} {rest : List Stmt} {Q : Flow → Shared → Prop} {E : Value → Shared → Prop} (F : InF g c s₀ s) (ho : Ev g c o (.raw (.ref a))) (ha : c.own a = some l) (hz : s₀.heap.get? a = none)
    (hi : Ev g c i (.int k)) (he : Ev g c e av) (h0 : 0 ≤ k) (hk : k < l.length) (hsz : l.length ≤ sizeLine) (h : ∀ s', InF g (c.setOwn a (l.set k.toNat av)) s₀ s' → WP g c.A c.env rest Q E s')
    (hs : swapsWith e (some (.Subscript o i p)) pos.line c.env = pure false := by rfl) (hA : c.A = A := by rfl) (hE : c.env = env := by rfl) :
    WP g A env (.Assign [.Subscript o i p] e pos :: rest) Q E s := by
  subst hA; subst hE
  refine x_cons (wpAny_Assign_Subscript (wpAny_mono (he.run s E F.ready) (fun v s₁ ⟨k₁, q₁⟩ => wpAny_mono (ho.run s₁ E (F.more k₁).ready) (fun ov s₂ ⟨k₂, q₂⟩ => wpAny_mono (hi.run s₂ E ((F.more k₁).more k₂).ready) (fun iv s₃ ⟨k₃, q₃⟩ => ?_) fun _ _ x => x) fun _ _ x => x) fun _ _ x => x) hs)
  obtain rfl := q₂.raw'
  obtain ⟨t, rfl⟩ := q₃.int'
  have F₃ := ((F.more k₁).more k₂).more k₃
  obtain ⟨its, hp, hv⟩ := F₃.vis.own a l ha
  have hl := hv.length
  simp at hl
  obtain ⟨n, ho'⟩ := id hp
  unfold setItem
  try with_reducible refine wpAny_holding ?_
  first | refine wpAny_bind (wpAny_pure ?_) | skip
  refine wpAny_bind (wpAny_sequenceKey hp.isList.typeIs (by decide) ?_)
  refine wpAny_bind (wpAny_callSpecial?_slot (name := Str.ofString "__setitem__") hp.isList.typeIs slot_list_setitem
    (wpAny_call_entry slot_list_setitem hp.isList.typeIs entry_list_setitem ?_ (args_list_setitem _ _ _)))
  show wpAny _ _ (Builtin.List.listSubscript? (.int k t) >>= _) _ _ s₃
  have hfit : k < 2 ^ 63 := by rw [sizeLine_eq] at hsz; omega
  refine wpAny_bind (wpAny_listSubscript_int (fitsIndex_of h0 hfit) ?_)
  obtain ⟨j, rfl⟩ := Int.eq_ofNat_of_zero_le h0
  have hj : j < its.size := by omega
  have hx' : its[j]? = some its[j] := Array.getElem?_eq_getElem hj
  show wpAny _ _ ((seqItemAt a j >>= fun r => pure (r.map (j, ·))) >>= _) _ _ s₃
  refine wpAny_bind (wpAny_bind (wpAny_seqItemAt ho' rfl (wpAny_pure ?_)))
  rw [hx']
  show wpAny _ _ (setSeqItemAt a j v >>= _) _ _ s₃
  have fin : Then g c rest Q E .next { s₃ with heap := s₃.heap.update a (Obj.mapSeq (·.setIfInBounds j v)) } := by
    refine h _ (own_turn (t := s₃.toks) F₃ ha hz (plain_update (·.setIfInBounds j v) hp) (Heap.SameBut.update ..) ?_)
    show Vals _ _ (l.set j av) _
    rw [Array.toList_setIfInBounds]
    exact hv.set j (q₁.keep (k₂.trans k₃).heap)
  refine wpAny_bind (wpAny_setSeqItemAt ho' rfl ?_)
  first
    | exact wpAny_bind (wpAny_pure (wpAny_pure ⟨.none, rfl, wpAny_pure fin⟩))
    | exact wpAny_pure ⟨.none, rfl, wpAny_pure fin⟩
end
end Mine
end
section
open PySem PySem.W PyProof.Rows
set_option Elab.async false
set_option linter.unusedVariables false
namespace Mine
section
variable {g : G} {c : Fc} {s₀ s : Shared}
theorem x_ret {A : Around} {env : Env} {pos : Pos} {e : Expr} {av : AV} {rest : List Stmt} {E : Value → Shared → Prop} {hid : Addr → Prop} (F : InF g c s₀ s) (he : Ev g c e av) (hh : ∀ a, hid a → c.hid a := by exact fun _ x => x) (hA : c.A = A := by rfl) (hE : c.env = env := by rfl) :
    WP g A env (.Return (some e) pos :: rest) (Ret s₀ av hid) E s := by
  subst hA; subst hE
  exact x_return F he fun v s' F' hv => ⟨v, rfl, F'.kp, hv.weak hh⟩
theorem x_retQ {A : Around} {env : Env} {pos : Pos} {e : Expr} {av : AV} {rest : List Stmt} {Q : Flow → Shared → Prop} {E : Value → Shared → Prop} {hid : Addr → Prop} (hQ : ∀ v s', Ret s₀ av hid (.ret v) s' → Q (.ret v) s') (F : InF g c s₀ s) (he : Ev g c e av) (hh : ∀ a, hid a → c.hid a := by exact fun _ x => x)
    (hA : c.A = A := by rfl) (hE : c.env = env := by rfl) : WP g A env (.Return (some e) pos :: rest) Q E s := by
  subst hA; subst hE
  exact x_return F he fun v s' F' hv => hQ _ _ ⟨v, rfl, F'.kp, hv.weak hh⟩
theorem bind1 {A : Shared → List Value → Prop} (h : ∀ s v, A s [v]) : ∀ (vs : List Value) (s : Shared), vs.length = 1 → A s vs := fun vs s hl => by
  match vs, hl with
  | [v], _ => exact h s v
theorem bind2 {A : Shared → List Value → Prop} (h : ∀ s v w, A s [v, w]) : ∀ (vs : List Value) (s : Shared), vs.length = 2 → A s vs := fun vs s hl => by
  match vs, hl with
  | [v, w], _ => exact h s v w
theorem bind3 {A : Shared → List Value → Prop} (h : ∀ s v w x, A s [v, w, x]) : ∀ (vs : List Value) (s : Shared), vs.length = 3 → A s vs := fun vs s hl => by
  match vs, hl with
  | [v, w, x], _ => exact h s v w x
def one (k : Nat) : Str := ⟨#[k]⟩

theorem f_b1 (T : Tops g) (n k : Nat) : FnI g (n + 1) 6 [.str (one k)] (.bool (b1L.contains (k : Int))) := by
  refine fnI ["code"] T (by decide) rfl (by decide) (fun pm cd doc => bind1 fun s v => BindsTo.of_eq rfl) (fun x hx => by simp at hx; subst hx; exact .inl rfl) fun a L A own pm cd doc s s₁ E ok F => ?_
  exact x_ret F (ev_inset T (by simp [sets]) (ev_ord T (ev_local rfl)))
theorem f_c6 (T : Tops g) (n k : Nat) : FnI g (n + 1) 11 [.str (one k)] (.bool (c6L.contains (k : Int))) := by
  refine fnI ["code"] T (by decide) rfl (by decide) (fun pm cd doc => bind1 fun s v => BindsTo.of_eq rfl) (fun x hx => by simp at hx; subst hx; exact .inl rfl) fun a L A own pm cd doc s s₁ E ok F => ?_
  exact x_ret F (ev_inset T (by simp [sets]) (ev_ord T (ev_local rfl)))
theorem f_c7 (T : Tops g) (n k : Nat) : FnI g (n + 1) 13 [.str (one k)] (.bool (c7L.contains (k : Int))) := by
  refine fnI ["code"] T (by decide) rfl (by decide) (fun pm cd doc => bind1 fun s v => BindsTo.of_eq rfl) (fun x hx => by simp at hx; subst hx; exact .inl rfl) fun a L A own pm cd doc s s₁ E ok F => ?_
  exact x_ret F (ev_inset T (by simp [sets]) (ev_ord T (ev_local rfl)))
theorem f_c8 (T : Tops g) (n k : Nat) : FnI g (n + 1) 15 [.str (one k)] (.bool (c8L.contains (k : Int))) := by
  refine fnI ["code"] T (by decide) rfl (by decide) (fun pm cd doc => bind1 fun s v => BindsTo.of_eq rfl) (fun x hx => by simp at hx; subst hx; exact .inl rfl) fun a L A own pm cd doc s s₁ E ok F => ?_
  exact x_ret F (ev_inset T (by simp [sets]) (ev_ord T (ev_local rfl)))
theorem f_c9 (T : Tops g) (n k : Nat) : FnI g (n + 1) 17 [.str (one k)] (.bool (c9L.contains (k : Int))) := by
  refine fnI ["code"] T (by decide) rfl (by decide) (fun pm cd doc => bind1 fun s v => BindsTo.of_eq rfl) (fun x hx => by simp at hx; subst hx; exact .inl rfl) fun a L A own pm cd doc s s₁ E ok F => ?_
  exact x_ret F (ev_inset T (by simp [sets]) (ev_ord T (ev_local rfl)))
def inC4 (k : Nat) : Bool := if (k : Int) < 64976 then false else if (k : Int) < 65008 then true else (65534 == Builtin.bitAnd (k : Int) 65535 || 65535 == Builtin.bitAnd (k : Int) 65535)
theorem f_c4 (T : Tops g) (n k : Nat) : FnI g (n + 1) 9 [.str (one k)] (.bool (inC4 k)) := by
  refine fnI ["code"] T (by decide) rfl (by decide) (fun pm cd doc => bind1 fun s v => BindsTo.of_eq rfl) (fun x hx => by simp at hx; subst hx; exact .inl rfl) fun a L A own pm cd doc s s₁ E ok F => ?_
  refine x_assign F (ev_ord T (ev_local rfl)) ⟨rfl, .inl rfl⟩ fun s₂ F => ?_
  refine x_if F (ts_cmp (ev_local rfl) ev_int c_lt) (fun hb s₃ F => ?_) fun hb s₃ F => ?_
  · exact x_retQ (fun _ _ x => x) F (ev_bool.cast (by unfold inC4; rw [if_pos (by simpa using hb)]))
  · refine x_nil ?_
    refine x_if F (ts_cmp (ev_local rfl) ev_int c_lt) (fun hb2 s₃ F => ?_) fun hb2 s₃ F => ?_
    · exact x_retQ (fun _ _ x => x) F (ev_bool.cast (by unfold inC4; rw [if_neg (by simpa using hb), if_pos (by simpa using hb2)]))
    · refine x_nil ?_
      refine x_ret F ((ev_in2 (ev_and (ev_ord T (ev_local rfl)) ev_int) ev_int ev_int).cast ?_)
      unfold inC4
      rw [if_neg (by simpa using hb), if_neg (by simpa using hb2)]
def mapB3 (k : Nat) : Str := (b3At (k : Int)).getD (Txt.lower (one k))
theorem len_lower1 (k : Nat) : (Txt.lower (one k)).length ≤ 16777216 := by
  have := len_lower (one k)
  have e : (one k).length = 1 := rfl
  omega
theorem f_b3 (T : Tops g) (n k : Nat) : FnI g (n + 1) 8 [.str (one k)] (.str (mapB3 k)) := by
  refine fnI ["code"] T (by decide) rfl (by decide) (fun pm cd doc => bind1 fun s v => BindsTo.of_eq rfl) (fun x hx => by simp at hx; subst hx; exact .inl rfl) fun a L A own pm cd doc s s₁ E ok F => ?_
  refine x_assign F (ev_b3 T (ev_ord T (ev_local rfl))) ⟨rfl, .inl rfl⟩ fun s₂ F => ?_
  cases hb : b3At (k : Int) with
  | some x =>
    rw [hb] at F
    refine x_if F (ts_cmp (ev_local rfl) ev_none (c_isnot_none (b := false) fun h v q => by obtain ⟨t, rfl⟩ := q.str'; rfl)) (fun _ s₃ F => ?_) fun hb s₃ F => by cases hb
    exact x_retQ (fun _ _ x => x) F ((ev_local rfl).cast (by unfold mapB3; rw [hb]; rfl))
  | none =>
    rw [hb] at F
    refine x_if F (ts_cmp (ev_local rfl) ev_none (c_isnot_none (b := true) fun h v q => by obtain rfl := q.none'; rfl)) (fun hb s₃ F => by cases hb) fun _ s₃ F => x_nil ?_
    exact x_ret F ((ev_lower (ev_local rfl) (len_lower1 k)).cast (by unfold mapB3; rw [hb]; rfl))
def substP (a b : Nat) : Int := if one a == one b then 0 else if Txt.lower (one a) == Txt.lower (one b) then 1 else 2
theorem f_subst (T : Tops g) (n a b : Nat) : FnI g (n + 1) 22 [.str (one a), .str (one b)] (.int (substP a b)) := by
  refine fnI ["ch_a", "ch_b"] T (by decide) rfl (by decide) (fun pm cd doc => bind2 fun s v w => BindsTo.of_eq rfl) (fun x hx => by simp at hx; rcases hx with rfl | rfl <;> exact .inl rfl) fun a L A own pm cd doc s s₁ E ok F => ?_
  refine x_if F (ts_cmp (ev_local rfl) (ev_local rfl) c_seq) (fun hb s₃ F => ?_) fun hb s₃ F => x_nil ?_
  · exact x_retQ (fun _ _ x => x) F (ev_int.cast (by unfold substP; rw [if_pos hb]))
  refine x_if F (ts_cmp (ev_lower (ev_local rfl) (len_lower1 _)) (ev_lower (ev_local rfl) (len_lower1 _)) c_seq) (fun hb2 s₃ F => ?_) fun hb2 s₃ F => x_nil ?_
  · exact x_retQ (fun _ _ x => x) F (Ev.cast (ev_const (i := 1) T) (by unfold substP; rw [if_neg (by simp [hb]), if_pos hb2]))
  · exact x_ret F (Ev.cast (ev_const (i := 2) T) (by unfold substP; rw [if_neg (by simp [hb]), if_neg (by simp [hb2])]))
end
end Mine
end
section
open PySem PySem.W PyProof.Rows
set_option Elab.async false
set_option linter.unusedVariables false
namespace Mine
section
variable {g : G} {c : Fc} {s₀ s : Shared}
abbrev nI (i : Nat) : AV := .int (i : Int)
abbrev chS (k : Nat) : AV := .str (one k)
theorem nI_inj : ∀ a b, nI a = nI b → a = b := fun a b h => by cases h; rfl
theorem int_inj : ∀ a b, AV.int a = AV.int b → a = b := fun a b h => by cases h; rfl
theorem str_inj : ∀ a b, AV.str a = AV.str b → a = b := fun a b h => by cases h; rfl
theorem chS_inj : ∀ a b, chS a = chS b → a = b := fun a b h => by cases h; rfl
theorem zs_nI (n : Nat) : zs 0 n = (List.range n).map nI := by
  unfold zs nI
  congr 1
  funext i
  simp
/-- a str by its signs -/
def SS (l : List Nat) : Str := ⟨l.toArray⟩
theorem SS_len (l : List Nat) : (SS l).length = l.length := by unfold SS; simp [Str.length]

open Classical in
noncomputable def lift1 {α β : Type} (emb : α → AV) (emb' : β → AV) (F : α → Option β) (av : AV) : Option AV := if h : ∃ a, emb a = av then (F h.choose).map emb' else none
theorem lift1_at {α β : Type} {emb : α → AV} {emb' : β → AV} {F : α → Option β} (hi : ∀ a b, emb a = emb b → a = b) (a : α) : lift1 emb emb' F (emb a) = (F a).map emb' := by
  have h : ∃ a', emb a' = emb a := ⟨a, rfl⟩
  unfold lift1
  rw [dif_pos h, hi _ _ h.choose_spec]
theorem lift1_all {α β : Type} {emb : α → AV} {emb' : β → AV} {F : α → Option β} (hi : ∀ a b, emb a = emb b → a = b) (l : List α) : (l.map emb).filterMap (lift1 emb emb' F) = (l.filterMap F).map emb' := by
  rw [List.filterMap_map, List.map_filterMap]
  congr 1
  funext a
  exact lift1_at hi a
section
variable {α β : Type} {emb : α → AV} {emb' : β → AV} {l : List α} {x y : Str} {px py pos spos : Pos} {elt iter : Expr} {ifs : List Expr} {scope : Scope}
theorem lift_body (hi : ∀ a b, emb a = emb b → a = b) (F : α → Option β) (hbody : ∀ a ∈ l, ∀ (C D : Addr) (l' : List AV) (ps : List (Addr × Obj)) (zs : List (Value × AV)), Tests g (compF c scope C D l' ((x, emb a) :: frees c scope) ps zs) ifs (F a).isSome ∧
      ∀ b, F a = some b → Ev g (compF c scope C D l' ((x, emb a) :: frees c scope) ps zs) elt (emb' b)) : ∀ av ∈ l.map emb, ∀ (C D : Addr) (l' : List AV) (ps : List (Addr × Obj)) (zs : List (Value × AV)), Tests g (compF c scope C D l' ((x, av) :: frees c scope) ps zs) ifs (lift1 emb emb' F av).isSome ∧
      ∀ out, lift1 emb emb' F av = some out → Ev g (compF c scope C D l' ((x, av) :: frees c scope) ps zs) elt out := by
  intro av hav C D l' ps zs
  obtain ⟨a, ha, rfl⟩ := List.mem_map.mp hav
  obtain ⟨h1, h2⟩ := hbody a ha C D l' ps zs
  rw [lift1_at hi]
  refine ⟨by simpa using h1, fun out e => ?_⟩
  obtain ⟨b, hb, rfl⟩ := Option.map_eq_some_iff.mp e
  exact h2 b hb
theorem ev_compF (F : α → Option β) (ok : CompOk c scope) (hx : scope.names.lookup x = some .local ∨ scope.names.lookup x = some .cell) (hi : ∀ a b, emb a = emb b → a = b)
    (hS : Src g c iter (l.map emb)) (hsz : l.length ≤ sizeLine)
    (hbody : ∀ a ∈ l, ∀ (C D : Addr) (l' : List AV) (ps : List (Addr × Obj)) (zs : List (Value × AV)), Tests g (compF c scope C D l' ((x, emb a) :: frees c scope) ps zs) ifs (F a).isSome ∧
      ∀ b, F a = some b → Ev g (compF c scope C D l' ((x, emb a) :: frees c scope) ps zs) elt (emb' b))
    (hs : ∀ x, foldedSetIterable iter c.env x = pure x := by intro _; rfl) :
    Ev g c (.ListComp elt [⟨.Name x px, iter, ifs, 0⟩] scope pos) (.list ((l.filterMap F).map emb')) := by
  rw [← lift1_all hi]
  exact ev_comp (lift1 emb emb' F) ok hx hS (by simpa using hsz) (lift_body hi F hbody) hs
theorem ev_compM (G : α → β) (ok : CompOk c scope) (hx : scope.names.lookup x = some .local ∨ scope.names.lookup x = some .cell) (hi : ∀ a b, emb a = emb b → a = b)
    (hS : Src g c iter (l.map emb)) (hsz : l.length ≤ sizeLine)
    (hbody : ∀ a ∈ l, ∀ (C D : Addr) (l' : List AV) (ps : List (Addr × Obj)) (zs : List (Value × AV)), Ev g (compF c scope C D l' ((x, emb a) :: frees c scope) ps zs) elt (emb' (G a)))
    (hs : ∀ x, foldedSetIterable iter c.env x = pure x := by intro _; rfl) :
    Ev g c (.ListComp elt [⟨.Name x px, iter, [], 0⟩] scope pos) (.list ((l.map G).map emb')) := by
  have := ev_compF (px := px) (pos := pos) (elt := elt) (fun a => some (G a)) ok hx hi hS hsz (fun a ha C D l' ps zs => ⟨tests_nil, fun b e => by cases e; exact hbody a ha C D l' ps zs⟩) hs
  have e : l.filterMap (fun a => some (G a)) = l.map G := by induction l <;> simp_all
  rwa [e] at this
theorem x_compF {A : Around} {env : Env} {rest : List Stmt} {Q : Flow → Shared → Prop} {E : Value → Shared → Prop} (F₀ : InF g c s₀ s) (F : α → Option β) (ok : CompOk c scope) (hx : scope.names.lookup x = some .local ∨ scope.names.lookup x = some .cell) (hi : ∀ a b, emb a = emb b → a = b)
    (hS : Src g c iter (l.map emb)) (hsz : l.length ≤ sizeLine)
    (hbody : ∀ a ∈ l, ∀ (C D : Addr) (l' : List AV) (ps : List (Addr × Obj)) (zs : List (Value × AV)), Tests g (compF c scope C D l' ((x, emb a) :: frees c scope) ps zs) ifs (F a).isSome ∧
      ∀ b, F a = some b → Ev g (compF c scope C D l' ((x, emb a) :: frees c scope) ps zs) elt (emb' b))
    (h : ∀ s', InF g (c.set y (.list ((l.filterMap F).map emb'))) s₀ s' → WP g c.A c.env rest Q E s')
    (hsw : swapsWith (.ListComp elt [⟨.Name x px, iter, ifs, 0⟩] scope pos) (some (.Name y py)) spos.line c.env = pure true := by rfl) (hy : c.env.kindOf y = some .local := by rfl) (hk : c.env.scope.kind = .function := by rfl)
    (hs : ∀ x, foldedSetIterable iter c.env x = pure x := by intro _; rfl) (hA : c.A = A := by rfl) (hE : c.env = env := by rfl) :
    WP g A env (.Assign [.Name y py] (.ListComp elt [⟨.Name x px, iter, ifs, 0⟩] scope pos) spos :: rest) Q E s :=
  x_comp F₀ (lift1 emb emb' F) ok hx hS (by simpa using hsz) (lift_body hi F hbody) (fun s' F' => h s' (by rw [lift1_all hi] at F'; exact F')) hsw hy hk hs hA hE
theorem x_compM {A : Around} {env : Env} {rest : List Stmt} {Q : Flow → Shared → Prop} {E : Value → Shared → Prop} (F₀ : InF g c s₀ s) (G : α → β) (ok : CompOk c scope) (hx : scope.names.lookup x = some .local ∨ scope.names.lookup x = some .cell) (hi : ∀ a b, emb a = emb b → a = b)
    (hS : Src g c iter (l.map emb)) (hsz : l.length ≤ sizeLine)
    (hbody : ∀ a ∈ l, ∀ (C D : Addr) (l' : List AV) (ps : List (Addr × Obj)) (zs : List (Value × AV)), Ev g (compF c scope C D l' ((x, emb a) :: frees c scope) ps zs) elt (emb' (G a)))
    (h : ∀ s', InF g (c.set y (.list ((l.map G).map emb'))) s₀ s' → WP g c.A c.env rest Q E s')
    (hsw : swapsWith (.ListComp elt [⟨.Name x px, iter, [], 0⟩] scope pos) (some (.Name y py)) spos.line c.env = pure true := by rfl) (hy : c.env.kindOf y = some .local := by rfl) (hk : c.env.scope.kind = .function := by rfl)
    (hs : ∀ x, foldedSetIterable iter c.env x = pure x := by intro _; rfl) (hA : c.A = A := by rfl) (hE : c.env = env := by rfl) :
    WP g A env (.Assign [.Name y py] (.ListComp elt [⟨.Name x px, iter, [], 0⟩] scope pos) spos :: rest) Q E s := by
  have e : l.filterMap (fun a => some (G a)) = l.map G := by induction l <;> simp_all
  rw [← e] at h
  exact x_compF F₀ (fun a => some (G a)) ok hx hi hS hsz (fun a ha C D l' ps zs => ⟨tests_nil, fun b e => by cases e; exact hbody a ha C D l' ps zs⟩) h hsw hy hk hs hA hE
end
theorem src_rngN {e : Expr} {p pos : Pos} {n : Nat} (T : Tops g) (h : Ev g c e (.int n)) (hh : c.A.handled = none) (hn : (n : Int) < 2 ^ 62) (hc : FcF c := by exact ⟨rfl, rfl, rfl⟩) (hk : c.env.kindOf "range" = some .globalImplicit := by rfl)
    (he : starEach [e] c.env = (false, eval e c.env) :: starEach [] c.env := by exact starE rfl _ _) : Src g c (.Call (.Name "range" p) [e] [] pos) ((List.range n).map nI) := zs_nI n ▸ src_rng1 T h hh hn hc hk he
theorem src_ss {e : Expr} {l : List Nat} (h : Ev g c e (.str (SS l))) (hh : c.A.handled = none) : Src g c e (l.map chS) := by
  exact src_str h hh
theorem ev_sitemN {e i : Expr} {l : List Nat} {k : Nat} {cp : Nat} {pos : Pos} (h₁ : Ev g c e (.str (SS l))) (h₂ : Ev g c i (.int k)) (hk : k < 2 ^ 63) (hx : l[k]? = some cp)
    (hs : ∀ o v, subscripted i false o v = operate [o, v] (getItem o v) := by intro _ _; rfl) : Ev g c (.Subscript e i pos) (chS cp) := by
  refine ev_sitem h₁ h₂ (by omega) (by omega) ?_ hs
  have hl : k < l.length := (List.getElem?_eq_some_iff.mp hx).1
  unfold seqIndex?
  rw [SS_len]
  have h1 : ¬ ((k : Int) < 0) := by omega
  have h2 : (0 : Int) ≤ k := by omega
  have h3 : (k : Int) < l.length := by omega
  simp only [h1, if_false, h2, h3, decide_true, Bool.and_true, if_true, Option.bind_some, Int.toNat_natCast]
  simpa [SS] using hx
theorem join_sum {l : List Str} {m n : Nat} (h : ∀ x ∈ l, x.length ≤ m) (hl : l.length ≤ n) : (l.map (·.length)).sum ≤ n * m := by
  have : ∀ l : List Str, (∀ x ∈ l, x.length ≤ m) → (l.map (·.length)).sum ≤ l.length * m := by
    intro l
    induction l with
    | nil => intro _; simp
    | cons x l ih =>
      intro h
      have h1 := h x (.head _)
      have h2 := ih fun y hy => h y (.tail _ hy)
      simp only [List.map_cons, List.sum_cons, List.length_cons, Nat.add_mul]
      omega
  exact Nat.le_trans (this l h) (Nat.mul_le_mul_right _ hl)
end
end Mine
end
section
open PySem PySem.W PyProof.Rows
set_option Elab.async false
set_option linter.unusedVariables false
set_option maxRecDepth 20000
namespace Mine
section
variable {g : G} {c : Fc} {s₀ s : Shared}
def bitP (ch : Int) (k : Nat) : Int := (ch.fdiv (2 ^ k)).fmod 2
def manyP (ch : Int) : Int := ((List.range 4).map (bitP ch)).sum
theorem ev_bit {e k : Expr} {i : Int} {n : Nat} {p₁ p₂ p₃ p₄ p₅ : Pos} {k₁ k₂ : Nat} (h : Ev g c e (.int i)) (hk : Ev g c k (.int n)) (hn : n < 30) :
    Ev g c (.BinOp (.BinOp e .FloorDiv (.BinOp (.Constant (.int 2) k₁ p₁) .Pow k p₂) p₃) .Mod (.Constant (.int 2) k₂ p₄) p₅) (.int (bitP i n)) := by
  have e1 : ((2 : Int) ^ (n : Int).toNat) = 2 ^ n := by simp
  have hp : (0 : Int) < 2 ^ n := Int.pow_pos (by decide)
  have hp2 : ((2 : Int) ^ n) < 1073741824 := by
    have : (2 : Int) ^ n < 2 ^ 30 := by exact_mod_cast Nat.pow_lt_pow_right (by decide : 1 < 2) hn
    simpa using this
  exact ev_mod (ev_div h (Ev.cast (ev_pow ev_int hk (by omega) (by omega) (by decide)) (by rw [e1])) (by omega) (by omega)) ev_int (by decide)
theorem f_many (T : Tops g) (n : Nat) (ch : Int) : FnI g (n + 1) 30 [.int ch] (.int (manyP ch)) := by
  refine fnI ["choice"] T (by decide) rfl (by decide) (fun pm cd doc => bind1 fun s v => BindsTo.of_eq rfl) (fun x hx => by simp at hx; subst hx; exact .inr ⟨by decide, rfl⟩) fun a L A own pm cd doc s s₁ E ok F => ?_
  refine x_ret F (ev_sum T (ev_compM (emb := nI) (l := List.range 4) (bitP ch) (CompOk.of rfl (by decide)) (.inl rfl) nI_inj (src_rngN (n := 4) T ev_int ok.hd (by decide)) (by rw [sizeLine_eq]; decide) fun k hk C D l' ps zs => ?_) ok.hd)
  exact ev_bit (ev_cell rfl) (ev_local rfl) (by have := List.mem_range.mp hk; omega)
def upS (k : Nat) : Str := Txt.upper (one k)
def writtenL (ch : Int) (p : List Nat) : List Str := (List.range p.length).map fun k => if bitP ch k == 1 then upS (p.getD k 0) else one (p.getD k 0)
def writtenP (ch : Int) (p : List Nat) : Str := Txt.join "" (writtenL ch p)
theorem len_upper1 (k : Nat) : (upS k).length ≤ 3 := by
  have := len_upper (one k)
  have e : (one k).length = 1 := rfl
  unfold upS
  omega
theorem f_written (T : Tops g) (n : Nat) (ch : Int) (p : List Nat) (hp : p.length ≤ 4) : FnI g (n + 1) 29 [.int ch, .str (SS p)] (.str (writtenP ch p)) := by
  refine fnI ["choice", "plain"] T (by decide) rfl (by decide) (fun pm cd doc => bind2 fun s v w => BindsTo.of_eq rfl) (fun x hx => by simp at hx; rcases hx with rfl | rfl <;> exact .inr ⟨by decide, rfl⟩) fun a L A own pm cd doc s s₁ E ok F => ?_
  refine x_ret F (ev_join (l := writtenL ch p) ev_str (ev_compM (emb := nI) (emb' := .str) (l := List.range p.length) _ (CompOk.of rfl (by decide)) (.inl rfl) nI_inj (src_rngN T (Ev.cast (ev_lens T (ev_cell rfl) (by rw [SS_len, sizeLine_eq]; omega)) (by rw [SS_len])) ok.hd (by omega)) (by rw [List.length_range, sizeLine_eq]; omega) fun k hk C D l' ps zs => ?_) ?_)
  · have hk' := List.mem_range.mp hk
    have hget : p[k]? = some (p.getD k 0) := by simp [List.getD, hk']
    refine ev_if (ts_cmp (ev_bit (ev_cell rfl) (ev_local rfl) (by omega)) ev_int c_eq) (fun hb => ?_) fun hb => ?_
    · rw [if_pos hb]
      exact ev_upper (ev_sitemN (ev_cell rfl) (ev_local rfl) (by omega) hget) (by have := len_upper1 (p.getD k 0); unfold upS at this; omega)
    · rw [if_neg (by rw [hb]; decide)]
      exact ev_sitemN (ev_cell rfl) (ev_local rfl) (by omega) hget
  · have : ((writtenL ch p).map (·.length)).sum ≤ 4 * 3 := join_sum (fun x hx => by
      unfold writtenL at hx
      obtain ⟨k, _, rfl⟩ := List.mem_map.mp hx
      split
      · exact len_upper1 _
      · show 1 ≤ 3; omega) (by simp [writtenL]; omega)
    have e : ("" : Str).length = 0 := rfl
    rw [e]; omega
end
end Mine
end
section
open PySem PySem.W PyProof.Rows
set_option Elab.async false
set_option linter.unusedVariables false
set_option maxRecDepth 20000
namespace Mine
section
variable {g : G} {c : Fc} {s₀ s : Shared}
def prepL (t : List Nat) : List Str := t.filterMap fun (k : Nat) => if b1L.contains (k : Int) then none else some (mapB3 k)
def prepP (t : List Nat) : Str := Txt.join "" (prepL t)
def lettersL (t p : List Nat) : List Str := p.map fun (k : Nat) => if !(Builtin.Str.occurrences (prepP t) (one k) 0 (prepP t).length 1).isEmpty then upS k else one k
def lettersP (t p : List Nat) : Str := Txt.join "" (lettersL t p)
theorem b3_short : ∀ p ∈ b3L, p.2.length ≤ 8 := by decide +kernel
theorem len_mapB3 (k : Nat) : (mapB3 k).length ≤ 8 := by
  unfold mapB3
  cases h : b3At (k : Int) with
  | none =>
    have := len_lower (one k)
    have e : (one k).length = 1 := rfl
    show (Txt.lower (one k)).length ≤ 8
    omega
  | some x =>
    unfold b3At at h
    exact b3_short _ (mem_of_lookup' h)
where
  mem_of_lookup' {k : Int} {x : Str} : ∀ {l : List (Int × Str)}, l.lookup k = some x → (k, x) ∈ l
  | [], h => by cases h
  | (a, b) :: l, h => by
    rw [List.lookup_cons] at h
    split at h
    · next q => cases h; rw [eq_of_beq q]; exact .head _
    · exact .tail _ (mem_of_lookup' h)
theorem f_letters (T : Tops g) (n : Nat) (t p : List Nat) (ht : t.length ≤ 16) (hp : p.length ≤ 4) : FnI g (n + 2) 28 [.str (SS t), .str (SS p)] (.str (lettersP t p)) := by
  refine fnI ["text", "plain"] T (by decide) rfl (by decide) (fun pm cd doc => bind2 fun s v w => BindsTo.of_eq rfl) (fun x hx => by simp at hx; rcases hx with rfl | rfl <;> exact .inl rfl) fun a L A own pm cd doc s s₁ E ok F => ?_
  have e0 : ("" : Str).length = 0 := rfl
  refine x_assign F (ev_join (l := prepL t) ev_str (ev_compF (emb := chS) (emb' := .str) (l := t) _ (CompOk.of rfl (by decide)) (.inl rfl) chS_inj (src_ss (ev_local rfl) ok.hd) (by rw [sizeLine_eq]; omega) fun k hk C D l' ps zs => ⟨?_, ?_⟩) ?_) ⟨rfl, .inr ⟨rfl, rfl, rfl⟩⟩ fun s₂ F => ?_
  · refine tests_one (Ts.cast (ts_not (ts_value (ev_fn T (f_b1 T n k) (ok.le (by omega)) (evs_cons (ev_local rfl) evs_nil)) truth_bool)) ?_)
    cases b1L.contains (k : Int) <;> rfl
  · intro b hb
    split at hb
    · cases hb
    · cases hb
      exact ev_fn T (f_b3 T n k) (ok.le (by omega)) (evs_cons (ev_local rfl) evs_nil)
  · have : ((prepL t).map (·.length)).sum ≤ 16 * 8 := join_sum (fun x hx => by
      unfold prepL at hx
      obtain ⟨k, _, hk⟩ := List.mem_filterMap.mp hx
      split at hk
      · cases hk
      · cases hk; exact len_mapB3 k) (Nat.le_trans (List.length_filterMap_le _ _) ht)
    rw [e0]; omega
  · refine x_ret F (ev_join (l := lettersL t p) ev_str (ev_compM (emb := chS) (emb' := .str) (l := p) _ (CompOk.of rfl (by decide)) (.inl rfl) chS_inj (src_ss (ev_local rfl) ok.hd) (by rw [sizeLine_eq]; omega) fun k hk C D l' ps zs => ?_) ?_)
    · refine ev_if (ts_cmp (ev_local rfl) (ev_cell rfl) c_sin) (fun hb => ?_) fun hb => ?_
      · have hb' : (!(Builtin.Str.occurrences (prepP t) (one k) 0 (prepP t).length 1).isEmpty) = true := hb
        rw [if_pos hb']
        exact ev_upper (ev_local rfl) (by have := len_upper1 k; unfold upS at this; omega)
      · have hb' : (!(Builtin.Str.occurrences (prepP t) (one k) 0 (prepP t).length 1).isEmpty) = false := hb
        rw [if_neg (by rw [hb']; decide)]
        exact ev_local rfl
    · have : ((lettersL t p).map (·.length)).sum ≤ 4 * 3 := join_sum (fun x hx => by
        unfold lettersL at hx
        obtain ⟨k, _, rfl⟩ := List.mem_map.mp hx
        split
        · exact len_upper1 _
        · show 1 ≤ 3; omega) (by simp [lettersL]; omega)
      rw [e0]; omega
def badP (k : Nat) : Bool := inC4 k || (c6L.contains (k : Int) || (c7L.contains (k : Int) || (c8L.contains (k : Int) || c9L.contains (k : Int))))
theorem f_refused (T : Tops g) (n : Nat) (t : List Nat) : FnI g (n + 2) 27 [.str (SS t)] (.bool (t.any badP)) := by
  refine fnI ["text"] T (by decide) rfl (by decide) (fun pm cd doc => bind1 fun s v => BindsTo.of_eq rfl) (fun x hx => by simp at hx; subst hx; exact .inl rfl) fun a L A own pm cd doc s s₁ E ok F => ?_
  refine x_for F (src_ss (ev_local rfl) ok.hd) ⟨rfl, .inl rfl⟩ (fun i => ∀ k ∈ t.take i, badP k = false) (fun _ => [("text", .str (SS t))]) (fun _ => own) (fun _ _ => rfl) rfl ⟨rfl, trivial⟩ (by simp) (fun i av hav hI s₂ xs ps E' F => ?_) fun s' hI F => ?_
  · rw [List.getElem?_map, Option.map_eq_some_iff] at hav
    obtain ⟨k, hk, rfl⟩ := hav
    have hx {i : Nat} {res : AV} (h : FnI g (n + 1) i [.str (one k)] res) := h
    refine x_if F (ts_bool (tall_or (ts_value (ev_fn T (f_c4 T n k) ok (evs_cons (ev_local rfl) evs_nil)) truth_bool) fun _ => tall_or (ts_value (ev_fn T (f_c6 T n k) ok (evs_cons (ev_local rfl) evs_nil)) truth_bool) fun _ =>
      tall_or (ts_value (ev_fn T (f_c7 T n k) ok (evs_cons (ev_local rfl) evs_nil)) truth_bool) fun _ => tall_or (ts_value (ev_fn T (f_c8 T n k) ok (evs_cons (ev_local rfl) evs_nil)) truth_bool) fun _ =>
      tall_or (ts_value (ev_fn T (f_c9 T n k) ok (evs_cons (ev_local rfl) evs_nil)) truth_bool) fun _ => tall_or_nil)) (fun hb s₃ F => ?_) fun hb s₃ F => x_nil ?_
    · refine x_retQ (fun _ _ x => x) F (ev_bool.cast ?_)
      have : badP k = true := by unfold badP; simpa using hb
      rw [List.any_eq_true.mpr ⟨k, List.mem_of_getElem? hk, this⟩]
    · refine x_nil ⟨?_, F.sub ⟨rfl, trivial⟩⟩
      intro k' hk'
      rw [List.take_add_one, List.mem_append] at hk'
      rcases hk' with q | q
      · exact hI k' q
      · rw [hk] at q
        simp at q
        subst q
        unfold badP
        simpa using hb
  · refine x_ret F (ev_bool.cast ?_)
    rw [List.length_map, List.take_length] at hI
    congr 1
    rw [eq_comm, List.any_eq_false]
    exact fun k hk => by rw [hI k hk]; decide
end
end Mine
end
section
open PySem PySem.W PyProof.Rows
set_option Elab.async false
set_option linter.unusedVariables false
set_option maxRecDepth 20000
namespace Mine
section
variable {g : G} {c : Fc} {s₀ s : Shared}
/-- prefix sums of the letters' weights -/
def begP : List Nat → Int → List Int
  | [], _ => []
  | k :: r, a => (a + 2 ^ k) :: begP r (a + 2 ^ k)
def begSum (l : List Nat) : Int := (l.map fun (k : Nat) => (2 : Int) ^ k).sum
def chainP (o : List Nat) : List Int := (List.range (o.length + 1)).map fun i => begSum (o.take i)
theorem chainP_take (o : List Nat) (i : Nat) (hi : i < o.length) : chainP (o.take (i + 1)) = chainP (o.take i) ++ [begSum (o.take (i + 1))] := by
  have h1 : (o.take (i + 1)).length = i + 1 := by simp; omega
  have h2 : (o.take i).length = i := by simp; omega
  unfold chainP
  rw [h1, h2, List.range_succ, List.map_append]
  congr 1
  · refine List.map_congr_left fun j hj => ?_
    have := List.mem_range.mp hj
    rw [List.take_take, List.take_take, Nat.min_eq_left (by omega), Nat.min_eq_left (by omega)]
  · simp [List.take_take]
theorem begSum_take (o : List Nat) (i : Nat) (k : Nat) (hk : o[i]? = some k) : begSum (o.take (i + 1)) = begSum (o.take i) + 2 ^ k := by
  unfold begSum
  rw [List.take_add_one, hk]
  simp
theorem f_beginnings (T : Tops g) (n : Nat) (o : List Nat) (ho : ∀ k ∈ o, k < 4) (hl : o.length ≤ 4) : FnI g (n + 1) 32 [.list (o.map nI)] (.list ((chainP o).map .int)) := by
  refine fnI ["order"] T (by decide) rfl (by decide) (fun pm cd doc => bind1 fun s v => BindsTo.of_eq rfl) (fun x hx => by simp at hx; subst hx; exact .inl rfl) fun a L A own pm cd doc s s₁ E ok F => ?_
  refine x_own F (evs_cons ev_int evs_nil) (by rw [sizeLine_eq]; show 1 ≤ _; decide) ⟨rfl, .inl rfl⟩ fun b s₂ hb hn F => ?_
  refine x_for F (src_list (ev_local rfl) ok.hd) ⟨rfl, .inl rfl⟩ (fun i => True) (fun _ => [("order", .list (o.map nI)), ("chain", .raw (.ref b))]) (fun i d => if d = b then some ((chainP (o.take i)).map .int) else own d) (fun i d => ?_) ?_ ⟨rfl, rfl, trivial⟩ trivial (fun i av hav hI s₃ xs ps E' F => ?_) fun s' hI F => ?_
  · show _ = (if d = b then _ else own d).isSome
    by_cases q : d = b <;> simp [q]
  · funext d
    show _ = if d = b then _ else own d
    by_cases q : d = b
    · simp [q, chainP, begSum]
    · simp [q]
  · rw [List.getElem?_map, Option.map_eq_some_iff] at hav
    obtain ⟨k, hk, rfl⟩ := hav
    have hi : i < o.length := (List.getElem?_eq_some_iff.mp hk).1
    have hk4 := ho k (List.mem_of_getElem? hk)
    have hlen : (chainP (o.take i)).length = i + 1 := by simp [chainP]; omega
    refine x_append F (ev_local rfl) (if_pos rfl) hb (ev_add (i := begSum (o.take i)) (ev_last_own (ev_local rfl) (if_pos rfl) (ev_neg ev_int) (fun e => ?_) ?_) (ev_pow ev_int (ev_local rfl) (by omega) (by omega) (by decide))) (by rw [List.length_map, hlen, sizeLine_eq]; omega) fun s₄ F => x_nil ⟨trivial, ?_⟩
    · have := congrArg List.length e
      rw [List.length_map, hlen] at this
      cases this
    · rw [List.length_map, hlen, List.getElem?_map]
      have : (chainP (o.take i))[i + 1 - 1]? = some (begSum (o.take i)) := by
        unfold chainP
        rw [List.getElem?_map, List.getElem?_range (by simp; omega)]
        simp [List.take_take]
      rw [this]; rfl
    · refine InF.ownEq (F.sub (ρ := [("order", .list (o.map nI)), ("chain", .raw (.ref b))]) ⟨rfl, rfl, trivial⟩) fun d => ?_
      show _ = if d = b then _ else (if d = b then _ else own d)
      by_cases q : d = b
      · simp only [q, if_true]
        rw [chainP_take o i hi, begSum_take o i k hk, List.map_append]
        simp
      · simp [q]
  · rw [List.length_map, List.take_length] at F
    have F' := InF.letGo (x := "chain") F (if_pos rfl) rfl
    refine x_ret F' (ev_local rfl) fun d hd => ?_
    unfold Fc.hid at hd ⊢
    show (if d = b then none else if d = b then _ else own d).isSome = true
    have hd' : (own d).isSome = true := hd
    have : d ≠ b := by
      rintro rfl
      exact hn hd
    simp [this, hd']
end
end Mine
end
section
open PySem PySem.W PyProof.Rows
set_option Elab.async false
set_option linter.unusedVariables false
set_option maxRecDepth 20000
namespace Mine
section
variable {g : G} {c : Fc} {s₀ s : Shared}
theorem sz8 {n : Nat} (h : n ≤ 64) : n ≤ sizeLine := by rw [sizeLine_eq]; omega
theorem ev_list0 {p : Pos} : Ev g c (.List [] p) (.list []) := ev_list evs_nil (sz8 (Nat.zero_le _))
theorem ev_list1 {e : Expr} {av : AV} {p : Pos} (h : Ev g c e av) (he : starEach [e] c.env = (false, eval e c.env) :: starEach [] c.env := by exact starE rfl _ _) : Ev g c (.List [e] p) (.list [av]) := ev_list (evs_cons' h evs_nil he) (sz8 (by show 1 ≤ 64; omega))
theorem ev_list2 {e e' : Expr} {av av' : AV} {p : Pos} (h : Ev g c e av) (h' : Ev g c e' av') (he : starEach [e, e'] c.env = (false, eval e c.env) :: starEach [e'] c.env := by exact starE rfl _ _) (he' : starEach [e'] c.env = (false, eval e' c.env) :: starEach [] c.env := by exact starE rfl _ _) : Ev g c (.List [e, e'] p) (.list [av, av']) :=
  ev_list (evs_cons' h (evs_cons' h' evs_nil he') he) (sz8 (by show 2 ≤ 64; omega))
def figs (x : Nat) : List Nat := [x % 20, x / 20 % 20, x / 400 % 20]
def figP (f : Nat) : List Nat := if f < 12 then [f % 4] else ([[], [], [], [], [], [3, 1], [2], [0]] : List (List Nat)).getD (f - 12) []
def meantP (x : Nat) : List Nat := if (figs x).any (· == 16) then [] else (figs x).flatMap figP
theorem fdivN (a b : Nat) : ((a : Int).fdiv (b : Int)) = ((a / b : Nat) : Int) := by
  rw [Int.fdiv_eq_ediv_of_nonneg _ (by omega)]; simp
theorem fmodN (a b : Nat) : ((a : Int).fmod (b : Int)) = ((a % b : Nat) : Int) := by
  rw [Int.fmod_eq_emod_of_nonneg _ (by omega)]; simp
theorem ev_tab {e : Expr} {f : Nat} {p1 p2 p3 p4 p5 p6 p7 p8 p9 p10 p11 p12 q1 q2 q3 q4 : Pos} {k1 k2 k3 k4 k5 : Nat} (h : Ev g c e (.int f)) (h12 : 12 ≤ f) (h20 : f < 20) :
    Ev g c (.Subscript (.List [.List [] p1, .List [] p2, .List [] p3, .List [] p4, .List [] p5, .List [.Constant (.int 3) k1 q1, .Constant (.int 1) k2 q2] p6, .List [.Constant (.int 2) k3 q3] p7, .List [.Constant (.int 0) k4 q4] p8] p9) (.BinOp e .Sub (.Constant (.int 12) k5 p10) p11) p12) (.list ((figP f).map nI)) := by
  refine ev_item (ev_list (evs_cons ev_list0 (evs_cons ev_list0 (evs_cons ev_list0 (evs_cons ev_list0 (evs_cons ev_list0
          (evs_cons (ev_list2 ev_int ev_int) (evs_cons (ev_list1 ev_int) (evs_cons (ev_list1 ev_int) evs_nil)))))))) (sz8 (by show 8 ≤ 64; omega))) (ev_sub h ev_int) (by omega) (by omega) ?_
  have : f = 12 ∨ f = 13 ∨ f = 14 ∨ f = 15 ∨ f = 16 ∨ f = 17 ∨ f = 18 ∨ f = 19 := by omega
  rcases this with rfl | rfl | rfl | rfl | rfl | rfl | rfl | rfl <;> rfl
theorem fig20 (x f : Nat) (h : f ∈ figs x) : f < 20 := by
  simp only [figs, List.mem_cons, List.not_mem_nil, or_false] at h
  omega
theorem figLen : ∀ (l : List Nat), (∀ f ∈ l, f < 20) → l.length ≤ 3 → (l.flatMap figP).length ≤ 6 := by
  have h2 : ∀ f, f < 20 → (figP f).length ≤ 2 := by decide
  have : ∀ (l : List Nat), (∀ f ∈ l, f < 20) → (l.flatMap figP).length ≤ 2 * l.length := by
    intro l
    induction l with
    | nil => intro _; simp
    | cons f l ih =>
      intro h
      have h1 := h2 f (h f (.head _))
      have h3 := ih fun y hy => h y (.tail _ hy)
      simp only [List.flatMap_cons, List.length_append, List.length_cons]
      omega
  intro l h hl
  have := this l h
  omega
set_option maxHeartbeats 1000000 in
theorem f_meant (T : Tops g) (n x : Nat) : FnI g (n + 1) 26 [.int x] (.list ((meantP x).map nI)) := by
  refine fnI ["x"] T (by decide) rfl (by decide) (fun pm cd doc => bind1 fun s v => BindsTo.of_eq rfl) (fun x hx => by simp at hx; subst hx; exact .inl rfl) fun a L A own pm cd doc s s₁ E ok F => ?_
  refine x_own F evs_nil (by rw [sizeLine_eq]; show 0 ≤ _; decide) ⟨rfl, .inl rfl⟩ fun b s₂ hb hn F => ?_
  refine x_for F (src_list (l := (figs x).map nI) (ev_list (evs_cons (Ev.cast (ev_mod (ev_local rfl) ev_int (by decide)) (by rw [show ((20 : Int)) = ((20 : Nat) : Int) from rfl, fmodN])) (evs_cons (Ev.cast (ev_mod (ev_div (ev_local rfl) ev_int (by decide) (by decide)) ev_int (by decide)) (by rw [show ((20 : Int)) = ((20 : Nat) : Int) from rfl, fdivN, fmodN])) (evs_cons (Ev.cast (ev_mod (ev_div (ev_local rfl) ev_int (by decide) (by decide)) ev_int (by decide)) (by rw [show ((20 : Int)) = ((20 : Nat) : Int) from rfl, show ((400 : Int)) = ((400 : Nat) : Int) from rfl, fdivN, fmodN])) evs_nil))) (by rw [sizeLine_eq]; show 3 ≤ _; decide)) ok.hd) ⟨rfl, .inl rfl⟩ (fun i => ∀ f ∈ (figs x).take i, f ≠ 16) (fun _ => [("x", .int x), ("meant", .raw (.ref b))]) (fun i d => if d = b then some ((((figs x).take i).flatMap figP).map nI) else own d) (fun i d => ?_) ?_ ⟨rfl, rfl, trivial⟩ (by simp) (fun i av hav hI s₃ xs ps E' F => ?_) fun s' hI F => ?_
  · show _ = (if d = b then _ else own d).isSome
    by_cases q : d = b <;> simp [q]
  · funext d
    show _ = if d = b then _ else own d
    by_cases q : d = b <;> simp [q]
  · rw [List.getElem?_map, Option.map_eq_some_iff] at hav
    obtain ⟨f, hf, rfl⟩ := hav
    have hi : i < 3 := (List.getElem?_eq_some_iff.mp hf).1
    have hmem := List.mem_of_getElem? hf
    have hf20 : f < 20 := by
      simp only [figs, List.mem_cons, List.not_mem_nil, or_false] at hmem
      omega
    have hh : ∀ d, (own d).isSome = true → (if d = b then some ((((figs x).take i).flatMap figP).map nI) else own d).isSome = true := fun d hd => by
      by_cases q : d = b <;> simp [q, hd]
    have hlen : (((figs x).take i).flatMap figP).length ≤ 6 := figLen _ (fun f hf => fig20 x f (List.mem_of_mem_take hf)) (by simp [figs]; omega)
    refine x_if F (ts_cmp (ev_local rfl) ev_int c_eq) (fun hb s₃ F => ?_) fun hb' s₃ F => x_nil ?_
    · refine x_retQ (fun _ _ x => x) F (Ev.cast (ev_list evs_nil (by rw [sizeLine_eq]; show 0 ≤ _; decide)) ?_) hh
      have : (figs x).any (· == 16) = true := List.any_eq_true.mpr ⟨f, hmem, by simp at hb ⊢; omega⟩
      unfold meantP
      rw [if_pos this]; rfl
    · refine x_extend F (ev_local rfl) (if_pos rfl) hb (l' := (figP f).map nI) (ev_if (ts_cmp (ev_local rfl) ev_int c_lt) (fun h12 => ?_) fun h12 => ?_) ?_ fun s₄ F => x_nil ⟨?_, ?_⟩
      · have h' : f < 12 := by have := of_decide_eq_true h12; omega
        refine Ev.cast (ev_list (evs_cons (Ev.cast (ev_mod (ev_local rfl) ev_int (by decide)) (by rw [show ((4 : Int)) = ((4 : Nat) : Int) from rfl, fmodN])) evs_nil) (by rw [sizeLine_eq]; show 1 ≤ _; decide)) ?_
        unfold figP
        rw [if_pos h']; rfl
      · have h' : ¬ f < 12 := by have := of_decide_eq_false h12; omega
        exact ev_tab (ev_local rfl) (by omega) hf20
      · have h2 : ∀ f, f < 20 → (figP f).length ≤ 2 := by decide
        have := h2 f hf20
        rw [List.length_map, List.length_map, sizeLine_eq]; omega
      · intro f' hf'
        rw [List.take_add_one, List.mem_append] at hf'
        rcases hf' with q | q
        · exact hI f' q
        · rw [hf] at q
          simp at q
          subst q
          simp at hb'
          omega
      · refine InF.ownEq (F.sub (ρ := [("x", .int x), ("meant", .raw (.ref b))]) ⟨rfl, rfl, trivial⟩) fun d => ?_
        show _ = if d = b then _ else (if d = b then _ else own d)
        by_cases q : d = b
        · simp only [q, if_true]
          rw [List.take_add_one, hf]
          simp
        · simp [q]
  · have e3 : ((figs x).map nI).length = 3 := rfl
    rw [e3] at F hI
    have F' := InF.letGo (x := "meant") F (if_pos rfl) rfl
    refine x_ret F' (Ev.cast (ev_local rfl) ?_) fun d hd => ?_
    · have e4 : (figs x).take 3 = figs x := rfl
      rw [e4] at hI ⊢
      unfold meantP
      rw [if_neg]
      rw [Bool.not_eq_true, List.any_eq_false]
      exact fun f hf => by simpa using hI f hf
    · unfold Fc.hid at hd ⊢
      show (if d = b then none else if d = b then _ else own d).isSome = true
      have hd' : (own d).isSome = true := hd
      have : d ≠ b := by
        rintro rfl
        exact hn hd
      simp [this, hd']
end
end Mine
end
section
open PySem PySem.W PyProof.Rows
set_option Elab.async false
set_option linter.unusedVariables false
set_option maxRecDepth 20000
namespace Mine
section
variable {g : G} {c : Fc} {s₀ s : Shared}
def signBody : List Stmt := Stmt.dBody (stAt 25)
def signL (i : Nat) : List Int := Expr.ints (Stmt.val (signBody.getD i (.Pass default)))
def hidL : List Int := Expr.ints (Expr.left (Stmt.val (signBody.getD 1 (.Pass default)))) ++ upTo 65024 16
def Expr.rightI : Expr → List Int | .BinOp _ _ r _ => Expr.ints r | _ => []
def besL : List Int := signL 2 ++ Expr.rightI (Stmt.val (signBody.getD 3 (.Pass default)))
def barL : List Int := signL 4 ++ Expr.rightI (Stmt.val (signBody.getD 5 (.Pass default)))
/-- the sign for a figure -/
def signP (f pick : Nat) : Nat :=
  if f < 12 then (([97, 65, (signL 0).getD (pick % 10) 0] : List Int).getD (f / 4) 0).toNat + f % 4
  else if f < 14 then (hidL.getD (pick % 27) 0).toNat
  else if f < 16 then (besL.getD (pick % 33) 0).toNat
  else if f < 17 then (barL.getD (pick % 21) 0).toNat
  else (([13256, 13255, 7834] : List Int).getD (f - 17) 0).toNat
/-- a display of ints -/
theorem evs_ints : ∀ (es : List Expr), (∀ e ∈ es, ∃ i k p, e = .Constant (.int i) k p) → Evs g c es ((es.map Expr.int1).map .int)
  | [], _ => evs_nil
  | e :: es, h => by
    obtain ⟨i, k, p, rfl⟩ := h e (.head _)
    exact evs_cons ev_int (evs_ints es fun e he => h e (.tail _ he))
def allInts : List Expr → Bool
  | [] => true
  | .Constant (.int _) _ _ :: r => allInts r
  | _ => false
theorem allInts_mem : ∀ (es : List Expr), allInts es = true → ∀ e ∈ es, ∃ i k p, e = .Constant (.int i) k p
  | [], _, e, he => by cases he
  | x :: r, h, e, he => by
    unfold allInts at h
    split at h
    · next q => cases q
    · next i k p r' q =>
      cases q
      rcases List.mem_cons.mp he with rfl | h'
      · exact ⟨_, _, _, rfl⟩
      · exact allInts_mem _ h e h'
    · cases h
theorem ev_ints {es : List Expr} {p : Pos} (h : allInts es = true := by rfl) (hl : es.length ≤ 64 := by decide) : Ev g c (.List es p) (.list ((Expr.ints (.List es p)).map .int)) :=
  ev_list (evs_ints es (allInts_mem es h)) (by show ((es.map Expr.int1).map AV.int).length ≤ _; rw [List.length_map, List.length_map]; exact sz8 hl)
theorem items_vals {a d : Int} {n : Nat} {acc : Array Value} {hid : Addr → Prop} {h : Heap} (x : ItemsOf (fun i v => ∃ t, v = .int (a + i * d) t) acc n) : Vals hid h (((List.range n).map fun i => a + ((i : Nat) : Int) * d).map .int) acc.toList := by
  obtain ⟨h1, h2⟩ := x
  have : ∀ (m : Nat), m ≤ n → Vals hid h (((List.range m).map fun i => a + ((i : Nat) : Int) * d).map .int) (acc.toList.take m) := by
    intro m
    induction m with
    | zero => intro _; exact Vals.nil
    | succ m ih =>
      intro hm
      have hv : acc[m]? = some acc[m] := Array.getElem?_eq_getElem (by omega)
      obtain ⟨t, ht⟩ := h2 m _ hv
      have e : acc.toList[m]? = some (.int (a + m * d) t) := by rw [Array.getElem?_toList, hv, ht]
      rw [List.range_succ, List.map_append, List.map_append, List.take_add_one, e]
      exact (ih (by omega)).append (Vals.cons vint Vals.nil)
  have := this n (Nat.le_refl _)
  rwa [List.take_of_length_le (by simp [h1])] at this
/-- list(range(a, b)) -/
theorem ev_listRange {e₁ e₂ : Expr} {a b : Int} {n : Nat} {p₁ p₂ p₃ p₄ : Pos} (T : Tops g) (h₁ : Ev g c e₁ (.int a)) (h₂ : Ev g c e₂ (.int b)) (hh : c.A.handled = none)
    (ha : -(2 ^ 62) ≤ a) (ha' : a < 2 ^ 62) (hb : -(2 ^ 62) ≤ b) (hb' : b < 2 ^ 62) (hn : (n : Int) = b - a) (hsz : n ≤ 64) (hc : FcF c := by exact ⟨rfl, rfl, rfl⟩) (hk : c.env.kindOf "range" = some .globalImplicit := by rfl) (hk2 : c.env.kindOf "list" = some .globalImplicit := by rfl)
    (s1 : star1 e₁ = false := by rfl) (s2 : star1 e₂ = false := by rfl) :
    Ev g c (.Call (.Name "list" p₁) [.Call (.Name "range" p₂) [e₁, e₂] [] p₃] [] p₄) (.list ((upTo a n).map .int)) := .mk fun s E R => by
  have N1 : FName g c "list" (.type "list") := hc.name T (by decide) hk2 (by decide)
  have N2 : FName g c "range" (.type "range") := hc.name T (by decide) hk (by decide)
  refine wpAny_Call_NameR (N1.load T.ok R ?_)
  have hb1 : backTo p₄ (starEach [.Call (.Name "range" p₂) [e₁, e₂] [] p₃] c.env) = [(false, eval (.Call (.Name "range" p₂) [e₁, e₂] [] p₃) c.env)] := by rw [starE rfl]; rfl
  rw [hb1]
  refine PySem.callWith_type rfl (Calls.evalArgs_plain (Calls.spliced_cons ?_))
  refine call_args T.ok N2 (.inr (.inl ⟨_, rfl⟩)) (evs_cons h₁ (evs_cons h₂ evs_nil s2) s1) R (fun s' vs k R' hv => ?_) (starE s1 _ _) (by rw [starE s2]; rfl)
  obtain ⟨v, r, rfl, hv1, hv2⟩ := hv.cons'
  obtain ⟨v', r', rfl, hv3, hv4⟩ := hv2.cons'
  obtain rfl := hv4.nil'
  obtain ⟨t, rfl⟩ := hv1.int'
  obtain ⟨u, rfl⟩ := hv3.int'
  refine call_range_2 (Calls.spliced_nil ?_)
  refine call_list_range (n := n) hh (IsRange.new ..) (small_one ha ha' hb hb') (by rw [rangeSize_one]; split <;> omega) (by omega) fun h' tk acc' c' hk' hS hI => ?_
  refine ⟨k.ext fun b o e => hk' b o (Heap.get?_push_of_some _ e), ?_⟩
  refine vlist (R'.vis.fresh (get_none_of_ge (by simp [Heap.size_push]))) ⟨c', hS⟩ ?_
  have := items_vals (hid := c.hid) (h := h') hI
  simpa [upTo] using this
theorem getD_get {l : List Int} {k : Nat} (h : k < l.length) : (l.map AV.int)[k]? = some (.int (l.getD k 0)) := by
  rw [List.getElem?_map, List.getElem?_eq_getElem h]
  simp [List.getD, h]
theorem hid_ok : hidL.length = 27 ∧ ∀ x ∈ hidL, 0 ≤ x ∧ x ≤ 0x10FFFF := by decide +kernel
theorem bes_ok : besL.length = 33 ∧ ∀ x ∈ besL, 0 ≤ x ∧ x ≤ 0x10FFFF := by decide +kernel
theorem bar_ok : barL.length = 21 ∧ ∀ x ∈ barL, 0 ≤ x ∧ x ≤ 0x10FFFF := by decide +kernel
theorem alp_ok : (signL 0).length = 10 ∧ ∀ x ∈ signL 0, 0 ≤ x ∧ x ≤ 0x10FF00 := by decide +kernel
theorem getD_in {l : List Int} {k : Nat} {P : Int → Prop} (hl : k < l.length) (h : ∀ x ∈ l, P x) : P (l.getD k 0) := by
  have : l.getD k 0 = l[k] := by simp [List.getD, hl]
  rw [this]
  exact h _ (List.getElem_mem _)
/-- a sign out of a table -/
theorem ev_pick {e i : Expr} {l : List Int} {k m : Nat} {p p' pos : Pos} (T : Tops g) (h : Ev g c e (.list (l.map .int))) (hi : Ev g c i (.int ((k % m : Nat) : Int))) (hm : l.length = m) (h0 : 0 < m) (hm2 : m < 64) (hr : ∀ x ∈ l, 0 ≤ x ∧ x ≤ 0x10FFFF) (hc : FcF c := by exact ⟨rfl, rfl, rfl⟩) (hk : c.env.kindOf "chr" = some .globalImplicit := by rfl)
    (hs : ∀ o v, subscripted i false o v = operate [o, v] (getItem o v) := by intro _ _; rfl) :
    Ev g c (.Call (.Name "chr" p) [.Subscript e i p'] [] pos) (.str (one (l.getD (k % m) 0).toNat)) := by
  have hlt : k % m < l.length := by rw [hm]; exact Nat.mod_lt _ h0
  have hlt2 : k % m < m := Nat.mod_lt _ h0
  have hr' := getD_in (k := k % m) hlt hr
  exact ev_chr T (ev_item h hi (by omega) (by omega) (by rw [Int.toNat_natCast]; exact getD_get hlt) hs) hr'.1 hr'.2 hc hk
theorem castL {l l' : List Int} (h : l = l') : AV.list (l.map .int) = .list (l'.map .int) := by rw [h]
theorem castA {l₁ l₂ l' : List Int} (h : l₁ ++ l₂ = l') : AV.list (l₁.map .int ++ l₂.map .int) = .list (l'.map .int) := by rw [← List.map_append, h]
set_option maxHeartbeats 1000000 in
theorem f_sign (T : Tops g) (n f pick : Nat) (hf : f < 20) : FnI g (n + 1) 25 [.int f, .int pick] (.str (one (signP f pick))) := by
  refine fnI ["figure", "pick"] T (by decide) rfl (by decide) (fun pm cd doc => bind2 fun s v w => BindsTo.of_eq rfl) (fun x hx => by simp at hx; rcases hx with rfl | rfl <;> exact .inl rfl) fun a L A own pm cd doc s s₁ E ok F => ?_
  refine x_assign F (Ev.cast ev_ints (castL (l' := signL 0) (by decide +kernel))) ⟨rfl, .inl rfl⟩ fun s₂ F => ?_
  refine x_assign F (Ev.cast (ev_addl ev_ints (ev_listRange (n := 16) T ev_int ev_int ok.hd (by decide) (by decide) (by decide) (by decide) (by decide) (by decide)) (sz8 (by rw [List.length_map, List.length_map]; decide +kernel))) (castA (l' := hidL) (by decide +kernel))) ⟨rfl, .inl rfl⟩ fun s₂ F => ?_
  refine x_assign F (Ev.cast ev_ints (castL (l' := signL 2) (by decide +kernel))) ⟨rfl, .inl rfl⟩ fun s₂ F => ?_
  refine x_assign F (Ev.cast (ev_addl (ev_local rfl) ev_ints (sz8 (by rw [List.length_map, List.length_map]; decide +kernel))) (castA (l' := besL) (by decide +kernel))) ⟨rfl, .inl rfl⟩ fun s₂ F => ?_
  refine x_assign F (Ev.cast ev_ints (castL (l' := signL 4) (by decide +kernel))) ⟨rfl, .inl rfl⟩ fun s₂ F => ?_
  refine x_assign F (Ev.cast (ev_addl (ev_local rfl) ev_ints (sz8 (by rw [List.length_map, List.length_map]; decide +kernel))) (castA (l' := barL) (by decide +kernel))) ⟨rfl, .inl rfl⟩ fun s₂ F => ?_
  refine x_if F (ts_cmp (ev_local rfl) ev_int c_lt) (fun hb s₃ F => ?_) fun hb s₃ F => x_nil ?_
  · have hb' : f < 12 := by have := of_decide_eq_true hb; omega
    have hp : pick % 10 < (signL 0).length := by rw [alp_ok.1]; exact Nat.mod_lt _ (by decide)
    have hr := getD_in (k := pick % 10) hp alp_ok.2
    have hv : ∀ k, k < 3 → 0 ≤ ([97, 65, (signL 0).getD (pick % 10) 0] : List Int).getD k 0 ∧ ([97, 65, (signL 0).getD (pick % 10) 0] : List Int).getD k 0 ≤ 0x10FF00 := by
      intro k hk
      have : k = 0 ∨ k = 1 ∨ k = 2 := by omega
      rcases this with rfl | rfl | rfl
      · show (0 : Int) ≤ 97 ∧ (97 : Int) ≤ 0x10FF00; decide
      · show (0 : Int) ≤ 65 ∧ (65 : Int) ≤ 0x10FF00; decide
      · exact hr
    have hv4 := hv (f / 4) (by omega)
    have hm4 : f % 4 < 4 := Nat.mod_lt _ (by decide)
    refine x_retQ (fun _ _ x => x) F (Ev.cast (ev_chr T (ev_add (i := ([97, 65, (signL 0).getD (pick % 10) 0] : List Int).getD (f / 4) 0) (j := ((f % 4 : Nat) : Int)) (ev_item (l := ([97, 65, (signL 0).getD (pick % 10) 0] : List Int).map .int)
      (ev_list (evs_cons ev_int (evs_cons ev_int (evs_cons (ev_item (ev_local rfl) (Ev.cast (ev_mod (ev_local rfl) ev_int (by decide)) (congrArg AV.int (show _ = ((pick % 10 : Nat) : Int) by rw [show ((10 : Int)) = ((10 : Nat) : Int) from rfl, fmodN]))) (by omega) (by omega) (by rw [Int.toNat_natCast]; exact getD_get hp)) evs_nil))) (sz8 (by show 3 ≤ 64; omega)))
      (Ev.cast (ev_div (ev_local rfl) ev_int (by decide) (by decide)) (congrArg AV.int (show _ = ((f / 4 : Nat) : Int) by rw [show ((4 : Int)) = ((4 : Nat) : Int) from rfl, fdivN]))) (by omega) (by omega) (by rw [Int.toNat_natCast]; exact getD_get (by show f / 4 < 3; omega)))
      (Ev.cast (ev_mod (ev_local rfl) ev_int (by decide)) (by rw [show ((4 : Int)) = ((4 : Nat) : Int) from rfl, fmodN]))) (by omega) (by omega)) ?_)
    unfold signP
    rw [if_pos hb']
    show AV.str (one (([97, 65, (signL 0).getD (pick % 10) 0] : List Int).getD (f / 4) 0 + ((f % 4 : Nat) : Int)).toNat) = AV.str (one ((([97, 65, (signL 0).getD (pick % 10) 0] : List Int).getD (f / 4) 0).toNat + f % 4))
    congr 2
    omega
  have hb' : ¬ f < 12 := by have := of_decide_eq_false hb; omega
  refine x_if F (ts_cmp (ev_local rfl) ev_int c_lt) (fun hc s₃ F => ?_) fun hc s₃ F => x_nil ?_
  · have hc' : f < 14 := by have := of_decide_eq_true hc; omega
    refine x_retQ (fun _ _ x => x) F (Ev.cast (ev_pick (l := hidL) (k := pick) (m := 27) T (ev_local rfl) (Ev.cast (ev_mod (ev_local rfl) ev_int (by decide)) (by rw [show ((27 : Int)) = ((27 : Nat) : Int) from rfl, fmodN])) hid_ok.1 (by decide) (by decide) hid_ok.2) ?_)
    unfold signP
    rw [if_neg hb', if_pos hc']
  have hc' : ¬ f < 14 := by have := of_decide_eq_false hc; omega
  refine x_if F (ts_cmp (ev_local rfl) ev_int c_lt) (fun hd s₃ F => ?_) fun hd s₃ F => x_nil ?_
  · have hd' : f < 16 := by have := of_decide_eq_true hd; omega
    refine x_retQ (fun _ _ x => x) F (Ev.cast (ev_pick (l := besL) (k := pick) (m := 33) T (ev_local rfl) (Ev.cast (ev_mod (ev_local rfl) ev_int (by decide)) (by rw [show ((33 : Int)) = ((33 : Nat) : Int) from rfl, fmodN])) bes_ok.1 (by decide) (by decide) bes_ok.2) ?_)
    unfold signP
    rw [if_neg hb', if_neg hc', if_pos hd']
  have hd' : ¬ f < 16 := by have := of_decide_eq_false hd; omega
  refine x_if F (ts_cmp (ev_local rfl) ev_int c_lt) (fun he s₃ F => ?_) fun he s₃ F => x_nil ?_
  · have he' : f < 17 := by have := of_decide_eq_true he; omega
    refine x_retQ (fun _ _ x => x) F (Ev.cast (ev_pick (l := barL) (k := pick) (m := 21) T (ev_local rfl) (Ev.cast (ev_mod (ev_local rfl) ev_int (by decide)) (by rw [show ((21 : Int)) = ((21 : Nat) : Int) from rfl, fmodN])) bar_ok.1 (by decide) (by decide) bar_ok.2) ?_)
    unfold signP
    rw [if_neg hb', if_neg hc', if_neg hd', if_pos he']
  have he' : ¬ f < 17 := by have := of_decide_eq_false he; omega
  have hlt : f - 17 < ([13256, 13255, 7834] : List Int).length := by show f - 17 < 3; omega
  have hr := getD_in (l := ([13256, 13255, 7834] : List Int)) (k := f - 17) (P := fun x => 0 ≤ x ∧ x ≤ 0x10FFFF) hlt (by decide)
  refine x_ret F (Ev.cast (ev_chr T (ev_item (l := ([13256, 13255, 7834] : List Int).map .int) (ev_list (evs_cons ev_int (evs_cons ev_int (evs_cons ev_int evs_nil))) (sz8 (by show 3 ≤ 64; omega))) (ev_sub (ev_local rfl) ev_int) (by omega) (by omega) (by
    rw [show ((f : Int) - 17).toNat = f - 17 by omega]; exact getD_get hlt)) hr.1 hr.2) ?_)
  unfold signP
  rw [if_neg hb', if_neg hc', if_neg hd', if_neg he']
  rfl
end
end Mine
end
section
open PySem PySem.W PyProof.Rows
set_option Elab.async false
set_option linter.unusedVariables false
set_option maxRecDepth 20000
namespace Mine
section
variable {g : G} {c : Fc} {s₀ s : Shared}
def inP (m ch : Int) : Bool := Builtin.bitAnd m ch == m
def commonP (masks : List Int) (ch : Int) : Int := masks.foldl (fun a m => if inP m ch then Builtin.bitAnd a m else a) ch
def timesL : List Int := [1, 1, 2, 6]
def dueP (masks : List Int) (ch size : Int) : Int :=
  if (masks.filter fun m => inP m ch) == [] || commonP masks ch == 0 then 0
  else manyP (commonP masks ch) * timesL.getD (manyP ch - 1).toNat 0 * timesL.getD (size - manyP ch).toNat 0
theorem ts_inP {e₁ e₂ e₃ : Expr} {m ch : Int} {p p' : Pos} (h₁ : Ev g c e₁ (.int m)) (h₂ : Ev g c e₂ (.int ch)) (h₃ : Ev g c e₃ (.int m)) (hm : behindInMarks .Eq e₃ = false := by rfl) : Ts g c (.Compare (.BinOp e₁ .BitAnd e₂ p) [.Eq] [e₃] p') (inP m ch) := ts_cmp (ev_and h₁ h₂) h₃ c_eq hm
theorem ev_inP {e₁ e₂ e₃ : Expr} {m ch : Int} {p p' : Pos} (h₁ : Ev g c e₁ (.int m)) (h₂ : Ev g c e₂ (.int ch)) (h₃ : Ev g c e₃ (.int m)) (hm : behindInMarks .Eq e₃ = false := by rfl) : Ev g c (.Compare (.BinOp e₁ .BitAnd e₂ p) [.Eq] [e₃] p') (.bool (inP m ch)) := ev_cmp (ev_and h₁ h₂) h₃ c_eq hm
theorem foldl_take {α : Type} {f : Int → α → Int} {a : Int} {l : List α} {i : Nat} {x : α} (h : l[i]? = some x) : (l.take (i + 1)).foldl f a = f ((l.take i).foldl f a) x := by
  rw [List.take_add_one, h]; simp
theorem filterMap_if {α : Type} (p : α → Bool) : ∀ (l : List α), (l.filterMap fun x => if p x then some x else none) = l.filter p
  | [] => rfl
  | x :: l => by
    rw [List.filterMap_cons, List.filter_cons, filterMap_if p l]
    cases p x <;> rfl
theorem times_bits : ∀ k, k < 4 → Builtin.Int.intBits (timesL.getD k 0) ≤ 64 := by decide +kernel
theorem f_due (T : Tops g) (n : Nat) (masks : List Int) (ch size : Int) (hl : masks.length ≤ 64) (h1 : 1 ≤ manyP ch) (h2 : manyP ch ≤ size) (h3 : size ≤ 4) : FnI g (n + 2) 33 [.list (masks.map .int), .int ch, .int size] (.int (dueP masks ch size)) := by
  refine fnI ["masks", "choice", "size"] T (by decide) rfl (by decide) (fun pm cd doc => bind3 fun s v w x => BindsTo.of_eq rfl) (fun x hx => by simp at hx; rcases hx with rfl | rfl | rfl; exact .inl rfl; exact .inr ⟨by decide, rfl⟩; exact .inl rfl) fun a L A own pm cd doc s s₁ E ok F => ?_
  refine x_assign F (ev_cell rfl) ⟨rfl, .inl rfl⟩ fun s₂ F => ?_
  refine x_for F (src_list (ev_local rfl) ok.hd) ⟨rfl, .inl rfl⟩ (fun _ => True) (fun i => [("masks", .list (masks.map .int)), ("choice", .int ch), ("size", .int size), ("common", .int (commonP (masks.take i) ch))]) (fun _ => own) (fun _ _ => rfl) rfl ⟨rfl, rfl, rfl, rfl, trivial⟩ trivial (fun i av hav hI s₂ xs ps E' F => ?_) fun s' hI F => ?_
  · rw [List.getElem?_map, Option.map_eq_some_iff] at hav
    obtain ⟨m, hm, rfl⟩ := hav
    have ht : commonP (masks.take (i + 1)) ch = if inP m ch then Builtin.bitAnd (commonP (masks.take i) ch) m else commonP (masks.take i) ch := foldl_take hm
    refine x_if F (ts_inP (ev_local rfl) (ev_cell rfl) (ev_local rfl)) (fun hb s₃ F => ?_) fun hb s₃ F => ?_
    · rw [if_pos hb] at ht
      refine x_assign F (ev_and (ev_local rfl) (ev_local rfl)) ⟨rfl, .inl rfl⟩ fun s₄ F => x_nil (x_nil ⟨trivial, ?_⟩)
      rw [ht]
      exact F.sub ⟨rfl, rfl, rfl, rfl, trivial⟩
    · rw [if_neg (by simp [hb])] at ht
      refine x_nil (x_nil ⟨trivial, ?_⟩)
      rw [ht]
      exact F.sub ⟨rfl, rfl, rfl, rfl, trivial⟩
  · rw [List.length_map, List.take_length] at F
    refine x_if F (ts_bool (tall_or (ts_cmp (ev_compF (emb := .int) (emb' := .int) (l := masks) (fun m => if inP m ch then some m else none) (CompOk.of rfl (by decide)) (.inl rfl) int_inj (src_list (ev_local rfl) ok.hd) (sz8 hl) fun m hm C D l' ps zs => ⟨?_, ?_⟩) (Ev.cast ev_list0 (show _ = AV.list (([] : List Int).map .int) from rfl)) (c_leq eqk_int (ok.le (Nat.zero_le _)))) fun _ => tall_or (ts_cmp (ev_local rfl) ev_int c_eq) fun _ => tall_or_nil)) (fun hb s₃ F => ?_) fun hb s₃ F => x_nil ?_
    · refine tests_one (Ts.cast (ts_inP (ev_local rfl) (ev_cell rfl) (ev_local rfl)) ?_)
      cases inP m ch <;> rfl
    · intro b hb
      split at hb
      · cases hb; exact ev_local rfl
      · cases hb
    · refine x_retQ (fun _ _ x => x) F (ev_int.cast ?_)
      rw [filterMap_if] at hb
      unfold dueP
      rw [if_pos (by simpa using hb)]
    · refine x_assign F (Ev.cast ev_ints (castL (l' := timesL) (by decide +kernel))) ⟨rfl, .inl rfl⟩ fun s₂ F => ?_
      refine x_ret F (Ev.cast (ev_mul (ev_mul (ev_fn T (f_many T n _) ok (evs_cons (ev_local rfl) evs_nil)) (ev_item (ev_local rfl) (ev_sub (ev_fn T (f_many T n _) ok (evs_cons (ev_cell rfl) evs_nil)) ev_int) (by omega) (by omega) (getD_get (by show _ < 4; omega))) ?_) (ev_item (ev_local rfl) (ev_sub (ev_local rfl) (ev_fn T (f_many T n _) ok (evs_cons (ev_cell rfl) evs_nil))) (by omega) (by omega) (getD_get (by show _ < 4; omega))) ?_) ?_)
      · exact IntMulOk.of_right (times_bits _ (by omega))
      · exact IntMulOk.of_right (times_bits _ (by omega))
      · rw [filterMap_if] at hb
        unfold dueP
        rw [if_neg (by simpa using hb)]
end
end Mine
end
section
open PySem PySem.W PyProof.Rows
set_option Elab.async false
set_option linter.unusedVariables false
set_option maxRecDepth 20000
namespace Mine
section
variable {g : G} {c : Fc} {s₀ s s' : Shared}
/-- a new list of ints becomes one of the block's own -/
theorem InF.adoptInts {l : List Int} {a : Addr} {its : Array Value} (F : InF g c s₀ s) (k : Kp s s') (hn : s.heap.get? a = none) (hp : s'.heap.PlainList a its) (hv : ∀ hid h, Vals hid h (l.map .int) its.toList) : InF g (c.setOwn a (l.map .int)) s₀ s' := by
  have kb := k.heap
  have hh : ∀ b, (∃ o, s.heap.get? b = some o) → (c.setOwn a (l.map .int)).hid b → c.hid b := by
    rintro b ⟨o, e⟩ q
    unfold Fc.hid Fc.setOwn at q
    dsimp only at q
    rw [if_neg (by rintro rfl; rw [hn] at e; cases e)] at q
    exact q
  have vl : ∀ {av : AV} {v : Value}, Val c.hid s.heap av v → Val (c.setOwn a (l.map .int)).hid s'.heap av v := fun q =>
    q.imp (fun b its ⟨n, e⟩ z => hh b ⟨_, e⟩ z) fun b its _ e => e.at fun o e => kb b o e
  have vls : ∀ {av : List AV} {v : List Value}, Vals c.hid s.heap av v → Vals (c.setOwn a (l.map .int)).hid s'.heap av v := fun q =>
    q.imp (fun b its ⟨n, e⟩ z => hh b ⟨_, e⟩ z) fun b its _ e => e.at fun o e => kb b o e
  have F' := F.more k
  refine ⟨F'.same, F'.keep, F'.on, ⟨?_, ?_, ?_, ?_, ?_, ?_⟩, F'.nL, F'.nC, F'.apart⟩
  · obtain ⟨m, hns, hm⟩ := F.vis.loc
    refine ⟨m, hns.keeps kb, fun y av hy hr => ?_⟩
    obtain ⟨v, e, q⟩ := hm y av hy hr
    exact ⟨v, e, vl q⟩
  · intro y av hy hr
    obtain ⟨b, v, e, hc, q⟩ := F.vis.cel y av hy hr
    exact ⟨b, v, e, hc.keeps kb, vl q⟩
  · intro b lb e
    unfold Fc.setOwn at e
    dsimp only at e
    split at e
    · next q =>
      cases e
      subst q
      exact ⟨its, hp, hv _ _⟩
    · obtain ⟨its, hp, hvs⟩ := F.vis.own b lb e
      exact ⟨its, hp.at fun o e => kb b o e, vls hvs⟩
  · intro p hp
    obtain ⟨e, hn2, hpi⟩ := F.vis.pin p hp
    exact ⟨kb _ _ e, fun q => hn2 (hh _ ⟨_, e⟩ q), hpi⟩
  · exact fun p hp => vl (F.vis.ext p hp)
  · intro y b e
    obtain ⟨v, q⟩ := F.vis.cex y b e
    exact ⟨v, q.keeps kb⟩
/-- x = list(range(a, b, d)), the block's own -/
theorem x_rowRange {A : Around} {env : Env} {x : Str} {e₁ e₂ e₃ : Expr} {a b d : Int} {n : Nat} {p p₁ p₂ p₃ p₄ pos : Pos} {rest : List Stmt} {Q : Flow → Shared → Prop} {E : Value → Shared → Prop} (T : Tops g) (F : InF g c s₀ s) (h₁ : Ev g c e₁ (.int a)) (h₂ : Ev g c e₂ (.int b)) (h₃ : Ev g c e₃ (.int d)) (hh : c.A.handled = none)
    (hd : d ≠ 0) (hd2 : d.natAbs < 1073741824) (hs : Builtin.Range.small a b d = true) (hn : Builtin.Range.rangeSize a b d = n) (hsz : n ≤ 64) (B : Bind c x)
    (h : ∀ a' s', s₀.heap.get? a' = none → ¬ c.hid a' → InF g ((c.setOwn a' (((List.range n).map fun i => a + ((i : Nat) : Int) * d).map .int)).set x (.raw (.ref a'))) s₀ s' → WP g c.A c.env rest Q E s')
    (hc : FcF c := by exact ⟨rfl, rfl, rfl⟩) (hk : c.env.kindOf "range" = some .globalImplicit := by rfl) (hk2 : c.env.kindOf "list" = some .globalImplicit := by rfl)
    (s1 : star1 e₁ = false := by rfl) (s2 : star1 e₂ = false := by rfl) (s3 : star1 e₃ = false := by rfl) (hsw : swapsWith (.Call (.Name "list" p₁) [.Call (.Name "range" p₂) [e₁, e₂, e₃] [] p₃] [] p₄) (some (.Name x p)) pos.line c.env = pure false := by rfl) (hA : c.A = A := by rfl) (hE : c.env = env := by rfl) :
    WP g A env (.Assign [.Name x p] (.Call (.Name "list" p₁) [.Call (.Name "range" p₂) [e₁, e₂, e₃] [] p₃] [] p₄) pos :: rest) Q E s := by
  subst hA; subst hE
  have N1 : FName g c "list" (.type "list") := hc.name T (by decide) hk2 (by decide)
  have N2 : FName g c "range" (.type "range") := hc.name T (by decide) hk (by decide)
  refine x_cons (wpAny_Assign_Name (wpAny_Call_NameR (N1.load T.ok F.ready ?_)) hsw)
  have hb1 : backTo p₄ (starEach [.Call (.Name "range" p₂) [e₁, e₂, e₃] [] p₃] c.env) = [(false, eval (.Call (.Name "range" p₂) [e₁, e₂, e₃] [] p₃) c.env)] := by rw [starE rfl]; rfl
  rw [hb1]
  refine PySem.callWith_type rfl (Calls.evalArgs_plain (Calls.spliced_cons ?_))
  refine call_args T.ok N2 (.inr (.inl ⟨_, rfl⟩)) (evs_cons h₁ (evs_cons h₂ (evs_cons h₃ evs_nil s3) s2) s1) F.ready (fun s' vs k R' hv => ?_) (starE s1 _ _) (by rw [starE s2, starE s3]; rfl)
  obtain ⟨v, r, rfl, hv1, hv2⟩ := hv.cons'
  obtain ⟨v', r', rfl, hv3, hv4⟩ := hv2.cons'
  obtain ⟨v'', r'', rfl, hv5, hv6⟩ := hv4.cons'
  obtain rfl := hv6.nil'
  obtain ⟨t, rfl⟩ := hv1.int'
  obtain ⟨u, rfl⟩ := hv3.int'
  obtain ⟨w, rfl⟩ := hv5.int'
  refine call_range_3 hd (Calls.spliced_nil ?_) (Or.inl (PyProof.noPylong_small hd2))
  refine call_list_range (n := n) hh (IsRange.new ..) hs hn (by omega) fun h' tk acc' c' hk' hS hI => ?_
  have F₁ := F.more k
  have k₂ : Kp s' { s' with heap := h', toks := tk } := (Kp.refl s').ext fun b o e => hk' b o (Heap.get?_push_of_some _ e)
  have hdead : s'.heap.get? (s'.heap.objs.size + 1) = none := get_none_of_ge (by omega)
  have hS' : h'.get? (s'.heap.objs.size + 1) = some { cls := .type "list", dict := none, data := .seq acc' c', slots := #[] } := by
    have := hS
    simpa [Heap.size_push] using this
  have F₂ := F₁.adoptInts k₂ hdead ⟨c', hS'⟩ fun hid h => items_vals (hid := hid) (h := h) hI
  have e : ∀ o, (s'.heap.push o).objs.size = s'.heap.objs.size + 1 := fun o => by simp [Heap.size_push]
  refine st_bind (c := c.setOwn (s'.heap.objs.size + 1) _) B F₂ (by simp only [e]; exact vraw) fun s'' F'' => h _ s'' (dead₀ F₁ hdead) (F₁.vis.fresh hdead) F''
end
end Mine
end
section
open PySem PySem.W PyProof.Rows
set_option Elab.async false
set_option linter.unusedVariables false
set_option maxRecDepth 20000
namespace Mine
section
variable {g : G} {c : Fc} {s₀ s : Shared}
theorem slice_from (a : List Nat) (i : Nat) (hi : i ≤ a.length) : Txt.slice (SS a) (some (i : Int)) none = SS (a.drop i) := by
  show StrLaws.sliceText (SS a) (some (i : Int)) none = _
  rw [StrLaws.sliceText_from ⟨by omega, by simp [SS]; omega⟩]
  have : ((a.drop (i : Int).toNat).take ((a.length : Int) - i).toNat) = a.drop i := by
    rw [Int.toNat_natCast]
    exact List.take_of_length_le (by simp)
  show (⟨((a.drop (i : Int).toNat).take ((a.length : Int) - i).toNat).toArray⟩ : Str) = _
  rw [this]; rfl
theorem slice_to (a : List Nat) (i : Nat) (hi : i ≤ a.length) : Txt.slice (SS a) none (some (i : Int)) = SS (a.take i) := by
  show StrLaws.sliceText (SS a) none (some (i : Int)) = _
  rw [StrLaws.sliceText_to ⟨by omega, by simp [SS]; omega⟩]
  show (⟨((a.drop 0).take ((i : Int) - 0).toNat).toArray⟩ : Str) = _
  have : ((i : Int) - 0).toNat = i := by omega
  rw [this]; rfl
theorem slice_toNeg (a : List Nat) (j : Nat) (hj : 0 < j) (hj2 : j ≤ a.length) : Txt.slice (SS a) none (some (-(j : Int))) = SS (a.take (a.length - j)) := by
  show StrLaws.sliceText (SS a) none (some (-(j : Int))) = _
  rw [StrLaws.sliceText_to_neg (by omega) (by rw [SS_len]; omega)]
  show (⟨((a.drop 0).take (-(j : Int) + ((SS a).length : Nat) - 0).toNat).toArray⟩ : Str) = _
  rw [SS_len]
  have : (-(j : Int) + (a.length : Nat) - 0).toNat = a.length - j := by omega
  rw [this]; rfl
theorem slice_all (a : List Nat) : Txt.slice (SS a) none none = SS a := by
  unfold Txt.slice
  rw [if_pos]
  simp [Builtin.Str.strSliceIndices, sliceRange]
  split <;> omega
/-- a[:post or None] -/
def cutP (a : List Nat) (j : Nat) : List Nat := a.take (a.length - j)
theorem ev_cut {e k : Expr} {a : List Nat} {j : Nat} {p1 p2 p3 p4 : Pos} {kk : Nat} (h : Ev g c e (.str (SS a))) (hk : Ev g c k (.int (-(j : Int)))) (hj : j ≤ a.length) (ha : a.length ≤ 64) :
    Ev g c (.Subscript e (.Slice none (some (.BoolOp .Or [k, .Constant .none kk p1] p2)) none p3) p4) (.str (SS (cutP a j))) := by
  by_cases q : j = 0
  · subst q
    refine Ev.cast (ev_sslice h evp_none (evp_nil (ev_or hk ev_none (by simp))) (by rw [SS_len]; exact sz8 ha)) ?_
    rw [slice_all, cutP, Nat.sub_zero, List.take_length]
  · refine Ev.cast (ev_sslice h evp_none (evp_some (ev_or (av := .none) hk ev_none (by rw [if_neg (by omega)]))) (by rw [SS_len]; exact sz8 ha)) ?_
    rw [slice_toNeg a j (by omega) hj, cutP]
theorem ev_from {e k : Expr} {a : List Nat} {j : Nat} {p3 p4 : Pos} (h : Ev g c e (.str (SS a))) (hk : Ev g c k (.int (j : Int))) (hj : j ≤ a.length) (ha : a.length ≤ 64) :
    Ev g c (.Subscript e (.Slice (some k) none none p3) p4) (.str (SS (a.drop j))) :=
  Ev.cast (ev_sslice h (evp_some hk) evp_none (by rw [SS_len]; exact sz8 ha)) (by rw [slice_from a j hj])
theorem truthSS {a : List Nat} (ha : a.length ≤ 64) (h0 : a ≠ []) : Truth g c (.str (SS a)) true := by
  have := truth_str (g := g) (c := c) (x := SS a) (by rw [SS_len]; exact sz8 ha)
  rw [SS_len] at this
  have e : (a.length != 0) = true := by
    have := List.length_pos_iff.mpr h0
    simp; omega
  rwa [e] at this
theorem ev_back {e k : Expr} {a : List Nat} {j cp : Nat} {pos p : Pos} {kk : Nat} (h : Ev g c e (.str (SS a))) (hk : Ev g c k (.int (-(j : Int)))) (hj : j < a.length) (ha : a.length ≤ 64) (hx : a[a.length - 1 - j]? = some cp)
    (hs : ∀ o v, subscripted (.BinOp k .Sub (.Constant (.int 1) kk p) pos) false o v = operate [o, v] (getItem o v) := by intro _ _; rfl) {pos' : Pos} : Ev g c (.Subscript e (.BinOp k .Sub (.Constant (.int 1) kk p) pos) pos') (chS cp) := by
  refine ev_sitem h (ev_sub hk ev_int) (by omega) (by omega) ?_ hs
  unfold seqIndex?
  rw [SS_len]
  have h1 : (-(j : Int) - 1) < 0 := by omega
  have h2 : (0 : Int) ≤ -(j : Int) - 1 + a.length := by omega
  have h3 : -(j : Int) - 1 + (a.length : Int) < a.length := by omega
  have h4 : (-(j : Int) - 1 + (a.length : Int)).toNat = a.length - 1 - j := by omega
  simp only [h1, if_true, h2, h3, decide_true, Bool.and_true, Option.bind_some, h4]
  simpa [SS] using hx
/-- signs in common at the front -/
def lcp : List Nat → List Nat → Nat
  | x :: a, y :: b => if x = y then lcp a b + 1 else 0
  | _, _ => 0
theorem lcp_lt : ∀ (a b : List Nat), a.length = b.length → a ≠ b → lcp a b < a.length
  | [], [], _, h => absurd rfl h
  | [], _ :: _, h, _ => by cases h
  | _ :: _, [], h, _ => by cases h
  | x :: a, y :: b, h, hn => by
    unfold lcp
    split
    · next q =>
      subst q
      have := lcp_lt a b (by simpa using h) (fun e => hn (by rw [e]))
      simp; omega
    · simp
theorem lcp_same : ∀ (a b : List Nat) (i : Nat), i < lcp a b → a[i]? = b[i]?
  | [], _, i, h => by simp [lcp] at h
  | _ :: _, [], i, h => by simp [lcp] at h
  | x :: a, y :: b, i, h => by
    unfold lcp at h
    split at h
    · next q =>
      subst q
      cases i with
      | zero => simp
      | succ i => simpa using lcp_same a b i (by omega)
    · omega
theorem lcp_diff : ∀ (a b : List Nat), a.length = b.length → a ≠ b → a[lcp a b]? ≠ b[lcp a b]?
  | [], [], _, h => absurd rfl h
  | [], _ :: _, h, _ => by cases h
  | _ :: _, [], h, _ => by cases h
  | x :: a, y :: b, h, hn => by
    unfold lcp
    split
    · next q =>
      subst q
      have := lcp_diff a b (by simpa using h) (fun e => hn (by rw [e]))
      simpa using this
    · next q => simpa using q
/-- signs in common at the back -/
def lcs (a b : List Nat) : Nat := lcp a.reverse b.reverse
def trimA (a b : List Nat) : List Nat := cutP (a.drop (lcp a b)) (lcs (a.drop (lcp a b)) (b.drop (lcp a b)))
def trimB (a b : List Nat) : List Nat := cutP (b.drop (lcp a b)) (lcs (a.drop (lcp a b)) (b.drop (lcp a b)))
def inn (a : List Nat) (bc : Nat) (row : List Int) (base : Int) : Nat → List Int × Int × Int × Int
  | 0 => (row, base, base, 9223372036854775807)
  | i + 1 =>
    let q := inn a bc row base i
    let sub := q.2.1 + substP bc (a.getD i 0)
    let d := q.1.getD i 0
    let ins := (if d < q.2.2.1 then d else q.2.2.1) + 2
    let r := if sub < ins then sub else ins
    (q.1.set i r, d, r, if r < q.2.2.2 then r else q.2.2.2)
def rows (a b : List Nat) : Nat → List Int × Int
  | 0 => ((List.range a.length).map fun i => 2 + ((i : Nat) : Int) * 2, 0)
  | j + 1 =>
    let q := inn a (b.getD j 0) (rows a b j).1 ((j : Int) * 2) a.length
    (q.1, q.2.2.1)
def minAt (a b : List Nat) (j : Nat) : Int := (inn a (b.getD j 0) (rows a b j).1 ((j : Int) * 2) a.length).2.2.2
def coreP (a b : List Nat) (m : Int) : Int := if (List.range b.length).any fun j => decide (m < minAt a b j) then m + 1 else (rows a b b.length).2
def levP (a b : List Nat) (m : Int) : Int := if a = b then 0 else if m < 0 then m + 1 else coreP (trimA a b) (trimB a b) m
end
end Mine
end
section
open PySem PySem.W PyProof.Rows
set_option Elab.async false
set_option linter.unusedVariables false
set_option maxRecDepth 20000
namespace Mine
section
variable {g : G} {c : Fc} {s₀ s : Shared}
theorem Cast.tall {op : BoolOp} {es : List Expr} {a b : Bool} (h : Tall g c op es a) (q : a = b) : Tall g c op es b := q ▸ h
theorem InF.fin {ρ : List (Str × AV)} {own : Addr → Option (List AV)} (F : InF g c s₀ s) (h : SubL ρ c.ρ) (ho : ∀ a, own a = c.own a) : InF g { c with ρ := ρ, own := own } s₀ s := InF.ownEq (c := { c with ρ := ρ }) (F.sub h) ho
theorem SS_inj {a b : List Nat} (h : SS a = SS b) : a = b := by
  have := congrArg (fun x : Str => x.cps.toList) h
  simpa [SS] using this
theorem SS_beq {a b : List Nat} : (SS a == SS b) = decide (a = b) := by
  rw [Bool.eq_iff_iff, beq_iff_eq, decide_eq_true_iff]
  exact ⟨SS_inj, fun h => by rw [h]⟩
theorem one_beq {a b : Nat} : (one a == one b) = decide (a = b) := by
  rw [Bool.eq_iff_iff, beq_iff_eq, decide_eq_true_iff]
  exact ⟨fun h => by cases h; rfl, fun h => by rw [h]⟩
theorem getD_some {l : List Nat} {k : Nat} (h : k < l.length) : l[k]? = some (l.getD k 0) := by
  rw [List.getElem?_eq_getElem h]
  simp [List.getD, h]
theorem cut_len (a : List Nat) (j : Nat) : (cutP a j).length = a.length - j := by simp [cutP]
theorem lcs_lt {a b : List Nat} (hl : a.length = b.length) (hn : a ≠ b) : lcs a b < a.length := by
  have := lcp_lt a.reverse b.reverse (by simpa using hl) (fun e => hn (List.reverse_inj.mp e))
  simpa [lcs] using this
theorem lcs_same {a b : List Nat} (hl : a.length = b.length) {j : Nat} (hj : j < lcs a b) (hj2 : j < a.length) : a[a.length - 1 - j]? = b[b.length - 1 - j]? := by
  have := lcp_same a.reverse b.reverse j hj
  rwa [List.getElem?_reverse hj2, List.getElem?_reverse (by omega)] at this
theorem lcs_diff {a b : List Nat} (hl : a.length = b.length) (hn : a ≠ b) : a[a.length - 1 - lcs a b]? ≠ b[b.length - 1 - lcs a b]? := by
  have h := lcp_diff a.reverse b.reverse (by simpa using hl) (fun e => hn (List.reverse_inj.mp e))
  have h2 := lcs_lt hl hn
  have h2' : lcp a.reverse b.reverse < a.length := h2
  rwa [List.getElem?_reverse h2', List.getElem?_reverse (by omega)] at h
theorem same_pre {a b : List Nat} (hl : a.length = b.length) (hn : a ≠ b) {i : Nat} (hi : i ≤ lcp a b) : (one (a.getD i 0) == one (b.getD i 0)) = decide (i < lcp a b) := by
  have hp := lcp_lt a b hl hn
  rw [one_beq]
  by_cases q : i < lcp a b
  · have h := lcp_same a b i q
    rw [getD_some (by omega), getD_some (by omega)] at h
    rw [decide_eq_true q, decide_eq_true (Option.some.inj h)]
  · obtain rfl : i = lcp a b := by omega
    have h := lcp_diff a b hl hn
    rw [getD_some (by omega), getD_some (by omega)] at h
    rw [decide_eq_false q, decide_eq_false fun e => h (by rw [e])]
theorem same_post {a b : List Nat} (hl : a.length = b.length) (hn : a ≠ b) {i : Nat} (hi : i ≤ lcs a b) : (one (a.getD (a.length - 1 - i) 0) == one (b.getD (b.length - 1 - i) 0)) = decide (i < lcs a b) := by
  have hp := lcs_lt hl hn
  rw [one_beq]
  by_cases q : i < lcs a b
  · have h := lcs_same hl q (by omega)
    rw [getD_some (by omega), getD_some (by omega)] at h
    rw [decide_eq_true q, decide_eq_true (Option.some.inj h)]
  · obtain rfl : i = lcs a b := by omega
    have h := lcs_diff hl hn
    rw [getD_some (by omega), getD_some (by omega)] at h
    rw [decide_eq_false q, decide_eq_false fun e => h (by rw [e])]
def innStep (a : List Nat) (bc i : Nat) (q : List Int × Int × Int × Int) : List Int × Int × Int × Int :=
  (q.1.set i (if q.2.1 + substP bc (a.getD i 0) < (if q.1.getD i 0 < q.2.2.1 then q.1.getD i 0 else q.2.2.1) + 2 then q.2.1 + substP bc (a.getD i 0) else (if q.1.getD i 0 < q.2.2.1 then q.1.getD i 0 else q.2.2.1) + 2), q.1.getD i 0,
    (if q.2.1 + substP bc (a.getD i 0) < (if q.1.getD i 0 < q.2.2.1 then q.1.getD i 0 else q.2.2.1) + 2 then q.2.1 + substP bc (a.getD i 0) else (if q.1.getD i 0 < q.2.2.1 then q.1.getD i 0 else q.2.2.1) + 2),
    if (if q.2.1 + substP bc (a.getD i 0) < (if q.1.getD i 0 < q.2.2.1 then q.1.getD i 0 else q.2.2.1) + 2 then q.2.1 + substP bc (a.getD i 0) else (if q.1.getD i 0 < q.2.2.1 then q.1.getD i 0 else q.2.2.1) + 2) < q.2.2.2 then (if q.2.1 + substP bc (a.getD i 0) < (if q.1.getD i 0 < q.2.2.1 then q.1.getD i 0 else q.2.2.1) + 2 then q.2.1 + substP bc (a.getD i 0) else (if q.1.getD i 0 < q.2.2.1 then q.1.getD i 0 else q.2.2.1) + 2) else q.2.2.2)
theorem inn_succ (a : List Nat) (bc : Nat) (row : List Int) (base : Int) (i : Nat) : inn a bc row base (i + 1) = innStep a bc i (inn a bc row base i) := rfl
theorem inn_len (a : List Nat) (bc : Nat) (row : List Int) (base : Int) : ∀ i, (inn a bc row base i).1.length = row.length
  | 0 => rfl
  | i + 1 => by
    have := inn_len a bc row base i
    simp only [inn, List.length_set]
    exact this
theorem rows_len (a b : List Nat) : ∀ j, (rows a b j).1.length = a.length
  | 0 => by simp [rows]
  | j + 1 => by
    have := rows_len a b j
    simp only [rows]
    rw [inn_len]
    exact this
theorem map_set {l : List Int} {k : Nat} {r : Int} : (l.map AV.int).set k (.int r) = (l.set k r).map .int := by rw [List.map_set]
theorem row_small : ∀ n, n ≤ 4 → Builtin.Range.small 2 (2 * ((n : Nat) + 1 : Int)) 2 = true ∧ Builtin.Range.rangeSize 2 (2 * ((n : Nat) + 1 : Int)) 2 = (n : Nat) := by decide +kernel
set_option maxHeartbeats 1000000 in
theorem f_lev (T : Tops g) (n : Nat) (a b : List Nat) (m : Int) (hl : a.length = b.length) (h4 : a.length ≤ 4) : FnI g (n + 2) 23 [.str (SS a), .str (SS b), .int m] (.int (levP a b m)) := by
  refine fnI ["a", "b", "max_cost"] T (by decide) rfl (by decide) (fun pm cd doc => bind3 fun s v w x => BindsTo.of_eq rfl) (fun x hx => by simp at hx; rcases hx with rfl | rfl | rfl <;> exact .inl rfl) fun fa L A own pm cd doc s s₁ E ok F => ?_
  refine x_if F (ts_cmp (ev_local rfl) (ev_local rfl) c_seq) (fun hb s₂ F => ?_) fun hb s₂ F => x_nil ?_
  · rw [SS_beq] at hb
    exact x_retQ (fun _ _ x => x) F (ev_int.cast (by unfold levP; rw [if_pos (of_decide_eq_true hb)]))
  rw [SS_beq] at hb
  have hne : a ≠ b := of_decide_eq_false hb
  have hp := lcp_lt a b hl hne
  refine x_assign F ev_int ⟨rfl, .inl rfl⟩ fun s₂ F => ?_
  refine x_while F (lcp a b) (fun i => [("a", .str (SS a)), ("b", .str (SS b)), ("max_cost", .int m), ("pre", .int (i : Nat))]) ⟨rfl, rfl, rfl, rfl, trivial⟩ (fun i hi => ?_) (fun i hi s₃ E' F => ?_) fun s₃ F => ?_
  · have d1 : a.drop i ≠ [] := by intro e; have := congrArg List.length e; simp at this; omega
    have d2 : b.drop i ≠ [] := by intro e; have := congrArg List.length e; simp at this; omega
    refine ts_bool (Cast.tall (tall_and (ts_value (ev_from (ev_local rfl) (ev_local rfl) (by omega) (by omega)) (truthSS (by simp; omega) d1)) fun _ => tall_and (ts_value (ev_from (ev_local rfl) (ev_local rfl) (by omega) (by omega)) (truthSS (by simp; omega) d2)) fun _ =>
      tall_and (ts_cmp (ev_sitemN (ev_local rfl) (ev_local rfl) (by omega) (getD_some (k := i) (by omega))) (ev_sitemN (ev_local rfl) (ev_local rfl) (by omega) (getD_some (k := i) (by omega))) c_seq) fun _ => tall_and_nil) ?_)
    show (true && (true && ((one (a.getD i 0) == one (b.getD i 0)) && true))) = _
    rw [same_pre hl hne hi]; simp
  · refine x_aug F rfl ev_int (.inl ⟨rfl, rfl⟩) fun s₄ F => x_nil ⟨trivial, ?_⟩
    exact F.sub ⟨rfl, rfl, rfl, rfl, trivial⟩
  have hA : (a.drop (lcp a b)).length = (b.drop (lcp a b)).length := by simp; omega
  have hAn : a.drop (lcp a b) ≠ b.drop (lcp a b) := by
    intro e
    have := lcp_diff a b hl hne
    have h1 := congrArg (fun l : List Nat => l[0]?) e
    simp only [List.getElem?_drop, Nat.add_zero] at h1
    exact this h1
  have hA4 : (a.drop (lcp a b)).length ≤ 4 := by simp; omega
  refine x_assign F (ev_from (ev_local rfl) (ev_local rfl) (by omega) (by omega)) ⟨rfl, .inl rfl⟩ fun s₄ F => ?_
  refine x_assign F (ev_from (ev_local rfl) (ev_local rfl) (by omega) (by omega)) ⟨rfl, .inl rfl⟩ fun s₄ F => ?_
  show WP _ _ _ _ (Ret _ (.int (levP a b m)) _) _ _
  have hlev : levP a b m = if m < 0 then m + 1 else coreP (cutP (a.drop (lcp a b)) (lcs (a.drop (lcp a b)) (b.drop (lcp a b)))) (cutP (b.drop (lcp a b)) (lcs (a.drop (lcp a b)) (b.drop (lcp a b)))) m := by
    unfold levP
    rw [if_neg hne]; rfl
  rw [hlev]
  generalize a.drop (lcp a b) = X at *
  generalize b.drop (lcp a b) = Y at *
  have hs := lcs_lt hA hAn
  refine x_assign F ev_int ⟨rfl, .inl rfl⟩ fun s₅ F => ?_
  refine x_while F (lcs X Y) (fun i => [("a", .str (SS X)), ("b", .str (SS Y)), ("max_cost", .int m), ("post", .int (-((i : Nat) : Int)))]) ⟨rfl, rfl, rfl, rfl, trivial⟩ (fun i hi => ?_) (fun i hi s₃ E' F => ?_) fun s₃ F => ?_
  · have d1 : cutP X i ≠ [] := by intro e; have := congrArg List.length e; rw [cut_len] at this; simp at this; omega
    have d2 : cutP Y i ≠ [] := by intro e; have := congrArg List.length e; rw [cut_len] at this; simp at this; omega
    refine ts_bool (Cast.tall (tall_and (ts_value (ev_cut (ev_local rfl) (ev_local rfl) (by omega) (by omega)) (truthSS (by rw [cut_len]; omega) d1)) fun _ => tall_and (ts_value (ev_cut (ev_local rfl) (ev_local rfl) (by omega) (by omega)) (truthSS (by rw [cut_len]; omega) d2)) fun _ =>
      tall_and (ts_cmp (ev_back (ev_local rfl) (ev_local rfl) (by omega) (by omega) (getD_some (by omega))) (ev_back (ev_local rfl) (ev_local rfl) (by omega) (by omega) (getD_some (by omega))) c_seq) fun _ => tall_and_nil) ?_)
    show (true && (true && ((one (X.getD (X.length - 1 - i) 0) == one (Y.getD (Y.length - 1 - i) 0)) && true))) = _
    rw [same_post hA hAn hi]; simp
  · refine x_aug F rfl ev_int (.inr ⟨rfl, rfl⟩) fun s₄ F => x_nil ⟨trivial, ?_⟩
    have e : (-((i : Nat) : Int) - 1) = -((i + 1 : Nat) : Int) := by omega
    rw [e] at F
    exact F.sub ⟨rfl, rfl, rfl, rfl, trivial⟩
  refine x_assign F (ev_cut (ev_local rfl) (ev_local rfl) (by omega) (by omega)) ⟨rfl, .inl rfl⟩ fun s₄ F => ?_
  refine x_assign F (ev_cut (ev_local rfl) (ev_local rfl) (by omega) (by omega)) ⟨rfl, .inl rfl⟩ fun s₄ F => ?_
  have hX : (cutP X (lcs X Y)).length = (cutP Y (lcs X Y)).length := by rw [cut_len, cut_len, hA]
  have hX4 : (cutP X (lcs X Y)).length ≤ 4 := by rw [cut_len]; omega
  have hX0 : 0 < (cutP X (lcs X Y)).length := by rw [cut_len]; omega
  generalize cutP X (lcs X Y) = U at *
  generalize cutP Y (lcs X Y) = V at *
  have hU : U ≠ [] := List.length_pos_iff.mp hX0
  have hV : V ≠ [] := List.length_pos_iff.mp (by omega)
  refine x_if F (ts_bool (tall_or (ts_not (ts_value (ev_local rfl) (truthSS (by omega) hU))) fun _ => tall_or (ts_not (ts_value (ev_local rfl) (truthSS (by omega) hV))) fun _ => tall_or_nil)) (fun hb _ _ => by cases hb) fun _ s₅ F => x_nil ?_
  have lenU : ∀ {c : Fc} {e : Expr} {p pos : Pos}, Ev g c e (.str (SS U)) → FcF c → c.env.kindOf "len" = some .globalImplicit → star1 e = false → Ev g c (.Call (.Name "len" p) [e] [] pos) (.int U.length) := fun h hc hk h1 => Ev.cast (ev_lens T h (by rw [SS_len]; exact sz8 (by omega)) hc hk (starE h1 _ _)) (by rw [SS_len])
  have lenV : ∀ {c : Fc} {e : Expr} {p pos : Pos}, Ev g c e (.str (SS V)) → FcF c → c.env.kindOf "len" = some .globalImplicit → star1 e = false → Ev g c (.Call (.Name "len" p) [e] [] pos) (.int V.length) := fun h hc hk h1 => Ev.cast (ev_lens T h (by rw [SS_len]; exact sz8 (by omega)) hc hk (starE h1 _ _)) (by rw [SS_len])
  refine x_if F (ts_bool (tall_or (b := false) (Ts.cast (ts_cmp (lenU (ev_local rfl) ⟨rfl, rfl, rfl⟩ rfl rfl) (ev_const (i := 40) T) c_gt) (decide_eq_false (by omega))) fun _ => tall_or (b := false) (Ts.cast (ts_cmp (lenV (ev_local rfl) ⟨rfl, rfl, rfl⟩ rfl rfl) (ev_const (i := 40) T) c_gt) (decide_eq_false (by omega))) fun _ => tall_or_nil)) (fun hb _ _ => by cases hb) fun _ s₅ F => x_nil ?_
  refine x_if F (Ts.cast (b := false) (ts_cmp (lenV (ev_local rfl) ⟨rfl, rfl, rfl⟩ rfl rfl) (lenU (ev_local rfl) ⟨rfl, rfl, rfl⟩ rfl rfl) c_lt) (decide_eq_false (by omega))) (fun hb _ _ => by cases hb) fun _ s₅ F => x_nil ?_
  refine x_if F (Ts.cast (b := decide (m < 0)) (ts_cmp (ev_mul (ev_sub (lenV (ev_local rfl) ⟨rfl, rfl, rfl⟩ rfl rfl) (lenU (ev_local rfl) ⟨rfl, rfl, rfl⟩ rfl rfl)) (ev_const (i := 2) T) (IntMulOk.of_right (by decide))) (ev_local rfl) c_gt) (by rw [hX]; congr 1; simp)) (fun hb s₅ F => ?_) fun hb s₅ F => x_nil ?_
  · refine x_retQ (fun _ _ x => x) F (Ev.cast (ev_add (ev_local rfl) ev_int) ?_)
    rw [if_pos (of_decide_eq_true hb)]
  rw [if_neg (of_decide_eq_false hb)]
  refine x_rowRange (n := U.length) T F (ev_const (i := 2) T) (ev_mul (ev_const (i := 2) T) (ev_add (lenU (ev_local rfl) ⟨rfl, rfl, rfl⟩ rfl rfl) ev_int) (IntMulOk.of_left (by decide))) (ev_const (i := 2) T) ok.hd (by decide) (by decide) (row_small _ hX4).1 (row_small _ hX4).2 (by omega) ⟨rfl, .inl rfl⟩ fun r s₆ hr hrn F => ?_
  refine x_assign F ev_int ⟨rfl, .inl rfl⟩ fun s₇ F => ?_
  refine x_for F (src_rngN T (lenV (ev_local rfl) ⟨rfl, rfl, rfl⟩ rfl rfl) ok.hd (by omega)) ⟨rfl, .inl rfl⟩ (fun j => ∀ j', j' < j → ¬ m < minAt U V j') (fun j => [("a", .str (SS U)), ("b", .str (SS V)), ("max_cost", .int m), ("row", .raw (.ref r)), ("result", .int (rows U V j).2)]) (fun j d => if d = r then some ((rows U V j).1.map .int) else own d) (fun i d => ?_) ?_ ⟨rfl, rfl, rfl, rfl, rfl, trivial⟩ (fun j' h => by omega) (fun j av hav hI s₈ xs ps E' F => ?_) fun s₈ hI F => ?_
  · show _ = (if d = r then _ else own d).isSome
    by_cases q : d = r <;> simp [q]
  · funext d
    show _ = if d = r then _ else own d
    by_cases q : d = r <;> simp [q, rows]
  · rw [List.getElem?_map, Option.map_eq_some_iff] at hav
    obtain ⟨j', hj', rfl⟩ := hav
    obtain ⟨hj, rfl⟩ := List.getElem?_eq_some_iff.mp hj'
    rw [List.length_range] at hj
    rw [List.getElem_range] at F
    refine x_assign F (ev_sitemN (ev_local rfl) (ev_local rfl) (by omega) (getD_some (k := j) hj)) ⟨rfl, .inl rfl⟩ fun s₉ F => ?_
    refine x_assign2 F (ev_mul (ev_local rfl) (ev_const (i := 2) T) (IntMulOk.of_right (by decide))) int_imm ⟨rfl, .inl rfl⟩ ⟨rfl, .inl rfl⟩ fun s₉ F => ?_
    refine x_assign F ev_int ⟨rfl, .inl rfl⟩ fun s₉ F => ?_
    have hrl := rows_len U V j
    refine x_for F (src_rngN T (lenU (ev_local rfl) ⟨rfl, rfl, rfl⟩ rfl rfl) ok.hd (by omega)) ⟨rfl, .inl rfl⟩ (fun _ => True) (fun i => [("a", .str (SS U)), ("b", .str (SS V)), ("max_cost", .int m), ("row", .raw (.ref r)), ("bindex", nI j), ("bchar", chS (V.getD j 0)), ("distance", .int (inn U (V.getD j 0) (rows U V j).1 ((j : Int) * 2) i).2.1), ("result", .int (inn U (V.getD j 0) (rows U V j).1 ((j : Int) * 2) i).2.2.1), ("minimum", .int (inn U (V.getD j 0) (rows U V j).1 ((j : Int) * 2) i).2.2.2)])
      (fun i d => if d = r then some ((inn U (V.getD j 0) (rows U V j).1 ((j : Int) * 2) i).1.map .int) else own d) (fun i d => ?_) ?_ ⟨rfl, rfl, rfl, rfl, rfl, rfl, rfl, rfl, rfl, trivial⟩ trivial (fun i av hav _ s₁₀ xs' ps' E'' F => ?_) fun s₁₀ _ F => ?_
    · show _ = (if d = r then _ else own d).isSome
      by_cases q : d = r <;> simp [q]
    · funext d
      show _ = if d = r then _ else own d
      by_cases q : d = r <;> simp [q, inn]
    · rw [List.getElem?_map, Option.map_eq_some_iff] at hav
      obtain ⟨i', hi', rfl⟩ := hav
      obtain ⟨hi, rfl⟩ := List.getElem?_eq_some_iff.mp hi'
      rw [List.length_range] at hi
      rw [List.getElem_range] at F
      have hil := inn_len U (V.getD j 0) (rows U V j).1 ((j : Int) * 2) i
      have e1 := inn_succ U (V.getD j 0) (rows U V j).1 ((j : Int) * 2) i
      generalize inn U (V.getD j 0) (rows U V j).1 ((j : Int) * 2) i = q at *
      obtain ⟨R, D, W, M⟩ := q
      unfold innStep at e1
      dsimp only at hil e1 F ⊢
      refine x_assign F (ev_add (ev_local rfl) (ev_fn T (f_subst T n (V.getD j 0) (U.getD i 0)) ok (evs_cons (ev_local rfl) (evs_cons (ev_sitemN (ev_local rfl) (ev_local rfl) (by omega) (getD_some (k := i) hi)) evs_nil)))) ⟨rfl, .inl rfl⟩ fun s₁₁ F => ?_
      refine x_assign F (ev_item_own (ev_local rfl) (if_pos rfl) (ev_local rfl) (by omega) (by omega) (by rw [Int.toNat_natCast]; exact getD_get (k := i) (by omega))) ⟨rfl, .inl rfl⟩ fun s₁₁ F => ?_
      refine x_assign F (ev_add (ev_min T (ev_local rfl) (ev_local rfl) ok.hd) (ev_const (i := 2) T)) ⟨rfl, .inl rfl⟩ fun s₁₁ F => ?_
      refine x_assign F (ev_min T (ev_local rfl) (ev_local rfl) ok.hd) ⟨rfl, .inl rfl⟩ fun s₁₁ F => ?_
      refine x_setitem F (ev_local rfl) (if_pos rfl) hr (ev_local rfl) (ev_local rfl) (by omega) (by rw [List.length_map]; omega) (by rw [List.length_map]; exact sz8 (by omega)) fun s₁₁ F => ?_
      refine x_if F (ts_cmp (ev_local rfl) (ev_local rfl) c_lt) (fun hb s₁₂ F => ?_) fun hb s₁₂ F => ?_
      · rw [if_pos (of_decide_eq_true hb)] at e1
        refine x_assign F (ev_local rfl) ⟨rfl, .inl rfl⟩ fun s₁₃ F => x_nil (x_nil ⟨trivial, ?_⟩)
        rw [e1]
        refine InF.fin F ⟨rfl, rfl, rfl, rfl, rfl, rfl, rfl, rfl, rfl, trivial⟩ fun d => ?_
        show _ = if d = r then _ else (if d = r then _ else own d)
        by_cases q : d = r
        · simp only [q, if_true]
          rw [map_set, Int.toNat_natCast]
        · simp [q]
      · rw [if_neg (of_decide_eq_false hb)] at e1
        refine x_nil (x_nil ⟨trivial, ?_⟩)
        rw [e1]
        refine InF.fin F ⟨rfl, rfl, rfl, rfl, rfl, rfl, rfl, rfl, rfl, trivial⟩ fun d => ?_
        show _ = if d = r then _ else (if d = r then _ else own d)
        by_cases q : d = r
        · simp only [q, if_true]
          rw [map_set, Int.toNat_natCast]
        · simp [q]
    · rw [List.length_map, List.length_range] at F
      have hh : ∀ d, (own d).isSome = true → (if d = r then some ((inn U (V.getD j 0) (rows U V j).1 ((j : Int) * 2) U.length).1.map AV.int) else own d).isSome = true := fun d hd => by
        by_cases q : d = r <;> simp [q, hd]
      refine x_if F (ts_cmp (ev_local rfl) (ev_local rfl) c_gt) (fun hb s₁₁ F => ?_) fun hb s₁₁ F => x_nil (x_nil ⟨?_, ?_⟩)
      · refine x_retQ (fun _ _ x => x) F (Ev.cast (ev_add (ev_local rfl) ev_int) ?_) hh
        unfold coreP
        rw [if_pos (List.any_eq_true.mpr ⟨j, List.mem_range.mpr hj, hb⟩)]
      · intro j' hj'
        by_cases q : j' < j
        · exact hI j' q
        · obtain rfl : j' = j := by omega
          exact of_decide_eq_false hb
      · exact F.sub ⟨rfl, rfl, rfl, rfl, rfl, trivial⟩
  · rw [List.length_map, List.length_range] at F hI
    have hh : ∀ d, (own d).isSome = true → (if d = r then some ((rows U V V.length).1.map AV.int) else own d).isSome = true := fun d hd => by
      by_cases q : d = r <;> simp [q, hd]
    refine x_ret F (Ev.cast (ev_local rfl) ?_) hh
    unfold coreP
    rw [if_neg]
    rw [Bool.not_eq_true, List.any_eq_false]
    exact fun j hj => by simpa using hI j (List.mem_range.mp hj)
end
end Mine
end
section
open PySem PySem.W PyProof.Rows
set_option Elab.async false
set_option linter.unusedVariables false
set_option maxRecDepth 20000
namespace Mine
section
variable {prog : Program} {w : World} {A : Around} {R : Result → Shared → Prop} {s : Shared}
theorem turn0 (elt t₀ i₀ t₁ i₁ : Expr) (scope : Scope) (pos : Pos) (it acc : Value) (env : Env) :
    compTurn (.ListComp elt [⟨t₀, i₀, [], 0⟩, ⟨t₁, i₁, [], 0⟩] scope pos) 0 it acc env = (do
      standAt i₀.pos
      match ← pyNext it with
      | none => pure (.done .next)
      | some v =>
        letOwnedTupleGo t₀ it v
        assign t₀ env v
        let x ← eval i₁ env
        standAt i₁.pos
        let x ← foldedSetIterable i₁ env x
        let _ ← runOwn (.compStart (.ListComp elt [⟨t₀, i₀, [], 0⟩, ⟨t₁, i₁, [], 0⟩] scope pos) 1 (← holding [x] (pyIter x)) acc env) env
        again (.compLoop (.ListComp elt [⟨t₀, i₀, [], 0⟩, ⟨t₁, i₁, [], 0⟩] scope pos) 0 it acc env)) := rfl
theorem turn1 (elt t₀ i₀ t₁ i₁ : Expr) (scope : Scope) (pos : Pos) (it acc : Value) (env : Env) :
    compTurn (.ListComp elt [⟨t₀, i₀, [], 0⟩, ⟨t₁, i₁, [], 0⟩] scope pos) 1 it acc env = (do
      standAt i₁.pos
      match ← pyNext it with
      | none => pure (.done .next)
      | some v =>
        letOwnedTupleGo t₁ it v
        assign t₁ env v
        (do let _ ← call (.builtin "list.append") [acc, ← eval elt env])
        again (.compLoop (.ListComp elt [⟨t₀, i₀, [], 0⟩, ⟨t₁, i₁, [], 0⟩] scope pos) 1 it acc env)) := rfl
theorem loop0 {elt t₀ i₀ t₁ i₁ : Expr} {scope : Scope} {pos : Pos} {it acc : Value} {env : Env} (I : Nat → Shared → Prop)
    (turn : ∀ n s, I n s → wpAny (model prog w) A (pyNext it) (fun r s₁ => match r with
      | none => R (.ok .next) s₁
      | some v => wpAny (model prog w) A (assign t₀ env v) (fun _ s₂ => wpAny (model prog w) A (eval i₁ env) (fun x s₃ => wpAny (model prog w) A (pyIter x) (fun it' s₄ =>
          ∀ R' : Result → Shared → Prop, (∀ s', (∃ m, m < n ∧ I m s') → R' (.ok .next) s') → codeAny (model prog w) A (.compStart (.ListComp elt [⟨t₀, i₀, [], 0⟩, ⟨t₁, i₁, [], 0⟩] scope pos) 1 it' acc env) R' s₄)
          (notedBy (model prog w) A env fun e s' => R (.error e) s') s₃) (notedBy (model prog w) A env fun e s' => R (.error e) s') s₂) (notedBy (model prog w) A env fun e s' => R (.error e) s') s₁) (notedBy (model prog w) A env fun e s' => R (.error e) s') s)
    (n : Nat) (h : I n s) (ht : ∀ v, letOwnedTupleGo t₀ it v = pure () := by intro _; rfl) (hs : ∀ x, foldedSetIterable i₁ env x = pure x := by intro _; rfl) :
    codeAny (model prog w) A (.compLoop (.ListComp elt [⟨t₀, i₀, [], 0⟩, ⟨t₁, i₁, [], 0⟩] scope pos) 0 it acc env) R s := by
  refine codeAny_loop rfl I (fun n s hI => ?_) n h
  show wpAny _ A ((compTurn (.ListComp elt [⟨t₀, i₀, [], 0⟩, ⟨t₁, i₁, [], 0⟩] scope pos) 0 it acc env).onRaise (fun x => do noteFrame x env; theTreesLotGoes x)) _ _ s
  refine wpAny_noted ?_
  rw [turn0]
  refine wpAny_bind (wpAny_standAt (wpAny_bind (wpAny_mono (turn n s hI) (fun r s₁ h₁ => ?_) fun _ _ h' => h')))
  cases r with
  | none => exact wpAny_pure h₁
  | some v =>
    refine wpAny_bind (wpAny_of_eq (ht v) ?_)
    refine wpAny_bind (wpAny_mono h₁ (fun _ s₂ h₂ => wpAny_bind (wpAny_mono h₂ (fun x s₃ h₃ => ?_) fun _ _ h' => h')) fun _ _ h' => h')
    refine wpAny_bind (wpAny_standAt ?_)
    rw [hs x]
    refine wpAny_bind (wpAny_pure ?_)
    refine wpAny_bind (wpAny_holding (wpAny_mono h₃ (fun it' s₄ h₄ => ?_) fun _ _ h' => h'))
    refine wpAny_bind (wpAny_runOwn (h₄ _ fun s' hs' => ?_))
    exact wpAny_pure ⟨rfl, hs'⟩
theorem loop1 {elt t₀ i₀ t₁ i₁ : Expr} {scope : Scope} {pos : Pos} {it acc : Value} {env : Env} (I : Nat → Shared → Prop)
    (turn : ∀ n s, I n s → wpAny (model prog w) A (pyNext it) (fun r s₁ => match r with
      | none => R (.ok .next) s₁
      | some v => wpAny (model prog w) A (assign t₁ env v) (fun _ s₂ => wpAny (model prog w) A (eval elt env) (fun x s₄ =>
              wpAny (model prog w) A (call (.builtin "list.append") [acc, x]) (fun _ s₅ => ∃ m, m < n ∧ I m s₅) (notedBy (model prog w) A env fun e s' => R (.error e) s') s₄) (notedBy (model prog w) A env fun e s' => R (.error e) s') s₂) (notedBy (model prog w) A env fun e s' => R (.error e) s') s₁) (notedBy (model prog w) A env fun e s' => R (.error e) s') s)
    (n : Nat) (h : I n s) (ht : ∀ v, letOwnedTupleGo t₁ it v = pure () := by intro _; rfl) :
    codeAny (model prog w) A (.compLoop (.ListComp elt [⟨t₀, i₀, [], 0⟩, ⟨t₁, i₁, [], 0⟩] scope pos) 1 it acc env) R s := by
  refine codeAny_loop rfl I (fun n s hI => ?_) n h
  show wpAny _ A ((compTurn (.ListComp elt [⟨t₀, i₀, [], 0⟩, ⟨t₁, i₁, [], 0⟩] scope pos) 1 it acc env).onRaise (fun x => do noteFrame x env; theTreesLotGoes x)) _ _ s
  refine wpAny_noted ?_
  rw [turn1]
  refine wpAny_bind (wpAny_standAt (wpAny_bind (wpAny_mono (turn n s hI) (fun r s₁ h₁ => ?_) fun _ _ h' => h')))
  cases r with
  | none => exact wpAny_pure h₁
  | some v =>
    refine wpAny_bind (wpAny_of_eq (ht v) ?_)
    refine wpAny_bind (wpAny_mono h₁ (fun _ s₂ h₂ => ?_) fun _ _ h' => h')
    exact wpAny_bind (wpAny_bind (wpAny_mono h₂ (fun x s₄ h₄ => wpAny_bind (wpAny_mono h₄ (fun _ s₅ h₅ => wpAny_pure (wpAny_pure ⟨rfl, h₅⟩)) fun _ _ h' => h')) fun _ _ h' => h'))
theorem start1 {elt t₀ i₀ t₁ i₁ : Expr} {scope : Scope} {pos : Pos} {it acc : Value} {env : Env}
    (h0 : codeAny (model prog w) A (.compLoop (.ListComp elt [⟨t₀, i₀, [], 0⟩, ⟨t₁, i₁, [], 0⟩] scope pos) 1 it acc env) R s)
    (h : wpAny (model prog w) A (pyIter it) (fun it' s' => codeAny (model prog w) A (.compLoop (.ListComp elt [⟨t₀, i₀, [], 0⟩, ⟨t₁, i₁, [], 0⟩] scope pos) 1 it' acc env) R s')
      (notedBy (model prog w) A env fun x s' => R (.error x) s') s) :
    codeAny (model prog w) A (.compStart (.ListComp elt [⟨t₀, i₀, [], 0⟩, ⟨t₁, i₁, [], 0⟩] scope pos) 1 it acc env) R s := by
  refine codeAny_of_tree ?_
  show wpAny _ _ ((compStart (.ListComp elt [⟨t₀, i₀, [], 0⟩, ⟨t₁, i₁, [], 0⟩] scope pos) 1 it acc env).onRaise (fun x => do noteFrame x env; standAt theWindowsPlace)) _ _ s
  refine wpAny_notedAt ?_
  unfold compStart
  show wpAny _ _ (ask >>= _) _ _ s
  refine wpAny_bind (wpAny_askSetting (wpAny_ite ?_))
  split
  · first
      | exact wpAny_bind (wpAny_pure (wpAny_pure (And.intro rfl h0)))
      | exact wpAny_pure (And.intro rfl h0)
  · first
      | exact wpAny_bind (wpAny_rule (wpAny_bind (wpAny_standAt (wpAny_bind (wpAny_mono h (fun it' s' h' => wpAny_pure (And.intro rfl h')) fun _ _ x => x)))))
      | exact wpAny_bind (wpAny_rule (wpAny_bind (wpAny_mono h (fun it' s' h' => wpAny_pure (And.intro rfl h')) fun _ _ x => x)))
end
end Mine
end
section
open PySem PySem.W PyProof.Rows
set_option Elab.async false
set_option linter.unusedVariables false
set_option maxRecDepth 20000
namespace Mine
section
variable {g : G} {b : Fc} {sS s₃ s₄ : Shared}
theorem setOwn_twice (b : Fc) (D : Addr) (l l' : List AV) : (b.setOwn D l).setOwn D l' = b.setOwn D l' := by
  unfold Fc.setOwn
  simp only [Fc.mk.injEq, true_and, and_true]
  funext a
  by_cases w : a = D <;> simp [w]
/-- the last clause's loop: it adds to the list at D -/
theorem inner_loop {x x₀ : Str} {px px₀ pos : Pos} {elt i₀ i₁ : Expr} {scope : Scope} {D : Addr} {l₀ items : List AV} {H : AV → AV} {I : Addr} {fp wr : List Addr} {P : Nat → Value → Prop} {St : Nat → Heap → Prop} {xs : List (Value × AV)} {R : Result → Shared → Prop}
    (B : Bind b x) (hD : b.own D = some l₀) (hD₀ : sS.heap.get? D = none) (S : Src1 g b s₃ s₄ items I fp wr P St xs) (h3 : ∀ p ∈ b.pins, s₃.heap.get? p.1 = some p.2) (hk : Kp sS s₃) (hsz : l₀.length + items.length ≤ sizeLine) (hsub : ∀ av, SubL b.ρ ((x, av) :: b.ρ))
    (hbody : ∀ av ∈ items, ∀ (l : List AV) (ps : List (Addr × Obj)) (zs : List (Value × AV)), Ev g { b.setOwn D l with ρ := (x, av) :: b.ρ, pins := ps ++ b.pins, ext := zs ++ b.ext } elt (H av))
    (F : InF g b sS s₄) (h : ∀ s', InF g (b.setOwn D (l₀ ++ items.map H)) sS s' → R (.ok .next) s') :
    codeAny (model Pg g.w) b.A (.compLoop (.ListComp elt [⟨.Name x₀ px₀, i₀, [], 0⟩, ⟨.Name x px, i₁, [], 0⟩] scope pos) 1 (.ref I) (.ref D) b.env) R s₄ := by
  have hh : ∀ (l : List AV) zs, ({ b.setOwn D l with ext := zs } : Fc).hid = b.hid := fun l zs => Fc.setOwn_hid (l' := l) hD
  have hpw : ∀ p ∈ b.pins, p.1 ∉ wr := fun p hp q => by
    have := h3 p hp
    rw [S.wrn _ q] at this; cases this
  have h0 : ∀ a ∈ wr, sS.heap.get? a = none := fun a ha => hk.dead (S.wrn a ha)
  refine loop1 (fun n s' => ∃ i, n = items.length - i + 1 ∧ i ≤ items.length ∧ St i s'.heap ∧ InF g { b.setOwn D (l₀ ++ (items.take i).map H) with ext := xs ++ b.ext } sS s') ?_ (items.length + 1) ⟨0, rfl, Nat.zero_le _, S.st, ?_⟩
  · rintro n s₁ ⟨i, rfl, hi, st₁, F₁⟩
    by_cases q : i < items.length
    · have hav : items[i]? = some items[i] := by simp [q]
      refine next_item (c := { b.setOwn D (l₀ ++ (items.take i).map H) with ext := xs ++ b.ext }) S (fun a ha z => S.fph a ha (by rw [hh] at z; exact z)) rfl hpw (fun p hp => List.mem_append_left _ hp) h0 F₁ st₁ hav fun v s₂ F₂ st₂ hv => ?_
      dsimp only
      refine wpAny_assign_Name (st_bind (c := { b.setOwn D (l₀ ++ (items.take i).map H) with ext := xs ++ b.ext, pins := snap s₂.heap fp ++ b.pins }) B F₂ hv fun s₅ F₅ => ?_)
      refine wpAny_mono ((hbody items[i] (List.getElem_mem q) (l₀ ++ (items.take i).map H) (snap s₂.heap fp) xs).run s₅ _ F₅.ready) (fun v' s₆ ⟨k₆, x₆⟩ => ?_) fun _ _ x => x
      have F₆ := F₅.more k₆
      obtain ⟨its, hp, hvs⟩ := F₆.vis.own D (l₀ ++ (items.take i).map H) (if_pos rfl)
      have hlen := hvs.length
      simp at hlen
      refine wpAny_list_append_plain hp (fun h₇ hp₇ hs₇ => ?_) (by omega)
      have F₇ := own_turn (t := s₆.toks) (l' := l₀ ++ (items.take i).map H ++ [H items[i]]) F₆ (if_pos rfl) hD₀ hp₇ hs₇ (by rw [Array.toList_push]; exact hvs.append (Vals.cons x₆ Vals.nil))
      have F₈ := F₇.sub (hsub items[i])
      refine ⟨items.length - (i + 1) + 1, by omega, i + 1, rfl, q, S.W.frame (i + 1) _ _ st₂ fun a ha o e => (F₈.vis.pin (a, o) (List.mem_append_left _ (mem_snap.mpr ⟨ha, e⟩))).1, ?_⟩
      have e : l₀ ++ (items.take (i + 1)).map H = l₀ ++ (items.take i).map H ++ [H items[i]] := by rw [List.take_add_one, hav, List.map_append, ← List.append_assoc]; rfl
      rw [e]
      refine InF.unpin (c := { b.setOwn D (l₀ ++ (items.take i).map H ++ [H items[i]]) with ext := xs ++ b.ext }) (ps := snap s₂.heap fp) ?_
      have e2 : ∀ a, (if a = D then some (l₀ ++ (items.take i).map H ++ [H items[i]]) else b.own a) = (if a = D then some (l₀ ++ (items.take i).map H ++ [H items[i]]) else (if a = D then some (l₀ ++ (items.take i).map H) else b.own a)) := fun a => by
        by_cases w : a = D <;> simp [w]
      exact InF.ownEq F₈ e2
    · obtain rfl : i = items.length := by omega
      refine next_end (c := { b.setOwn D (l₀ ++ (items.take items.length).map H) with ext := xs ++ b.ext }) S rfl hpw h0 F₁ st₁ fun s₂ F₂ => ?_
      dsimp only
      rw [List.take_length] at F₂
      exact h s₂ (InF.unext (c := b.setOwn D (l₀ ++ items.map H)) (xs := xs) F₂)
  · have F' := F.ext S.xsv
    refine InF.ownEq F' fun a => ?_
    show (if a = D then some (l₀ ++ (items.take 0).map H) else b.own a) = b.own a
    by_cases w : a = D
    · subst w; simp [hD]
    · simp [w]
end
end Mine
end
section
open PySem PySem.W PyProof.Rows
set_option Elab.async false
set_option linter.unusedVariables false
set_option maxRecDepth 20000
namespace Mine
section
variable {g : G} {b : Fc} {sS s₃ s₄ s : Shared}
/-- both loops -/
theorem outer_loop {x x₀ : Str} {px px₀ pos : Pos} {elt i₀ i₁ : Expr} {scope : Scope} {D : Addr} {items : List AV} {inner : AV → List AV} {H : AV → AV → AV} {c₀ : Fc} {I : Addr} {fp wr : List Addr} {P : Nat → Value → Prop} {St : Nat → Heap → Prop} {xs : List (Value × AV)} {R : Result → Shared → Prop}
    (B₀ : Bind b x₀) (B : Bind b x) (hD : b.own D = some []) (hD₀ : sS.heap.get? D = none) (S : Src1 g c₀ s₃ s₄ items I fp wr P St xs) (hA : b.A = c₀.A) (hfp : ∀ a ∈ fp, ¬ b.hid a) (h3 : ∀ p ∈ b.pins, s₃.heap.get? p.1 = some p.2) (hk : Kp sS s₃)
    (hN : (items.flatMap inner).length ≤ sizeLine) (hsub₀ : ∀ av, SubL b.ρ ((x₀, av) :: b.ρ)) (hsub : ∀ av av', SubL ((x₀, av) :: b.ρ) ((x, av') :: (x₀, av) :: b.ρ))
    (hsrc : ∀ av ∈ items, ∀ (l : List AV) (ps : List (Addr × Obj)) (zs : List (Value × AV)), Src g { b.setOwn D l with ρ := (x₀, av) :: b.ρ, pins := ps ++ b.pins, ext := zs ++ b.ext } i₁ (inner av))
    (hbody : ∀ av ∈ items, ∀ av' ∈ inner av, ∀ (l : List AV) (ps : List (Addr × Obj)) (zs : List (Value × AV)), Ev g { b.setOwn D l with ρ := (x, av') :: (x₀, av) :: b.ρ, pins := ps ++ b.pins, ext := zs ++ b.ext } elt (H av av'))
    (F : InF g b sS s) (st : St 0 s.heap) (hxs : ∀ p ∈ xs, Val b.hid s.heap p.2 p.1) (h : ∀ s', InF g (b.setOwn D (items.flatMap fun av => (inner av).map (H av))) sS s' → R (.ok .next) s')
    (hs : ∀ x, foldedSetIterable i₁ b.env x = pure x) :
    codeAny (model Pg g.w) b.A (.compLoop (.ListComp elt [⟨.Name x₀ px₀, i₀, [], 0⟩, ⟨.Name x px, i₁, [], 0⟩] scope pos) 0 (.ref I) (.ref D) b.env) R s := by
  have hh : ∀ (l : List AV) zs, ({ b.setOwn D l with ext := zs } : Fc).hid = b.hid := fun l zs => Fc.setOwn_hid (l' := l) hD
  have hpw : ∀ p ∈ b.pins, p.1 ∉ wr := fun p hp q => by
    have := h3 p hp
    rw [S.wrn _ q] at this; cases this
  have h0 : ∀ a ∈ wr, sS.heap.get? a = none := fun a ha => hk.dead (S.wrn a ha)
  refine loop0 (fun n s' => ∃ i, n = items.length - i + 1 ∧ i ≤ items.length ∧ St i s'.heap ∧ InF g { b.setOwn D ((items.take i).flatMap fun av => (inner av).map (H av)) with ext := xs ++ b.ext } sS s') ?_ (items.length + 1) ⟨0, rfl, Nat.zero_le _, st, ?_⟩ (by intro _; rfl) hs
  · rintro n s₁ ⟨i, rfl, hi, st₁, F₁⟩
    by_cases q : i < items.length
    · have hav : items[i]? = some items[i] := by simp [q]
      have hmem : items[i] ∈ items := List.getElem_mem q
      generalize hl : ((items.take i).flatMap fun av => (inner av).map (H av)) = l₀ at F₁
      refine next_item (c := { b.setOwn D l₀ with ext := xs ++ b.ext }) S (fun a ha z => hfp a ha (by rw [hh] at z; exact z)) hA hpw (fun p hp => List.mem_append_left _ hp) h0 F₁ st₁ hav fun v s₂ F₂ st₂ hv => ?_
      dsimp only
      refine wpAny_assign_Name (st_bind (c := { b.setOwn D l₀ with ext := xs ++ b.ext, pins := snap s₂.heap fp ++ b.pins }) B₀ F₂ hv fun s₅ F₅ => ?_)
      refine hsrc items[i] hmem l₀ (snap s₂.heap fp) xs s₅ _ _ F₅.ready fun I' fp' wr' P' St' xs' s₆ S' => ?_
      intro R' hR'
      have F₆ := F₅.more S'.kp
      have fin : ∀ s', InF g (Fc.setOwn { b.setOwn D l₀ with ρ := (x₀, items[i]) :: b.ρ, pins := snap s₂.heap fp ++ b.pins, ext := xs ++ b.ext } D (l₀ ++ (inner items[i]).map (H items[i]))) sS s' → R' (.ok .next) s' := fun s' F₇ => by
        have F₈ := F₇.sub (hsub₀ items[i])
        refine hR' s' ⟨items.length - (i + 1) + 1, by omega, i + 1, rfl, q, S.W.frame (i + 1) _ _ st₂ fun a ha o e => (F₈.vis.pin (a, o) (List.mem_append_left _ (mem_snap.mpr ⟨ha, e⟩))).1, ?_⟩
        have e : ((items.take (i + 1)).flatMap fun av => (inner av).map (H av)) = l₀ ++ (inner items[i]).map (H items[i]) := by rw [List.take_add_one, hav, List.flatMap_append, hl]; simp
        rw [e]
        refine InF.unpin (c := { b.setOwn D (l₀ ++ (inner items[i]).map (H items[i])) with ext := xs ++ b.ext }) (ps := snap s₂.heap fp) ?_
        have e2 : ∀ a, (if a = D then some (l₀ ++ (inner items[i]).map (H items[i])) else b.own a) = (if a = D then some (l₀ ++ (inner items[i]).map (H items[i])) else (if a = D then some l₀ else b.own a)) := fun a => by
          by_cases w : a = D <;> simp [w]
        exact InF.ownEq F₈ e2
      have hlen : l₀.length + (inner items[i]).length ≤ sizeLine := by
        have e1 : l₀.length = ((items.take i).flatMap inner).length := by
          rw [← hl, List.length_flatMap, List.length_flatMap]
          congr 1
          exact List.map_congr_left fun a _ => by simp
        have e2 : items.flatMap inner = (items.take i).flatMap inner ++ (inner items[i] ++ (items.drop (i + 1)).flatMap inner) := by
          conv => lhs; rw [← List.take_append_drop i items, List.drop_eq_getElem_cons q]
          rw [List.flatMap_append, List.flatMap_cons]
        rw [e2, List.length_append, List.length_append] at hN
        omega
      have loop := inner_loop (g := g) (px := px) (px₀ := px₀) (pos := pos) (i₀ := i₀) (i₁ := i₁) (x₀ := x₀) (scope := scope) (elt := elt) (R := R') (H := H items[i]) (b := { b.setOwn D l₀ with ρ := (x₀, items[i]) :: b.ρ, pins := snap s₂.heap fp ++ b.pins, ext := xs ++ b.ext }) (D := D) (l₀ := l₀) (x := x) B (if_pos rfl) hD₀ S' (fun p hp => (F₅.vis.pin p hp).1) F₅.kp hlen (hsub items[i])
        (fun av' hav' l ps zs => by
          have := hbody items[i] hmem av' hav' l (ps ++ snap s₂.heap fp) (zs ++ xs)
          have e : ({ Fc.setOwn { b.setOwn D l₀ with ρ := (x₀, items[i]) :: b.ρ, pins := snap s₂.heap fp ++ b.pins, ext := xs ++ b.ext } D l with ρ := (x, av') :: (x₀, items[i]) :: b.ρ, pins := ps ++ (snap s₂.heap fp ++ b.pins), ext := zs ++ (xs ++ b.ext) } : Fc) = { b.setOwn D l with ρ := (x, av') :: (x₀, items[i]) :: b.ρ, pins := (ps ++ snap s₂.heap fp) ++ b.pins, ext := (zs ++ xs) ++ b.ext } := by
            unfold Fc.setOwn
            simp only [Fc.mk.injEq, true_and, and_true, List.append_assoc]
            funext a
            by_cases w : a = D <;> simp [w]
          rw [← e] at this
          exact this) F₆ fin
      exact start1 loop (S'.W.self 0 _ _ _ S'.st loop)
    · obtain rfl : i = items.length := by omega
      refine next_end (c := { b.setOwn D ((items.take items.length).flatMap fun av => (inner av).map (H av)) with ext := xs ++ b.ext }) S hA hpw h0 F₁ st₁ fun s₂ F₂ => ?_
      dsimp only
      rw [List.take_length] at F₂
      exact h s₂ (InF.unext (c := b.setOwn D (items.flatMap fun av => (inner av).map (H av))) (xs := xs) F₂)
  · have F' := F.ext hxs
    refine InF.ownEq F' fun a => ?_
    show (if a = D then some ((items.take 0).flatMap fun av => (inner av).map (H av)) else b.own a) = b.own a
    by_cases w : a = D
    · subst w; simp [hD]
    · simp [w]
end
end Mine
end
section
open PySem PySem.W PyProof.Rows
set_option Elab.async false
set_option linter.unusedVariables false
set_option maxRecDepth 20000
namespace Mine
section
variable {g : G} {c : Fc} {s₀ s s' : Shared}
/-- a comprehension with two clauses, up to the end of its loop -/
theorem comp2_at {x x₀ : Str} {px px₀ pos cpos : Pos} {elt i₀ i₁ : Expr} {scope : Scope} {items : List AV} {inner : AV → List AV} {H : AV → AV → AV} {use : Option (Value → Sem Unit)} {Q E : Value → Shared → Prop}
    (ok : CompOk c scope) (hx₀ : scope.names.lookup x₀ = some .local ∨ scope.names.lookup x₀ = some .cell) (hx : scope.names.lookup x = some .local ∨ scope.names.lookup x = some .cell) (hS : Src g c i₀ items) (hsz : (items.flatMap inner).length ≤ sizeLine) (R : Ready g c s)
    (hsub₀ : ∀ av, SubL (frees c scope) ((x₀, av) :: frees c scope)) (hsub : ∀ av av', SubL ((x₀, av) :: frees c scope) ((x, av') :: (x₀, av) :: frees c scope))
    (hsrc : ∀ av ∈ items, ∀ (C D : Addr) (l : List AV) (ps : List (Addr × Obj)) (zs : List (Value × AV)), Src g (compF c scope C D l ((x₀, av) :: frees c scope) ps zs) i₁ (inner av))
    (hbody : ∀ av ∈ items, ∀ av' ∈ inner av, ∀ (C D : Addr) (l : List AV) (ps : List (Addr × Obj)) (zs : List (Value × AV)), Ev g (compF c scope C D l ((x, av') :: (x₀, av) :: frees c scope) ps zs) elt (H av av'))
    (h : ∀ D C s', s.heap.get? D = none → InF g (compF c scope C D (items.flatMap fun av => (inner av).map (H av)) (frees c scope) c.pins c.ext) s s' → compPost (model Pg g.w) c.A E use Q (.ref D) C (.ok .next) s')
    (hs : ∀ x, foldedSetIterable i₀ c.env x = pure x := by intro _; rfl) (hs₁ : ∀ C x, foldedSetIterable i₁ (compE c scope C) x = pure x := by intro _ _; rfl) :
    wpAny (model Pg g.w) c.A (comprehension (.ListComp elt [⟨.Name x₀ px₀, i₀, [], 0⟩, ⟨.Name x px, i₁, [], 0⟩] scope pos) scope c.env cpos (newList []) false (eval i₀ c.env) use) Q E s := by
  refine wpAny_comprehension_free (use := use) (g := ⟨.Name x₀ px₀, i₀, [], 0⟩) (gs := [⟨.Name x px, i₁, [], 0⟩]) rfl hs (closureFor_eq fun p hp q => (ok.fr p hp q).1) ok.kind (fun y hy hl => lookup_of_nodup ok.nd (by rw [← hl]; exact hy)) (hS s _ E R fun I fp wr P St xs s₂ S => ?_)
  refine wpAny_newObj_type (new_comp_env ?_)
  have hD : s₂.heap.get? s₂.heap.objs.size = none := get_none_of_ge (Nat.le_refl _)
  have F := comp_begin (s₂ := s₂) ok R S.kp
  have keep₂ : ∀ b o, s₂.heap.get? b = some o → (pushCells ((s₂.heap.push { cls := .type "list", data := .seq #[] }).push { cls := .type "dict", data := .dict #[] }) scope.names).get? b = some o :=
    fun b o e => pushCells_keeps _ _ b o (Heap.get?_push_of_some _ (Heap.get?_push_of_some _ e))
  have st : St 0 (pushCells ((s₂.heap.push { cls := .type "list", data := .seq #[] }).push { cls := .type "dict", data := .dict #[] }) scope.names) := S.W.frame 0 _ _ S.st fun b _ o e => keep₂ b o e
  have hxsv : ∀ p ∈ xs, Val (compF c scope (s₂.heap.objs.size + 1) s₂.heap.objs.size [] (frees c scope) c.pins c.ext).hid (pushCells ((s₂.heap.push { cls := .type "list", data := .seq #[] }).push { cls := .type "dict", data := .dict #[] }) scope.names) p.2 p.1 := fun p hp =>
    (S.xsv p hp).imp (fun a its ⟨n, e⟩ q => by
      unfold Fc.hid compF at q
      dsimp only at q
      split at q
      · rename_i w; subst w; rw [hD] at e; cases e
      · exact q) fun a its _ z => z.at fun o e => keep₂ a o e
  have loop : codeAny (model Pg g.w) c.A (.compLoop (.ListComp elt [⟨.Name x₀ px₀, i₀, [], 0⟩, ⟨.Name x px, i₁, [], 0⟩] scope pos) 0 (.ref I) (.ref s₂.heap.objs.size) (compE c scope (s₂.heap.objs.size + 1)))
      (compPost (model Pg g.w) c.A E use Q (.ref s₂.heap.objs.size) (s₂.heap.objs.size + 1)) { s₂ with heap := pushCells ((s₂.heap.push { cls := .type "list", data := .seq #[] }).push { cls := .type "dict", data := .dict #[] }) scope.names } :=
    by
      have hhid : ∀ a, (compF c scope (s₂.heap.objs.size + 1) s₂.heap.objs.size [] (frees c scope) c.pins c.ext).hid a → a = s₂.heap.objs.size ∨ c.hid a := fun a z => by
        unfold Fc.hid compF at z
        dsimp only at z
        split at z
        · exact .inl ‹_›
        · exact .inr z
      have eqF : ∀ (l : List AV) (ρ : List (Str × AV)) ps zs, ({ (compF c scope (s₂.heap.objs.size + 1) s₂.heap.objs.size [] (frees c scope) c.pins c.ext).setOwn s₂.heap.objs.size l with ρ := ρ, pins := ps ++ c.pins, ext := zs ++ c.ext } : Fc) = compF c scope (s₂.heap.objs.size + 1) s₂.heap.objs.size l ρ (ps ++ c.pins) (zs ++ c.ext) := fun l ρ ps zs => by
        unfold Fc.setOwn compF
        simp only [Fc.mk.injEq, true_and, and_true]
        funext a
        by_cases w : a = s₂.heap.objs.size <;> simp [w]
      refine outer_loop (b := compF c scope (s₂.heap.objs.size + 1) s₂.heap.objs.size [] (frees c scope) c.pins c.ext) (inner := inner) (H := H) (compBind ok hx₀) (compBind ok hx) (if_pos rfl) (S.kp.dead hD) S rfl (fun a ha z => ?_) (fun p hp => (R.vis.pin p hp).1) (Kp.refl s) hsz hsub₀ hsub (fun av hav l ps zs => ?_) (fun av hav av' hav' l ps zs => ?_) F st hxsv (fun s' F' => h _ _ s' (S.kp.dead hD) ?_) (hs₁ _)
      · rcases hhid a z with w | w
        · obtain ⟨o, ho, _⟩ := S.fpp 0 _ S.st a ha
          rw [w, hD] at ho; cases ho
        · exact S.fph a ha w
      · have := hsrc av hav (s₂.heap.objs.size + 1) s₂.heap.objs.size l (ps ++ c.pins) (zs ++ c.ext)
        rw [← eqF] at this
        exact this
      · have := hbody av hav av' hav' (s₂.heap.objs.size + 1) s₂.heap.objs.size l (ps ++ c.pins) (zs ++ c.ext)
        rw [← eqF] at this
        exact this
      · have e := eqF (items.flatMap fun av => (inner av).map (H av)) (frees c scope) [] []
        simp only [List.nil_append] at e
        rw [← e]
        exact F'
  have e : (s₂.heap.push { cls := .type "list", data := .seq #[] }).objs.size = s₂.heap.objs.size + 1 := Heap.size_push ..
  have := codeAny_compStart_list (rest := [⟨.Name x px, i₁, [], 0⟩]) loop (S.W.self 0 _ _ _ st loop)
  unfold compE at this
  have e' : (s₂.heap.push { cls := .type "list", dict := none, data := .seq ([] : List Value).toArray }).objs.size = s₂.heap.objs.size + 1 := Heap.size_push ..
  dsimp only
  rw [e']
  exact this

/-- a name bound to a comprehension's list, the stores exchanged -/
theorem ex_comp2 {x x₀ y : Str} {px px₀ py pos spos : Pos} {elt i₀ i₁ : Expr} {scope : Scope} {items : List AV} {Q : Flow → Shared → Prop} {E : Value → Shared → Prop} (inner : AV → List AV) (H : AV → AV → AV) (ok : CompOk c scope)
    (hx₀ : scope.names.lookup x₀ = some .local ∨ scope.names.lookup x₀ = some .cell) (hx : scope.names.lookup x = some .local ∨ scope.names.lookup x = some .cell) (hS : Src g c i₀ items) (hsz : (items.flatMap inner).length ≤ sizeLine)
    (hsub₀ : ∀ av, SubL (frees c scope) ((x₀, av) :: frees c scope)) (hsub : ∀ av av', SubL ((x₀, av) :: frees c scope) ((x, av') :: (x₀, av) :: frees c scope))
    (hsrc : ∀ av ∈ items, ∀ (C D : Addr) (l : List AV) (ps : List (Addr × Obj)) (zs : List (Value × AV)), Src g (compF c scope C D l ((x₀, av) :: frees c scope) ps zs) i₁ (inner av))
    (hbody : ∀ av ∈ items, ∀ av' ∈ inner av, ∀ (C D : Addr) (l : List AV) (ps : List (Addr × Obj)) (zs : List (Value × AV)), Ev g (compF c scope C D l ((x, av') :: (x₀, av) :: frees c scope) ps zs) elt (H av av'))
    (F : InF g c s₀ s) (h : ∀ s', InF g (c.set y (.list (items.flatMap fun av => (inner av).map (H av)))) s₀ s' → Q .next s')
    (hsw : swapsWith (.ListComp elt [⟨.Name x₀ px₀, i₀, [], 0⟩, ⟨.Name x px, i₁, [], 0⟩] scope pos) (some (.Name y py)) spos.line c.env = pure true := by rfl) (hy : c.env.kindOf y = some .local := by rfl) (hk : c.env.scope.kind = .function := by rfl)
    (hs : ∀ x, foldedSetIterable i₀ c.env x = pure x := by intro _; rfl) (hs₁ : ∀ C x, foldedSetIterable i₁ (compE c scope C) x = pure x := by intro _ _; rfl) :
    wpAny (model Pg g.w) c.A (exec (.Assign [.Name y py] (.ListComp elt [⟨.Name x₀ px₀, i₀, [], 0⟩, ⟨.Name x px, i₁, [], 0⟩] scope pos) spos) c.env) Q E s := by
  rw [exec_Assign_Name_used _ _ _ _ hsw]
  refine wpAny_bind (wpAny_standAt (wpAny_bind ?_))
  show wpAny _ c.A (do let _ ← comprehension (.ListComp elt [⟨.Name x₀ px₀, i₀, [], 0⟩, ⟨.Name x px, i₁, [], 0⟩] scope pos) scope c.env _ (newList []) false (eval i₀ c.env) (some (assign (.Name y py) c.env))) _ _ s
  refine wpAny_bind (wpAny_mono (comp2_at (Q := fun _ s' => Q .next s') (use := some (assign (.Name y py) c.env)) ok hx₀ hx hS hsz F.ready hsub₀ hsub hsrc hbody (fun D C s' hD FC => ?_) hs hs₁) (fun _ s' hq => wpAny_pure (wpAny_pure hq)) fun _ _ e => e)
  show wpAny _ c.A (assign (.Name y py) c.env (.ref D)) _ _ _
  have F' := F.more FC.kp
  obtain ⟨m, hn, _⟩ := FC.vis.loc
  obtain ⟨its, hp, hv⟩ := FC.vis.own D (items.flatMap fun av => (inner av).map (H av)) (if_pos rfl)
  have hval : Val c.hid s'.heap (.list (items.flatMap fun av => (inner av).map (H av))) (.ref D) := vlist (F.vis.fresh hD) hp (hv.weak fun a q => by
    unfold Fc.hid compF
    dsimp only
    split
    · rfl
    · exact q)
  have hCs : s.heap.get? C = none := FC.nL
  have hLC : c.env.locals ≠ C := fun e => by
    obtain ⟨_, ⟨o, _, _, ho, _⟩, _⟩ := F.vis.loc
    have ho' : s.heap.get? c.env.locals = some o := ho
    rw [e, hCs] at ho'; cases ho'
  refine wpAny_assign_Name (st_local F' hval (fun s'' F'' hsb => ?_) hy hk)
  have hn'' : s''.heap.Ns C m := Heap.Ns.sameBut hn hsb (Ne.symm hLC)
  refine ⟨m, hn'', fun h' hs' => ?_⟩
  obtain ⟨oC, es, ep, hoC, hdC, _⟩ := hn''
  have kb : ∀ b o, b ≠ C → s''.heap.get? b = some o → h'.get? b = some o := fun b o q e => (hs'.2 b q).trans e
  refine h _ (F''.turn (t := s''.toks) (fun b o e => kb b o ?_ (F''.keep b o e)) (F''.vis.butD hs' (fun o e => ?_) hLC))
  · rintro rfl
    rw [dead₀ F hCs] at e; cases e
  · rw [hoC] at e; cases e
    exact ⟨es, ep, hdC⟩
end
end Mine
end
section
open PySem PySem.W PyProof.Rows
set_option Elab.async false
set_option linter.unusedVariables false
set_option maxRecDepth 20000
namespace Mine
section
variable {g : G} {c : Fc} {s₀ s : Shared}
theorem Vals.take {hid : Addr → Prop} {h : Heap} : ∀ {l : List AV} {vs : List Value}, Vals hid h l vs → ∀ k, Vals hid h (l.take k) (vs.take k)
  | [], _, x, k => by obtain rfl := x.nil'; simpa using x
  | y :: l, _, x, k => by
    obtain ⟨v, r, rfl, h1, h2⟩ := x.cons'
    cases k with
    | zero => exact Vals.nil
    | succ k => exact Vals.cons h1 (Vals.take h2 k)
theorem Vals.drop {hid : Addr → Prop} {h : Heap} : ∀ {l : List AV} {vs : List Value}, Vals hid h l vs → ∀ k, Vals hid h (l.drop k) (vs.drop k)
  | [], _, x, k => by obtain rfl := x.nil'; simpa using x
  | y :: l, _, x, k => by
    obtain ⟨v, r, rfl, h1, h2⟩ := x.cons'
    cases k with
    | zero => exact Vals.cons h1 h2
    | succ k => exact Vals.drop h2 k
theorem pick_to (items : Array Value) (k : Nat) (hk : k ≤ items.size) : (slicePick items none (some (k : Int)) none).toList = items.toList.take k := by
  have e : sliceBounds none (some (k : Int)) none items.size = (((0 : Nat) : Int), (k : Int), 1) := by
    simp only [sliceBounds, Option.getD_none]
    have h2 : ¬ ((k : Int) < 0) := by omega
    simp only [h2, if_false, show (1 : Int) > 0 by decide, if_true]
    have : max 0 (min (k : Int) items.size) = k := by omega
    rw [this]; rfl
  unfold slicePick
  rw [e, sliceRange_one, pick_run]
  simp
theorem pick_from (items : Array Value) (k : Nat) (hk : k ≤ items.size) : (slicePick items (some (k : Int)) none none).toList = items.toList.drop k := by
  have e : sliceBounds (some (k : Int)) none none items.size = ((k : Int), ((items.size : Nat) : Int), 1) := by
    simp only [sliceBounds, Option.getD_none]
    have h2 : ¬ ((k : Int) < 0) := by omega
    simp only [h2, if_false, show (1 : Int) > 0 by decide, if_true]
    have : max 0 (min (k : Int) items.size) = k := by omega
    rw [this]
  unfold slicePick
  rw [e, sliceRange_one, pick_run]
  simp only [List.toList_toArray]
  exact List.take_of_length_le (by simp)
def ordersP : Nat → List (List Nat)
  | 0 => [[]]
  | l + 1 => (ordersP l).flatMap fun o => (List.range (l + 1)).map fun k => o.take k ++ [l] ++ o.drop k
abbrev oL (o : List Nat) : AV := .list (o.map nI)
def ins (l : Nat) (av av' : AV) : AV := match av, av' with
  | .list o, .int k => .list (o.take k.toNat ++ [nI l] ++ o.drop k.toNat)
  | _, _ => .none
theorem orders_len : ∀ l, ∀ o ∈ ordersP l, o.length = l
  | 0, o, h => by simp [ordersP] at h; subst h; rfl
  | l + 1, o, h => by
    simp only [ordersP, List.mem_flatMap, List.mem_map, List.mem_range] at h
    obtain ⟨o', ho', k, hk, rfl⟩ := h
    have := orders_len l o' ho'
    simp; omega
theorem ev_to {e k : Expr} {l : List AV} {j : Nat} {p p' : Pos} (h : Ev g c e (.list l)) (hk : Ev g c k (.int j)) (hj : j ≤ l.length) (hl : l.length ≤ 64) (ht : ∀ o r, letTemporaryGo e o r = pure () := by intro _ _; rfl) : Ev g c (.Subscript e (.Slice none (some k) none p) p') (.list (l.take j)) :=
  ev_lslice h evp_none (evp_some hk) (sz8 hl) (fun hid hp items hv => by
    have := hv.length
    simp at this
    rw [pick_to items j (by omega)]
    exact hv.take j) ht
theorem ev_fromL {e k : Expr} {l : List AV} {j : Nat} {p p' : Pos} (h : Ev g c e (.list l)) (hk : Ev g c k (.int j)) (hj : j ≤ l.length) (hl : l.length ≤ 64) (ht : ∀ o r, letTemporaryGo e o r = pure () := by intro _ _; rfl) : Ev g c (.Subscript e (.Slice (some k) none none p) p') (.list (l.drop j)) :=
  ev_lslice h (evp_some hk) evp_none (sz8 hl) (fun hid hp items hv => by
    have := hv.length
    simp at this
    rw [pick_from items j (by omega)]
    exact hv.drop j) ht
theorem x_comp2 {A : Around} {env : Env} {x x₀ y : Str} {px px₀ py pos spos : Pos} {elt i₀ i₁ : Expr} {scope : Scope} {items : List AV} {rest : List Stmt} {Q : Flow → Shared → Prop} {E : Value → Shared → Prop} (F : InF g c s₀ s) (inner : AV → List AV) (H : AV → AV → AV) (ok : CompOk c scope)
    (hx₀ : scope.names.lookup x₀ = some .local ∨ scope.names.lookup x₀ = some .cell) (hx : scope.names.lookup x = some .local ∨ scope.names.lookup x = some .cell) (hS : Src g c i₀ items) (hsz : (items.flatMap inner).length ≤ sizeLine)
    (hsub₀ : ∀ av, SubL (frees c scope) ((x₀, av) :: frees c scope)) (hsub : ∀ av av', SubL ((x₀, av) :: frees c scope) ((x, av') :: (x₀, av) :: frees c scope))
    (hsrc : ∀ av ∈ items, ∀ (C D : Addr) (l : List AV) (ps : List (Addr × Obj)) (zs : List (Value × AV)), Src g (compF c scope C D l ((x₀, av) :: frees c scope) ps zs) i₁ (inner av))
    (hbody : ∀ av ∈ items, ∀ av' ∈ inner av, ∀ (C D : Addr) (l : List AV) (ps : List (Addr × Obj)) (zs : List (Value × AV)), Ev g (compF c scope C D l ((x, av') :: (x₀, av) :: frees c scope) ps zs) elt (H av av'))
    (h : ∀ s', InF g (c.set y (.list (items.flatMap fun av => (inner av).map (H av)))) s₀ s' → WP g c.A c.env rest Q E s')
    (hsw : swapsWith (.ListComp elt [⟨.Name x₀ px₀, i₀, [], 0⟩, ⟨.Name x px, i₁, [], 0⟩] scope pos) (some (.Name y py)) spos.line c.env = pure true := by rfl) (hy : c.env.kindOf y = some .local := by rfl) (hk : c.env.scope.kind = .function := by rfl)
    (hs : ∀ x, foldedSetIterable i₀ c.env x = pure x := by intro _; rfl) (hs₁ : ∀ C x, foldedSetIterable i₁ (compE c scope C) x = pure x := by intro _ _; rfl) (hA : c.A = A := by rfl) (hE : c.env = env := by rfl) :
    WP g A env (.Assign [.Name y py] (.ListComp elt [⟨.Name x₀ px₀, i₀, [], 0⟩, ⟨.Name x px, i₁, [], 0⟩] scope pos) spos :: rest) Q E s := by
  subst hA; subst hE
  exact x_cons (ex_comp2 inner H ok hx₀ hx hS hsz hsub₀ hsub hsrc hbody F (fun s' F' => h s' F') hsw hy hk hs hs₁)
theorem f_orders (T : Tops g) (n : Nat) (size : Nat) (hz : size ≤ 4) : FnI g (n + 1) 31 [.int size] (.list ((ordersP size).map oL)) := by
  refine fnI ["size"] T (by decide) rfl (by decide) (fun pm cd doc => bind1 fun s v => BindsTo.of_eq rfl) (fun x hx => by simp at hx; subst hx; exact .inl rfl) fun a L A own pm cd doc s s₁ E ok F => ?_
  refine x_assign F (ev_list1 ev_list0) ⟨rfl, .inl rfl⟩ fun s₂ F => ?_
  refine x_for F (src_rngN T (ev_local rfl) ok.hd (by omega)) ⟨rfl, .inr ⟨rfl, rfl, rfl⟩⟩ (fun _ => True) (fun i => [("size", .int size), ("orders", .list ((ordersP i).map oL))]) (fun _ => own) (fun _ _ => rfl) rfl ⟨rfl, rfl, trivial⟩ trivial (fun i av hav _ s₃ xs ps E' F => ?_) fun s' _ F => ?_
  · rw [List.getElem?_map, Option.map_eq_some_iff] at hav
    obtain ⟨i', hi', rfl⟩ := hav
    obtain ⟨hi, rfl⟩ := List.getElem?_eq_some_iff.mp hi'
    rw [List.length_range] at hi
    rw [List.getElem_range] at F
    refine x_comp2 F (fun _ => (List.range (i + 1)).map nI) (ins i) (CompOk.of rfl (by decide)) (.inl rfl) (.inl rfl) (src_list (ev_local rfl) ok.hd) ?_ (fun av => ⟨rfl, trivial⟩) (fun av av' => ⟨rfl, rfl, trivial⟩) (fun av hav C D l ps zs => ?_) (fun av hav av' hav' C D l ps zs => ?_) fun s' F => ?_
    · have : i = 0 ∨ i = 1 ∨ i = 2 ∨ i = 3 := by omega
      rcases this with rfl | rfl | rfl | rfl <;> exact sz8 (by decide)
    · exact src_rngN (n := i + 1) T (Ev.cast (ev_add (ev_cell rfl) ev_int) (by rw [Int.natCast_add]; rfl)) ok.hd (by omega)
    · obtain ⟨o, ho, rfl⟩ := List.mem_map.mp hav
      obtain ⟨k, hk, rfl⟩ := List.mem_map.mp hav'
      have hk' := List.mem_range.mp hk
      have hol := orders_len i o ho
      refine Ev.cast (ev_addl (ev_addl (ev_to (ev_local rfl) (ev_local rfl) (by rw [List.length_map]; omega) (by rw [List.length_map]; omega)) (ev_list1 (ev_cell rfl)) (sz8 (by simp; omega))) (ev_fromL (ev_local rfl) (ev_local rfl) (by rw [List.length_map]; omega) (by rw [List.length_map]; omega)) (sz8 (by simp; omega))) ?_
      simp [ins]
    · refine x_nil ⟨trivial, ?_⟩
      have e : (((ordersP i).map oL).flatMap fun av => ((List.range (i + 1)).map nI).map (ins i av)) = (ordersP (i + 1)).map oL := by
        rw [ordersP, List.flatMap_map, List.map_flatMap]
        congr 1
        funext o
        rw [List.map_map, List.map_map]
        refine List.map_congr_left fun k _ => ?_
        simp [ins, oL]
      rw [e] at F
      exact F.sub ⟨rfl, rfl, trivial⟩
  · rw [List.length_map, List.length_range] at F
    exact x_ret F (ev_local rfl)
end
end Mine
end
section
open PySem PySem.W PyProof.Rows
set_option Elab.async false
set_option linter.unusedVariables false
set_option maxRecDepth 20000
namespace Mine
theorem binds_kw {s : Shared} {fd : FuncData} {args : Args} {binds : List (Str × Value)} {T kD : Addr} {items : Array Value} {m : Str → Option Value} {name : Str} {v : Value}
    {k : Option (Array Value) → Sem (List (Str × Value))} {k2 : Option Value → Sem (List (Str × Value))} (hd : fd.defaults = .ref T) (ht : s.heap.IsTuple T items)
    (h₁ : bindArgs fd args = seqItems? fd.defaults >>= k) (h₂ : k (some items) = nsGet kD name >>= k2) (hn : s.heap.Ns kD m) (hm : m name = some v) (h₃ : k2 (some v) = pure binds) : BindsTo s fd args binds :=
  fun _ _ _ _ hq => by
    obtain ⟨o, ho, _, n, hs⟩ := ht
    rw [h₁, hd]
    refine wpAny_bind (wpAny_seqItems ho hs ?_)
    rw [h₂]
    refine wpAny_bind (wpAny_nsGet hn ?_)
    rw [hm, h₃]
    exact wpAny_pure hq
/-- the ground, as far as the heap has come -/
def G.up (g : G) (h : Heap) : G := { g with h₀ := h }
theorem Tops.up {g : G} (T : Tops g) {h : Heap} (on : g.On h) : Tops (g.up h) where
  ok := ⟨T.ok.gl.keeps on, T.ok.bl.keeps on, T.ok.nl.keeps on⟩
  bi := T.bi
  fn := fun i hi => by
    obtain ⟨a, pm, cd, doc, hm, D⟩ := T.fn i hi
    exact ⟨a, pm, cd, doc, hm, ⟨let ⟨o, h1, h2⟩ := D.ho; ⟨o, on _ _ h1, h2⟩, D.cd.keeps on, D.body, D.clo, D.co, D.gen, D.kind⟩⟩
  set := fun p hp => by
    obtain ⟨a, n, hm, hS⟩ := T.set p hp
    exact ⟨a, n, hm, setKeep hS on⟩
  dic := by
    obtain ⟨d, f, hm, hd, hM, hf⟩ := T.dic
    exact ⟨d, f, hm, hd, mapKeep hM on, hf⟩
  con := T.con
  bis := fun i hi => by
    obtain ⟨a, pm, cd, doc, dT, t, kD, m, hm, D, ⟨o, ho, hr⟩, hN, hk⟩ := T.bis i hi
    exact ⟨a, pm, cd, doc, dT, t, kD, m, hm, ⟨let ⟨o, h1, h2⟩ := D.ho; ⟨o, on _ _ h1, h2⟩, D.cd.keeps on, D.body, D.clo, D.co, D.gen, D.kind⟩, ⟨o, on _ _ ho, hr⟩, hN.keeps on, hk⟩
theorem InF.up {g : G} {c : Fc} {s₀ s : Shared} (F : InF g c s₀ s) : InF (g.up s₀.heap) c s₀ s := ⟨F.same, F.keep, fun _ _ e => e, F.vis, F.nL, F.nC, F.apart⟩
theorem WP.down {g : G} {h : Heap} {A : Around} {env : Env} {l : List Stmt} {Q : Flow → Shared → Prop} {E : Value → Shared → Prop} {s : Shared} (x : WP (g.up h) A env l Q E s) : WP g A env l Q E s := ⟨x.run⟩
end Mine
end
section
open PySem PySem.W PyProof.Rows
set_option Elab.async false
set_option linter.unusedVariables false
set_option maxRecDepth 20000
namespace Mine
section
variable {g : G} {c : Fc} {s₀ s : Shared}
/-- a while loop by an invariant over states -/
theorem x_whileI {A : Around} {env : Env} {σ : Type} {pos : Pos} {t : Expr} {body rest : List Stmt} {Q : Flow → Shared → Prop} {E : Value → Shared → Prop} (F : InF g c s₀ s) (Inv : σ → Prop) (μ : σ → Nat) (ρs : σ → List (Str × AV)) (cond : σ → Bool) (z : σ) (hz : Inv z) (hρ0 : SubL (ρs z) c.ρ)
    (ht : ∀ z, Inv z → Ts g { c with ρ := ρs z } t (cond z))
    (hbody : ∀ z, Inv z → cond z = true → ∀ (s₁ : Shared) (E' : Value → Shared → Prop), InF g { c with ρ := ρs z } s₀ s₁ → ∃ z', Inv z' ∧ μ z' < μ z ∧ WP g c.A c.env body (Go g { c with ρ := ρs z' } s₀ True Q) E' s₁)
    (h : ∀ z s', Inv z → cond z = false → InF g { c with ρ := ρs z } s₀ s' → WP g c.A c.env rest Q E s') (hA : c.A = A := by rfl) (hE : c.env = env := by rfl) :
    WP g A env (.While t body [] pos :: rest) Q E s := by
  subst hA; subst hE
  refine x_cons (wpAny_While ?_)
  refine codeAny_whileLoop (fun m s' => ∃ z, m = μ z ∧ Inv z ∧ InF g { c with ρ := ρs z } s₀ s') ?_ (μ z) ⟨z, rfl, hz, F.sub hρ0⟩
  rintro m s₁ ⟨z, rfl, hi, F₁⟩
  refine wpAny_mono ((ht z hi).run s₁ _ F₁.ready) (fun b s₂ ⟨k, e⟩ => ?_) fun _ _ x => x
  subst e
  cases hc : cond z with
  | true =>
    rw [if_pos rfl]
    obtain ⟨z', h1, h2, W⟩ := hbody z hi hc s₂ _ (F₁.more k)
    refine wpAny_mono W.run (fun f s₃ h₃ => ?_) fun _ _ x => x
    cases f with
    | next => exact ⟨μ z', h2, z', rfl, h1, h₃.2⟩
    | cont => exact ⟨μ z', h2, z', rfl, h1, h₃.2⟩
    | brk => exact h₃.elim
    | ret v => exact h₃
  | false =>
    rw [if_neg Bool.false_ne_true]
    exact wpAny_execs_nil (h z s₂ hi hc (F₁.more k))
abbrev bNames : List Str := ["a", "x", "lo", "hi", "key"]
/-- the body of a def with defaults, its five names bound so -/
def BodyOk (g : G) (n i : Nat) (bound : List AV) (res : AV) : Prop := ∀ (a L : Addr) (A : Around) (own : Addr → Option (List AV)) (pm cd doc dV kV : Value) (s s₁ : Shared) (E : Value → Shared → Prop),
  OkA n (fnF (fdOf (stAt i) pm cd doc dV kV) L a A own (bNames.zip bound)).A → InF g (fnF (fdOf (stAt i) pm cd doc dV kV) L a A own (bNames.zip bound)) s s₁ →
    WP g (fnF (fdOf (stAt i) pm cd doc dV kV) L a A own (bNames.zip bound)).A (fnF (fdOf (stAt i) pm cd doc dV kV) L a A own (bNames.zip bound)).env (Stmt.dBody (stAt i)) (Ret s res (fnF (fdOf (stAt i) pm cd doc dV kV) L a A own (bNames.zip bound)).hid) E s₁
/-- the cut of a halving -/
def Cut (len cut : Nat) (p : Nat → Bool) : Prop := cut ≤ len ∧ ∀ j, j < len → (p j = true ↔ j < cut)
theorem isNone : Cmp g c .Is .none .none true := c_is_none (b := true) fun h v q => by obtain rfl := q.none'; rfl
theorem mid_div (lo hi : Nat) : Int.fdiv ((lo : Int) + hi) 2 = (((lo + hi) / 2 : Nat) : Int) := by
  rw [Int.fdiv_eq_ediv_of_nonneg _ (by decide)]
  omega
/-- the names of a halving at work -/
abbrev hρ (a x k : AV) (z : Nat × Nat) : List (Str × AV) := [("a", a), ("x", x), ("lo", .int z.1), ("hi", .int z.2), ("key", k)]
/-- the halving of bisect_left -/
theorem halveL {A : Around} {env : Env} {p₁ p₂ p₃ p₄ p₅ p₆ p₇ p₈ p₉ p₁₀ p₁₁ p₁₂ p₁₃ p₁₄ p₁₅ p₁₆ p₁₇ q₁ q₂ q₃ : Pos} {k₁ k₂ : Nat} {t : Expr} {rest : List Stmt} {Q : Flow → Shared → Prop} {E : Value → Shared → Prop} (F : InF g c s₀ s) (av xv kv : AV) (len cut : Nat) (p : Nat → Bool) (hc : Cut len cut p) (hlen : len ≤ 64)
    (h0 : SubL (hρ av xv kv (0, len)) c.ρ)
    (ht : ∀ m z, m < len → Ts g { c with ρ := ("mid", .int m) :: hρ av xv kv z } t (p m))
    (h : ∀ s', InF g { c with ρ := hρ av xv kv (cut, cut) } s₀ s' → WP g c.A c.env rest Q E s')
    (kf : c.env.scope.kind = .function := by rfl) (kl : c.env.kindOf "lo" = some .local := by rfl) (kh : c.env.kindOf "hi" = some .local := by rfl) (km : c.env.kindOf "mid" = some .local := by rfl)
    (hs1 : swapsWith (.BinOp (.BinOp (.Name "lo" p₈) .Add (.Name "hi" p₉) p₁₀) .FloorDiv (.Constant (.int 2) k₁ p₁₇) q₁) (some (.Name "mid" p₅)) p₁₁.line c.env = pure false := by rfl) (hs2 : swapsWith (.BinOp (.Name "mid" p₁₂) .Add (.Constant (.int 1) k₂ p₁₃) p₁₄) (some (.Name "lo" p₁₅)) p₁₆.line c.env = pure false := by rfl)
    (hs3 : swapsWith (.Name "mid" p₁) (some (.Name "hi" p₂)) p₃.line c.env = pure false := by rfl) (hA : c.A = A := by rfl) (hE : c.env = env := by rfl) :
    WP g A env (.While (.Compare (.Name "lo" p₄) [.Lt] [.Name "hi" p₆] p₇) [.Assign [.Name "mid" p₅] (.BinOp (.BinOp (.Name "lo" p₈) .Add (.Name "hi" p₉) p₁₀) .FloorDiv (.Constant (.int 2) k₁ p₁₇) q₁) p₁₁,
      .If t [.Assign [.Name "lo" p₁₅] (.BinOp (.Name "mid" p₁₂) .Add (.Constant (.int 1) k₂ p₁₃) p₁₄) p₁₆] [.Assign [.Name "hi" p₂] (.Name "mid" p₁) p₃] q₂] [] q₃ :: rest) Q E s := by
  subst hA; subst hE
  refine x_whileI F (fun z : Nat × Nat => z.1 ≤ cut ∧ cut ≤ z.2 ∧ z.2 ≤ len) (fun z => z.2 - z.1) (hρ av xv kv) (fun z => decide (z.1 < z.2)) (0, len) ⟨Nat.zero_le _, hc.1, Nat.le_refl _⟩ h0 (fun z _ => ?_) (fun z hz hlt s₁ E' F₁ => ?_) fun z s' hz hb F' => ?_
  · refine Ts.cast (ts_cmp (ev_local rfl kl kf) (ev_local rfl kh kf) c_lt) ?_
    simp
  · have hlt' : z.1 < z.2 := by simpa using hlt
    have hm : (z.1 + z.2) / 2 < len := by omega
    have hcut := hc.2 _ hm
    refine ⟨if p ((z.1 + z.2) / 2) = true then ((z.1 + z.2) / 2 + 1, z.2) else (z.1, (z.1 + z.2) / 2), ?_, ?_, ?_⟩
    · split
      · next q => have := hcut.mp q; exact ⟨this, hz.2.1, hz.2.2⟩
      · next q => have : ¬ (z.1 + z.2) / 2 < cut := fun w => q (hcut.mpr w); exact ⟨hz.1, by show cut ≤ (z.1 + z.2) / 2; omega, Nat.le_of_lt hm⟩
    · split
      · show z.2 - ((z.1 + z.2) / 2 + 1) < z.2 - z.1; omega
      · show (z.1 + z.2) / 2 - z.1 < z.2 - z.1; omega
    · refine x_assign (c := { c with ρ := hρ av xv kv z }) F₁ (Ev.cast (ev_div (ev_add (ev_local rfl kl kf) (ev_local rfl kh kf)) ev_int (by decide) (by decide)) (by rw [mid_div])) ⟨kf, .inl km⟩ (fun s₂ F₂ => ?_) hs1
      refine x_if (c := { c with ρ := ("mid", .int ((z.1 + z.2) / 2 : Nat)) :: hρ av xv kv z }) F₂ (ht _ z hm) (fun hb s₃ F₃ => ?_) fun hb s₃ F₃ => ?_
      · refine x_assign (c := { c with ρ := ("mid", .int ((z.1 + z.2) / 2 : Nat)) :: hρ av xv kv z }) F₃ (ev_add (ev_local rfl km kf) ev_int) ⟨kf, .inl kl⟩ (fun s₄ F₄ => x_nil (x_nil ⟨trivial, ?_⟩)) hs2
        rw [if_pos hb]
        exact F₄.sub ⟨rfl, rfl, rfl, rfl, rfl, trivial⟩
      · refine x_assign (c := { c with ρ := ("mid", .int ((z.1 + z.2) / 2 : Nat)) :: hρ av xv kv z }) F₃ (ev_local rfl km kf) ⟨kf, .inl kh⟩ (fun s₄ F₄ => x_nil (x_nil ⟨trivial, ?_⟩)) hs3
        rw [if_neg (by rw [hb]; exact Bool.false_ne_true)]
        exact F₄.sub ⟨rfl, rfl, rfl, rfl, rfl, trivial⟩
  · have hb' : ¬ z.1 < z.2 := by simpa using hb
    obtain ⟨z1, z2⟩ := z
    have e1 : z1 = cut := by have := hz.1; have := hz.2.1; simp at *; omega
    have e2 : z2 = cut := by have := hz.1; have := hz.2.1; simp at *; omega
    subst e1; subst e2
    exact h s' F'
/-- the halving of bisect_right -/
theorem halveR {A : Around} {env : Env} {p₁ p₂ p₃ p₄ p₅ p₆ p₇ p₈ p₉ p₁₀ p₁₁ p₁₂ p₁₃ p₁₄ p₁₅ p₁₆ p₁₇ q₁ q₂ q₃ : Pos} {k₁ k₂ : Nat} {t : Expr} {rest : List Stmt} {Q : Flow → Shared → Prop} {E : Value → Shared → Prop} (F : InF g c s₀ s) (av xv kv : AV) (len cut : Nat) (p : Nat → Bool) (hc : Cut len cut p) (hlen : len ≤ 64)
    (h0 : SubL (hρ av xv kv (0, len)) c.ρ)
    (ht : ∀ m z, m < len → Ts g { c with ρ := ("mid", .int m) :: hρ av xv kv z } t (!p m))
    (h : ∀ s', InF g { c with ρ := hρ av xv kv (cut, cut) } s₀ s' → WP g c.A c.env rest Q E s')
    (kf : c.env.scope.kind = .function := by rfl) (kl : c.env.kindOf "lo" = some .local := by rfl) (kh : c.env.kindOf "hi" = some .local := by rfl) (km : c.env.kindOf "mid" = some .local := by rfl)
    (hs1 : swapsWith (.BinOp (.BinOp (.Name "lo" p₈) .Add (.Name "hi" p₉) p₁₀) .FloorDiv (.Constant (.int 2) k₁ p₁₇) q₁) (some (.Name "mid" p₅)) p₁₁.line c.env = pure false := by rfl) (hs2 : swapsWith (.BinOp (.Name "mid" p₁₂) .Add (.Constant (.int 1) k₂ p₁₃) p₁₄) (some (.Name "lo" p₁₅)) p₁₆.line c.env = pure false := by rfl)
    (hs3 : swapsWith (.Name "mid" p₁) (some (.Name "hi" p₂)) p₃.line c.env = pure false := by rfl) (hA : c.A = A := by rfl) (hE : c.env = env := by rfl) :
    WP g A env (.While (.Compare (.Name "lo" p₄) [.Lt] [.Name "hi" p₆] p₇) [.Assign [.Name "mid" p₅] (.BinOp (.BinOp (.Name "lo" p₈) .Add (.Name "hi" p₉) p₁₀) .FloorDiv (.Constant (.int 2) k₁ p₁₇) q₁) p₁₁,
      .If t [.Assign [.Name "hi" p₂] (.Name "mid" p₁) p₃] [.Assign [.Name "lo" p₁₅] (.BinOp (.Name "mid" p₁₂) .Add (.Constant (.int 1) k₂ p₁₃) p₁₄) p₁₆] q₂] [] q₃ :: rest) Q E s := by
  subst hA; subst hE
  refine x_whileI F (fun z : Nat × Nat => z.1 ≤ cut ∧ cut ≤ z.2 ∧ z.2 ≤ len) (fun z => z.2 - z.1) (hρ av xv kv) (fun z => decide (z.1 < z.2)) (0, len) ⟨Nat.zero_le _, hc.1, Nat.le_refl _⟩ h0 (fun z _ => ?_) (fun z hz hlt s₁ E' F₁ => ?_) fun z s' hz hb F' => ?_
  · refine Ts.cast (ts_cmp (ev_local rfl kl kf) (ev_local rfl kh kf) c_lt) ?_
    simp
  · have hlt' : z.1 < z.2 := by simpa using hlt
    have hm : (z.1 + z.2) / 2 < len := by omega
    have hcut := hc.2 _ hm
    refine ⟨if p ((z.1 + z.2) / 2) = true then ((z.1 + z.2) / 2 + 1, z.2) else (z.1, (z.1 + z.2) / 2), ?_, ?_, ?_⟩
    · split
      · next q => have := hcut.mp q; exact ⟨this, hz.2.1, hz.2.2⟩
      · next q => have : ¬ (z.1 + z.2) / 2 < cut := fun w => q (hcut.mpr w); exact ⟨hz.1, by show cut ≤ (z.1 + z.2) / 2; omega, Nat.le_of_lt hm⟩
    · split
      · show z.2 - ((z.1 + z.2) / 2 + 1) < z.2 - z.1; omega
      · show (z.1 + z.2) / 2 - z.1 < z.2 - z.1; omega
    · refine x_assign (c := { c with ρ := hρ av xv kv z }) F₁ (Ev.cast (ev_div (ev_add (ev_local rfl kl kf) (ev_local rfl kh kf)) ev_int (by decide) (by decide)) (by rw [mid_div])) ⟨kf, .inl km⟩ (fun s₂ F₂ => ?_) hs1
      refine x_if (c := { c with ρ := ("mid", .int ((z.1 + z.2) / 2 : Nat)) :: hρ av xv kv z }) F₂ (ht _ z hm) (fun hb s₃ F₃ => ?_) fun hb s₃ F₃ => ?_
      · refine x_assign (c := { c with ρ := ("mid", .int ((z.1 + z.2) / 2 : Nat)) :: hρ av xv kv z }) F₃ (ev_local rfl km kf) ⟨kf, .inl kh⟩ (fun s₄ F₄ => x_nil (x_nil ⟨trivial, ?_⟩)) hs3
        rw [if_neg (by simpa using hb)]
        exact F₄.sub ⟨rfl, rfl, rfl, rfl, rfl, trivial⟩
      · refine x_assign (c := { c with ρ := ("mid", .int ((z.1 + z.2) / 2 : Nat)) :: hρ av xv kv z }) F₃ (ev_add (ev_local rfl km kf) ev_int) ⟨kf, .inl kl⟩ (fun s₄ F₄ => x_nil (x_nil ⟨trivial, ?_⟩)) hs2
        rw [if_pos (by simpa using hb)]
        exact F₄.sub ⟨rfl, rfl, rfl, rfl, rfl, trivial⟩
  · have hb' : ¬ z.1 < z.2 := by simpa using hb
    obtain ⟨z1, z2⟩ := z
    have e1 : z1 = cut := by have := hz.1; have := hz.2.1; simp at *; omega
    have e2 : z2 = cut := by have := hz.1; have := hz.2.1; simp at *; omega
    subst e1; subst e2
    exact h s' F'
/-- a call of what a name of the block holds -/
theorem ev_callV {f : Str} {k : Addr} {o : Obj} {fd : FuncData} {p pos : Pos} {e : Expr} {es : List Expr} {avs : List AV} {av : AV} (hf : Ev g c (.Name f p) (.raw (.ref k))) (ho : g.h₀.get? k = some o) (hd : o.data = .func fd) (ha : Evs g c (e :: es) avs) (hc : CallV g c (.ref k) avs av)
    (he : starEach (e :: es) c.env = (false, eval e c.env) :: starEach es c.env := by exact starE rfl _ _) :
    Ev g c (.Call (.Name f p) (e :: es) [] pos) av := .mk fun s E R => by
  refine wpAny_Call_NameR (wpAny_mono (hf.run s E R) (fun v s₁ ⟨k₁, q₁⟩ => ?_) fun _ _ x => x)
  obtain rfl := q₁.raw'
  have R₁ := R.keep k₁
  have hA := ha.run s₁ E pos R₁
  have hb : backTo pos (starEach (e :: es) c.env) = (false, eval e c.env) :: backTo pos (starEach es c.env) := by rw [he]; rfl
  refine Calls.callWith_function (o := o) (fd := fd) ?_
  rw [hb] at hA ⊢
  exact Calls.evalArgs_plain (wpAny_mono hA (fun vs s' x => ⟨⟨(R₁.keep x.1).on k o ho, hd⟩, hc s' vs _ E (R₁.keep x.1) x.2 fun r s'' k' y => ⟨(k₁.trans x.1).trans k', y⟩⟩) fun _ _ x => x)
theorem getI (l : List Int) (m : Nat) (h : m < l.length) : (l.map AV.int)[(m : Int).toNat]? = some (.int (l.getD m 0)) := by
  simp [List.getD, h]
theorem left_int (T : Tops g) (n : Nat) (l : List Int) (x : Int) (cut : Nat) (hl : l.length ≤ 64) (hc : Cut l.length cut fun j => decide (l.getD j 0 < x)) : BodyOk g n 3 [.list (l.map .int), .int x, .int 0, .none, .none] (.int cut) := by
  intro a L A own pm cd doc dV kV s s₁ E ok F
  refine x_if F (ts_cmp (ev_local rfl) ev_int c_lt) (fun hb _ _ => by cases hb) fun _ s₂ F => x_nil ?_
  refine x_if F (ts_cmp (ev_local rfl) ev_none isNone) (fun _ s₂ F => ?_) fun hb _ _ => by cases hb
  refine x_assign F (ev_lenl T (ev_local rfl) (by rw [List.length_map]; exact sz8 hl)) ⟨rfl, .inl rfl⟩ fun s₃ F => x_nil ?_
  rw [List.length_map] at F
  refine x_if F (ts_cmp (ev_local rfl) ev_none isNone) (fun _ s₂ F => ?_) fun hb _ _ => by cases hb
  refine halveL F (.list (l.map .int)) (.int x) .none l.length cut _ hc hl ⟨rfl, rfl, rfl, rfl, rfl, trivial⟩ (fun m z hm => ?_) fun s' F' => x_nil ?_
  · exact ts_cmp (ev_item (ev_local rfl) (ev_local rfl) (by omega) (by omega) (getI l m hm)) (ev_local rfl) c_lt
  · exact x_ret F' (ev_local rfl)
theorem right_int (T : Tops g) (n : Nat) (l : List Int) (x : Int) (cut : Nat) (hl : l.length ≤ 64) (hc : Cut l.length cut fun j => !decide (x < l.getD j 0)) : BodyOk g n 1 [.list (l.map .int), .int x, .int 0, .none, .none] (.int cut) := by
  intro a L A own pm cd doc dV kV s s₁ E ok F
  refine x_if F (ts_cmp (ev_local rfl) ev_int c_lt) (fun hb _ _ => by cases hb) fun _ s₂ F => x_nil ?_
  refine x_if F (ts_cmp (ev_local rfl) ev_none isNone) (fun _ s₂ F => ?_) fun hb _ _ => by cases hb
  refine x_assign F (ev_lenl T (ev_local rfl) (by rw [List.length_map]; exact sz8 hl)) ⟨rfl, .inl rfl⟩ fun s₃ F => x_nil ?_
  rw [List.length_map] at F
  refine x_if F (ts_cmp (ev_local rfl) ev_none isNone) (fun _ s₂ F => ?_) fun hb _ _ => by cases hb
  refine halveR F (.list (l.map .int)) (.int x) .none l.length cut _ hc hl ⟨rfl, rfl, rfl, rfl, rfl, trivial⟩ (fun m z hm => ?_) fun s' F' => x_nil ?_
  · exact Ts.cast (ts_cmp (ev_local rfl) (ev_item (ev_local rfl) (ev_local rfl) (by omega) (by omega) (getI l m hm)) c_lt) (by simp)
  · exact x_ret F' (ev_local rfl)
theorem rawNotNone {k : Addr} : Cmp g c .Is (.raw (.ref k)) .none false := c_is_none (b := false) fun h v q => by obtain rfl := q.raw'; rfl
theorem left_key (T : Tops g) (n : Nat) (l : List Int) (k : Addr) (f : Int → Bool) (cut : Nat) (hl : l.length ≤ 64) (hk : ∃ o fd, g.h₀.get? k = some o ∧ o.data = .func fd) (hf : ∀ j < l.length, Fn g n (.ref k) [.int (l.getD j 0)] (.bool (f (l.getD j 0)))) (hc : Cut l.length cut fun j => !f (l.getD j 0)) :
    BodyOk g n 3 [.list (l.map .int), .bool true, .int 0, .none, .raw (.ref k)] (.int cut) := by
  intro a L A own pm cd doc dV kV s s₁ E ok F
  obtain ⟨o, fd, ho, hd⟩ := hk
  refine x_if F (ts_cmp (ev_local rfl) ev_int c_lt) (fun hb _ _ => by cases hb) fun _ s₂ F => x_nil ?_
  refine x_if F (ts_cmp (ev_local rfl) ev_none isNone) (fun _ s₂ F => ?_) fun hb _ _ => by cases hb
  refine x_assign F (ev_lenl T (ev_local rfl) (by rw [List.length_map]; exact sz8 hl)) ⟨rfl, .inl rfl⟩ fun s₃ F => x_nil ?_
  rw [List.length_map] at F
  refine x_if F (ts_cmp (ev_local rfl) ev_none rawNotNone) (fun hb _ _ => by cases hb) fun _ s₂ F => ?_
  refine halveL F (.list (l.map .int)) (.bool true) (.raw (.ref k)) l.length cut _ hc hl ⟨rfl, rfl, rfl, rfl, rfl, trivial⟩ (fun m z hm => ?_) fun s' F' => x_nil ?_
  · exact Ts.cast (ts_cmp (ev_callV (ev_local rfl) ho hd (evs_cons (ev_item (ev_local rfl) (ev_local rfl) (by omega) (by omega) (getI l m hm)) evs_nil) ((hf m hm).use ok)) (ev_local rfl) c_blt) (by simp)
  · exact x_ret F' (ev_local rfl)
theorem right_key (T : Tops g) (n : Nat) (l : List Int) (k : Addr) (f : Int → Bool) (cut : Nat) (hl : l.length ≤ 64) (hk : ∃ o fd, g.h₀.get? k = some o ∧ o.data = .func fd) (hf : ∀ j < l.length, Fn g n (.ref k) [.int (l.getD j 0)] (.bool (f (l.getD j 0)))) (hc : Cut l.length cut fun j => !f (l.getD j 0)) :
    BodyOk g n 1 [.list (l.map .int), .bool false, .int 0, .none, .raw (.ref k)] (.int cut) := by
  intro a L A own pm cd doc dV kV s s₁ E ok F
  obtain ⟨o, fd, ho, hd⟩ := hk
  refine x_if F (ts_cmp (ev_local rfl) ev_int c_lt) (fun hb _ _ => by cases hb) fun _ s₂ F => x_nil ?_
  refine x_if F (ts_cmp (ev_local rfl) ev_none isNone) (fun _ s₂ F => ?_) fun hb _ _ => by cases hb
  refine x_assign F (ev_lenl T (ev_local rfl) (by rw [List.length_map]; exact sz8 hl)) ⟨rfl, .inl rfl⟩ fun s₃ F => x_nil ?_
  rw [List.length_map] at F
  refine x_if F (ts_cmp (ev_local rfl) ev_none rawNotNone) (fun hb _ _ => by cases hb) fun _ s₂ F => ?_
  refine halveR F (.list (l.map .int)) (.bool false) (.raw (.ref k)) l.length cut _ hc hl ⟨rfl, rfl, rfl, rfl, rfl, trivial⟩ (fun m z hm => ?_) fun s' F' => x_nil ?_
  · exact Ts.cast (ts_cmp (ev_local rfl) (ev_callV (ev_local rfl) ho hd (evs_cons (ev_item (ev_local rfl) (ev_local rfl) (by omega) (by omega) (getI l m hm)) evs_nil) ((hf m hm).use ok)) c_blt) (by simp)
  · exact x_ret F' (ev_local rfl)
end
end Mine
end
section
open PySem PySem.W PyProof.Rows
set_option Elab.async false
set_option linter.unusedVariables false
namespace Mine
section
variable {g : G} {c : Fc} {s₀ s s' : Shared}
/-- a turn's end, the state turned -/
def GoZ (σ : Type) (g : G) (s₀ : Shared) (I : σ → Prop) (J : σ → Prop) (cf : σ → Fc) (R : Flow → Shared → Prop) (f : Flow) (s : Shared) : Prop := match f with
  | .next => ∃ z, I z ∧ J z ∧ InF g (cf z) s₀ s
  | .cont => ∃ z, I z ∧ J z ∧ InF g (cf z) s₀ s
  | .brk => False
  | .ret v => R (.ret v) s
/-- what is pinned anew is none of these -/
def NewPins {σ : Type} (ps old : List (Addr × Obj)) (pn : σ → List (Addr × Obj)) (z : σ) : Prop := ∀ p ∈ pn z, (∃ q ∈ old, q.1 = p.1) ∨ ∀ q ∈ ps, q.1 ≠ p.1
/-- a for loop by an invariant over states: the names, the own lists and the pinned things are told by the state -/
theorem ex_forZ {σ : Type} {x : Str} {px pos : Pos} {iter : Expr} {body : List Stmt} {items : List AV} {R : Flow → Shared → Prop} {E : Value → Shared → Prop} (B : Bind c x) (hS : Src g c iter items) (F : InF g c s₀ s)
    (Inv : Nat → σ → Prop) (ρs : Nat → σ → List (Str × AV)) (os : Nat → σ → Addr → Option (List AV)) (pn : σ → List (Addr × Obj)) (z₀ : σ)
    (hos : ∀ i z a, (os i z a).isSome = (c.own a).isSome) (ho0 : os 0 z₀ = c.own) (hp0 : pn z₀ = c.pins) (hρ0 : SubL (ρs 0 z₀) c.ρ) (hI0 : Inv 0 z₀)
    (hbody : ∀ i av z, items[i]? = some av → Inv i z → ∀ (s₁ : Shared) (xs : List (Value × AV)) (ps : List (Addr × Obj)) (E' : Value → Shared → Prop),
      (∀ p ∈ ps, ∀ q ∈ c.pins, q.2.cls = .none → p.1 ≠ q.1) →
      InF g { c with ρ := (x, av) :: ρs i z, own := os i z, ext := xs ++ c.ext, pins := ps ++ pn z } s₀ s₁ →
      wpAny (model Pg g.w) c.A (execs body c.env) (GoZ σ g s₀ (Inv (i + 1)) (NewPins ps (pn z) pn) (fun z' => { c with ρ := ρs (i + 1) z', own := os (i + 1) z', ext := xs ++ c.ext, pins := ps ++ pn z' }) R) E' s₁)
    (h : ∀ z s', Inv items.length z → InF g { c with ρ := ρs items.length z, own := os items.length z, pins := pn z } s₀ s' → R .next s')
    (hs : ∀ x, foldedSetIterable iter c.env x = pure x := by intro _; rfl) (hlt : ∀ it v, letOwnedTupleGo (.Name x px) it v = pure () := by intro _ _; rfl) :
    wpAny (model Pg g.w) c.A (exec (.For (.Name x px) iter body [] pos) c.env) R E s := by
  refine wpAny_For (hS s _ E F.ready fun I fp wr P St xs s₂ S => ?_) hs
  have hpw₀ : ∀ p ∈ pn z₀, p.1 ∉ wr := fun p hp q => by
    rw [hp0] at hp
    have := (F.vis.pin p hp).1
    rw [S.wrn _ q] at this; cases this
  have hfc : ∀ b ∈ fp, ∀ q ∈ c.pins, q.2.cls = .none → b ≠ q.1 := fun b hb q hq hc e => by
    obtain ⟨o, ho, hn⟩ := S.fpo b hb
    have h1 := S.kp.heap _ _ (F.vis.pin q hq).1
    rw [← e, ho] at h1
    cases h1
    exact hn hc
  have h0 : ∀ b ∈ wr, s₀.heap.get? b = none := fun b hb => dead₀ F (S.wrn b hb)
  have hhid : ∀ i z a, Fc.hid { c with ρ := ρs i z, own := os i z, ext := xs ++ c.ext, pins := pn z } a ↔ c.hid a := fun i z a => by
    unfold Fc.hid
    dsimp only
    rw [hos i z a]
  refine codeAny_forLoop_any (fun n s' => ∃ i z, n = items.length - i ∧ i ≤ items.length ∧ Inv i z ∧ (∀ p ∈ pn z, p.1 ∉ wr) ∧ St i s'.heap ∧ InF g { c with ρ := ρs i z, own := os i z, ext := xs ++ c.ext, pins := pn z } s₀ s') ?_ items.length
    ⟨0, z₀, rfl, Nat.zero_le _, hI0, hpw₀, S.st, ?_⟩
  · rintro n s₁ ⟨i, z, rfl, hi, hI, hpw, st, F₁⟩
    by_cases q : i < items.length
    · have hav : items[i]? = some items[i] := by simp [q]
      refine next_item (c := { c with ρ := ρs i z, own := os i z, ext := xs ++ c.ext, pins := pn z }) S (fun b hb q => S.fph b hb ((hhid i z b).mp q)) rfl hpw (fun p hp => List.mem_append_left _ hp) h0 F₁ st hav fun v s₂ F₂ st₂ hv => ?_
      dsimp only
      refine wpAny_of_eq (hlt _ _) ?_
      refine wpAny_assign_Name (st_bind (c := { c with ρ := ρs i z, own := os i z, ext := xs ++ c.ext, pins := snap s₂.heap fp ++ pn z }) B F₂ hv fun s₃ F₃ => ?_)
      refine wpAny_mono (hbody i items[i] z hav hI s₃ xs (snap s₂.heap fp) _ (fun p hp q hq hc => hfc p.1 (mem_snap.mp hp).1 q hq hc) F₃) (fun f s₄ h₄ => ?_) fun _ _ x => x
      have fin : (∃ z', Inv (i + 1) z' ∧ NewPins (snap s₂.heap fp) (pn z) pn z' ∧ InF g { c with ρ := ρs (i + 1) z', own := os (i + 1) z', ext := xs ++ c.ext, pins := snap s₂.heap fp ++ pn z' } s₀ s₄) →
          ∃ m, m < items.length - i ∧ ∃ j z', m = items.length - j ∧ j ≤ items.length ∧ Inv j z' ∧ (∀ p ∈ pn z', p.1 ∉ wr) ∧ St j s₄.heap ∧ InF g { c with ρ := ρs j z', own := os j z', ext := xs ++ c.ext, pins := pn z' } s₀ s₄ := fun ⟨z', hI', hJ', F₄⟩ =>
        ⟨items.length - (i + 1), by omega, i + 1, z', rfl, q, hI', (fun p hp w => by
          rcases hJ' p hp with ⟨q', hq', e⟩ | w'
          · exact hpw q' hq' (e ▸ w)
          · obtain ⟨o, ho, _⟩ := S.fpp _ _ st₂ p.1 (S.wfp _ w)
            exact w' (p.1, o) (mem_snap.mpr ⟨S.wfp _ w, ho⟩) rfl), S.W.frame (i + 1) _ _ st₂ fun b hb o e => (F₄.vis.pin (b, o) (List.mem_append_left _ (mem_snap.mpr ⟨hb, e⟩))).1,
          InF.unpin (c := { c with ρ := ρs (i + 1) z', own := os (i + 1) z', ext := xs ++ c.ext, pins := pn z' }) (ps := snap s₂.heap fp) F₄⟩
      cases f with
      | next => exact fin h₄
      | cont => exact fin h₄
      | brk => exact h₄.elim
      | ret v => exact h₄
    · obtain rfl : i = items.length := by omega
      refine next_end (c := { c with ρ := ρs items.length z, own := os items.length z, ext := xs ++ c.ext, pins := pn z }) S rfl hpw h0 F₁ st fun s₂ F₂ => ?_
      dsimp only
      exact wpAny_execs_nil (h z s₂ hI (InF.unext (c := { c with ρ := ρs items.length z, own := os items.length z, pins := pn z }) (xs := xs) F₂))
  · have F₂ := (F.more S.kp).ext S.xsv
    have F₃ := F₂.sub (ρ := ρs 0 z₀) hρ0
    have e : ({ c with ρ := ρs 0 z₀, own := os 0 z₀, ext := xs ++ c.ext, pins := pn z₀ } : Fc) = { c with ρ := ρs 0 z₀, ext := xs ++ c.ext } := by rw [ho0, hp0]
    rw [e]
    exact F₃
theorem x_forZ {σ : Type} {A : Around} {env : Env} {x : Str} {px pos : Pos} {iter : Expr} {body rest : List Stmt} {items : List AV} {Q : Flow → Shared → Prop} {E : Value → Shared → Prop} (F : InF g c s₀ s) (hS : Src g c iter items) (B : Bind c x)
    (Inv : Nat → σ → Prop) (ρs : Nat → σ → List (Str × AV)) (os : Nat → σ → Addr → Option (List AV)) (pn : σ → List (Addr × Obj)) (z₀ : σ)
    (hos : ∀ i z a, (os i z a).isSome = (c.own a).isSome) (ho0 : os 0 z₀ = c.own) (hp0 : pn z₀ = c.pins) (hρ0 : SubL (ρs 0 z₀) c.ρ) (hI0 : Inv 0 z₀)
    (hbody : ∀ i av z, items[i]? = some av → Inv i z → ∀ (s₁ : Shared) (xs : List (Value × AV)) (ps : List (Addr × Obj)) (E' : Value → Shared → Prop),
      (∀ p ∈ ps, ∀ q ∈ c.pins, q.2.cls = .none → p.1 ≠ q.1) →
      InF g { c with ρ := (x, av) :: ρs i z, own := os i z, ext := xs ++ c.ext, pins := ps ++ pn z } s₀ s₁ →
      WP g c.A c.env body (GoZ σ g s₀ (Inv (i + 1)) (NewPins ps (pn z) pn) (fun z' => { c with ρ := ρs (i + 1) z', own := os (i + 1) z', ext := xs ++ c.ext, pins := ps ++ pn z' }) Q) E' s₁)
    (h : ∀ z s', Inv items.length z → InF g { c with ρ := ρs items.length z, own := os items.length z, pins := pn z } s₀ s' → WP g c.A c.env rest Q E s')
    (hs : ∀ x, foldedSetIterable iter c.env x = pure x := by intro _; rfl) (hlt : ∀ it v, letOwnedTupleGo (.Name x px) it v = pure () := by intro _ _; rfl) (hA : c.A = A := by rfl) (hE : c.env = env := by rfl) :
    WP g A env (.For (.Name x px) iter body [] pos :: rest) Q E s := by
  subst hA; subst hE
  exact x_cons (ex_forZ (R := Then g c rest Q E) B hS F Inv ρs os pn z₀ hos ho0 hp0 hρ0 hI0 (fun i av z h1 h2 s₁ xs ps E' hps F' => wpAny_mono (hbody i av z h1 h2 s₁ xs ps E' hps F').run (fun f s' q => by cases f <;> exact q) fun _ _ x => x) (fun z s' h1 h2 => h z s' h1 h2) hs hlt)
end
end Mine
end
section
open PySem PySem.W PyProof.Rows
set_option Elab.async false
set_option linter.unusedVariables false
set_option maxRecDepth 20000
namespace Mine
abbrev bPos : List Str := ["a", "x", "lo", "hi"]
abbrev bKw : List Str := ["key"]
theorem lkK {v₁ v₂ v₃ v₄ : Value} : List.lookup ("key" : Str) [(("a" : Str), v₁), ("x", v₂), ("lo", v₃), ("hi", v₄)] = none := rfl
theorem binds_k2 {fd : FuncData} {dT kD : Addr} {t : Tok} {v₁ v₂ : Value} {s : Shared} {m : Str → Option Value} (hn : s.heap.Ns kD m) (hm : m "key" = some .none) (hT : s.heap.IsTuple dT #[.int 0 t, .none])
   (h1 : fd.params.posonlyargs = []) (h2 : fd.params.args.map (·.arg) = bPos) (h3 : fd.params.kwonlyargs.map (·.arg) = bKw) (h4 : fd.params.vararg = none) (h5 : fd.params.kwarg = none) (h6 : fd.defaults = .ref dT) (h7 : fd.kwdefaults = .ref kD) :
   BindsTo s fd ⟨[v₁, v₂], []⟩ (bNames.zip [v₁, v₂, .int 0 t, .none, .none]) := by
  intro M A Q E hq
  obtain ⟨o, ho, _, n, hs⟩ := hT
  unfold bindArgs
  simp only [h1, h2, h3, h4, h5, h6, h7, List.forIn_nil, pure_bind, List.map_nil, List.nil_append]
  refine wpAny_bind (wpAny_seqItems ho hs ?_)
  refine wpAny_bind (m := (forIn bKw ([(("a" : Str), v₁), ("x", v₂), ("lo", .int 0 t), ("hi", .none)], ([] : List Str)) _)) ?_
  simp only [List.forIn_cons, List.forIn_nil, lkK]
  refine wpAny_bind (wpAny_bind (wpAny_nsGet hn ?_))
  rw [hm]
  exact wpAny_pure (wpAny_pure (wpAny_pure hq))
theorem binds_k4 {fd : FuncData} {dT kD : Addr} {t : Tok} {v₁ v₂ v₃ v₄ : Value} {s : Shared} {m : Str → Option Value} (hn : s.heap.Ns kD m) (hm : m "key" = some .none) (hT : s.heap.IsTuple dT #[.int 0 t, .none])
   (h1 : fd.params.posonlyargs = []) (h2 : fd.params.args.map (·.arg) = bPos) (h3 : fd.params.kwonlyargs.map (·.arg) = bKw) (h4 : fd.params.vararg = none) (h5 : fd.params.kwarg = none) (h6 : fd.defaults = .ref dT) (h7 : fd.kwdefaults = .ref kD) :
   BindsTo s fd ⟨[v₁, v₂, v₃, v₄], []⟩ (bNames.zip [v₁, v₂, v₃, v₄, .none]) := by
  intro M A Q E hq
  obtain ⟨o, ho, _, n, hs⟩ := hT
  unfold bindArgs
  simp only [h1, h2, h3, h4, h5, h6, h7, List.forIn_nil, pure_bind, List.map_nil, List.nil_append]
  refine wpAny_bind (wpAny_seqItems ho hs ?_)
  refine wpAny_bind (m := (forIn bKw ([(("a" : Str), v₁), ("x", v₂), ("lo", v₃), ("hi", v₄)], ([] : List Str)) _)) ?_
  simp only [List.forIn_cons, List.forIn_nil, lkK]
  refine wpAny_bind (wpAny_bind (wpAny_nsGet hn ?_))
  rw [hm]
  exact wpAny_pure (wpAny_pure (wpAny_pure hq))
section
variable {g : G} {c : Fc} {s₀ s : Shared}
theorem bKind : ∀ i ∈ [1, 2, 3], ∀ x ∈ bNames, (Stmt.dScope (stAt i)).names.lookup x = some .local := by decide +kernel
theorem bNd : bNames.Nodup := by decide
/-- bound so, the body's word is the call's -/
theorem fnB {n i : Nat} {args bound : List AV} {res : AV} (T : Tops g) (hi : i ∈ [1, 2, 3]) (hlen : bound.length = 5) (hB : BodyOk g n i bound res)
    (hbind : ∀ (a : Addr) pm cd doc dT t kD m, g.h₀.IsTuple dT #[.int 0 t, .none] → g.h₀.Ns kD m → m "key" = some .none → ∀ H s vs, g.On s.heap → Vals H s.heap args vs → ∃ vs', Vals H s.heap bound vs' ∧ BindsTo s (fdOf (stAt i) pm cd doc (.ref dT) (.ref kD)) ⟨vs, []⟩ (bNames.zip vs')) : FnI g (n + 1) i args res := by
  obtain ⟨a, pm, cd, doc, dT, t, kD, m, hm, D, hT, hN, hk⟩ := T.bis i hi
  refine ⟨a, hm, (let ⟨o, h1, h2⟩ := D.ho; ⟨o, _, h1, h2⟩), fun H A s vs P E ok on hL hv hP => ?_⟩
  obtain ⟨vs', hv', hb⟩ := hbind a pm cd doc dT t kD m hT hN hk H s vs on hv
  refine fn_enter T.ok D ok on hL hv' hb bNd hlen.symm (fun x hx => .inl (bKind i hi x hx)) fun s₁ E' ok' F => ?_
  refine .mk (wpAny_mono (hB a s.heap.objs.size A _ pm cd doc (.ref dT) (.ref kD) s s₁ E' ok' F).run (fun f s' ⟨v, e, k, x⟩ => ?_) fun _ _ x => x)
  subst e
  exact hP v s' k (x.weak fun a q => rawOwn_some.mpr q)
theorem isTupleKeep {h h' : Heap} {a : Addr} {its : Array Value} (x : h.IsTuple a its) (hk : ∀ b o, h.get? b = some o → h'.get? b = some o) : h'.IsTuple a its := by
  obtain ⟨o, ho, r⟩ := x
  exact ⟨o, hk _ _ ho, r⟩
theorem fnB2 {n i : Nat} {u v : AV} {res : AV} (T : Tops g) (hi : i ∈ [1, 3]) (hB : BodyOk g n i [u, v, .int 0, .none, .none] res) : FnI g (n + 1) i [u, v] res := by
  have hi' : i ∈ [1, 2, 3] := by simp at hi ⊢; omega
  refine fnB T hi' rfl hB fun a pm cd doc dT t kD m hT hN hk H s vs on hv => ?_
  obtain ⟨v₁, r, rfl, h1, h2⟩ := hv.cons'
  obtain ⟨v₂, r, rfl, h3, h4⟩ := h2.cons'
  obtain rfl := h4.nil'
  refine ⟨[v₁, v₂, .int 0 t, .none, .none], Vals.cons h1 (Vals.cons h3 (Vals.cons vint (Vals.cons vnone (Vals.cons vnone Vals.nil)))), ?_⟩
  simp at hi
  rcases hi with rfl | rfl
  · exact binds_k2 (hN.keeps on) hk (isTupleKeep hT on) rfl rfl rfl rfl rfl rfl rfl
  · exact binds_k2 (hN.keeps on) hk (isTupleKeep hT on) rfl rfl rfl rfl rfl rfl rfl
theorem fnB4 {n : Nat} {u v w z : AV} {res : AV} (T : Tops g) (hB : BodyOk g n 3 [u, v, w, z, .none] res) : FnI g (n + 1) 3 [u, v, w, z] res := by
  refine fnB T (by decide) rfl hB fun a pm cd doc dT t kD m hT hN hk H s vs on hv => ?_
  obtain ⟨v₁, r, rfl, h1, h2⟩ := hv.cons'
  obtain ⟨v₂, r, rfl, h3, h4⟩ := h2.cons'
  obtain ⟨v₃, r, rfl, h5, h6⟩ := h4.cons'
  obtain ⟨v₄, r, rfl, h7, h8⟩ := h6.cons'
  obtain rfl := h8.nil'
  exact ⟨[v₁, v₂, v₃, v₄, .none], Vals.cons h1 (Vals.cons h3 (Vals.cons h5 (Vals.cons h7 (Vals.cons vnone Vals.nil)))), binds_k4 (hN.keeps on) hk (isTupleKeep hT on) rfl rfl rfl rfl rfl rfl rfl⟩
/-- a call with the keyword key -/
theorem callK {n i : Nat} {u v : AV} {k : Addr} {res : AV} (T : Tops g) (hi : i ∈ [1, 3]) (hB : BodyOk g n i [u, v, .int 0, .none, .raw (.ref k)] res) :
    ∃ a, g.mg (Stmt.dName (stAt i)) = some (.ref a) ∧ (∃ o fd, g.h₀.get? a = some o ∧ o.data = .func fd) ∧ ∀ (H : Addr → Prop) (A : Around) (s : Shared) (vs : List Value) (P E : Value → Shared → Prop), OkA (n + 1) A → g.On s.heap → Lists H s.heap → Vals H s.heap [u, v] vs →
    (∀ r s', Kp s s' → Val H s'.heap res r → P r s') → wpAny (model Pg g.w) A (call (.ref a) vs [("key", .ref k)]) P E s := by
  have hi' : i ∈ [1, 2, 3] := by simp at hi ⊢; omega
  obtain ⟨a, pm, cd, doc, dT, t, kD, m, hm, D, hT, hN, hk⟩ := T.bis i hi'
  refine ⟨a, hm, (let ⟨o, h1, h2⟩ := D.ho; ⟨o, _, h1, h2⟩), fun H A s vs P E ok on hL hv hP => ?_⟩
  obtain ⟨v₁, r, rfl, h1, h2⟩ := hv.cons'
  obtain ⟨v₂, r, rfl, h3, h4⟩ := h2.cons'
  obtain rfl := h4.nil'
  have hv' : Vals H s.heap [u, v, .int 0, .none, .raw (.ref k)] [v₁, v₂, .int 0 t, .none, .ref k] := Vals.cons h1 (Vals.cons h3 (Vals.cons vint (Vals.cons vnone (Vals.cons vraw Vals.nil))))
  have hT' := isTupleKeep hT on
  have hb : BindsTo s (fdOf (stAt i) pm cd doc (.ref dT) (.ref kD)) ⟨[v₁, v₂], [("key", .ref k)]⟩ (bNames.zip [v₁, v₂, .int 0 t, .none, .ref k]) := by
    obtain ⟨o, ho, hc, n', hs⟩ := hT'
    simp at hi
    rcases hi with rfl | rfl
    · exact BindsTo.of_defaults rfl ho hs rfl rfl
    · exact BindsTo.of_defaults rfl ho hs rfl rfl
  refine fn_enter T.ok D ok on hL hv' hb bNd rfl (fun x hx => .inl (bKind i hi' x hx)) fun s₁ E' ok' F => ?_
  refine .mk (wpAny_mono (hB a s.heap.objs.size A _ pm cd doc (.ref dT) (.ref kD) s s₁ E' ok' F).run (fun f s' ⟨v, e, k, x⟩ => ?_) fun _ _ x => x)
  subst e
  exact hP v s' k (x.weak fun a q => rawOwn_some.mpr q)
end
end Mine
end
section
open PySem PySem.W PyProof.Rows
set_option Elab.async false
set_option linter.unusedVariables false
set_option maxRecDepth 20000
namespace Mine
section
variable {g : G} {c : Fc} {s₀ s : Shared}
theorem vals_int {hid hid' : Addr → Prop} {h h' : Heap} : ∀ {l : List Int} {vs : List Value}, Vals hid h (l.map .int) vs → Vals hid' h' (l.map .int) vs
  | [], _, x => by obtain rfl := x.nil'; exact Vals.nil
  | i :: l, _, x => by
    obtain ⟨v, r, rfl, h1, h2⟩ := x.cons'
    obtain ⟨t, rfl⟩ := h1.int'
    exact Vals.cons vint (vals_int h2)
theorem ev_ext {e : Expr} {v : Value} {av : AV} (h : Ev g c e (.raw v)) (hx : (v, av) ∈ c.ext) : Ev g c e av := .mk fun s E R =>
  wpAny_mono (h.run s E R) (fun u s₁ ⟨k, q⟩ => ⟨k, by
    obtain rfl := q.raw'
    exact (R.keep k).vis.ext _ hx⟩) fun _ _ x => x
/-- an item put in at a place -/
def insAt {α : Type} (l : List α) (k : Nat) (x : α) : List α := l.take k ++ x :: l.drop k
theorem insAt_map {α β : Type} (f : α → β) (l : List α) (k : Nat) (x : α) : (insAt l k x).map f = insAt (l.map f) k (f x) := by
  simp [insAt, List.map_take, List.map_drop]
theorem arr_ins (xs : Array Value) (x : Int) (k : Nat) (hx : x = (k : Int)) (hk : k ≤ xs.size) (y : Value) : ((fun xs : Array Value => have k := if x < 0 then (x + ((xs.size : Nat) : Int)).toNat else min x.toNat xs.size; (xs.extract 0 k).push y ++ xs.extract k) xs).toList = insAt xs.toList k y := by
  subst hx
  have h1 : ¬ ((k : Int) < 0) := by omega
  simp only [h1, if_false, Int.toNat_natCast, Nat.min_eq_left hk]
  simp [insAt, List.take_of_length_le]
/-- the insert of a list that the block only knows -/
theorem x_insertX {A : Around} {env : Env} {b : Addr} {o e₁ e₂ : Expr} {l : List Int} {x : Int} {cut : Nat} {ap cp pos : Pos} {rest : List Stmt} {Q : Flow → Shared → Prop} {E : Value → Shared → Prop} (F : InF g c s₀ s)
    (ho : Ev g c o (.raw (.ref b))) (hx : (Value.ref b, AV.list (l.map .int)) ∈ c.ext) (h₁ : Ev g c e₁ (.int cut)) (h₂ : Ev g c e₂ (.int x)) (hl : l.length ≤ 63) (hc : cut ≤ l.length)
    (h : ∀ s' h' (its : Array Value), InF g c s₀ s' → h'.PlainList b its → Heap.SameBut b s'.heap h' → (∀ hid hp, Vals hid hp ((insAt l cut x).map .int) its.toList) → WP g c.A c.env rest Q E { s' with heap := h' })
    (hb : attributeBase o "insert" c.env (eval o c.env) = eval o c.env := by rfl) (hs : starEach [e₁, e₂] c.env = [(false, eval e₁ c.env), (false, eval e₂ c.env)] := by rfl) (hln : (ap.endLine == cp.line) = true := by rfl)
    (hi : interactive c.env = false := by rfl) (hsw : swapsWith (.Call (.Attribute o "insert" ap) [e₁, e₂] [] cp) none pos.line c.env = pure false := by rfl) (hA : c.A = A := by rfl) (hE : c.env = env := by rfl) :
    WP g A env (.Expr (.Call (.Attribute o "insert" ap) [e₁, e₂] [] cp) pos :: rest) Q E s := by
  subst hA; subst hE
  refine x_cons (wpAny_Expr (Call_method2 hb hs hln (wpAny_mono (ho.run s E F.ready) (fun v s₅ ⟨k₅, q₅⟩ => ?_) fun _ _ x => x)) hi hsw)
  obtain rfl := q₅.raw'
  have F₅ := F.more k₅
  obtain ⟨b', its₅, eb, _, ⟨n₅, hp₅⟩, hv₅⟩ := (F₅.vis.ext _ hx).list'
  cases eb
  refine ⟨"list", "list.insert", PySem.F.plainAttrs_list, PySem.F.slot_list_insert, PySem.F.type_list_insert, ⟨_, hp₅, rfl⟩, fun b e => by cases e; exact ⟨_, hp₅, rfl⟩, ?_⟩
  refine Calls.callWith_builtin rfl (Calls.evalArgs_plain (Calls.spliced_cons (wpAny_mono (h₁.run s₅ E F₅.ready) (fun y s₆ ⟨k₆, q₆⟩ => Calls.spliced_cons (wpAny_mono (h₂.run s₆ E (F₅.more k₆).ready) (fun y' s₇ ⟨k₇, q₇⟩ => Calls.spliced_nil ?_) fun _ _ e => e)) fun _ _ e => e)))
  obtain ⟨ty, rfl⟩ := q₆.int'
  obtain ⟨ty', rfl⟩ := q₇.int'
  have F₇ := (F₅.more k₆).more k₇
  obtain ⟨b', its₇, eb, _, ⟨n₇, hp₇⟩, hv₇⟩ := (F₇.vis.ext _ hx).list'
  cases eb
  have hsz := hv₇.length
  simp at hsz
  have hfit : ¬ (!Builtin.List.listFitsIndex (cut : Int)) = true := by
    unfold Builtin.List.listFitsIndex
    rw [decide_eq_true (by omega : -(2 ^ 63 : Int) ≤ cut), decide_eq_true (by omega : (cut : Int) < 2 ^ 63)]
    decide
  have hz : its₇.size ≤ sizeLine := by have := sizeLine_eq; omega
  obtain ⟨i, hi'⟩ : ∃ i : Int, i = (cut : Int) := ⟨_, rfl⟩
  rw [← hi'] at hfit ⊢
  have M := PySem.AutoSeq1.list_insert_list_int_val_1 b its₇ n₇ i ty (.int x ty') hfit hz
  refine call_meets PySem.F.slot_list_insert ⟨_, hp₇, rfl⟩ PySem.F.entry_list_insert (PySem.F.args_list_insert_3 _ _ _) M ⟨hp₇, ?_⟩
  refine h s₇ _ _ F₇ (plain_update _ ⟨n₇, hp₇⟩) (Heap.SameBut.update ..) fun hid hp => ?_
  rw [arr_ins its₇ i cut hi' (by omega), insAt_map]
  exact ((vals_int hv₇).take cut).append (Vals.cons vint ((vals_int hv₇).drop cut))
theorem x_insort {A : Around} {env : Env} {n : Nat} {b : Addr} {o e : Expr} {l : List Int} {x : Int} {cut : Nat} {fp cp pos : Pos} {rest : List Stmt} {Q : Flow → Shared → Prop} {E : Value → Shared → Prop} (T : Tops g) (F : InF g c s₀ s) (ok : OkA (n + 2) c.A)
    (ho : Ev g c o (.raw (.ref b))) (ha : c.own b = some (l.map .int)) (hz : s₀.heap.get? b = none) (he : Ev g c e (.int x)) (hl : l.length ≤ 63) (hc : Cut l.length cut fun j => decide (l.getD j 0 < x))
    (h : ∀ s', InF g (c.setOwn b ((insAt l cut x).map .int)) s₀ s' → WP g c.A c.env rest Q E s')
    (hfc : FcF c := by exact ⟨rfl, rfl, rfl⟩) (hk : c.env.kindOf "insort_left" = some .globalImplicit := by rfl) (hs : starEach [o, e] c.env = (false, eval o c.env) :: starEach [e] c.env := by exact starE rfl _ _) (hs2 : starEach [e] c.env = (false, eval e c.env) :: starEach [] c.env := by exact starE rfl _ _) (hst : (starEach [e] c.env).any (·.1) = false := by rfl)
    (hi : interactive c.env = false := by rfl) (hsw : swapsWith (.Call (.Name "insort_left" fp) [o, e] [] cp) none pos.line c.env = pure false := by rfl) (hA : c.A = A := by rfl) (hE : c.env = env := by rfl) :
    WP g A env (.Expr (.Call (.Name "insort_left" fp) [o, e] [] cp) pos :: rest) Q E s := by
  subst hA; subst hE
  obtain ⟨a, pm, cd, doc, dT, t, kD, m, hm, D, hT, hN, hkk⟩ := T.bis 2 (by decide)
  have N : FName g c "insort_left" (.ref a) := ⟨hk, hfc.fn, hfc.gl, hfc.bl, .inl hm, by decide⟩
  refine x_cons (wpAny_Expr (call_args T.ok N (.inr (.inr (let ⟨oo, h1, h2⟩ := D.ho; ⟨a, oo, _, rfl, h1, h2⟩))) (evs_cons' ho (evs_cons' he evs_nil hs2) hs) F.ready (fun s₁ vs k₁ R₁ hv => ?_) hs hst) hi hsw)
  obtain ⟨v₁, r, rfl, q1, q2⟩ := hv.cons'
  obtain ⟨v₂, r, rfl, q3, q4⟩ := q2.cons'
  obtain rfl := q4.nil'
  obtain rfl := q1.raw'
  obtain ⟨tx, rfl⟩ := q3.int'
  have F₁ := F.more k₁
  obtain ⟨its, hp, hvl⟩ := F₁.vis.own b _ ha
  have hL : Lists (fun a => c.hid a ∧ a ≠ b) s₁.heap := fun a ha => R₁.lists a ha.1
  have hv' : Vals (fun a => c.hid a ∧ a ≠ b) s₁.heap [.raw (.ref b), .int x, .int 0, .none, .none] [.ref b, .int x tx, .int 0 t, .none, .none] := Vals.cons vraw (Vals.cons vint (Vals.cons vint (Vals.cons vnone (Vals.cons vnone Vals.nil))))
  refine fn_enter T.ok D (ok : OkA (n + 1 + 1) c.A) R₁.on hL hv' (binds_k2 (hN.keeps R₁.on) hkk (isTupleKeep hT R₁.on) rfl rfl rfl rfl rfl rfl rfl) bNd rfl (fun x hx => .inl (bKind 2 (by decide) x hx)) fun s₂ E' ok' F₂ => ?_
  have hvb : Val (fnF (fdOf (stAt 2) pm cd doc (.ref dT) (.ref kD)) s₁.heap.objs.size a c.A (rawOwn (fun a => c.hid a ∧ a ≠ b) s₁.heap) (bNames.zip [.raw (.ref b), .int x, .int 0, .none, .none])).hid s₂.heap (.list (l.map .int)) (.ref b) := by
    refine vlist (fun q => ?_) (hp.at fun o e => F₂.keep b o e) (vals_int hvl)
    exact (rawOwn_some (H := fun a => c.hid a ∧ a ≠ b) (h := s₁.heap).mp q).2 rfl
  have F₃ := InF.ext (xs := [(.ref b, .list (l.map .int))]) F₂ (fun p hp => by simp at hp; subst hp; exact hvb)
  refine x_if F₃ (ts_cmp (ev_local rfl) ev_none isNone) (fun _ s₃ F₃ => ?_) fun hb _ _ => by cases hb
  refine x_assign F₃ (ev_fn T (fnB4 T (left_int T n l x cut (by omega) hc)) ok' (evs_cons (ev_ext (ev_local rfl) (.head _)) (evs_cons (ev_local rfl) (evs_cons (ev_local rfl) (evs_cons (ev_local rfl) evs_nil))))) ⟨rfl, .inl rfl⟩ fun s₄ F₄ => x_nil ?_
  refine x_insertX F₄ (ev_local rfl) (.head _) (ev_local rfl) (ev_local rfl) hl hc.1 fun s₇ h₇ its₇ F₇ hp₇ hs₇ hv₇ => x_nil ?_
  have F₈ := F₁.more F₇.kp
  exact h _ (own_turn (t := s₇.toks) F₈ ha hz hp₇ hs₇ (hv₇ _ _))
end
end Mine
end
section
open PySem PySem.W PyProof.Rows
set_option Elab.async false
set_option linter.unusedVariables false
set_option maxRecDepth 20000
namespace Mine
section
variable {g : G} {c : Fc} {s₀ s : Shared}
/-- the table of a code's own codes, as far as the places ls go -/
structure TabOk (tb₀ : Array Value) (q : Str) (ls : List Pos) (tb : Array Value) (cs : List (Addr × Obj)) : Prop where
  ext : ∃ more, tb = tb₀ ++ more
  tr : TriplesOk tb.toList
  hit : ∀ pos ∈ ls, codeAmong pos tb.toList = none ∨ ∃ c' oc vs t, codeAmong pos tb.toList = some (.ref c') ∧ (c', oc) ∈ cs ∧ oc.data = .fields vs ∧ vs[1]? = some (.str q t)
theorem codeAmong_other {pos pos' : Pos} {c : Value} (l : List Value) (h : TriplesOk l) (hn : ¬ (pos.line = pos'.line ∧ pos.col = pos'.col)) : codeAmong pos' (l ++ [rawInt pos.line, rawInt pos.col, c]) = codeAmong pos' l := by
  fun_induction TriplesOk l with
  | case1 =>
    simp only [List.nil_append, codeAmong, rawInt]
    rw [if_neg]
    simp only [Bool.and_eq_true, beq_iff_eq]
    intro ⟨a, b⟩
    exact hn ⟨by omega, by omega⟩
  | case2 a t b u x rest ih =>
    simp only [List.cons_append, codeAmong]
    rw [ih h]
  | case3 l h1 h2 => exact h.elim
theorem InF.dropPins (F : InF g c s₀ s) : InF g { c with pins := [] } s₀ s :=
  ⟨F.same, F.keep, F.on, ⟨F.vis.loc, F.vis.cel, F.vis.own, fun p hp => (nomatch hp), F.vis.ext, F.vis.cex⟩, F.nL, F.nC, F.apart⟩
theorem InF.tab {P : Addr} {tb : Array Value} {pins : List (Addr × Obj)} {h' : Heap} {t : Nat} (F : InF g c s₀ s) (hx : Heap.ExtBut P s.heap h') (hP : s.heap.get? P = some (tabObj tb)) (hP₀ : s₀.heap.get? P = none)
    (hp : ∀ p ∈ pins, h'.get? p.1 = some p.2 ∧ ¬ c.hid p.1 ∧ Pinnable p.2) : InF g { c with pins := pins } s₀ { s with heap := h', toks := t } := by
  have F' := F.dropPins
  have F₁ : InF g { c with pins := [] } s₀ { s with heap := h', toks := t } :=
    F'.turn (c' := { c with pins := [] }) (fun b o e => hx b o (by rintro rfl; rw [hP₀] at e; cases e) (F.keep b o e))
      (F'.vis.but (wr := fun b => b = P) (fun b o q e => hx b o q e) (fun b hb o e => by rw [hb, hP] at e; cases e; exact ⟨_, rfl⟩) fun p hp => (nomatch hp))
  have := InF.pin (ps := pins) F₁ hp
  simpa using this
theorem tabPin {tb : Array Value} : Pinnable (tabObj tb) := fieldsPin rfl
/-- the code of the block, and where its table lies -/
structure CodeG (g : G) (c : Fc) (c₀ P : Addr) : Prop where
  hd : CodeHd g.h₀ c₀ P
  bl : g.h₀.BuiltinsAt g.mg P
  ne : mainGlobals ≠ P
  code : c.env.code = .ref c₀
  gl : c.env.globals = mainGlobals
theorem BuiltinsAt.keep {h h' : Heap} {mg : Str → Option Value} {P : Addr} (x : h.BuiltinsAt mg P) (hk : ∀ b o, h.get? b = some o → h'.get? b = some o) : h'.BuiltinsAt mg P :=
  let ⟨bm, o, a, b, c, d, e, f⟩ := x; ⟨bm, o, a, b, c, d, hk _ _ e, f⟩
/-- a lambda of the block: the thing made, and the block behind it -/
theorem ev_lam {ps cs : List (Addr × Obj)} {P c₀ : Addr} {tb tb₀ : Array Value} {q : Str} {ls : List Pos} {params : Arguments} {body : Expr} {scope : Scope} {pos : Pos} {Q E : Value → Shared → Prop} (G : g.Ok) (F : InF g c s₀ s) (K : CodeG g c c₀ P)
    (hpins : c.pins = ps ++ (P, tabObj tb) :: cs) (hps : ∀ p ∈ ps, p.1 ≠ P) (hcs : ∀ p ∈ cs, p.1 ≠ P) (hP₀ : s₀.heap.get? P = none) (tab : TabOk tb₀ q ls tb cs) (hpos : pos ∈ ls)
    (hls : ∀ p ∈ ls, p.line = pos.line ∧ p.col = pos.col → p = pos) (hq : c.env.qual ++ "<lambda>" = q) (hdef : defaultsOf params c.env = ([], [])) (hfree : ∀ p ∈ scope.names, p.2 = .free → (c.env.cells.lookup p.1).isSome = true)
    (h : ∀ f ctv tb' cs' cv s', TabOk tb₀ q ls tb' cs' → InF g { c with pins := ps ++ (P, tabObj tb') :: cs' } s₀ s' → (∀ p ∈ cs', p.1 ≠ P) →
      s'.heap.get? f = some (kla_obj "<lambda>" q params body scope (cloFrom c.env.cells scope.names []) ((g.mg "__name__").getD .none) cv ctv) → s'.heap.CodeRec (.ref cv) q →
      (∀ p ∈ cs', p ∈ cs ∨ ∀ z ∈ c.pins, z.1 ≠ p.1) → Heap.ExtBut P s.heap s'.heap → Q (.ref f) s') :
    wpAny (model Pg g.w) c.A (eval (.Lambda params body scope pos) c.env) Q E s := by
  have pinP := F.vis.pin (P, tabObj tb) (by rw [hpins]; simp)
  have hcl := closureFor_eq (scope := scope) (env := c.env) hfree
  have on := F.ready.on
  refine kla_eval hdef ?_
  rw [hq]
  rcases tab.hit pos hpos with hn | ⟨c', oc, vs, t, hf, hm, hd, hv⟩
  · refine kla_makeFunction (mg := g.mg) hcl K.gl (G.gl.keeps on) K.code (K.hd.keeps on) pinP.1 tab.tr hn K.ne (BuiltinsAt.keep K.bl on) fun c' ctv h' tk hx hge hlt hrec htb => ?_
    obtain ⟨c₂, oc, vs, t, e2, hoc, hd, hv⟩ := id hrec
    cases e2
    have hfresh : ∀ z ∈ c.pins, z.1 ≠ c' := fun z hz e => by
      have := Heap.lt_size (F.vis.pin z hz).1
      rw [e] at this
      exact Nat.not_lt.mpr hge this
    have hcP : c' ≠ P := fun e => hfresh (P, tabObj tb) (by rw [hpins]; simp) e.symm
    have hdead : s.heap.get? c' = none := get_none_of_ge hge
    refine h h'.objs.size ctv (tb ++ #[rawInt pos.line, rawInt pos.col, .ref c']) ((c', oc) :: cs) c' _ ⟨(let ⟨more, e⟩ := tab.ext; ⟨more ++ #[rawInt pos.line, rawInt pos.col, .ref c'], by rw [e, Array.append_assoc]⟩), ?_, fun pos' hp' => ?_⟩ ?_ ?_ (Heap.get?_push_size _ rfl) (hrec.push _) ?_ (fun b o hb e => Heap.get?_push_of_some _ (hx b o hb e))
    · have := TriplesOk_snoc pos.line pos.col (.ref c') _ tab.tr
      simpa using this
    · have el : (tb ++ #[rawInt pos.line, rawInt pos.col, Value.ref c']).toList = tb.toList ++ [rawInt pos.line, rawInt pos.col, .ref c'] := by simp
      rw [el]
      by_cases e : pos'.line = pos.line ∧ pos'.col = pos.col
      · obtain rfl := hls pos' hp' e
        exact .inr ⟨c', oc, vs, t, codeAmong_snoc _ tab.tr hn, .head _, hd, hv⟩
      · rw [codeAmong_other _ tab.tr (fun w => e ⟨w.1.symm, w.2.symm⟩)]
        rcases tab.hit pos' hp' with w | ⟨c₃, o₃, v₃, t₃, w1, w2, w3⟩
        · exact .inl w
        · exact .inr ⟨c₃, o₃, v₃, t₃, w1, .tail _ w2, w3⟩
    · refine F.tab (fun b o hb e => Heap.get?_push_of_some _ (hx b o hb e)) pinP.1 hP₀ fun p hp => ?_
      rcases List.mem_append.mp hp with hp | hp
      · have w := F.vis.pin p (by rw [hpins]; exact List.mem_append_left _ hp)
        exact ⟨Heap.get?_push_of_some _ (hx _ _ (hps p hp) w.1), w.2⟩
      · rcases List.mem_cons.mp hp with rfl | hp
        · exact ⟨Heap.get?_push_of_some _ htb, pinP.2.1, tabPin⟩
        · rcases List.mem_cons.mp hp with rfl | hp
          · exact ⟨Heap.get?_push_of_some _ hoc, F.vis.fresh hdead, fieldsPin hd⟩
          · have w := F.vis.pin p (by rw [hpins]; exact List.mem_append_right _ (.tail _ hp))
            exact ⟨Heap.get?_push_of_some _ (hx _ _ (hcs p hp) w.1), w.2⟩
    · intro p hp
      rcases List.mem_cons.mp hp with rfl | hp
      · exact hcP
      · exact hcs p hp
    · intro p hp
      rcases List.mem_cons.mp hp with rfl | hp
      · exact .inr hfresh
      · exact .inl hp
  · have hcsin := F.vis.pin (c', oc) (by rw [hpins]; exact List.mem_append_right _ (.tail _ hm))
    refine kla_makeFunctionHit (mg := g.mg) hcl K.gl (G.gl.keeps on) K.code (K.hd.keeps on) pinP.1 tab.tr hf (BuiltinsAt.keep K.bl on) fun ctv h' tk hk hsz => ?_
    have hk' : ∀ b o, s.heap.get? b = some o → ∀ ob, (h'.push ob).get? b = some o := fun b o e ob => Heap.get?_push_of_some _ (hk b o e)
    refine h h'.objs.size ctv tb cs c' _ tab ?_ hcs (Heap.get?_push_size _ rfl) ⟨c', oc, vs, t, rfl, hk' _ _ hcsin.1 _, hd, hv⟩ (fun p hp => .inl hp) (fun b o _ e => hk' b o e _)
    refine F.tab (fun b o _ e => hk' b o e _) pinP.1 hP₀ fun p hp => ?_
    have w := F.vis.pin p (by rw [hpins]; exact hp)
    exact ⟨hk' _ _ w.1 _, w.2⟩
end
end Mine
end
section
open PySem PySem.W PyProof.Rows
set_option Elab.async false
set_option linter.unusedVariables false
set_option maxRecDepth 20000
namespace Mine
section
variable {g : G} {c : Fc} {s₀ s : Shared}
/-- the frame of a lambda -/
def lamF (q : Str) (scope : Scope) (L f : Addr) (cd : Value) (clo : List (Str × Addr)) (A : Around) (ρ : List (Str × AV)) : Fc :=
  { env := envX q scope L f cd clo, A := A.deeper (envX q scope L f cd clo), own := fun _ => none, pins := [], ext := [], asg := fun _ => false, ρ := ρ }
theorem fn_lam {n : Nat} {f c' fc fl : Addr} {q : Str} {params : Arguments} {scope : Scope} {clo : List (Str × Addr)} {pm ctv : Value} {body : Expr} {i : Int} {av res : AV} (G : g.Ok)
    (ho : g.h₀.get? f = some (kla_obj "<lambda>" q params body scope clo pm c' ctv)) (hcd : g.h₀.CodeRec (.ref c') q)
    (hb : ∀ v, bindArgs (kla_fn "<lambda>" q params body scope clo pm (.ref c') ctv) ⟨[v], []⟩ = pure [(("choice" : Str), v)])
    (hloc : scope.names.lookup ("choice" : Str) = some .local) (hfree : scope.names.lookup ("fits" : Str) ≠ some .local) (hcell : ∀ x ∈ scope.names, x.2 ≠ .cell) (hk : scope.kind = .function) (hco : scope.isCoroutine = false) (hgen : scope.isGenerator = false)
    (hclo : clo = [(("fits" : Str), fc)]) (hfc : g.h₀.IsCell fc (some (.ref fl))) (hv : Val (fun _ => False) g.h₀ av (.ref fl))
    (hbody : ∀ (L : Addr) (A : Around), OkA n (lamF q scope L f (.ref c') clo A [(("choice" : Str), .int i), ("fits", av)]).A → Ev g (lamF q scope L f (.ref c') clo A [(("choice" : Str), .int i), ("fits", av)]) body res) (hres : ∀ H h hid h' v, Val hid h res v → Val H h' res v) : Fn g (n + 1) (.ref f) [.int i] res := by
  intro H A s vs P E ok on hL hvs hP
  obtain ⟨v, r, rfl, h1, h2⟩ := hvs.cons'
  obtain rfl := h2.nil'
  refine wpAny_call (kla_callFunE (by have := ok.dp; show A.depth < recursionLimit; unfold recursionLimit; omega) (on _ _ ho) rfl hco hgen rfl (hcd.keeps on) ?_)
  rw [hb]
  refine wpAny_pure (wpAny_newFunctionEnv hcell (fun x hx => by simp at hx; subst hx; exact hloc) (fun h₁ hns hsb => ?_) hk)
  have hk₁ : ∀ b o, s.heap.get? b = some o → h₁.get? b = some o := fun b o e => hsb.extBut b o (Nat.ne_of_lt (Heap.lt_size e)) (Heap.get?_push_of_some _ e)
  refine ⟨(G.nl.keeps on).keeps hk₁, ?_⟩
  have hn : s.heap.get? s.heap.objs.size = none := get_none_of_ge (Nat.le_refl _)
  have ok' : OkA n (lamF q scope s.heap.objs.size f (.ref c') clo A [(("choice" : Str), .int i), ("fits", av)]).A := ⟨ok.hd, by have := ok.dp; show A.depth + 1 + n < 1000; omega, by have := ok.un; show A.units + 3 + 20 * n < 9900; omega⟩
  have F : InF g (lamF q scope s.heap.objs.size f (.ref c') clo A [(("choice" : Str), .int i), ("fits", av)]) s { s with heap := h₁, toks := s.toks + 1 } := by
    refine ⟨⟨h₁, _, rfl⟩, hk₁, on, ⟨⟨_, hns, fun x a hx hr => ?_⟩, fun x a hx hr => ?_, fun a l e => (nomatch e), fun p hp => (nomatch hp), fun p hp => (nomatch hp), fun x a e => ?_⟩, hn, fun x a e => (nomatch e), fun x y a e => (nomatch e)⟩
    · have hx' : scope.names.lookup x = some .local := hx
      by_cases w : x = "choice"
      · subst w
        have : a = .int i := by have : List.lookup ("choice" : Str) [("choice", AV.int i), ("fits", av)] = some a := hr; simpa using this.symm
        subst this
        refine ⟨v, rfl, ?_⟩
        obtain ⟨t, rfl⟩ := h1.int'
        exact vint
      · have hr' : List.lookup x [("choice", AV.int i), ("fits", av)] = some a := hr
        rw [List.lookup_cons_ne w] at hr'
        by_cases w2 : x = "fits"
        · subst w2; exact absurd hx' hfree
        · rw [List.lookup_cons_ne w2] at hr'; cases hr'
    · have hx' : scope.names.lookup x = some .cell ∨ scope.names.lookup x = some .free := hx
      have hr' : List.lookup x [("choice", AV.int i), ("fits", av)] = some a := hr
      by_cases w : x = "choice"
      · subst w; rw [hloc] at hx'; rcases hx' with z | z <;> cases z
      · rw [List.lookup_cons_ne w] at hr'
        by_cases w2 : x = "fits"
        · subst w2
          have : a = av := by simpa using hr'.symm
          subst this
          refine ⟨fc, .ref fl, ?_, (hfc.keeps on).keeps hk₁, ?_⟩
          · show clo.lookup ("fits" : Str) = some fc
            rw [hclo]; rfl
          · exact (hv.keep (fun a o e => hk₁ _ _ (on a o e))).weak fun a q => by unfold Fc.hid lamF at q; cases q
        · rw [List.lookup_cons_ne w2] at hr'; cases hr'
    · have e' : clo.lookup x = some a := e
      rw [hclo] at e'
      by_cases w2 : x = "fits"
      · subst w2
        have : fc = a := by simpa using e'
        subst this
        exact ⟨_, (hfc.keeps on).keeps hk₁⟩
      · rw [List.lookup_cons_ne w2] at e'; cases e'
  exact kla_codeExpr (wpAny_mono ((hbody s.heap.objs.size A ok').run _ _ F.ready) (fun v s' ⟨k, x⟩ => hP v s' (F.kp.trans k) (hres _ _ _ _ _ x)) fun _ _ x => x)
end
end Mine
end
section
open PySem PySem.W PyProof.Rows
set_option Elab.async false
set_option linter.unusedVariables false
set_option maxRecDepth 20000
namespace Mine
section
variable {g : G} {c : Fc} {s₀ s : Shared}
theorem Vals.extBut {hid : Addr → Prop} {h h' : Heap} {P : Addr} {tb : Array Value} (hx : Heap.ExtBut P h h') (hP : h.get? P = some (tabObj tb)) {l : List AV} {vs : List Value} (x : Vals hid h l vs) : Vals hid h' l vs :=
  x.imp (fun _ _ _ q => q) fun a its _ z => plain_but (wr := fun b => b = P) (fun b o q e => hx b o q e) (fun b hb o e its n => by
    rw [hb, hP] at e; cases e; exact fun z => by cases z) z
/-- bisect's call with the lambda as its key -/
theorem key_call {n i : Nat} {e₁ e₂ lbody : Expr} {l : List Int} {b : Bool} {fs : List Bool} {f : Int → Bool} {cut : Nat} {ps cs : List (Addr × Obj)} {P c₀ : Addr} {tb tb₀ : Array Value} {q : Str} {ls : List Pos} {params : Arguments} {scope : Scope} {lpos kpos np pos : Pos} {fn : Str} {Q E : Value → Shared → Prop}
    (T : Tops g) (hi : i ∈ [1, 3]) (F : InF g c s₀ s) (ok : OkA (n + 2) c.A) (K : CodeG g c c₀ P)
    (hpins : c.pins = ps ++ (P, tabObj tb) :: cs) (hps : ∀ p ∈ ps, p.1 ≠ P) (hcs : ∀ p ∈ cs, p.1 ≠ P) (hP₀ : s₀.heap.get? P = none) (tab : TabOk tb₀ q ls tb cs) (hpos : lpos ∈ ls)
    (hls : ∀ p ∈ ls, p.line = lpos.line ∧ p.col = lpos.col → p = lpos) (hq : c.env.qual ++ "<lambda>" = q) (hdef : defaultsOf params c.env = ([], []))
    (he₁ : Ev g c e₁ (.list (l.map .int))) (he₂ : Ev g c e₂ (.bool b)) (hfits : c.ρ.lookup ("fits" : Str) = some (.list (fs.map .bool))) (hfk : c.env.kindOf "fits" = some .cell)
    (hclo : cloFrom c.env.cells scope.names [] = [(("fits" : Str), (c.env.cells.lookup ("fits" : Str)).getD 0)])
    (hb : ∀ clo pm c' ctv v, bindArgs (kla_fn "<lambda>" q params lbody scope clo pm (.ref c') ctv) ⟨[v], []⟩ = pure [(("choice" : Str), v)])
    (hloc : scope.names.lookup ("choice" : Str) = some .local) (hfree : scope.names.lookup ("fits" : Str) = some .free) (hcell : ∀ x ∈ scope.names, x.2 ≠ .cell) (hfr : ∀ p ∈ scope.names, p.2 = .free → p.1 = "fits") (hk : scope.kind = .function) (hco : scope.isCoroutine = false) (hgen : scope.isGenerator = false)
    (hbody : ∀ (g' : G) (L fa : Addr) (cd : Value) clo (A : Around) (j : Nat), j < l.length → OkA 0 A → Ev g' (lamF q scope L fa cd clo A [(("choice" : Str), .int (l.getD j 0)), ("fits", .list (fs.map .bool))]) lbody (.bool (f (l.getD j 0))))
    (hB : ∀ (g' : G) k, Tops g' → (∃ o fd, g'.h₀.get? k = some o ∧ o.data = .func fd) → (∀ j < l.length, Fn g' 1 (.ref k) [.int (l.getD j 0)] (.bool (f (l.getD j 0)))) → BodyOk g' 1 i [.list (l.map .int), .bool b, .int 0, .none, .raw (.ref k)] (.int cut))
    (h : ∀ t tb' cs' s', TabOk tb₀ q ls tb' cs' → InF g { c with pins := ps ++ (P, tabObj tb') :: cs' } s₀ s' → (∀ p ∈ cs', p.1 ≠ P) → (∀ p ∈ cs', p ∈ cs ∨ ∀ z ∈ c.pins, z.1 ≠ p.1) → Heap.ExtBut P s.heap s'.heap → Q (.int cut t) s')
    (hfn : Stmt.dName (stAt i) = fn) (hfc : FcF c) (hkn : c.env.kindOf fn = some .globalImplicit) (hdn : (fn == ("__debug__" : Str)) = false)
    (hs : starEach [e₁, e₂] c.env = (false, eval e₁ c.env) :: starEach [e₂] c.env) (hs2 : starEach [e₂] c.env = (false, eval e₂ c.env) :: starEach [] c.env) :
    wpAny (model Pg g.w) c.A (eval (.Call (.Name fn np) [e₁, e₂] [⟨some "key", .Lambda params lbody scope lpos, kpos⟩] pos) c.env) Q E s := by
  subst hfn
  obtain ⟨a, hm, ⟨o, fd, ho, hd⟩, _⟩ : ∃ a, g.mg (Stmt.dName (stAt i)) = some (.ref a) ∧ (∃ o fd, g.h₀.get? a = some o ∧ o.data = .func fd) ∧ True := by
    have hi' : i ∈ [1, 2, 3] := by simp at hi ⊢; omega
    obtain ⟨a, pm, cd, doc, dT, t, kD, m, hm, D, hT, hN, hk⟩ := T.bis i hi'
    obtain ⟨o, h1, h2⟩ := D.ho
    exact ⟨a, hm, ⟨o, _, h1, h2⟩, trivial⟩
  have N : FName g c (Stmt.dName (stAt i)) (.ref a) := ⟨hkn, hfc.fn, hfc.gl, hfc.bl, .inl hm, hdn⟩
  refine wpAny_Call_Name_kw (N.load T.ok F.ready ?_)
  refine callWith_function_kw (o := o) (fd := fd) (evalArgs_kw2 rfl ?_ hs)
  refine wpAny_mono ((evs_cons' he₁ (evs_cons' he₂ evs_nil hs2) hs).run s E pos F.ready) (fun vs s₁ ⟨k₁, x₁⟩ => ?_) fun _ _ x => x
  refine kwAll_cons ?_
  have F₁ := F.more k₁
  have hcl : ∃ fc, c.env.cells.lookup ("fits" : Str) = some fc := by
    obtain ⟨fc, v, e, _⟩ := F₁.vis.cel "fits" _ (.inl hfk) hfits
    exact ⟨fc, e⟩
  obtain ⟨fc, hfc'⟩ := hcl
  refine ev_lam (ps := ps) (cs := cs) (tb := tb) (ls := ls) T.ok F₁ K hpins hps hcs hP₀ tab hpos hls hq hdef (fun p hp hf => by rw [hfr p hp hf, hfc']; rfl) fun k ctv tb' cs' cv s₂ tab' F₂ hcs' hk2 hrec hnew hx => ?_
  refine kwAll_nil ?_
  show (s₂.heap.get? a = some o ∧ _) ∧ wpAny _ c.A (call (.ref a) ([] ++ vs) [("key", .ref k)]) _ _ _
  have hPs := (F₁.vis.pin (P, tabObj tb) (by rw [hpins]; simp)).1
  have hv₂ : Vals c.hid s₂.heap [.list (l.map .int), .bool b] vs := x₁.extBut hx hPs
  have on₂ : g.On s₂.heap := F₂.ready.on
  refine ⟨⟨on₂ _ _ ho, hd⟩, ?_⟩
  have T' : Tops (g.up s₂.heap) := T.up on₂
  obtain ⟨fc2, v, e2, hc2, hvv⟩ := F₂.vis.cel "fits" (.list (fs.map .bool)) (.inl hfk) hfits
  have e2' : c.env.cells.lookup ("fits" : Str) = some fc2 := e2
  have : fc2 = fc := by rw [hfc'] at e2'; exact (Option.some.inj e2').symm
  subst this
  obtain ⟨fl, its, rfl, _, hp3, hv3⟩ := hvv.list'
  have hvF : Val (fun _ => False) s₂.heap (.list (fs.map .bool)) (.ref fl) := hvv.weak fun _ q => q.elim
  have hcl2 : cloFrom c.env.cells scope.names [] = [(("fits" : Str), fc2)] := by rw [hclo, hfc']; rfl
  have hFn : ∀ j < l.length, Fn (g.up s₂.heap) 1 (.ref k) [.int (l.getD j 0)] (.bool (f (l.getD j 0))) := fun j hj =>
    fn_lam (g := g.up s₂.heap) T'.ok hk2 hrec (hb _ _ _ _) hloc (by rw [hfree]; exact nofun) hcell hk hco hgen hcl2 hc2 hvF (fun L A ok' => hbody _ _ _ _ _ _ j hj ⟨ok'.hd, by have := ok'.dp; have e : A.depth + 1 + 0 < 1000 := this; omega, by have := ok'.un; have e : A.units + 3 + 20 * 0 < 9900 := this; omega⟩) fun H h hid h' v q => by obtain rfl := q.bool'; exact vbool
  have hbo := hB (g.up s₂.heap) k T' ⟨_, _, hk2, rfl⟩ hFn
  obtain ⟨a', hm', _, hcall⟩ := callK T' hi hbo
  have : a' = a := by
    have q : g.mg (Stmt.dName (stAt i)) = some (.ref a') := hm'
    rw [hm] at q; cases q; rfl
  subst this
  refine hcall c.hid c.A s₂ vs _ _ (ok.le (by omega)) (fun _ _ e => e) F₂.ready.lists hv₂ fun r s₃ k₃ x₃ => ?_
  obtain ⟨t, rfl⟩ := x₃.int'
  exact h t tb' cs' s₃ tab' (F₂.more k₃) hcs' hnew fun b o hb e => k₃.heap _ _ (hx b o hb (k₁.heap _ _ e))
end
end Mine
end
section
open PySem PySem.W PyProof.Rows
set_option Elab.async false
set_option linter.unusedVariables false
set_option maxRecDepth 20000
namespace Mine
section
variable {g : G} {c : Fc} {s₀ s : Shared}
def szP (sc : List Int) : Nat := if 2 < sc.length then 4 else 3
def plainL (n : Nat) : List Nat := ([97, 98, 99, 100] : List Nat).take n
def dfltL : List Int := [244980, 136686, 39296]
def drawnK (sc : List Int) (k : Nat) : Nat := ((if k < sc.length then sc.getD k 0 else dfltL.getD k 0).fmod 8000000).toNat
def drawnP (sc : List Int) : List Nat := (List.range 3).map (drawnK sc)
def typedP (x : Nat) : List Nat := (List.range 3).map fun k => signP (x / 20 ^ k % 20) (x / 8000 + k)
def words0 (n : Nat) (xs : List Nat) : List Str := (xs.map typedP).filterMap fun t => if t.any badP then none else some (lettersP t (plainL n))
def maskP (n x : Nat) : Int := ((List.range n).filterMap fun k => if (meantP x).contains k then some ((2 : Int) ^ k) else none).sum
def masksP (n : Nat) (xs : List Nat) : List Int := (xs.map (maskP n)).filterMap fun m => if 0 < m then some m else none
def wordsP (n : Nat) (xs : List Nat) : List Str := (words0 n xs).filterMap fun w => if w != SS (plainL n) then some w else none
abbrev sS (t : List Nat) : AV := .str (SS t)
theorem sS_inj : ∀ a b, sS a = sS b → a = b := fun a b h => SS_inj (AV.str.inj h)
theorem eqk_nI : EqKind nI := fun hid h A s x y v w a b => by
  have := eqk_int hid h A s (x : Int) (y : Int) v w a b
  have e : ((x : Int) == (y : Int)) = (x == y) := by
    rw [Bool.eq_iff_iff, beq_iff_eq, beq_iff_eq]
    omega
  rw [e] at this
  exact this
theorem c_nin {l : List Nat} {x : Nat} : Cmp g c .In (.int x) (.list (l.map nI)) (l.contains x) := c_lin (f := nI) eqk_nI fun _ _ _ _ _ a b => by
  obtain ⟨t, rfl⟩ := a.int'
  obtain ⟨u, e⟩ := b.int'
  have := (Value.int.inj e).1
  omega
abbrev lawF (fd : FuncData) (L a : Addr) (A : Around) (pins : List (Addr × Obj)) (ρ : List (Str × AV)) : Fc :=
  { env := callEnvC fd L a, A := A.deeper (callEnvC fd L a), own := fun _ => none, pins := pins, ext := [], asg := fun _ => true, ρ := ρ }
abbrev lawD (pm cd doc : Value) : FuncData := fdOf (stAt 34) pm cd doc .none .none
theorem plain_slice (n : Nat) (h : n ≤ 4) : Txt.slice "abcd" none (some (n : Int)) = SS (plainL n) := slice_to [97, 98, 99, 100] n h
theorem join3 (a b d : Nat) : Txt.join "" [one a, one b, one d] = SS [a, b, d] := rfl
theorem szP_le (sc : List Int) : szP sc ≤ 4 := by unfold szP; split <;> omega
theorem szP_3 (sc : List Int) : 3 ≤ szP sc := by unfold szP; split <;> omega
theorem plain_len (n : Nat) (h : n ≤ 4) : (plainL n).length = n := by unfold plainL; rw [List.length_take]; show min n 4 = n; omega
/-- the names behind the first part -/
def ρA (sc : List Int) : List (Str × AV) :=
  [("script", .list (sc.map .int)), ("size", nI (szP sc)), ("plain", sS (plainL (szP sc))), ("masks", .list ((masksP (szP sc) (drawnP sc)).map .int)), ("words", .list ((wordsP (szP sc) (drawnP sc)).map .str))]
set_option maxHeartbeats 2000000 in
theorem law_a {sc : List Int} {pm cd doc : Value} {L a : Addr} {A : Around} {pins : List (Addr × Obj)} {Q : Flow → Shared → Prop} {E : Value → Shared → Prop} (T : Tops g) (hsc : sc.length ≤ 63) (ok : OkA 8 (lawF (lawD pm cd doc) L a A pins [("script", .list (sc.map .int))]).A)
    (F : InF g (lawF (lawD pm cd doc) L a A pins [("script", .list (sc.map .int))]) s₀ s)
    (h : ∀ s', InF g (lawF (lawD pm cd doc) L a A pins (ρA sc)) s₀ s' → WP g (lawF (lawD pm cd doc) L a A pins (ρA sc)).A (lawF (lawD pm cd doc) L a A pins (ρA sc)).env ((Stmt.dBody (stAt 34)).drop 8) Q E s') :
    WP g (lawF (lawD pm cd doc) L a A pins [("script", .list (sc.map .int))]).A (lawF (lawD pm cd doc) L a A pins [("script", .list (sc.map .int))]).env (Stmt.dBody (stAt 34)) Q E s := by
  have hn := szP_le sc
  have hlenS : (sc.map AV.int).length ≤ sizeLine := by rw [List.length_map]; exact sz8 (by omega)
  refine x_assign F (av := nI (szP sc)) (ev_if (ts_cmp (ev_lenl T (ev_cell rfl) hlenS) ev_int c_gt) (fun hb => ev_int.cast ?_) fun hb => ev_int.cast ?_) ⟨rfl, .inr ⟨rfl, rfl, rfl⟩⟩ fun s₂ F => ?_
  · rw [List.length_map] at hb
    have := of_decide_eq_true hb
    unfold szP
    rw [if_pos (by omega)]
    rfl
  · rw [List.length_map] at hb
    have := of_decide_eq_false hb
    unfold szP
    rw [if_neg (by omega)]
    rfl
  refine x_assign F (Ev.cast (ev_sslice ev_str evp_none (evp_some (ev_cell rfl)) (sz8 (by decide))) (by rw [plain_slice _ hn])) ⟨rfl, .inr ⟨rfl, rfl, rfl⟩⟩ fun s₂ F => ?_
  refine x_compM F (emb := nI) (emb' := nI) (l := List.range 3) (drawnK sc) (CompOk.of rfl (by decide)) (.inl rfl) nI_inj (src_rngN (n := 3) T ev_int ok.hd (by decide)) (sz8 (by decide)) (fun k hk C D l' ps zs => ?_) fun s₂ F => ?_
  · have hk3 := List.mem_range.mp hk
    refine Ev.cast (ev_mod (i := if k < sc.length then sc.getD k 0 else dfltL.getD k 0) (ev_if (ts_cmp (ev_local rfl) (ev_lenl T (ev_cell rfl) hlenS) c_lt) (fun hb => ?_) fun hb => ?_) ev_int (by decide)) ?_
    · rw [List.length_map] at hb
      have := of_decide_eq_true hb
      rw [if_pos (by omega)]
      exact ev_item (ev_cell rfl) (ev_local rfl) (by omega) (by omega) (by rw [Int.toNat_natCast]; exact getD_get (by omega))
    · rw [List.length_map] at hb
      have := of_decide_eq_false hb
      rw [if_neg (by omega)]
      exact ev_item (l := dfltL.map .int) (Ev.cast ev_ints (castL (by decide +kernel))) (ev_local rfl) (by omega) (by omega) (by rw [Int.toNat_natCast]; exact getD_get (by show k < 3; omega))
    · unfold drawnK
      have h0 := Int.fmod_nonneg_of_pos (if k < sc.length then sc.getD k 0 else dfltL.getD k 0) (b := 8000000) (by decide)
      show AV.int _ = AV.int _
      rw [Int.toNat_of_nonneg h0]
  refine x_compM F (emb := nI) (emb' := sS) (l := drawnP sc) typedP (CompOk.of rfl (by decide)) (.inr rfl) nI_inj (src_list (ev_local rfl) ok.hd) (sz8 (by simp [drawnP])) (fun x hx C D l' ps zs => ?_) fun s₂ F => ?_
  · refine Ev.cast (ev_join (x := "") (l := (List.range 3).map fun k => one (signP (x / 20 ^ k % 20) (x / 8000 + k))) ev_str (ev_compM (emb := nI) (emb' := .str) (l := List.range 3) (fun k => one (signP (x / 20 ^ k % 20) (x / 8000 + k))) (CompOk.of rfl (by decide)) (.inl rfl) nI_inj (src_rngN (n := 3) T ev_int ok.hd (by decide)) (sz8 (by decide)) fun k hk C' D' l'' ps' zs' => ?_) ?_) ?_
    · have hk3 := List.mem_range.mp hk
      have hp : ((20 : Int) ^ k) = ((20 ^ k : Nat) : Int) := by simp
      have hle : 20 ^ k ≤ 400 := by
        have : k = 0 ∨ k = 1 ∨ k = 2 := by omega
        rcases this with rfl | rfl | rfl <;> decide
      have hpos : 0 < 20 ^ k := Nat.pow_pos (by decide)
      exact ev_fn T (f_sign T 0 _ _ (Nat.mod_lt _ (by decide))) (ok.le (by decide)) (evs_cons (Ev.cast (ev_mod (ev_div (ev_cell rfl) (Ev.cast (ev_pow ev_int (ev_local rfl) (by omega) (by omega) (by decide)) (congrArg AV.int (show _ = ((20 ^ k : Nat) : Int) by rw [Int.toNat_natCast, hp]))) (by omega) (by omega)) ev_int (by decide)) (by rw [fdivN, show ((20 : Int)) = ((20 : Nat) : Int) from rfl, fmodN]))
        (evs_cons (Ev.cast (ev_add (ev_div (ev_cell rfl) ev_int (by decide) (by decide)) (ev_local rfl)) (by rw [show ((8000 : Int)) = ((8000 : Nat) : Int) from rfl, fdivN, ← Int.natCast_add])) evs_nil))
    · have e : ("" : Str).length = 0 := rfl
      rw [e]
      have : (((List.range 3).map fun k => one (signP (x / 20 ^ k % 20) (x / 8000 + k))).map (·.length)).sum ≤ 3 * 1 := join_sum (fun y hy => by
        obtain ⟨k, _, rfl⟩ := List.mem_map.mp hy
        exact Nat.le_refl 1) (by simp)
      omega
    · show AV.str _ = AV.str _
      congr 1
  refine x_assign F (av := .list ((words0 (szP sc) (drawnP sc)).map .str)) (ev_compF (emb := sS) (emb' := .str) (l := (drawnP sc).map typedP) (fun t => if t.any badP then none else some (lettersP t (plainL (szP sc)))) (CompOk.of rfl (by decide)) (.inl rfl) sS_inj (src_list (ev_local rfl) ok.hd) (sz8 (by simp [drawnP])) fun t ht C D l' ps zs => ⟨?_, ?_⟩) ⟨rfl, .inr ⟨rfl, rfl, rfl⟩⟩ fun s₂ F => ?_
  · refine tests_one (Ts.cast (ts_not (ts_value (ev_fn T (f_refused T 0 t) (ok.le (by decide)) (evs_cons (ev_local rfl) evs_nil)) truth_bool)) ?_)
    cases t.any badP <;> rfl
  · intro b hb
    split at hb
    · cases hb
    · cases hb
      obtain ⟨x, hx, rfl⟩ := List.mem_map.mp ht
      exact ev_fn T (f_letters T 0 _ _ (by simp [typedP]) (by rw [plain_len _ hn]; exact hn)) (ok.le (by decide)) (evs_cons (ev_local rfl) (evs_cons (ev_cell rfl) evs_nil))
  refine x_compM F (emb := nI) (emb' := .int) (l := drawnP sc) (maskP (szP sc)) (CompOk.of rfl (by decide)) (.inr rfl) nI_inj (src_list (ev_local rfl) ok.hd) (sz8 (by simp [drawnP])) (fun x hx C D l' ps zs => ?_) fun s₂ F => ?_
  · refine ev_sum T (ev_compF (emb := nI) (emb' := .int) (l := List.range (szP sc)) (fun k => if (meantP x).contains k then some ((2 : Int) ^ k) else none) (CompOk.of rfl (by decide)) (.inl rfl) nI_inj (src_rngN T (ev_cell rfl) ok.hd (by omega)) (by rw [List.length_range]; exact sz8 (by omega)) fun k hk C' D' l'' ps' zs' => ⟨?_, ?_⟩) ok.hd
    · refine tests_one (Ts.cast (ts_cmp (ev_local rfl) (ev_fn T (f_meant T 0 x) (ok.le (by decide)) (evs_cons (ev_cell rfl) evs_nil)) c_nin) ?_)
      cases (meantP x).contains k <;> rfl
    · intro b hb
      have hk3 := List.mem_range.mp hk
      split at hb
      · cases hb
        exact Ev.cast (ev_pow ev_int (ev_local rfl) (by omega) (by omega) (by decide)) (by rw [Int.toNat_natCast])
      · cases hb
  refine x_compF F (emb := .int) (emb' := .int) (l := (drawnP sc).map (maskP (szP sc))) (fun m => if 0 < m then some m else none) (CompOk.of rfl (by decide)) (.inl rfl) int_inj (src_list (ev_local rfl) ok.hd) (sz8 (by simp [drawnP])) (fun m hm C D l' ps zs => ⟨?_, ?_⟩) fun s₂ F => ?_
  · refine tests_one (Ts.cast (ts_cmp (ev_local rfl) ev_int c_gt) ?_)
    by_cases q : 0 < m <;> simp [q]
  · intro b hb
    split at hb
    · cases hb; exact ev_local rfl
    · cases hb
  refine x_assign F (av := .list ((wordsP (szP sc) (drawnP sc)).map .str)) (ev_compF (emb := .str) (emb' := .str) (l := words0 (szP sc) (drawnP sc)) (fun w => if w != SS (plainL (szP sc)) then some w else none) (CompOk.of rfl (by decide)) (.inl rfl) str_inj (src_list (ev_cell rfl) ok.hd) (sz8 (Nat.le_trans (List.length_filterMap_le _ _) (by simp [drawnP]))) fun t ht C D l' ps zs => ⟨?_, ?_⟩) ⟨rfl, .inr ⟨rfl, rfl, rfl⟩⟩ fun s₂ F => ?_
  · refine tests_one (Ts.cast (ts_cmp (ev_local rfl) (ev_cell rfl) c_sne) ?_)
    cases t != SS (plainL (szP sc)) <;> rfl
  · intro b hb
    split at hb
    · cases hb; exact ev_local rfl
    · cases hb
  exact h _ (F.sub ⟨rfl, rfl, rfl, rfl, rfl, trivial⟩)
end
end Mine
end
section
open PySem PySem.W PyProof.Rows
set_option Elab.async false
set_option linter.unusedVariables false
set_option maxRecDepth 20000
namespace Mine
section
variable {g : G} {c : Fc} {s₀ s : Shared}
/-- a choice's letters -/
def wrL (n ch : Nat) : List Nat := (List.range n).map fun k => if ch / 2 ^ k % 2 = 1 then 65 + k else 97 + k
structure LawOk (n : Nat) (ms : List Int) (ws : List Str) : Prop where
  n3 : 3 ≤ n
  n4 : n ≤ 4
  len : ms.length ≤ 3
  wr : ∀ ch : Nat, ch < 2 ^ n → writtenP ch (plainL n) = SS (wrL n ch)
  mem : ∀ m ∈ ms, ∃ k : Nat, m = k ∧ 0 < k ∧ k < 2 ^ n
  ws : ws = ms.map fun m => SS (wrL n m.toNat)
  lev : ∀ m ∈ ms, ∀ ch : Nat, ch < 2 ^ n → (levP (wrL n m.toNat) (wrL n ch) (manyP ch - manyP m) == manyP ch - manyP m) = inP m ch
def ρB (sc : List Int) (n : Nat) (ms : List Int) (ws : List Str) : List (Str × AV) :=
  [("script", .list (sc.map .int)), ("size", nI n), ("plain", sS (plainL n)), ("masks", .list (ms.map .int)), ("words", .list (ws.map .str))]
def fitB (ms : List Int) (ch : Nat) : Bool := (ms.map fun m => inP m ch).contains true
def fitsL (ms : List Int) (i : Nat) : List Bool := (List.range i).map (fitB ms)
def ρC (n : Nat) (ms : List Int) : List (Str × AV) := [("size", nI n), ("masks", .list (ms.map .int)), ("fits", .list ((fitsL ms (2 ^ n)).map .bool))]
theorem wrL_len (n ch : Nat) : (wrL n ch).length = n := by simp [wrL]
theorem pow4 {n : Nat} (h : n ≤ 4) : 2 ^ n ≤ 16 := by
  have : n = 0 ∨ n = 1 ∨ n = 2 ∨ n = 3 ∨ n = 4 := by omega
  rcases this with rfl | rfl | rfl | rfl | rfl <;> decide
theorem ev_pow2 {e : Expr} {n : Nat} {k : Nat} {p pos : Pos} (h : Ev g c e (nI n)) (hn : n ≤ 4) : Ev g c (.BinOp (.Constant (.int 2) k p) .Pow e pos) (nI (2 ^ n)) :=
  Ev.cast (ev_pow ev_int h (by omega) (by omega) (by decide)) (by rw [Int.toNat_natCast]; show AV.int _ = AV.int _; congr 1)
set_option maxHeartbeats 2000000 in
theorem law_b {sc : List Int} {n : Nat} {ms : List Int} {ws : List Str} {pm cd doc : Value} {L a : Addr} {A : Around} {pins : List (Addr × Obj)} {E : Value → Shared → Prop} {Q : Flow → Shared → Prop} (T : Tops g) (W : LawOk n ms ws) (ok : OkA 8 (lawF (lawD pm cd doc) L a A pins (ρB sc n ms ws)).A)
    (F : InF g (lawF (lawD pm cd doc) L a A pins (ρB sc n ms ws)) s₀ s)
    (h : ∀ s', InF g (lawF (lawD pm cd doc) L a A pins (ρC n ms)) s₀ s' → WP g (lawF (lawD pm cd doc) L a A pins (ρC n ms)).A (lawF (lawD pm cd doc) L a A pins (ρC n ms)).env ((Stmt.dBody (stAt 34)).drop 11) Q E s') :
    WP g (lawF (lawD pm cd doc) L a A pins (ρB sc n ms ws)).A (lawF (lawD pm cd doc) L a A pins (ρB sc n ms ws)).env ((Stmt.dBody (stAt 34)).drop 8) Q E s := by
  have h4 := W.n4
  have hl3 := W.len
  have hp := pow4 h4
  have hwl : ws.length = ms.length := by rw [W.ws, List.length_map]
  have hmem : ∀ m ∈ ms, writtenP m (plainL n) = SS (wrL n m.toNat) := fun m hm => by
    obtain ⟨k, rfl, _, hk⟩ := W.mem m hm
    rw [W.wr k hk]; rfl
  refine x_if F (ts_cmp (ev_cell rfl) (ev_compM (emb := .int) (emb' := .str) (l := ms) (fun m => writtenP m (plainL n)) (CompOk.of rfl (by decide)) (.inl rfl) int_inj (src_list (ev_local rfl) ok.hd) (sz8 (by omega)) fun m hm C D l' ps zs => ?_) (c_lne eqk_str (ok.le (by decide)))) (fun hb s₂ F => ?_) fun hb s₂ F => x_nil ?_
  · exact ev_fn T (f_written T 0 m _ (by rw [plain_len _ h4]; exact h4)) (ok.le (by decide)) (evs_cons (ev_local rfl) (evs_cons (ev_cell rfl) evs_nil))
  · exfalso
    have e : ws = ms.map fun m => writtenP m (plainL n) := by
      rw [W.ws]
      exact List.map_congr_left fun m hm => (hmem m hm).symm
    rw [← e] at hb
    simp at hb
  refine x_own F evs_nil (sz8 (Nat.zero_le _)) ⟨rfl, .inr ⟨rfl, rfl, rfl⟩⟩ fun b s₂ hb hn F => ?_
  refine x_for F (src_rngN T (ev_pow2 (ev_cell rfl) h4) ok.hd (by omega)) ⟨rfl, .inr ⟨rfl, rfl, rfl⟩⟩ (fun _ => True)
    (fun i => [("script", .list (sc.map .int)), ("size", nI n), ("plain", sS (plainL n)), ("masks", .list (ms.map .int)), ("words", .list (ws.map .str)), ("fits", .raw (.ref b))])
    (fun i d => if d = b then some ((fitsL ms i).map .bool) else none) (fun i d => ?_) ?_ ⟨rfl, rfl, rfl, rfl, rfl, rfl, trivial⟩ trivial (fun i av hav _ s₃ xs ps E' F => ?_) fun s' _ F => ?_
  · show _ = (if d = b then _ else none).isSome
    by_cases q : d = b <;> simp [q]
  · funext d
    show _ = if d = b then _ else none
    by_cases q : d = b <;> simp [q, fitsL]
  · rw [List.getElem?_map, Option.map_eq_some_iff] at hav
    obtain ⟨i', hi', rfl⟩ := hav
    obtain ⟨hi, rfl⟩ := List.getElem?_eq_some_iff.mp hi'
    rw [List.length_range] at hi
    rw [List.getElem_range] at F
    refine x_assign F (av := .list ((ms.map fun m => manyP i - manyP m).map .int)) (ev_compM (emb := .int) (emb' := .int) (l := ms) (fun m => manyP i - manyP m) (CompOk.of rfl (by decide)) (.inl rfl) int_inj (src_list (ev_local rfl) ok.hd) (sz8 (by omega)) fun m hm C D l' ps zs => ?_) ⟨rfl, .inr ⟨rfl, rfl, rfl⟩⟩ fun s₄ F => ?_
    · exact ev_sub (ev_fn T (f_many T 0 _) (ok.le (by decide)) (evs_cons (ev_cell rfl) evs_nil)) (ev_fn T (f_many T 0 _) (ok.le (by decide)) (evs_cons (ev_local rfl) evs_nil))
    refine x_assign F (av := sS (wrL n i)) (Ev.cast (ev_fn T (f_written T 0 i _ (by rw [plain_len _ h4]; exact h4)) (ok.le (by decide)) (evs_cons (ev_cell rfl) (evs_cons (ev_cell rfl) evs_nil))) (by rw [W.wr i hi])) ⟨rfl, .inr ⟨rfl, rfl, rfl⟩⟩ fun s₄ F => ?_
    have hwl' : (ws.map AV.str).length = ms.length := by rw [List.length_map, hwl]
    refine x_compM F (emb := nI) (emb' := .bool) (l := List.range ms.length) (fun k => levP (wrL n (ms.getD k 0).toNat) (wrL n i) (manyP i - manyP (ms.getD k 0)) == manyP i - manyP (ms.getD k 0)) (CompOk.of rfl (by decide)) (.inl rfl) nI_inj
      (src_rngN T (Ev.cast (ev_lenl T (ev_cell rfl) (by rw [hwl']; exact sz8 (by omega))) (by rw [hwl'])) ok.hd (by omega)) (by rw [List.length_range]; exact sz8 (by omega)) (fun k hk C D l' ps zs => ?_) fun s₄ F => ?_
    · have hk' := List.mem_range.mp hk
      have ho : ((ms.map fun m => manyP i - manyP m).map AV.int)[k]? = some (.int (manyP i - manyP (ms.getD k 0))) := by
        rw [List.getElem?_map, List.getElem?_map, List.getElem?_eq_getElem hk']
        simp [List.getD, hk']
      have hw : (ws.map AV.str)[k]? = some (sS (wrL n (ms.getD k 0).toNat)) := by
        rw [W.ws, List.getElem?_map, List.getElem?_map, List.getElem?_eq_getElem hk']
        simp [List.getD, hk']
      exact ev_cmp (ev_fn T (f_lev T 0 _ _ _ (by rw [wrL_len, wrL_len]) (by rw [wrL_len]; exact h4)) (ok.le (by decide)) (evs_cons (ev_item (ev_cell rfl) (ev_local rfl) (by omega) (by omega) (by rw [Int.toNat_natCast]; exact hw)) (evs_cons (ev_cell rfl) (evs_cons (ev_item (ev_cell rfl) (ev_local rfl) (by omega) (by omega) (by rw [Int.toNat_natCast]; exact ho)) evs_nil))))
        (ev_item (ev_cell rfl) (ev_local rfl) (by omega) (by omega) (by rw [Int.toNat_natCast]; exact ho)) c_eq
    have told : ((List.range ms.length).map fun k => levP (wrL n (ms.getD k 0).toNat) (wrL n i) (manyP i - manyP (ms.getD k 0)) == manyP i - manyP (ms.getD k 0)) = ms.map fun m => inP m i := by
      refine List.ext_getElem (by simp) fun k h1 h2 => ?_
      have hk' : k < ms.length := by simpa using h2
      have e : ms.getD k 0 = ms[k] := by simp [List.getD, hk']
      simp only [List.getElem_map, List.getElem_range]
      rw [e]
      exact W.lev _ (List.getElem_mem _) i hi
    rw [told] at F
    refine x_if F (ts_cmp (ev_local rfl) (ev_compM (emb := .int) (emb' := .bool) (l := ms) (fun m => inP m i) (CompOk.of rfl (by decide)) (.inl rfl) int_inj (src_list (ev_local rfl) ok.hd) (sz8 (by omega)) fun m hm C D l' ps zs => ?_) (c_lne eqk_bool (ok.le (by decide)))) (fun hb s₂ F => ?_) fun hb2 s₂ F => x_nil ?_
    · exact ev_inP (ev_local rfl) (ev_cell rfl) (ev_local rfl)
    · simp at hb
    refine x_append F (ev_cell rfl) (if_pos rfl) hb (ev_cmp ev_bool (ev_local rfl) c_bin) (by rw [List.length_map]; exact sz8 (by simp [fitsL]; omega)) fun s₄ F => x_nil ⟨trivial, ?_⟩
    refine InF.ownEq (F.sub (ρ := [("script", .list (sc.map .int)), ("size", nI n), ("plain", sS (plainL n)), ("masks", .list (ms.map .int)), ("words", .list (ws.map .str)), ("fits", .raw (.ref b))]) ⟨rfl, rfl, rfl, rfl, rfl, rfl, trivial⟩) fun d => ?_
    show _ = if d = b then _ else (if d = b then _ else none)
    by_cases q : d = b
    · simp [q, fitsL, List.range_succ, fitB]
    · simp [q]
  · have e : ((List.range (2 ^ n)).map nI).length = 2 ^ n := by simp
    rw [e] at F
    have F' := InF.letGo (x := "fits") F (if_pos rfl) rfl
    have F₂ := F'.sub (ρ := ρC n ms) ⟨rfl, rfl, rfl, trivial⟩
    refine h s' (InF.ownEq F₂ fun d => ?_)
    show none = if d = b then none else if d = b then _ else none
    by_cases q : d = b <;> simp [q]
end
end Mine
end
section
open PySem PySem.W PyProof.Rows
set_option Elab.async false
set_option linter.unusedVariables false
set_option maxRecDepth 20000
namespace Mine
/-! sorted lists, cuts, counts -/
theorem cut_down {p : Int → Bool} (hp : ∀ a b, a ≤ b → p b = true → p a = true) : ∀ (l : List Int), l.Pairwise (· ≤ ·) → Cut l.length (l.countP p) fun j => p (l.getD j 0)
  | [], _ => ⟨Nat.le_refl _, fun j h => by cases h⟩
  | a :: l, hl => by
    rw [List.pairwise_cons] at hl
    obtain ⟨ih1, ih2⟩ := cut_down hp l hl.2
    cases ha : p a with
    | true =>
      rw [List.countP_cons_of_pos ha]
      refine ⟨by simpa using ih1, fun j hj => ?_⟩
      cases j with
      | zero => simp [ha]
      | succ j =>
        have := ih2 j (by simpa using hj)
        simpa using this
    | false =>
      have h0 : l.countP p = 0 := List.countP_eq_zero.mpr fun b hb q => by
        rw [hp a b (hl.1 b hb) q] at ha; cases ha
      rw [List.countP_cons_of_neg (by simp [ha]), h0]
      refine ⟨Nat.zero_le _, fun j hj => ?_⟩
      cases j with
      | zero => simp [ha]
      | succ j =>
        have hj' : j < l.length := by simpa using hj
        have e : l.getD j 0 = l[j] := by simp [List.getD, hj']
        simp only [List.getD_cons_succ, Nat.not_lt_zero, iff_false, Bool.not_eq_true]
        rw [e]
        rw [List.countP_eq_zero] at h0
        simpa using h0 _ (List.getElem_mem hj')
theorem ins_sorted (x : Int) : ∀ (l : List Int), l.Pairwise (· ≤ ·) → (insAt l (l.countP fun a => decide (a < x)) x).Pairwise (· ≤ ·) ∧ (insAt l (l.countP fun a => decide (a < x)) x).Perm (x :: l)
  | [], _ => ⟨by simp [insAt], by simp [insAt]⟩
  | a :: l, hl => by
    have hl' := hl
    rw [List.pairwise_cons] at hl
    obtain ⟨ih1, ih2⟩ := ins_sorted x l hl.2
    by_cases ha : a < x
    · rw [List.countP_cons_of_pos (by simpa using ha)]
      have e : insAt (a :: l) ((l.countP fun a => decide (a < x)) + 1) x = a :: insAt l (l.countP fun a => decide (a < x)) x := by simp [insAt]
      rw [e]
      refine ⟨List.pairwise_cons.mpr ⟨fun b hb => ?_, ih1⟩, (List.Perm.cons a ih2).trans (List.Perm.swap _ _ _)⟩
      have := ih2.mem_iff.mp hb
      rcases List.mem_cons.mp this with rfl | h
      · omega
      · exact hl.1 b h
    · have h0 : l.countP (fun a => decide (a < x)) = 0 := List.countP_eq_zero.mpr fun b hb q => by
        have := hl.1 b hb
        have q' : b < x := by simpa using q
        omega
      rw [List.countP_cons_of_neg (by simpa using ha), h0]
      have e : insAt (a :: l) 0 x = x :: a :: l := by simp [insAt]
      rw [e]
      refine ⟨List.pairwise_cons.mpr ⟨fun b hb => ?_, hl'⟩, .refl _⟩
      rcases List.mem_cons.mp hb with rfl | h
      · omega
      · have := hl.1 b h
        omega
theorem count_cuts (x : Int) : ∀ (l : List Int), (l.countP fun a => decide (a < x)) + l.count x = l.countP fun a => !decide (x < a)
  | [] => rfl
  | a :: l => by
    have ih := count_cuts x l
    rw [List.countP_cons, List.countP_cons, List.count_cons]
    rcases Int.lt_trichotomy a x with h | h | h
    · have h1 : ¬ x < a := by omega
      have h2 : ¬ a = x := by omega
      simp [h, h1, h2]; omega
    · subst h
      simp; omega
    · have h1 : ¬ a < x := by omega
      have h2 : ¬ a = x := by omega
      simp [h, h1, h2]; omega
/-! the orders -/
def fitI (ms : List Int) (c : Int) : Bool := fitB ms c.toNat
def placeP (ms : List Int) (o : List Nat) : Nat := (chainP o).findIdx (fitI ms)
def firstP (ms : List Int) (o : List Nat) : Option Int := if placeP ms o < (chainP o).length then some ((chainP o).getD (placeP ms o) 0) else none
structure LawFit (n : Nat) (ms : List Int) : Prop where
  cut : ∀ o ∈ ordersP n, Cut (chainP o).length (placeP ms o) fun j => !fitI ms ((chainP o).getD j 0)
  cnt : ∀ ch : Nat, 0 < ch → ch < 2 ^ n → (((((ordersP n).filterMap (firstP ms)).count (ch : Int) : Nat)) : Int) = dueP ms ch n
  all : (((ordersP n).filterMap (firstP ms)).length : Int) = if ms != [] then ([6, 24] : List Int).getD (n - 3) 0 else 0
theorem orders3 : (ordersP 3).length = 6 ∧ ∀ o ∈ ordersP 3, (∀ k ∈ o, k < 4) ∧ ∀ c ∈ chainP o, 0 ≤ c ∧ c < 2 ^ 3 := by decide +kernel
theorem orders4 : (ordersP 4).length = 24 ∧ ∀ o ∈ ordersP 4, (∀ k ∈ o, k < 4) ∧ ∀ c ∈ chainP o, 0 ≤ c ∧ c < 2 ^ 4 := by decide +kernel
theorem orders_ok {n : Nat} (h3 : 3 ≤ n) (h4 : n ≤ 4) : (ordersP n).length ≤ 24 ∧ ∀ o ∈ ordersP n, (∀ k ∈ o, k < 4) ∧ ∀ c ∈ chainP o, 0 ≤ c ∧ c < 2 ^ n := by
  have : n = 3 ∨ n = 4 := by omega
  rcases this with rfl | rfl
  · exact ⟨by rw [orders3.1]; decide, orders3.2⟩
  · exact ⟨by rw [orders4.1]; decide, orders4.2⟩
theorem many_ok : ∀ ch : Nat, 0 < ch → ch < 16 → 1 ≤ manyP ch ∧ manyP ch ≤ if ch < 8 then 3 else 4 := by
  have : ∀ ch < 16, 0 < ch → 1 ≤ manyP (ch : Nat) ∧ manyP (ch : Nat) ≤ if ch < 8 then 3 else 4 := by decide +kernel
  exact fun ch h1 h2 => this ch h2 h1
end Mine
end
section
open PySem PySem.W PyProof.Rows
set_option Elab.async false
set_option linter.unusedVariables false
set_option maxRecDepth 20000
namespace Mine
section
variable {g : G} {c : Fc} {s₀ s : Shared}
structure OSt where
  tb : Array Value
  cs : List (Addr × Obj)
  ends : List Int
def lamQ : Str := "law.<locals>.<lambda>"
theorem lam_q0 : (Stmt.dName (stAt 34) ++ ".<locals>.") ++ "<lambda>" = lamQ := by decide +kernel
theorem lam_q (pm cd doc : Value) (L a : Addr) : (callEnvC (lawD pm cd doc) L a).qual ++ "<lambda>" = lamQ := lam_q0
def lamPs : List Pos := [⟨202, 45, 202, 72⟩, ⟨203, 51, 203, 78⟩]
theorem lamPs_ok : ∀ q ∈ lamPs, ∀ p ∈ lamPs, p.line = q.line ∧ p.col = q.col → p = q := by
  intro q hq p hp h
  simp only [lamPs, List.mem_cons, List.not_mem_nil, or_false] at hp hq
  rcases hp with rfl | rfl <;> rcases hq with rfl | rfl <;> first | rfl | (exfalso; revert h; decide)
structure OInv (tb₀ : Array Value) (P : Addr) (ms : List Int) (os : List (List Nat)) (z : OSt) : Prop where
  tab : TabOk tb₀ lamQ lamPs z.tb z.cs
  ne : ∀ p ∈ z.cs, p.1 ≠ P
  srt : z.ends.Pairwise (· ≤ ·)
  prm : z.ends.Perm (os.filterMap (firstP ms))
theorem chain_len (o : List Nat) : (chainP o).length = o.length + 1 := by simp [chainP]
def ρD (n : Nat) (ms : List Int) (b : Addr) : List (Str × AV) := [("size", nI n), ("masks", .list (ms.map .int)), ("fits", .list ((fitsL ms (2 ^ n)).map .bool)), ("ends", .raw (.ref b))]
def ownE (b : Addr) (l : List Int) : Addr → Option (List AV) := fun d => if d = b then some (l.map .int) else none
theorem fits_get {ms : List Int} {n : Nat} {c : Int} (h0 : 0 ≤ c) (h1 : c < 2 ^ n) : ((fitsL ms (2 ^ n)).map AV.bool)[c.toNat]? = some (.bool (fitI ms c)) := by
  have h : c.toNat < 2 ^ n := by
    have : ((c.toNat : Nat) : Int) < ((2 ^ n : Nat) : Int) := by rw [Int.toNat_of_nonneg h0]; simpa using h1
    exact_mod_cast this
  rw [List.getElem?_map, fitsL, List.getElem?_map, List.getElem?_range h]
  rfl
section
variable {n i : Nat} {e₁ e₂ lbody : Expr} {l : List Int} {b : Bool} {fs : List Bool} {f : Int → Bool} {cut : Nat} {ps cs : List (Addr × Obj)} {P c₀ : Addr} {tb tb₀ : Array Value} {q : Str} {ls : List Pos} {params : Arguments} {scope : Scope} {lpos kpos np pos : Pos} {fn : Str} {Q : Flow → Shared → Prop} {E : Value → Shared → Prop} {A : Around} {env : Env} {rest : List Stmt}
theorem x_key {y : Str} {py spos : Pos}
    (T : Tops g) (hi : i ∈ [1, 3]) (F : InF g c s₀ s) (ok : OkA (n + 2) c.A) (K : CodeG g c c₀ P)
    (hpins : c.pins = ps ++ (P, tabObj tb) :: cs) (hps : ∀ p ∈ ps, p.1 ≠ P) (hcs : ∀ p ∈ cs, p.1 ≠ P) (hP₀ : s₀.heap.get? P = none) (tab : TabOk tb₀ q ls tb cs) (hpos : lpos ∈ ls)
    (hls : ∀ p ∈ ls, p.line = lpos.line ∧ p.col = lpos.col → p = lpos) (hq : c.env.qual ++ "<lambda>" = q) (hdef : defaultsOf params c.env = ([], []))
    (he₁ : Ev g c e₁ (.list (l.map .int))) (he₂ : Ev g c e₂ (.bool b)) (hfits : c.ρ.lookup ("fits" : Str) = some (.list (fs.map .bool))) (hfk : c.env.kindOf "fits" = some .cell)
    (hclo : cloFrom c.env.cells scope.names [] = [(("fits" : Str), (c.env.cells.lookup ("fits" : Str)).getD 0)])
    (hb : ∀ clo pm c' ctv v, bindArgs (kla_fn "<lambda>" q params lbody scope clo pm (.ref c') ctv) ⟨[v], []⟩ = pure [(("choice" : Str), v)])
    (hloc : scope.names.lookup ("choice" : Str) = some .local) (hfree : scope.names.lookup ("fits" : Str) = some .free) (hcell : ∀ x ∈ scope.names, x.2 ≠ .cell) (hfr : ∀ p ∈ scope.names, p.2 = .free → p.1 = "fits") (hk : scope.kind = .function) (hco : scope.isCoroutine = false) (hgen : scope.isGenerator = false)
    (hbody : ∀ (g' : G) (L fa : Addr) (cd : Value) clo (A : Around) (j : Nat), j < l.length → OkA 0 A → Ev g' (lamF q scope L fa cd clo A [(("choice" : Str), .int (l.getD j 0)), ("fits", .list (fs.map .bool))]) lbody (.bool (f (l.getD j 0))))
    (hB : ∀ (g' : G) k, Tops g' → (∃ o fd, g'.h₀.get? k = some o ∧ o.data = .func fd) → (∀ j < l.length, Fn g' 1 (.ref k) [.int (l.getD j 0)] (.bool (f (l.getD j 0)))) → BodyOk g' 1 i [.list (l.map .int), .bool b, .int 0, .none, .raw (.ref k)] (.int cut))
    (B : Bind c y)
    (h : ∀ tb' cs' s', TabOk tb₀ q ls tb' cs' → InF g ({ c with pins := ps ++ (P, tabObj tb') :: cs' }.set y (.int cut)) s₀ s' → (∀ p ∈ cs', p.1 ≠ P) → (∀ p ∈ cs', p ∈ cs ∨ ∀ z ∈ c.pins, z.1 ≠ p.1) → WP g c.A c.env rest Q E s')
    (hfn : Stmt.dName (stAt i) = fn := by rfl) (hfc : FcF c := by exact ⟨rfl, rfl, rfl⟩) (hkn : c.env.kindOf fn = some .globalImplicit := by rfl) (hdn : (fn == ("__debug__" : Str)) = false := by rfl)
    (hs : starEach [e₁, e₂] c.env = (false, eval e₁ c.env) :: starEach [e₂] c.env := by exact starE rfl _ _) (hs2 : starEach [e₂] c.env = (false, eval e₂ c.env) :: starEach [] c.env := by exact starE rfl _ _)
    (hsw : swapsWith (.Call (.Name fn np) [e₁, e₂] [⟨some "key", .Lambda params lbody scope lpos, kpos⟩] pos) (some (.Name y py)) spos.line c.env = pure false := by rfl) (hA : c.A = A := by rfl) (hE : c.env = env := by rfl) :
    WP g A env (.Assign [.Name y py] (.Call (.Name fn np) [e₁, e₂] [⟨some "key", .Lambda params lbody scope lpos, kpos⟩] pos) spos :: rest) Q E s := by
  subst hA; subst hE
  exact x_cons (wpAny_Assign_Name (key_call T hi F ok K hpins hps hcs hP₀ tab hpos hls hq hdef he₁ he₂ hfits hfk hclo hb hloc hfree hcell hfr hk hco hgen hbody hB (fun t tb' cs' s' tab' F' ne' new' _ => st_bind (c := { c with pins := ps ++ (P, tabObj tb') :: cs' }) B F' vint fun s₂ F₂ => h tb' cs' s₂ tab' F₂ ne' new') hfn hfc hkn hdn hs hs2) hsw)
theorem x_ifkey {e₀ : Expr} {p₁ p₂ : Pos} {body : List Stmt}
    (T : Tops g) (hi : i ∈ [1, 3]) (F : InF g c s₀ s) (ok : OkA (n + 2) c.A) (K : CodeG g c c₀ P)
    (hpins : c.pins = ps ++ (P, tabObj tb) :: cs) (hps : ∀ p ∈ ps, p.1 ≠ P) (hcs : ∀ p ∈ cs, p.1 ≠ P) (hP₀ : s₀.heap.get? P = none) (tab : TabOk tb₀ q ls tb cs) (hpos : lpos ∈ ls)
    (hls : ∀ p ∈ ls, p.line = lpos.line ∧ p.col = lpos.col → p = lpos) (hq : c.env.qual ++ "<lambda>" = q) (hdef : defaultsOf params c.env = ([], []))
    (he₁ : Ev g c e₁ (.list (l.map .int))) (he₂ : Ev g c e₂ (.bool b)) (hfits : c.ρ.lookup ("fits" : Str) = some (.list (fs.map .bool))) (hfk : c.env.kindOf "fits" = some .cell)
    (hclo : cloFrom c.env.cells scope.names [] = [(("fits" : Str), (c.env.cells.lookup ("fits" : Str)).getD 0)])
    (hb : ∀ clo pm c' ctv v, bindArgs (kla_fn "<lambda>" q params lbody scope clo pm (.ref c') ctv) ⟨[v], []⟩ = pure [(("choice" : Str), v)])
    (hloc : scope.names.lookup ("choice" : Str) = some .local) (hfree : scope.names.lookup ("fits" : Str) = some .free) (hcell : ∀ x ∈ scope.names, x.2 ≠ .cell) (hfr : ∀ p ∈ scope.names, p.2 = .free → p.1 = "fits") (hk : scope.kind = .function) (hco : scope.isCoroutine = false) (hgen : scope.isGenerator = false)
    (hbody : ∀ (g' : G) (L fa : Addr) (cd : Value) clo (A : Around) (j : Nat), j < l.length → OkA 0 A → Ev g' (lamF q scope L fa cd clo A [(("choice" : Str), .int (l.getD j 0)), ("fits", .list (fs.map .bool))]) lbody (.bool (f (l.getD j 0))))
    (hB : ∀ (g' : G) k, Tops g' → (∃ o fd, g'.h₀.get? k = some o ∧ o.data = .func fd) → (∀ j < l.length, Fn g' 1 (.ref k) [.int (l.getD j 0)] (.bool (f (l.getD j 0)))) → BodyOk g' 1 i [.list (l.map .int), .bool b, .int 0, .none, .raw (.ref k)] (.int cut))
    (he₀ : Ev g c e₀ (.int cut))
    (h : ∀ tb' cs' s', TabOk tb₀ q ls tb' cs' → InF g { c with pins := ps ++ (P, tabObj tb') :: cs' } s₀ s' → (∀ p ∈ cs', p.1 ≠ P) → (∀ p ∈ cs', p ∈ cs ∨ ∀ z ∈ c.pins, z.1 ≠ p.1) → WP g c.A c.env rest Q E s')
    (hfn : Stmt.dName (stAt i) = fn := by rfl) (hfc : FcF c := by exact ⟨rfl, rfl, rfl⟩) (hkn : c.env.kindOf fn = some .globalImplicit := by rfl) (hdn : (fn == ("__debug__" : Str)) = false := by rfl)
    (hs : starEach [e₁, e₂] c.env = (false, eval e₁ c.env) :: starEach [e₂] c.env := by exact starE rfl _ _) (hs2 : starEach [e₂] c.env = (false, eval e₂ c.env) :: starEach [] c.env := by exact starE rfl _ _)
    (hm : behindInMarks .NotEq (.Call (.Name fn np) [e₁, e₂] [⟨some "key", .Lambda params lbody scope lpos, kpos⟩] pos) = false := by rfl) (hA : c.A = A := by rfl) (hE : c.env = env := by rfl) :
    WP g A env (.If (.Compare e₀ [.NotEq] [.Call (.Name fn np) [e₁, e₂] [⟨some "key", .Lambda params lbody scope lpos, kpos⟩] pos] p₁) body [] p₂ :: rest) Q E s := by
  subst hA; subst hE
  refine x_cons (wpAny_If (wpAny_isTrue_Compare1 (wpAny_mono (he₀.run s _ F.ready) (fun v s₁ ⟨k₁, x₁⟩ => ?_) fun _ _ x => x) hm))
  obtain ⟨t₁, rfl⟩ := x₁.int'
  refine key_call T hi (F.more k₁) ok K hpins hps hcs hP₀ tab hpos hls hq hdef he₁ he₂ hfits hfk hclo hb hloc hfree hcell hfr hk hco hgen hbody hB (fun t tb' cs' s' tab' F' ne' new' _ => ?_) hfn hfc hkn hdn hs hs2
  refine PyProof.Rows.ne_int (wpAny_truthy_bool ?_)
  have e0 : ((cut : Int) != (cut : Int)) = false := by simp
  rw [e0, if_neg (by decide)]
  exact wpAny_execs_nil (h tb' cs' s' tab' F' ne' new')
end
set_option maxHeartbeats 4000000 in
theorem law_c {n : Nat} {ms : List Int} {ws : List Str} {pm cd doc : Value} {L a c₀ P : Addr} {A : Around} {tb₀ : Array Value} {E : Value → Shared → Prop} {Q : Flow → Shared → Prop} (T : Tops g) (W : LawOk n ms ws) (X : LawFit n ms)
    (hP₀ : s₀.heap.get? P = none) (K : CodeG g (lawF (lawD pm cd doc) L a A [(P, tabObj tb₀)] (ρC n ms)) c₀ P) (tab₀ : TabOk tb₀ lamQ lamPs tb₀ [])
    (ok : OkA 8 (lawF (lawD pm cd doc) L a A [(P, tabObj tb₀)] (ρC n ms)).A)
    (F : InF g (lawF (lawD pm cd doc) L a A [(P, tabObj tb₀)] (ρC n ms)) s₀ s)
    (h : ∀ (z : OSt) (ends : List Int) (s' : Shared), TabOk tb₀ lamQ lamPs z.tb z.cs → ends.Pairwise (· ≤ ·) → ends.Perm ((ordersP n).filterMap (firstP ms)) →
      InF g (lawF (lawD pm cd doc) L a A ((P, tabObj z.tb) :: z.cs) [("size", nI n), ("masks", .list (ms.map .int)), ("ends", .list (ends.map .int))]) s₀ s' →
      WP g (lawF (lawD pm cd doc) L a A [(P, tabObj tb₀)] (ρC n ms)).A (lawF (lawD pm cd doc) L a A [(P, tabObj tb₀)] (ρC n ms)).env ((Stmt.dBody (stAt 34)).drop 13) Q E s') :
    WP g (lawF (lawD pm cd doc) L a A [(P, tabObj tb₀)] (ρC n ms)).A (lawF (lawD pm cd doc) L a A [(P, tabObj tb₀)] (ρC n ms)).env ((Stmt.dBody (stAt 34)).drop 11) Q E s := by
  have h4 := W.n4
  have h3 := W.n3
  obtain ⟨ho24, hord⟩ := orders_ok h3 h4
  refine x_own F evs_nil (sz8 (Nat.zero_le _)) ⟨rfl, .inl rfl⟩ fun b s₂ hb hn F => ?_
  refine x_forZ (σ := OSt) F (src_list (ev_fn T (f_orders T 0 n h4) (ok.le (by decide)) (evs_cons (ev_cell rfl) evs_nil)) ok.hd) ⟨rfl, .inl rfl⟩
    (fun i z => OInv tb₀ P ms ((ordersP n).take i) z) (fun _ _ => ρD n ms b) (fun _ z => ownE b z.ends) (fun z => (P, tabObj z.tb) :: z.cs) ⟨tb₀, [], []⟩
    (fun i z d => ?_) ?_ rfl ⟨rfl, rfl, rfl, rfl, trivial⟩ ⟨tab₀, fun p hp => (nomatch hp), List.Pairwise.nil, by simp⟩ (fun i av z hav I s₃ xs ps E' hps F => ?_) fun z s' I F => ?_
  · show (if d = b then _ else none).isSome = (if d = b then _ else none).isSome
    by_cases q : d = b <;> simp [q]
  · funext d
    show (if d = b then _ else none) = if d = b then _ else none
    by_cases q : d = b <;> simp [q]
  · rw [List.getElem?_map, Option.map_eq_some_iff] at hav
    obtain ⟨o, ho, rfl⟩ := hav
    have hom : o ∈ ordersP n := List.mem_of_getElem? ho
    have hol := orders_len n o hom
    obtain ⟨hk4, hch⟩ := hord o hom
    have hcut := X.cut o hom
    have hcl := chain_len o
    have hpsP : ∀ p ∈ ps, p.1 ≠ P := fun p hp => hps p hp (P, tabObj tb₀) (.head _) rfl
    obtain ⟨tb, cs, ends⟩ := z
    refine x_assign F (ev_fn T (f_beginnings T 0 o hk4 (by omega)) (ok.le (by decide)) (evs_cons (ev_local rfl) evs_nil)) ⟨rfl, .inl rfl⟩ fun s₄ F => ?_
    have hget : ∀ j, j < (chainP o).length → 0 ≤ (chainP o).getD j 0 ∧ (chainP o).getD j 0 < 2 ^ n := fun j hj => by
      have e : (chainP o).getD j 0 = (chainP o)[j] := by simp [List.getD, hj]
      rw [e]; exact hch _ (List.getElem_mem _)
    have h63 : ∀ c : Int, c < 2 ^ n → c < 2 ^ 63 := fun c hc => by
      have := pow4 h4
      have h2 : (2 : Int) ^ n = ((2 ^ n : Nat) : Int) := by simp
      omega
    refine x_key (n := 0) (ls := lamPs) (tb₀ := tb₀) (f := fitI ms) (cut := placeP ms o) (ps := ps) (fs := fitsL ms (2 ^ n)) T (by decide) F (ok.le (by decide)) ⟨K.hd, K.bl, K.ne, K.code, K.gl⟩ rfl hpsP I.ne hP₀ I.tab (by decide) (lamPs_ok _ (.head _)) (lam_q pm cd doc L a) rfl (ev_local rfl) ev_bool rfl rfl rfl (fun _ _ _ _ _ => rfl) rfl rfl (by decide) (by decide) rfl rfl rfl
      (fun g' L' fa cd' clo A' j hj ok' => ev_item (ev_free rfl) (ev_local rfl) (hget j hj).1 (h63 _ (hget j hj).2) (fits_get (hget j hj).1 (hget j hj).2)) (fun g' k T' hk' hf' => left_key T' 1 _ k _ _ (by omega) hk' hf' hcut) ⟨rfl, .inl rfl⟩ fun tb₁ cs₁ s₅ tab₁ F ne₁ new₁ => ?_
    refine x_ifkey (n := 0) (ls := lamPs) (tb₀ := tb₀) (f := fitI ms) (cut := placeP ms o) (ps := ps) (fs := fitsL ms (2 ^ n)) T (by decide) F (ok.le (by decide)) ⟨K.hd, K.bl, K.ne, K.code, K.gl⟩ rfl hpsP ne₁ hP₀ tab₁ (by decide) (lamPs_ok _ (.tail _ (.head _))) (lam_q pm cd doc L a) rfl (ev_local rfl) ev_bool rfl rfl rfl (fun _ _ _ _ _ => rfl) rfl rfl (by decide) (by decide) rfl rfl rfl
      (fun g' L' fa cd' clo A' j hj ok' => ev_item (ev_free rfl) (ev_local rfl) (hget j hj).1 (h63 _ (hget j hj).2) (fits_get (hget j hj).1 (hget j hj).2)) (fun g' k T' hk' hf' => right_key T' 1 _ k _ _ (by omega) hk' hf' hcut) (ev_local rfl) fun tb₂ cs₂ s₈ tab₂ F ne₂ new₂ => ?_
    have newp : NewPins ps ((P, tabObj tb) :: cs) (fun z : OSt => (P, tabObj z.tb) :: z.cs) ⟨tb₂, cs₂, ends⟩ := by
      intro p hp
      rcases List.mem_cons.mp hp with rfl | hp
      · exact .inl ⟨_, .head _, rfl⟩
      · rcases new₂ p hp with w | w
        · rcases new₁ p w with v | v
          · exact .inl ⟨p, .tail _ v, rfl⟩
          · exact .inr fun q hq => v q (List.mem_append_left _ hq)
        · exact .inr fun q hq => w q (List.mem_append_left _ hq)
    have hlc : ((chainP o).map AV.int).length ≤ sizeLine := by rw [List.length_map]; exact sz8 (by omega)
    have hle : ends.length ≤ 24 := by
      have h1 := I.prm.length_eq
      have h2 := List.length_filterMap_le (firstP ms) ((ordersP n).take i)
      have h3 : ((ordersP n).take i).length ≤ 24 := by rw [List.length_take]; omega
      show ends.length ≤ 24
      have h1' : ends.length = (((ordersP n).take i).filterMap (firstP ms)).length := h1
      omega
    have hto : (ordersP n).take (i + 1) = (ordersP n).take i ++ [o] := by rw [List.take_add_one, ho]; rfl
    refine x_if F (ts_cmp (ev_local rfl) (ev_lenl T (ev_local rfl) hlc) c_lt) (fun hb2 s₉ F => ?_) fun hb2 s₉ F => ?_
    · rw [List.length_map] at hb2
      have hlt : placeP ms o < (chainP o).length := by have := of_decide_eq_true hb2; omega
      have hfst : firstP ms o = some ((chainP o).getD (placeP ms o) 0) := if_pos hlt
      have hsrt := ins_sorted ((chainP o).getD (placeP ms o) 0) ends I.srt
      refine x_insort (n := 2) T F (ok.le (by decide)) (ev_local rfl) (if_pos rfl) hb (ev_item (ev_local rfl) (ev_local rfl) (by omega) (by omega) (by rw [Int.toNat_natCast]; exact getD_get hlt)) (show ends.length ≤ 63 by omega) (cut_down (p := fun a => decide (a < (chainP o).getD (placeP ms o) 0)) (fun a b hab hb' => by simp at hb' ⊢; omega) ends I.srt) fun s₁₀ F => ?_
      refine x_nil (x_nil ⟨⟨tb₂, cs₂, insAt ends (ends.countP fun a => decide (a < (chainP o).getD (placeP ms o) 0)) ((chainP o).getD (placeP ms o) 0)⟩, ⟨tab₂, ne₂, hsrt.1, ?_⟩, newp, ?_⟩)
      · show List.Perm _ _
        rw [hto, List.filterMap_append]
        have : [o].filterMap (firstP ms) = [(chainP o).getD (placeP ms o) 0] := by simp [hfst]
        rw [this]
        exact hsrt.2.trans ((List.Perm.cons _ I.prm).trans (List.perm_append_comm (l₁ := [_])))
      · refine InF.ownEq (F.sub (ρ := ρD n ms b) ⟨rfl, rfl, rfl, rfl, trivial⟩) fun d => ?_
        show (if d = b then _ else none) = if d = b then _ else (if d = b then _ else none)
        by_cases q : d = b <;> simp [q]
    · rw [List.length_map] at hb2
      have hlt : ¬ placeP ms o < (chainP o).length := by have := of_decide_eq_false hb2; omega
      have hfst : firstP ms o = none := if_neg hlt
      refine x_nil (x_nil ⟨⟨tb₂, cs₂, ends⟩, ⟨tab₂, ne₂, I.srt, ?_⟩, newp, F.sub (ρ := ρD n ms b) ⟨rfl, rfl, rfl, rfl, trivial⟩⟩)
      show List.Perm _ _
      rw [hto, List.filterMap_append]
      have : [o].filterMap (firstP ms) = [] := by simp [hfst]
      rw [this, List.append_nil]
      exact I.prm
  · have e : ((ordersP n).map oL).length = (ordersP n).length := by simp
    rw [e, List.take_length] at I
    have F' := InF.letGo (x := "ends") F (if_pos rfl) rfl
    have F₂ := F'.sub (ρ := [("size", nI n), ("masks", .list (ms.map .int)), ("ends", .list (z.ends.map .int))]) ⟨rfl, rfl, rfl, trivial⟩
    refine h z z.ends s' I.tab I.srt I.prm (InF.ownEq F₂ fun d => ?_)
    show none = if d = b then none else if d = b then _ else none
    by_cases q : d = b <;> simp [q]
end
end Mine
end
section
open PySem PySem.W PyProof.Rows
set_option Elab.async false
set_option linter.unusedVariables false
set_option maxRecDepth 20000
namespace Mine
section
variable {g : G} {c : Fc} {s₀ s : Shared}
def ρE (n : Nat) (ms ends : List Int) : List (Str × AV) := [("size", nI n), ("masks", .list (ms.map .int)), ("ends", .list (ends.map .int))]
theorem pow_nI (n : Nat) : ((2 : Int) ^ n) = ((2 ^ n : Nat) : Int) := by simp
set_option maxHeartbeats 4000000 in
theorem law_d {n : Nat} {ms ends : List Int} {ws : List Str} {pm cd doc : Value} {L a : Addr} {A : Around} {pins : List (Addr × Obj)} {E : Value → Shared → Prop} {Q : Flow → Shared → Prop} (T : Tops g) (W : LawOk n ms ws) (X : LawFit n ms)
    (hsrt : ends.Pairwise (· ≤ ·)) (hprm : ends.Perm ((ordersP n).filterMap (firstP ms)))
    (ok : OkA 8 (lawF (lawD pm cd doc) L a A pins (ρE n ms ends)).A)
    (F : InF g (lawF (lawD pm cd doc) L a A pins (ρE n ms ends)) s₀ s)
    (h : ∀ s', InF g (lawF (lawD pm cd doc) L a A pins (ρE n ms ends)) s₀ s' → Q (.ret (.bool true)) s') :
    WP g (lawF (lawD pm cd doc) L a A pins (ρE n ms ends)).A (lawF (lawD pm cd doc) L a A pins (ρE n ms ends)).env ((Stmt.dBody (stAt 34)).drop 13) Q E s := by
  have h4 := W.n4
  have h3 := W.n3
  have hl3 := W.len
  obtain ⟨ho24, hord⟩ := orders_ok h3 h4
  have hp := pow4 h4
  have hp0 : 0 < 2 ^ n := Nat.pow_pos (by decide)
  have hle : ends.length ≤ 24 := by
    have h1 := hprm.length_eq
    have h2 := List.length_filterMap_le (firstP ms) (ordersP n)
    omega
  refine x_for F (src_rng2 (a := 1) (b := ((2 ^ n : Nat) : Int)) (n := 2 ^ n - 1) T ev_int (ev_pow2 (ev_cell rfl) h4) ok.hd (by decide) (by decide) (by omega) (by omega) (by omega)) ⟨rfl, .inr ⟨rfl, rfl, rfl⟩⟩ (fun _ => True) (fun _ => ρE n ms ends) (fun _ => fun _ => none) (fun _ _ => rfl) rfl ⟨rfl, rfl, rfl, trivial⟩ trivial (fun i av hav _ s₃ xs ps E' F => ?_) fun s' _ F => ?_
  · unfold zs at hav
    rw [List.getElem?_map, Option.map_eq_some_iff] at hav
    obtain ⟨i', hi', rfl⟩ := hav
    obtain ⟨hi, rfl⟩ := List.getElem?_eq_some_iff.mp hi'
    rw [List.length_range] at hi
    rw [List.getElem_range] at F
    have e1 : (1 : Int) + (i : Nat) = ((i + 1 : Nat) : Int) := by omega
    rw [e1] at F
    have hlt : i + 1 < 2 ^ n := by omega
    obtain ⟨m1, m2⟩ := many_ok (i + 1) (by omega) (by omega)
    have m3 : manyP ((i + 1 : Nat) : Int) ≤ n := by
      have : n = 3 ∨ n = 4 := by omega
      rcases this with rfl | rfl
      · rw [if_pos (by omega)] at m2; exact m2
      · split at m2 <;> omega
    have due := X.cnt (i + 1) (by omega) hlt
    have hcr := cut_down (p := fun a => !decide (((i + 1 : Nat) : Int) < a)) (fun a b hab hb' => by simp at hb' ⊢; omega) ends hsrt
    have hcl := cut_down (p := fun a => decide (a < ((i + 1 : Nat) : Int))) (fun a b hab hb' => by simp at hb' ⊢; omega) ends hsrt
    have hcc := count_cuts ((i + 1 : Nat) : Int) ends
    rw [hprm.count_eq] at hcc
    refine x_if F (ts_cmp (ev_sub (ev_fn T (fnB2 T (by decide) (right_int T 0 ends _ _ (by omega) hcr)) (ok.le (by decide)) (evs_cons (ev_local rfl) (evs_cons (ev_cell rfl) evs_nil))) (ev_fn T (fnB2 T (by decide) (left_int T 2 ends _ _ (by omega) hcl)) (ok.le (by decide)) (evs_cons (ev_local rfl) (evs_cons (ev_cell rfl) evs_nil))))
      (ev_fn T (f_due T 0 ms _ n (by omega) m1 m3 (by omega)) (ok.le (by decide)) (evs_cons (ev_local rfl) (evs_cons (ev_cell rfl) (evs_cons (ev_cell rfl) evs_nil)))) c_ne) (fun hb s₄ F => ?_) fun hb s₄ F => x_nil (x_nil ⟨trivial, F.sub ⟨rfl, rfl, rfl, trivial⟩⟩)
    exfalso
    simp only [bne_iff_ne, ne_eq] at hb
    apply hb
    rw [← due]
    omega
  · have hml : (ends.map AV.int).length ≤ sizeLine := by rw [List.length_map]; exact sz8 (by omega)
    refine x_return F (ev_cmp (ev_lenl T (ev_local rfl) hml) (ev_if (av := .int (if ms != [] then ([6, 24] : List Int).getD (n - 3) 0 else 0)) (ts_cmp (ev_local rfl) (Ev.cast ev_list0 (show _ = AV.list (([] : List Int).map .int) from rfl)) (c_lne eqk_int (ok.le (by decide)))) (fun hb => ?_) fun hb => ?_) c_eq) fun v s'' F' hv => ?_
    · rw [if_pos hb]
      exact ev_item (l := ([6, 24] : List Int).map .int) (ev_list2 ev_int ev_int) (Ev.cast (ev_sub (ev_cell rfl) ev_int) (show _ = nI (n - 3) by show AV.int _ = AV.int _; congr 1; omega)) (by omega) (by omega) (by rw [Int.toNat_natCast]; exact getD_get (by show n - 3 < 2; omega))
    · rw [if_neg (by rw [hb]; decide)]
      exact ev_int
    · have e : ((((ends.map AV.int).length : Nat) : Int) == if ms != [] then ([6, 24] : List Int).getD (n - 3) 0 else 0) = true := by
        rw [beq_iff_eq, List.length_map, hprm.length_eq]
        exact X.all
      rw [e] at hv
      obtain rfl := hv.bool'
      exact h s'' F'
end
end Mine
end
section
open PySem PySem.W PyProof.Rows
set_option Elab.async false
set_option linter.unusedVariables false
set_option maxRecDepth 20000
namespace Mine
section
variable {g : G} {c : Fc} {s₀ s : Shared}
/-- what the plain law must give -/
structure LawAll (sc : List Int) : Prop where
  ok : LawOk (szP sc) (masksP (szP sc) (drawnP sc)) (wordsP (szP sc) (drawnP sc))
  fit : LawFit (szP sc) (masksP (szP sc) (drawnP sc))
theorem Heap.hide_of {h : Heap} {P b : Addr} {o : Obj} (e : (h.hide P).get? b = some o) : b ≠ P ∧ h.get? b = some o := by
  refine ⟨?_, Heap.of_hide e⟩
  rintro rfl
  rw [Heap.hide_self] at e; cases e
theorem law_run {sc : List Int} {pm cd doc : Value} {a c₀ P : Addr} {A : Around} {tb₀ : Array Value} {v : Value} {Q E : Value → Shared → Prop} (T : Tops g) (D : DefAt g a (lawD pm cd doc) (Stmt.dBody (stAt 34))) (ok : OkA 9 A)
    (hsc : sc.length ≤ 63) (X : LawAll sc) (hP : s.heap.get? P = some (tabObj tb₀)) (on : g.On (s.heap.hide P)) (hv : Val (fun _ => False) s.heap (.list (sc.map .int)) v)
    (hcd : cd = .ref c₀) (hh : CodeHd g.h₀ c₀ P) (hbl : g.h₀.BuiltinsAt g.mg P) (hne : mainGlobals ≠ P) (tab₀ : TabOk tb₀ lamQ lamPs tb₀ [])
    (h : ∀ s' tb', (∃ hp tk, s' = { s with heap := hp, toks := tk }) → (∀ b o, b ≠ P → s.heap.get? b = some o → s'.heap.get? b = some o) → s'.heap.get? P = some (tabObj tb') → (∃ more, tb' = tb₀ ++ more) → Q (.bool true) s') :
    wpAny (model Pg g.w) A (call (.ref a) [v]) Q E s := by
  obtain ⟨o, ho, hd⟩ := D.ho
  have on' : ∀ b o, g.h₀.get? b = some o → s.heap.get? b = some o := fun b o e => Heap.of_hide (on b o e)
  refine wpAny_call (codeAny_call_function (by have := ok.dp; show A.depth < recursionLimit; unfold recursionLimit; omega) (on' _ _ ho) hd D.co D.gen D.body (D.cd.keeps on') ?_)
  have hbind : BindsTo s (lawD pm cd doc) ⟨[v], []⟩ ((["script"] : List Str).zip [v]) := BindsTo.of_eq rfl
  refine hbind _ _ _ _ ?_
  rw [D.clo]
  have spec := cellsFrom_spec (lawD pm cd doc).scope.names (s.heap.push { cls := .type "frame", data := .dict #[] }) []
  rw [Heap.size_push] at spec
  refine wpAny_newFunctionEnv_cells D.kind (fun x hx => ?_) fun env he s₁ X₁ => ?_
  · have hx1 : x.1 ∈ (["script"] : List Str) := (List.of_mem_zip hx).1
    have : x.1 = "script" := by simpa using hx1
    rw [this]
    obtain ⟨b, hb⟩ := spec.2.1 ("script" : Str) (.head _)
    exact .inr ⟨rfl, by rw [hb]; rfl⟩
  subst he
  refine ⟨(D_nl T).keeps (fun b o e => X₁.toInCall.keep b o (on' b o e)), codeAny_func ?_⟩
  have ok' : OkA 8 (lawF (lawD pm cd doc) s.heap.objs.size a A [(P, tabObj tb₀)] [("script", .list (sc.map .int))]).A := ⟨ok.hd, by have := ok.dp; show A.depth + 1 + 8 < 1000; omega, by have := ok.un; show A.units + 3 + 20 * 8 < 9900; omega⟩
  have hfresh : ∀ b, s.heap.objs.size ≤ b → (s.heap.hide P).get? b = none := fun b hb => by
    cases e : (s.heap.hide P).get? b with
    | none => rfl
    | some o => exact absurd (Heap.lt_size (Heap.of_hide e)) (Nat.not_lt.mpr hb)
  have look : ∀ x av, (([("script", .list (sc.map .int))] : List (Str × AV)).lookup x = some av) → x = "script" ∧ av = .list (sc.map .int) := fun x av e => by
    by_cases q : x = "script"
    · subst q
      simp only [List.lookup_cons, beq_self_eq_true, Option.some.injEq] at e
      exact ⟨rfl, e.symm⟩
    · rw [List.lookup_cons_ne q] at e; cases e
  have F : InF g (lawF (lawD pm cd doc) s.heap.objs.size a A [(P, tabObj tb₀)] [("script", .list (sc.map .int))]) { s with heap := s.heap.hide P } s₁ := by
    refine ⟨?_, fun b o e => X₁.toInCall.keep b o (Heap.of_hide e), on, ⟨⟨_, X₁.toInCall.ns, fun x av hk hr => ?_⟩, fun x av hk hr => ?_, fun b l e => (nomatch e), fun p hp => ?_, fun p hp => (nomatch hp), fun x b e => ⟨_, X₁.cell x b e⟩⟩, ?_, fun x b _ e => ?_, fun x y b _ e1 e2 => ?_⟩
    · obtain ⟨hp, tk, e⟩ := X₁.toInCall.same
      exact ⟨hp, tk, e⟩
    · obtain ⟨rfl, rfl⟩ := look x av hr
      have hk' : (lawD pm cd doc).scope.names.lookup ("script" : Str) = some NameKind.local := hk
      have : (lawD pm cd doc).scope.names.lookup ("script" : Str) = some NameKind.cell := rfl
      rw [this] at hk'; cases hk'
    · obtain ⟨rfl, rfl⟩ := look x av hr
      obtain ⟨b, hb⟩ := spec.2.1 ("script" : Str) (.head _)
      refine ⟨b, v, hb, ?_, (hv.keep X₁.toInCall.keep).weak fun a q => by unfold Fc.hid at q; cases q⟩
      have w2 : s₁.heap.IsCell b (bindC (callEnvC (lawD pm cd doc) s.heap.objs.size a).kindOf ((["script"] : List Str).zip [v]) (fun _ => none) "script") := X₁.cell ("script" : Str) b hb
      have e : bindC (callEnvC (lawD pm cd doc) s.heap.objs.size a).kindOf ((["script"] : List Str).zip [v]) (fun _ => none) "script" = some v := by
        show bindC _ [(("script" : Str), v)] _ _ = _
        unfold bindC
        rfl
      rw [e] at w2
      exact w2
    · have : p = (P, tabObj tb₀) := by simpa using hp
      subst this
      exact ⟨X₁.toInCall.keep _ _ hP, nofun, tabPin⟩
    · exact hfresh _ X₁.toInCall.fresh
    · exact hfresh _ (Nat.le_trans X₁.toInCall.fresh (Nat.le_of_lt (X₁.above x b (mem_of_lookup e))))
    · exact name_of_addr X₁.apart (mem_of_lookup e2) (mem_of_lookup e1)
  have hP₀ : ({ s with heap := s.heap.hide P } : Shared).heap.get? P = none := Heap.hide_self ..
  have W := X.ok
  have main : WP g (lawF (lawD pm cd doc) s.heap.objs.size a A [(P, tabObj tb₀)] [("script", .list (sc.map .int))]).A (lawF (lawD pm cd doc) s.heap.objs.size a A [(P, tabObj tb₀)] [("script", .list (sc.map .int))]).env (Stmt.dBody (stAt 34)) (fun f s' => Q (match f with | .ret v => v | _ => .none) s')
      (fun e s' => wpAny (model Pg g.w) (A.deeper (callEnvC (lawD pm cd doc) s.heap.objs.size a)) (leaving (callEnvC (lawD pm cd doc) s.heap.objs.size a) e) (fun _ s'' => E e s'') (fun e' s'' => E e' s'') s') s₁ := by
    refine law_a T hsc ok' F fun s₂ F₂ => ?_
    refine law_b T W ok' (F₂.sub (ρ := ρB sc (szP sc) (masksP (szP sc) (drawnP sc)) (wordsP (szP sc) (drawnP sc))) ⟨rfl, rfl, rfl, rfl, rfl, trivial⟩) fun s₃ F₃ => ?_
    refine law_c T W X.fit hP₀ ⟨hh, hbl, hne, hcd, rfl⟩ tab₀ ok' F₃ fun z ends s₄ tz h1 h2 F₄ => ?_
    refine law_d T W X.fit h1 h2 ok' F₄ fun s₅ F₅ => ?_
    have hz := (F₅.vis.pin (P, tabObj z.tb) (.head _)).1
    refine h s₅ z.tb ?_ (fun b o hb e => F₅.keep b o ((Heap.hide_ne s.heap hb).trans e)) hz tz.ext
    obtain ⟨hp, tk, e⟩ := F₅.same
    exact ⟨hp, tk, e⟩
  exact wpAny_mono main.run (fun f s' q => q) fun _ _ x => x
where
  D_nl {g : G} (T : Tops g) : g.h₀.NoLimit := T.ok.nl
end
end Mine
end
section
open PySem PySem.W PyProof.Rows
set_option Elab.async false
set_option linter.unusedVariables false
set_option maxRecDepth 20000
namespace Mine
theorem wr3 : ∀ ch : Nat, ch < 8 → writtenP ch (plainL 3) = SS (wrL 3 ch) := by decide +kernel
theorem wr4 : ∀ ch : Nat, ch < 16 → writtenP ch (plainL 4) = SS (wrL 4 ch) := by decide +kernel
/-- the letters at work -/
def lets : List Nat := [97, 98, 99, 100, 65, 66, 67, 68]
theorem subst_lets : ∀ a ∈ lets, ∀ b ∈ lets, substP a b = if a = b then 0 else if (a + 32 = b ∨ b + 32 = a) then 1 else 2 := by decide +kernel
end Mine
end
section
open PySem PySem.W PyProof.Rows
set_option Elab.async false
set_option linter.unusedVariables false
set_option maxRecDepth 20000
namespace Mine
def levC (n m : Nat) : Bool := (List.range (2 ^ n)).all fun ch => (levP (wrL n m) (wrL n ch) (manyP ch - manyP m) == manyP ch - manyP m) == inP m ch
theorem lev3 : ∀ m : Nat, m < 8 → levC 3 m = true := by decide +kernel
theorem lev4a : ∀ m : Nat, m < 4 → levC 4 m = true := by decide +kernel
theorem lev4b : ∀ m : Nat, m < 4 → levC 4 (m + 4) = true := by decide +kernel
theorem lev4c : ∀ m : Nat, m < 4 → levC 4 (m + 8) = true := by decide +kernel
theorem lev4d : ∀ m : Nat, m < 4 → levC 4 (m + 12) = true := by decide +kernel
theorem lev_ok {n m ch : Nat} (h3 : 3 ≤ n) (h4 : n ≤ 4) (hm : m < 2 ^ n) (hc : ch < 2 ^ n) : (levP (wrL n m) (wrL n ch) (manyP ch - manyP m) == manyP ch - manyP m) = inP m ch := by
  have key : levC n m = true := by
    have : n = 3 ∨ n = 4 := by omega
    rcases this with rfl | rfl
    · exact lev3 m hm
    · have hm' : m < 16 := hm
      by_cases q1 : m < 4
      · exact lev4a m q1
      by_cases q2 : m < 8
      · have := lev4b (m - 4) (by omega)
        rwa [show m - 4 + 4 = m by omega] at this
      by_cases q3 : m < 12
      · have := lev4c (m - 8) (by omega)
        rwa [show m - 8 + 8 = m by omega] at this
      · have := lev4d (m - 12) (by omega)
        rwa [show m - 12 + 12 = m by omega] at this
  unfold levC at key
  rw [List.all_eq_true] at key
  exact eq_of_beq (key ch (List.mem_range.mpr hc))
end Mine
end
section
open PySem PySem.W PyProof.Rows
set_option Elab.async false
set_option linter.unusedVariables false
set_option maxRecDepth 20000
namespace Mine
/-! masks as naturals below 16 -/
def inN (m ch : Nat) : Bool := m &&& ch == m
def fitN (ks : List Nat) (ch : Nat) : Bool := ks.any fun m => inN m ch
theorem and16 : ∀ a : Nat, a < 16 → ∀ m : Nat, m < 16 → Builtin.bitAnd a m = ((a &&& m : Nat) : Int) ∧ (a &&& m) < 16 := by decide +kernel
theorem inP16 {m ch : Nat} (hm : m < 16) (hc : ch < 16) : inP m ch = inN m ch := by
  unfold inP inN
  rw [(and16 m hm ch hc).1, Bool.eq_iff_iff, beq_iff_eq, beq_iff_eq]
  omega
def castM (ks : List Nat) : List Int := ks.map (Int.ofNat ·)
theorem fitB_N {ks : List Nat} (hk : ∀ k ∈ ks, k < 16) {ch : Nat} (hc : ch < 16) : fitB (castM ks) ch = fitN ks ch := by
  unfold fitB fitN castM
  rw [Bool.eq_iff_iff, List.contains_iff_mem, List.any_eq_true]
  constructor
  · intro h
    obtain ⟨m, hm, e⟩ := List.mem_map.mp h
    obtain ⟨k, hkm, rfl⟩ := List.mem_map.mp hm
    exact ⟨k, hkm, by rw [← inP16 (hk k hkm) hc]; exact e⟩
  · rintro ⟨k, hkm, e⟩
    exact List.mem_map.mpr ⟨(k : Int), List.mem_map.mpr ⟨k, hkm, rfl⟩, by rw [inP16 (hk k hkm) hc]; exact e⟩
theorem fitI_N {ks : List Nat} (hk : ∀ k ∈ ks, k < 16) {c : Int} (h0 : 0 ≤ c) (hc : c < 16) : fitI (castM ks) c = fitN ks c.toNat := fitB_N hk (by omega)
/-! the chains of the orders -/
def chainOk (n : Nat) (o : List Nat) : Bool :=
  (chainP o).getD 0 0 == 0 && (chainP o).getD n 0 == 2 ^ n - 1 && (List.range n).all fun i => (chainP o).getD i 0 == (chainP o).getD (i + 1) 0 - 2 ^ (o.getD i 0) && decide ((chainP o).getD i 0 < (chainP o).getD (i + 1) 0) &&
    (o.getD i 0 < n && Nat.testBit ((chainP o).getD (i + 1) 0).toNat (o.getD i 0))
theorem chains3 : ∀ o ∈ ordersP 3, chainOk 3 o = true := by decide +kernel
theorem chains4 : ∀ o ∈ ordersP 4, chainOk 4 o = true := by decide +kernel
theorem n34 {n : Nat} (h3 : 3 ≤ n) (h4 : n ≤ 4) : n = 3 ∨ n = 4 := by omega
theorem chains {n : Nat} (h3 : 3 ≤ n) (h4 : n ≤ 4) : ∀ o ∈ ordersP n, chainOk n o = true := by
  rcases n34 h3 h4 with rfl | rfl
  · exact chains3
  · exact chains4
/-- a mask in a choice less one letter -/
theorem in_less : ∀ m : Nat, m < 16 → ∀ ch : Nat, ch < 16 → ∀ l : Nat, l < 4 → ch.testBit l = true → inN m (ch - 2 ^ l) = (inN m ch && !m.testBit l) := by decide +kernel
section
variable {n : Nat} {ks : List Nat}
theorem pow16 (h4 : n ≤ 4) : (2 : Int) ^ n ≤ 16 := by
  have := pow4 h4
  rw [pow_nI]; omega
structure ChainOk (n : Nat) (o : List Nat) : Prop where
  zero : (chainP o).getD 0 0 = 0
  full : (chainP o).getD n 0 = 2 ^ n - 1
  step : ∀ i, i < n → (chainP o).getD i 0 = (chainP o).getD (i + 1) 0 - 2 ^ (o.getD i 0)
  up : ∀ i, i < n → (chainP o).getD i 0 < (chainP o).getD (i + 1) 0
  let_ : ∀ i, i < n → o.getD i 0 < n ∧ Nat.testBit ((chainP o).getD (i + 1) 0).toNat (o.getD i 0) = true
  len : (chainP o).length = n + 1
  rng : ∀ i, i < n + 1 → 0 ≤ (chainP o).getD i 0 ∧ (chainP o).getD i 0 < 2 ^ n
theorem chain_ok (h3 : 3 ≤ n) (h4 : n ≤ 4) {o : List Nat} (ho : o ∈ ordersP n) : ChainOk n o := by
  have h := chains h3 h4 o ho
  have hl := orders_len n o ho
  have hr := ((orders_ok h3 h4).2 o ho).2
  unfold chainOk at h
  simp only [Bool.and_eq_true, List.all_eq_true, List.mem_range, beq_iff_eq, decide_eq_true_eq] at h
  obtain ⟨⟨h1, h2⟩, h5⟩ := h
  have hlen : (chainP o).length = n + 1 := by rw [chain_len, hl]
  refine ⟨h1, h2, fun i hi => (h5 i hi).1.1, fun i hi => (h5 i hi).1.2, fun i hi => (h5 i hi).2, hlen, fun i hi => ?_⟩
  have e : (chainP o).getD i 0 = (chainP o)[i]'(by omega) := by simp [List.getD, hlen, hi]
  rw [e]
  exact hr _ (List.getElem_mem _)
theorem chain_fit (h4 : n ≤ 4) (hk : ∀ k ∈ ks, k < 16) {o : List Nat} (C : ChainOk n o) (i : Nat) (hi : i < n) (h : fitI (castM ks) ((chainP o).getD i 0) = true) : fitI (castM ks) ((chainP o).getD (i + 1) 0) = true := by
  have r1 := C.rng i (by omega)
  have r2 := C.rng (i + 1) (by omega)
  have hp := pow16 h4
  rw [fitI_N hk r1.1 (by omega)] at h
  rw [fitI_N hk r2.1 (by omega)]
  unfold fitN at h ⊢
  rw [List.any_eq_true] at h ⊢
  obtain ⟨m, hm, hin⟩ := h
  refine ⟨m, hm, ?_⟩
  have e := C.step i hi
  obtain ⟨l1, l2⟩ := C.let_ i hi
  have e2 : ((chainP o).getD i 0).toNat = ((chainP o).getD (i + 1) 0).toNat - 2 ^ (o.getD i 0) := by
    rw [e]
    have : ((2 : Int) ^ (o.getD i 0)) = ((2 ^ (o.getD i 0) : Nat) : Int) := by simp
    rw [this]; omega
  rw [e2, in_less m (hk m hm) _ (by omega) _ (by omega) l2] at hin
  exact (Bool.and_eq_true_iff.mp hin).1
theorem chain_up (h4 : n ≤ 4) (hk : ∀ k ∈ ks, k < 16) {o : List Nat} (C : ChainOk n o) (i : Nat) : ∀ d, i + d < n + 1 → fitI (castM ks) ((chainP o).getD i 0) = true → fitI (castM ks) ((chainP o).getD (i + d) 0) = true
  | 0, _, h => h
  | d + 1, hd, h => chain_fit h4 hk C (i + d) (by omega) (chain_up h4 hk C i d (by omega) h)
theorem chain_lt {o : List Nat} (C : ChainOk n o) (i : Nat) : ∀ d, i + d + 1 < n + 1 → (chainP o).getD i 0 < (chainP o).getD (i + d + 1) 0
  | 0, hd => C.up i (by omega)
  | d + 1, hd => Int.lt_trans (chain_lt C i d (by omega)) (C.up (i + d + 1) (by omega))
theorem getD_el {l : List Int} {i : Nat} (h : i < l.length) : l.getD i 0 = l[i] := by simp [List.getD, h]
theorem cut_ok (h4 : n ≤ 4) (hk : ∀ k ∈ ks, k < 16) {o : List Nat} (C : ChainOk n o) : Cut (chainP o).length (placeP (castM ks) o) fun j => !fitI (castM ks) ((chainP o).getD j 0) := by
  refine ⟨List.findIdx_le_length, fun j hj => ?_⟩
  constructor
  · intro h
    rw [Nat.lt_iff_add_one_le, ← Nat.not_lt]
    intro hlt
    have hp : placeP (castM ks) o < (chainP o).length := by omega
    have hf : fitI (castM ks) ((chainP o).getD (placeP (castM ks) o) 0) = true := by
      rw [getD_el hp]
      exact List.findIdx_getElem (w := hp)
    have := chain_up h4 hk C (placeP (castM ks) o) (j - placeP (castM ks) o) (by have := C.len; omega) hf
    rw [show placeP (castM ks) o + (j - placeP (castM ks) o) = j by omega] at this
    have h' : (!fitI (castM ks) ((chainP o).getD j 0)) = true := h
    rw [this] at h'; cases h'
  · intro h
    have := List.not_of_lt_findIdx h
    show (!fitI (castM ks) ((chainP o).getD j 0)) = true
    rw [getD_el hj]
    simpa using this
/-- the letter by which the order comes to this choice -/
def lastOf (n : Nat) (o : List Nat) (ch : Nat) : Option Nat := ((List.range n).find? fun i => (chainP o).getD (i + 1) 0 == (ch : Int)).map fun i => o.getD i 0
theorem first_at (h4 : n ≤ 4) (hk : ∀ k ∈ ks, k < 16) {o : List Nat} (C : ChainOk n o) {ch : Nat} (h0 : 0 < ch) (hc : ch < 2 ^ n) (hf : fitN ks ch = true) : (firstP (castM ks) o == some (ch : Int)) = (lastOf n o ch).any fun l => !fitN ks (ch - 2 ^ l) := by
  have hp := pow4 h4
  have hcut := cut_ok h4 hk C
  have hlen := C.len
  unfold lastOf
  cases hi : (List.range n).find? fun i => (chainP o).getD (i + 1) 0 == (ch : Int) with
  | none =>
    rw [List.find?_eq_none] at hi
    simp only [Option.map_none, Option.any_none]
    rw [beq_eq_false_iff_ne]
    intro e
    unfold firstP at e
    split at e
    · next hlt =>
      have e' := Option.some.inj e
      generalize hpl : placeP (castM ks) o = p at *
      cases p with
      | zero => rw [C.zero] at e'; omega
      | succ i => exact hi i (List.mem_range.mpr (by omega)) (by rw [beq_iff_eq]; exact e')
    · cases e
  | some i =>
    have h1 := List.find?_some hi
    have h2 := List.mem_range.mp (List.mem_of_find?_eq_some hi)
    rw [beq_iff_eq] at h1
    simp only [Option.map_some, Option.any_some]
    obtain ⟨l1, l2⟩ := C.let_ i h2
    have e := C.step i h2
    have e3 : ((2 : Int) ^ (o.getD i 0)) = ((2 ^ (o.getD i 0) : Nat) : Int) := by simp
    have r1 := C.rng i (by omega)
    have hpi := pow16 h4
    have e2 : ((chainP o).getD i 0).toNat = ch - 2 ^ (o.getD i 0) := by
      rw [e, h1, e3]; omega
    have hfi : fitI (castM ks) ((chainP o).getD i 0) = fitN ks (ch - 2 ^ (o.getD i 0)) := by rw [fitI_N hk r1.1 (by omega), e2]
    have hfi1 : fitI (castM ks) ((chainP o).getD (i + 1) 0) = true := by rw [h1, fitI_N hk (by omega) (by omega)]; exact hf
    have c1 := hcut.2 i (by omega)
    have c2 : (!fitI (castM ks) ((chainP o).getD (i + 1) 0)) = true ↔ i + 1 < placeP (castM ks) o := hcut.2 (i + 1) (by omega)
    rw [hfi1] at c2
    have c2' : ¬ i + 1 < placeP (castM ks) o := fun h => by have := c2.mpr h; cases this
    have c1' : (!fitN ks (ch - 2 ^ (o.getD i 0))) = true ↔ i < placeP (castM ks) o := by
      rw [← hfi]; exact c1
    rw [Bool.eq_iff_iff, c1', beq_iff_eq]
    constructor
    · intro h
      unfold firstP at h
      split at h
      · next hlt =>
        have h' := Option.some.inj h
        rw [← Nat.not_le]
        intro hle
        generalize placeP (castM ks) o = p at *
        obtain ⟨d, rfl⟩ : ∃ d, i = p + d := ⟨i - p, by omega⟩
        have := chain_lt C p d (by omega)
        rw [h1, h'] at this
        omega
      · cases h
    · intro h
      have : placeP (castM ks) o = i + 1 := by omega
      unfold firstP
      rw [this, if_pos (by omega), h1]
theorem first_no (h4 : n ≤ 4) (hk : ∀ k ∈ ks, k < 16) {o : List Nat} (C : ChainOk n o) {ch : Nat} (hc : ch < 2 ^ n) (hf : fitN ks ch = false) : (firstP (castM ks) o == some (ch : Int)) = false := by
  have hp := pow4 h4
  rw [beq_eq_false_iff_ne]
  intro e
  unfold firstP at e
  split at e
  · next hlt =>
    have e' := Option.some.inj e
    have h : fitI (castM ks) ((chainP o).getD (placeP (castM ks) o) 0) = true := by
      rw [getD_el hlt]
      exact List.findIdx_getElem (w := hlt)
    rw [e', fitI_N hk (by omega) (by omega)] at h
    have e2 : ((ch : Int)).toNat = ch := by omega
    rw [e2, hf] at h; cases h
  · cases e
end
end Mine
end
section
open PySem PySem.W PyProof.Rows
set_option Elab.async false
set_option linter.unusedVariables false
set_option maxRecDepth 20000
namespace Mine
def sel (b0 b1 b2 b3 : Bool) : Nat → Bool
  | 0 => b0
  | 1 => b1
  | 2 => b2
  | _ => b3
def tally (n ch : Nat) : Bool :=
  [false, true].all fun b0 => [false, true].all fun b1 => [false, true].all fun b2 => [false, true].all fun b3 =>
    (((ordersP n).countP fun o => (lastOf n o ch).any (sel b0 b1 b2 b3) : Nat) : Int) == ((((List.range 4).countP fun l => ch.testBit l && sel b0 b1 b2 b3 l : Nat)) : Int) * timesL.getD (manyP ch - 1).toNat 0 * timesL.getD ((n : Int) - manyP ch).toNat 0
theorem tally3 : ∀ ch : Nat, ch < 8 → 0 < ch → tally 3 ch = true := by decide +kernel
theorem tally4a : ∀ ch : Nat, ch < 4 → 0 < ch → tally 4 ch = true := by decide +kernel
theorem tally4b : ∀ ch : Nat, ch < 4 → tally 4 (ch + 4) = true := by decide +kernel
theorem tally4c : ∀ ch : Nat, ch < 4 → tally 4 (ch + 8) = true := by decide +kernel
theorem tally4d : ∀ ch : Nat, ch < 4 → tally 4 (ch + 12) = true := by decide +kernel
theorem tallies {n : Nat} (h3 : 3 ≤ n) (h4 : n ≤ 4) {ch : Nat} (h0 : 0 < ch) (hc : ch < 2 ^ n) : tally n ch = true := by
  rcases n34 h3 h4 with rfl | rfl
  · exact tally3 ch hc h0
  · have hc' : ch < 16 := hc
    by_cases q1 : ch < 4
    · exact tally4a ch q1 h0
    by_cases q2 : ch < 8
    · have := tally4b (ch - 4) (by omega)
      rwa [show ch - 4 + 4 = ch by omega] at this
    by_cases q3 : ch < 12
    · have := tally4c (ch - 8) (by omega)
      rwa [show ch - 8 + 8 = ch by omega] at this
    · have := tally4d (ch - 12) (by omega)
      rwa [show ch - 12 + 12 = ch by omega] at this
theorem tally_at {n ch : Nat} (h : tally n ch = true) (f : Nat → Bool) : (((ordersP n).countP fun o => (lastOf n o ch).any (sel (f 0) (f 1) (f 2) (f 3)) : Nat) : Int) = ((((List.range 4).countP fun l => ch.testBit l && sel (f 0) (f 1) (f 2) (f 3) l : Nat)) : Int) * timesL.getD (manyP ch - 1).toNat 0 * timesL.getD ((n : Int) - manyP ch).toNat 0 := by
  unfold tally at h
  have b : ∀ x : Bool, x ∈ [false, true] := by decide
  rw [List.all_eq_true] at h
  have h := h _ (b (f 0))
  rw [List.all_eq_true] at h
  have h := h _ (b (f 1))
  rw [List.all_eq_true] at h
  have h := h _ (b (f 2))
  rw [List.all_eq_true] at h
  have h := h _ (b (f 3))
  exact eq_of_beq h
theorem sel_eq (f : Nat → Bool) : ∀ l, l < 4 → sel (f 0) (f 1) (f 2) (f 3) l = f l := by
  intro l hl
  have : l = 0 ∨ l = 1 ∨ l = 2 ∨ l = 3 := by omega
  rcases this with rfl | rfl | rfl | rfl <;> rfl
def comN (ks : List Nat) (ch a : Nat) : Nat := ks.foldl (fun a m => if inN m ch then a &&& m else a) a
theorem com_N {ch : Nat} (hc : ch < 16) : ∀ (ks : List Nat), (∀ k ∈ ks, k < 16) → ∀ a : Nat, a < 16 → (castM ks).foldl (fun a m => if inP m ch then Builtin.bitAnd a m else a) (a : Int) = (comN ks ch a : Int) ∧ comN ks ch a < 16
  | [], _, a, ha => ⟨rfl, ha⟩
  | k :: ks, hk, a, ha => by
    have hk0 := hk k (.head _)
    have hks := fun x hx => hk x (.tail _ hx)
    show (castM ks).foldl _ (if inP (k : Int) ch then Builtin.bitAnd a k else a) = (comN ks ch (if inN k ch then a &&& k else a) : Int) ∧ comN ks ch (if inN k ch then a &&& k else a) < 16
    rw [inP16 hk0 hc]
    cases inN k ch with
    | true =>
      simp only [if_true]
      obtain ⟨e1, e2⟩ := and16 a ha k hk0
      rw [e1]
      exact com_N hc ks hks _ e2
    | false =>
      simp only [Bool.false_eq_true, if_false]
      exact com_N hc ks hks a ha
theorem com_bit {ch l : Nat} : ∀ (ks : List Nat) (a : Nat), (comN ks ch a).testBit l = (a.testBit l && ks.all fun m => !inN m ch || m.testBit l)
  | [], a => by simp [comN]
  | k :: ks, a => by
    show (comN ks ch (if inN k ch then a &&& k else a)).testBit l = _
    rw [com_bit ks]
    rw [List.all_cons]
    cases inN k ch with
    | true => simp [Nat.testBit_and, Bool.and_assoc]
    | false => simp
theorem many16 : ∀ c : Nat, c < 16 → manyP c = (((List.range 4).countP fun l => c.testBit l : Nat) : Int) := by decide +kernel
theorem fit_less {ks : List Nat} (hk : ∀ k ∈ ks, k < 16) {ch l : Nat} (hc : ch < 16) (hl : l < 4) (hb : ch.testBit l = true) : (!fitN ks (ch - 2 ^ l)) = ks.all fun m => !inN m ch || m.testBit l := by
  unfold fitN
  rw [List.not_any_eq_all_not, Bool.eq_iff_iff, List.all_eq_true, List.all_eq_true]
  constructor
  · intro h m hm
    have := h m hm
    rw [in_less m (hk m hm) ch hc l hl hb] at this
    revert this
    cases inN m ch <;> cases m.testBit l <;> decide
  · intro h m hm
    rw [in_less m (hk m hm) ch hc l hl hb]
    have := h m hm
    revert this
    cases inN m ch <;> cases m.testBit l <;> decide
theorem cnt_ok {n : Nat} {ks : List Nat} (h3 : 3 ≤ n) (h4 : n ≤ 4) (hk : ∀ k ∈ ks, k < 16) {ch : Nat} (h0 : 0 < ch) (hc : ch < 2 ^ n) : (((((ordersP n).filterMap (firstP (castM ks))).count (ch : Int) : Nat)) : Int) = dueP (castM ks) ch n := by
  have hp := pow4 h4
  have hc16 : ch < 16 := by omega
  rw [List.count_filterMap]
  cases hf : fitN ks ch with
  | false =>
    have h1 : (ordersP n).countP (fun o => firstP (castM ks) o == some (ch : Int)) = 0 := List.countP_eq_zero.mpr fun o ho => by
      rw [first_no h4 hk (chain_ok h3 h4 ho) hc hf]; decide
    rw [h1]
    have h2 : (castM ks).filter (fun m => inP m ch) = [] := by
      rw [List.filter_eq_nil_iff]
      intro m hm
      obtain ⟨k, hkm, rfl⟩ := List.mem_map.mp hm
      have h5 := inP16 (hk k hkm) hc16
      show ¬ inP (k : Int) ch = true
      rw [h5]
      unfold fitN at hf
      rw [List.any_eq_false] at hf
      exact hf k hkm
    unfold dueP
    rw [h2]
    rfl
  | true =>
    have h1 : (ordersP n).countP (fun o => firstP (castM ks) o == some (ch : Int)) = (ordersP n).countP fun o => (lastOf n o ch).any (sel (!fitN ks (ch - 2 ^ 0)) (!fitN ks (ch - 2 ^ 1)) (!fitN ks (ch - 2 ^ 2)) (!fitN ks (ch - 2 ^ 3))) := List.countP_congr fun o ho => by
      have C := chain_ok h3 h4 ho
      rw [first_at h4 hk C h0 hc hf]
      unfold lastOf
      cases hi : (List.range n).find? fun i => (chainP o).getD (i + 1) 0 == (ch : Int) with
      | none => simp
      | some i =>
        have h2 := List.mem_range.mp (List.mem_of_find?_eq_some hi)
        have h5 := (C.let_ i h2).1
        simp only [Option.map_some, Option.any_some]
        rw [sel_eq (fun l => !fitN ks (ch - 2 ^ l)) _ (by omega)]
    rw [h1, tally_at (tallies h3 h4 h0 hc) (fun l => !fitN ks (ch - 2 ^ l))]
    obtain ⟨e1, e2⟩ := com_N hc16 ks hk ch hc16
    have e1' : commonP (castM ks) ch = (comN ks ch ch : Int) := e1
    have h5 : ((List.range 4).countP fun l => ch.testBit l && sel (!fitN ks (ch - 2 ^ 0)) (!fitN ks (ch - 2 ^ 1)) (!fitN ks (ch - 2 ^ 2)) (!fitN ks (ch - 2 ^ 3)) l) = (List.range 4).countP fun l => (comN ks ch ch).testBit l := List.countP_congr fun l hl => by
      have hl4 := List.mem_range.mp hl
      rw [sel_eq (fun l => !fitN ks (ch - 2 ^ l)) _ hl4, com_bit]
      cases hb : ch.testBit l with
      | false => simp
      | true => rw [fit_less hk hc16 hl4 hb]
    rw [h5, ← many16 _ e2]
    have h6 : ((castM ks).filter (fun m => inP m ch)) ≠ [] := by
      unfold fitN at hf
      rw [List.any_eq_true] at hf
      obtain ⟨k, hkm, hin⟩ := hf
      intro e
      have : (k : Int) ∈ (castM ks).filter (fun m => inP m ch) := List.mem_filter.mpr ⟨List.mem_map.mpr ⟨k, hkm, rfl⟩, by rw [inP16 (hk k hkm) hc16]; exact hin⟩
      rw [e] at this; cases this
    unfold dueP
    rw [e1']
    have h7 : ((castM ks).filter (fun m => inP m ch) == []) = false := by
      rw [beq_eq_false_iff_ne]; exact h6
    rw [h7, Bool.false_or]
    by_cases q : comN ks ch ch = 0
    · rw [q]
      have : manyP ((0 : Nat) : Int) = 0 := by decide +kernel
      rw [this]
      simp
    · rw [if_neg]
      rw [beq_iff_eq]
      omega
theorem all_ok {n : Nat} {ks : List Nat} (h3 : 3 ≤ n) (h4 : n ≤ 4) (hk : ∀ k ∈ ks, 0 < k ∧ k < 2 ^ n) : (((ordersP n).filterMap (firstP (castM ks))).length : Int) = if castM ks != [] then ([6, 24] : List Int).getD (n - 3) 0 else 0 := by
  have hp := pow4 h4
  have hk16 : ∀ k ∈ ks, k < 16 := fun k h => by have := hk k h; omega
  have hlen : ((ordersP n).length : Int) = ([6, 24] : List Int).getD (n - 3) 0 := by
    rcases n34 h3 h4 with rfl | rfl
    · rw [orders3.1]; rfl
    · rw [orders4.1]; rfl
  cases ks with
  | nil =>
    have : (ordersP n).filterMap (firstP (castM [])) = [] := by
      rw [List.filterMap_eq_nil_iff]
      intro o ho
      have C := chain_ok h3 h4 ho
      unfold firstP
      rw [if_neg]
      intro hlt
      have h : fitI (castM []) ((chainP o).getD (placeP (castM []) o) 0) = true := by
        rw [getD_el hlt]
        exact List.findIdx_getElem (w := hlt)
      cases h
    rw [this]
    rfl
  | cons k ks =>
    have hne : (castM (k :: ks) != []) = true := rfl
    rw [hne, if_pos rfl, ← hlen]
    congr 1
    have : ∀ os : List (List Nat), (∀ o ∈ os, (firstP (castM (k :: ks)) o).isSome = true) → (os.filterMap (firstP (castM (k :: ks)))).length = os.length := by
      intro os
      induction os with
      | nil => intro _; rfl
      | cons o os ih =>
        intro h
        obtain ⟨x, hx⟩ := Option.isSome_iff_exists.mp (h o (.head _))
        rw [List.filterMap_cons_some hx, List.length_cons, List.length_cons, ih fun o ho => h o (.tail _ ho)]
    refine this _ fun o ho => ?_
    have C := chain_ok h3 h4 ho
    have hlt : placeP (castM (k :: ks)) o < (chainP o).length := by
      refine List.findIdx_lt_length_of_exists ⟨(chainP o).getD n 0, ?_, ?_⟩
      · rw [getD_el (by rw [C.len]; omega)]
        exact List.getElem_mem _
      · have hpi := pow16 h4
        have hr := C.rng n (by omega)
        rw [fitI_N hk16 hr.1 (by omega), C.full]
        unfold fitN
        rw [List.any_cons, Bool.or_eq_true]
        left
        have e : ((2 : Int) ^ n - 1).toNat = 2 ^ n - 1 := by
          have : ((2 : Int) ^ n) = ((2 ^ n : Nat) : Int) := by simp
          rw [this]; omega
        rw [e]
        have h1 := (hk k (.head _)).2
        have top : ∀ n < 5, ∀ k < 2 ^ n, inN k (2 ^ n - 1) = true := by decide +kernel
        exact top n (by omega) k h1
    unfold firstP
    rw [if_pos hlt]
    rfl
theorem lawFit {n : Nat} {ks : List Nat} (h3 : 3 ≤ n) (h4 : n ≤ 4) (hk : ∀ k ∈ ks, 0 < k ∧ k < 2 ^ n) : LawFit n (castM ks) := by
  have hp := pow4 h4
  have hk16 : ∀ k ∈ ks, k < 16 := fun k h => by have := hk k h; omega
  exact ⟨fun o ho => cut_ok h4 hk16 (chain_ok h3 h4 ho), fun ch h0 hc => cnt_ok h3 h4 hk16 h0 hc, all_ok h3 h4 hk⟩
end Mine
end
section
open PySem PySem.W PyProof.Rows
set_option Elab.async false
set_option linter.unusedVariables false
set_option maxRecDepth 20000
namespace Mine
theorem join_list : ∀ (l : List Str), (Txt.join "" l).cps.toList = l.flatMap fun x => x.cps.toList := by
  have key : ∀ (l : List Str) (acc : Array Nat), (l.foldl (fun acc p => acc ++ (("" : Str)).cps ++ p.cps) acc).toList = acc.toList ++ l.flatMap fun x => x.cps.toList := by
    intro l
    induction l with
    | nil => intro acc; simp
    | cons x l ih =>
      intro acc
      rw [List.foldl_cons, ih]
      have : (("" : Str)).cps = #[] := rfl
      rw [this]
      simp
  intro l
  cases l with
  | nil => rfl
  | cons x l =>
    show (List.foldl _ x.cps l).toList = _
    rw [key l x.cps]
    simp
theorem join_SS {l : List Str} {m : List Nat} (h : (l.flatMap fun x => x.cps.toList) = m) : Txt.join "" l = SS m := by
  have := join_list l
  rw [h] at this
  have e : (Txt.join "" l).cps = m.toArray := by rw [← this]
  show (⟨(Txt.join "" l).cps⟩ : Str) = _
  rw [e]; rfl
/-! the tables, by naturals -/
theorem upTo_contains (a : Int) (n : Nat) (i : Int) : (upTo a n).contains i = (decide (a ≤ i) && decide (i < a + n)) := by
  unfold upTo
  rw [Bool.eq_iff_iff, List.contains_iff_mem, List.mem_map, Bool.and_eq_true, decide_eq_true_iff, decide_eq_true_iff]
  constructor
  · rintro ⟨k, hk, rfl⟩
    have := List.mem_range.mp hk
    omega
  · rintro ⟨h1, h2⟩
    exact ⟨(i - a).toNat, List.mem_range.mpr (by omega), by omega⟩
theorem has_int (l : List Nat) (s : Nat) : (l.map (Int.ofNat ·)).contains (s : Int) = l.any fun k => Nat.beq k s := by
  rw [Bool.eq_iff_iff, List.contains_iff_mem, List.any_eq_true]
  constructor
  · intro h
    obtain ⟨k, hk, e⟩ := List.mem_map.mp h
    exact ⟨k, hk, by rw [Nat.beq_eq]; exact Int.ofNat.inj e⟩
  · rintro ⟨k, hk, e⟩
    rw [Nat.beq_eq] at e
    subst e
    exact List.mem_map.mpr ⟨k, hk, rfl⟩
def b1Hd : List Nat := (Expr.ints (Expr.left (Expr.arg0 (Stmt.val (stAt 5))))).map Int.toNat
def c8Hd : List Nat := (Expr.ints (Expr.left (Expr.left (Expr.arg0 (Stmt.val (stAt 14)))))).map Int.toNat
def c9Hd : List Nat := (Expr.ints (Expr.left (Expr.arg0 (Stmt.val (stAt 16))))).map Int.toNat
theorem b1_eq : b1L = b1Hd.map (Int.ofNat ·) ++ upTo 65024 16 := by decide +kernel
theorem c8_eq : c8L = c8Hd.map (Int.ofNat ·) ++ upTo 8234 5 ++ upTo 8298 6 := by decide +kernel
theorem c9_eq : c9L = c9Hd.map (Int.ofNat ·) ++ upTo 917536 96 := by decide +kernel
def btw (a n s : Nat) : Bool := Nat.ble a s && Nat.blt s (a + n)
theorem btw_eq (a n s : Nat) : (upTo (a : Int) n).contains (s : Int) = btw a n s := by
  rw [upTo_contains, btw, Bool.eq_iff_iff, Bool.and_eq_true, Bool.and_eq_true, decide_eq_true_iff, decide_eq_true_iff, Nat.ble_eq, Nat.blt_eq]
  omega
def b1N (s : Nat) : Bool := (b1Hd.any fun k => Nat.beq k s) || btw 65024 16 s
theorem contains_app (l m : List Int) (i : Int) : (l ++ m).contains i = (l.contains i || m.contains i) := by
  rw [Bool.eq_iff_iff, List.contains_iff_mem, List.mem_append, Bool.or_eq_true, List.contains_iff_mem, List.contains_iff_mem]
theorem b1_N (s : Nat) : b1L.contains (s : Int) = b1N s := by
  rw [b1_eq, contains_app, has_int]
  rw [show (65024 : Int) = ((65024 : Nat) : Int) from rfl, btw_eq]
  rfl
def badN (s : Nat) : Bool :=
  btw 64976 32 s || Nat.blt 65007 s && (Nat.beq 65534 (s &&& 65535) || Nat.beq 65535 (s &&& 65535)) || (btw 65529 5 s || (btw 12272 12 s || (((c8Hd.any fun k => Nat.beq k s) || btw 8234 5 s || btw 8298 6 s) || ((c9Hd.any fun k => Nat.beq k s) || btw 917536 96 s))))
theorem bitAnd_nat (a b : Nat) : Builtin.bitAnd (a : Int) (b : Int) = ((a &&& b : Nat) : Int) := by
  unfold Builtin.bitAnd
  rw [decide_eq_true (Int.natCast_nonneg a), decide_eq_true (Int.natCast_nonneg b)]
  simp
theorem c4_N (s : Nat) : inC4 s = (btw 64976 32 s || Nat.blt 65007 s && (Nat.beq 65534 (s &&& 65535) || Nat.beq 65535 (s &&& 65535))) := by
  unfold inC4
  rw [show (65535 : Int) = ((65535 : Nat) : Int) from rfl, bitAnd_nat, show (65534 : Int) = ((65534 : Nat) : Int) from rfl]
  generalize s &&& 65535 = r
  have e : ∀ a b : Nat, ((a : Int) == (b : Int)) = Nat.beq a b := fun a b => by
    rw [Bool.eq_iff_iff, beq_iff_eq, Nat.beq_eq]; omega
  rw [e, e]
  by_cases h1 : s < 64976
  · rw [if_pos (by omega)]
    have : btw 64976 32 s = false := by unfold btw; rw [Bool.and_eq_false_iff]; left; rw [Bool.eq_false_iff]; intro h; rw [Nat.ble_eq] at h; omega
    have h2 : Nat.blt 65007 s = false := by rw [Bool.eq_false_iff]; intro h; rw [Nat.blt_eq] at h; omega
    rw [this, h2]; rfl
  · rw [if_neg (by omega)]
    by_cases h2 : s < 65008
    · rw [if_pos (by omega)]
      have : btw 64976 32 s = true := by unfold btw; rw [Bool.and_eq_true, Nat.ble_eq, Nat.blt_eq]; omega
      rw [this]; rfl
    · rw [if_neg (by omega)]
      have : btw 64976 32 s = false := by unfold btw; rw [Bool.and_eq_false_iff]; right; rw [Bool.eq_false_iff]; intro h; rw [Nat.blt_eq] at h; omega
      have h3 : Nat.blt 65007 s = true := by rw [Nat.blt_eq]; omega
      rw [this, h3]; rfl
theorem bad_N (s : Nat) : badP s = badN s := by
  unfold badP badN
  rw [c4_N, c8_eq, c9_eq, contains_app, contains_app, contains_app, has_int, has_int]
  unfold c6L c7L
  rw [show (65529 : Int) = ((65529 : Nat) : Int) from rfl, show (12272 : Int) = ((12272 : Nat) : Int) from rfl, show (8234 : Int) = ((8234 : Nat) : Int) from rfl, show (8298 : Int) = ((8298 : Nat) : Int) from rfl, show (917536 : Int) = ((917536 : Nat) : Int) from rfl]
  rw [btw_eq, btw_eq, btw_eq, btw_eq, btw_eq]
def natLook (k : Nat) : List (Int × Str) → Option Str
  | [] => none
  | (a, b) :: l => bif Nat.beq a.toNat k then some b else natLook k l
theorem look_N (k : Nat) : ∀ (l : List (Int × Str)), (l.all fun p => decide (0 ≤ p.1)) = true → l.lookup (k : Int) = natLook k l
  | [], _ => rfl
  | (a, b) :: l, h => by
    rw [List.all_cons, Bool.and_eq_true, decide_eq_true_iff] at h
    rw [List.lookup_cons, natLook, look_N k l h.2]
    have h0 : 0 ≤ a := h.1
    by_cases q : a.toNat = k
    · have e1 : ((k : Int) == a) = true := by rw [beq_iff_eq]; omega
      have e2 : Nat.beq a.toNat k = true := by rw [Nat.beq_eq]; exact q
      rw [e1, e2]; rfl
    · have e1 : ((k : Int) == a) = false := by rw [beq_eq_false_iff_ne]; omega
      have e2 : Nat.beq a.toNat k = false := by rw [Bool.eq_false_iff]; intro h; rw [Nat.beq_eq] at h; exact q h
      rw [e1, e2]; rfl
theorem b3_pos : (b3L.all fun p => decide (0 ≤ p.1)) = true := by decide +kernel
def mapN (s : Nat) : List Nat := match natLook s b3L with
  | some x => x.cps.toList
  | none => (Txt.lower (one s)).cps.toList
theorem map_N (s : Nat) : (mapB3 s).cps.toList = mapN s := by
  unfold mapB3 mapN b3At
  rw [look_N s _ b3_pos]
  cases natLook s b3L <;> rfl
/-! a sign by its figure -/
def sgL (s : Nat) : List Nat := bif b1N s then [] else mapN s
def sgN (f s : Nat) : Bool := badN s == (f == 16) && (f == 16 || (List.range 4).all fun l => (sgL s).contains (97 + l) == (figP f).contains l)
structure SgOk (f s : Nat) : Prop where
  bad : badP s = (f == 16)
  has : f ≠ 16 → ∀ l, l < 4 → ((97 + l) ∈ sgL s ↔ l ∈ figP f)
theorem sgOk_of {f s : Nat} (h : sgN f s = true) : SgOk f s := by
  unfold sgN at h
  rw [Bool.and_eq_true, beq_iff_eq, Bool.or_eq_true, beq_iff_eq, List.all_eq_true] at h
  refine ⟨by rw [bad_N]; exact h.1, fun hf l hl => ?_⟩
  rcases h.2 with q | q
  · exact absurd q hf
  · have := q l (List.mem_range.mpr hl)
    rw [beq_iff_eq] at this
    rw [← List.contains_iff_mem, this, List.contains_iff_mem]
def roundF (f : Nat) : Nat := if f < 8 then 1 else if f < 12 then 10 else if f < 14 then 27 else if f < 16 then 33 else if f < 17 then 21 else 1
def chkF (f : Nat) : Bool := (List.range (roundF f)).all fun r => sgN f (signP f r)
theorem chk_a : ∀ f, f < 8 → chkF f = true := by decide +kernel
theorem chk_b : ∀ f, f < 2 → chkF (f + 8) = true := by decide +kernel
theorem chk_c : ∀ f, f < 2 → chkF (f + 10) = true := by decide +kernel
theorem chk_d : ∀ f, f < 2 → chkF (f + 12) = true := by decide +kernel
theorem chk_e : chkF 14 = true := by decide +kernel
theorem chk_f : ∀ f, f < 4 → chkF (f + 16) = true := by decide +kernel
end Mine
end
section
open PySem PySem.W PyProof.Rows
set_option Elab.async false
set_option linter.unusedVariables false
set_option maxRecDepth 20000
namespace Mine
theorem chk {f : Nat} (hf : f < 20) (hn : f ≠ 15) : chkF f = true := by
  by_cases q1 : f < 8
  · exact chk_a f q1
  by_cases q2 : f < 10
  · have := chk_b (f - 8) (by omega)
    rwa [show f - 8 + 8 = f by omega] at this
  by_cases q3 : f < 12
  · have := chk_c (f - 10) (by omega)
    rwa [show f - 10 + 10 = f by omega] at this
  by_cases q4 : f < 14
  · have := chk_d (f - 12) (by omega)
    rwa [show f - 12 + 12 = f by omega] at this
  by_cases q5 : f < 16
  · have : f = 14 := by omega
    subst this
    exact chk_e
  · have := chk_f (f - 16) (by omega)
    rwa [show f - 16 + 16 = f by omega] at this
theorem sign_mod (f p : Nat) : signP f p = signP f (p % roundF f) := by
  by_cases h1 : f < 12
  · by_cases h0 : f < 8
    · unfold signP
      rw [if_pos h1, if_pos h1]
      have : f / 4 = 0 ∨ f / 4 = 1 := by omega
      rcases this with e | e <;> rw [e] <;> rfl
    · have e : roundF f = 10 := by unfold roundF; rw [if_neg h0, if_pos h1]
      rw [e]
      unfold signP
      rw [if_pos h1, if_pos h1, Nat.mod_mod]
  · have h0 : ¬ f < 8 := by omega
    by_cases h2 : f < 14
    · have e : roundF f = 27 := by unfold roundF; rw [if_neg h0, if_neg h1, if_pos h2]
      rw [e]
      unfold signP
      rw [if_neg h1, if_neg h1, if_pos h2, if_pos h2, Nat.mod_mod]
    · by_cases h3 : f < 16
      · have e : roundF f = 33 := by unfold roundF; rw [if_neg h0, if_neg h1, if_neg h2, if_pos h3]
        rw [e]
        unfold signP
        rw [if_neg h1, if_neg h1, if_neg h2, if_neg h2, if_pos h3, if_pos h3, Nat.mod_mod]
      · by_cases h5 : f < 17
        · have e : roundF f = 21 := by unfold roundF; rw [if_neg h0, if_neg h1, if_neg h2, if_neg h3, if_pos h5]
          rw [e]
          unfold signP
          rw [if_neg h1, if_neg h1, if_neg h2, if_neg h2, if_neg h3, if_neg h3, if_pos h5, if_pos h5, Nat.mod_mod]
        · unfold signP
          rw [if_neg h1, if_neg h1, if_neg h2, if_neg h2, if_neg h3, if_neg h3, if_neg h5, if_neg h5]
theorem sign_ok' {f : Nat} (hf : f < 20) (hn : f ≠ 15) (p : Nat) : SgOk f (signP f p) := by
  have h := chk hf hn
  unfold chkF at h
  rw [List.all_eq_true] at h
  rw [sign_mod]
  refine sgOk_of (h _ (List.mem_range.mpr (Nat.mod_lt _ ?_)))
  unfold roundF
  repeat' split
  all_goals omega
theorem sign_ok {f : Nat} (hf : f < 20) (p : Nat) : SgOk f (signP f p) := by
  by_cases q : f = 15
  · subst q
    have h := sign_ok' (f := 14) (by decide) (by decide) p
    exact ⟨h.bad, fun _ l hl => h.has (by decide) l hl⟩
  · exact sign_ok' hf q p
/-! a text by its number -/
def figK (x k : Nat) : Nat := x / 20 ^ k % 20
theorem figs_K (x : Nat) : figs x = (List.range 3).map (figK x) := by
  show [x % 20, x / 20 % 20, x / 400 % 20] = [figK x 0, figK x 1, figK x 2]
  simp [figK]
theorem typed_K (x : Nat) : typedP x = (List.range 3).map fun k => signP (figK x k) (x / 8000 + k) := rfl
theorem figK_lt (x k : Nat) : figK x k < 20 := Nat.mod_lt _ (by decide)
theorem any_two {f g : Nat → Nat} {p q : Nat → Bool} : ∀ (l : List Nat), (∀ k, p (f k) = q (g k)) → (l.map f).any p = (l.map g).any q
  | [], _ => rfl
  | a :: l, h => by rw [List.map_cons, List.map_cons, List.any_cons, List.any_cons, h a, any_two l h]
theorem bad_text (x : Nat) : (typedP x).any badP = (figs x).any (· == 16) := by
  rw [figs_K, typed_K]
  exact any_two (List.range 3) fun k => (sign_ok (figK_lt x k) (x / 8000 + k)).bad
theorem prep_mem (t : List Nat) (c : Nat) : c ∈ (prepP t).cps.toList ↔ ∃ s ∈ t, c ∈ sgL s := by
  unfold prepP
  rw [join_list, List.mem_flatMap]
  constructor
  · rintro ⟨w, hw, hc⟩
    unfold prepL at hw
    obtain ⟨s, hs, e⟩ := List.mem_filterMap.mp hw
    split at e
    · cases e
    · next q =>
      cases e
      refine ⟨s, hs, ?_⟩
      unfold sgL
      rw [← b1_N]
      rw [Bool.not_eq_true] at q
      rw [q, cond_false, ← map_N]
      exact hc
  · rintro ⟨s, hs, hc⟩
    unfold sgL at hc
    rw [← b1_N] at hc
    cases q : b1L.contains (s : Int) with
    | true => rw [q, cond_true] at hc; cases hc
    | false =>
      rw [q, cond_false, ← map_N] at hc
      exact ⟨mapB3 s, List.mem_filterMap.mpr ⟨s, hs, by rw [q]; rfl⟩, hc⟩
theorem text_has {x l : Nat} (hl : l < 4) (hb : (figs x).any (· == 16) = false) : (97 + l) ∈ (prepP (typedP x)).cps.toList ↔ l ∈ meantP x := by
  unfold meantP
  rw [if_neg (by rw [hb]; decide), prep_mem, List.mem_flatMap]
  rw [List.any_eq_false] at hb
  rw [figs_K] at hb ⊢
  rw [typed_K]
  constructor
  · rintro ⟨s, hs, hc⟩
    obtain ⟨k, hk, rfl⟩ := List.mem_map.mp hs
    have hne : figK x k ≠ 16 := fun e => hb _ (List.mem_map.mpr ⟨k, hk, rfl⟩) (by rw [e]; rfl)
    exact ⟨figK x k, List.mem_map.mpr ⟨k, hk, rfl⟩, ((sign_ok (figK_lt x k) _).has hne l hl).mp hc⟩
  · rintro ⟨f, hf, hc⟩
    obtain ⟨k, hk, rfl⟩ := List.mem_map.mp hf
    have hne : figK x k ≠ 16 := fun e => hb _ (List.mem_map.mpr ⟨k, hk, rfl⟩) (by rw [e]; rfl)
    exact ⟨_, List.mem_map.mpr ⟨k, hk, rfl⟩, ((sign_ok (figK_lt x k) (x / 8000 + k)).has hne l hl).mpr hc⟩
/-! the mask -/
theorem filterMap_cg {α β : Type} {f g : α → Option β} : ∀ {l : List α}, (∀ a ∈ l, f a = g a) → l.filterMap f = l.filterMap g
  | [], _ => rfl
  | a :: l, h => by
    rw [List.filterMap_cons, List.filterMap_cons, h a (.head _), filterMap_cg fun b hb => h b (.tail _ hb)]
def msel (n : Nat) (f : Nat → Bool) : Int := ((List.range n).filterMap fun k => if f k then some ((2 : Int) ^ k) else none).sum
def mselOk (n : Nat) : Bool := [false, true].all fun b0 => [false, true].all fun b1 => [false, true].all fun b2 => [false, true].all fun b3 =>
  decide (0 ≤ msel n (sel b0 b1 b2 b3)) && decide (msel n (sel b0 b1 b2 b3) < 2 ^ n) && (List.range n).all fun l => ((msel n (sel b0 b1 b2 b3)).toNat / 2 ^ l % 2 == 1) == sel b0 b1 b2 b3 l
theorem msel3 : mselOk 3 = true := by decide +kernel
theorem msel4 : mselOk 4 = true := by decide +kernel
theorem msel_ok {n : Nat} (h3 : 3 ≤ n) (h4 : n ≤ 4) (f : Nat → Bool) : 0 ≤ msel n f ∧ msel n f < 2 ^ n ∧ ∀ l, l < n → ((msel n f).toNat / 2 ^ l % 2 = 1 ↔ f l = true) := by
  have key : mselOk n = true := by
    rcases n34 h3 h4 with rfl | rfl
    · exact msel3
    · exact msel4
  have e : msel n f = msel n (sel (f 0) (f 1) (f 2) (f 3)) := by
    unfold msel
    congr 1
    refine filterMap_cg fun k hk => ?_
    have := List.mem_range.mp hk
    rw [sel_eq f k (by omega)]
  unfold mselOk at key
  have b : ∀ x : Bool, x ∈ [false, true] := by decide
  rw [List.all_eq_true] at key
  have key := key _ (b (f 0))
  rw [List.all_eq_true] at key
  have key := key _ (b (f 1))
  rw [List.all_eq_true] at key
  have key := key _ (b (f 2))
  rw [List.all_eq_true] at key
  have key := key _ (b (f 3))
  rw [← e, Bool.and_eq_true, Bool.and_eq_true, decide_eq_true_iff, decide_eq_true_iff, List.all_eq_true] at key
  refine ⟨key.1.1, key.1.2, fun l hl => ?_⟩
  have h := eq_of_beq (key.2 l (List.mem_range.mpr hl))
  rw [sel_eq f l (by omega)] at h
  rw [← h, beq_iff_eq]
def maskN (n x : Nat) : Nat := (maskP n x).toNat
theorem mask_sel (n x : Nat) : maskP n x = msel n fun k => (meantP x).contains k := rfl
theorem mask_N {n : Nat} (h3 : 3 ≤ n) (h4 : n ≤ 4) (x : Nat) : maskP n x = (maskN n x : Int) ∧ maskN n x < 2 ^ n := by
  obtain ⟨h1, h2, _⟩ := msel_ok h3 h4 fun k => (meantP x).contains k
  rw [← mask_sel] at h1 h2
  rw [pow_nI] at h2
  unfold maskN
  omega
theorem up_lets : ∀ l, l < 4 → (upS (97 + l)).cps.toList = [65 + l] := by decide +kernel
theorem plain_map {n : Nat} (h4 : n ≤ 4) : plainL n = (List.range n).map fun l => 97 + l := by
  have : ∀ n < 5, plainL n = (List.range n).map fun l => 97 + l := by decide
  exact this n (by omega)
/-- what is read out of a text that is not refused -/
theorem letters_ok {n : Nat} (h3 : 3 ≤ n) (h4 : n ≤ 4) {x : Nat} (hb : (figs x).any (· == 16) = false) : lettersP (typedP x) (plainL n) = SS (wrL n (maskN n x)) := by
  unfold lettersP
  refine join_SS ?_
  unfold lettersL
  rw [plain_map h4, List.map_map]
  have key : ∀ l ∈ List.range n, (((fun (k : Nat) => if !(Builtin.Str.occurrences (prepP (typedP x)) (one k) 0 (prepP (typedP x)).length 1).isEmpty then upS k else one k) ∘ fun l => 97 + l) l).cps.toList = [if maskN n x / 2 ^ l % 2 = 1 then 65 + l else 97 + l] := by
    intro l hl
    have hl' := List.mem_range.mp hl
    have h1 := text_has (x := x) (l := l) (by omega) hb
    have h2 := (msel_ok h3 h4 fun k => (meantP x).contains k).2.2 l hl'
    rw [← mask_sel] at h2
    have h3 : maskN n x / 2 ^ l % 2 = 1 ↔ l ∈ meantP x := by
      unfold maskN
      rw [h2, List.contains_iff_mem]
    have h5 := StrLaws.found_one (prepP (typedP x)) (97 + l)
    have h6 : (!(Builtin.Str.occurrences (prepP (typedP x)) (one (97 + l)) 0 (prepP (typedP x)).length 1).isEmpty) = decide ((97 + l) ∈ (prepP (typedP x)).cps.toList) := h5
    simp only [Function.comp]
    rw [h6]
    by_cases q : l ∈ meantP x
    · rw [if_pos (h3.mpr q), if_pos (by rw [decide_eq_true_iff]; exact h1.mpr q)]
      exact up_lets l (by omega)
    · rw [if_neg (fun h => q (h3.mp h)), if_neg (by rw [decide_eq_true_iff]; exact fun h => q (h1.mp h))]
      rfl
  rw [List.flatMap_map]
  have : ∀ ls : List Nat, (∀ l ∈ ls, l ∈ List.range n) → (ls.flatMap fun a => (((fun (k : Nat) => if !(Builtin.Str.occurrences (prepP (typedP x)) (one k) 0 (prepP (typedP x)).length 1).isEmpty then upS k else one k) ∘ fun l => 97 + l) a).cps.toList) = ls.map fun l => if maskN n x / 2 ^ l % 2 = 1 then 65 + l else 97 + l := by
    intro ls
    induction ls with
    | nil => intro _; rfl
    | cons l ls ih =>
      intro h
      rw [List.flatMap_cons, List.map_cons, key l (h l (.head _)), ih fun a ha => h a (.tail _ ha)]
      rfl
  exact this _ fun l hl => hl
theorem mask_bad {n x : Nat} (hb : (figs x).any (· == 16) = true) : maskP n x = 0 := by
  unfold maskP meantP
  rw [if_pos hb]
  have : (List.range n).filterMap (fun k => if ([] : List Nat).contains k = true then some ((2 : Int) ^ k) else none) = [] := by
    rw [List.filterMap_eq_nil_iff]
    intro k _
    rfl
  rw [this]; rfl
theorem wr0 {n : Nat} (h4 : n ≤ 4) : wrL n 0 = plainL n := by
  have : ∀ n < 5, wrL n 0 = plainL n := by decide
  exact this n (by omega)
theorem wr_ne {n : Nat} (h3 : 3 ≤ n) (h4 : n ≤ 4) {m : Nat} (h0 : 0 < m) (hm : m < 2 ^ n) : wrL n m ≠ plainL n := by
  have key : ∀ n < 5, ∀ m < 2 ^ n, 0 < m → wrL n m ≠ plainL n := by decide
  exact key n (by omega) m hm h0
theorem words_ok {n : Nat} (h3 : 3 ≤ n) (h4 : n ≤ 4) : ∀ xs : List Nat, wordsP n xs = (masksP n xs).map fun m => SS (wrL n m.toNat)
  | [] => rfl
  | x :: xs => by
    have ih := words_ok h3 h4 xs
    obtain ⟨hm, hlt⟩ := mask_N h3 h4 x
    unfold wordsP words0 masksP at ih ⊢
    rw [List.map_cons, List.map_cons]
    cases hb : (figs x).any (· == 16) with
    | true =>
      rw [List.filterMap_cons_none (by rw [bad_text, hb]; rfl), List.filterMap_cons_none (by rw [mask_bad hb]; rfl)]
      exact ih
    | false =>
      rw [List.filterMap_cons_some (b := lettersP (typedP x) (plainL n)) (by rw [bad_text, hb]; rfl), letters_ok h3 h4 hb]
      by_cases q : maskN n x = 0
      · rw [List.filterMap_cons_none (by rw [q, wr0 h4, bne_self_eq_false]; rfl), List.filterMap_cons_none (by rw [hm, q]; rfl)]
        exact ih
      · have hne : (SS (wrL n (maskN n x)) != SS (plainL n)) = true := by
          rw [bne_iff_ne]
          exact fun e => wr_ne h3 h4 (Nat.pos_of_ne_zero q) hlt (SS_inj e)
        rw [List.filterMap_cons_some (b := SS (wrL n (maskN n x))) (by rw [hne]; rfl), List.filterMap_cons_some (b := (maskN n x : Int)) (by rw [hm, if_pos (by omega)]), List.map_cons, ih]
        rfl
theorem masks_cast {n : Nat} (h3 : 3 ≤ n) (h4 : n ≤ 4) : ∀ xs : List Nat, ∃ ks : List Nat, masksP n xs = castM ks ∧ (∀ k ∈ ks, 0 < k ∧ k < 2 ^ n) ∧ ks.length ≤ xs.length
  | [] => ⟨[], rfl, fun k h => (nomatch h), Nat.le_refl _⟩
  | x :: xs => by
    obtain ⟨ks, e, hk, hl⟩ := masks_cast h3 h4 xs
    obtain ⟨hm, hlt⟩ := mask_N h3 h4 x
    unfold masksP at e ⊢
    rw [List.map_cons]
    by_cases q : maskN n x = 0
    · refine ⟨ks, ?_, hk, by rw [List.length_cons]; omega⟩
      rw [List.filterMap_cons_none (by rw [hm, q]; rfl)]
      exact e
    · refine ⟨maskN n x :: ks, ?_, fun k h => ?_, by rw [List.length_cons, List.length_cons]; omega⟩
      · rw [List.filterMap_cons_some (b := (maskN n x : Int)) (by rw [hm, if_pos (by omega)]), e]
        rfl
      · rcases List.mem_cons.mp h with rfl | h
        · exact ⟨Nat.pos_of_ne_zero q, hlt⟩
        · exact hk k h
/-- the plain law -/
theorem law_all (sc : List Int) : LawAll sc := by
  have h3 := szP_3 sc
  have h4 := szP_le sc
  obtain ⟨ks, e, hk, hl⟩ := masks_cast h3 h4 (drawnP sc)
  have hl3 : (drawnP sc).length = 3 := by simp [drawnP]
  refine ⟨⟨h3, h4, ?_, fun ch hc => ?_, fun m hm => ?_, words_ok h3 h4 _, fun m hm ch hc => ?_⟩, ?_⟩
  · rw [e]
    unfold castM
    rw [List.length_map]
    omega
  · rcases n34 h3 h4 with q | q
    · rw [q] at hc ⊢; exact wr3 ch hc
    · rw [q] at hc ⊢; exact wr4 ch hc
  · rw [e] at hm
    obtain ⟨k, hkm, rfl⟩ := List.mem_map.mp hm
    exact ⟨k, rfl, hk k hkm⟩
  · rw [e] at hm
    obtain ⟨k, hkm, rfl⟩ := List.mem_map.mp hm
    exact lev_ok h3 h4 (hk k hkm).2 hc
  · rw [e]
    exact lawFit h3 h4 hk
end Mine
end
section
open PySem PySem.W PyProof.Rows
set_option Elab.async false
set_option linter.unusedVariables false
set_option maxRecDepth 20000
namespace Mine
def HaltThrough (t : Thread) (s : Shared) : Step → Prop
  | .halt (.done _) s' => s' = s ∧ through t = true
  | _ => True
theorem haltThrough_ite {t : Thread} {s : Shared} {c : Prop} [Decidable c] {x y : Step} (hx : HaltThrough t s x) (hy : HaltThrough t s y) : HaltThrough t s (if c then x else y) := by
  by_cases h : c
  · rw [if_pos h]; exact hx
  · rw [if_neg h]; exact hy
theorem halt_through0 {den : Code → Sem Fin} {p : Program} {w : World} {s : Shared} {t : Thread} : HaltThrough t s (step den p w s t) := by
  obtain ⟨heap, gens, drawn, toks, os⟩ := s
  obtain ⟨cur, code, pos, stack⟩ := t
  cases cur with
  | pure fin =>
    cases fin with
    | again c => exact trivial
    | done f =>
      cases stack with
      | nil => exact haltThrough_ite trivial ⟨rfl, rfl⟩
      | cons fr r => cases fr <;> exact trivial
  | raise e =>
    cases stack with
    | nil => exact haltThrough_ite trivial trivial
    | cons fr r => cases fr <;> exact trivial
  | finish e => exact haltThrough_ite trivial trivial
  | load a part k =>
    show HaltThrough _ _ (match heap.get? a with | some o => _ | none => _)
    cases heap.get? a <;> exact trivial
  | update a part f k => exact haltThrough_ite trivial trivial
  | choose src n k => exact haltThrough_ite trivial trivial
  | genState g k =>
    show HaltThrough _ _ (match gens[g]? with | none => _ | some st => _)
    cases gens[g]? <;> exact trivial
  | resume g r l k =>
    show HaltThrough _ _ (match gens[g]? with | none => _ | some (.fresh c) => _ | some (.suspended kk _ c p frames _) => _ | some .running => _ | some .finished => _)
    rcases gens[g]? with _ | st
    · exact trivial
    · cases st with
      | fresh c =>
        cases r with
        | send v => cases v <;> exact trivial
        | throw e => exact trivial
      | _ => exact trivial
  | yield v g l k =>
    show HaltThrough _ _ (match splitAtGen stack with | some (frames, (g, k, c, p), rest) => _ | none => _)
    rcases splitAtGen stack with _ | ⟨fs, ⟨g', k', c, p⟩, r⟩ <;> exact trivial
  | _ => exact trivial
theorem halt_through {den : Code → Sem Fin} {p : Program} {w : World} {s s' : Shared} {t : Thread} {f : Flow} (h : step den p w s t = .halt (.done f) s') : s' = s ∧ through t = true := by
  have := halt_through0 (den := den) (p := p) (w := w) (s := s) (t := t)
  rw [h] at this
  exact this
theorem run_through {den : Code → Sem Fin} {p : Program} {w : World} {f : Flow} {s'' : Shared} : ∀ (n : Nat) (s : Shared) (t : Thread), s.asleep → runN den p w n s t = .halted (.done f) s'' → (∀ k s₁ t₁, runN den p w k s t = .running s₁ t₁ → t₁.calm = true) →
    ∃ m t', schedN den p w m (.single s t) = .running (.single s'' t') ∧ through t' = true
  | 0, s, t, _, h, _ => by cases h
  | n + 1, s, t, hz, h, hc => by
    have hc0 : t.calm = true := hc 0 s t rfl
    simp only [runN] at h
    cases hs : step den p w s t with
    | halt o s' =>
      rw [hs] at h
      injection h with e1 e2
      subst e1; subst e2
      obtain ⟨e3, e4⟩ := halt_through hs
      subst e3
      exact ⟨0, t, rfl, e4⟩
    | go s' t' =>
      rw [hs] at h
      have e : sstep den p w (.single s t) = .go (.single s' t') := by
        rcases sstep_single (den := den) (prog := p) (w := w) s t hc0 hz with e | e
        · rw [e, hs]; rfl
        · rw [hs] at e; cases e
      obtain ⟨m, t₁, hm, ht⟩ := run_through n s' t' (Shared.asleep_of_life (step_life den p w s s' t t' hs) hz) h fun k s₁ t₁ hk => hc (k + 1) s₁ t₁ (by simp only [runN, hs]; exact hk)
      exact ⟨m + 1, t₁, by simp only [schedN, e]; exact hm, ht⟩
/-- a whole thread by its tree -/
theorem thread_through {prog : Program} {w : World} {t : Sem Fin} {s : Shared} {R : Shared → Prop} (hz : s.asleep) (h : wpAny (model prog w) callerA t (fun fin s' => (∃ f, fin = .done f) ∧ R s' ∧ s'.gens = #[]) (fun _ _ => False) s) :
    ∃ s₁, R s₁ ∧ s₁.gens = #[] ∧ s₁.heap.life = s.heap.life ∧ ∃ n t₁, schedN (denote table) prog w n (.single s ⟨t, .builtin "claim.caller" {}, default, []⟩) = .running (.single s₁ t₁) ∧ through t₁ = true := by
  have h' := wp_of_wpAny_done (R := fun r s' => ((∃ f, r = .ok f) ∧ R s' ∧ s'.gens = #[]) ∧ leftWithCleanup s'.gens = false) caller_in (wpAny_mono h (fun fin s' ⟨⟨f, e⟩, hR, hg⟩ => ⟨f, e, ⟨⟨f, rfl⟩, hR, hg⟩, by rw [hg]; simp [leftWithCleanup]⟩) fun _ _ x => x.elim) default
  obtain ⟨n, r, s', hn, ⟨f, rfl⟩, hR, hg⟩ := (wp_iff_halts (M := model prog w) t (fun r s' => (∃ f, r = .ok f) ∧ R s' ∧ s'.gens = #[]) default s).mp h'
  obtain ⟨s'', h1, h2, hc⟩ := runNI_real (model prog w).den (model prog w).prog (model prog w).w hn (outcomeOf_ends _)
  obtain rfl := Shared.eq_of_forget_eq h2 hg
  obtain ⟨m, t₁, hm, ht⟩ := run_through (f := f) n s ⟨t, .builtin "claim.caller" {}, default, []⟩ hz h1 hc
  exact ⟨s'', hR, hg, runN_life _ _ _ h1, m, t₁, hm, ht⟩
end Mine
end
section
open PySem PySem.W PyProof.Rows
set_option Elab.async false
set_option linter.unusedVariables false
set_option maxRecDepth 20000
namespace Mine
/-- what the top leaves under a name, said of the heap without the module's names and its code table -/
structure Fact where
  name : Str
  φ : Heap → Value → Prop
  mono : ∀ h h' v, (∀ b o, h.get? b = some o → h'.get? b = some o) → φ h v → φ h' v
def vis (h : Heap) (Pl : Addr) : Heap := hideAll h [mainGlobals, Pl]
theorem vis_of {h : Heap} {Pl b : Addr} {o : Obj} (e : (vis h Pl).get? b = some o) : b ≠ mainGlobals ∧ b ≠ Pl ∧ h.get? b = some o := by
  refine ⟨?_, ?_, of_hideAll _ e⟩
  · rintro rfl
    unfold vis at e
    rw [hideAll_none [mainGlobals, Pl] (.head _)] at e; cases e
  · rintro rfl
    unfold vis at e
    rw [hideAll_none [mainGlobals, b] (.tail _ (.head _))] at e; cases e
theorem vis_get {h : Heap} {Pl b : Addr} {o : Obj} (e : h.get? b = some o) (h1 : b ≠ mainGlobals) (h2 : b ≠ Pl) : (vis h Pl).get? b = some o := by
  refine hideAll_get _ e ?_
  simp only [List.mem_cons, List.not_mem_nil, or_false, not_or]
  exact ⟨h1, h2⟩
/-- the module at work -/
structure TS (s₀ : Shared) (mg₀ : Str → Option Value) (c Pl : Addr) (names : List Str) (fs : List Fact) (n : Nat) (s : Shared) (mg : Str → Option Value) (ps : Array Value) : Prop where
  same : ∃ h tk, s = { s₀ with heap := h, toks := tk }
  main : s.heap.Main mg c Pl ps
  pl : ∀ pos : Pos, n ≤ pos.line → codeAmong pos ps.toList = none
  keep : ∀ b o, b ≠ mainGlobals → s₀.heap.get? b = some o → s.heap.get? b = some o
  new : s₀.heap.objs.size ≤ Pl
  others : ∀ x, x ∉ names → mg x = mg₀ x
  facts : ∀ f ∈ fs, ∃ v, mg f.name = some v ∧ f.φ (vis s.heap Pl) v
def upd (mg : Str → Option Value) (x : Str) (v : Value) : Str → Option Value := fun y => if y = x then some v else mg y
section
variable {s₀ s : Shared} {mg₀ mg : Str → Option Value} {c Pl : Addr} {names : List Str} {fs : List Fact} {n : Nat} {ps : Array Value}
theorem TS.next (T : TS s₀ mg₀ c Pl names fs n s mg ps) {x : Str} {v : Value} {h' : Heap} {tk n' : Nat} {ps' : Array Value} (new : List Fact) (hm : h'.Main (upd mg x v) c Pl ps')
    (hk : ∀ b o, b ≠ Pl → b ≠ mainGlobals → s.heap.get? b = some o → h'.get? b = some o) (hpl : ∀ pos : Pos, n' ≤ pos.line → codeAmong pos ps'.toList = none) (hx : ∀ f ∈ fs, f.name ≠ x)
    (hf : ∀ f ∈ new, f.name = x ∧ f.φ (vis h' Pl) v) : TS s₀ mg₀ c Pl (x :: names) (new ++ fs) n' { s with heap := h', toks := tk } (upd mg x v) ps' := by
  have hv : ∀ b o, (vis s.heap Pl).get? b = some o → (vis h' Pl).get? b = some o := fun b o e => by
    obtain ⟨h1, h2, h3⟩ := vis_of e
    exact vis_get (hk b o h2 h1 h3) h1 h2
  refine ⟨?_, hm, hpl, fun b o h1 e => hk b o ?_ h1 (T.keep b o h1 e), T.new, fun y hy => ?_, fun f hf' => ?_⟩
  · obtain ⟨h, t, rfl⟩ := T.same
    exact ⟨h', tk, rfl⟩
  · rintro rfl
    exact absurd (Heap.lt_size e) (Nat.not_lt.mpr T.new)
  · have h1 : y ≠ x := fun e => hy (e ▸ .head _)
    show (if y = x then some v else mg y) = _
    rw [if_neg h1]
    exact T.others y fun h => hy (.tail _ h)
  · rcases List.mem_append.mp hf' with h | h
    · obtain ⟨e, h2⟩ := hf f h
      exact ⟨v, by rw [e]; exact if_pos rfl, h2⟩
    · obtain ⟨u, h1, h2⟩ := T.facts f h
      exact ⟨u, by show (if f.name = x then some v else mg f.name) = _; rw [if_neg (hx f h)]; exact h1, f.mono _ _ _ hv h2⟩
/-- statements of the module at work -/
structure WT (w : World) (A : Around) (env : Env) (l : List Stmt) (Q : Shared → Prop) (s : Shared) : Prop where
  run : wpAny (model Pg w) A (execs l env) (fun f s' => f = .next ∧ Q s') (fun _ _ => False) s
variable {w : World} {A : Around} {F : Addr} {Q : Shared → Prop} {rest : List Stmt}
theorem wt_nil (h : Q s) : WT w A (mainEnv Pg c F) [] Q s := ⟨wpAny_execs_nil ⟨rfl, h⟩⟩
theorem wt_cons {st : Stmt} (h : wpAny (model Pg w) A (exec st (mainEnv Pg c F)) (fun f s' => f = .next ∧ WT w A (mainEnv Pg c F) rest Q s') (fun _ _ => False) s) : WT w A (mainEnv Pg c F) (st :: rest) Q s :=
  ⟨wpAny_execs_cons (wpAny_mono h (fun f s' ⟨e, x⟩ => by subst e; exact x.run) fun _ _ x => x)⟩
/-- a name of the module is bound to a new or plain value: the heap between may have grown -/
theorem t_store {x : Str} {v : Value} {h₁ : Heap} {tk₁ : Nat} {Q' : Unit → Shared → Prop} {E : Value → Shared → Prop} (new : List Fact) (T : TS s₀ mg₀ c Pl names fs n s mg ps) (hk : ∀ b o, s.heap.get? b = some o → h₁.get? b = some o)
    (hloc : Pg.main.scope.names.lookup x = some .local) (hnb : x ≠ "__builtins__") (hx : ∀ f ∈ fs, f.name ≠ x)
    (hf : ∀ f ∈ new, f.name = x ∧ f.φ (vis h₁ Pl) v)
    (h : ∀ s' mg', TS s₀ mg₀ c Pl (x :: names) (new ++ fs) n s' mg' ps → Q' () s') : wpAny (model Pg w) A (storeName (mainEnv Pg c F) x v) Q' E { s with heap := h₁, toks := tk₁ } := by
  have hm := T.main.keeps hk
  refine wpAny_storeName_local (env := mainEnv Pg c F) hloc hm.g (fun h' hg' hs' => ?_) rfl
  obtain ⟨bm, o, hbm, hne0, hneG, hneP, hbo, hrest⟩ := hm.bmod
  have hs2 : ∀ b, b ≠ mainGlobals → h'.get? b = h₁.get? b := fun b hb => hs'.2 b hb
  have hv : ∀ b o, (vis h₁ Pl).get? b = some o → (vis h' Pl).get? b = some o := fun b o e => by
    obtain ⟨h1, h2, h3⟩ := vis_of e
    exact vis_get ((hs2 b h1).trans h3) h1 h2
  refine h _ (upd mg x v) (T.next (h' := h') (ps' := ps) new ⟨hg', hm.code.sameBut hs' (Nat.ne_of_gt hm.low.1) (Nat.ne_of_gt hm.low.2), hm.low, ⟨bm, o, ?_, hne0, hneG, hneP, (hs2 _ hneG).trans hbo, hrest⟩⟩
    (fun b o _ hb e => (hs2 b hb).trans (hk b o e)) T.pl hx fun f hf' => ⟨(hf f hf').1, f.mono _ _ _ hv (hf f hf').2⟩)
  show (if _ = x then some v else mg _) = _
  rw [if_neg (Ne.symm hnb)]
  exact hbm
def conF (x : Str) (i : Int) : Fact := ⟨x, fun _ v => ∃ t, v = .int i t, fun _ _ _ _ h => h⟩
theorem t_int {x : Str} {i : Int} {k : Nat} {p p₂ pos : Pos} (T : TS s₀ mg₀ c Pl names fs n s mg ps)
    (h : ∀ s' mg', TS s₀ mg₀ c Pl (x :: names) (conF x i :: fs) n s' mg' ps → WT w A (mainEnv Pg c F) rest Q s')
    (hloc : Pg.main.scope.names.lookup x = some .local := by rfl) (hnb : x ≠ "__builtins__" := by decide) (hx : ∀ f ∈ fs, f.name ≠ x := by decide)
    (hsw : swapsWith (.Constant (.int i) k p₂) (some (.Name x p)) pos.line (mainEnv Pg c F) = pure false := by rfl) :
    WT w A (mainEnv Pg c F) (.Assign [.Name x p] (.Constant (.int i) k p₂) pos :: rest) Q s :=
  wt_cons (wpAny_Assign_Name (wpAny_Constant_int (t_store [conF x i] T (fun _ _ e => e) hloc hnb hx (fun f hf => by
    have : f = conF x i := by simpa using hf
    subst this
    exact ⟨rfl, _, rfl⟩) fun s' mg' T' => ⟨rfl, h s' mg' T'⟩)) hsw)
theorem t_str {x : Str} {y : Str} {k : Nat} {p p₂ pos : Pos} (T : TS s₀ mg₀ c Pl names fs n s mg ps)
    (h : ∀ s' mg', TS s₀ mg₀ c Pl (x :: names) fs n s' mg' ps → WT w A (mainEnv Pg c F) rest Q s')
    (hloc : Pg.main.scope.names.lookup x = some .local := by rfl) (hnb : x ≠ "__builtins__" := by decide) (hx : ∀ f ∈ fs, f.name ≠ x := by decide)
    (hsw : swapsWith (.Constant (.str y) k p₂) (some (.Name x p)) pos.line (mainEnv Pg c F) = pure false := by rfl) :
    WT w A (mainEnv Pg c F) (.Assign [.Name x p] (.Constant (.str y) k p₂) pos :: rest) Q s :=
  wt_cons (wpAny_Assign_Name (wpAny_Constant_str (t_store [] T (fun _ _ e => e) hloc hnb hx (fun f hf => (nomatch hf)) fun s' mg' T' => ⟨rfl, h s' mg' T'⟩)) hsw)
/-- a def that the top has made -/
def defF (name : Str) (params : Arguments) (body : List Stmt) (scope : Scope) : Fact :=
  ⟨name, fun h v => ∃ a c' pm doc, v = .ref a ∧ h.get? a = some { cls := .type "function", data := .func (defFd name name params body scope mainGlobals .none .none none pm (.ref c') doc) } ∧ h.CodeRec (.ref c') name,
    fun h h' v hk ⟨a, c', pm, doc, h1, h2, h3⟩ => ⟨a, c', pm, doc, h1, hk _ _ h2, h3.keeps hk⟩⟩
theorem pl_snoc {pos : Pos} {v : Value} (T : TS s₀ mg₀ c Pl names fs n s mg ps) (hn : n ≤ pos.line) : ∀ pos' : Pos, pos.line + 1 ≤ pos'.line → codeAmong pos' (ps ++ #[rawInt pos.line, rawInt pos.col, v]).toList = none := fun pos' h => by
  obtain ⟨o, vs, file, tf, flags, tg, inF, text, tt, op, _, _, _, _, _, _, _, _, _, tr, _⟩ := T.main.code
  rw [Array.toList_append, codeAmong_other _ tr (fun e => by omega)]
  exact T.pl pos' (by omega)
theorem t_def {name : Str} {params : Arguments} {body : List Stmt} {scope : Scope} {pos : Pos} (T : TS s₀ mg₀ c Pl names fs n s mg ps) (hn : n ≤ pos.line)
    (h : ∀ s' mg' ps', TS s₀ mg₀ c Pl (name :: names) (defF name params body scope :: fs) (pos.line + 1) s' mg' ps' → WT w A (mainEnv Pg c F) rest Q s')
    (hkw : params.kwonlyargs = [] := by rfl) (hkd : params.kw_defaults = [] := by rfl) (hdf : params.defaults = [] := by rfl) (hann0 : annTrees params none (mainEnv Pg c F) = [] := by rfl)
    (hfree : ∀ x ∈ scope.names, x.2 ≠ .free := by decide) (hloc : Pg.main.scope.names.lookup name = some .local := by rfl)
    (hq : qualnameIn { scope := Pg.main.scope, locals := mainGlobals, globals := mainGlobals, cells := [] } name name = name := by rfl) (hnb : name ≠ "__builtins__" := by decide) (hx : ∀ f ∈ fs, f.name ≠ name := by decide) :
    WT w A (mainEnv Pg c F) (.FunctionDef name params body [] none [] scope none name pos :: rest) Q s := by
  refine wt_cons (wpAny_defStmt0N hkw hkd (by rw [hdf]; exact fun e he => (nomatch he)) hann0 hfree hloc hq T.main (fun a c' doc dV vs h' tk ha hm hf hcv hD hcd htb keep => ?_) hnb rfl (T.pl pos hn))
  have hG : mainGlobals < s.heap.objs.size := T.main.g.lt
  have hP : Pl < s.heap.objs.size := T.main.code.lt.2
  have hdV : dV = .none := by
    rw [hdf] at hcv
    cases vs with
    | cons _ _ => exact hcv.elim
    | nil =>
      rcases hD with ⟨_, e⟩ | ⟨e, _⟩
      · exact e
      · exact absurd rfl e
  subst hdV
  refine ⟨rfl, h _ _ _ (T.next (x := name) (v := .ref a) (h' := h') [defF name params body scope] hm keep (pl_snoc T hn) hx fun f hf' => ?_)⟩
  have : f = defF name params body scope := by simpa using hf'
  subst this
  obtain ⟨hc1, c₂, oc, vs₂, t₂, e₂, g₂, r₂⟩ := hcd
  cases e₂
  exact ⟨rfl, a, _, _, doc, rfl, vis_get hf (Nat.ne_of_gt (Nat.lt_of_lt_of_le hG ha)) (Nat.ne_of_gt (Nat.lt_of_lt_of_le hP ha)), _, oc, vs₂, t₂, rfl, vis_get g₂ (Nat.ne_of_gt (Nat.lt_of_lt_of_le hG hc1)) (Nat.ne_of_gt (Nat.lt_of_lt_of_le hP hc1)), r₂⟩
end
end Mine
end
section
open PySem PySem.W PyProof.Rows
set_option Elab.async false
set_option linter.unusedVariables false
set_option maxRecDepth 20000
namespace Mine
section
variable {s₀ s : Shared} {mg₀ mg : Str → Option Value} {c Pl : Addr} {names : List Str} {fs : List Fact} {n : Nat} {ps : Array Value} {w : World} {A : Around} {F : Addr} {Q : Shared → Prop} {rest : List Stmt}
theorem isTuple_keep {h h' : Heap} {a : Addr} {its : Array Value} (x : h.IsTuple a its) (hk : ∀ b o, h.get? b = some o → h'.get? b = some o) : h'.IsTuple a its := by
  obtain ⟨o, ho, r⟩ := x
  exact ⟨o, hk _ _ ho, r⟩
/-- a def with the defaults 0, None and the keyword key=None -/
def bisF (name : Str) (params : Arguments) (body : List Stmt) (scope : Scope) : Fact :=
  ⟨name, fun h v => ∃ a c' pm doc dT t kD m, v = .ref a ∧ h.get? a = some { cls := .type "function", data := .func (defFd name name params body scope mainGlobals (.ref dT) (.ref kD) none pm (.ref c') doc) } ∧ h.CodeRec (.ref c') name ∧
      h.IsTuple dT #[.int 0 t, .none] ∧ h.Ns kD m ∧ m "key" = some .none,
    fun h h' v hk ⟨a, c', pm, doc, dT, t, kD, m, h1, h2, h3, h4, h5, h6⟩ => ⟨a, c', pm, doc, dT, t, kD, m, h1, hk _ _ h2, h3.keeps hk, isTuple_keep h4 hk, h5.keeps hk, h6⟩⟩
theorem t_defk {name : Str} {params : Arguments} {body : List Stmt} {scope : Scope} {pos p₁ p₂ p₃ : Pos} {k₁ k₂ k₃ : Nat} (T : TS s₀ mg₀ c Pl names fs n s mg ps) (hn : n ≤ pos.line)
    (h : ∀ s' mg' ps', TS s₀ mg₀ c Pl (name :: names) (bisF name params body scope :: fs) (pos.line + 1) s' mg' ps' → WT w A (mainEnv Pg c F) rest Q s')
    (hkw : params.kwonlyargs.map (·.arg) = [("key" : Str)] := by rfl) (hkd : params.kw_defaults = [some (.Constant .none k₁ p₁)] := by rfl) (hdf : params.defaults = [.Constant (.int 0) k₂ p₂, .Constant .none k₃ p₃] := by rfl) (hann0 : annTrees params none (mainEnv Pg c F) = [] := by rfl)
    (hfree : ∀ x ∈ scope.names, x.2 ≠ .free := by decide) (hloc : Pg.main.scope.names.lookup name = some .local := by rfl)
    (hq : qualnameIn { scope := Pg.main.scope, locals := mainGlobals, globals := mainGlobals, cells := [] } name name = name := by rfl) (hnb : name ≠ "__builtins__" := by decide) (hx : ∀ f ∈ fs, f.name ≠ name := by decide) :
    WT w A (mainEnv Pg c F) (.FunctionDef name params body [] none [] scope none name pos :: rest) Q s := by
  have hq' : qualnameIn (mainEnv Pg c F) name name = name := hq
  refine wt_cons ?_
  rw [exec_def, hq', defaultsOf_eq, hkd, hann0, hdf]
  refine wpAny_bind (wpAny_standAt (wpAny_bind (wpAny_holding ?_)))
  show wpAny _ A (evalAll [eval (.Constant (.int 0) k₂ p₂) (mainEnv Pg c F), eval (.Constant .none k₃ p₃) (mainEnv Pg c F)] >>= _) _ _ s
  refine wpAny_bind (wpAny_evalAll_cons (wpAny_Constant_int (wpAny_evalAll_cons (wpAny_Constant_none (wpAny_evalAll_nil ?_)))))
  show wpAny _ A (holding _ (evalAllOpt [some (eval (.Constant .none k₁ p₁) (mainEnv Pg c F))]) >>= _) _ _ _
  refine wpAny_bind (wpAny_holding ?_)
  show wpAny _ A (do let v ← eval (.Constant .none k₁ p₁) (mainEnv Pg c F); return some v :: (← holding [v] (pure []))) _ _ _
  refine wpAny_bind (wpAny_Constant_none (wpAny_bind (wpAny_holding (wpAny_pure (wpAny_pure ?_)))))
  refine wpAny_holding ?_
  refine wpAny_bind (wpAny_pure ?_)
  rw [makeFunction_eq]
  have hz : ∃ ar, params.kwonlyargs = [ar] ∧ ar.arg = "key" := by
    cases hp : params.kwonlyargs with
    | nil => rw [hp] at hkw; cases hkw
    | cons ar r =>
      rw [hp] at hkw
      cases r with
      | nil => exact ⟨ar, rfl, by simpa using hkw⟩
      | cons _ _ => simp at hkw
  obtain ⟨ar, har, hkey⟩ := hz
  rw [har]
  have hG : mainGlobals < s.heap.objs.size := T.main.g.lt
  have hP : Pl < s.heap.objs.size := T.main.code.lt.2
  show wpAny _ A (newTextTuple [.int 0 s.toks, .none] >>= _) _ _ _
  refine wpAny_bind (wpAny_newTextTuple ?_)
  show wpAny _ A (alloc { cls := .type "dict", data := .dict #[] } >>= _) _ _ _
  refine wpAny_bind (wpAny_alloc ?_)
  refine wpAny_bind (wpAny_forIn_nsSet _ _ id (fun ⟨_, _⟩ _ => rfl) [(ar.arg, Value.none)] (fun _ => none) (Heap.Ns.new _ (.type "dict")) _ fun h₂ hN₂ hsb₂ => ?_)
  refine wpAny_bind (wpAny_pure ?_)
  show wpAny _ A (pure none >>= _) _ _ _
  refine wpAny_bind (wpAny_pure ?_)
  have hsz1 : (s.heap.push { cls := .type "tuple", data := .seq [Value.int 0 s.toks, .none].toArray }).objs.size = s.heap.objs.size + 1 := Heap.size_push ..
  have keep₁ : ∀ b o, (s.heap.push { cls := .type "tuple", data := .seq [Value.int 0 s.toks, .none].toArray }).get? b = some o → h₂.get? b = some o := fun b o e => hsb₂.extBut b o (Nat.ne_of_lt (Heap.lt_size e)) (Heap.get?_push_of_some _ e)
  have keep₂ : ∀ b o, s.heap.get? b = some o → h₂.get? b = some o := fun b o e => keep₁ b o (Heap.get?_push_of_some _ e)
  have hsz₂ : s.heap.objs.size ≤ h₂.objs.size := by
    have e : h₂.objs.size = (s.heap.push { cls := .type "tuple", data := .seq [Value.int 0 s.toks, .none].toArray }).objs.size + 1 := by have := hsb₂.1; simpa [Heap.size_push] using this
    rw [e, hsz1]; omega
  have hT : h₂.IsTuple s.heap.objs.size #[.int 0 s.toks, .none] := ⟨_, keep₁ _ _ (Heap.get?_push_size _ rfl), rfl, 0, rfl⟩
  have hkD : (s.heap.push { cls := .type "tuple", data := .seq [Value.int 0 s.toks, .none].toArray }).objs.size ≠ Pl := by rw [hsz1]; exact Nat.ne_of_gt (Nat.lt_succ_of_lt hP)
  have hkG : (s.heap.push { cls := .type "tuple", data := .seq [Value.int 0 s.toks, .none].toArray }).objs.size ≠ mainGlobals := by rw [hsz1]; exact Nat.ne_of_gt (Nat.lt_succ_of_lt hG)
  refine wpAny_makeTail_from (s := s) (env := mainEnv Pg c F) (mg := mg) hfree T.main.g rfl T.main.code (T.pl pos hn) (Nat.ne_of_lt T.main.low.2) T.main.bmod keep₂ hsz₂ fun c' doc h₃ tk₃ hx₃ hge hlt hok hrec => ?_
  refine wpAny_bind (wpAny_standAt (wpAny_bind (wpAny_bindName (wpAny_storeName_local (env := mainEnv Pg c F) hloc
      (((T.main.g.keeps keep₂).extBut hx₃ (Nat.ne_of_lt T.main.low.2)).push _) (fun h' hg' hs' => wpAny_pure ?_) rfl))))
  dsimp only at hg' hs'
  have hGh : mainGlobals < h₃.objs.size := ((T.main.g.keeps keep₂).extBut hx₃ (Nat.ne_of_lt T.main.low.2)).lt
  have hs2 : ∀ b o, b ≠ mainGlobals → b ≠ Pl → h₂.get? b = some o → h'.get? b = some o := fun b o h1 h2 e => (hs'.2 b h1).trans (Heap.get?_push_of_some _ (hx₃ b o h2 e))
  obtain ⟨bm, o, hbm, hne0, hneG, hneP, hbo, hrest⟩ := T.main.bmod
  have hm' : h'.Main (upd mg name (.ref h₃.objs.size)) c Pl (ps ++ #[rawInt pos.line, rawInt pos.col, .ref c']) := by
    refine ⟨hg', (hok.push _).sameBut hs' (Nat.ne_of_gt T.main.low.1) (Nat.ne_of_gt T.main.low.2), T.main.low, ⟨bm, o, ?_, hne0, hneG, hneP, hs2 _ _ hneG hneP (keep₂ _ _ hbo), hrest⟩⟩
    show (if _ = name then some _ else mg _) = _
    rw [if_neg (Ne.symm hnb)]
    exact hbm
  refine ⟨rfl, h _ _ _ (T.next (x := name) (v := .ref h₃.objs.size) (h' := h') [bisF name params body scope] hm' (fun b o h1 h2 e => hs2 b o h2 h1 (keep₂ b o e)) (pl_snoc T hn) hx fun f hf' => ?_)⟩
  have : f = bisF name params body scope := by simpa using hf'
  subst this
  have hPh : Pl < h₃.objs.size := hok.lt.2
  obtain ⟨c₂, oc, vs₂, t₂, e₂, g₂, r₂⟩ := hrec
  cases e₂
  refine ⟨rfl, h₃.objs.size, _, _, doc, s.heap.objs.size, s.toks, (s.heap.push { cls := .type "tuple", data := .seq [Value.int 0 s.toks, .none].toArray }).objs.size, (fun x => if x = ar.arg then some .none else none), rfl, vis_get ((hs'.2 _ (Nat.ne_of_gt hGh)).trans (Heap.get?_push_size _ rfl)) (Nat.ne_of_gt hGh) (Nat.ne_of_gt hPh), ⟨_, oc, vs₂, t₂, rfl, vis_get ((hs'.2 _ (Nat.ne_of_gt (Nat.lt_of_lt_of_le hG hge))).trans (Heap.get?_push_of_some _ g₂)) (Nat.ne_of_gt (Nat.lt_of_lt_of_le hG hge)) (Nat.ne_of_gt (Nat.lt_of_lt_of_le hP hge)), r₂⟩, ?_, ?_⟩
  · obtain ⟨oT, eT, rT⟩ := hT
    exact ⟨oT, vis_get (hs2 _ _ (Nat.ne_of_gt hG) (Nat.ne_of_gt hP) eT) (Nat.ne_of_gt hG) (Nat.ne_of_gt hP), rT⟩
  · obtain ⟨oN, es, ep, eN, rN⟩ := hN₂
    refine ⟨⟨oN, es, ep, vis_get (hs2 _ _ hkG hkD eN) hkG hkD, rN.1, rN.2.1, fun nm => ?_⟩, ?_⟩
    · rw [rN.2.2 nm]
      by_cases q : nm = ar.arg
      · subst q; simp
      · have : (nm == ar.arg) = false := by simpa using q
        simp [List.lookup, this, q]
    · rw [hkey]; rfl
end
end Mine
end
section
open PySem PySem.W PyProof.Rows
set_option Elab.async false
set_option linter.unusedVariables false
namespace Mine
section
variable {prog : Program} {w : World} {A : Around} {E : Value → Shared → Prop} {s : Shared}
theorem sub_range_set : isSubtype (.type "range") (.type "set") = pure false := by rw [isSubtype_type]; kernel_rfl
theorem sub_range_frozenset : isSubtype (.type "range") (.type "frozenset") = pure false := by rw [isSubtype_type]; kernel_rfl
set_option maxRecDepth 100000 in
set_option maxHeartbeats 3200000 in
/-- set(range(a, b)) -/
theorem call_set_range {r : Addr} {a b : Int} {t u v : Tok} {n : Nat} {Q : Value → Shared → Prop}
    (hh : A.handled = none) (hr : IsRange s.heap r a b 1 t u v) (hsm : Builtin.Range.small a b 1 = true) (hn : Builtin.Range.rangeSize a b 1 = n) (hb : n + 1 < scanBound)
    (h : ∀ (h' : Heap) (tk : Nat), h'.SetOf (intKind prog w) s.heap.objs.size (fun k' => (firstMet (fun i => a + (i : Nat) * 1) n).any (· == k')) (firstMet (fun i => a + (i : Nat) * 1) n).length →
      (∀ b o, b < s.heap.objs.size → s.heap.get? b = some o → h'.get? b = some o) → Q (.ref s.heap.objs.size) { s with heap := h', toks := tk }) :
    wpAny (model prog w) A (call (.type "set") [.ref r]) Q E s := by
  obtain ⟨c, tl, hmro⟩ := PySem.F.called_set.mro
  have hmade := PySem.F.called_set.made
  have hsub := PySem.F.called_set.sub
  refine wpAny_call (codeAny_of_tree ?_)
  show wpAny _ _ (callAny (.type "set") _) _ _ _
  refine wpAny_pure ⟨Code.quiet_builtin _ (by decide +kernel), codeAny_builtin PySem.F.entry_type_call ?_⟩
  rw [Around.under_plain (weight_type_call_type "set" [.ref r] []) rfl]
  have h1 := PySem.F.called_set.notType
  have h2 := PySem.F.called_set.canCreate
  have hct := PySem.F.typeCall_set_1 (.ref r)
  repeat (any_goals (first | assumption | wp_step))
  refine codeAny_mono (code_set_new_1 (.ref r) (E := E) (Q₁ := fun obj s₁ => ∃ led : Bool, obj = .ref s.heap.objs.size ∧ s₁ = { s with heap := s.heap.push { cls := .type "set", dict := none, data := .set #[] 0 (.fresh 0 0 led) } }) fun led => ⟨led, rfl, rfl⟩) fun r₁ s₁ hr₁ => ?_
  cases r₁ with
  | error e => exact hr₁
  | ok fl =>
    cases fl with
    | ret obj =>
      obtain ⟨led, rfl, rfl⟩ := hr₁
      have hS : (s.heap.push { cls := .type "set", dict := none, data := .set #[] 0 (.fresh 0 0 led) }).get? s.heap.objs.size = some { cls := .type "set", dict := none, data := .set #[] 0 (.fresh 0 0 led) } := Heap.get?_push_size _ rfl
      have hT : Shared.TypeIs { s with heap := s.heap.push { cls := .type "set", dict := none, data := .set #[] 0 (.fresh 0 0 led) } } (.ref s.heap.objs.size) "set" := ⟨_, hS, rfl⟩
      have hli := PySem.F.called_set.init.lookup
      have hbi := PySem.F.called_set.init.bind (.ref s.heap.objs.size)
      repeat (any_goals (first | assumption | wp_step))
      refine codeAny_mono (codeAny_call_builtin (R := wants (fun r s₂ => r = .none ∧ ∃ h' tk, s₂ = { s with heap := h', toks := tk } ∧
          h'.SetOf (intKind prog w) s.heap.objs.size (fun k' => (firstMet (fun i => a + (i : Nat) * 1) n).any (· == k')) (firstMet (fun i => a + (i : Nat) * 1) n).length ∧
          (∀ b o, b < s.heap.objs.size → s.heap.get? b = some o → h'.get? b = some o)) E) PySem.F.called_set.init.plain PySem.F.entry_set_init (check_set_init_1 hT ?_)) fun r₂ s₂ hr₂ => ?_
      · have hrl : r < s.heap.objs.size := Heap.lt_size hr
        have hr' : IsRange (s.heap.push { cls := .type "set", dict := none, data := .set #[] 0 (.fresh 0 0 led) }) r a b 1 t u v := Heap.get?_push_of_some _ hr
        have hsls := sub_range_set
        have hslf := sub_range_frozenset
        have hne : (Value.type "range" == Value.type "dict") = false := by decide
        unfold Builtin.«set.__init__» noKeywords Builtin.Frozenset.updateFrom
        generalize hPI : pyIter = PI
        wp_walk
        subst hPI
        refine wpAny_pyIter_range hr' hsm ?_
        refine wpAny_bind (wpAny_runValue ?_)
        have hh3 : A.in1.in1.in1.handled = none := by simp [hh]
        have hz : (s.heap.push { cls := .type "set", dict := none, data := .set #[] 0 (.fresh 0 0 led) }).objs.size = s.heap.objs.size + 1 := Heap.size_push ..
        have hSf : s.heap.objs.size ∉ [(s.heap.push { cls := .type "set", dict := none, data := .set #[] 0 (.fresh 0 0 led) }).objs.size] := by
          rw [hz]; simp only [List.mem_singleton]
          exact Nat.ne_of_lt (Nat.lt_succ_self _)
        have W := (Walks.range (prog := prog) (w := w) (A := A.in1.in1.in1) hh3 (s.heap.push { cls := .type "set", dict := none, data := .set #[] 0 (.fresh 0 0 led) }).objs.size a 1 n).toS
        refine codeAny_set_update_loopS W s.heap.objs.size
          hSf (fun i => a + (i : Nat) * 1) (fun i v hv => hv) hb (n - 0) 0 _ (by omega) (Nat.zero_le _) ?hst ?hS0 ?hR
        case hst =>
          show (Heap.push _ _).get? _ = _
          rw [hn]
          have e1 : (a + ((0 : Nat) : Int) * 1) = a := by simp
          have e2 : ((n : Int) - ((0 : Nat) : Int)) = n := by simp
          rw [e1, e2]
          exact Heap.get?_push_size _ rfl
        case hS0 =>
          have hget := Heap.get?_push_of_some { cls := .type "range_iterator", data := .fields #[rawInt a, rawInt (Builtin.Range.rangeSize a b 1), rawInt 1] } hS
          exact SetOf_congr ((setObjOf_fresh (knd := intKind prog w) led).setOf hget (by unfold scanBound; omega)) (fun _ => rfl) rfl
        case hR =>
          intro s' hm hS'
          obtain ⟨h', g', d', tk', os'⟩ := s'
          have eg : g' = s.gens := hm.gens
          have ed : d' = s.drawn := hm.drawn
          have eo : os' = s.os := hm.os
          subst eg; subst ed; subst eo
          show wpAny _ _ _ _ _ _
          refine wpAny_pure ?_
          show wpAny _ _ (ret Value.none) _ _ _
          refine wpAny_pure ⟨rfl, h', tk', rfl, hS', fun b o hb e => ?_⟩
          have hb1 : b ≠ s.heap.objs.size := Nat.ne_of_lt hb
          have hb2 : b ≠ (s.heap.push { cls := .type "set", dict := none, data := .set #[] 0 (.fresh 0 0 led) }).objs.size := by
            rw [hz]; exact Nat.ne_of_lt (Nat.lt_succ_of_lt hb)
          exact hm.heap b o (by simp only [List.mem_cons, List.not_mem_nil, or_false, not_or]; exact ⟨hb1, hb2⟩) (Heap.get?_push_of_some _ (Heap.get?_push_of_some _ e))
      · cases r₂ with
        | error e => exact hr₂
        | ok fl₂ =>
          cases fl₂ with
          | ret r =>
            obtain ⟨rfl, h', tk, rfl, hS', hk'⟩ := hr₂
            repeat (any_goals (first | assumption | wp_step))
            exact h _ _ hS' hk'
          | _ => exact hr₂.elim
    | _ => exact hr₁.elim
end
end Mine
end
section
open PySem PySem.W PyProof.Rows
set_option Elab.async false
set_option linter.unusedVariables false
set_option maxRecDepth 20000
namespace Mine
section
variable {g : G} {A : Around} {cM F : Addr} {s : Shared}
/-- the module as a block -/
def modF (cM F : Addr) (A : Around) : Fc := { env := mainEnv Pg cM F, A := A, own := fun _ => none, pins := [], ext := [], asg := fun _ => false, ρ := [] }
theorem mod_ready (hn : ∃ m, s.heap.Ns mainGlobals m) (on : g.On s.heap) : Ready g (modF cM F A) s :=
  ⟨on, ⟨let ⟨m, h⟩ := hn; ⟨m, h, fun x av _ hr => (nomatch hr)⟩, fun x av _ hr => (nomatch hr), fun a l e => (nomatch e), fun p hp => (nomatch hp), fun p hp => (nomatch hp), fun x a e => (nomatch e)⟩⟩
theorem m_load {x : Str} {v : Value} {p : Pos} {P E : Value → Shared → Prop} (G : g.Ok) (hx : g.mg x = none ∧ g.mb x = some v) (R : Ready g (modF cM F A) s) (h : P v s) (hd : (x == ("__debug__" : Str)) = false := by decide) :
    wpAny (model Pg g.w) A (eval (.Name x p) (mainEnv Pg cM F)) P E s :=
  Calls.Name_module rfl rfl (Calls.loadGlobal_builtin (G.gl.keeps R.on) hx.1 (G.bl.keeps R.on) hx.2 h) hd
/-- a call of a type, by its name, in the module -/
theorem m_call {T : String} {f : Str} {p pos : Pos} {e : Expr} {es : List Expr} {avs : List AV} {P E : Value → Shared → Prop} (G : g.Ok) (hx : g.mg f = none ∧ g.mb f = some (.type T)) (ha : Evs g (modF cM F A) (e :: es) avs) (R : Ready g (modF cM F A) s)
    (h : ∀ s' vs, Kp s s' → Ready g (modF cM F A) s' → Vals (modF cM F A).hid s'.heap avs vs → wpAny (model Pg g.w) A (call (.type T) vs) P E s')
    (he : starEach (e :: es) (mainEnv Pg cM F) = (false, eval e (mainEnv Pg cM F)) :: starEach es (mainEnv Pg cM F)) (hst : (starEach es (mainEnv Pg cM F)).any (·.1) = false) (hd : (f == ("__debug__" : Str)) = false := by decide) :
    wpAny (model Pg g.w) A (eval (.Call (.Name f p) (e :: es) [] pos) (mainEnv Pg cM F)) P E s := by
  refine wpAny_Call_NameR (m_load G hx R ?_ hd)
  have hA := wpAny_mono (ha.run s E pos R) (Q' := fun vs s' => Kp s s' ∧ Vals (modF cM F A).hid s'.heap avs vs) (fun _ _ x => x) fun _ _ x => x
  have hb : backTo pos (starEach (e :: es) (mainEnv Pg cM F)) = (false, eval e (mainEnv Pg cM F)) :: backTo pos (starEach es (mainEnv Pg cM F)) := by rw [he]; rfl
  have hany : (backTo pos (starEach (e :: es) (mainEnv Pg cM F))).any (·.1) = false := by rw [hb, List.any_cons, star_any hst]; rfl
  refine PySem.callWith_type hany ?_
  have hA' : wpAny (model Pg g.w) A (spliced (backTo pos (starEach (e :: es) (mainEnv Pg cM F)))) (fun vs s' => Kp s s' ∧ Vals (modF cM F A).hid s'.heap avs vs) E s := hA
  rw [hb] at hA' ⊢
  exact Calls.evalArgs_plain (wpAny_mono hA' (fun vs s' x => h s' vs x.1 (R.keep x.1) x.2) fun _ _ x => x)
/-- list(range(a, b)) in the module -/
theorem m_listRange {e₁ e₂ : Expr} {a b : Int} {n : Nat} {p₁ p₂ p₃ p₄ : Pos} (G : g.Ok) (hL : g.mg "list" = none ∧ g.mb "list" = some (.type "list")) (hR : g.mg "range" = none ∧ g.mb "range" = some (.type "range")) (h₁ : Ev g (modF cM F A) e₁ (.int a)) (h₂ : Ev g (modF cM F A) e₂ (.int b)) (hh : A.handled = none)
    (ha : -(2 ^ 62) ≤ a) (ha' : a < 2 ^ 62) (hb : -(2 ^ 62) ≤ b) (hb' : b < 2 ^ 62) (hn : (n : Int) = b - a) (hsz : n ≤ 128)
    (s1 : star1 e₁ = false := by rfl) (s2 : star1 e₂ = false := by rfl) :
    Ev g (modF cM F A) (.Call (.Name "list" p₁) [.Call (.Name "range" p₂) [e₁, e₂] [] p₃] [] p₄) (.list ((upTo a n).map .int)) := .mk fun s E R => by
  refine wpAny_Call_NameR (m_load G hL R ?_)
  have hb1 : backTo p₄ (starEach [.Call (.Name "range" p₂) [e₁, e₂] [] p₃] (modF cM F A).env) = [(false, eval (.Call (.Name "range" p₂) [e₁, e₂] [] p₃) (modF cM F A).env)] := by rw [starE rfl]; rfl
  rw [hb1]
  refine PySem.callWith_type rfl (Calls.evalArgs_plain (Calls.spliced_cons ?_))
  refine m_call G hR (evs_cons h₁ (evs_cons h₂ evs_nil s2) s1) R (fun s' vs k R' hv => ?_) (starE s1 _ _) (by rw [starE s2]; rfl)
  obtain ⟨v, r, rfl, hv1, hv2⟩ := hv.cons'
  obtain ⟨v', r', rfl, hv3, hv4⟩ := hv2.cons'
  obtain rfl := hv4.nil'
  obtain ⟨t, rfl⟩ := hv1.int'
  obtain ⟨u, rfl⟩ := hv3.int'
  refine call_range_2 (Calls.spliced_nil ?_)
  refine call_list_range (n := n) hh (IsRange.new ..) (small_one ha ha' hb hb') (by rw [rangeSize_one]; split <;> omega) (by omega) fun h' tk acc' c' hk' hS hI => ?_
  refine ⟨k.ext fun b o e => hk' b o (Heap.get?_push_of_some _ e), ?_⟩
  refine vlist (R'.vis.fresh (get_none_of_ge (by simp [Heap.size_push]))) ⟨c', hS⟩ ?_
  have := items_vals (hid := (modF cM F A).hid) (h := h') hI
  simpa [upTo] using this
theorem vals_ints {hid : Addr → Prop} {h : Heap} : ∀ {l : List Int} {vs : List Value}, Vals hid h (l.map .int) vs → PyProof.Rows.IntsAre vs l
  | [], _, x => by obtain rfl := x.nil'; exact .nil
  | i :: l, _, x => by
    obtain ⟨v, r, rfl, h1, h2⟩ := x.cons'
    obtain ⟨t, rfl⟩ := h1.int'
    exact .cons _ _ (vals_ints h2)
theorem any_contains (l : List Int) (k : Int) : l.any (· == k) = l.contains k := by
  rw [Bool.eq_iff_iff, List.any_eq_true, List.contains_iff_mem]
  constructor
  · rintro ⟨x, hx, e⟩
    rw [← eq_of_beq e]; exact hx
  · exact fun h => ⟨k, h, by simp⟩
theorem first_list (l : List Int) (k : Int) : (firstMet (fun i => l.getD i 0) l.length).any (· == k) = l.contains k := by
  rw [firstMet_any, any_contains]
  congr 1
  refine List.ext_getElem (by simp) fun i h1 h2 => ?_
  simp [List.getD, h2]
theorem first_range (a : Int) (n : Nat) (k : Int) : (firstMet (fun i => a + (i : Nat) * 1) n).any (· == k) = (upTo a n).contains k := by
  rw [firstMet_any, any_contains]
  unfold upTo
  congr 1
  refine List.map_congr_left fun i _ => ?_
  omega
variable {s₀ : Shared} {mg₀ mg : Str → Option Value} {c Pl : Addr} {names : List Str} {fs : List Fact} {n : Nat} {ps : Array Value} {w : World} {Q : Shared → Prop} {rest : List Stmt}
def setF (w : World) (x : Str) (l : List Int) : Fact :=
  ⟨x, fun h v => ∃ a n, v = .ref a ∧ h.SetOf (intKind Pg w) a (fun k => l.contains k) n, fun h h' v hk ⟨a, n, h1, h2⟩ => ⟨a, n, h1, setKeep h2 hk⟩⟩
/-- a name bound to a new set -/
theorem t_set {x : Str} {l : List Int} {p pos : Pos} {e : Expr} (T : TS s₀ mg₀ c Pl names fs n s mg ps)
    (he : wpAny (model Pg w) A (eval e (mainEnv Pg c F)) (fun v s' => ∃ a S m, v = .ref a ∧ Kp s s' ∧ s.heap.get? a = none ∧ s'.heap.SetOf (intKind Pg w) a S m ∧ ∀ k, S k = l.contains k) (fun _ _ => False) s)
    (h : ∀ s' mg', TS s₀ mg₀ c Pl (x :: names) (setF w x l :: fs) n s' mg' ps → WT w A (mainEnv Pg c F) rest Q s')
    (hloc : Pg.main.scope.names.lookup x = some .local := by rfl) (hnb : x ≠ "__builtins__" := by decide) (hx : ∀ f ∈ fs, f.name ≠ x := by decide)
    (hsw : swapsWith e (some (.Name x p)) pos.line (mainEnv Pg c F) = pure false := by rfl) :
    WT w A (mainEnv Pg c F) (.Assign [.Name x p] e pos :: rest) Q s := by
  refine wt_cons (wpAny_Assign_Name (wpAny_mono he (fun v s' ⟨a, S, m, hv, k, ha, hS, hSk⟩ => ?_) fun _ _ x => x) hsw)
  subst hv
  have hG : a ≠ mainGlobals := by
    rintro rfl
    obtain ⟨o, es, ep, ho, _⟩ := T.main.g
    rw [ha] at ho; cases ho
  have hP : a ≠ Pl := by
    rintro rfl
    obtain ⟨o, vs, file, tf, flags, tg, inF, text, tt, op, _, _, _, _, _, _, _, ho, _⟩ := T.main.code
    rw [ha] at ho; cases ho
  have kk := k.heap
  obtain ⟨h₁, tk₁, rfl, _⟩ := k.k
  refine t_store [setF w x l] T kk hloc hnb hx (fun f hf => ?_) fun s' mg' T' => ⟨rfl, h s' mg' T'⟩
  have : f = setF w x l := by simpa using hf
  subst this
  have hS' : h₁.SetOf (intKind Pg w) a (fun k => l.contains k) m := SetOf_congr hS hSk rfl
  obtain ⟨o, es, ep, t, eo, r⟩ := hS'
  exact ⟨rfl, a, m, rfl, o, es, ep, t, vis_get eo hG hP, r⟩
/-- set(list) in the module -/
theorem m_setL {e : Expr} {l : List Int} {p pos : Pos} {g : G} (hw : g.w = w) (G : g.Ok) (hS : g.mg "set" = none ∧ g.mb "set" = some (.type "set")) (he : Ev g (modF c F A) e (.list (l.map .int))) (hh : A.handled = none) (hl : l.length ≤ 200) (R : Ready g (modF c F A) s) (h1 : star1 e = false := by rfl) :
    wpAny (model Pg w) A (eval (.Call (.Name "set" p) [e] [] pos) (mainEnv Pg c F)) (fun v s' => ∃ a S m, v = .ref a ∧ Kp s s' ∧ s.heap.get? a = none ∧ s'.heap.SetOf (intKind Pg w) a S m ∧ ∀ k, S k = l.contains k) (fun _ _ => False) s := by
  subst hw
  refine m_call G hS (evs_cons he evs_nil h1) R (fun s' vs k R' hv => ?_) (starE h1 _ _) rfl
  obtain ⟨v, r, rfl, hv1, hv2⟩ := hv.cons'
  obtain rfl := hv2.nil'
  obtain ⟨a, items, rfl, _, hp, hvs⟩ := hv1.list'
  have hlen := hvs.length
  simp at hlen
  refine call_set_list hh hp.isList (vals_ints hvs) (by rw [hlen]; unfold scanBound; omega) fun h' tk hS' hk' => ?_
  refine ⟨_, _, _, rfl, k.ext fun b o e => hk' b o (Heap.lt_size e) e, ?_, hS', fun kk => ?_⟩
  · exact k.dead (get_none_of_ge (Nat.le_refl _))
  · rw [hlen]; exact first_list l kk
/-- set(range(a, b)) in the module -/
theorem m_setR {e₁ e₂ : Expr} {a b : Int} {n : Nat} {p p₂ p₃ pos : Pos} {g : G} (hw : g.w = w) (G : g.Ok) (hS : g.mg "set" = none ∧ g.mb "set" = some (.type "set")) (hR : g.mg "range" = none ∧ g.mb "range" = some (.type "range")) (h₁ : Ev g (modF c F A) e₁ (.int a)) (h₂ : Ev g (modF c F A) e₂ (.int b)) (hh : A.handled = none)
    (ha : -(2 ^ 62) ≤ a) (ha' : a < 2 ^ 62) (hb : -(2 ^ 62) ≤ b) (hb' : b < 2 ^ 62) (hn : (n : Int) = b - a) (hsz : n ≤ 128) (R : Ready g (modF c F A) s)
    (s1 : star1 e₁ = false := by rfl) (s2 : star1 e₂ = false := by rfl) :
    wpAny (model Pg w) A (eval (.Call (.Name "set" p) [.Call (.Name "range" p₂) [e₁, e₂] [] p₃] [] pos) (mainEnv Pg c F)) (fun v s' => ∃ a' S m, v = .ref a' ∧ Kp s s' ∧ s.heap.get? a' = none ∧ s'.heap.SetOf (intKind Pg w) a' S m ∧ ∀ k, S k = (upTo a n).contains k) (fun _ _ => False) s := by
  subst hw
  refine wpAny_Call_NameR (m_load G hS R ?_)
  have hb1 : backTo pos (starEach [.Call (.Name "range" p₂) [e₁, e₂] [] p₃] (mainEnv Pg c F)) = [(false, eval (.Call (.Name "range" p₂) [e₁, e₂] [] p₃) (mainEnv Pg c F))] := by rw [starE rfl]; rfl
  rw [hb1]
  refine PySem.callWith_type rfl (Calls.evalArgs_plain (Calls.spliced_cons ?_))
  refine m_call G hR (evs_cons h₁ (evs_cons h₂ evs_nil s2) s1) R (fun s' vs k R' hv => ?_) (starE s1 _ _) (by rw [starE s2]; rfl)
  obtain ⟨v, r, rfl, hv1, hv2⟩ := hv.cons'
  obtain ⟨v', r', rfl, hv3, hv4⟩ := hv2.cons'
  obtain rfl := hv4.nil'
  obtain ⟨t, rfl⟩ := hv1.int'
  obtain ⟨u, rfl⟩ := hv3.int'
  refine call_range_2 (Calls.spliced_nil ?_)
  refine call_set_range (n := n) hh (IsRange.new ..) (small_one ha ha' hb hb') (by rw [rangeSize_one]; split <;> omega) (by unfold scanBound; omega) fun h' tk hS' hk' => ?_
  refine ⟨_, _, _, rfl, k.ext fun b o e => hk' b o (Nat.lt_of_lt_of_le (Heap.lt_size e) (by simp [Heap.size_push])) (Heap.get?_push_of_some _ e), ?_, hS', fun kk => first_range a n kk⟩
  exact k.dead (get_none_of_ge (by simp [Heap.size_push]))
end
end Mine
end
section
open PySem PySem.W PyProof.Rows
set_option Elab.async false
set_option linter.unusedVariables false
set_option maxRecDepth 20000
namespace Mine
section
variable {prog : Program} {w : World} {A : Around} {E : Value → Shared → Prop} {s : Shared}
abbrev IK (prog : Program) (w : World) := intKind prog w
theorem DictOf_keep {h h' : Heap} {d : Addr} {kvs : List (Int × Value)} (x : h.DictOf (IK prog w) d kvs) (hk : ∀ b o, h.get? b = some o → h'.get? b = some o) : h'.DictOf (IK prog w) d kvs := by
  obtain ⟨o, es, ep, ho, r⟩ := x
  exact ⟨o, es, ep, hk _ _ ho, r⟩
theorem find_none {es : Array DictEntry} {kvs : List (Int × Value)} (hp : Pairs (IK prog w) es.toList kvs) {k : Int} (hn : k ∉ kvs.map (·.1)) : es.findIdx? (fun e => (IK prog w).is k e.key) = none := by
  have h := hp.findIdx k
  have : (kvs.findIdx? fun kv => decide (kv.1 = k)) = none := by
    rw [List.findIdx?_eq_none_iff]
    intro kv hkv
    exact decide_eq_false fun e => hn (List.mem_map.mpr ⟨kv, hkv, e⟩)
  rw [this, List.findIdx?_eq_none_iff] at h
  exact Array.findIdx?_eq_none_iff.mpr fun e he => h e (Array.mem_toList_iff.mpr he)
theorem Kp.but {s₀ s : Shared} (k : Kp s₀ s) {d : Addr} (hd : s₀.heap.get? d = none) {h₁ : Heap} {t : Nat} (hs : Heap.SameBut d s.heap h₁) : Kp s₀ { s with heap := h₁, toks := t } := by
  obtain ⟨h, t', rfl, kk⟩ := k
  exact ⟨h₁, t, rfl, fun b o e => (hs.2 b (by rintro rfl; rw [hd] at e; cases e)).trans (kk b o e)⟩
/-- a new key at the end -/
theorem put_new {d : Addr} {k : Int} {key v : Value} {acc : List (Int × Value)} {Q : Unit → Shared → Prop} (hkey : (IK prog w).is k key = true) (hm : s.heap.DictOf (IK prog w) d acc) (hn : k ∉ acc.map (·.1)) (hsz : acc.length ≤ sizeLine)
    (h : ∀ h', h'.DictOf (IK prog w) d (acc ++ [(k, v)]) → Heap.SameBut d s.heap h' → Q () { s with heap := h' }) : wpAny (model prog w) A (dictPut d ((IK prog w).hash k) key v) Q E s := by
  obtain ⟨o, es, ep, ho, hc, hd, hk, hp, hnd⟩ := hm
  have hes : es.size ≤ sizeLine := by have := hp.length; simp at this; omega
  unfold dictPut
  refine wpAny_bind (wpAny_dictFind_of hkey ho hd hk ?_)
  rw [find_none hp hn]
  refine wpAny_updateDictKeys (hz := hes) ho hd (h _ ⟨_, _, ep + 1, Heap.get?_update_self _ ho (Obj.isFreed_of_dict (Obj.data_mapDictKeys hd _)), hc.mapDictKeys _, Obj.data_mapDictKeys hd _, hk.push hkey _, ?_, ?_⟩ (Heap.SameBut.update ..))
  · rw [Array.toList_push]
    exact hp.append hkey _ v
  · rw [List.map_append, List.nodup_append]
    refine ⟨hnd, by simp, fun a ha b hb => ?_⟩
    rintro rfl
    simp at hb
    subst hb
    exact hn ha
/-- the pairs that stand for these ints and texts -/
inductive KV : List (Int × Str) → List (Int × Value) → Prop
  | nil : KV [] []
  | cons {k : Int} {x : Str} {t : Tok} {L kvs} : KV L kvs → KV ((k, x) :: L) ((k, .str x t) :: kvs)
theorem KV.keys {L : List (Int × Str)} {kvs : List (Int × Value)} (h : KV L kvs) : kvs.map (·.1) = L.map (·.1) := by
  induction h with
  | nil => rfl
  | cons _ ih => simp [ih]
theorem KV.length {L : List (Int × Str)} {kvs : List (Int × Value)} (h : KV L kvs) : kvs.length = L.length := by
  have := congrArg List.length h.keys
  simpa using this
theorem KV.append {L L' : List (Int × Str)} {kvs kvs' : List (Int × Value)} (h : KV L kvs) (h' : KV L' kvs') : KV (L ++ L') (kvs ++ kvs') := by
  induction h with
  | nil => exact h'
  | cons _ ih => exact .cons ih
/-- what an item of the display does -/
structure Tr (prog : Program) (w : World) (A : Around) (p : Sem Value × Sem Value) (e : Int × Str) : Prop where
  k : ∀ (s : Shared) (Q E : Value → Shared → Prop), (∀ t tk, Q (.int e.1 t) { s with toks := tk }) → wpAny (model prog w) A p.1 Q E s
  v : ∀ (s : Shared) (Q E : Value → Shared → Prop), (∀ t tk, Q (.str e.2 t) { s with toks := tk }) → wpAny (model prog w) A p.2 Q E s
inductive Trs (prog : Program) (w : World) (A : Around) : List (Sem Value × Sem Value) → List (Int × Str) → Prop
  | nil : Trs prog w A [] []
  | cons {p e ps L} : Tr prog w A p e → Trs prog w A ps L → Trs prog w A (p :: ps) (e :: L)
theorem Trs.length {ps : List (Sem Value × Sem Value)} {L : List (Int × Str)} (h : Trs prog w A ps L) : ps.length = L.length := by
  induction h with
  | nil => rfl
  | cons _ _ ih => simp [ih]
theorem Trs.append {ps ps' : List (Sem Value × Sem Value)} {L L' : List (Int × Str)} (h : Trs prog w A ps L) (h' : Trs prog w A ps' L') : Trs prog w A (ps ++ ps') (L ++ L') := by
  induction h with
  | nil => exact h'
  | cons a _ ih => exact .cons a ih
theorem int_is (k : Int) (t : Tok) : (IK prog w).is k (.int k t) = true := by simp [intKind, Value.isInt]
/-- the pairs, evaluated one after the other -/
theorem pairs_run {ps : List (Sem Value × Sem Value)} {L : List (Int × Str)} (h : Trs prog w A ps L) : ∀ (s : Shared) (Q : List (Value × Value) → Shared → Prop), (∀ vs kvs tk, Carries (IK prog w) vs kvs → KV L kvs → Q vs { s with toks := tk }) → wpAny (model prog w) A (evalPairs ps) Q E s := by
  induction h with
  | nil => exact fun s Q hQ => evalPairs_nil (hQ [] [] s.toks trivial .nil)
  | @cons p e ps L hp _ ih =>
    intro s Q hQ
    obtain ⟨pk, pv⟩ := p
    refine evalPairs_cons (hp.k s _ _ fun t tk => hp.v _ _ _ fun t' tk' => ih _ _ fun vs kvs tk'' hc hkv => ?_)
    exact hQ _ ((e.1, .str e.2 t') :: kvs) tk'' ⟨int_is _ _, rfl, hc⟩ (.cons hkv)
theorem stored_new {acc : List (Int × Value)} {k : Int} {v : Value} (hn : k ∉ acc.map (·.1)) : stored acc k v = acc ++ [(k, v)] := by
  unfold stored
  rw [if_neg]
  rw [List.any_eq_true]
  rintro ⟨kv, hkv, e⟩
  exact hn (List.mem_map.mpr ⟨kv, hkv, by simpa using e⟩)
/-- the pairs of a long run, each stored at once -/
theorem store_run {d : Addr} {s₀ : Shared} (hd : s₀.heap.get? d = none) {ps : List (Sem Value × Sem Value)} {L : List (Int × Str)} (h : Trs prog w A ps L) : ∀ (acc : List (Int × Value)) (s : Shared) (Q : PUnit → Shared → Prop), Kp s₀ s → s.heap.DictOf (IK prog w) d acc →
    (acc.map (·.1) ++ L.map (·.1)).Nodup → acc.length + L.length ≤ sizeLine → (∀ kvs s', Kp s₀ s' → KV L kvs → s'.heap.DictOf (IK prog w) d (acc ++ kvs) → Q ⟨⟩ s') →
    wpAny (model prog w) A (forIn ps PUnit.unit fun (x : Sem Value × Sem Value) (_ : PUnit) => (do let kv ← x.1; let vv ← holding [kv] x.2; holding [kv, vv] (dictSet d kv vv); pure (ForInStep.yield PUnit.unit) : Sem (ForInStep PUnit))) Q E s := by
  induction h with
  | nil =>
    intro acc s Q k hm _ _ hQ
    rw [List.forIn_nil]
    exact wpAny_pure (hQ [] s k .nil (by rw [List.append_nil]; exact hm))
  | @cons p e ps L hp _ ih =>
    intro acc s Q k hm hnd hsz hQ
    rw [List.length_cons] at hsz
    rw [List.forIn_cons]
    have hn : e.1 ∉ acc.map (·.1) := fun hin => by
      rw [List.nodup_append] at hnd
      exact hnd.2.2 _ hin _ (by rw [List.map_cons]; exact .head _) rfl
    refine wpAny_bind (wpAny_bind (hp.k s _ _ fun t tk => wpAny_bind (wpAny_holding (hp.v _ _ _ fun t' tk' => wpAny_bind (wpAny_holding ?_)))))
    refine wpAny_dictSet_pairs (hsz := by omega) (s := { s with toks := tk' }) (k := e.1) (int_is _ _) hm fun h₁ hm₁ hs₁ => wpAny_pure ?_
    rw [stored_new hn] at hm₁
    have k' : Kp s₀ { s with heap := h₁, toks := tk' + 1 } := k.but hd hs₁
    refine ih (acc ++ [(e.1, .str e.2 t')]) _ Q k' hm₁ ?_ (by rw [List.length_append]; show acc.length + 1 + L.length ≤ _; omega) fun kvs s' k₂ hkv hd₂ => ?_
    · rw [List.map_append, List.append_assoc]
      exact hnd
    · rw [List.append_assoc] at hd₂
      exact hQ _ s' k₂ (.cons hkv) hd₂
end
end Mine
end
section
open PySem PySem.W PyProof.Rows
set_option Elab.async false
set_option linter.unusedVariables false
set_option maxRecDepth 20000
namespace Mine
section
variable {prog : Program} {w : World} {A : Around} {E : Value → Shared → Prop} {s : Shared}
theorem merged_new : ∀ (kvs acc : List (Int × Value)), (acc.map (·.1) ++ kvs.map (·.1)).Nodup → merged acc kvs = acc ++ kvs
  | [], acc, _ => by simp [merged]
  | (k, v) :: kvs, acc, h => by
    have hn : k ∉ acc.map (·.1) := fun hin => by
      rw [List.nodup_append] at h
      exact h.2.2 _ hin _ (by rw [List.map_cons]; exact .head _) rfl
    have e : merged acc ((k, v) :: kvs) = merged (stored acc k v) kvs := by simp [merged]
    rw [e, stored_new hn, merged_new kvs (acc ++ [(k, v)]) (by rw [List.map_append, List.append_assoc]; exact h), List.append_assoc]
    rfl
theorem sub_run {ps : List (Sem Value × Sem Value)} {L : List (Int × Str)} {Q : Addr → Shared → Prop} (h : Trs prog w A ps L) (hnd : (L.map (·.1)).Nodup) (hl : L.length ≤ 17)
    (hQ : ∀ kvs s', Kp s s' → KV L kvs → s'.heap.DictOf (IK prog w) s.heap.objs.size kvs → Q s.heap.objs.size s') : wpAny (model prog w) A (subDict ps) Q E s := by
  have hdead : s.heap.get? s.heap.objs.size = none := get_none_of_ge (Nat.le_refl _)
  have k₀ : Kp s { s with heap := s.heap.push { cls := .type "dict", data := .dict #[] } } := (Kp.refl s).push _
  have d₀ : (s.heap.push { cls := .type "dict", data := .dict #[] }).DictOf (IK prog w) s.heap.objs.size [] := Heap.DictOf.new _
  unfold subDict
  refine wpAny_bind (wpAny_alloc ?_)
  refine wpAny_bind (wpAny_holding ?_)
  by_cases hlen : ps.length ≤ 15
  · rw [if_pos hlen]
    refine wpAny_bind (pairs_run h _ _ fun vs kvs tk hc hkv => ?_)
    refine wpAny_holding ?_
    have hz : ([] : List (Int × Value)).length + kvs.length ≤ sizeLine := by
      have := hkv.length
      rw [sizeLine_eq, List.length_nil]; omega
    refine wpAny_bind (wpAny_storeAll (knd := IK prog w) vs kvs [] _ _ hc d₀ hz fun h' hm' hs' => wpAny_pure (wpAny_pure ?_))
    rw [merged_new kvs [] (by simpa [hkv.keys] using hnd), List.nil_append] at hm'
    exact hQ kvs _ ((k₀.tok tk).but hdead hs') hkv hm'
  · rw [if_neg hlen]
    refine wpAny_bind (wpAny_rule ?_)
    refine wpAny_bind (store_run (d := s.heap.objs.size) (s₀ := s) hdead h [] _ _ k₀ d₀ (by simpa using hnd) (by rw [sizeLine_eq, List.length_nil]; omega) fun kvs s' k' hkv hd' => wpAny_pure (wpAny_pure ?_))
    rw [List.nil_append] at hd'
    exact hQ kvs s' k' hkv hd'
theorem Pairs_at {knd : KeyKind prog w Int} {es : List DictEntry} {kvs : List (Int × Value)} (h : Pairs knd es kvs) : ∀ (i : Nat) (kv : Int × Value), kvs[i]? = some kv → ∃ e, es[i]? = some e ∧ knd.is kv.1 e.key = true ∧ e.val = kv.2 := by
  induction h with
  | nil => intro i kv e; simp at e
  | cons h1 h2 _ ih =>
    intro i kv e
    cases i with
    | zero => simp at e; subst e; exact ⟨_, rfl, h1, h2⟩
    | succ i => simp at e ⊢; exact ih i kv e
theorem DictOf_typeIs {d : Addr} {kvs : List (Int × Value)} (h : s.heap.DictOf (IK prog w) d kvs) : s.TypeIs (.ref d) "dict" := let ⟨o, _, _, ho, hc, _⟩ := h; ⟨o, ho, hc.1⟩
/-- a dict is merged into another, all its keys new there -/
theorem merge_new {d a : Addr} {kd ka : List (Int × Value)} {s₀ : Shared} {Q : Unit → Shared → Prop} (hd : s.heap.DictOf (IK prog w) d kd) (ha : s.heap.DictOf (IK prog w) a ka) (hne : a ≠ d) (hsys : (a == sysModules) = false) (h0 : kd ≠ [])
    (hnd : (kd.map (·.1) ++ ka.map (·.1)).Nodup) (hsz : kd.length + ka.length ≤ sizeLine) (k : Kp s₀ s) (hdead : s₀.heap.get? d = none)
    (hQ : ∀ s', Kp s₀ s' → s'.heap.DictOf (IK prog w) d (kd ++ ka) → (∀ m, s.heap.Ns mainGlobals m → d ≠ mainGlobals → s'.heap.Ns mainGlobals m) → Q () s') : wpAny (model prog w) A (mergeMapping d (.ref a) false) Q E s := by
  unfold mergeMapping
  refine wpAny_bind (wpAny_isInstance (DictOf_typeIs ha) PySem.F.sub_dict_dict ?_)
  rw [if_pos rfl]
  refine wpAny_bind (wpAny_specialOf (DictOf_typeIs ha) PySem.F.slot_dict_iter.lookup ?_)
  refine wpAny_bind (wpAny_pure ?_)
  have e1 : (some (Value.builtin "dict.__iter__") == some (Value.builtin "dict.__iter__")) = true := by decide
  rw [e1]
  dsimp only
  rw [hsys]
  obtain ⟨od, esd, epd, hod, hcd, hdd, hkd, hpd, hndd⟩ := id hd
  obtain ⟨oa, esa, epa, hoa, hca, hda, hka, hpa, hnda⟩ := id ha
  have hzd : esd.size = kd.length := by have := hpd.length; simpa using this
  have hza : esa.size = ka.length := by have := hpa.length; simpa using this
  have hemp : esd.isEmpty = false := by
    rw [Bool.eq_false_iff]
    intro e
    rw [Array.isEmpty_iff_size_eq_zero, hzd] at e
    exact h0 (List.length_eq_zero_iff.mp e)
  simp only [Bool.false_eq_true, if_false]
  refine wpAny_bind (wpAny_dictEntries hod hdd ?_)
  rw [hemp]
  simp only [Bool.false_eq_true, if_false]
  refine wpAny_bind (wpAny_dictEntries hoa hda ?_)
  refine wpAny_bind (wpAny_dictEpoch hoa hda ?_)
  refine wpAny_bind (wpAny_forIn_list _ (fun rest _ s' => ∃ i, rest = List.range' i (esa.size - i) ∧ i ≤ esa.size ∧ Kp s₀ s' ∧ s'.heap.get? a = some oa ∧ s'.heap.DictOf (IK prog w) d (kd ++ ka.take i) ∧ (∀ m, s.heap.Ns mainGlobals m → d ≠ mainGlobals → s'.heap.Ns mainGlobals m)) _ ?_ ?_ _ _
    ⟨0, by rw [List.range_eq_range', Nat.sub_zero], Nat.zero_le _, k, hoa, by simpa using hd, fun m h _ => h⟩)
  · rintro x rest _ s' ⟨i, hr, hi, k', hoa', hd', hG⟩
    have hix : i < esa.size := by
      rcases Nat.lt_or_ge i esa.size with h | h
      · exact h
      · have : esa.size - i = 0 := by omega
        rw [this] at hr; cases hr
    have hstep : esa.size - i = (esa.size - (i + 1)) + 1 := by omega
    rw [hstep, List.range'_succ] at hr
    obtain ⟨rfl, rfl⟩ := List.cons.inj hr
    have hxl : x < ka.length := by omega
    have hkx : ka[x]? = some ka[x] := List.getElem?_eq_getElem hxl
    obtain ⟨e, he, his, hval⟩ := Pairs_at hpa x _ hkx
    have he' : esa[x]? = some e := by rw [← Array.getElem?_toList]; exact he
    refine wpAny_bind (wpAny_dictEntries hoa' hda ?_)
    rw [he']
    dsimp only
    refine wpAny_bind (wpAny_holding ?_)
    have hkn : ka[x].1 ∉ (kd ++ ka.take x).map (·.1) := by
      rw [List.map_append, List.mem_append]
      rw [List.nodup_append] at hnd
      rintro (h | h)
      · exact hnd.2.2 _ h _ (List.mem_map.mpr ⟨_, List.getElem_mem hxl, rfl⟩) rfl
      · have h2 := hnd.2.1
        have e3 : ka.map (·.1) = (ka.take x).map (·.1) ++ (ka.drop x).map (·.1) := by rw [← List.map_append, List.take_append_drop]
        rw [e3, List.nodup_append] at h2
        refine h2.2.2 _ h _ ?_ rfl
        rw [List.drop_eq_getElem_cons hxl, List.map_cons]
        exact .head _
    obtain ⟨k₂, hk2, hh2⟩ := hka e (Array.mem_of_getElem? he')
    have : k₂ = ka[x].1 := (IK prog w).inj _ _ _ hk2 his
    subst this
    rw [hh2, hval]
    refine put_new (s := s') his hd' hkn (by rw [List.length_append, List.length_take]; omega) fun h' hm' hs' => ?_
    have hoa'' : h'.get? a = some oa := (hs'.2 a hne).trans hoa'
    refine wpAny_bind (wpAny_dictEpoch (s := { s' with heap := h' }) hoa'' hda ?_)
    rw [if_neg (by simp)]
    refine wpAny_pure ⟨x + 1, rfl, hix, ?_, hoa'', ?_, fun m h hne2 => (hG m h hne2).sameBut hs' (Ne.symm hne2)⟩
    · have := k'.but (t := s'.toks) hdead hs'
      exact this
    · have e4 : kd ++ ka.take (x + 1) = kd ++ ka.take x ++ [(ka[x].1, ka[x].2)] := by
        rw [List.take_add_one, hkx, List.append_assoc]
        rfl
      rw [e4]
      exact hm'
  · rintro _ s' ⟨i, hr, hi, k', hoa', hd', hG⟩
    have : i = esa.size := by
      rcases Nat.lt_or_ge i esa.size with h | h
      · have hstep : esa.size - i = (esa.size - (i + 1)) + 1 := by omega
        rw [hstep, List.range'_succ] at hr; cases hr
      · omega
    subst this
    rw [hza, List.take_length] at hd'
    exact wpAny_pure (hQ s' k' hd' hG)
end
end Mine
end
section
open PySem PySem.W PyProof.Rows
set_option Elab.async false
set_option linter.unusedVariables false
set_option maxRecDepth 20000
namespace Mine
section
variable {prog : Program} {w : World} {A : Around} {E : Value → Shared → Prop} {s s₀ : Shared}
/-- a run of pairs is put away -/
def flushP (run : List (Sem Value × Sem Value)) (main : Option Addr) : Sem (Option Addr) := do
  if run.isEmpty then return main
  match main with
  | none => return some (← subDict run)
  | some d =>
    let sub ← holding [.ref d] (subDict run)
    (holding [.ref d, .ref sub] (mergeMapping d (.ref sub) false)).onRaise fun x => do let _ ← holding [.ref d, x] (runValue (.builtin "proto.let_go" {}))
    return some d
/-- what stands so far -/
def MainOk (prog : Program) (w : World) (s₀ : Shared) (main : Option Addr) (L : List (Int × Str)) (s : Shared) : Prop := match main with
  | none => L = []
  | some d => ∃ kvs, KV L kvs ∧ s.heap.DictOf (IK prog w) d kvs ∧ L ≠ [] ∧ s₀.heap.get? d = none
structure DS (prog : Program) (w : World) (s₀ : Shared) (main : Option Addr) (L : List (Int × Str)) (s : Shared) : Prop where
  kp : Kp s₀ s
  ok : MainOk prog w s₀ main L s
  gl : ∃ m, s.heap.Ns mainGlobals m
theorem flush_ok {run : List (Sem Value × Sem Value)} {main : Option Addr} {L RL : List (Int × Str)} {Q : Option Addr → Shared → Prop} (hg0 : ∃ o, s₀.heap.get? mainGlobals = some o) (D : DS prog w s₀ main L s) (hr : Trs prog w A run RL) (h0 : RL ≠ []) (h17 : RL.length ≤ 17)
    (hnd : (L.map (·.1) ++ RL.map (·.1)).Nodup) (hsz : L.length + RL.length ≤ sizeLine) (hQ : ∀ d s', DS prog w s₀ (some d) (L ++ RL) s' → Q (some d) s') : wpAny (model prog w) A (flushP run main) Q E s := by
  have hne : run.isEmpty = false := by
    have := hr.length
    cases run with
    | nil => exact absurd (List.length_eq_zero_iff.mp this.symm) h0
    | cons _ _ => rfl
  obtain ⟨mg, hG⟩ := D.gl
  have hlt : mainGlobals < s.heap.objs.size := hG.lt
  have hndR : (RL.map (·.1)).Nodup := (List.nodup_append.mp hnd).2.1
  have hdead : s₀.heap.get? s.heap.objs.size = none := D.kp.dead (get_none_of_ge (Nat.le_refl _))
  unfold flushP
  rw [hne]
  cases main with
  | none =>
    have hL : L = [] := D.ok
    subst hL
    show wpAny _ A (subDict run >>= _) _ _ _
    refine wpAny_bind (sub_run hr hndR h17 fun kvs s' k hkv hd => wpAny_pure (hQ _ s' ⟨D.kp.trans k, ⟨kvs, hkv, hd, h0, hdead⟩, mg, hG.keeps k.heap⟩))
  | some d =>
    obtain ⟨kd, hkv, hd, hL0, hdd⟩ := D.ok
    show wpAny _ A (holding [.ref d] (subDict run) >>= _) _ _ _
    refine wpAny_bind (wpAny_holding (sub_run hr hndR h17 fun kvs s' k hkv' hd' => ?_))
    refine wpAny_bind (wpAny_onRaise (wpAny_holding ?_))
    have hd₁ : s'.heap.DictOf (IK prog w) d kd := DictOf_keep hd k.heap
    have hne2 : s.heap.objs.size ≠ d := by
      rintro rfl
      obtain ⟨o, _, _, ho, _⟩ := hd
      exact Nat.lt_irrefl _ (Heap.lt_size ho)
    have hsys : (s.heap.objs.size == sysModules) = false := by
      rw [beq_eq_false_iff_ne]
      intro e
      rw [e] at hlt
      exact absurd hlt (by decide)
    have hkd0 : kd ≠ [] := by
      have := hkv.length
      intro e
      subst e
      exact hL0 (List.length_eq_zero_iff.mp this.symm)
    have hdG : d ≠ mainGlobals := by
      rintro rfl
      obtain ⟨o, ho⟩ := hg0
      rw [hdd] at ho; cases ho
    refine merge_new (s₀ := s₀) hd₁ hd' hne2 hsys hkd0 (by rw [hkv.keys, hkv'.keys]; exact hnd) (by rw [hkv.length, hkv'.length]; exact hsz) (D.kp.trans k) hdd fun s₂ k₂ hd₂ hG₂ => wpAny_pure (hQ d s₂ ⟨k₂, ⟨kd ++ kvs, hkv.append hkv', hd₂, ?_, hdd⟩, mg, hG₂ mg (hG.keeps k.heap) hdG⟩)
    intro e
    exact hL0 (List.append_eq_nil_iff.mp e).1
theorem gather (hg0 : ∃ o, s₀.heap.get? mainGlobals = some o) (f : (Option (Sem Value) × Sem Value) → (Option Addr × List (Sem Value × Sem Value)) → Sem (ForInStep (Option Addr × List (Sem Value × Sem Value))))
    (hf : ∀ (p : Sem Value × Sem Value) (main : Option Addr) (run : List (Sem Value × Sem Value)), f (some p.1, p.2) (main, run) = if ((run ++ [(p.1, p.2)]).length == 17) = true then (flushP (run ++ [(p.1, p.2)]) main >>= fun m => pure (.yield (m, []))) else pure (.yield (main, run ++ [(p.1, p.2)])))
    {ps : List (Sem Value × Sem Value)} {L : List (Int × Str)} (h : Trs prog w A ps L) : ∀ (main : Option Addr) (run : List (Sem Value × Sem Value)) (L₀ RL : List (Int × Str)) (s : Shared) (Q : (Option Addr × List (Sem Value × Sem Value)) → Shared → Prop),
      DS prog w s₀ main L₀ s → Trs prog w A run RL → RL.length < 17 → (L₀.map (·.1) ++ (RL.map (·.1) ++ L.map (·.1))).Nodup → L₀.length + (RL.length + L.length) ≤ sizeLine →
      (∀ main' run' L₁ RL' s', DS prog w s₀ main' L₁ s' → Trs prog w A run' RL' → RL'.length < 17 → L₁ ++ RL' = L₀ ++ RL ++ L → Q (main', run') s') →
      wpAny (model prog w) A (forIn (ps.map fun p => (some p.1, p.2)) (main, run) f) Q E s := by
  induction h with
  | nil =>
    intro main run L₀ RL s Q D hr h17 hnd hsz hQ
    rw [List.map_nil, List.forIn_nil]
    exact wpAny_pure (hQ main run L₀ RL s D hr h17 (by rw [List.append_nil]))
  | @cons p e ps L hp _ ih =>
    intro main run L₀ RL s Q D hr h17 hnd hsz hQ
    have hr' : Trs prog w A (run ++ [(p.1, p.2)]) (RL ++ [e]) := hr.append (.cons hp .nil)
    have hl' := hr'.length
    rw [List.map_cons, List.forIn_cons, hf p main run]
    rw [List.length_cons] at hsz
    have hnd1 : (L₀.map (·.1) ++ ((RL ++ [e]).map (·.1) ++ L.map (·.1))).Nodup := by
      rw [List.map_append, List.append_assoc]
      simpa using hnd
    by_cases q : (run ++ [(p.1, p.2)]).length = 17
    · have q' : ((run ++ [(p.1, p.2)]).length == 17) = true := by rw [q]; rfl
      rw [if_pos q']
      have hRL : (RL ++ [e]).length = 17 := by rw [← hl', q]
      refine wpAny_bind (wpAny_bind (flush_ok hg0 D hr' (by intro z; have := congrArg List.length z; rw [hRL] at this; cases this) (by omega) ?_ (by rw [hRL]; rw [List.length_append] at hRL; simp at hRL; omega) fun d s' D' => wpAny_pure ?_))
      · rw [← List.append_assoc] at hnd1
        exact (List.nodup_append.mp hnd1).1
      refine ih (some d) [] (L₀ ++ (RL ++ [e])) [] s' Q D' .nil (by decide) ?_ ?_ fun main' run' L₁ RL' s'' D'' hr'' h17'' he => hQ main' run' L₁ RL' s'' D'' hr'' h17'' ?_
      · simpa [List.append_assoc] using hnd
      · simp only [List.length_append, List.length_cons, List.length_nil]
        omega
      · rw [he]; simp
    · have q' : ¬ ((run ++ [(p.1, p.2)]).length == 17) = true := by simpa using q
      rw [if_neg q']
      refine wpAny_bind (wpAny_pure ?_)
      refine ih main (run ++ [(p.1, p.2)]) L₀ (RL ++ [e]) s Q D hr' ?_ hnd1 ?_ fun main' run' L₁ RL' s'' D'' hr'' h17'' he => hQ main' run' L₁ RL' s'' D'' hr'' h17'' ?_
      · rw [← hl']
        have : (run ++ [(p.1, p.2)]).length = RL.length + 1 := by rw [hl', List.length_append]; rfl
        omega
      · rw [List.length_append]; simp only [List.length_cons, List.length_nil]; omega
      · rw [he]; simp
/-- a dict display of ints and texts, however long -/
theorem display_run {ps : List (Sem Value × Sem Value)} {L : List (Int × Str)} {Q : Value → Shared → Prop} (hg : ∃ m, s.heap.Ns mainGlobals m) (h : Trs prog w A ps L) (h0 : L ≠ []) (hnd : (L.map (·.1)).Nodup) (hsz : L.length ≤ sizeLine)
    (hQ : ∀ d kvs s', Kp s s' → KV L kvs → s'.heap.DictOf (IK prog w) d kvs → s.heap.get? d = none → Q (.ref d) s') : wpAny (model prog w) A (dictDisplay (ps.map fun p => (some p.1, p.2))) Q E s := by
  have hg0 : ∃ o, s.heap.get? mainGlobals = some o := by
    obtain ⟨m, o, es, ep, ho, _⟩ := hg
    exact ⟨o, ho⟩
  unfold dictDisplay
  dsimp only
  refine wpAny_bind (gather hg0 _ (fun p main run => ?_) h none [] [] [] s _ ⟨Kp.refl s, rfl, hg⟩ .nil (by decide) (by simpa using hnd) (by simpa using hsz) fun main' run' L₁ RL' s' D' hr' h17 he => ?_)
  · rfl
  · simp only [List.nil_append] at he
    show wpAny _ A (flushP run' main' >>= fun r => match r with | some d => pure (.ref d) | none => newDict) _ _ _
    cases hRL : RL' with
    | nil =>
      subst hRL
      cases hr'
      rw [List.append_nil] at he
      subst he
      have e : flushP [] main' = pure main' := rfl
      rw [e]
      refine wpAny_bind (wpAny_pure ?_)
      cases main' with
      | none => exact absurd D'.ok h0
      | some d =>
        obtain ⟨kvs, hkv, hd, _, hdd⟩ := D'.ok
        exact wpAny_pure (hQ d kvs s' D'.kp hkv hd hdd)
    | cons x r =>
      have hnd' : (L₁.map (·.1) ++ RL'.map (·.1)).Nodup := by rw [← List.map_append, he]; exact hnd
      refine wpAny_bind (flush_ok hg0 D' hr' (by rw [hRL]; exact List.cons_ne_nil _ _) (by omega) hnd' (by rw [← List.length_append, he]; exact hsz) fun d s'' D'' => ?_)
      rw [he] at D''
      obtain ⟨kvs, hkv, hd, _, hdd⟩ := D''.ok
      exact wpAny_pure (hQ d kvs s'' D''.kp hkv hd hdd)
end
end Mine
end
section
open PySem PySem.W PyProof.Rows
set_option Elab.async false
set_option linter.unusedVariables false
set_option maxRecDepth 20000
namespace Mine
section
variable {prog : Program} {w : World} {A : Around}
def okKV : List (Option Expr) → List Expr → Bool
  | [], [] => true
  | some (.Constant (.int _) _ _) :: ks, .Constant (.str _) _ _ :: vs => okKV ks vs
  | _, _ => false
def pairsOf (ks : List (Option Expr)) (vs : List Expr) : List (Int × Str) := (ks.zip vs).map fun p => ((p.1.map Expr.int1).getD 0, Expr.str1 p.2)
theorem tr_at {i : Int} {k k' : Nat} {p p' dpos : Pos} {x : Str} {env : Env} : Tr prog w A (eval (.Constant (.int i) k p) env, do let y ← eval (.Constant (.str x) k' p') env; standAt dpos; pure y) (i, x) :=
  ⟨fun s Q E hQ => (show wpAny (model prog w) A (eval (.Constant (.int i) k p) env) Q E s from wpAny_Constant_int (hQ _ _)),
    fun s Q E hQ => (show wpAny (model prog w) A (do let y ← eval (.Constant (.str x) k' p') env; standAt dpos; pure y) Q E s from wpAny_bind (wpAny_Constant_str (wpAny_bind (wpAny_standAt (wpAny_pure (hQ _ _))))))⟩
theorem trs_of {env : Env} {pos : Pos} : ∀ (ks : List (Option Expr)) (vs : List Expr), okKV ks vs = true → Trs prog w A (pairTrees ks vs env pos) (pairsOf ks vs) ∧ ks.all (·.isSome) = true ∧ ks.length = vs.length
  | [], [], _ => ⟨.nil, rfl, rfl⟩
  | [], _ :: _, h => by simp [okKV] at h
  | k :: ks, [], h => by
    unfold okKV at h
    split at h <;> simp_all
  | k :: ks, v :: vs, h => by
    unfold okKV at h
    split at h
    · simp_all
    · next e1 e2 =>
      cases e1; cases e2
      obtain ⟨h1, h2, h3⟩ := trs_of (env := env) (pos := pos) ks vs h
      exact ⟨.cons tr_at h1, by simpa using h2, by simp [h3]⟩
    · cases h
def asc : List Int → Bool
  | a :: b :: l => decide (a < b) && asc (b :: l)
  | _ => true
theorem asc_lt : ∀ (l : List Int) (a : Int), asc (a :: l) = true → ∀ b ∈ l, a < b
  | [], _, _, b, hb => by cases hb
  | c :: l, a, h, b, hb => by
    unfold asc at h
    rw [Bool.and_eq_true, decide_eq_true_iff] at h
    rcases List.mem_cons.mp hb with rfl | hb
    · exact h.1
    · exact Int.lt_trans h.1 (asc_lt l c h.2 b hb)
theorem asc_nodup : ∀ (l : List Int), asc l = true → l.Nodup
  | [], _ => List.nodup_nil
  | a :: l, h => by
    rw [List.nodup_cons]
    refine ⟨fun hin => Int.lt_irrefl _ (asc_lt l a h a hin), asc_nodup l ?_⟩
    cases l with
    | nil => rfl
    | cons b l =>
      unfold asc at h
      rw [Bool.and_eq_true] at h
      exact h.2
theorem kv_value {L : List (Int × Str)} {kvs : List (Int × Value)} (h : KV L kvs) (k : Int) : (L.lookup k = none ∧ valueAt kvs k = none) ∨ ∃ x t, L.lookup k = some x ∧ valueAt kvs k = some (.str x t) := by
  induction h with
  | nil => exact .inl ⟨rfl, rfl⟩
  | @cons k' x t L kvs _ ih =>
    by_cases q : k = k'
    · subst q
      exact .inr ⟨x, t, by simp, by simp [valueAt]⟩
    · have e1 : (k == k') = false := by simpa using q
      have e2 : ¬ k' = k := fun e => q e.symm
      have e3 : valueAt ((k', Value.str x t) :: kvs) k = valueAt kvs k := by
        unfold valueAt
        rw [List.find?_cons, decide_eq_false e2]
      have e4 : List.lookup k ((k', x) :: L) = L.lookup k := by rw [List.lookup_cons, e1]
      rw [e3, e4]
      exact ih
end
section
variable {s₀ s : Shared} {mg₀ mg : Str → Option Value} {c Pl F : Addr} {names : List Str} {fs : List Fact} {n : Nat} {ps : Array Value} {w : World} {A : Around} {Q : Shared → Prop} {rest : List Stmt}
def dicF (w : World) (x : Str) (L : List (Int × Str)) : Fact :=
  ⟨x, fun h v => ∃ d f, v = .ref d ∧ (d == sysModules) = false ∧ h.MapOf (intKind Pg w) d f ∧ ∀ k, (L.lookup k = none ∧ f k = none) ∨ ∃ x t, L.lookup k = some x ∧ f k = some (.str x t),
    fun h h' v hk ⟨d, f, h1, h2, h3, h4⟩ => ⟨d, f, h1, h2, mapKeep h3 hk, h4⟩⟩
theorem t_dict {x : Str} {p pos dpos : Pos} {ks : List (Option Expr)} {vs : List Expr} (T : TS s₀ mg₀ c Pl names fs n s mg ps) (hkv : okKV ks vs = true) (hasc : asc ((pairsOf ks vs).map (·.1)) = true) (h0 : (pairsOf ks vs).isEmpty = false) (hsz : (pairsOf ks vs).length ≤ sizeLine) (hsys : ∃ o, s.heap.get? sysModules = some o)
    (h : ∀ s' mg', TS s₀ mg₀ c Pl (x :: names) (dicF w x (pairsOf ks vs) :: fs) n s' mg' ps → WT w A (mainEnv Pg c F) rest Q s')
    (hloc : Pg.main.scope.names.lookup x = some .local := by rfl) (hnb : x ≠ "__builtins__" := by decide) (hx : ∀ f ∈ fs, f.name ≠ x := by decide)
    (hsw : swapsWith (.Dict ks vs dpos) (some (.Name x p)) pos.line (mainEnv Pg c F) = pure false := by rfl) :
    WT w A (mainEnv Pg c F) (.Assign [.Name x p] (.Dict ks vs dpos) pos :: rest) Q s := by
  obtain ⟨h1, h2, h3⟩ := trs_of (prog := Pg) (w := w) (A := A) (env := mainEnv Pg c F) (pos := dpos) ks vs hkv
  refine wt_cons (wpAny_Assign_Name ?_ hsw)
  rw [arm_eval_Dict, zip_pairTrees ks vs (mainEnv Pg c F) dpos h2 h3]
  refine wpAny_bind (wpAny_standAt (display_run ⟨mg, T.main.g⟩ h1 (by intro e; rw [e] at h0; cases h0) (asc_nodup _ hasc) hsz fun d kvs s' k hkv hd hdd => ?_))
  have hG : d ≠ mainGlobals := by
    rintro rfl
    obtain ⟨o, es, ep, ho, _⟩ := T.main.g
    rw [hdd] at ho; cases ho
  have hP : d ≠ Pl := by
    rintro rfl
    obtain ⟨o, vs, file, tf, flags, tg, inF, text, tt, op, _, _, _, _, _, _, _, ho, _⟩ := T.main.code
    rw [hdd] at ho; cases ho
  have hS : (d == sysModules) = false := by
    rw [beq_eq_false_iff_ne]
    rintro rfl
    obtain ⟨o, ho⟩ := hsys
    rw [hdd] at ho; cases ho
  have kk := k.heap
  obtain ⟨h₁, tk₁, rfl, _⟩ := k.k
  refine t_store [dicF w x (pairsOf ks vs)] T kk hloc hnb hx (fun f hf => ?_) fun s' mg' T' => ⟨rfl, h s' mg' T'⟩
  have : f = dicF w x (pairsOf ks vs) := by simpa using hf
  subst this
  have hm := hd.mapOf
  obtain ⟨o, es, ep, ho, r⟩ := hm
  exact ⟨rfl, d, valueAt kvs, rfl, hS, ⟨o, es, ep, vis_get ho hG hP, r⟩, kv_value hkv⟩
/-- the table B.3 of the text -/
theorem b3_ok : ∃ ks vs p, Stmt.val (stAt 7) = .Dict ks vs p ∧ okKV ks vs = true ∧ asc ((pairsOf ks vs).map (·.1)) = true ∧ (pairsOf ks vs).isEmpty = false ∧ (pairsOf ks vs).length ≤ 1000 ∧ pairsOf ks vs = b3L :=
  ⟨_, _, _, rfl, by decide +kernel, by decide +kernel, by decide +kernel, by decide +kernel, rfl⟩
end
end Mine
end
section
open PySem PySem.W PyProof.Rows
set_option Elab.async false
set_option linter.unusedVariables false
set_option maxRecDepth 20000
namespace Mine
section
variable {s₀ s : Shared} {mg₀ mg mb : Str → Option Value} {c Pl F : Addr} {names : List Str} {fs : List Fact} {n : Nat} {ps : Array Value} {w : World} {A : Around} {Q : Shared → Prop} {rest : List Stmt}
theorem ne_of {fs : List Fact} {fn : List Str} {x : Str} (h : fs.map (·.name) = fn) (hx : x ∉ fn) : ∀ f ∈ fs, f.name ≠ x := fun f hf e => hx (h ▸ List.mem_map.mpr ⟨f, hf, e⟩)
abbrev defI (i : Nat) : Fact := defF (Stmt.dName (stAt i)) (Stmt.dParams (stAt i)) (Stmt.dBody (stAt i)) (Stmt.dScope (stAt i))
abbrev bisI (i : Nat) : Fact := bisF (Stmt.dName (stAt i)) (Stmt.dParams (stAt i)) (Stmt.dBody (stAt i)) (Stmt.dScope (stAt i))
theorem t_str' {st : Stmt} {x y : Str} {k : Nat} {p p₂ pos : Pos} (T : TS s₀ mg₀ c Pl names fs n s mg ps) (hst : st = .Assign [.Name x p] (.Constant (.str y) k p₂) pos)
    (h : ∀ s' mg', TS s₀ mg₀ c Pl (x :: names) fs n s' mg' ps → WT w A (mainEnv Pg c F) rest Q s') (hloc : Pg.main.scope.names.lookup x = some .local) (hnb : x ≠ "__builtins__") (hx : ∀ f ∈ fs, f.name ≠ x)
    (hsw : swapsWith (.Constant (.str y) k p₂) (some (.Name x p)) pos.line (mainEnv Pg c F) = pure false := by rfl) : WT w A (mainEnv Pg c F) (st :: rest) Q s := by
  subst hst
  exact t_str T h hloc hnb hx hsw
theorem t_int' {st : Stmt} {x : Str} {i : Int} {k : Nat} {p p₂ pos : Pos} (T : TS s₀ mg₀ c Pl names fs n s mg ps) (hst : st = .Assign [.Name x p] (.Constant (.int i) k p₂) pos)
    (h : ∀ s' mg', TS s₀ mg₀ c Pl (x :: names) (conF x i :: fs) n s' mg' ps → WT w A (mainEnv Pg c F) rest Q s') (hloc : Pg.main.scope.names.lookup x = some .local) (hnb : x ≠ "__builtins__") (hx : ∀ f ∈ fs, f.name ≠ x)
    (hsw : swapsWith (.Constant (.int i) k p₂) (some (.Name x p)) pos.line (mainEnv Pg c F) = pure false := by rfl) : WT w A (mainEnv Pg c F) (st :: rest) Q s := by
  subst hst
  exact t_int T h hloc hnb hx hsw
theorem t_def' {i : Nat} {pos : Pos} (T : TS s₀ mg₀ c Pl names fs n s mg ps) (hst : stAt i = .FunctionDef (Stmt.dName (stAt i)) (Stmt.dParams (stAt i)) (Stmt.dBody (stAt i)) [] none [] (Stmt.dScope (stAt i)) none (Stmt.dName (stAt i)) pos) (hn : n ≤ pos.line)
    (h : ∀ s' mg' ps', TS s₀ mg₀ c Pl (Stmt.dName (stAt i) :: names) (defI i :: fs) (pos.line + 1) s' mg' ps' → WT w A (mainEnv Pg c F) rest Q s')
    (hkw : (Stmt.dParams (stAt i)).kwonlyargs = []) (hkd : (Stmt.dParams (stAt i)).kw_defaults = []) (hdf : (Stmt.dParams (stAt i)).defaults = []) (hann0 : annTrees (Stmt.dParams (stAt i)) none (mainEnv Pg c F) = [])
    (hfree : ∀ x ∈ (Stmt.dScope (stAt i)).names, x.2 ≠ .free) (hloc : Pg.main.scope.names.lookup (Stmt.dName (stAt i)) = some .local)
    (hq : qualnameIn { scope := Pg.main.scope, locals := mainGlobals, globals := mainGlobals, cells := [] } (Stmt.dName (stAt i)) (Stmt.dName (stAt i)) = Stmt.dName (stAt i)) (hnb : Stmt.dName (stAt i) ≠ "__builtins__") (hx : ∀ f ∈ fs, f.name ≠ Stmt.dName (stAt i)) :
    WT w A (mainEnv Pg c F) (stAt i :: rest) Q s := by
  have := t_def (w := w) (A := A) (F := F) (Q := Q) (rest := rest) (pos := pos) T hn h hkw hkd hdf hann0 hfree hloc hq hnb hx
  rw [← hst] at this
  exact this
theorem t_defk' {i : Nat} {pos p₁ p₂ p₃ : Pos} {k₁ k₂ k₃ : Nat} (T : TS s₀ mg₀ c Pl names fs n s mg ps) (hst : stAt i = .FunctionDef (Stmt.dName (stAt i)) (Stmt.dParams (stAt i)) (Stmt.dBody (stAt i)) [] none [] (Stmt.dScope (stAt i)) none (Stmt.dName (stAt i)) pos) (hn : n ≤ pos.line)
    (h : ∀ s' mg' ps', TS s₀ mg₀ c Pl (Stmt.dName (stAt i) :: names) (bisI i :: fs) (pos.line + 1) s' mg' ps' → WT w A (mainEnv Pg c F) rest Q s')
    (hkw : (Stmt.dParams (stAt i)).kwonlyargs.map (·.arg) = [("key" : Str)]) (hkd : (Stmt.dParams (stAt i)).kw_defaults = [some (.Constant .none k₁ p₁)]) (hdf : (Stmt.dParams (stAt i)).defaults = [.Constant (.int 0) k₂ p₂, .Constant .none k₃ p₃]) (hann0 : annTrees (Stmt.dParams (stAt i)) none (mainEnv Pg c F) = [])
    (hfree : ∀ x ∈ (Stmt.dScope (stAt i)).names, x.2 ≠ .free) (hloc : Pg.main.scope.names.lookup (Stmt.dName (stAt i)) = some .local)
    (hq : qualnameIn { scope := Pg.main.scope, locals := mainGlobals, globals := mainGlobals, cells := [] } (Stmt.dName (stAt i)) (Stmt.dName (stAt i)) = Stmt.dName (stAt i)) (hnb : Stmt.dName (stAt i) ≠ "__builtins__") (hx : ∀ f ∈ fs, f.name ≠ Stmt.dName (stAt i)) :
    WT w A (mainEnv Pg c F) (stAt i :: rest) Q s := by
  have := t_defk (w := w) (A := A) (F := F) (Q := Q) (rest := rest) (pos := pos) T hn h hkw hkd hdf hann0 hfree hloc hq hnb hx
  rw [← hst] at this
  exact this
theorem t_set' {st : Stmt} {x : Str} {l : List Int} {p pos : Pos} {e : Expr} (T : TS s₀ mg₀ c Pl names fs n s mg ps) (hst : st = .Assign [.Name x p] e pos)
    (he : wpAny (model Pg w) A (eval e (mainEnv Pg c F)) (fun v s' => ∃ a S m, v = .ref a ∧ Kp s s' ∧ s.heap.get? a = none ∧ s'.heap.SetOf (intKind Pg w) a S m ∧ ∀ k, S k = l.contains k) (fun _ _ => False) s)
    (h : ∀ s' mg', TS s₀ mg₀ c Pl (x :: names) (setF w x l :: fs) n s' mg' ps → WT w A (mainEnv Pg c F) rest Q s') (hloc : Pg.main.scope.names.lookup x = some .local) (hnb : x ≠ "__builtins__") (hx : ∀ f ∈ fs, f.name ≠ x)
    (hsw : swapsWith e (some (.Name x p)) pos.line (mainEnv Pg c F) = pure false := by rfl) : WT w A (mainEnv Pg c F) (st :: rest) Q s := by
  subst hst
  exact t_set T he h hloc hnb hx hsw
theorem t_dict7 (hsys : ∃ o, s.heap.get? sysModules = some o) (T : TS s₀ mg₀ c Pl names fs n s mg ps)
    (h : ∀ s' mg', TS s₀ mg₀ c Pl ("b3_exceptions" :: names) (dicF w "b3_exceptions" b3L :: fs) n s' mg' ps → WT w A (mainEnv Pg c F) rest Q s') (hloc : Pg.main.scope.names.lookup ("b3_exceptions" : Str) = some .local) (hnb : ("b3_exceptions" : Str) ≠ "__builtins__") (hx : ∀ f ∈ fs, f.name ≠ "b3_exceptions") :
    WT w A (mainEnv Pg c F) (stAt 7 :: rest) Q s := by
  obtain ⟨ks, vs, dp, e1, h1, h2, h3, h4, h5⟩ := b3_ok
  obtain ⟨p, pos, e2⟩ : ∃ p pos, stAt 7 = .Assign [.Name "b3_exceptions" p] (Stmt.val (stAt 7)) pos := ⟨_, _, rfl⟩
  rw [e1] at e2
  rw [e2]
  rw [← h5] at h
  exact t_dict (x := "b3_exceptions") (ks := ks) (vs := vs) T h1 h2 h3 (Nat.le_trans h4 (by rw [sizeLine_eq]; decide)) hsys h hloc hnb hx rfl
/-- what the boot leaves -/
structure Base (s₀ : Shared) (mg₀ mb : Str → Option Value) : Prop where
  sys : ∃ o, s₀.heap.get? sysModules = some o
  bl : s₀.heap.Ns builtinsNs mb
  nl : s₀.heap.NoLimit
  free : ∀ x ∈ (["set", "list", "range", "len", "ord", "chr", "sum", "min"] : List Str), mg₀ x = none
  set : mb "set" = some (.type "set")
  bins : ∀ p ∈ bins, mb p.1 = some p.2
def groundOf (w : World) (s : Shared) (mg mb : Str → Option Value) : G := ⟨w, s.heap, mg, mb⟩
theorem ground_ok (B : Base s₀ mg₀ mb) (T : TS s₀ mg₀ c Pl names fs n s mg ps) : (groundOf w s mg mb).Ok := by
  refine ⟨T.main.g, ?_, ?_⟩
  · obtain ⟨o, es, ep, ho, r⟩ := B.bl
    exact ⟨o, es, ep, T.keep _ _ (by decide) ho, r⟩
  · obtain ⟨mc, ⟨o, es, ep, ho, r⟩, hm⟩ := B.nl
    exact ⟨mc, ⟨o, es, ep, T.keep _ _ (by decide) ho, r⟩, hm⟩
theorem nm (B : Base s₀ mg₀ mb) (T : TS s₀ mg₀ c Pl names fs n s mg ps) {x : Str} {v : Value} (hx : x ∈ (["set", "list", "range", "len", "ord", "chr", "sum", "min"] : List Str)) (hn : x ∉ names) (hv : mb x = some v) : (groundOf w s mg mb).mg x = none ∧ (groundOf w s mg mb).mb x = some v :=
  ⟨(T.others x hn).trans (B.free x hx), hv⟩
theorem free_of {names : List Str} (h : (["set", "list", "range"] : List Str).all (fun x => !names.contains x) = true) : ("set" : Str) ∉ names ∧ ("list" : Str) ∉ names ∧ ("range" : Str) ∉ names := by
  simpa using h
section
variable (B : Base s₀ mg₀ mb) (T : TS s₀ mg₀ c Pl names fs n s mg ps) (hh : A.handled = none) (hf : (["set", "list", "range"] : List Str).all (fun x => !names.contains x) = true)
include B T hh hf
theorem set5 : wpAny (model Pg w) A (eval (Stmt.val (stAt 5)) (mainEnv Pg c F)) (fun v s' => ∃ a S m, v = .ref a ∧ Kp s s' ∧ s.heap.get? a = none ∧ s'.heap.SetOf (intKind Pg w) a S m ∧ ∀ k, S k = b1L.contains k) (fun _ _ => False) s := by
  obtain ⟨f1, f2, f3⟩ := free_of hf
  have G := ground_ok (w := w) B T
  have hS := nm (w := w) B T (by decide) f1 B.set
  have hL := nm (w := w) B T (by decide) f2 (B.bins ("list", .type "list") (by decide))
  have hR := nm (w := w) B T (by decide) f3 (B.bins ("range", .type "range") (by decide))
  exact m_setL (g := groundOf w s mg mb) (l := b1L) rfl G hS (Ev.cast (ev_addl ev_ints (m_listRange (n := 16) G hL hR ev_int ev_int hh (by decide) (by decide) (by decide) (by decide) (by decide) (by decide)) (by rw [sizeLine_eq, List.length_map, List.length_map]; decide +kernel)) (castA (l' := b1L) (by decide +kernel))) hh (by decide +kernel) (mod_ready ⟨mg, T.main.g⟩ fun _ _ e => e)
theorem set10 : wpAny (model Pg w) A (eval (Stmt.val (stAt 10)) (mainEnv Pg c F)) (fun v s' => ∃ a S m, v = .ref a ∧ Kp s s' ∧ s.heap.get? a = none ∧ s'.heap.SetOf (intKind Pg w) a S m ∧ ∀ k, S k = c6L.contains k) (fun _ _ => False) s := by
  obtain ⟨f1, f2, f3⟩ := free_of hf
  have G := ground_ok (w := w) B T
  have hS := nm (w := w) B T (by decide) f1 B.set
  have hR := nm (w := w) B T (by decide) f3 (B.bins ("range", .type "range") (by decide))
  exact m_setR (g := groundOf w s mg mb) (n := 5) rfl G hS hR ev_int ev_int hh (by decide) (by decide) (by decide) (by decide) (by decide) (by decide) (mod_ready ⟨mg, T.main.g⟩ fun _ _ e => e)
theorem set12 : wpAny (model Pg w) A (eval (Stmt.val (stAt 12)) (mainEnv Pg c F)) (fun v s' => ∃ a S m, v = .ref a ∧ Kp s s' ∧ s.heap.get? a = none ∧ s'.heap.SetOf (intKind Pg w) a S m ∧ ∀ k, S k = c7L.contains k) (fun _ _ => False) s := by
  obtain ⟨f1, f2, f3⟩ := free_of hf
  have G := ground_ok (w := w) B T
  have hS := nm (w := w) B T (by decide) f1 B.set
  have hR := nm (w := w) B T (by decide) f3 (B.bins ("range", .type "range") (by decide))
  exact m_setR (g := groundOf w s mg mb) (n := 12) rfl G hS hR ev_int ev_int hh (by decide) (by decide) (by decide) (by decide) (by decide) (by decide) (mod_ready ⟨mg, T.main.g⟩ fun _ _ e => e)
theorem set14 : wpAny (model Pg w) A (eval (Stmt.val (stAt 14)) (mainEnv Pg c F)) (fun v s' => ∃ a S m, v = .ref a ∧ Kp s s' ∧ s.heap.get? a = none ∧ s'.heap.SetOf (intKind Pg w) a S m ∧ ∀ k, S k = c8L.contains k) (fun _ _ => False) s := by
  obtain ⟨f1, f2, f3⟩ := free_of hf
  have G := ground_ok (w := w) B T
  have hS := nm (w := w) B T (by decide) f1 B.set
  have hL := nm (w := w) B T (by decide) f2 (B.bins ("list", .type "list") (by decide))
  have hR := nm (w := w) B T (by decide) f3 (B.bins ("range", .type "range") (by decide))
  exact m_setL (g := groundOf w s mg mb) (l := c8L) rfl G hS (Ev.cast (ev_addl (Ev.cast (ev_addl ev_ints (m_listRange (n := 5) G hL hR ev_int ev_int hh (by decide) (by decide) (by decide) (by decide) (by decide) (by decide)) (by rw [sizeLine_eq, List.length_map, List.length_map]; decide +kernel)) (castA rfl)) (m_listRange (n := 6) G hL hR ev_int ev_int hh (by decide) (by decide) (by decide) (by decide) (by decide) (by decide)) (by rw [sizeLine_eq, List.length_map, List.length_map]; decide +kernel)) (castA (l' := c8L) (by decide +kernel))) hh (by decide +kernel) (mod_ready ⟨mg, T.main.g⟩ fun _ _ e => e)
theorem set16 : wpAny (model Pg w) A (eval (Stmt.val (stAt 16)) (mainEnv Pg c F)) (fun v s' => ∃ a S m, v = .ref a ∧ Kp s s' ∧ s.heap.get? a = none ∧ s'.heap.SetOf (intKind Pg w) a S m ∧ ∀ k, S k = c9L.contains k) (fun _ _ => False) s := by
  obtain ⟨f1, f2, f3⟩ := free_of hf
  have G := ground_ok (w := w) B T
  have hS := nm (w := w) B T (by decide) f1 B.set
  have hL := nm (w := w) B T (by decide) f2 (B.bins ("list", .type "list") (by decide))
  have hR := nm (w := w) B T (by decide) f3 (B.bins ("range", .type "range") (by decide))
  exact m_setL (g := groundOf w s mg mb) (l := c9L) rfl G hS (Ev.cast (ev_addl ev_ints (m_listRange (n := 96) G hL hR ev_int ev_int hh (by decide) (by decide) (by decide) (by decide) (by decide) (by decide)) (by rw [sizeLine_eq, List.length_map, List.length_map]; decide +kernel)) (castA (l' := c9L) (by decide +kernel))) hh (by decide +kernel) (mod_ready ⟨mg, T.main.g⟩ fun _ _ e => e)
end
end
end Mine
end
section
open PySem PySem.W PyProof.Rows
set_option Elab.async false
set_option linter.unusedVariables false
set_option maxRecDepth 20000
namespace Mine
section
variable {s₀ s : Shared} {mg₀ mg mb : Str → Option Value} {c Pl F : Addr} {w : World} {A : Around} {Q : Shared → Prop}
def topNames : List Str := (["_law_due", "_law_beginnings", "_law_orders", "_law_many", "_law_written", "_law_letters", "_law_refused", "_law_meant", "_law_sign", "__name__", "_levenshtein_distance", "_substitution_cost"] : List Str) ++ (["_CASE_COST", "_MOVE_COST", "_MAX_STRING_SIZE", "__name__", "in_table_c9", "c9_set", "in_table_c8", "c8_set", "in_table_c7", "c7_set", "in_table_c6", "c6_set"] : List Str) ++ (["in_table_c4", "map_table_b3", "b3_exceptions", "in_table_b1", "b1_set", "__name__", "bisect_left", "insort_left", "bisect_right", "__name__"] : List Str)
def topFn : List Str := (["_law_due", "_law_beginnings", "_law_orders", "_law_many", "_law_written", "_law_letters", "_law_refused", "_law_meant", "_law_sign", "_levenshtein_distance"] : List Str) ++ (["_substitution_cost", "_CASE_COST", "_MOVE_COST", "_MAX_STRING_SIZE", "in_table_c9", "c9_set", "in_table_c8", "c8_set", "in_table_c7", "c7_set"] : List Str) ++ (["in_table_c6", "c6_set", "in_table_c4", "map_table_b3", "b3_exceptions", "in_table_b1", "b1_set", "bisect_left", "insort_left", "bisect_right"] : List Str)
def topFacts (w : World) : List Fact := [defI 33, defI 32, defI 31, defI 30, defI 29, defI 28, defI 27, defI 26, defI 25, defI 23, defI 22, conF "_CASE_COST" 1, conF "_MOVE_COST" 2, conF "_MAX_STRING_SIZE" 40, defI 17, setF w "c9_set" c9L, defI 15, setF w "c8_set" c8L, defI 13, setF w "c7_set" c7L, defI 11, setF w "c6_set" c6L, defI 9, defI 8, dicF w "b3_exceptions" b3L, defI 6, setF w "b1_set" b1L, bisI 3, bisI 2, bisI 1]

theorem body_eq : Pg.main.body = [stAt 0, stAt 1, stAt 2, stAt 3, stAt 4, stAt 5, stAt 6, stAt 7, stAt 8, stAt 9, stAt 10, stAt 11, stAt 12, stAt 13, stAt 14, stAt 15, stAt 16, stAt 17, stAt 18, stAt 19, stAt 20, stAt 21, stAt 22, stAt 23, stAt 24, stAt 25, stAt 26, stAt 27, stAt 28, stAt 29, stAt 30, stAt 31, stAt 32, stAt 33, stAt 34] := rfl
set_option maxHeartbeats 4000000 in
theorem top_walk (B : Base s₀ mg₀ mb) (hh : A.handled = none) (T : TS s₀ mg₀ c Pl [] [] 0 s mg₀ #[])
    (h : ∀ n s' mg' ps', n ≤ 180 → TS s₀ mg₀ c Pl topNames (topFacts w) n s' mg' ps' → WT w A (mainEnv Pg c F) [stAt 34] Q s') : WT w A (mainEnv Pg c F) Pg.main.body Q s := by
  rw [body_eq]
  refine t_str' T rfl (fun s mg T => ?_) (by decide +kernel) (by decide +kernel) (ne_of (fn := []) rfl (by decide +kernel))
  refine t_defk' (i := 1) T rfl (by decide +kernel) (fun s mg ps T => ?_) rfl rfl rfl rfl (by decide +kernel) (by decide +kernel) (by decide +kernel) (by decide +kernel) (ne_of (fn := []) rfl (by decide +kernel))
  refine t_defk' (i := 2) T rfl (by decide +kernel) (fun s mg ps T => ?_) rfl rfl rfl rfl (by decide +kernel) (by decide +kernel) (by decide +kernel) (by decide +kernel) (ne_of (fn := ["bisect_right"]) rfl (by decide +kernel))
  refine t_defk' (i := 3) T rfl (by decide +kernel) (fun s mg ps T => ?_) rfl rfl rfl rfl (by decide +kernel) (by decide +kernel) (by decide +kernel) (by decide +kernel) (ne_of (fn := ["insort_left", "bisect_right"]) rfl (by decide +kernel))
  refine t_str' T rfl (fun s mg T => ?_) (by decide +kernel) (by decide +kernel) (ne_of (fn := ["bisect_left", "insort_left", "bisect_right"]) rfl (by decide +kernel))
  refine t_set' (x := "b1_set") (l := b1L) (e := Stmt.val (stAt 5)) T rfl (set5 B T hh (by decide +kernel)) (fun s mg T => ?_) (by decide +kernel) (by decide +kernel) (ne_of (fn := ["bisect_left", "insort_left", "bisect_right"]) rfl (by decide +kernel))
  refine t_def' (i := 6) T rfl (by decide +kernel) (fun s mg ps T => ?_) rfl rfl rfl rfl (by decide +kernel) (by decide +kernel) (by decide +kernel) (by decide +kernel) (ne_of (fn := ["b1_set", "bisect_left", "insort_left", "bisect_right"]) rfl (by decide +kernel))
  refine t_dict7 (let ⟨o, h⟩ := B.sys; ⟨o, T.keep _ _ (by decide) h⟩) T (fun s mg T => ?_) (by decide +kernel) (by decide +kernel) (ne_of (fn := ["in_table_b1", "b1_set", "bisect_left", "insort_left", "bisect_right"]) rfl (by decide +kernel))
  refine t_def' (i := 8) T rfl (by decide +kernel) (fun s mg ps T => ?_) rfl rfl rfl rfl (by decide +kernel) (by decide +kernel) (by decide +kernel) (by decide +kernel) (ne_of (fn := ["b3_exceptions", "in_table_b1", "b1_set", "bisect_left", "insort_left", "bisect_right"]) rfl (by decide +kernel))
  refine t_def' (i := 9) T rfl (by decide +kernel) (fun s mg ps T => ?_) rfl rfl rfl rfl (by decide +kernel) (by decide +kernel) (by decide +kernel) (by decide +kernel) (ne_of (fn := ["map_table_b3", "b3_exceptions", "in_table_b1", "b1_set", "bisect_left", "insort_left", "bisect_right"]) rfl (by decide +kernel))
  refine t_set' (x := "c6_set") (l := c6L) (e := Stmt.val (stAt 10)) T rfl (set10 B T hh (by decide +kernel)) (fun s mg T => ?_) (by decide +kernel) (by decide +kernel) (ne_of (fn := ["in_table_c4", "map_table_b3", "b3_exceptions", "in_table_b1", "b1_set", "bisect_left", "insort_left", "bisect_right"]) rfl (by decide +kernel))
  refine t_def' (i := 11) T rfl (by decide +kernel) (fun s mg ps T => ?_) rfl rfl rfl rfl (by decide +kernel) (by decide +kernel) (by decide +kernel) (by decide +kernel) (ne_of (fn := ["c6_set", "in_table_c4", "map_table_b3", "b3_exceptions", "in_table_b1", "b1_set", "bisect_left", "insort_left", "bisect_right"]) rfl (by decide +kernel))
  refine t_set' (x := "c7_set") (l := c7L) (e := Stmt.val (stAt 12)) T rfl (set12 B T hh (by decide +kernel)) (fun s mg T => ?_) (by decide +kernel) (by decide +kernel) (ne_of (fn := ["in_table_c6", "c6_set", "in_table_c4", "map_table_b3", "b3_exceptions", "in_table_b1", "b1_set", "bisect_left", "insort_left", "bisect_right"]) rfl (by decide +kernel))
  refine t_def' (i := 13) T rfl (by decide +kernel) (fun s mg ps T => ?_) rfl rfl rfl rfl (by decide +kernel) (by decide +kernel) (by decide +kernel) (by decide +kernel) (ne_of (fn := ["c7_set", "in_table_c6", "c6_set", "in_table_c4", "map_table_b3", "b3_exceptions", "in_table_b1", "b1_set", "bisect_left", "insort_left", "bisect_right"]) rfl (by decide +kernel))
  refine t_set' (x := "c8_set") (l := c8L) (e := Stmt.val (stAt 14)) T rfl (set14 B T hh (by decide +kernel)) (fun s mg T => ?_) (by decide +kernel) (by decide +kernel) (ne_of (fn := ["in_table_c7", "c7_set", "in_table_c6", "c6_set", "in_table_c4", "map_table_b3", "b3_exceptions", "in_table_b1", "b1_set", "bisect_left", "insort_left", "bisect_right"]) rfl (by decide +kernel))
  refine t_def' (i := 15) T rfl (by decide +kernel) (fun s mg ps T => ?_) rfl rfl rfl rfl (by decide +kernel) (by decide +kernel) (by decide +kernel) (by decide +kernel) (ne_of (fn := ["c8_set", "in_table_c7", "c7_set", "in_table_c6", "c6_set", "in_table_c4", "map_table_b3", "b3_exceptions", "in_table_b1", "b1_set", "bisect_left", "insort_left", "bisect_right"]) rfl (by decide +kernel))
  refine t_set' (x := "c9_set") (l := c9L) (e := Stmt.val (stAt 16)) T rfl (set16 B T hh (by decide +kernel)) (fun s mg T => ?_) (by decide +kernel) (by decide +kernel) (ne_of (fn := ["in_table_c8", "c8_set", "in_table_c7", "c7_set", "in_table_c6", "c6_set", "in_table_c4", "map_table_b3", "b3_exceptions", "in_table_b1", "b1_set", "bisect_left", "insort_left", "bisect_right"]) rfl (by decide +kernel))
  refine t_def' (i := 17) T rfl (by decide +kernel) (fun s mg ps T => ?_) rfl rfl rfl rfl (by decide +kernel) (by decide +kernel) (by decide +kernel) (by decide +kernel) (ne_of (fn := ["c9_set", "in_table_c8", "c8_set", "in_table_c7", "c7_set", "in_table_c6", "c6_set", "in_table_c4", "map_table_b3", "b3_exceptions", "in_table_b1", "b1_set", "bisect_left", "insort_left", "bisect_right"]) rfl (by decide +kernel))
  refine t_str' T rfl (fun s mg T => ?_) (by decide +kernel) (by decide +kernel) (ne_of (fn := ["in_table_c9", "c9_set", "in_table_c8", "c8_set", "in_table_c7", "c7_set", "in_table_c6", "c6_set", "in_table_c4", "map_table_b3", "b3_exceptions", "in_table_b1", "b1_set", "bisect_left", "insort_left", "bisect_right"]) rfl (by decide +kernel))
  refine t_int' T rfl (fun s mg T => ?_) (by decide +kernel) (by decide +kernel) (ne_of (fn := ["in_table_c9", "c9_set", "in_table_c8", "c8_set", "in_table_c7", "c7_set", "in_table_c6", "c6_set", "in_table_c4", "map_table_b3", "b3_exceptions", "in_table_b1", "b1_set", "bisect_left", "insort_left", "bisect_right"]) rfl (by decide +kernel))
  refine t_int' T rfl (fun s mg T => ?_) (by decide +kernel) (by decide +kernel) (ne_of (fn := ["_MAX_STRING_SIZE", "in_table_c9", "c9_set", "in_table_c8", "c8_set", "in_table_c7", "c7_set", "in_table_c6", "c6_set", "in_table_c4", "map_table_b3", "b3_exceptions", "in_table_b1", "b1_set", "bisect_left", "insort_left", "bisect_right"]) rfl (by decide +kernel))
  refine t_int' T rfl (fun s mg T => ?_) (by decide +kernel) (by decide +kernel) (ne_of (fn := ["_MOVE_COST", "_MAX_STRING_SIZE", "in_table_c9", "c9_set", "in_table_c8", "c8_set", "in_table_c7", "c7_set", "in_table_c6", "c6_set", "in_table_c4", "map_table_b3", "b3_exceptions", "in_table_b1", "b1_set", "bisect_left", "insort_left", "bisect_right"]) rfl (by decide +kernel))
  refine t_def' (i := 22) T rfl (by decide +kernel) (fun s mg ps T => ?_) rfl rfl rfl rfl (by decide +kernel) (by decide +kernel) (by decide +kernel) (by decide +kernel) (ne_of (fn := ["_CASE_COST", "_MOVE_COST", "_MAX_STRING_SIZE", "in_table_c9", "c9_set", "in_table_c8", "c8_set", "in_table_c7", "c7_set", "in_table_c6", "c6_set", "in_table_c4", "map_table_b3", "b3_exceptions", "in_table_b1", "b1_set", "bisect_left", "insort_left", "bisect_right"]) rfl (by decide +kernel))
  refine t_def' (i := 23) T rfl (by decide +kernel) (fun s mg ps T => ?_) rfl rfl rfl rfl (by decide +kernel) (by decide +kernel) (by decide +kernel) (by decide +kernel) (ne_of (fn := ["_substitution_cost", "_CASE_COST", "_MOVE_COST", "_MAX_STRING_SIZE", "in_table_c9", "c9_set", "in_table_c8", "c8_set", "in_table_c7", "c7_set", "in_table_c6", "c6_set", "in_table_c4", "map_table_b3", "b3_exceptions", "in_table_b1", "b1_set", "bisect_left", "insort_left", "bisect_right"]) rfl (by decide +kernel))
  refine t_str' T rfl (fun s mg T => ?_) (by decide +kernel) (by decide +kernel) (ne_of (fn := ["_levenshtein_distance", "_substitution_cost", "_CASE_COST", "_MOVE_COST", "_MAX_STRING_SIZE", "in_table_c9", "c9_set", "in_table_c8", "c8_set", "in_table_c7", "c7_set", "in_table_c6", "c6_set", "in_table_c4", "map_table_b3", "b3_exceptions", "in_table_b1", "b1_set", "bisect_left", "insort_left", "bisect_right"]) rfl (by decide +kernel))
  refine t_def' (i := 25) T rfl (by decide +kernel) (fun s mg ps T => ?_) rfl rfl rfl rfl (by decide +kernel) (by decide +kernel) (by decide +kernel) (by decide +kernel) (ne_of (fn := ["_levenshtein_distance", "_substitution_cost", "_CASE_COST", "_MOVE_COST", "_MAX_STRING_SIZE", "in_table_c9", "c9_set", "in_table_c8", "c8_set", "in_table_c7", "c7_set", "in_table_c6", "c6_set", "in_table_c4", "map_table_b3", "b3_exceptions", "in_table_b1", "b1_set", "bisect_left", "insort_left", "bisect_right"]) rfl (by decide +kernel))
  refine t_def' (i := 26) T rfl (by decide +kernel) (fun s mg ps T => ?_) rfl rfl rfl rfl (by decide +kernel) (by decide +kernel) (by decide +kernel) (by decide +kernel) (ne_of (fn := ["_law_sign", "_levenshtein_distance", "_substitution_cost", "_CASE_COST", "_MOVE_COST", "_MAX_STRING_SIZE", "in_table_c9", "c9_set", "in_table_c8", "c8_set", "in_table_c7", "c7_set", "in_table_c6", "c6_set", "in_table_c4", "map_table_b3", "b3_exceptions", "in_table_b1", "b1_set", "bisect_left", "insort_left", "bisect_right"]) rfl (by decide +kernel))
  refine t_def' (i := 27) T rfl (by decide +kernel) (fun s mg ps T => ?_) rfl rfl rfl rfl (by decide +kernel) (by decide +kernel) (by decide +kernel) (by decide +kernel) (ne_of (fn := ["_law_meant", "_law_sign", "_levenshtein_distance", "_substitution_cost", "_CASE_COST", "_MOVE_COST", "_MAX_STRING_SIZE", "in_table_c9", "c9_set", "in_table_c8", "c8_set", "in_table_c7", "c7_set", "in_table_c6", "c6_set", "in_table_c4", "map_table_b3", "b3_exceptions", "in_table_b1", "b1_set", "bisect_left", "insort_left", "bisect_right"]) rfl (by decide +kernel))
  refine t_def' (i := 28) T rfl (by decide +kernel) (fun s mg ps T => ?_) rfl rfl rfl rfl (by decide +kernel) (by decide +kernel) (by decide +kernel) (by decide +kernel) (ne_of (fn := ["_law_refused", "_law_meant", "_law_sign", "_levenshtein_distance", "_substitution_cost", "_CASE_COST", "_MOVE_COST", "_MAX_STRING_SIZE", "in_table_c9", "c9_set", "in_table_c8", "c8_set", "in_table_c7", "c7_set", "in_table_c6", "c6_set", "in_table_c4", "map_table_b3", "b3_exceptions", "in_table_b1", "b1_set", "bisect_left", "insort_left", "bisect_right"]) rfl (by decide +kernel))
  refine t_def' (i := 29) T rfl (by decide +kernel) (fun s mg ps T => ?_) rfl rfl rfl rfl (by decide +kernel) (by decide +kernel) (by decide +kernel) (by decide +kernel) (ne_of (fn := ["_law_letters", "_law_refused", "_law_meant", "_law_sign", "_levenshtein_distance", "_substitution_cost", "_CASE_COST", "_MOVE_COST", "_MAX_STRING_SIZE", "in_table_c9", "c9_set", "in_table_c8", "c8_set", "in_table_c7", "c7_set", "in_table_c6", "c6_set", "in_table_c4", "map_table_b3", "b3_exceptions", "in_table_b1", "b1_set", "bisect_left", "insort_left", "bisect_right"]) rfl (by decide +kernel))
  refine t_def' (i := 30) T rfl (by decide +kernel) (fun s mg ps T => ?_) rfl rfl rfl rfl (by decide +kernel) (by decide +kernel) (by decide +kernel) (by decide +kernel) (ne_of (fn := ["_law_written", "_law_letters", "_law_refused", "_law_meant", "_law_sign", "_levenshtein_distance", "_substitution_cost", "_CASE_COST", "_MOVE_COST", "_MAX_STRING_SIZE", "in_table_c9", "c9_set", "in_table_c8", "c8_set", "in_table_c7", "c7_set", "in_table_c6", "c6_set", "in_table_c4", "map_table_b3", "b3_exceptions", "in_table_b1", "b1_set", "bisect_left", "insort_left", "bisect_right"]) rfl (by decide +kernel))
  refine t_def' (i := 31) T rfl (by decide +kernel) (fun s mg ps T => ?_) rfl rfl rfl rfl (by decide +kernel) (by decide +kernel) (by decide +kernel) (by decide +kernel) (ne_of (fn := ["_law_many", "_law_written", "_law_letters", "_law_refused", "_law_meant", "_law_sign", "_levenshtein_distance", "_substitution_cost", "_CASE_COST", "_MOVE_COST", "_MAX_STRING_SIZE", "in_table_c9", "c9_set", "in_table_c8", "c8_set", "in_table_c7", "c7_set", "in_table_c6", "c6_set", "in_table_c4", "map_table_b3", "b3_exceptions", "in_table_b1", "b1_set", "bisect_left", "insort_left", "bisect_right"]) rfl (by decide +kernel))
  refine t_def' (i := 32) T rfl (by decide +kernel) (fun s mg ps T => ?_) rfl rfl rfl rfl (by decide +kernel) (by decide +kernel) (by decide +kernel) (by decide +kernel) (ne_of (fn := ["_law_orders", "_law_many", "_law_written", "_law_letters", "_law_refused", "_law_meant", "_law_sign", "_levenshtein_distance", "_substitution_cost", "_CASE_COST", "_MOVE_COST", "_MAX_STRING_SIZE", "in_table_c9", "c9_set", "in_table_c8", "c8_set", "in_table_c7", "c7_set", "in_table_c6", "c6_set", "in_table_c4", "map_table_b3", "b3_exceptions", "in_table_b1", "b1_set", "bisect_left", "insort_left", "bisect_right"]) rfl (by decide +kernel))
  refine t_def' (i := 33) T rfl (by decide +kernel) (fun s mg ps T => ?_) rfl rfl rfl rfl (by decide +kernel) (by decide +kernel) (by decide +kernel) (by decide +kernel) (ne_of (fn := ["_law_beginnings", "_law_orders", "_law_many", "_law_written", "_law_letters", "_law_refused", "_law_meant", "_law_sign", "_levenshtein_distance", "_substitution_cost", "_CASE_COST", "_MOVE_COST", "_MAX_STRING_SIZE", "in_table_c9", "c9_set", "in_table_c8", "c8_set", "in_table_c7", "c7_set", "in_table_c6", "c6_set", "in_table_c4", "map_table_b3", "b3_exceptions", "in_table_b1", "b1_set", "bisect_left", "insort_left", "bisect_right"]) rfl (by decide +kernel))

  exact h _ s mg ps (by decide +kernel) T
end
end Mine
end
section
open PySem PySem.W PyProof.Rows
set_option Elab.async false
set_option linter.unusedVariables false
set_option maxRecDepth 20000
namespace Mine
/-- all that the top leaves -/
def allFacts (w : World) : List Fact := defI 34 :: topFacts w
theorem def_scopes : ∀ i ∈ ([1, 2, 3, 6, 8, 9, 11, 13, 15, 17, 22, 23, 25, 26, 27, 28, 29, 30, 31, 32, 33, 34] : List Nat), (Stmt.dScope (stAt i)).isCoroutine = false ∧ (Stmt.dScope (stAt i)).isGenerator = false ∧ (Stmt.dScope (stAt i)).kind = .function := by decide +kernel
section
variable {g : G}
theorem defAt_of {i : Nat} (co : ∀ i ∈ ([1, 2, 3, 6, 8, 9, 11, 13, 15, 17, 22, 23, 25, 26, 27, 28, 29, 30, 31, 32, 33, 34] : List Nat), (Stmt.dScope (stAt i)).isCoroutine = false ∧ (Stmt.dScope (stAt i)).isGenerator = false ∧ (Stmt.dScope (stAt i)).kind = .function)
    (h : ∃ v, g.mg (defI i).name = some v ∧ (defI i).φ g.h₀ v) (hi : i ∈ ([1, 2, 3, 6, 8, 9, 11, 13, 15, 17, 22, 23, 25, 26, 27, 28, 29, 30, 31, 32, 33, 34] : List Nat)) :
    ∃ a pm cd doc, g.mg (Stmt.dName (stAt i)) = some (.ref a) ∧ DefAt g a (fdOf (stAt i) pm cd doc .none .none) (Stmt.dBody (stAt i)) := by
  obtain ⟨v, h1, a, c', pm, doc, rfl, h2, h3⟩ := h
  obtain ⟨e1, e2, e3⟩ := co i hi
  exact ⟨a, pm, .ref c', doc, h1, ⟨_, h2, rfl⟩, h3, rfl, rfl, e1, e2, e3⟩
theorem bisAt_of {i : Nat} (co : ∀ i ∈ ([1, 2, 3, 6, 8, 9, 11, 13, 15, 17, 22, 23, 25, 26, 27, 28, 29, 30, 31, 32, 33, 34] : List Nat), (Stmt.dScope (stAt i)).isCoroutine = false ∧ (Stmt.dScope (stAt i)).isGenerator = false ∧ (Stmt.dScope (stAt i)).kind = .function)
    (h : ∃ v, g.mg (bisI i).name = some v ∧ (bisI i).φ g.h₀ v) (hi : i ∈ ([1, 2, 3, 6, 8, 9, 11, 13, 15, 17, 22, 23, 25, 26, 27, 28, 29, 30, 31, 32, 33, 34] : List Nat)) :
    ∃ a pm cd doc dT t kD m, g.mg (Stmt.dName (stAt i)) = some (.ref a) ∧ DefAt g a (fdOf (stAt i) pm cd doc (.ref dT) (.ref kD)) (Stmt.dBody (stAt i)) ∧
    g.h₀.IsTuple dT #[.int 0 t, .none] ∧ g.h₀.Ns kD m ∧ m "key" = some .none := by
  obtain ⟨v, h1, a, c', pm, doc, dT, t, kD, m, rfl, h2, h3, h4, h5, h6⟩ := h
  obtain ⟨e1, e2, e3⟩ := co i hi
  exact ⟨a, pm, .ref c', doc, dT, t, kD, m, h1, ⟨⟨_, h2, rfl⟩, h3, rfl, rfl, e1, e2, e3⟩, h4, h5, h6⟩
theorem set_of {x : Str} {l : List Int} (h : ∃ v, g.mg (setF g.w x l).name = some v ∧ (setF g.w x l).φ g.h₀ v) : ∃ a n, g.mg x = some (.ref a) ∧ g.h₀.SetOf (intKind Pg g.w) a (fun k => l.contains k) n := by
  obtain ⟨v, h1, a, n, rfl, h2⟩ := h
  exact ⟨a, n, h1, h2⟩
theorem con_of {x : Str} {i : Int} (h : ∃ v, g.mg (conF x i).name = some v ∧ (conF x i).φ g.h₀ v) : ∃ t, g.mg x = some (.int i t) := by
  obtain ⟨v, h1, t, rfl⟩ := h
  exact ⟨t, h1⟩
theorem tops_of (ok : g.Ok) (bi : ∀ p ∈ bins, g.mg p.1 = none ∧ g.mb p.1 = some p.2)
    (facts : ∀ f ∈ allFacts g.w, ∃ v, g.mg f.name = some v ∧ f.φ g.h₀ v) : Tops g := by
  have co := def_scopes
  refine ⟨ok, bi, fun i hi => ?_, fun p hp => ?_, ?_, fun p hp => ?_, fun i hi => ?_⟩
  · simp only [plainDefs, List.mem_cons, List.not_mem_nil, or_false] at hi
    rcases hi with rfl | rfl | rfl | rfl | rfl | rfl | rfl | rfl | rfl | rfl | rfl | rfl | rfl | rfl | rfl | rfl | rfl | rfl | rfl
    · exact defAt_of co (facts _ (List.mem_of_getElem? (show (allFacts g.w)[26]? = some (defI 6) from rfl))) (by decide)
    · exact defAt_of co (facts _ (List.mem_of_getElem? (show (allFacts g.w)[24]? = some (defI 8) from rfl))) (by decide)
    · exact defAt_of co (facts _ (List.mem_of_getElem? (show (allFacts g.w)[23]? = some (defI 9) from rfl))) (by decide)
    · exact defAt_of co (facts _ (List.mem_of_getElem? (show (allFacts g.w)[21]? = some (defI 11) from rfl))) (by decide)
    · exact defAt_of co (facts _ (List.mem_of_getElem? (show (allFacts g.w)[19]? = some (defI 13) from rfl))) (by decide)
    · exact defAt_of co (facts _ (List.mem_of_getElem? (show (allFacts g.w)[17]? = some (defI 15) from rfl))) (by decide)
    · exact defAt_of co (facts _ (List.mem_of_getElem? (show (allFacts g.w)[15]? = some (defI 17) from rfl))) (by decide)
    · exact defAt_of co (facts _ (List.mem_of_getElem? (show (allFacts g.w)[11]? = some (defI 22) from rfl))) (by decide)
    · exact defAt_of co (facts _ (List.mem_of_getElem? (show (allFacts g.w)[10]? = some (defI 23) from rfl))) (by decide)
    · exact defAt_of co (facts _ (List.mem_of_getElem? (show (allFacts g.w)[9]? = some (defI 25) from rfl))) (by decide)
    · exact defAt_of co (facts _ (List.mem_of_getElem? (show (allFacts g.w)[8]? = some (defI 26) from rfl))) (by decide)
    · exact defAt_of co (facts _ (List.mem_of_getElem? (show (allFacts g.w)[7]? = some (defI 27) from rfl))) (by decide)
    · exact defAt_of co (facts _ (List.mem_of_getElem? (show (allFacts g.w)[6]? = some (defI 28) from rfl))) (by decide)
    · exact defAt_of co (facts _ (List.mem_of_getElem? (show (allFacts g.w)[5]? = some (defI 29) from rfl))) (by decide)
    · exact defAt_of co (facts _ (List.mem_of_getElem? (show (allFacts g.w)[4]? = some (defI 30) from rfl))) (by decide)
    · exact defAt_of co (facts _ (List.mem_of_getElem? (show (allFacts g.w)[3]? = some (defI 31) from rfl))) (by decide)
    · exact defAt_of co (facts _ (List.mem_of_getElem? (show (allFacts g.w)[2]? = some (defI 32) from rfl))) (by decide)
    · exact defAt_of co (facts _ (List.mem_of_getElem? (show (allFacts g.w)[1]? = some (defI 33) from rfl))) (by decide)
    · exact defAt_of co (facts _ (List.mem_of_getElem? (show (allFacts g.w)[0]? = some (defI 34) from rfl))) (by decide)
  · simp only [sets, List.mem_cons, List.not_mem_nil, or_false] at hp
    rcases hp with rfl | rfl | rfl | rfl | rfl
    · exact set_of (facts _ (List.mem_of_getElem? (show (allFacts g.w)[27]? = some (setF g.w "b1_set" b1L) from rfl)))
    · exact set_of (facts _ (List.mem_of_getElem? (show (allFacts g.w)[22]? = some (setF g.w "c6_set" c6L) from rfl)))
    · exact set_of (facts _ (List.mem_of_getElem? (show (allFacts g.w)[20]? = some (setF g.w "c7_set" c7L) from rfl)))
    · exact set_of (facts _ (List.mem_of_getElem? (show (allFacts g.w)[18]? = some (setF g.w "c8_set" c8L) from rfl)))
    · exact set_of (facts _ (List.mem_of_getElem? (show (allFacts g.w)[16]? = some (setF g.w "c9_set" c9L) from rfl)))
  · obtain ⟨v, h1, d, f, rfl, hS, h2, h3⟩ := facts _ (List.mem_of_getElem? (show (allFacts g.w)[25]? = some (dicF g.w "b3_exceptions" b3L) from rfl))
    exact ⟨d, f, h1, hS, h2, h3⟩
  · simp only [consts, List.mem_cons, List.not_mem_nil, or_false] at hp
    rcases hp with rfl | rfl | rfl
    · exact con_of (facts _ (List.mem_of_getElem? (show (allFacts g.w)[14]? = some (conF "_MAX_STRING_SIZE" 40) from rfl)))
    · exact con_of (facts _ (List.mem_of_getElem? (show (allFacts g.w)[13]? = some (conF "_MOVE_COST" 2) from rfl)))
    · exact con_of (facts _ (List.mem_of_getElem? (show (allFacts g.w)[12]? = some (conF "_CASE_COST" 1) from rfl)))
  · simp only [List.mem_cons, List.not_mem_nil, or_false] at hi
    rcases hi with rfl | rfl | rfl
    · exact bisAt_of co (facts _ (List.mem_of_getElem? (show (allFacts g.w)[30]? = some (bisI 1) from rfl))) (by decide)
    · exact bisAt_of co (facts _ (List.mem_of_getElem? (show (allFacts g.w)[29]? = some (bisI 2) from rfl))) (by decide)
    · exact bisAt_of co (facts _ (List.mem_of_getElem? (show (allFacts g.w)[28]? = some (bisI 3) from rfl))) (by decide)
end
end Mine
end
section
open PySem PySem.W PyProof.Rows
set_option Elab.async false
set_option linter.unusedVariables false
set_option maxRecDepth 20000
namespace Mine
structure TopEnd (w : World) (s₀ s : Shared) (mg₀ mb mg : Str → Option Value) : Prop where
  same : ∃ h tk, s = { s₀ with heap := h, toks := tk }
  keep : ∀ b o, b ≠ mainGlobals → s₀.heap.get? b = some o → s.heap.get? b = some o
  g : s.heap.Ns mainGlobals mg
  others : ∀ x, x ∉ (("law" : Str) :: topNames) → mg x = mg₀ x
  law : ∃ a c' P' pm doc, mg "law" = some (.ref a) ∧ s.heap.get? a = some { cls := .type "function", data := .func (defFd (Stmt.dName (stAt 34)) (Stmt.dName (stAt 34)) (Stmt.dParams (stAt 34)) (Stmt.dBody (stAt 34)) (Stmt.dScope (stAt 34)) mainGlobals .none .none none pm (.ref c') doc) } ∧
    s.heap.IsCode c' P' #[] ∧ s.heap.TableAt c' P' #[] ∧ s.heap.CodeRec (.ref c') (Stmt.dName (stAt 34)) ∧ mainGlobals ≠ P' ∧ s.heap.BuiltinsAt mg P' ∧ (∀ b o, s₀.heap.get? b = some o → b ≠ P') ∧ ∀ f ∈ allFacts w, ∃ v, mg f.name = some v ∧ f.φ (s.heap.hide P') v
section
variable {s₀ s : Shared} {mg₀ mg mb : Str → Option Value} {c Pl F : Addr} {n : Nat} {ps : Array Value} {w : World} {A : Around}
theorem law_def {Q : Shared → Prop} (T : TS s₀ mg₀ c Pl topNames (topFacts w) n s mg ps) (hn : n ≤ 180) (h : ∀ s' mg', TopEnd w s₀ s' mg₀ mb mg' → Q s') : WT w A (mainEnv Pg c F) [stAt 34] Q s := by
  obtain ⟨pos, hst, hpos⟩ : ∃ pos, stAt 34 = .FunctionDef (Stmt.dName (stAt 34)) (Stmt.dParams (stAt 34)) (Stmt.dBody (stAt 34)) [] none [] (Stmt.dScope (stAt 34)) none (Stmt.dName (stAt 34)) pos ∧ pos.line = 180 := ⟨_, rfl, rfl⟩
  refine wt_cons ?_
  rw [hst]
  have hno : ∀ f ∈ topFacts w, f.name ≠ Stmt.dName (stAt 34) := ne_of (fn := topFn) rfl (by decide +kernel)
  refine wpAny_defStmt0N rfl rfl (fun e he => (nomatch he)) rfl (by decide +kernel) (by decide +kernel) (by decide +kernel) T.main (fun a c' doc dV vs h' tk ha hm hf hcv hD hcd htb keep => ?_) (by decide +kernel) rfl (T.pl pos (by omega))
  obtain ⟨P', hP', hcode', htab'⟩ := htb
  have hG : mainGlobals < s.heap.objs.size := T.main.g.lt
  have hP : Pl < s.heap.objs.size := T.main.code.lt.2
  have hdV : dV = .none := by
    cases vs with
    | cons _ _ => exact hcv.elim
    | nil =>
      rcases hD with ⟨_, e⟩ | ⟨e, _⟩
      · exact e
      · exact absurd rfl e
  subst hdV
  have haP : a ≠ P' := by
    rintro rfl
    have := hf.symm.trans htab'.2
    cases this
  have hcP : c' ≠ P' := by
    obtain ⟨o, vs, file, tf, flags, tg, inF, text, tt, op, _, _, _, _, _, _, _, _, _, _, hne⟩ := hcode'
    exact hne
  have hGP : mainGlobals ≠ P' := Nat.ne_of_lt (Nat.lt_of_lt_of_le hG hP')
  refine ⟨rfl, wt_nil (h _ _ ⟨?_, fun b o hb e => keep b o ?_ hb (T.keep b o hb e), hm.g, fun x hx => ?_, a, c', P', _, doc, if_pos rfl, hf, hcode', htab', hcd.2, hGP, ?_, fun b o e => ?_, fun f hf' => ?_⟩)⟩
  · obtain ⟨h₂, t₂, rfl⟩ := T.same
    exact ⟨h', tk, rfl⟩
  · rintro rfl
    exact absurd (Heap.lt_size e) (Nat.not_lt.mpr T.new)
  · have h1 : x ≠ Stmt.dName (stAt 34) := fun e => hx (e ▸ .head _)
    show (if x = Stmt.dName (stAt 34) then _ else mg x) = _
    rw [if_neg h1]
    exact T.others x fun h => hx (.tail _ h)
  · obtain ⟨bm, o, h1, h2, h3, h4, h5, h6⟩ := T.main.bmod
    refine ⟨bm, o, ?_, h2, h3, Nat.ne_of_lt (Nat.lt_of_lt_of_le (Heap.lt_size h5) hP'), keep bm o h4 h3 h5, h6⟩
    show (if _ = Stmt.dName (stAt 34) then _ else mg _) = _
    rw [if_neg (by decide +kernel)]
    exact h1
  · by_cases q : b = mainGlobals
    · subst q; exact hGP
    · exact Nat.ne_of_lt (Nat.lt_of_lt_of_le (Heap.lt_size (T.keep b o q e)) hP')
  · rcases List.mem_cons.mp hf' with rfl | hf'
    · refine ⟨.ref a, if_pos rfl, a, c', _, doc, rfl, (Heap.hide_ne h' haP).trans hf, ?_⟩
      obtain ⟨_, c₂, oc, vs₂, t₂, e₂, g₂, r₂⟩ := hcd
      cases e₂
      exact ⟨_, oc, vs₂, t₂, rfl, (Heap.hide_ne h' hcP).trans g₂, r₂⟩
    · obtain ⟨v, h1, h2⟩ := T.facts f hf'
      refine ⟨v, ?_, f.mono _ _ _ (fun b o e => ?_) h2⟩
      · show (if f.name = Stmt.dName (stAt 34) then _ else mg f.name) = _
        rw [if_neg (hno f hf')]
        exact h1
      · obtain ⟨q1, q2, q3⟩ := vis_of e
        exact (Heap.hide_ne h' (Nat.ne_of_lt (Nat.lt_of_lt_of_le (Heap.lt_size q3) hP'))).trans (keep b o q2 q1 q3)
end
/-- the boot's end, for the text that opens ours -/
theorem boot_left (w : World) : (∃ s, AfterImport (opening Pg) w s) ∧ ∀ s, AfterImport (opening Pg) w s → (∃ mb mg c Pl, BootLeft9 (opening Pg) s.heap mb mg c Pl) ∧ s.gens = #[] := by
  have h := AfterImport.of_wp (wpAny_boot9 (M := model (opening Pg) w) (A := {}) (E := fun _ _ => False) (opening Pg) (fun s' => ((∃ mb mg c Pl, BootLeft9 (opening Pg) s'.heap mb mg c Pl) ∧ s'.gens = #[]) ∧ s'.gens = #[])
    (fun hp tk mb mg c Pl F hB => codeAny_body (stmts := []) rfl rfl (wpAny_execs_nil ⟨⟨_, rfl⟩, ⟨⟨mb, mg, c, Pl, hB⟩, rfl⟩, rfl⟩)) rfl _ default boot_in)
  exact h
theorem boot_bins : ∀ p ∈ bins, bootBuiltins p.1 = some p.2 ∧ p.1 ≠ "__name__" := by decide +kernel
theorem boot_set : bootBuiltins "set" = some (.type "set") := by decide +kernel
theorem free_names : ∀ x ∈ (["set", "list", "range", "len", "ord", "chr", "sum", "min"] : List Str), x ∉ bootMainNames := by decide +kernel
theorem base_of {s : Shared} {mb mg : Str → Option Value} {c Pl : Addr} (B : BootLeft9 (opening Pg) s.heap mb mg c Pl) : Base s mg mb := by
  refine ⟨?_, B.b, ⟨_, B.statics, rfl⟩, fun x hx => B.others x (free_names x hx), ?_, fun p hp => ?_⟩
  · obtain ⟨mm, ⟨o, es, ep, ho, _⟩, _⟩ := B.noThreading
    exact ⟨o, ho⟩
  · rw [B.builtins _ (by decide)]
    exact boot_set
  · obtain ⟨h1, h2⟩ := boot_bins p hp
    rw [B.builtins _ h2]
    exact h1
theorem behind_eq : behindTheImports Pg = Pg.main.body := rfl
theorem top_ends {w : World} {s₀ : Shared} {mb mg : Str → Option Value} {c Pl : Addr} (hz : s₀.asleep) (hg : s₀.gens = #[]) (B : BootLeft9 (opening Pg) s₀.heap mb mg c Pl) :
    ∃ s₁, (∃ mg', TopEnd w s₀ s₁ mg mb mg') ∧ s₁.gens = #[] ∧ s₁.heap.life = s₀.heap.life ∧ ∃ n t₁, schedN (denote table) Pg w n (.single s₀ (topStub Pg)) = .running (.single s₁ t₁) ∧ through t₁ = true := by
  refine thread_through (prog := Pg) (R := fun s₁ => ∃ mg', TopEnd w s₀ s₁ mg mb mg') hz ?_
  refine wpAny_bind (wpAny_moduleCode fun c₁ P₁ h₁ tk₁ hk hc hPl hcode => ?_)
  unfold newBodyFrame
  have hG₁ := B.g.keeps hk
  refine wpAny_bind (wpAny_bind (wpAny_nsGet (s := { s₀ with heap := h₁, toks := tk₁ }) hG₁ (wpAny_alloc ?_)))
  refine wpAny_bind (wpAny_run ?_)
  rw [behind_eq]
  have hlt : mainGlobals < s₀.heap.objs.size := B.g.lt
  obtain ⟨bm, o, b1, b2, b3, b4, b5, b6⟩ := B.bmod
  have T : ∀ ob, TS s₀ mg c₁ P₁ [] [] 0 { s₀ with heap := h₁.push ob, toks := tk₁ } mg #[] := fun ob =>
    ⟨⟨_, _, rfl⟩, ⟨hG₁.push _, hcode.push _, ⟨Nat.lt_of_lt_of_le hlt hc, Nat.lt_of_lt_of_le hlt hPl⟩, ⟨bm, o, b1, b2, b3, Nat.ne_of_lt (Nat.lt_of_lt_of_le (Heap.lt_size b5) hPl), Heap.get?_push_of_some _ (hk _ _ b5), b6⟩⟩, fun pos _ => rfl, fun b o _ e => Heap.get?_push_of_some _ (hk b o e), hPl, fun x _ => rfl, fun f hf => (nomatch hf)⟩
  refine codeAny_body (by decide +kernel) rfl ?_
  refine wpAny_mono (top_walk (w := w) (Q := fun s₁ => ∃ mg', TopEnd w s₀ s₁ mg mb mg') (base_of B) rfl (T _) fun n s' mg' ps' hn T' => law_def (mb := mb) T' hn fun s'' mg'' X => ⟨mg'', X⟩).run (fun f s' ⟨e, X⟩ => ?_) fun _ _ x => x.elim
  subst e
  refine wpAny_pure ⟨⟨_, rfl⟩, X, ?_⟩
  obtain ⟨mg', X⟩ := X
  obtain ⟨h, tk, rfl⟩ := X.same
  exact hg
end Mine
end
section
open PySem PySem.W PyProof.Rows
set_option Elab.async false
set_option linter.unusedVariables false
set_option maxRecDepth 20000
namespace Mine
theorem names_bound : ∀ x ∈ (("law" : Str) :: topNames), x ∈ Pg.boundNames := by decide +kernel
theorem boot_startup : ∀ x ∈ bootMainNames, x ∈ startupNames := by decide +kernel
theorem laid_free : ∀ x ∈ laidNames, x ∉ (("law" : Str) :: topNames) := by decide +kernel
theorem built_free : ("__builtins__" : Str) ∉ (("law" : Str) :: topNames) := by decide +kernel
theorem ns_keep {s₀ s : Heap} {a : Addr} {m : Str → Option Value} (ha : a ≠ mainGlobals) (k : ∀ b o, b ≠ mainGlobals → s₀.get? b = some o → s.get? b = some o) (h : s₀.Ns a m) : s.Ns a m := h.at fun o => k _ o ha
theorem no_law_left {x : Str} {P : Prop} (h : x ∉ (("law" : Str) :: topNames) → P) (h' : x ∈ (("law" : Str) :: topNames) → P) : P := by
  by_cases q : x ∈ (("law" : Str) :: topNames)
  · exact h' q
  · exact h q
theorem top_ran {w : World} {s₀ s₁ : Shared} {mb mg mg' : Str → Option Value} {c Pl : Addr} (B : BootLeft9 (opening Pg) s₀.heap mb mg c Pl) (X : TopEnd w s₀ s₁ mg mb mg') (hg : s₁.gens = #[]) (hl : s₁.heap.life = s₀.heap.life)
    (run : ∃ n t₁, schedN (denote table) Pg w n (.single s₀ (topStub Pg)) = .running (.single s₁ t₁) ∧ through t₁ = true) : TopRan Pg w s₀ s₁ := by
  have hS : s₁.heap.Ns cStatics fun _ => none := ns_keep (by decide) X.keep B.statics
  have hB : s₁.heap.Ns builtinsNs mb := ns_keep (by decide) X.keep B.b
  refine ⟨run, hl, ?_, fun b o e hb => X.keep b o (fun q => hb (.inl q)) e, fun key v e => ?_, fun key => .inl ?_, Pin.keysAreStrs_of_ns X.g, fun x hx => (Pin.builtinOf_of_ns hB x).trans (B.builtins x hx), ?_, ?_, fun x v e => ?_, fun x hx => ?_⟩
  · obtain ⟨h, tk, rfl⟩ := X.same
    rfl
  · rw [Pin.staticOf_of_ns hS] at e
    cases e
  · rw [Pin.staticOf_of_ns hS, Pin.staticOf_of_ns B.statics]
  · obtain ⟨bm, o, b1, b2, b3, b4, b5, b6⟩ := B.bmod
    exact ⟨bm, o, (Claim2Try.globalOf_of_ns X.g _).trans ((X.others _ built_free).trans b1), X.keep bm o b3 b5, b6.1, b6.2.1⟩
  · rw [hg]
    intro g hg
    simp at hg
  · rw [Claim2Try.globalOf_of_ns X.g] at e
    by_cases q : x ∈ (("law" : Str) :: topNames)
    · exact .inr (names_bound x q)
    · rw [X.others x q] at e
      by_cases q' : x ∈ bootMainNames
      · exact .inl (boot_startup x q')
      · rw [B.others x q'] at e
        cases e
  · rw [Claim2Try.globalOf_of_ns X.g, Claim2Try.globalOf_of_ns B.g, X.others x (laid_free x hx)]
theorem law_written : Pg.theDef "law" = some (Stmt.dParams (stAt 34), Stmt.dBody (stAt 34), Stmt.dScope (stAt 34)) := rfl
theorem law_pinned {w : World} {s₀ s₁ : Shared} {mb mg mg' : Str → Option Value} (X : TopEnd w s₀ s₁ mg mb mg') : isTheDefsW Pg s₁.heap "law" := by
  obtain ⟨a, c', P', pm, doc, h1, h2, _⟩ := X.law
  refine ⟨a, _, _, _, _, _, (Claim2Try.globalOf_of_ns X.g _).trans h1, h2, rfl, law_written, rfl, rfl, rfl, rfl, rfl, rfl, rfl, rfl, .inl ⟨rfl, rfl⟩, [], rfl, .inl ⟨rfl, rfl⟩⟩
end Mine
end
section
open PySem PySem.W PyProof.Rows
set_option Elab.async false
set_option linter.unusedVariables false
set_option maxRecDepth 20000
namespace Mine
theorem bins_free : ∀ p ∈ bins, p.1 ∉ (("law" : Str) :: topNames) ∧ p.1 ∈ (["set", "list", "range", "len", "ord", "chr", "sum", "min"] : List Str) := by decide +kernel
theorem law_called {w : World} {s₀ s t : Shared} {mb mg mg' : Str → Option Value} {c Pl : Addr} (B : BootLeft9 (opening Pg) s₀.heap mb mg c Pl) (X : TopEnd w s₀ s mg mb mg') (k : ∀ b o, s.heap.get? b = some o → t.heap.get? b = some o)
    {sc : List Int} (hsc : sc.length ≤ 63) {v : Value} (hv : Val (fun _ => False) t.heap (.list (sc.map .int)) v) {Q E : Value → Shared → Prop}
    (h : ∀ s', (∃ hp tk, s' = { t with heap := hp, toks := tk }) → OldK t.heap s'.heap → Q (.bool true) s') :
    ∃ f, mg' "law" = some f ∧ wpAny (model Pg w) callerA (call f [v]) Q E t := by
  obtain ⟨a, c', P', pm, doc, h1, h2, hcode, htab, hrec, hGP, hbl, hnew, facts⟩ := X.law
  refine ⟨.ref a, h1, ?_⟩
  have D₀ := base_of B
  have haP : a ≠ P' := by
    rintro rfl
    have := h2.symm.trans htab.2
    cases this
  have hcP : c' ≠ P' := by
    obtain ⟨o, vs, file, tf, flags, tg, inF, text, tt, op, _, _, _, _, _, _, _, _, _, _, hne⟩ := hcode
    exact hne
  have up : ∀ b o, b ≠ P' → s.heap.get? b = some o → (t.heap.hide P').get? b = some o := fun b o hb e => (Heap.hide_ne t.heap hb).trans (k b o e)
  have up₀ : ∀ b o, b ≠ mainGlobals → s₀.heap.get? b = some o → (t.heap.hide P').get? b = some o := fun b o hb e => up b o (hnew b o e) (X.keep b o hb e)
  have upH : ∀ b o, (s.heap.hide P').get? b = some o → (t.heap.hide P').get? b = some o := fun b o e => by
    obtain ⟨q1, q2⟩ := Mine.Heap.hide_of e
    exact up b o q1 q2
  have ok : (⟨w, t.heap.hide P', mg', mb⟩ : G).Ok := by
    refine ⟨X.g.at fun o e => up _ o hGP e, B.b.at fun o e => up₀ _ o (by decide) e, ?_⟩
    obtain ⟨mc, hm, hn⟩ := D₀.nl
    exact ⟨mc, hm.at fun o e => up₀ _ o (by decide) e, hn⟩
  have T : Tops (⟨w, t.heap.hide P', mg', mb⟩ : G) := by
    refine tops_of ok (fun p hp => ?_) fun f hf => ?_
    · obtain ⟨q1, q2⟩ := bins_free p hp
      exact ⟨(X.others _ q1).trans (D₀.free _ q2), D₀.bins p hp⟩
    · obtain ⟨v, e1, e2⟩ := facts f hf
      exact ⟨v, e1, f.mono _ _ _ upH e2⟩
  have co := def_scopes 34 (by decide)
  have D : DefAt (⟨w, t.heap.hide P', mg', mb⟩ : G) a (lawD pm (.ref c') doc) (Stmt.dBody (stAt 34)) := by
    refine ⟨⟨_, up _ _ haP h2, rfl⟩, ?_, rfl, rfl, co.1, co.2.1, co.2.2⟩
    obtain ⟨c₂, oc, vs₂, t₂, e₂, g₂, r₂⟩ := hrec
    cases e₂
    exact ⟨_, oc, vs₂, t₂, rfl, up _ _ hcP g₂, r₂⟩
  have hh : CodeHd (t.heap.hide P') c' P' := by
    have q := CodeHd.of hcode htab
    obtain ⟨o, vs, file, tf, flags, tg, inF, text, tt, r1, r⟩ := q
    exact ⟨o, vs, file, tf, flags, tg, inF, text, tt, up _ _ hcP r1, r⟩
  have hb : (t.heap.hide P').BuiltinsAt mg' P' := by
    obtain ⟨bm, o, b1, b2, b3, b4, b5, b6⟩ := hbl
    exact ⟨bm, o, b1, b2, b3, b4, up _ _ b4 b5, b6⟩
  have hP : t.heap.get? P' = some (tabObj #[]) := k _ _ htab.2
  refine law_run (g := ⟨w, t.heap.hide P', mg', mb⟩) T D ⟨rfl, by decide, by decide⟩ hsc (law_all sc) hP (fun _ _ e => e) hv rfl hh hb hGP ⟨⟨#[], by simp⟩, trivial, fun pos _ => .inl rfl⟩ fun s' tb' hs hk hP'' ⟨more, hm⟩ => h s' hs ⟨fun b o e => ?_, fun b o e => ?_⟩
  · by_cases q : b = P'
    · subst q
      obtain rfl : tabObj #[] = o := Option.some.inj (hP.symm.trans e)
      refine .inr (.inl ⟨(htab.keeps k).isCodeTable, rfl, #[], more, rfl, ?_⟩)
      rw [hP'', hm]
    · exact .inl (hk b o q e)
  · by_cases q : b = P'
    · subst q; exact ⟨_, hP''⟩
    · exact ⟨o, hk b o q e⟩
theorem ints_laid {R : WRecords} {cl : Str → Option Addr} {P : Params} {ord : List DictEntry → List DictEntry} : ∀ (sc : List Int) (s : Shared) (r : List Value × Shared), layAllW R cl P ord (sc.map .int) s = some r → ∀ hid hp, Vals hid hp (sc.map .int) r.1
  | [], s, r, h => by
    intro hid hp
    simp only [List.map_nil, layAllW, Option.some.injEq] at h
    subst h
    exact Vals.nil
  | i :: sc, s, r, h => by
    intro hid hp
    simp only [List.map_cons] at h
    obtain ⟨a, q, ha, hq, rfl⟩ := layAllW_cons h
    simp only [layW, Option.some.injEq] at ha
    subst ha
    exact Vals.cons ⟨_, rfl⟩ (ints_laid sc _ q hq hid hp)
theorem list_laid {R : WRecords} {cl : Str → Option Addr} {P : Params} {ord : List DictEntry → List DictEntry} {sc : List Int} {s t : Shared} {vs : List Value} (h : layAllW R cl P ord [.list (sc.map .int)] s = some (vs, t)) :
    ∃ v, vs = [v] ∧ Val (fun _ => False) t.heap (.list (sc.map .int)) v := by
  obtain ⟨a, q, ha, hq, e⟩ := layAllW_cons h
  simp only [layAllW, Option.some.injEq] at hq
  subst hq
  obtain ⟨r, hr, rfl⟩ := layW_list ha
  cases e
  refine ⟨_, rfl, ?_⟩
  simp only [Val]
  exact ⟨_, r.1.toArray, rfl, fun q => q, ⟨_, Heap.get?_push_size _ rfl⟩, ints_laid sc s r hr _ _⟩
theorem ints_of {R : WRecords} : ∀ {xs : List WData}, (∀ d ∈ xs, WShape.has R d .int = true) → ∃ sc : List Int, xs = sc.map .int
  | [], _ => ⟨[], rfl⟩
  | x :: xs, h => by
    obtain ⟨i, rfl⟩ := hasW_int (h x (.head _))
    obtain ⟨sc, rfl⟩ := ints_of fun d hd => h d (.tail _ hd)
    exact ⟨i :: sc, rfl⟩
abbrev lawR : RowW := PySem.Challenge.rw_qu0067_01.row.toRowW
theorem args_of {args : List WData} (h : lawR.claim.pre args = true) : ∃ sc : List Int, args = [.list (sc.map .int)] ∧ sc.length ≤ 63 := by
  obtain ⟨h1, h2⟩ := pre_splitW h
  obtain ⟨d, r, rfl, hd, hr⟩ := hasAllW_cons h1
  obtain rfl := hasAllW_nil hr
  obtain ⟨xs, rfl, hx⟩ := hasW_list hd
  obtain ⟨sc, rfl⟩ := ints_of (hasItemsW_at hx)
  refine ⟨sc, rfl, ?_⟩
  have e : (PySem.Challenge.rw_qu0067_01.row.toRowW.pre).value lawR.records { args := [.list (sc.map .int)] } = some (.bool ((!decide ((63 : Int) < ((sc.map WData.int).length : Int))) && true)) :=
    w_and (w_not (w_lt w_lit (w_len_list (w_arg rfl)))) w_lit
  unfold WTm.holds at h2
  rw [e] at h2
  have hl : (sc.map WData.int).length = sc.length := List.length_map ..
  rw [hl] at h2
  by_cases q : (63 : Int) < (sc.length : Int)
  · rw [decide_eq_true q] at h2
    cases h2
  · omega
end Mine
end
section
open PySem PySem.W PyProof.Rows
set_option Elab.async false
set_option linter.unusedVariables false
set_option maxRecDepth 20000
namespace Mine
theorem pg_bare : Pg.bare := ⟨rfl, rfl, rfl, rfl, rfl, by decide +kernel⟩
theorem pg_opens : opensWell Pg = true := by decide +kernel
theorem pg_noImports : bearImports Pg.main.body = false := by decide +kernel
theorem law_promised : lawR.promised := ⟨[.list []], by decide +kernel, by decide +kernel⟩
theorem law_true (args : List WData) : lawR.claim.post args (.bool true) args = true :=
  postC_of (r := lawR) (by simp [lawR, PySem.W.OpenLaw.row, WShape.has, WShape.arms]) (w_eq_bool (w_res rfl) w_lit) rfl
theorem law_open : lawR.claim.HoldsOpenBy (callStub "law") ["law"] PySem.Challenge.rw_qu0067_01.row.keeps false := by
  refine ⟨⟨pg_bare, pg_opens, rfl⟩, law_promised.witness, fun w => ?_⟩
  obtain ⟨hex, hall⟩ := boot_left w
  refine ⟨hex, fun s₀ hs => ?_⟩
  obtain ⟨⟨mb, mg, c, Pl, B⟩, hg₀⟩ := hall s₀ hs
  have hz : s₀.asleep := AfterImport.life hs
  obtain ⟨s, ⟨mg', X⟩, hg, hl, run⟩ := top_ends (w := w) hz hg₀ B
  have hzs : s.asleep := Shared.asleep_of_life hl hz
  refine ⟨s₀, fenceModules_id Pg pg_noImports s₀, hg₀, s, top_ran B X hg hl run, fun n hn => ?_, fun x hx => (nomatch hx), fun x hx => (nomatch hx), ?_⟩
  · rw [List.mem_singleton] at hn
    subst hn
    exact law_pinned X
  refine ClaimW.callFrom_of_specG (c := lawR.claim) hzs hg fun args hpre hlay ord hord => ?_
  have hfit := (pre_splitW hpre).1
  obtain ⟨sc, rfl, hsc⟩ := args_of hpre
  obtain ⟨⟨vs, s₁⟩, hlaid⟩ := Option.isSome_iff_exists.mp (layAllW_isSome (P := w.params) (ord := ord) (cl := classAt s.heap) (R := lawR.claim.records) (fun c hc => nomatch hc) _ lawR.args s hfit)
  have keeps := layAllW_keeps _ _ _ hlaid
  have hal := layAllW_rest _ _ _ hlaid
  obtain ⟨as, hrd, hin, hold⟩ := reads_layAllW hord _ _ _ hlaid hlay s₁.heap (fun _ _ e => e)
  have L : Laid lawR.claim.records w s s₁ [.list (sc.map .int)] vs as := ⟨⟨ord, hord, hlaid⟩, hrd, hin, hold, keeps, hal.1.trans hg, hal.2.2.1⟩
  obtain ⟨v, rfl, hv⟩ := list_laid hlaid
  refine ⟨[v], s₁, hlaid, ?_⟩
  have hi := ident_freeW (r := lawR) rfl rfl rfl
  obtain ⟨f, hf, h⟩ := law_called (t := s₁) B X keeps hsc hv (E := fun e s' => lawR.claim.Ends s [.list (sc.map .int)] [v] s₁ (.error e) s' ∧ s'.os = s.os ∧ AllBare s'.gens ∧ (false = true → namesKept Pg PySem.Challenge.rw_qu0067_01.row.keeps s.heap s'.heap ∧ ∀ x ∈ lawR.claim.records, ∀ a, classAt s.heap x.1 = some a → recordClass s'.heap a x.1 (x.2.map (·.1)) = true))
    (Q := fun v' s' => lawR.claim.Ends s [.list (sc.map .int)] [v] s₁ (.ok (.ret v')) s' ∧ s'.os = s.os ∧ AllBare s'.gens ∧ (false = true → namesKept Pg PySem.Challenge.rw_qu0067_01.row.keeps s.heap s'.heap ∧ ∀ x ∈ lawR.claim.records, ∀ a, classAt s.heap x.1 = some a → recordClass s'.heap a x.1 (x.2.map (·.1)) = true))
    (fun s' ⟨hp, tk, e⟩ hK => by
      have g : GoodWG lawR.claim (classAt s.heap) (ExcName.means s.heap) [.list (sc.map .int)] s₁ (.ok (.ret (.bool true))) s' := by
        subst e
        exact ⟨.inl ⟨_, .bool true, [], rfl, fun cls => rfl, .bool _, law_true _, fun _ => ⟨List.nodup_nil, fun a ha => nomatch ha⟩⟩, hK, rfl, .of_eq L.gens⟩
      have z := GoodWG.laid (c := lawR.claim) (s₀ := s) rfl rfl hi L g
      exact ⟨z.1, z.2.1, z.2.2, fun q => by cases q⟩)
  refine wpAny_bind (wpAny_nsGet (X.g.at fun o e => keeps _ o e) ?_)
  rw [hf]
  exact wpAny_bind (wpAny_mono h (fun v' s' x => wpAny_pure ⟨_, rfl, x⟩) fun _ _ x => x)
end Mine
end
section
open PySem PySem.W PyProof.Rows
set_option Elab.async false
namespace Mine
set_option maxRecDepth 100000 in
set_option maxHeartbeats 8000000 in
/-- the looks at the text, each by the kernel alone (o_law's own terms made the compiled file too big) -/
theorem law_said : PySem.Challenge.rw_qu0067_01.wellSaid = true := by
  unfold OpenLaw.wellSaid OpenRow.wellSaid OpenRow.partSaid looksOpen
  repeat' with_reducible refine look_both ?_ ?_
  all_goals decide +kernel
end Mine
end
open PySem PySem.W PyProof.Rows
theorem PySem.Challenge.cw_qu0067_01_holds : PySem.Challenge.rw_qu0067_01.Holds := by
  exact holds_law Mine.law_said fun said => ⟨said, Mine.law_promised, Mine.law_open⟩
