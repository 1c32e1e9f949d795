import PyProof.Rows.All
import Wide.All
import OpenK.AllK
import Wide.FinOn
import PySem.Challenge.RW_dm0162_06
set_option maxRecDepth 100000
set_option Elab.async false
set_option linter.unusedVariables false
set_option maxHeartbeats 8000000
namespace Mine
open PySem PySem.W PyProof.Rows PySem.Spec

/-- objects off D stay -/
def Agree (D : Addr → Prop) (h h' : Heap) : Prop := (∀ b o, h.get? b = some o → ∃ o', h'.get? b = some o') ∧ ∀ b o, ¬ D b → h.get? b = some o → h'.get? b = some o
theorem Agree.refl {D : Addr → Prop} {h : Heap} : Agree D h h := ⟨fun _ o e => ⟨o, e⟩, fun _ _ _ e => e⟩
theorem Agree.trans {D : Addr → Prop} {h h₁ h₂ : Heap} (x : Agree D h h₁) (y : Agree D h₁ h₂) : Agree D h h₂ := ⟨fun b o e => let ⟨o', e'⟩ := x.1 b o e; y.1 b o' e', fun b o n e => y.2 b o n (x.2 b o n e)⟩
theorem Agree.wk {D D' : Addr → Prop} {h h' : Heap} (x : Agree D h h') (s : ∀ a, D a → D' a) : Agree D' h h' := ⟨x.1, fun b o n e => x.2 b o (fun q => n (s b q)) e⟩
theorem Agree.push {D : Addr → Prop} {h : Heap} (o : Obj) : Agree D h (h.push o) := ⟨fun _ o' e => ⟨o', Heap.get?_push_of_some o e⟩, fun _ _ _ e => Heap.get?_push_of_some o e⟩
theorem Agree.ext {D : Addr → Prop} {h h' : Heap} (k : ∀ b o, h.get? b = some o → h'.get? b = some o) : Agree D h h' := ⟨fun b o e => ⟨o, k b o e⟩, fun b o _ e => k b o e⟩
theorem Agree.same {D : Addr → Prop} {h h' : Heap} {a : Addr} {o' : Obj} (x : Heap.SameBut a h h') (e' : h'.get? a = some o') (d : D a) : Agree D h h' := ⟨fun b o e => if q : b = a then ⟨o', q ▸ e'⟩ else ⟨o, (x.2 b q).trans e⟩, fun b _ n e => (x.2 b (fun q => n (q ▸ d))).trans e⟩

/-- fresh in the heap -/
theorem fresh_none {h : Heap} {a : Addr} (l : h.objs.size ≤ a) : h.get? a = none := by
  cases e : h.get? a with
  | none => rfl
  | some o => exact absurd (Heap.lt_size e) (Nat.not_lt.mpr l)

/-- what a value is, off the places that may change -/
structure Ty where
  P : (Addr → Prop) → Heap → Value → Prop
  mono₀ : ∀ {O : Addr → Prop} {h h' : Heap} {v : Value}, P O h v → (∀ b o, ¬ O b → h.get? b = some o → h'.get? b = some o) → P O h' v
  re : ∀ {O O' : Addr → Prop} {h : Heap} {v : Value}, (∀ a o, h.get? a = some o → O' a → O a) → P O h v → P O' h v
theorem Ty.mono (T : Ty) {O : Addr → Prop} {h h' : Heap} {v : Value} (p : T.P O h v) (g : Agree O h h') : T.P O h' v := T.mono₀ p g.2

mutual
inductive Rep (O : Addr → Prop) (h : Heap) : Value → PyData → Prop
  | none : Rep O h .none .none
  | bool (b : Bool) : Rep O h (.bool b) (.bool b)
  | int (i : Int) (t : Tok) : Rep O h (.int i t) (.int i)
  | str (x : Str) (t : Tok) : Rep O h (.str x t) (.str x)
  | tuple {a : Addr} {vs : Array Value} {ds : List PyData} : ¬ O a → h.IsTuple a vs → RepL O h vs.toList ds → Rep O h (.ref a) (.tuple ds)
  | list {a : Addr} {vs : Array Value} {ds : List PyData} : ¬ O a → h.IsList a vs → RepL O h vs.toList ds → Rep O h (.ref a) (.list ds)
inductive RepL (O : Addr → Prop) (h : Heap) : List Value → List PyData → Prop
  | nil : RepL O h [] []
  | cons {v : Value} {vs : List Value} {d : PyData} {ds : List PyData} : Rep O h v d → RepL O h vs ds → RepL O h (v :: vs) (d :: ds)
end


theorem IsTuple_keep {h h' : Heap} {a : Addr} {vs : Array Value} (x : h.IsTuple a vs) (g : ∀ o, h.get? a = some o → h'.get? a = some o) : h'.IsTuple a vs := let ⟨o, e, r⟩ := x; ⟨o, g o e, r⟩
theorem IsList_keep {h h' : Heap} {a : Addr} {vs : Array Value} (x : h.IsList a vs) (g : ∀ o, h.get? a = some o → h'.get? a = some o) : h'.IsList a vs := let ⟨o, e, r⟩ := x; ⟨o, g o e, r⟩
theorem PL_agree {D : Addr → Prop} {h h' : Heap} {a : Addr} {vs : Array Value} (x : h.PlainList a vs) (g : Agree D h h') (n : ¬ D a) : h'.PlainList a vs := let ⟨k, e⟩ := x; ⟨k, g.2 a _ n e⟩
theorem PL_keep {h h' : Heap} {a : Addr} {vs : Array Value} (x : h.PlainList a vs) (g : ∀ o, h.get? a = some o → h'.get? a = some o) : h'.PlainList a vs := let ⟨k, e⟩ := x; ⟨k, g _ e⟩
mutual
theorem Rep.mono₀ {O : Addr → Prop} {h h' : Heap} (g : ∀ b o, ¬ O b → h.get? b = some o → h'.get? b = some o) : ∀ {v : Value} {d : PyData}, Rep O h v d → Rep O h' v d
  | _, _, .none => .none
  | _, _, .bool b => .bool b
  | _, _, .int i t => .int i t
  | _, _, .str x t => .str x t
  | _, _, .tuple n e r => .tuple n (IsTuple_keep e fun o => g _ o n) (RepL.mono₀ g r)
  | _, _, .list n e r => .list n (IsList_keep e fun o => g _ o n) (RepL.mono₀ g r)
theorem RepL.mono₀ {O : Addr → Prop} {h h' : Heap} (g : ∀ b o, ¬ O b → h.get? b = some o → h'.get? b = some o) : ∀ {v : List Value} {d : List PyData}, RepL O h v d → RepL O h' v d
  | _, _, .nil => .nil
  | _, _, .cons x r => .cons (Rep.mono₀ g x) (RepL.mono₀ g r)
end
theorem Rep.mono {O : Addr → Prop} {h h' : Heap} {v : Value} {d : PyData} (g : Agree O h h') (x : Rep O h v d) : Rep O h' v d := x.mono₀ g.2
theorem RepL.mono {O : Addr → Prop} {h h' : Heap} {v : List Value} {d : List PyData} (g : Agree O h h') (x : RepL O h v d) : RepL O h' v d := x.mono₀ g.2
mutual
theorem Rep.re {O O' : Addr → Prop} {h : Heap} (g : ∀ a o, h.get? a = some o → O' a → O a) : ∀ {v : Value} {d : PyData}, Rep O h v d → Rep O' h v d
  | _, _, .none => .none
  | _, _, .bool b => .bool b
  | _, _, .int i t => .int i t
  | _, _, .str x t => .str x t
  | _, _, .tuple n e r => .tuple (fun q => n (let ⟨o, k, _⟩ := e; g _ o k q)) e (RepL.re g r)
  | _, _, .list n e r => .list (fun q => n (let ⟨o, k, _⟩ := e; g _ o k q)) e (RepL.re g r)
theorem RepL.re {O O' : Addr → Prop} {h : Heap} (g : ∀ a o, h.get? a = some o → O' a → O a) : ∀ {v : List Value} {d : List PyData}, RepL O h v d → RepL O' h v d
  | _, _, .nil => .nil
  | _, _, .cons x r => .cons (Rep.re g x) (RepL.re g r)
end
mutual
theorem Rep.reads {O : Addr → Prop} {h : Heap} : ∀ {v : Value} {d : PyData}, Rep O h v d → ∃ as, Reads h v d as
  | _, _, .none => ⟨_, .none⟩
  | _, _, .bool b => ⟨_, .bool b⟩
  | _, _, .int i t => ⟨_, .int i t⟩
  | _, _, .str x t => ⟨_, .str x t⟩
  | _, _, .tuple _ ⟨_, e, c, _, s⟩ r => let ⟨_, q⟩ := RepL.reads r; ⟨_, .tuple e c s q⟩
  | _, _, .list _ ⟨_, e, c, _, s⟩ r => let ⟨_, q⟩ := RepL.reads r; ⟨_, .list e c s q⟩
theorem RepL.reads {O : Addr → Prop} {h : Heap} : ∀ {v : List Value} {d : List PyData}, RepL O h v d → ∃ as, ReadsAll h v d as
  | _, _, .nil => ⟨_, .nil⟩
  | _, _, .cons x r => let ⟨_, p⟩ := Rep.reads x; let ⟨_, q⟩ := RepL.reads r; ⟨_, .cons p q⟩
end
theorem RepL.length {O : Addr → Prop} {h : Heap} : ∀ {vs : List Value} {ds : List PyData}, RepL O h vs ds → vs.length = ds.length
  | _, _, .nil => rfl
  | _, _, .cons _ r => by rw [List.length_cons, List.length_cons, RepL.length r]
theorem RepL.append {O : Addr → Prop} {h : Heap} : ∀ {vs ws : List Value} {ds es : List PyData}, RepL O h vs ds → RepL O h ws es → RepL O h (vs ++ ws) (ds ++ es)
  | _, _, _, _, .nil, k => k
  | _, _, _, _, .cons x r, k => .cons x (RepL.append r k)
theorem RepL.get {O : Addr → Prop} {h : Heap} : ∀ {vs : List Value} {ds : List PyData} {k : Nat} {d : PyData}, RepL O h vs ds → ds[k]? = some d → ∃ v, vs[k]? = some v ∧ Rep O h v d
  | _, _, _, _, .nil, e => by cases e
  | _, _, 0, _, .cons x _, e => ⟨_, rfl, by cases e; exact x⟩
  | _, _, k + 1, _, .cons _ r, e => RepL.get (k := k) r e
theorem RepL.take {O : Addr → Prop} {h : Heap} : ∀ {vs : List Value} {ds : List PyData} (n : Nat), RepL O h vs ds → RepL O h (vs.take n) (ds.take n)
  | _, _, 0, _ => .nil
  | _, _, _ + 1, .nil => .nil
  | _, _, n + 1, .cons x r => .cons x (RepL.take n r)
theorem RepL.drop {O : Addr → Prop} {h : Heap} : ∀ {vs : List Value} {ds : List PyData} (n : Nat), RepL O h vs ds → RepL O h (vs.drop n) (ds.drop n)
  | _, _, 0, r => r
  | _, _, _ + 1, .nil => .nil
  | _, _, n + 1, .cons _ r => RepL.drop n r

/-- the type of a datum -/
abbrev dt (d : PyData) : Ty := ⟨fun O h v => Rep O h v d, fun x g => x.mono₀ g, fun g x => x.re g⟩
/-- just this value -/
abbrev eqT (v₀ : Value) : Ty := ⟨fun _ _ v => v = v₀, fun x _ => x, fun _ x => x⟩

/-- a fact on the heap, off the places that may change but for X's -/
structure HInv (X : Addr → Prop) where
  P : (Addr → Prop) → Heap → Prop
  mono₀ : ∀ {O : Addr → Prop} {h h' : Heap}, P O h → (∀ b o, ¬ (O b ∧ ¬ X b) → h.get? b = some o → h'.get? b = some o) → P O h'
  re : ∀ {O O' : Addr → Prop} {h : Heap}, (∀ a o, h.get? a = some o → O' a → O a) → P O h → P O' h
  upL : ∀ {O : Addr → Prop} {h : Heap} {a : Addr} {items : Array Value}, P O h → h.PlainList a items → P (fun b => O b ∨ b = a) h
theorem HInv.mono {X : Addr → Prop} (I : HInv X) {O : Addr → Prop} {h h' : Heap} (p : I.P O h) (g : Agree (fun a => O a ∧ ¬ X a) h h') : I.P O h' := I.mono₀ p g.2

/-- what stands for a whole law -/
structure Wd where
  prog : Program
  w : World
  K : Frag
  g : Heap
  X : Addr → Prop
  I : HInv X
  gs : List (Str × Value)

/-- a global name's value, by the written part -/
def GlobV (K : Frag) (x : Str) (v : Value) : Prop := nsIn K mainGlobals x = some (some v) ∨ (nsIn K mainGlobals x = some none ∧ bootBuiltins x = some v ∧ x ≠ "__name__")

structure Wd.Ok (W : Wd) : Prop where
  kin : W.K.In W.g
  top : ∃ p loose mg mb, TopRead p loose mg mb W.g
  hx : ∀ a, W.X a → W.g.get? a = none
  gl : ∀ x v, W.gs.lookup x = some v → GlobV W.K x v

structure Base (W : Wd) (O : Addr → Prop) (h : Heap) : Prop where
  keep : ∀ b o, W.g.get? b = some o → h.get? b = some o
  sub : ∀ a, W.X a → O a
  old : ∀ a, O a → W.g.get? a = none
  ex : ∀ a, O a → ∃ o, h.get? a = some o
  inv : W.I.P O h

/-- what an evaluation leaves -/
structure Step (W : Wd) (O : Addr → Prop) (h h' : Heap) : Prop where
  ag : Agree W.X h h'
  inv : W.I.P O h → W.I.P O h'

theorem Step.refl {W : Wd} {O : Addr → Prop} {h : Heap} : Step W O h h := ⟨.refl, id⟩
theorem Step.trans {W : Wd} {O : Addr → Prop} {h h₁ h₂ : Heap} (x : Step W O h h₁) (y : Step W O h₁ h₂) : Step W O h h₂ := ⟨x.ag.trans y.ag, fun q => y.inv (x.inv q)⟩
theorem Step.of_ext {W : Wd} {O : Addr → Prop} {h h' : Heap} (k : ∀ b o, h.get? b = some o → h'.get? b = some o) : Step W O h h' := ⟨.ext k, fun q => W.I.mono q (.ext k)⟩
theorem Step.push {W : Wd} {O : Addr → Prop} {h : Heap} (o : Obj) : Step W O h (h.push o) := .of_ext fun _ _ e => Heap.get?_push_of_some o e
theorem Step.agO {W : Wd} {O : Addr → Prop} {h h' : Heap} (x : Step W O h h') (b : Base W O h) : Agree O h h' := x.ag.wk b.sub

theorem Base.step {W : Wd} {O : Addr → Prop} {h h' : Heap} (ok : W.Ok) (x : Base W O h) (y : Step W O h h') : Base W O h' :=
  ⟨fun b o e => y.ag.2 b o (fun q => by rw [ok.hx b q] at e; cases e) (x.keep b o e), x.sub, x.old, fun a q => let ⟨o, e⟩ := x.ex a q; y.ag.1 a o e, y.inv x.inv⟩

/-- a frame's context -/
structure Cx where
  W : Wd
  A : Around
  env : Env
  lv : Nat
  names : List (Str × NameKind)

abbrev Cx.M (C : Cx) : Model := model C.W.prog C.W.w

structure Cx.Ok (C : Cx) : Prop where
  w : C.W.Ok
  hd : C.A.handled = none
  dep : C.A.depth + C.lv < recursionLimit
  un : C.A.units + 100 * C.lv + 200 < cLine
  kind : C.env.scope.kind = .function
  gl : C.env.globals = mainGlobals
  bl : C.env.builtins = builtinsNs
  nm : C.env.scope.names = C.names

inductive Bnd where
  | val (T : Ty)
  | own (ds : List PyData)
  | free
  | ro (T : Ty)

abbrev Rho := List (Str × Bnd)

/-- where a name lies that may be stored -/
inductive Loc (env : Env) (h : Heap) (x : Str) : Option Value → Prop
  | loc {m : Str → Option Value} : env.kindOf x = some .local → h.Ns env.locals m → Loc env h x (m x)
  | cel {c : Addr} {v : Option Value} : env.kindOf x = some .cell → env.cells.lookup x = some c → h.IsCell c v → Loc env h x v

def OwnAt (ρ : Rho) (ad : Str → Addr) (a : Addr) : Prop := ∃ x ds, ρ.lookup x = some (.own ds) ∧ a = ad x
/-- the places that may change -/
def OO (Ob : Addr → Prop) (ρ : Rho) (ad : Str → Addr) (a : Addr) : Prop := Ob a ∨ OwnAt ρ ad a

def Hold (C : Cx) (Ob : Addr → Prop) (ρ : Rho) (ad : Str → Addr) (h : Heap) (x : Str) : Bnd → Prop
  | .val T => ∃ v, Loc C.env h x (some v) ∧ T.P (OO Ob ρ ad) h v
  | .own ds => ∃ items, Loc C.env h x (some (.ref (ad x))) ∧ ¬ Ob (ad x) ∧ h.PlainList (ad x) items ∧ RepL (OO Ob ρ ad) h items.toList ds
  | .free => ∃ v, Loc C.env h x v
  | .ro T => ∃ v c, C.env.kindOf x = some .free ∧ C.env.cells.lookup x = some c ∧ h.IsCell c (some v) ∧ T.P (OO Ob ρ ad) h v

structure St (C : Cx) (Ob Mb : Addr → Prop) (ρ : Rho) (ad : Str → Addr) (h : Heap) : Prop where
  ok : C.Ok
  base : Base C.W (OO Ob ρ ad) h
  mx : ∀ a, C.W.X a → Mb a
  mo : ∀ a, Mb a → Ob a
  mL : Mb C.env.locals
  xL : ¬ C.W.X C.env.locals
  oc : ∀ n c, (n, c) ∈ C.env.cells → Ob c ∧ ¬ C.W.X c
  mc : ∀ n c, (n, c) ∈ C.env.cells → C.env.kindOf n = some .cell → Mb c
  cd : C.env.cells.Pairwise fun x y => x.2 ≠ y.2
  ns : ∃ m, h.Ns C.env.locals m
  vars : ∀ x b, ρ.lookup x = some b → Hold C Ob ρ ad h x b
  inj : ∀ x y ds es, ρ.lookup x = some (.own ds) → ρ.lookup y = some (.own es) → ad x = ad y → x = y

theorem Ns_agree {D : Addr → Prop} {h h' : Heap} {a : Addr} {m : Str → Option Value} (x : h.Ns a m) (g : Agree D h h') (n : ¬ D a) : h'.Ns a m := let ⟨o, es, ep, e, r⟩ := x; ⟨o, es, ep, g.2 a o n e, r⟩
theorem IsCell_agree {D : Addr → Prop} {h h' : Heap} {a : Addr} {v : Option Value} (x : h.IsCell a v) (g : Agree D h h') (n : ¬ D a) : h'.IsCell a v := let ⟨o, e, r⟩ := x; ⟨o, g.2 a o n e, r⟩

section
variable {C : Cx} {Ob Mb : Addr → Prop} {ρ : Rho} {ad : Str → Addr} {h h' : Heap}
theorem St.xc (S : St C Ob Mb ρ ad h) {x : Str} {c : Addr} (e : C.env.cells.lookup x = some c) : ¬ C.W.X c := (S.oc x c (mem_of_lookup e)).2
theorem Loc.step (S : St C Ob Mb ρ ad h) (g : Agree C.W.X h h') {x : Str} {v : Option Value} (l : Loc C.env h x v) : Loc C.env h' x v := by
  cases l with
  | loc k n => exact .loc k (Ns_agree n g S.xL)
  | cel k e n => exact .cel k e (IsCell_agree n g (S.xc e))
theorem St.agO (S : St C Ob Mb ρ ad h) (y : Step C.W (OO Ob ρ ad) h h') : Agree (OO Ob ρ ad) h h' := y.agO S.base
theorem St.xown (S : St C Ob Mb ρ ad h) {x : Str} {ds : List PyData} (e : ρ.lookup x = some (.own ds)) : ¬ C.W.X (ad x) := fun q => by
  obtain ⟨_, _, n, _⟩ := S.vars x _ e
  exact n (S.mo _ (S.mx _ q))
theorem St.step (S : St C Ob Mb ρ ad h) (y : Step C.W (OO Ob ρ ad) h h') : St C Ob Mb ρ ad h' where
  ok := S.ok
  base := S.base.step S.ok.w y
  mx := S.mx
  mo := S.mo
  mL := S.mL
  xL := S.xL
  oc := S.oc
  mc := S.mc
  cd := S.cd
  ns := let ⟨m, n⟩ := S.ns; ⟨m, Ns_agree n y.ag S.xL⟩
  inj := S.inj
  vars := fun x b e => by
    have H := S.vars x b e
    have g := S.agO y
    cases b with
    | val T => obtain ⟨v, l, p⟩ := H; exact ⟨v, l.step S y.ag, T.mono p g⟩
    | own ds => obtain ⟨it, l, n, i, r⟩ := H; exact ⟨it, l.step S y.ag, n, PL_agree i y.ag (S.xown e), r.mono g⟩
    | free => obtain ⟨v, l⟩ := H; exact ⟨v, l.step S y.ag⟩
    | ro T => obtain ⟨v, c, k, lc, ic, p⟩ := H; exact ⟨v, c, k, lc, IsCell_agree ic y.ag (S.xc lc), T.mono p g⟩
end

/-- the tree gives a value of that type and leaves what stood -/
def Gives (C : Cx) (O : Addr → Prop) (t : Sem Value) (T : Ty) (s : Shared) : Prop :=
  ∀ (Q : Value → Shared → Prop) (E : Value → Shared → Prop), (∀ h' tk v, Step C.W O s.heap h' → T.P O h' v → Q v { s with heap := h', toks := tk }) → wpAny C.M C.A t Q E s


/-- an expression gives a value of that type -/
def Ev (C : Cx) (ρ : Rho) (e : Expr) (T : Ty) : Prop :=
  ∀ (Ob Mb : Addr → Prop) (ad : Str → Addr) (s : Shared), St C Ob Mb ρ ad s.heap → Gives C (OO Ob ρ ad) (eval e C.env) T s

inductive TyL (O : Addr → Prop) (h : Heap) : List Ty → List Value → Prop
  | nil : TyL O h [] []
  | cons {T : Ty} {Ts : List Ty} {v : Value} {vs : List Value} : T.P O h v → TyL O h Ts vs → TyL O h (T :: Ts) (v :: vs)
theorem TyL.repL {O : Addr → Prop} {h : Heap} : ∀ {ds : List PyData} {vs : List Value}, TyL O h (ds.map dt) vs → RepL O h vs ds
  | [], _, .nil => .nil
  | _ :: _, _, .cons x r => .cons x (TyL.repL r)

/-- several expressions, as a call's or a display's parts -/
def EvL (C : Cx) (ρ : Rho) (es : List Expr) (Ts : List Ty) : Prop :=
  ∀ (Ob Mb : Addr → Prop) (ad : Str → Addr) (s : Shared) (pos : Pos) (Q : List Value → Shared → Prop) (E : Value → Shared → Prop), St C Ob Mb ρ ad s.heap →
    (∀ h' tk vs, Step C.W (OO Ob ρ ad) s.heap h' → TyL (OO Ob ρ ad) h' Ts vs → Q vs { s with heap := h', toks := tk }) → wpAny C.M C.A (spliced (backTo pos (starEach es C.env))) Q E s

/-- a test -/
def Tr (C : Cx) (ρ : Rho) (e : Expr) (b : Bool) : Prop :=
  ∀ (Ob Mb : Addr → Prop) (ad : Str → Addr) (s : Shared) (Q : Bool → Shared → Prop) (E : Value → Shared → Prop), St C Ob Mb ρ ad s.heap →
    (∀ h' tk, Step C.W (OO Ob ρ ad) s.heap h' → Q b { s with heap := h', toks := tk }) → wpAny C.M C.A (isTrue e C.env (eval e C.env)) Q E s

/-- operations on values -/
def Bin (C : Cx) (op : Operator) (T₁ T₂ T : Ty) : Prop :=
  ∀ (O : Addr → Prop) (s : Shared) (a b : Value), C.Ok → Base C.W O s.heap → T₁.P O s.heap a → T₂.P O s.heap b → Gives C O (binaryOp op a b) T s
def Cmp (C : Cx) (op : CmpOp) (T₁ T₂ T : Ty) : Prop :=
  ∀ (O : Addr → Prop) (s : Shared) (a b : Value), C.Ok → Base C.W O s.heap → T₁.P O s.heap a → T₂.P O s.heap b → Gives C O (compareOp op a b) T s
def Un (C : Cx) (op : UnaryOp) (T₁ T : Ty) : Prop :=
  ∀ (O : Addr → Prop) (s : Shared) (a : Value), C.Ok → Base C.W O s.heap → T₁.P O s.heap a → Gives C O (unaryOp op a) T s
def Truth (C : Cx) (T : Ty) (b : Bool) : Prop :=
  ∀ (O : Addr → Prop) (s : Shared) (a : Value) (Q : Bool → Shared → Prop) (E : Value → Shared → Prop), C.Ok → Base C.W O s.heap → T.P O s.heap a → (∀ h' tk, Step C.W O s.heap h' → Q b { s with heap := h', toks := tk }) → wpAny C.M C.A (truthy a) Q E s
/-- a callable's contract, at any frame with that room -/
def Cl (W : Wd) (lv : Nat) (f : Value) (Ts : List Ty) (T : Ty) : Prop :=
  ∀ (C : Cx) (O : Addr → Prop) (s : Shared) (vs : List Value), C.Ok → C.W = W → lv ≤ C.lv → Base W O s.heap → TyL O s.heap Ts vs → Gives C O (call f vs) T s

section
variable {C : Cx} {ρ : Rho}


theorem Ev.int {i : Int} {k : Nat} {p : Pos} : Ev C ρ (.Constant (.int i) k p) (dt (.int i)) := fun _ _ _ s _ _ _ q => wpAny_Constant_int (q s.heap _ _ .refl (.int i _))
theorem Ev.str {x : Str} {k : Nat} {p : Pos} : Ev C ρ (.Constant (.str x) k p) (dt (.str x)) := fun _ _ _ s _ _ _ q => Calls.Constant_str (q s.heap _ _ .refl (.str x _))
theorem Ev.bool {b : Bool} {k : Nat} {p : Pos} : Ev C ρ (.Constant (.bool b) k p) (dt (.bool b)) := fun _ _ _ s _ _ _ q => Constant_bool (q s.heap s.toks _ .refl (.bool b))
theorem Ev.none {k : Nat} {p : Pos} : Ev C ρ (.Constant .none k p) (dt .none) := fun _ _ _ s _ _ _ q => Constant_none (q s.heap s.toks _ .refl .none)

theorem loc_load {M : Model} {A : Around} {env : Env} {s : Shared} {x : Str} {v : Value} {Q : Value → Shared → Prop} {E : Value → Shared → Prop} (hk : env.scope.kind = .function) (l : Loc env s.heap x (some v)) (h : Q v s) : wpAny M A (loadName env x) Q E s := by
  generalize hv : some v = o at l
  cases l with
  | loc k n => exact wpAny_loadName_local hk k n hv.symm h
  | cel k e n => subst hv; exact wpAny_loadName_cell hk k e n h

theorem Ev.name {x : Str} {p : Pos} {T : Ty} (hl : ρ.lookup x = some (.val T)) (hd : (x == ("__debug__" : Str)) = false := by decide) : Ev C ρ (.Name x p) T := fun Ob Mb ad s S Q E q => by
  obtain ⟨v, l, pv⟩ := S.vars x _ hl
  exact wpAny_Name (loc_load S.ok.kind l (q s.heap s.toks v .refl pv)) hd
theorem Ev.glob {x : Str} {p : Pos} {v : Value} (hn : C.names.lookup x = some .globalImplicit) (hg : C.W.gs.lookup x = some v) (hd : (x == ("__debug__" : Str)) = false := by decide) : Ev C ρ (.Name x p) (eqT v) := fun Ob Mb ad s S Q E q => by
  obtain ⟨pr, loose, mg, mb, T⟩ := S.ok.w.top
  have hk : C.env.kindOf x = some .globalImplicit := by unfold Env.kindOf; rw [S.ok.nm]; exact hn
  rcases S.ok.w.gl x v hg with e | ⟨e, hb, hne⟩
  · exact Calls.Name_function_global S.ok.kind hk (Calls.loadGlobal_global (env := C.env) (by rw [S.ok.gl]; exact T.g.keeps S.base.keep) (mg_of S.ok.w.kin T.g e) (q s.heap s.toks v .refl rfl)) hd
  · exact Calls.Name_function_global S.ok.kind hk (Calls.loadGlobal_builtin (env := C.env) (by rw [S.ok.gl]; exact T.g.keeps S.base.keep) (mg_none_of S.ok.w.kin T.g e) (by rw [S.ok.bl]; exact T.b.keeps S.base.keep) ((T.builtins x hne).trans hb) (q s.heap s.toks v .refl rfl)) hd
theorem Ev.ro {x : Str} {p : Pos} {T : Ty} (hl : ρ.lookup x = some (.ro T)) (hd : (x == ("__debug__" : Str)) = false := by decide) (hn : (x == ("__classdict__" : Str)) = false := by decide) : Ev C ρ (.Name x p) T := fun Ob Mb ad s S Q E q => by
  obtain ⟨v, c, k, e, i, pv⟩ := S.vars x _ hl
  exact wpAny_Name (wpAny_loadName_free S.ok.kind k e i (q s.heap s.toks v .refl pv) hn) hd

theorem Ev.bin {l r : Expr} {op : Operator} {p : Pos} {T₁ T₂ T : Ty} (h₁ : Ev C ρ l T₁) (h₂ : Ev C ρ r T₂) (ho : Bin C op T₁ T₂ T) : Ev C ρ (.BinOp l op r p) T := fun Ob Mb ad s S Q E q =>
  wpAny_BinOp (h₁ Ob Mb ad s S _ E fun h' tk a y pa => h₂ Ob Mb ad { s with heap := h', toks := tk } (S.step y) _ E fun h₂ tk₂ b y₂ pb =>
    ho (OO Ob ρ ad) { s with heap := h₂, toks := tk₂ } a b S.ok ((S.step y).step y₂).base (T₁.mono pa ((S.step y).agO y₂)) pb Q E fun h₃ tk₃ v y₃ pv => q h₃ tk₃ v (y.trans (y₂.trans y₃)) pv)
theorem Ev.un {l : Expr} {op : UnaryOp} {p : Pos} {T₁ T : Ty} (h₁ : Ev C ρ l T₁) (ho : Un C op T₁ T) : Ev C ρ (.UnaryOp op l p) T := fun Ob Mb ad s S Q E q =>
  UnaryOp_ (h₁ Ob Mb ad s S _ E fun h' tk a y pa => ho (OO Ob ρ ad) { s with heap := h', toks := tk } a S.ok (S.step y).base pa Q E fun h₃ tk₃ v y₃ pv => q h₃ tk₃ v (y.trans y₃) pv)
theorem Ev.cmp {l r : Expr} {op : CmpOp} {p : Pos} {T₁ T₂ T : Ty} (h₁ : Ev C ρ l T₁) (h₂ : Ev C ρ r T₂) (ho : Cmp C op T₁ T₂ T) (hm : behindInMarks op r = false := by with_unfolding_all rfl) : Ev C ρ (.Compare l [op] [r] p) T := fun Ob Mb ad s S Q E q =>
  wpAny_Compare1 (h₁ Ob Mb ad s S _ E fun h' tk a y pa => h₂ Ob Mb ad { s with heap := h', toks := tk } (S.step y) _ E fun h₂ tk₂ b y₂ pb =>
    ho (OO Ob ρ ad) { s with heap := h₂, toks := tk₂ } a b S.ok ((S.step y).step y₂).base (T₁.mono pa ((S.step y).agO y₂)) pb Q E fun h₃ tk₃ v y₃ pv => q h₃ tk₃ v (y.trans (y₂.trans y₃)) pv) hm

theorem EvL.nil : EvL C ρ [] [] := fun Ob Mb ad s pos Q E S q => spliced_none (q s.heap s.toks [] .refl .nil)
theorem EvL.cons {e : Expr} {es : List Expr} {T : Ty} {Ts : List Ty} (h₁ : Ev C ρ e T) (h₂ : EvL C ρ es Ts) (he : ∀ env, starEach (e :: es) env = (false, eval e env) :: starEach es env := by intro _; rfl) : EvL C ρ (e :: es) (T :: Ts) := fun Ob Mb ad s pos Q E S q =>
  spliced_more (h₁ Ob Mb ad s S _ E fun h' tk a y pa => h₂ Ob Mb ad { s with heap := h', toks := tk } pos _ E (S.step y) fun h₂ tk₂ vs y₂ pv =>
    q h₂ tk₂ (a :: vs) (y.trans y₂) (.cons (T.mono pa ((S.step y).agO y₂)) pv)) (he _)

theorem Tr.plain {e : Expr} {T : Ty} {b : Bool} (h : Ev C ρ e T) (ht : Truth C T b) (he : ∀ env whole, isTrue e env whole = (do let v ← whole; standAt e.pos; holding [v] (truthy v)) := by intro _ _; rfl) : Tr C ρ e b := fun Ob Mb ad s Q E S q =>
  isTrue_plain (h Ob Mb ad s S _ E fun h' tk a y pa => ht (OO Ob ρ ad) { s with heap := h', toks := tk } a Q E S.ok (S.step y).base pa fun h₃ tk₃ y₃ => q h₃ tk₃ (y.trans y₃)) (he _ _)
theorem Tr.not {e : Expr} {p : Pos} {b : Bool} (h : Tr C ρ e b) : Tr C ρ (.UnaryOp .Not e p) (!b) := fun Ob Mb ad s Q E S q => isTrue_not (h Ob Mb ad s _ E S fun h' tk y => q h' tk y)
theorem Tr.andNil {p : Pos} : Tr C ρ (.BoolOp .And [] p) true := fun Ob Mb ad s Q E S q => isTrue_and_nil (q s.heap s.toks .refl)
theorem Tr.and {e : Expr} {es : List Expr} {p : Pos} {a b : Bool} (h : Tr C ρ e a) (h₂ : a = true → Tr C ρ (.BoolOp .And es p) b) : Tr C ρ (.BoolOp .And (e :: es) p) (a && b) := fun Ob Mb ad s Q E S q =>
  isTrue_and (h Ob Mb ad s _ E S fun h' tk y => by
    cases a with
    | false => exact q h' tk y
    | true => exact h₂ rfl Ob Mb ad { s with heap := h', toks := tk } Q E (S.step y) fun h₃ tk₃ y₃ => q h₃ tk₃ (y.trans y₃))
theorem Tr.cmp {l r : Expr} {op : CmpOp} {p : Pos} {T₁ T₂ : Ty} {b : Bool} (h₁ : Ev C ρ l T₁) (h₂ : Ev C ρ r T₂) (ho : Cmp C op T₁ T₂ (dt (.bool b))) (hm : behindInMarks op r = false := by with_unfolding_all rfl) : Tr C ρ (.Compare l [op] [r] p) b := fun Ob Mb ad s Q E S q =>
  wpAny_isTrue_Compare1 (h₁ Ob Mb ad s S _ E fun h' tk a y pa => h₂ Ob Mb ad { s with heap := h', toks := tk } (S.step y) _ E fun h₂ tk₂ b' y₂ pb =>
    ho (OO Ob ρ ad) { s with heap := h₂, toks := tk₂ } a b' S.ok ((S.step y).step y₂).base (T₁.mono pa ((S.step y).agO y₂)) pb _ E fun h₃ tk₃ v y₃ pv => by
      cases pv; exact wpAny_truthy_bool (q h₃ tk₃ (y.trans (y₂.trans y₃)))) hm

theorem Ev.ife {t b e : Expr} {p : Pos} {c : Bool} {T : Ty} (h : Tr C ρ t c) (h₁ : c = true → Ev C ρ b T) (h₂ : c = false → Ev C ρ e T) : Ev C ρ (.IfExp t b e p) T := fun Ob Mb ad s S Q E q =>
  IfExp_ (h Ob Mb ad s _ E S fun h' tk y => by
    cases c with
    | true => exact h₁ rfl Ob Mb ad { s with heap := h', toks := tk } (S.step y) Q E fun h₃ tk₃ v y₃ => q h₃ tk₃ v (y.trans y₃)
    | false => exact h₂ rfl Ob Mb ad { s with heap := h', toks := tk } (S.step y) Q E fun h₃ tk₃ v y₃ => q h₃ tk₃ v (y.trans y₃))
theorem Ev.or2 {e₁ e₂ : Expr} {p : Pos} {T₁ T : Ty} {b : Bool} (h₁ : Ev C ρ e₁ T₁) (ht : Truth C T₁ b) (k₁ : b = true → ∀ O h v, T₁.P O h v → T.P O h v) (h₂ : b = false → Ev C ρ e₂ T) : Ev C ρ (.BoolOp .Or [e₁, e₂] p) T := fun Ob Mb ad s S Q E q =>
  BoolOp_or (h₁ Ob Mb ad s S _ E fun h' tk a y pa => ht (OO Ob ρ ad) { s with heap := h', toks := tk } a _ E S.ok (S.step y).base pa fun h₃ tk₃ y₃ => by
    cases b with
    | true => exact q h₃ tk₃ a (y.trans y₃) (k₁ rfl _ _ _ (T₁.mono pa ((S.step y).agO y₃)))
    | false => exact BoolOp_one (h₂ rfl Ob Mb ad { s with heap := h₃, toks := tk₃ } ((S.step y).step y₃) Q E fun h₄ tk₄ v y₄ => q h₄ tk₄ v (y.trans (y₃.trans y₄))))
theorem Ev.and2 {e₁ e₂ : Expr} {p : Pos} {T₁ T : Ty} {b : Bool} (h₁ : Ev C ρ e₁ T₁) (ht : Truth C T₁ b) (k₁ : b = false → ∀ O h v, T₁.P O h v → T.P O h v) (h₂ : b = true → Ev C ρ e₂ T) : Ev C ρ (.BoolOp .And [e₁, e₂] p) T := fun Ob Mb ad s S Q E q =>
  BoolOp_and (h₁ Ob Mb ad s S _ E fun h' tk a y pa => ht (OO Ob ρ ad) { s with heap := h', toks := tk } a _ E S.ok (S.step y).base pa fun h₃ tk₃ y₃ => by
    cases b with
    | false => exact q h₃ tk₃ a (y.trans y₃) (k₁ rfl _ _ _ (T₁.mono pa ((S.step y).agO y₃)))
    | true => exact BoolOp_one (h₂ rfl Ob Mb ad { s with heap := h₃, toks := tk₃ } ((S.step y).step y₃) Q E fun h₄ tk₄ v y₄ => q h₄ tk₄ v (y.trans (y₃.trans y₄))))
end

end Mine

namespace Mine
open PySem PySem.W PyProof.Rows PySem.Spec

def put (x : Str) (b : Bnd) : Rho → Rho
  | [] => []
  | (y, c) :: r => if x == y then (y, b) :: r else (y, c) :: put x b r
theorem lookup_put_ne {x y : Str} {b : Bnd} (n : y ≠ x) : ∀ ρ : Rho, (put x b ρ).lookup y = ρ.lookup y
  | [] => rfl
  | (z, c) :: r => by
    unfold put
    split
    · rename_i q
      have q' : x = z := by simpa using q
      subst q'
      have : (y == x) = false := by simpa using n
      simp [List.lookup_cons, this]
    · simp only [List.lookup_cons, lookup_put_ne n r]
theorem lookup_put_self {x : Str} {b : Bnd} : ∀ {ρ : Rho} {b₀ : Bnd}, ρ.lookup x = some b₀ → (put x b ρ).lookup x = some b
  | [], _, e => by cases e
  | (z, c) :: r, b₀, e => by
    unfold put
    split
    · rename_i q
      have q' : x = z := by simpa using q
      subst q'
      simp
    · rename_i q
      have q' : (x == z) = false := by simpa using q
      rw [List.lookup_cons, q'] at e
      rw [List.lookup_cons, q']
      exact lookup_put_self e
theorem lookup_put {x y : Str} {b c : Bnd} {ρ : Rho} {b₀ : Bnd} (e : ρ.lookup x = some b₀) (h : (put x b ρ).lookup y = some c) : (y = x ∧ c = b) ∨ (y ≠ x ∧ ρ.lookup y = some c) := by
  by_cases q : y = x
  · subst q; rw [lookup_put_self e] at h; exact .inl ⟨rfl, (Option.some.inj h).symm⟩
  · rw [lookup_put_ne q] at h; exact .inr ⟨q, h⟩

def upd (ad : Str → Addr) (x : Str) (a : Addr) : Str → Addr := fun y => if y = x then a else ad y
theorem upd_pos {ad : Str → Addr} {x y : Str} {a : Addr} (h : y = x) : upd ad x a y = a := if_pos h
theorem upd_neg {ad : Str → Addr} {x y : Str} {a : Addr} (h : y ≠ x) : upd ad x a y = ad y := if_neg h

def Bnd.sto : Bnd → Bool
  | .ro _ => false
  | _ => true

theorem Ty.tr (T : Ty) {O₁ O₂ : Addr → Prop} {h₁ h₂ : Heap} {v : Value} (p : T.P O₁ h₁ v) (n : ∀ a o, h₁.get? a = some o → O₂ a → O₁ a) (g : Agree O₁ h₁ h₂) : T.P O₂ h₂ v :=
  have a : T.P (fun a => O₁ a ∨ O₂ a) h₁ v := T.re (fun a o e q => q.elim id (n a o e)) p
  T.re (fun a o e q => .inr q) (T.mono a (g.wk fun a q => .inl q))
theorem RepL.tr {O₁ O₂ : Addr → Prop} {h₁ h₂ : Heap} {v : List Value} {ds : List PyData} (p : RepL O₁ h₁ v ds) (n : ∀ a o, h₁.get? a = some o → O₂ a → O₁ a) (g : Agree O₁ h₁ h₂) : RepL O₂ h₂ v ds :=
  have a : RepL (fun a => O₁ a ∨ O₂ a) h₁ v ds := RepL.re (fun a o e q => q.elim id (n a o e)) p
  RepL.re (fun a o e q => .inr q) (RepL.mono (g.wk fun a q => .inl q) a)

theorem Ns_IsCell {h : Heap} {a : Addr} {m : Str → Option Value} {v : Option Value} (n : h.Ns a m) (c : h.IsCell a v) : False := by
  obtain ⟨o, es, ep, e, d, _⟩ := n
  obtain ⟨o', e', d'⟩ := c
  rw [e] at e'; cases e'; rw [d] at d'; cases d'
theorem Ns_IsList {h : Heap} {a : Addr} {m : Str → Option Value} {v : Array Value} (n : h.Ns a m) (c : h.IsList a v) : False := by
  obtain ⟨o, es, ep, e, d, _⟩ := n
  obtain ⟨o', e', _, _, d'⟩ := c
  rw [e] at e'; cases e'; rw [d] at d'; cases d'
theorem IsCell_IsList {h : Heap} {a : Addr} {v : Option Value} {w : Array Value} (n : h.IsCell a v) (c : h.IsList a w) : False := by
  obtain ⟨o, e, d⟩ := n
  obtain ⟨o', e', _, _, d'⟩ := c
  rw [e] at e'; cases e'; rw [d] at d'; cases d'
theorem SameBut_PL {h h' : Heap} {a b : Addr} {v : Array Value} (s : Heap.SameBut a h h') (n : h.PlainList b v) (q : b ≠ a) : h'.PlainList b v := let ⟨k, e⟩ := n; ⟨k, (s.2 b q).trans e⟩

section
variable {C : Cx} {Ob Mb : Addr → Prop} {ρ : Rho} {ad : Str → Addr} {h h' : Heap}

theorem Base.re {W : Wd} {O O' : Addr → Prop} {h : Heap} (b : Base W O h) (k : ∀ a, O' a → O a) (x : ∀ a, W.X a → O' a) : Base W O' h :=
  ⟨b.keep, x, fun a q => b.old a (k a q), fun a q => b.ex a (k a q), W.I.re (fun a _ _ q => k a q) b.inv⟩

/-- one more place that may change: a new one -/
theorem St.add (S : St C Ob Mb ρ ad h) (y : Step C.W (OO Ob ρ ad) h h') {a : Addr} (hn : h.get? a = none) (hl : ∃ o, h'.get? a = some o) (hi : C.W.I.P (fun b => OO Ob ρ ad b ∨ b = a) h') : St C (fun b => Ob b ∨ b = a) Mb ρ ad h' := by
  have S' := S.step y
  have up : ∀ b, OO Ob ρ ad b → OO (fun b => Ob b ∨ b = a) ρ ad b := fun b q => q.imp (fun q => .inl q) id
  have dn : ∀ b o, h.get? b = some o → OO (fun b => Ob b ∨ b = a) ρ ad b → OO Ob ρ ad b := fun b o e q => q.elim (fun q => q.elim (fun q => .inl q) fun q => by rw [q, hn] at e; cases e) fun q => .inr q
  have ag := S.agO y
  refine { S' with base := ?_, mo := fun b q => .inl (S.mo b q), oc := fun n c q => ⟨.inl (S.oc n c q).1, (S.oc n c q).2⟩, vars := ?_ }
  · refine ⟨S'.base.keep, fun b q => up b (S'.base.sub b q), ?_, ?_, C.W.I.re (fun b _ _ q => q.elim (fun q => q.elim (fun q => .inl (.inl q)) .inr) fun q => .inl (.inr q)) hi⟩
    · intro b q
      rcases q with (q | q) | q
      · exact S.base.old b (.inl q)
      · cases e : C.W.g.get? b with
        | none => rfl
        | some o => have := S.base.keep b o e; rw [q, hn] at this; cases this
      · exact S.base.old b (.inr q)
    · intro b q
      rcases q with (q | q) | q
      · exact S'.base.ex b (.inl q)
      · exact q ▸ hl
      · exact S'.base.ex b (.inr q)
  · intro x b e
    have H := S.vars x b e
    cases b with
    | val T => obtain ⟨v, l, p⟩ := H; exact ⟨v, l.step S y.ag, T.tr p dn ag⟩
    | own ds =>
      obtain ⟨it, l, n, i, r⟩ := H
      refine ⟨it, l.step S y.ag, fun q => q.elim n fun q => ?_, PL_agree i y.ag (S.xown e), r.tr dn ag⟩
      obtain ⟨_, eo⟩ := i
      rw [q, hn] at eo; cases eo
    | free => obtain ⟨v, l⟩ := H; exact ⟨v, l.step S y.ag⟩
    | ro T => obtain ⟨v, c, k, lc, ic, p⟩ := H; exact ⟨v, c, k, lc, IsCell_agree ic y.ag (S.xc lc), T.tr p dn ag⟩
theorem inv_ext {W : Wd} {O : Addr → Prop} {a : Addr} (b : Base W O h) (hn : h.get? a = none) (k : ∀ b o, h.get? b = some o → h'.get? b = some o) : W.I.P (fun b => O b ∨ b = a) h' :=
  W.I.mono (W.I.re (fun b o e q => q.elim id fun q => by rw [q, hn] at e; cases e) b.inv) (.ext k)
theorem St.addE (S : St C Ob Mb ρ ad h) {a : Addr} (hn : h.get? a = none) (hl : ∃ o, h'.get? a = some o) (k : ∀ b o, h.get? b = some o → h'.get? b = some o) : St C (fun b => Ob b ∨ b = a) Mb ρ ad h' :=
  S.add (.of_ext k) hn hl (inv_ext S.base hn k)
/-- fewer places that may change -/
theorem St.less {Ob' : Addr → Prop} (S : St C Ob' Mb ρ ad h) (k : ∀ a, Ob a → Ob' a) (m : ∀ a, Mb a → Ob a) (oc : ∀ n c, (n, c) ∈ C.env.cells → Ob c) : St C Ob Mb ρ ad h := by
  have dn : ∀ b, OO Ob ρ ad b → OO Ob' ρ ad b := fun b q => q.imp (k b) id
  refine { S with base := S.base.re dn fun a q => .inl (m a (S.mx a q)), mo := m, oc := fun n c q => ⟨oc n c q, (S.oc n c q).2⟩, vars := ?_ }
  intro x b e
  have H := S.vars x b e
  cases b with
  | val T => obtain ⟨v, l, p⟩ := H; exact ⟨v, l, T.re (fun a _ _ q => dn a q) p⟩
  | own ds => obtain ⟨it, l, n, i, r⟩ := H; exact ⟨it, l, fun q => n (k _ q), i, r.re (fun a _ _ q => dn a q)⟩
  | free => exact H
  | ro T => obtain ⟨v, c, kk, lc, ic, p⟩ := H; exact ⟨v, c, kk, lc, ic, T.re (fun a _ _ q => dn a q) p⟩

theorem OwnAt.put {x : Str} {b b₀ : Bnd} {a : Addr} (e : ρ.lookup x = some b₀) (hb : ∀ ds, b ≠ .own ds) (q : OwnAt (put x b ρ) ad a) : OwnAt ρ ad a := by
  obtain ⟨y, ds, l, r⟩ := q
  rcases lookup_put e l with ⟨_, q⟩ | ⟨_, q⟩
  · exact absurd q.symm (hb ds)
  · exact ⟨y, ds, q, r⟩

/-- a name is stored -/
theorem St.set {s : Shared} {x : Str} {v : Value} {b b₀ : Bnd} {Q : Unit → Shared → Prop} {E : Value → Shared → Prop} (S : St C Ob Mb ρ ad s.heap) (hx : ρ.lookup x = some b₀) (hs : b₀.sto = true)
    (hb : b = .free ∨ ∃ T : Ty, b = .val T ∧ T.P (OO Ob ρ ad) s.heap v)
    (q : ∀ h' tk a, St C Ob Mb (put x b ρ) ad h' → Loc C.env h' x (some v) → Mb a → (C.env.kindOf x = some .local → a = C.env.locals) → Agree (fun b => b = a) s.heap h' → Q () { s with heap := h', toks := tk }) : wpAny C.M C.A (storeName C.env x v) Q E s := by
  have hno : ∀ ds, b ≠ .own ds := fun ds e => by rcases hb with q | ⟨T, q, _⟩ <;> rw [q] at e <;> cases e
  have dn : ∀ a, OO Ob (put x b ρ) ad a → OO Ob ρ ad a := fun a q => q.imp id fun q => q.put hx hno
  have L0 : ∃ u, Loc C.env s.heap x u := by
    have H := S.vars x _ hx
    cases b₀ with
    | val T => obtain ⟨v, l, _⟩ := H; exact ⟨_, l⟩
    | own ds => obtain ⟨it, l, _⟩ := H; exact ⟨_, l⟩
    | free => exact H
    | ro T => cases hs
  obtain ⟨u, L0⟩ := L0
  have fin : ∀ (a : Addr) (h' : Heap) (tk : Nat), Mb a → ¬ C.W.X a → Heap.SameBut a s.heap h' → (∃ o, h'.get? a = some o) → (∀ vs, ¬ s.heap.IsList a vs) → Loc C.env h' x (some v) → (∀ y u, y ≠ x → Loc C.env s.heap y u → Loc C.env h' y u) →
      (∀ y c u, y ≠ x → C.env.cells.lookup y = some c → s.heap.IsCell c u → c ≠ a) → (∃ m, h'.Ns C.env.locals m) → (C.env.kindOf x = some .local → a = C.env.locals) → Q () { s with heap := h', toks := tk } := by
    intro a h' tk ma xa sb ⟨oa, ea⟩ nl lx ly cy ns kl
    have agO : Agree (OO Ob ρ ad) s.heap h' := .same sb ea (.inl (S.mo a ma))
    refine q h' tk a ⟨S.ok, ?_, S.mx, S.mo, S.mL, S.xL, S.oc, S.mc, S.cd, ns, ?_, ?_⟩ lx ma kl (.same sb ea rfl)
    · refine Base.re ⟨fun b o e => ?_, S.base.sub, S.base.old, fun b q => let ⟨o, e⟩ := S.base.ex b q; agO.1 b o e, C.W.I.mono S.base.inv ?_⟩ dn fun b q => .inl (S.mo b (S.mx b q))
      · exact (sb.2 b (fun z => by rw [z, S.base.old a (.inl (S.mo a ma))] at e; cases e)).trans (S.base.keep b o e)
      · exact .same sb ea ⟨.inl (S.mo a ma), xa⟩
    · intro y c e
      rcases lookup_put hx e with ⟨rfl, rfl⟩ | ⟨ny, e⟩
      · rcases hb with rfl | ⟨T, rfl, p⟩
        · exact ⟨_, lx⟩
        · exact ⟨v, lx, T.re (fun a _ _ q => dn a q) (T.mono p agO)⟩
      · have H := S.vars y c e
        cases c with
        | val T => obtain ⟨v, l, p⟩ := H; exact ⟨v, ly y _ ny l, T.re (fun a _ _ q => dn a q) (T.mono p agO)⟩
        | own ds => obtain ⟨it, l, n, i, r⟩ := H; exact ⟨it, ly y _ ny l, n, SameBut_PL sb i (fun z => nl it (z ▸ i.isList)), RepL.re (fun a _ _ q => dn a q) (r.mono agO)⟩
        | free => obtain ⟨v, l⟩ := H; exact ⟨v, ly y _ ny l⟩
        | ro T => obtain ⟨v, c, kk, lc, ic, p⟩ := H; exact ⟨v, c, kk, lc, ic.sameBut sb (cy y c _ ny lc ic), T.re (fun a _ _ q => dn a q) (T.mono p agO)⟩
    · intro y z ds es e1 e2 e3
      rcases lookup_put hx e1 with ⟨_, q1⟩ | ⟨_, q1⟩
      · exact absurd q1.symm (hno ds)
      · rcases lookup_put hx e2 with ⟨_, q2⟩ | ⟨_, q2⟩
        · exact absurd q2.symm (hno es)
        · exact S.inj y z ds es q1 q2 e3
  cases L0 with
  | loc k n =>
    refine wpAny_storeName_local k n (fun h' hn sb => ?_) (by rw [S.ok.kind]; rfl)
    refine fin C.env.locals h' _ S.mL S.xL sb (let ⟨o, _, _, e, _⟩ := hn; ⟨o, e⟩) (fun vs l => Ns_IsList n l) ?_ ?_ ?_ ⟨_, hn⟩ (fun _ => rfl)
    · have := Loc.loc k hn
      simpa using this
    · intro y u ny l
      cases l with
      | loc k' n' =>
        have := Loc.loc k' hn
        simp only [if_neg ny] at this
        obtain ⟨o, es, ep, eo, d, _, f⟩ := n
        obtain ⟨o', es', ep', eo', d', _, f'⟩ := n'
        rw [eo] at eo'; cases eo'; rw [d] at d'; cases d'
        rw [← f' y, f y]
        exact this
      | cel k' lc ic => exact .cel k' lc (ic.sameBut sb fun z => Ns_IsCell n (z ▸ ic))
    · intro y c u _ lc ic z
      exact Ns_IsCell n (z ▸ ic)
  | @cel c₀ u₀ k lc ic =>
    have mc := mem_of_lookup lc
    refine wpAny_storeName_cell S.ok.kind k lc ic fun h' hc sb => ?_
    obtain ⟨m, n⟩ := S.ns
    have nLc : C.env.locals ≠ c₀ := fun z => Ns_IsCell (z ▸ n) ic
    refine fin _ h' s.toks (S.mc x _ mc k) (S.oc x _ mc).2 sb (let ⟨o, e, _⟩ := hc; ⟨o, e⟩) (fun vs l => IsCell_IsList ic l) (.cel k lc hc) ?_ ?_ ⟨m, n.sameBut sb nLc⟩ (fun z => by rw [k] at z; cases z)
    · intro y u ny l
      cases l with
      | loc k' n' => exact .loc k' (n'.sameBut sb nLc)
      | cel k' lc' ic' => exact .cel k' lc' (ic'.sameBut sb fun z => ny (name_of_addr S.cd (mem_of_lookup lc') (z ▸ mc)))
    · intro y c u ny lc' _ z
      exact ny (name_of_addr S.cd (mem_of_lookup lc') (z ▸ mc))

/-- a new list becomes the name's own -/
theorem St.toOwn {x : Str} {a : Addr} {b₀ : Bnd} {items : Array Value} {ds : List PyData} (S : St C (fun b => Ob b ∨ b = a) Mb (put x .free ρ) ad h) (hx : ρ.lookup x = some b₀) (nO : ¬ Ob a) (mO : ∀ b, Mb b → Ob b) (cO : ∀ n c, (n, c) ∈ C.env.cells → Ob c)
    (nW : ∀ y es, ρ.lookup y = some (.own es) → ad y ≠ a)
    (l : Loc C.env h x (some (.ref a))) (i : h.PlainList a items) (r : RepL (OO (fun b => Ob b ∨ b = a) (put x .free ρ) ad) h items.toList ds) : St C Ob Mb (put x (.own ds) ρ) (upd ad x a) h := by
  have e₁ : ∀ b, OO Ob (put x (.own ds) ρ) (upd ad x a) b → OO (fun b => Ob b ∨ b = a) (put x .free ρ) ad b := by
    intro b q
    rcases q with q | ⟨y, es, q, r⟩
    · exact .inl (.inl q)
    · rcases lookup_put hx q with ⟨y1, _⟩ | ⟨ny, q⟩
      · exact .inl (.inr (by rw [r, upd_pos y1]))
      · exact .inr ⟨y, es, by rw [lookup_put_ne ny]; exact q, by rw [r, upd_neg ny]⟩
  have keep : ∀ y c, y ≠ x → (put x (.own ds) ρ).lookup y = some c → (put x .free ρ).lookup y = some c := fun y c ny q => by rw [lookup_put_ne ny] at q ⊢; exact q
  refine ⟨S.ok, S.base.re e₁ fun b q => .inl (mO b (S.mx b q)), S.mx, mO, S.mL, S.xL, fun n c q => ⟨cO n c q, (S.oc n c q).2⟩, S.mc, S.cd, S.ns, ?_, ?_⟩
  · intro y c e
    rcases lookup_put hx e with ⟨rfl, rfl⟩ | ⟨ny, e'⟩
    · exact ⟨items, by rw [upd_pos rfl]; exact l, by rw [upd_pos rfl]; exact nO, by rw [upd_pos rfl]; exact i, r.re fun b _ _ q => e₁ b q⟩
    · have H := S.vars y c (keep y c ny e)
      cases c with
      | val T => obtain ⟨v, l, p⟩ := H; exact ⟨v, l, T.re (fun a _ _ q => e₁ a q) p⟩
      | own es => obtain ⟨it, l, n, i, r⟩ := H; exact ⟨it, by rw [upd_neg ny]; exact l, by rw [upd_neg ny]; exact fun q => n (.inl q), by rw [upd_neg ny]; exact i, r.re fun a _ _ q => e₁ a q⟩
      | free => exact H
      | ro T => obtain ⟨v, c, kk, lc, ic, p⟩ := H; exact ⟨v, c, kk, lc, ic, T.re (fun a _ _ q => e₁ a q) p⟩
  · intro y z ds' es' h1 h2 h3
    by_cases ny : y = x
    · by_cases nz : z = x
      · rw [ny, nz]
      · exfalso
        rw [upd_pos ny, upd_neg nz] at h3
        rw [lookup_put_ne nz] at h2
        exact nW z es' h2 h3.symm
    · by_cases nz : z = x
      · exfalso
        rw [upd_neg ny, upd_pos nz] at h3
        rw [lookup_put_ne ny] at h1
        exact nW y ds' h1 h3
      · rw [upd_neg ny, upd_neg nz] at h3
        exact S.inj y z ds' es' (keep y _ ny h1) (keep z _ nz h2) h3

/-- the name's own list is changed -/
theorem St.updOwn {x : Str} {ds es : List PyData} {items : Array Value} (S : St C Ob Mb ρ ad h) (hx : ρ.lookup x = some (.own ds)) (sb : Heap.SameBut (ad x) h h') (i : h'.PlainList (ad x) items) (r : RepL (OO Ob ρ ad) h items.toList es) :
    St C Ob Mb (put x (.own es) ρ) ad h' := by
  have H₀ := S.vars x _ hx
  obtain ⟨it₀, l₀, n₀, i₀, _⟩ := H₀
  have hO : OO Ob ρ ad (ad x) := .inr ⟨x, ds, hx, rfl⟩
  obtain ⟨_, ei⟩ := id i
  have ag : Agree (OO Ob ρ ad) h h' := .same sb ei hO
  have own : ∀ b, OwnAt (put x (.own es) ρ) ad b → OwnAt ρ ad b := by
    rintro b ⟨y, fs, q, r⟩
    rcases lookup_put hx q with ⟨rfl, _⟩ | ⟨ny, q⟩
    · exact ⟨y, ds, hx, r⟩
    · exact ⟨y, fs, q, r⟩
  have dn : ∀ b, OO Ob (put x (.own es) ρ) ad b → OO Ob ρ ad b := fun b q => q.imp id (own b)
  have lc : ∀ y v, Loc C.env h y v → Loc C.env h' y v := by
    intro y v l
    cases l with
    | loc k n => exact .loc k (n.sameBut sb fun z => Ns_IsList (z ▸ n) i₀.isList)
    | cel k e n => exact .cel k e (n.sameBut sb fun z => IsCell_IsList (z ▸ n) i₀.isList)
  have xx := S.xown hx
  refine ⟨S.ok, ?_, S.mx, S.mo, S.mL, S.xL, S.oc, S.mc, S.cd, ?_, ?_, ?_⟩
  · refine Base.re ⟨fun b o e => ?_, S.base.sub, S.base.old, fun b q => let ⟨o, e⟩ := S.base.ex b q; ag.1 b o e, C.W.I.mono S.base.inv (.same sb ei ⟨hO, xx⟩)⟩ dn fun b q => .inl (S.mo b (S.mx b q))
    exact (sb.2 b (fun z => by rw [z, S.base.old _ hO] at e; cases e)).trans (S.base.keep b o e)
  · obtain ⟨m, n⟩ := S.ns
    exact ⟨m, n.sameBut sb fun z => Ns_IsList (z ▸ n) i₀.isList⟩
  · intro y c e
    rcases lookup_put hx e with ⟨rfl, rfl⟩ | ⟨ny, e⟩
    · exact ⟨items, lc _ _ l₀, n₀, i, RepL.re (fun b _ _ q => dn b q) (r.mono ag)⟩
    · have H := S.vars y c e
      cases c with
      | val T => obtain ⟨v, l, p⟩ := H; exact ⟨v, lc _ _ l, T.re (fun b _ _ q => dn b q) (T.mono p ag)⟩
      | own fs => obtain ⟨it, l, n, i', r'⟩ := H; exact ⟨it, lc _ _ l, n, SameBut_PL sb i' (fun z => ny (S.inj y x _ _ e hx z)), RepL.re (fun b _ _ q => dn b q) (r'.mono ag)⟩
      | free => obtain ⟨v, l⟩ := H; exact ⟨v, lc _ _ l⟩
      | ro T => obtain ⟨v, c, kk, lc', ic, p⟩ := H; exact ⟨v, c, kk, lc', ic.sameBut sb (fun z => IsCell_IsList (z ▸ ic) i₀.isList), T.re (fun b _ _ q => dn b q) (T.mono p ag)⟩
  · intro y z d1 d2 e1 e2 e3
    have f : ∀ y d1, (put x (.own es) ρ).lookup y = some (.own d1) → ∃ d, ρ.lookup y = some (.own d) := by
      intro y d1 e1
      rcases lookup_put hx e1 with ⟨rfl, _⟩ | ⟨_, q⟩
      · exact ⟨ds, hx⟩
      · exact ⟨d1, q⟩
    obtain ⟨_, f1⟩ := f y d1 e1
    obtain ⟨_, f2⟩ := f z d2 e2
    exact S.inj y z _ _ f1 f2 e3

/-- the name's own list changes no more -/
theorem St.freeze {x : Str} {ds : List PyData} (S : St C Ob Mb ρ ad h) (hx : ρ.lookup x = some (.own ds)) : St C Ob Mb (put x (.val (dt (.list ds))) ρ) ad h := by
  have dn : ∀ a, OO Ob (put x (.val (dt (.list ds))) ρ) ad a → OO Ob ρ ad a := fun a q => q.imp id fun q => q.put hx (fun _ e => by cases e)
  obtain ⟨it₀, l₀, n₀, i₀, r₀⟩ := S.vars x _ hx
  have nx : ¬ OO Ob (put x (.val (dt (.list ds))) ρ) ad (ad x) := by
    rintro (q | ⟨y, fs, q, r⟩)
    · exact n₀ q
    · rcases lookup_put hx q with ⟨_, q⟩ | ⟨ny, q⟩
      · cases q
      · exact ny (S.inj y x _ _ q hx r.symm)
  refine { S with base := S.base.re dn fun b q => .inl (S.mo b (S.mx b q)), vars := ?_, inj := ?_ }
  · intro y c e
    rcases lookup_put hx e with ⟨rfl, rfl⟩ | ⟨ny, e⟩
    · exact ⟨_, l₀, .list nx i₀.isList (r₀.re fun b _ _ q => dn b q)⟩
    · have H := S.vars y c e
      cases c with
      | val T => obtain ⟨v, l, p⟩ := H; exact ⟨v, l, T.re (fun b _ _ q => dn b q) p⟩
      | own fs => obtain ⟨it, l, n, i', r'⟩ := H; exact ⟨it, l, n, i', r'.re fun b _ _ q => dn b q⟩
      | free => exact H
      | ro T => obtain ⟨v, c, kk, lc', ic, p⟩ := H; exact ⟨v, c, kk, lc', ic, T.re (fun b _ _ q => dn b q) p⟩
  · intro y z d1 d2 e1 e2 e3
    rcases lookup_put hx e1 with ⟨_, q⟩ | ⟨_, q1⟩
    · cases q
    · rcases lookup_put hx e2 with ⟨_, q⟩ | ⟨_, q2⟩
      · cases q
      · exact S.inj y z _ _ q1 q2 e3
end

/-- how statements end -/
inductive Out where
  | next (ρ : Rho)
  | brk (ρ : Rho)
  | cont (ρ : Rho)
  | ret (T : Ty)

def After (C : Cx) (Ob Mb : Addr → Prop) (ρ₀ : Rho) (ad₀ : Str → Addr) (h₀ : Heap) (ρ : Rho) (h : Heap) : Prop := ∃ ad, St C Ob Mb ρ ad h ∧ ∀ a o, h₀.get? a = some o → OwnAt ρ ad a → OwnAt ρ₀ ad₀ a

def Fl (C : Cx) (Ob Mb : Addr → Prop) (ρ₀ : Rho) (ad₀ : Str → Addr) (h₀ : Heap) : Out → Flow → Heap → Prop
  | .next ρ, .next, h => After C Ob Mb ρ₀ ad₀ h₀ ρ h
  | .brk ρ, .brk, h => After C Ob Mb ρ₀ ad₀ h₀ ρ h
  | .cont ρ, .cont, h => After C Ob Mb ρ₀ ad₀ h₀ ρ h
  | .ret T, .ret v, h => Base C.W Ob h ∧ T.P Ob h v
  | _, _, _ => False

def Runs (C : Cx) (ρ : Rho) (t : Sem Flow) (Post : Out → Prop) : Prop :=
  ∀ (Ob Mb : Addr → Prop) (ad : Str → Addr) (s : Shared) (Q : Flow → Shared → Prop) (E : Value → Shared → Prop), St C Ob Mb ρ ad s.heap →
    (∀ fl h' tk out, Post out → Fl C Ob Mb ρ ad s.heap out fl h' → Agree (OO Mb ρ ad) s.heap h' → Q fl { s with heap := h', toks := tk }) → wpAny C.M C.A t Q E s
/-- a statement; statements -/
def Ex1 (C : Cx) (ρ : Rho) (st : Stmt) (Post : Out → Prop) : Prop := Runs C ρ (exec st C.env) Post
def Ex (C : Cx) (ρ : Rho) (sts : List Stmt) (Post : Out → Prop) : Prop := Runs C ρ (execs sts C.env) Post

theorem After.refl {C : Cx} {Ob Mb : Addr → Prop} {ρ : Rho} {ad : Str → Addr} {h : Heap} (S : St C Ob Mb ρ ad h) : After C Ob Mb ρ ad h ρ h := ⟨ad, S, fun _ _ _ q => q⟩

/-- what was told from a later state on, told from the first -/
theorem Fl.up {C : Cx} {Ob Mb : Addr → Prop} {ρ₀ ρ₁ : Rho} {ad₀ ad₁ : Str → Addr} {h₀ h₁ h : Heap} {out : Out} {fl : Flow} (ow : ∀ a o, h₀.get? a = some o → OwnAt ρ₁ ad₁ a → OwnAt ρ₀ ad₀ a) (ex : ∀ a o, h₀.get? a = some o → ∃ o', h₁.get? a = some o') (x : Fl C Ob Mb ρ₁ ad₁ h₁ out fl h) : Fl C Ob Mb ρ₀ ad₀ h₀ out fl h := by
  have up : ∀ ρ, After C Ob Mb ρ₁ ad₁ h₁ ρ h → After C Ob Mb ρ₀ ad₀ h₀ ρ h := fun ρ ⟨ad, S, k⟩ => ⟨ad, S, fun a o e q => let ⟨o', e'⟩ := ex a o e; ow a o e (k a o' e' q)⟩
  cases out <;> cases fl <;> first | exact up _ x | exact x
theorem Agree.up {Mb : Addr → Prop} {ρ₀ ρ₁ : Rho} {ad₀ ad₁ : Str → Addr} {h₀ h₁ h : Heap} (ow : ∀ a o, h₀.get? a = some o → OwnAt ρ₁ ad₁ a → OwnAt ρ₀ ad₀ a) (x : Agree (OO Mb ρ₀ ad₀) h₀ h₁) (y : Agree (OO Mb ρ₁ ad₁) h₁ h) : Agree (OO Mb ρ₀ ad₀) h₀ h :=
  ⟨fun b o e => let ⟨o', e'⟩ := x.1 b o e; y.1 b o' e', fun b o n e => y.2 b o (fun q => n (q.imp id (ow b o e))) (x.2 b o n e)⟩

end Mine

namespace Mine
open PySem PySem.W PyProof.Rows PySem.Spec

section
variable {C : Cx} {ρ : Rho} {Post : Out → Prop}

theorem Agree.mt {C : Cx} {Ob Mb : Addr → Prop} {ad : Str → Addr} {h h' : Heap} (S : St C Ob Mb ρ ad h) (y : Step C.W (OO Ob ρ ad) h h') : Agree (OO Mb ρ ad) h h' := y.ag.wk fun a q => .inl (S.mx a q)


theorem Ex.nil (h : Post (.next ρ)) : Ex C ρ [] Post := fun Ob Mb ad s Q E S q => wpAny_execs_nil (q .next s.heap s.toks (.next ρ) h (After.refl S) .refl)

theorem Ex.cons {st : Stmt} {rest : List Stmt} {P : Out → Prop} (h : Ex1 C ρ st P) (hn : ∀ ρ', P (.next ρ') → Ex C ρ' rest Post) (hb : ∀ ρ', P (.brk ρ') → Post (.brk ρ')) (hc : ∀ ρ', P (.cont ρ') → Post (.cont ρ')) (hr : ∀ T, P (.ret T) → Post (.ret T)) :
    Ex C ρ (st :: rest) Post := fun Ob Mb ad s Q E S q => by
  refine wpAny_execs_cons (h Ob Mb ad s _ E S fun fl h' tk out p f g => ?_)
  cases fl with
  | next =>
    cases out with
    | next ρ' =>
      obtain ⟨ad', S', ow⟩ := f
      refine hn ρ' p Ob Mb ad' { s with heap := h', toks := tk } Q E S' fun fl₂ h₂ tk₂ out₂ p₂ f₂ g₂ => ?_
      exact q fl₂ h₂ tk₂ out₂ p₂ (f₂.up ow g.1) (Agree.up ow g g₂)
    | _ => exact f.elim
  | brk =>
    cases out with
    | brk ρ' => exact q _ h' tk _ (hb ρ' p) f g
    | _ => exact f.elim
  | cont =>
    cases out with
    | cont ρ' => exact q _ h' tk _ (hc ρ' p) f g
    | _ => exact f.elim
  | ret v =>
    cases out with
    | ret T => exact q _ h' tk _ (hr T p) f g
    | _ => exact f.elim
/-- a statement that goes on, then the rest -/
theorem Ex.seq {st : Stmt} {rest : List Stmt} {ρ' : Rho} (h : Ex1 C ρ st (fun o => o = .next ρ')) (hn : Ex C ρ' rest Post) : Ex C ρ (st :: rest) Post :=
  Ex.cons h (fun ρ'' e => by cases e; exact hn) (fun _ e => by cases e) (fun _ e => by cases e) fun _ e => by cases e

theorem wp_execs_append {M : Model} {Γ : PySem.Ctx} {env : Env} {Q : Flow → Pos → Shared → Prop} {E : Value → Pos → Shared → Prop} {b : List Stmt} : ∀ {a : List Stmt} {p : Pos} {s : Shared},
    Sem.wp M Γ (execs (a ++ b) env) Q E p s = Sem.wp M Γ (execs a env) (fun f p s => match f with | .next => Sem.wp M Γ (execs b env) Q E p s | f => Q f p s) E p s
  | [], p, s => rfl
  | st :: r, p, s => by
    rw [List.cons_append, execs_cons, execs_cons, Sem.wp_bind', Sem.wp_bind']
    congr 1
    funext f p' s'
    cases f with
    | next => exact wp_execs_append
    | _ => rfl

theorem Ex.ite {t : Expr} {b e rest : List Stmt} {p : Pos} {c : Bool} (h : Tr C ρ t c) (h₁ : c = true → Ex C ρ (b ++ rest) Post) (h₂ : c = false → Ex C ρ (e ++ rest) Post) : Ex C ρ (.If t b e p :: rest) Post := fun Ob Mb ad s Q E S q => by
  intro Γ p₀ hΓ
  rw [execs_cons, Sem.wp_bind', exec_If]
  simp only [Sem.wp_bind', Sem.wp_cmd_standAt]
  refine Sem.wp_mono _ Γ _ (fun b' p' s' hb => ?_) (fun _ _ _ x => x) _ s (h Ob Mb ad s (fun b' s' => wpAny C.M C.A (execs ((if b' then b else e) ++ rest) C.env) Q E s') E S (fun h' tk y => ?_) Γ _ hΓ)
  · have hb' := hb Γ p' hΓ
    rw [wp_execs_append] at hb'
    have fin : ∀ (q : Sem Flow), Sem.wp C.M Γ q (fun f p s => match f with | .next => Sem.wp C.M Γ (execs rest C.env) (fun a _ s' => Q a s') (fun e _ s' => E e s') p s | f => Q f s) (fun e _ s' => E e s') p' s' →
        Sem.wp C.M Γ q (fun a p s => Sem.wp C.M Γ (match a with | .next => execs rest C.env | f => pure f) (fun a _ s' => Q a s') (fun e _ s' => E e s') p s) (fun e _ s' => E e s') p' s' := fun q hq =>
      Sem.wp_mono _ Γ _ (fun f p₁ s₁ x => by cases f <;> exact x) (fun _ _ _ x => x) _ _ hq
    cases b' with
    | true => exact fin _ hb'
    | false => exact fin _ hb'
  · have y' := y
    have key : Ex C ρ ((if c then b else e) ++ rest) Post := by
      cases c with
      | true => exact h₁ rfl
      | false => exact h₂ rfl
    exact key Ob Mb ad { s with heap := h', toks := tk } Q E (S.step y) fun fl h₂ tk₂ out p₂ f₂ g₂ => q fl h₂ tk₂ out p₂ (f₂.up (fun _ _ _ q => q) y.ag.1) ((Agree.mt S y).trans g₂)


/-- x = e -/
theorem Ex1.assign {x : Str} {px p : Pos} {e : Expr} {T : Ty} {b₀ : Bnd} (h : Ev C ρ e T) (hx : ρ.lookup x = some b₀) (hs : b₀.sto = true := by rfl) (hw : ∀ env, swapsWith e (some (.Name x px)) p.line env = pure false := by intro _; rfl) :
    Ex1 C ρ (.Assign [.Name x px] e p) (fun o => o = .next (put x (.val T) ρ)) := fun Ob Mb ad s Q E S q =>
  wpAny_Assign_Name (h Ob Mb ad s S _ E fun h' tk v y pv => (S.step y).set (s := { s with heap := h', toks := tk }) hx hs (.inr ⟨T, rfl, pv⟩) fun h₂ tk₂ a₂ S₂ _ m₂ _ g₂ =>
    q .next h₂ tk₂ _ rfl ⟨ad, S₂, fun a o _ w => w.put hx fun _ e => by cases e⟩ ((Agree.mt S y).trans (g₂.wk fun a w => .inl (w ▸ m₂)))) (hw _)

theorem Ex1.ret {e : Expr} {p : Pos} {T : Ty} (h : Ev C ρ e T) (hp : Post (.ret T)) : Ex1 C ρ (.Return (some e) p) Post := fun Ob Mb ad s Q E S q =>
  wpAny_Return_some (h Ob Mb ad s S _ E fun h' tk v y pv => q (.ret v) h' tk (.ret T) hp ⟨(S.step y).base.re (fun a w => .inl w) fun a w => S.mo a (S.mx a w), T.re (fun a _ _ w => .inl w) pv⟩ (Agree.mt S y))
theorem Ex.ret {e : Expr} {p : Pos} {T : Ty} {rest : List Stmt} (h : Ev C ρ e T) (hp : Post (.ret T)) : Ex C ρ (.Return (some e) p :: rest) Post :=
  Ex.cons (P := fun o => o = .ret T) (Ex1.ret h rfl) (fun _ e => by cases e) (fun _ e => by cases e) (fun _ e => by cases e) fun _ e => by cases e; exact hp

/-- a body within a loop: how its end goes on -/
def Turn (Nx : Rho → Prop) (Post : Out → Prop) : Out → Prop
  | .next ρ => Nx ρ
  | .cont ρ => Nx ρ
  | .brk ρ => Post (.next ρ)
  | .ret T => Post (.ret T)

theorem Ex1.while_ {t : Expr} {body : List Stmt} {p : Pos} (Inv : Nat → Rho → Prop) (n : Nat) (h₀ : Inv n ρ)
    (turn : ∀ k ρ', Inv k ρ' → ∃ b, Tr C ρ' t b ∧ (b = true → Ex C ρ' body (Turn (fun ρ'' => ∃ k', k' < k ∧ Inv k' ρ'') Post)) ∧ (b = false → Post (.next ρ'))) : Ex1 C ρ (.While t body [] p) Post := fun Ob Mb ad s Q E S q => by
  refine wpAny_While (codeAny_whileLoop (fun k s' => ∃ h' tk ρ' ad', s' = { s with heap := h', toks := tk } ∧ Inv k ρ' ∧ St C Ob Mb ρ' ad' h' ∧ (∀ a o, s.heap.get? a = some o → OwnAt ρ' ad' a → OwnAt ρ ad a) ∧ Agree (OO Mb ρ ad) s.heap h') ?_ n
    ⟨s.heap, s.toks, ρ, ad, rfl, h₀, S, fun _ _ _ w => w, .refl⟩)
  rintro k s' ⟨h', tk, ρ', ad', rfl, hi, S', ow, ag⟩
  obtain ⟨b, ht, hb, hf⟩ := turn k ρ' hi
  refine ht Ob Mb ad' { s with heap := h', toks := tk } _ _ S' fun h₂ tk₂ y => ?_
  have ag₂ : Agree (OO Mb ρ ad) s.heap h₂ := Agree.up ow ag (Agree.mt S' y)
  cases b with
  | false =>
    simp only [Bool.false_eq_true, if_false]
    exact wpAny_execs_nil (q .next h₂ tk₂ _ (hf rfl) ⟨ad', S'.step y, ow⟩ ag₂)
  | true =>
    simp only [if_true]
    refine hb rfl Ob Mb ad' { s with heap := h₂, toks := tk₂ } _ _ (S'.step y) fun fl h₃ tk₃ out po f g => ?_
    have ag₃ : Agree (OO Mb ρ ad) s.heap h₃ := Agree.up ow ag₂ g
    have ow₃ : ∀ ρ₃ ad₃, (∀ a o, h₂.get? a = some o → OwnAt ρ₃ ad₃ a → OwnAt ρ' ad' a) → ∀ a o, s.heap.get? a = some o → OwnAt ρ₃ ad₃ a → OwnAt ρ ad a := fun ρ₃ ad₃ k a o e w =>
      let ⟨o', e'⟩ := ag₂.1 a o e; ow a o e (k a o' e' w)
    cases fl with
    | next =>
      cases out with
      | next ρ₃ =>
        obtain ⟨k', lt, hi'⟩ := po
        obtain ⟨ad₃, S₃, w⟩ := f
        exact ⟨k', lt, h₃, tk₃, ρ₃, ad₃, rfl, hi', S₃, ow₃ ρ₃ ad₃ w, ag₃⟩
      | _ => exact f.elim
    | cont =>
      cases out with
      | cont ρ₃ =>
        obtain ⟨k', lt, hi'⟩ := po
        obtain ⟨ad₃, S₃, w⟩ := f
        exact ⟨k', lt, h₃, tk₃, ρ₃, ad₃, rfl, hi', S₃, ow₃ ρ₃ ad₃ w, ag₃⟩
      | _ => exact f.elim
    | brk =>
      cases out with
      | brk ρ₃ =>
        obtain ⟨ad₃, S₃, w⟩ := f
        exact q .next h₃ tk₃ (.next ρ₃) po ⟨ad₃, S₃, ow₃ ρ₃ ad₃ w⟩ ag₃
      | _ => exact f.elim
    | ret v =>
      cases out with
      | ret T => exact q (.ret v) h₃ tk₃ (.ret T) po f ag₃
      | _ => exact f.elim

/-- what an iteration hands out, in order -/
def Iter (C : Cx) (T : Ty) (Ts : List Ty) : Prop :=
  ∀ (O : Addr → Prop) (s : Shared) (v : Value) (Q : Value → Shared → Prop) (E : Value → Shared → Prop), C.Ok → Base C.W O s.heap → T.P O s.heap v →
    (∀ (I : Addr) (fp : List Addr) (P : Nat → Value → Prop) (Stt : Nat → Heap → Prop) (h' : Heap) (tk : Nat), s.heap.get? I = none → (∀ b o, s.heap.get? b = some o → h'.get? b = some o) →
      Walks C.W.prog C.W.w C.A I fp [I] Ts.length P Stt → Stt 0 h' → (∀ i h, Stt i h → ∃ o, h.get? I = some o) → (∀ b ∈ fp, b ≠ I → ¬ O b ∧ ∃ o, s.heap.get? b = some o) →
      (∀ i v T', P i v → Ts[i]? = some T' → T'.P O s.heap v) → Q (.ref I) { s with heap := h', toks := tk }) → wpAny C.M C.A (pyIter v) Q E s

/-- such a place is let go -/
theorem St.drop {Ob Mb : Addr → Prop} {ad : Str → Addr} {h h' : Heap} {I : Addr} (S : St C (fun b => Ob b ∨ b = I) Mb ρ ad h) (nO : ¬ Ob I) (mO : ∀ a, Mb a → Ob a) (cO : ∀ n c, (n, c) ∈ C.env.cells → Ob c) (k : ∀ b o, b ≠ I → h.get? b = some o → h'.get? b = some o) : St C Ob Mb ρ ad h' := by
  have wI : ∀ {y ds}, ρ.lookup y = some (.own ds) → ad y ≠ I := fun e z => by
    obtain ⟨_, _, n, _⟩ := S.vars _ _ e; exact n (.inr z)
  have nOO : ¬ OO Ob ρ ad I := fun q => q.elim nO fun ⟨y, ds, e, z⟩ => wI e z.symm
  have up : ∀ b, OO Ob ρ ad b → OO (fun b => Ob b ∨ b = I) ρ ad b := fun b q => q.imp .inl id
  have kO : ∀ b o, ¬ OO (fun b => Ob b ∨ b = I) ρ ad b → h.get? b = some o → h'.get? b = some o := fun b o n e => k b o (fun z => n (.inl (.inr z))) e
  have mI : ∀ a, Mb a → a ≠ I := fun a q z => nO (z ▸ mO a q)
  have cI : ∀ n c, (n, c) ∈ C.env.cells → c ≠ I := fun n c q z => nO (z ▸ cO n c q)
  have lc : ∀ {y v}, Loc C.env h y v → Loc C.env h' y v := by
    intro y v l
    cases l with
    | loc kk n => exact .loc kk (let ⟨o, es, ep, e, r⟩ := n; ⟨o, es, ep, k _ o (mI _ S.mL) e, r⟩)
    | cel kk ec n => exact .cel kk ec (let ⟨o, e, r⟩ := n; ⟨o, k _ o (cI _ _ (mem_of_lookup ec)) e, r⟩)
  refine { S with base := ?_, mo := mO, oc := fun n c q => ⟨cO n c q, (S.oc n c q).2⟩, ns := ?_, vars := ?_ }
  · refine ⟨fun b o e => k b o (fun z => by rw [z, S.base.old I (.inl (.inr rfl))] at e; cases e) (S.base.keep b o e), fun a q => .inl (mO a (S.mx a q)), fun a q => S.base.old a (up a q), fun a q => ?_, ?_⟩
    · obtain ⟨o, e⟩ := S.base.ex a (up a q)
      exact ⟨o, k a o (fun z => nOO (z ▸ q)) e⟩
    · refine C.W.I.re (fun a _ _ q => up a q) (C.W.I.mono₀ S.base.inv fun b o n e => k b o (fun z => n ⟨.inl (.inr z), fun q => mI b (S.mx b q) z⟩) e)
  · obtain ⟨m, o, es, ep, e, r⟩ := S.ns
    exact ⟨m, o, es, ep, k _ o (mI _ S.mL) e, r⟩
  · intro y c ec
    have H := S.vars y c ec
    cases c with
    | val T => obtain ⟨v, l, p⟩ := H; exact ⟨v, lc l, T.re (fun a _ _ q => up a q) (T.mono₀ p kO)⟩
    | own ds => obtain ⟨it, l, n, i, r⟩ := H; exact ⟨it, lc l, fun q => n (.inl q), PL_keep i fun o => k _ o (wI ec), RepL.re (fun a _ _ q => up a q) (r.mono₀ kO)⟩
    | free => obtain ⟨v, l⟩ := H; exact ⟨v, lc l⟩
    | ro T => obtain ⟨v, c, kk, lc', ic, p⟩ := H; exact ⟨v, c, kk, lc', (let ⟨o, e, r⟩ := ic; ⟨o, k _ o (cI _ _ (mem_of_lookup lc')) e, r⟩), T.re (fun a _ _ q => up a q) (T.mono₀ p kO)⟩

/-- a place that may change, but is no place of the frame's, is changed -/
theorem St.mut {Ob Mb : Addr → Prop} {ad : Str → Addr} {h h' : Heap} {I : Addr} (S : St C Ob Mb ρ ad h) (hI : Ob I) (mI : ¬ Mb I) (cI : ∀ n c, (n, c) ∈ C.env.cells → c ≠ I) (k : ∀ b o, b ≠ I → h.get? b = some o → h'.get? b = some o) (e : ∃ o, h'.get? I = some o) : St C Ob Mb ρ ad h' := by
  have ag : Agree (fun a => a = I) h h' := ⟨fun b o eb => if q : b = I then q ▸ e else ⟨o, k b o q eb⟩, fun b o n eb => k b o n eb⟩
  have agO : Agree (OO Ob ρ ad) h h' := ag.wk fun a q => by rw [q]; exact .inl hI
  have lc : ∀ {y v}, Loc C.env h y v → Loc C.env h' y v := by
    intro y v l
    cases l with
    | loc kk n => exact .loc kk (Ns_agree n ag fun q => mI (q ▸ S.mL))
    | cel kk ec n => exact .cel kk ec (IsCell_agree n ag (cI _ _ (mem_of_lookup ec)))
  have xI : ¬ C.W.X I := fun q => mI (S.mx _ q)
  refine { S with base := ⟨fun b o eb => k b o (fun q => by rw [q, S.base.old I (.inl hI)] at eb; cases eb) (S.base.keep b o eb), S.base.sub, S.base.old, fun a q => let ⟨o, eo⟩ := S.base.ex a q; ag.1 a o eo, C.W.I.mono S.base.inv (ag.wk fun a q => by rw [q]; exact ⟨.inl hI, xI⟩)⟩, ns := ?_, vars := ?_ }
  · obtain ⟨m, n⟩ := S.ns
    exact ⟨m, Ns_agree n ag fun q => mI (q ▸ S.mL)⟩
  · intro y c ec
    have H := S.vars y c ec
    cases c with
    | val T => obtain ⟨v, l, p⟩ := H; exact ⟨v, lc l, T.mono p agO⟩
    | own ds => obtain ⟨it, l, n, i, r⟩ := H; exact ⟨it, lc l, n, PL_agree i ag (fun q => n (by have q' : ad y = I := q; rw [q']; exact hI)), r.mono agO⟩
    | free => obtain ⟨v, l⟩ := H; exact ⟨v, lc l⟩
    | ro T => obtain ⟨v, c, kk, lc', ic, p⟩ := H; exact ⟨v, c, kk, lc', IsCell_agree ic ag (cI _ _ (mem_of_lookup lc')), T.mono p agO⟩
end
end Mine

namespace Mine
open PySem PySem.W PyProof.Rows PySem.Spec

section
variable {C : Cx} {ρ : Rho} {Post : Out → Prop}

theorem St.own_ex {Ob Mb : Addr → Prop} {ad : Str → Addr} {h : Heap} (S : St C Ob Mb ρ ad h) {a : Addr} (q : OwnAt ρ ad a) : ∃ o, h.get? a = some o := S.base.ex a (.inr q)

set_option maxHeartbeats 1000000 in
theorem Ex1.for_ {x : Str} {px p : Pos} {it : Expr} {body : List Stmt} {T : Ty} {Ts : List Ty} (Inv : Nat → Rho → Prop) (hi : Ev C ρ it T) (hI : Iter C T Ts) (h₀ : Inv 0 ρ)
    (hx : ∀ i ρ', Inv i ρ' → ∃ b, ρ'.lookup x = some b ∧ b.sto = true)
    (turn : ∀ i ρ' T', Ts[i]? = some T' → Inv i ρ' → Ex C (put x (.val T') ρ') body (Turn (Inv (i + 1)) Post))
    (done : ∀ ρ', Inv Ts.length ρ' → Post (.next ρ'))
    (hs : ∀ env x, foldedSetIterable it env x = pure x := by intro _ _; rfl) : Ex1 C ρ (.For (.Name x px) it body [] p) Post := fun Ob Mb ad s Q E S q => by
  refine wpAny_For (hi Ob Mb ad s S _ E fun h₁ tk₁ v y₁ pv => ?_) (hs _)
  have S₁ := S.step y₁
  refine hI (OO Ob ρ ad) { s with heap := h₁, toks := tk₁ } v _ E S.ok S₁.base pv fun I fp P Stt h₂ tk₂ nI ext W st₀ exI hfp hP => ?_
  have nI : h₁.get? I = none := nI
  have ext : ∀ b o, h₁.get? b = some o → h₂.get? b = some o := ext
  have S₂ := S₁.addE nI (exI 0 h₂ st₀) ext
  have mI : ¬ Mb I := fun w => by
    obtain ⟨o, e⟩ := S₁.base.ex I (.inl (S.mo I w)); rw [nI] at e; cases e
  have cI : ∀ n c, (n, c) ∈ C.env.cells → c ≠ I := fun n c w z => by
    obtain ⟨o, e⟩ := S₁.base.ex c (.inl (S.oc n c w).1); rw [z, nI] at e; cases e
  have oI : ¬ OwnAt ρ ad I := fun w => by
    obtain ⟨o, e⟩ := S₁.own_ex w; rw [nI] at e; cases e
  have ag₁ : Agree (OO Mb ρ ad) s.heap h₁ := Agree.mt S y₁
  -- from the state within the loop to the one ahead of it
  have tell : ∀ ρ' ad' h', St C (fun b => Ob b ∨ b = I) Mb ρ' ad' h' → (∀ a o, h₂.get? a = some o → OwnAt ρ' ad' a → OwnAt ρ ad a) → After C Ob Mb ρ ad s.heap ρ' h' := fun ρ' ad' h' S' ow =>
    ⟨ad', S'.less (fun a w => .inl w) S.mo fun n c w => (S.oc n c w).1, fun a o e w => let ⟨o', e'⟩ := y₁.ag.1 a o e; ow a o' (ext a o' e') w⟩
  have tellA : ∀ h', Agree (fun a => OO Mb ρ ad a ∨ a = I) h₂ h' → Agree (OO Mb ρ ad) s.heap h' := fun h' ag => by
    refine ag₁.trans ⟨fun b o e => ag.1 b o (ext b o e), fun b o n e => ag.2 b o (fun w => w.elim n fun z => ?_) (ext b o e)⟩
    rw [z, nI] at e; cases e
  refine codeAny_forLoop (fun k s' => ∃ h' tk i ρ' ad', s' = { s with heap := h', toks := tk } ∧ i ≤ Ts.length ∧ k = Ts.length + 1 - i ∧ Inv i ρ' ∧ St C (fun b => Ob b ∨ b = I) Mb ρ' ad' h' ∧ Stt i h' ∧
      (∀ a o, h₂.get? a = some o → OwnAt ρ' ad' a → OwnAt ρ ad a) ∧ Agree (fun a => OO Mb ρ ad a ∨ a = I) h₂ h') ?_ (Ts.length + 1)
    ⟨h₂, tk₂, 0, ρ, ad, rfl, Nat.zero_le _, rfl, h₀, S₂, st₀, fun _ _ _ w => w, .refl⟩
  rintro k s' ⟨h', tk, i, ρ', ad', rfl, hle, rfl, inv, S', st, ow, ag⟩
  by_cases hlt : i < Ts.length
  · refine W.item i _ _ _ hlt st fun w h₃ tk₃ hPw st₃ hk₃ => ?_
    have hk₃' : ∀ b o, b ≠ I → h'.get? b = some o → h₃.get? b = some o := fun b o n e => hk₃ b o (by simpa using n) e
    have S₃ : St C (fun b => Ob b ∨ b = I) Mb ρ' ad' h₃ := S'.mut (.inr rfl) mI cI hk₃' (exI _ _ st₃)
    have ag₃ : Agree (fun a => OO Mb ρ ad a ∨ a = I) h₂ h₃ := ag.trans ⟨fun b o e => if z : b = I then z ▸ (exI _ _ st₃) else ⟨o, hk₃' b o z e⟩, fun b o n e => hk₃' b o (fun z => n (.inr z)) e⟩
    obtain ⟨T', hT'⟩ : ∃ T', Ts[i]? = some T' := ⟨Ts[i], by simp [hlt]⟩
    have tp : T'.P (OO (fun b => Ob b ∨ b = I) ρ' ad') h₃ w := by
      refine T'.tr (hP i w T' hPw hT') (fun a o e wO => ?_) ⟨fun b o e => ag₃.1 b o (ext b o e), fun b o n e => ag₃.2 b o (fun z => z.elim (fun z => n (z.imp (S.mo b) id)) fun z => ?_) (ext b o e)⟩
      · rcases wO with (wO | wO) | wO
        · exact .inl wO
        · rw [wO] at e; rw [nI] at e; cases e
        · exact .inr (ow a o (ext a o e) wO)
      · rw [z] at e; rw [nI] at e; cases e
    obtain ⟨b₀, hb₀, hsto⟩ := hx i ρ' inv
    refine wpAny_assign_Name (S₃.set (s := { s with heap := h₃, toks := tk₃ }) hb₀ hsto (.inr ⟨T', rfl, tp⟩) fun h₄ tk₄ a₄ S₄ _ m₄ _ g₄ => ?_)
    refine turn i ρ' T' hT' inv _ Mb ad' { s with heap := h₄, toks := tk₄ } _ _ S₄ fun fl h₅ tk₅ out po f g => ?_
    have ow₄ : ∀ a o, h₂.get? a = some o → OwnAt (put x (.val T') ρ') ad' a → OwnAt ρ ad a := fun a o e w => ow a o e (w.put hb₀ fun _ z => by cases z)
    have ag₄ : Agree (fun a => OO Mb ρ ad a ∨ a = I) h₂ h₄ := ag₃.trans (g₄.wk fun a w => .inl (.inl (w ▸ m₄)))
    have ag₅ : Agree (fun a => OO Mb ρ ad a ∨ a = I) h₂ h₅ := ⟨fun b o e => let ⟨o', e'⟩ := ag₄.1 b o e; g.1 b o' e', fun b o n e => g.2 b o (fun w => n (.inl (w.imp id (ow₄ b o e)))) (ag₄.2 b o n e)⟩
    have ow₅ : ∀ ρ₅ ad₅, (∀ a o, h₄.get? a = some o → OwnAt ρ₅ ad₅ a → OwnAt (put x (.val T') ρ') ad' a) → ∀ a o, h₂.get? a = some o → OwnAt ρ₅ ad₅ a → OwnAt ρ ad a := fun ρ₅ ad₅ kk a o e w =>
      let ⟨o', e'⟩ := ag₄.1 a o e; ow₄ a o e (kk a o' e' w)
    have st₅ : Stt (i + 1) h₅ := by
      refine W.frame _ _ _ st₃ fun b hb o e => ?_
      have e₂ : ∃ o, h₂.get? b = some o := by
        by_cases z : b = I
        · exact z ▸ (exI 0 h₂ st₀)
        · obtain ⟨_, o, e⟩ := hfp b hb z; exact ⟨o, ext b o e⟩
      obtain ⟨o₂, e₂⟩ := e₂
      have nM : ¬ Mb b := by
        by_cases z : b = I
        · exact z ▸ mI
        · exact fun w => (hfp b hb z).1 (.inl (S.mo b w))
      have nO : ¬ OwnAt ρ ad b := by
        by_cases z : b = I
        · exact z ▸ oI
        · exact fun w => (hfp b hb z).1 (.inr w)
      exact g.2 b o (fun w => w.elim nM fun w => nO (ow₄ b o₂ e₂ w)) (g₄.2 b o (fun z => nM (z ▸ m₄)) e)
    have nxt : ∀ ρ₅, Inv (i + 1) ρ₅ → After C (fun b => Ob b ∨ b = I) Mb (put x (.val T') ρ') ad' h₄ ρ₅ h₅ → ∃ m, m < Ts.length + 1 - i ∧ ∃ h' tk i ρ' ad', ({ s with heap := h₅, toks := tk₅ } : Shared) = { s with heap := h', toks := tk } ∧ i ≤ Ts.length ∧ m = Ts.length + 1 - i ∧ Inv i ρ' ∧ St C (fun b => Ob b ∨ b = I) Mb ρ' ad' h' ∧ Stt i h' ∧
        (∀ a o, h₂.get? a = some o → OwnAt ρ' ad' a → OwnAt ρ ad a) ∧ Agree (fun a => OO Mb ρ ad a ∨ a = I) h₂ h' := fun ρ₅ inv₅ ⟨ad₅, S₅, w⟩ =>
      ⟨Ts.length + 1 - (i + 1), by omega, h₅, tk₅, i + 1, ρ₅, ad₅, rfl, hlt, rfl, inv₅, S₅, st₅, ow₅ ρ₅ ad₅ w, ag₅⟩
    cases fl with
    | next =>
      cases out with
      | next ρ₅ => exact nxt ρ₅ po f
      | _ => exact f.elim
    | cont =>
      cases out with
      | cont ρ₅ => exact nxt ρ₅ po f
      | _ => exact f.elim
    | brk =>
      cases out with
      | brk ρ₅ => obtain ⟨ad₅, S₅, w⟩ := f; exact q .next h₅ tk₅ (.next ρ₅) po (tell ρ₅ ad₅ h₅ S₅ (ow₅ ρ₅ ad₅ w)) (tellA h₅ ag₅)
      | _ => exact f.elim
    | ret v =>
      cases out with
      | ret T => exact q (.ret v) h₅ tk₅ (.ret T) po ⟨f.1.re (fun a w => .inl w) fun a w => S.mo a (S.mx a w), T.re (fun a _ _ w => .inl w) f.2⟩ (tellA h₅ ag₅)
      | _ => exact f.elim
  · obtain rfl : i = Ts.length := by omega
    refine W.done _ _ _ st fun h₃ tk₃ hk₃ => ?_
    have hk₃' : ∀ b o, b ≠ I → h'.get? b = some o → h₃.get? b = some o := fun b o n e => hk₃ b o (by simpa using n) e
    refine wpAny_execs_nil ?_
    have S₃ : St C Ob Mb ρ' ad' h₃ := S'.drop (fun w => by obtain ⟨o, e⟩ := S₁.base.ex I (.inl w); rw [nI] at e; cases e) S.mo (fun n c w => (S.oc n c w).1) hk₃'
    refine q .next h₃ tk₃ (.next ρ') (done ρ' inv) ⟨ad', S₃, fun a o e w => let ⟨o', e'⟩ := y₁.ag.1 a o e; ow a o' (ext a o' e') w⟩ ?_
    refine ag₁.trans ⟨fun b o e => ?_, fun b o n e => ?_⟩
    · obtain ⟨o', e'⟩ := ag.1 b o (ext b o e)
      exact ⟨o', hk₃' b o' (fun z => by rw [z, nI] at e; cases e) e'⟩
    · have z : b ≠ I := fun z => by rw [z, nI] at e; cases e
      exact hk₃' b o z (ag.2 b o (fun w => w.elim n z) (ext b o e))
end
end Mine

namespace Mine
open PySem PySem.W PyProof.Rows PySem.Spec

/-- what keeps a callee's arguments is known -/
def KeepOk (W : Wd) (f : Value) : Prop := ∀ (M : Model) (h : Heap), W.K.In h → ∃ k, (k = Keeper.frame ∨ k = Keeper.machine ∨ k = Keeper.boundFrame) ∧ Looks M h (keeperOf f) k
theorem KeepOk.builtin {W : Wd} {id : String} : KeepOk W (.builtin id) := fun _ _ _ => ⟨.machine, .inr (.inl rfl), Looks.of_pure rfl⟩
theorem KeepOk.type {W : Wd} {id : String} : KeepOk W (.type id) := fun _ _ _ => ⟨.machine, .inr (.inl rfl), Looks.of_pure rfl⟩
theorem KeepOk.ref {W : Wd} {f : Value} (h : keepIn W.K f = true) : KeepOk W f := fun _ h' x => keeps_K h h' x

section
variable {C : Cx} {ρ : Rho}

theorem St.kin {Ob Mb : Addr → Prop} {ad : Str → Addr} {h : Heap} (S : St C Ob Mb ρ ad h) : C.W.K.In h := S.ok.w.kin.keeps S.base.keep

/-- the parts of a call, then the call -/
theorem wpAny_args {M : Model} {A : Around} {E : Value → Shared → Prop} {s : Shared} {env : Env} {W : Wd} {pos : Pos} {f : Value} {first : List Value} {e : Expr} {es : List Expr} {Q : Value → Shared → Prop} (hk : KeepOk W f)
    (h : wpAny M A (spliced (backTo pos (starEach (e :: es) env))) (fun vs s₁ => W.K.In s₁.heap ∧ wpAny M A (call f (first ++ vs)) Q E s₁) E s)
    (he : starEach (e :: es) env = (false, eval e env) :: starEach es env) (hp : (backTo pos (starEach es env)).any (·.1) = false) : wpAny M A (callWith pos f first (backTo pos (starEach (e :: es) env)) []) Q E s := by
  rw [he] at h ⊢
  exact callWith_of (P := W.K.In) (by show ((false || (backTo pos (starEach es env)).any (·.1)) || false) = false; rw [hp]; rfl) (hk M) (Calls.evalArgs_plain h)
theorem wpAny_args0 {M : Model} {A : Around} {E : Value → Shared → Prop} {s : Shared} {env : Env} {W : Wd} {pos : Pos} {f : Value} {first : List Value} {Q : Value → Shared → Prop} (hk : KeepOk W f) (hK : W.K.In s.heap)
    (h : wpAny M A (call f first) Q E s) : wpAny M A (callWith pos f first (backTo pos (starEach [] env)) []) Q E s :=
  callWith_of (P := W.K.In) rfl (hk M) (evalArgs_nil3 ⟨hK, by simpa using h⟩)

theorem Ev.call {func e : Expr} {es : List Expr} {pos : Pos} {f : Value} {Ts : List Ty} {T : Ty} {lv : Nat} (hf : Ev C ρ func (eqT f)) (hk : KeepOk C.W f) (ha : EvL C ρ (e :: es) Ts) (hc : Cl C.W lv f Ts T) (hl : lv ≤ C.lv)
    (he : ∀ env, eval (.Call func (e :: es) [] pos) env = (do callWith pos (← eval func env) [] (backTo pos (starEach (e :: es) env)) (backToKw pos (keywordEach [] env))) := by intro _; rfl)
    (hs : ∀ env, starEach (e :: es) env = (false, eval e env) :: starEach es env := by intro _; rfl) (hp : ∀ env, (backTo pos (starEach es env)).any (·.1) = false := by intro _; rfl) : Ev C ρ (.Call func (e :: es) [] pos) T := fun Ob Mb ad s S Q E q => by
  refine Call_ (hf Ob Mb ad s S _ E fun h' tk v y pv => ?_) (he _)
  cases (pv : v = f)
  refine wpAny_args hk (ha Ob Mb ad { s with heap := h', toks := tk } pos _ E (S.step y) fun h₂ tk₂ vs y₂ pvs => ⟨((S.step y).step y₂).kin, ?_⟩) (hs _) (hp _)
  exact hc C (OO Ob ρ ad) { s with heap := h₂, toks := tk₂ } vs S.ok rfl hl ((S.step y).step y₂).base pvs Q E fun h₃ tk₃ v₃ y₃ p₃ => q h₃ tk₃ v₃ (y.trans (y₂.trans y₃)) p₃

/-- a method of a built-in type -/
def Mth (C : Cx) (T : Ty) (name : Str) (id : String) : Prop :=
  ∀ (O : Addr → Prop) (s : Shared) (v : Value) (pl : Sem Bool) (Q : Value × List Value → Shared → Prop) (E : Value → Shared → Prop), C.Ok → Base C.W O s.heap → T.P O s.heap v → Q (.builtin id, [v]) s → wpAny C.M C.A (getMethod v name pl) Q E s

theorem Ev.meth {o e : Expr} {es : List Expr} {name : Str} {apos pos : Pos} {id : String} {T₀ T : Ty} {Ts : List Ty} {lv : Nat} {pl : Env → Sem Bool} (ho : Ev C ρ o T₀) (hm : Mth C T₀ name id) (ha : EvL C ρ (e :: es) Ts) (hc : Cl C.W lv (.builtin id) (T₀ :: Ts) T) (hl : lv ≤ C.lv)
    (he : ∀ env, eval (.Call (.Attribute o name apos) (e :: es) [] pos) env = (do
      let ov ← eval o env
      standAt apos.atName
      let (f, first) ← holding [ov] (getMethod ov name (pl env))
      callWith pos f first (backTo pos (starEach (e :: es) env)) []) := by intro _; rfl)
    (hs : ∀ env, starEach (e :: es) env = (false, eval e env) :: starEach es env := by intro _; rfl) (hp : ∀ env, (backTo pos (starEach es env)).any (·.1) = false := by intro _; rfl) : Ev C ρ (.Call (.Attribute o name apos) (e :: es) [] pos) T := fun Ob Mb ad s S Q E q => by
  refine MethodCall_ (ho Ob Mb ad s S _ E fun h' tk v y pv => ?_) (he _)
  refine hm (OO Ob ρ ad) { s with heap := h', toks := tk } v _ _ E S.ok (S.step y).base pv ?_
  refine wpAny_args (W := C.W) KeepOk.builtin (ha Ob Mb ad { s with heap := h', toks := tk } pos _ E (S.step y) fun h₂ tk₂ vs y₂ pvs => ⟨((S.step y).step y₂).kin, ?_⟩) (hs _) (hp _)
  exact hc C (OO Ob ρ ad) { s with heap := h₂, toks := tk₂ } _ S.ok rfl hl ((S.step y).step y₂).base (.cons (T₀.mono pv ((S.step y).agO y₂)) pvs) Q E fun h₃ tk₃ v₃ y₃ p₃ => q h₃ tk₃ v₃ (y.trans (y₂.trans y₃)) p₃
theorem Ev.meth0 {o : Expr} {name : Str} {apos pos : Pos} {id : String} {T₀ T : Ty} {lv : Nat} {pl : Env → Sem Bool} (ho : Ev C ρ o T₀) (hm : Mth C T₀ name id) (hc : Cl C.W lv (.builtin id) [T₀] T) (hl : lv ≤ C.lv)
    (he : ∀ env, eval (.Call (.Attribute o name apos) [] [] pos) env = (do
      let ov ← eval o env
      standAt apos.atName
      let (f, first) ← holding [ov] (getMethod ov name (pl env))
      callWith pos f first (backTo pos (starEach [] env)) []) := by intro _; rfl) : Ev C ρ (.Call (.Attribute o name apos) [] [] pos) T := fun Ob Mb ad s S Q E q => by
  refine MethodCall_ (ho Ob Mb ad s S _ E fun h' tk v y pv => ?_) (he _)
  refine hm (OO Ob ρ ad) { s with heap := h', toks := tk } v _ _ E S.ok (S.step y).base pv ?_
  refine wpAny_args0 (W := C.W) KeepOk.builtin (S.step y).kin ?_
  exact hc C (OO Ob ρ ad) { s with heap := h', toks := tk } _ S.ok rfl hl (S.step y).base (.cons pv .nil) Q E fun h₃ tk₃ v₃ y₃ p₃ => q h₃ tk₃ v₃ (y.trans y₃) p₃
end

/-- the names of a def at its start -/
def mk0 (ps : List (Str × Ty)) : List (Str × NameKind) → Rho
  | [] => []
  | (n, k) :: r => match k with
    | .local => (n, match ps.lookup n with | some T => .val T | none => .free) :: mk0 ps r
    | .cell => (n, match ps.lookup n with | some T => .val T | none => .free) :: mk0 ps r
    | _ => mk0 ps r
theorem mk0_lookup {ps : List (Str × Ty)} {x : Str} {b : Bnd} : ∀ {names : List (Str × NameKind)}, (names.map (·.1)).Nodup → (mk0 ps names).lookup x = some b → (names.lookup x = some .local ∨ names.lookup x = some .cell) ∧ b = (match ps.lookup x with | some T => .val T | none => .free)
  | [], _, h => by cases h
  | (n, k) :: r, nd, h => by
    have nd' := (List.nodup_cons.mp nd)
    have go : (k = .local ∨ k = .cell) → ((n, (match ps.lookup n with | some T => Bnd.val T | none => .free)) :: mk0 ps r).lookup x = some b → (List.lookup x ((n, k) :: r) = some .local ∨ List.lookup x ((n, k) :: r) = some .cell) ∧ b = (match ps.lookup x with | some T => .val T | none => .free) := by
      intro hk h
      rw [List.lookup_cons] at h ⊢
      cases hx : x == n with
      | true =>
        rw [hx] at h
        have : x = n := by simpa using hx
        subst this
        simp only at h ⊢
        refine ⟨hk.imp (fun e => by rw [e]) (fun e => by rw [e]), (Option.some.inj h).symm⟩
      | false =>
        rw [hx] at h
        simp only at h ⊢
        exact mk0_lookup nd'.2 h
    have skip : (mk0 ps r).lookup x = some b → (List.lookup x ((n, k) :: r) = some .local ∨ List.lookup x ((n, k) :: r) = some .cell) ∧ b = (match ps.lookup x with | some T => .val T | none => .free) := by
      intro h
      have ih := mk0_lookup nd'.2 h
      have hx : (x == n) = false := by
        cases hx : x == n with
        | false => rfl
        | true =>
          have e : x = n := by simpa using hx
          exfalso
          subst e
          refine nd'.1 ?_
          rcases ih.1 with e | e
          · exact List.mem_map.mpr ⟨_, mem_of_lookup e, rfl⟩
          · exact List.mem_map.mpr ⟨_, mem_of_lookup e, rfl⟩
      rw [List.lookup_cons, hx]
      exact ih
    cases k with
    | «local» => exact go (.inl rfl) h
    | cell => exact go (.inr rfl) h
    | _ => exact skip h
theorem mk0_own {ps : List (Str × Ty)} {x : Str} {ds : List PyData} {names : List (Str × NameKind)} (nd : (names.map (·.1)).Nodup) : (mk0 ps names).lookup x ≠ some (.own ds) := fun h => by
  have := (mk0_lookup nd h).2
  split at this <;> cases this

theorem bindL_mem {kindOf : Str → Option NameKind} {x : Str} {v : Value} (hk : kindOf x = some .local) : ∀ {binds : List (Str × Value)} {m : Str → Option Value}, (binds.map (·.1)).Nodup → (x, v) ∈ binds → bindL kindOf binds m x = some v
  | (n, w) :: r, m, nd, h => by
    have nd' := (List.nodup_cons.mp nd)
    rcases List.mem_cons.mp h with e | h
    · cases e
      unfold bindL
      rw [if_pos hk]
      have keep : ∀ (r : List (Str × Value)) (m : Str → Option Value), x ∉ r.map (·.1) → bindL kindOf r m x = m x := by
        intro r
        induction r with
        | nil => intro m _; rfl
        | cons p r ih =>
          intro m hn
          have h1 : x ≠ p.1 := fun e => hn (by rw [e]; exact List.mem_cons_self)
          unfold bindL
          rw [ih _ fun q => hn (List.mem_cons_of_mem _ q)]
          split
          · simp [h1]
          · rfl
      rw [keep r _ nd'.1]
      simp
    · unfold bindL
      exact bindL_mem hk nd'.2 h
theorem bindC_mem {kindOf : Str → Option NameKind} {x : Str} {v : Value} (hk : kindOf x ≠ some .local) : ∀ {binds : List (Str × Value)} {m : Str → Option Value}, (binds.map (·.1)).Nodup → (x, v) ∈ binds → bindC kindOf binds m x = some v
  | (n, w) :: r, m, nd, h => by
    have nd' := (List.nodup_cons.mp nd)
    rcases List.mem_cons.mp h with e | h
    · cases e
      unfold bindC
      rw [if_neg hk]
      have keep : ∀ (r : List (Str × Value)) (m : Str → Option Value), x ∉ r.map (·.1) → bindC kindOf r m x = m x := by
        intro r
        induction r with
        | nil => intro m _; rfl
        | cons p r ih =>
          intro m hn
          have h1 : x ≠ p.1 := fun e => hn (by rw [e]; exact List.mem_cons_self)
          unfold bindC
          rw [ih _ fun q => hn (List.mem_cons_of_mem _ q)]
          split
          · rfl
          · simp [h1]
      rw [keep r _ nd'.1]
      simp
    · unfold bindC
      exact bindC_mem hk nd'.2 h

theorem TyL.length {O : Addr → Prop} {h : Heap} : ∀ {Ts : List Ty} {vs : List Value}, TyL O h Ts vs → vs.length = Ts.length
  | _, _, .nil => rfl
  | _, _, .cons _ r => by simp [TyL.length r]
theorem TyL.zip {O : Addr → Prop} {h : Heap} {x : Str} {T : Ty} : ∀ {ps : List (Str × Ty)} {vs : List Value}, TyL O h (ps.map (·.2)) vs → ps.lookup x = some T → ∃ v, (x, v) ∈ (ps.map (·.1)).zip vs ∧ T.P O h v
  | (n, U) :: r, _, .cons p q, e => by
    rw [List.lookup_cons] at e
    cases hx : x == n with
    | true =>
      rw [hx] at e
      have : x = n := by simpa using hx
      subst this
      cases e
      exact ⟨_, List.mem_cons_self, p⟩
    | false =>
      rw [hx] at e
      obtain ⟨v, m, pv⟩ := TyL.zip q e
      exact ⟨v, List.mem_cons_of_mem _ m, pv⟩

theorem cellsFrom_keys : ∀ {names : List (Str × NameKind)} {n m : Nat} {a b : List (Str × Addr)}, a.map (·.1) = b.map (·.1) → (cellsFrom n names a).map (·.1) = (cellsFrom m names b).map (·.1)
  | [], _, _, _, _, h => h
  | (x, k) :: r, n, m, a, b, h => by
    unfold cellsFrom
    split
    · exact cellsFrom_keys (by simp [h])
    · exact cellsFrom_keys h
theorem lookup_of_mem {α : Type} : ∀ {l : List (Str × α)} {n : Str} {c : α}, (l.map (·.1)).Nodup → (n, c) ∈ l → l.lookup n = some c
  | (k, v) :: r, n, c, nd, h => by
    have nd' := List.nodup_cons.mp nd
    rw [List.lookup_cons]
    rcases List.mem_cons.mp h with e | h
    · cases e; simp
    · cases hx : n == k with
      | true =>
        have e : n = k := by simpa using hx
        exact absurd (List.mem_map.mpr ⟨_, h, e⟩) nd'.1
      | false => exact lookup_of_mem nd'.2 h

/-- what a def's body may lean on -/
structure DefAt (W : Wd) (f : Addr) (q₀ : Str) (sc : Scope) (cdv : Value) (env : Env) : Prop where
  scope : env.scope = sc
  code : env.code = cdv
  qual : env.qual = q₀ ++ ".<locals>."
  frame : env.frame = some env.locals
  glob : env.globals = mainGlobals
  cells : ∀ x, sc.names.lookup x = some .cell → ∃ c, env.cells.lookup x = some c

set_option maxHeartbeats 1000000 in
theorem Cl.def_ {W : Wd} {lv : Nat} {f : Addr} {oc : Value} {od : Option Addr} {osl : Array (Option Value)} {name qual : Str} {params : Arguments} {body : List Stmt} {scope : Scope} {dV kV doc pm cdv ct : Value} {an : Option Addr} {ps : List (Str × Ty)} {T : Ty}
    (ho : W.K.lookup f = some ⟨oc, od, .func (fnOf name qual params body scope dV kV doc pm an cdv ct), osl⟩) (hcd : codeIn W.K cdv qual = true)
    (hbind : ∀ (s : Shared) (vs : List Value), vs.length = ps.length → BindsTo s (fnOf name qual params body scope dV kV doc pm an cdv ct) ⟨vs, []⟩ ((ps.map (·.1)).zip vs))
    (hnd : (scope.names.map (·.1)).Nodup) (hpd : (ps.map (·.1)).Nodup) (hkind : (ps.all fun y => scope.names.lookup y.1 == some .local || scope.names.lookup y.1 == some .cell) = true) (hcn : ((cellsFrom 0 scope.names []).map (·.1)).Nodup)
    (hb : ∀ (A : Around) (env : Env), DefAt W f qual scope cdv env → Ex ⟨W, A, env, lv, scope.names⟩ (mk0 ps scope.names) body (fun o => o = .ret T))
    (hco : scope.isCoroutine = false := by rfl) (hgen : scope.isGenerator = false := by rfl) (hk : scope.kind = .function := by rfl) : Cl W (lv + 1) (.ref f) (ps.map (·.2)) T := by
  intro C₀ O s vs ok eW hlv B tv Q E q
  subst eW
  have X := ok.w.kin.keeps B.keep
  obtain ⟨pr, loose, mg, mb, TT⟩ := ok.w.top
  have hlen : vs.length = ps.length := by rw [tv.length, List.length_map]
  refine wpAny_call (codeAny_call_function (by have := ok.dep; omega) (X _ _ ho) rfl hco hgen rfl (codeRec_of X hcd) (hbind s vs hlen _ _ _ _ ?_))
  have hkind' : ∀ n, ∀ x ∈ (ps.map (·.1)).zip vs, scope.names.lookup x.1 = some .local ∨ (scope.names.lookup x.1 = some .cell ∧ ((cellsFrom n scope.names []).lookup x.1).isSome = true) := by
    refine kindsX ?_
    refine List.all_eq_true.mpr fun y hy => ?_
    have hy1 : y.1 ∈ ps.map (·.1) := (List.of_mem_zip hy).1
    obtain ⟨p, hp, e⟩ := List.mem_map.mp hy1
    have := List.all_eq_true.mp hkind p hp
    rw [e] at this
    exact this
  refine wpAny_newFunctionEnv_cells hk (hkind' _) ?_
  intro env henv s₁ Ic
  have hkO : ∀ x, env.kindOf x = scope.names.lookup x := fun x => by rw [henv]; rfl
  obtain ⟨⟨⟨h₁, tk₁, e₁⟩, ns, keep, frs⟩, cell, apart, above⟩ := Ic
  have hL : env.locals = s.heap.objs.size := by rw [henv]; rfl
  have hcells : env.cells = cellsFrom (s.heap.objs.size + 1) scope.names [] := by rw [henv]; rfl
  have hcnd : (env.cells.map (·.1)).Nodup := by rw [hcells, cellsFrom_keys (m := 0) (b := []) rfl]; exact hcn
  subst e₁
  have keep : ∀ b o, s.heap.get? b = some o → h₁.get? b = some o := keep
  have ns : h₁.Ns env.locals _ := ns
  have cell : ∀ n c, env.cells.lookup n = some c → h₁.IsCell c _ := cell
  have nL : s.heap.get? env.locals = none := fresh_none (by rw [hL]; exact Nat.le_refl _)
  have nC : ∀ n c, (n, c) ∈ env.cells → s.heap.get? c = none := fun n c m => fresh_none (Nat.le_of_lt (by have := above n c m; rw [hL] at this; exact this))
  have cellM : ∀ n c, (n, c) ∈ env.cells → h₁.IsCell c (bindC env.kindOf ((ps.map (·.1)).zip vs) (fun _ => none) n) := fun n c m => cell n c (lookup_of_mem hcnd m)
  refine ⟨(TT.nolimit.keeps B.keep).keeps keep, codeAny_func ?_⟩
  have ok' : Cx.Ok ⟨C₀.W, C₀.A.deeper env, env, lv, scope.names⟩ := by
    refine ⟨ok.w, ok.hd, ?_, ?_, by show env.scope.kind = _; rw [henv]; exact hk, by show env.globals = _; rw [henv]; rfl, by show env.builtins = _; rw [henv]; rfl, by show env.scope.names = _; rw [henv]; rfl⟩
    · have := ok.dep
      show C₀.A.depth + 1 + lv < recursionLimit
      omega
    · have := ok.un
      show C₀.A.units + 3 + 100 * lv + 200 < cLine
      omega
  let Ob : Addr → Prop := fun a => O a ∨ a = env.locals ∨ ∃ n, (n, a) ∈ env.cells
  let Mb : Addr → Prop := fun a => C₀.W.X a ∨ a = env.locals ∨ ∃ n, (n, a) ∈ env.cells
  have newO : ∀ a o, s.heap.get? a = some o → Ob a → O a := fun a o e w => by
    rcases w with w | w | ⟨n, w⟩
    · exact w
    · rw [w, nL] at e; cases e
    · rw [nC n a w] at e; cases e
  have xO : ∀ a, C₀.W.X a → O a := B.sub
  have xno : ∀ a, s.heap.get? a = none → ¬ C₀.W.X a := fun a e w => by
    obtain ⟨o, e'⟩ := B.ex a (xO a w); rw [e] at e'; cases e'
  have oo : ∀ a, OO Ob (mk0 ps scope.names) (fun _ => 0) a → Ob a := fun a w => w.elim id fun ⟨x, ds, l, _⟩ => absurd l (mk0_own hnd)
  have gnone : ∀ a, s.heap.get? a = none → C₀.W.g.get? a = none := fun a e => by
    cases e' : C₀.W.g.get? a with
    | none => rfl
    | some o => have := B.keep a o e'; rw [e] at this; cases this
  have S : St ⟨C₀.W, C₀.A.deeper env, env, lv, scope.names⟩ Ob Mb (mk0 ps scope.names) (fun _ => 0) h₁ := by
    refine ⟨ok', ?_, fun a w => .inl w, fun a w => w.elim (fun w => .inl (xO a w)) fun w => .inr w, .inr (.inl rfl), xno _ nL, fun n c m => ⟨.inr (.inr ⟨n, m⟩), xno _ (nC n c m)⟩, fun n c m _ => .inr (.inr ⟨n, m⟩), apart, ⟨_, ns⟩, ?_, ?_⟩
    · refine Base.re (O := Ob) ⟨fun b o e => keep b o (B.keep b o e), fun a w => .inl (xO a w), ?_, ?_, ?_⟩ oo fun a w => .inl (.inl (xO a w))
      · intro a w
        rcases w with w | w | ⟨n, w⟩
        · exact B.old a w
        · exact gnone a (w ▸ nL)
        · exact gnone a (nC n a w)
      · intro a w
        rcases w with w | w | ⟨n, w⟩
        · obtain ⟨o, e⟩ := B.ex a w; exact ⟨o, keep a o e⟩
        · obtain ⟨o, _, _, e, _⟩ := ns; exact ⟨o, w ▸ e⟩
        · obtain ⟨o, e, _⟩ := cellM n a w; exact ⟨o, e⟩
      · exact C₀.W.I.mono (C₀.W.I.re newO B.inv) (.ext keep)
    · intro x b e
      obtain ⟨hkx, rfl⟩ := mk0_lookup hnd e
      have nd2 : (((ps.map (·.1)).zip vs).map (·.1)).Nodup := by
        rw [List.map_fst_zip (by rw [List.length_map, hlen]; exact Nat.le_refl _)]
        exact hpd
      have loc : ∀ v, (ps.lookup x = none → True) → (∀ w, v = some w → (x, w) ∈ (ps.map (·.1)).zip vs) → True := fun _ _ _ => trivial
      cases hp : ps.lookup x with
      | some U =>
        obtain ⟨v, m, pv⟩ := tv.zip hp
        have pv' : U.P (OO Ob (mk0 ps scope.names) (fun _ => 0)) h₁ v := U.tr pv (fun a o e w => newO a o e (oo a w)) (.ext keep)
        rcases hkx with hkx | hkx
        · have l := Loc.loc (env := env) (x := x) (by rw [hkO]; exact hkx) ns
          rw [bindL_mem (by rw [hkO]; exact hkx) nd2 m] at l
          exact ⟨v, l, pv'⟩
        · obtain ⟨c, hc⟩ := Option.isSome_iff_exists.mp (cellsFrom_some scope.names (s.heap.objs.size + 1) [] (.inl hkx))
          rw [← hcells] at hc
          have l := Loc.cel (env := env) (x := x) (by rw [hkO]; exact hkx) hc (cell x c hc)
          rw [bindC_mem (by rw [hkO, hkx]; intro z; cases z) nd2 m] at l
          exact ⟨v, l, pv'⟩
      | none =>
        rcases hkx with hkx | hkx
        · exact ⟨_, Loc.loc (env := env) (x := x) (by rw [hkO]; exact hkx) ns⟩
        · obtain ⟨c, hc⟩ := Option.isSome_iff_exists.mp (cellsFrom_some scope.names (s.heap.objs.size + 1) [] (.inl hkx))
          rw [← hcells] at hc
          exact ⟨_, Loc.cel (env := env) (x := x) (by rw [hkO]; exact hkx) hc (cell x c hc)⟩
    · intro x y ds es e _ _
      exact absurd e (mk0_own hnd)
  have D : DefAt C₀.W f qual scope cdv env := by
    refine ⟨by rw [henv]; rfl, by rw [henv]; rfl, by rw [henv]; rfl, by rw [henv]; rfl, by rw [henv]; rfl, fun x hx => ?_⟩
    obtain ⟨c, hc⟩ := Option.isSome_iff_exists.mp (cellsFrom_some scope.names (s.heap.objs.size + 1) [] (.inl hx))
    exact ⟨c, by rw [hcells]; exact hc⟩
  refine hb (C₀.A.deeper env) env D Ob Mb (fun _ => 0) { s with heap := h₁, toks := tk₁ } _ _ S fun fl h₂ tk₂ out po f g => ?_
  subst po
  cases fl with
  | ret v =>
    obtain ⟨B₂, pv⟩ := f
    refine q h₂ tk₂ v ⟨⟨fun b o e => g.1 b o (keep b o e), fun b o n e => g.2 b o (fun w => ?_) (keep b o e)⟩, fun _ => C₀.W.I.re (fun a _ _ w => .inl w) B₂.inv⟩ (T.re (fun a _ _ w => .inl w) pv)
    rcases w with (w | w | ⟨m, w⟩) | ⟨x, ds, l, _⟩
    · exact n w
    · rw [w, nL] at e; cases e
    · rw [nC m b w] at e; cases e
    · exact absurd l (mk0_own hnd)
  | _ => exact f.elim
end Mine

namespace Mine
open PySem PySem.W PyProof.Rows PySem.Spec

/-- the cells that a block closes over -/
def closL (cf : Str → Addr) : List (Str × NameKind) → List (Str × Addr) → List (Str × Addr)
  | [], acc => acc
  | (n, k) :: r, acc => if k == .free then closL cf r ((n, cf n) :: acc) else closL cf r acc
theorem closureFor_eq {scope : Scope} {env : Env} {cf : Str → Addr} (h : ∀ n, (n, NameKind.free) ∈ scope.names → env.cells.lookup n = some (cf n)) : closureFor scope env = pure (closL cf scope.names []) := by
  unfold closureFor
  have go : ∀ (names : List (Str × NameKind)) (acc : List (Str × Addr)), (∀ n, (n, NameKind.free) ∈ names → env.cells.lookup n = some (cf n)) →
      (forIn names acc fun x r => let (name, kind) := x; if (kind == .free) = true then do let a ← cellOf env name; pure (ForInStep.yield ((name, a) :: r)) else pure (ForInStep.yield r)) = (pure (closL cf names acc) : Sem _) := by
    intro names
    induction names with
    | nil => intro acc _; rfl
    | cons p r ih =>
      obtain ⟨n, k⟩ := p
      intro acc h
      rw [List.forIn_cons]
      unfold closL
      cases hk : k == NameKind.free with
      | true =>
        have e : k = .free := by simpa using hk
        subst e
        have hc : cellOf env n = pure (cf n) := by unfold cellOf; rw [h n List.mem_cons_self]
        simp only [hc, pure_bind, if_true, hk]
        exact ih _ fun m hm => h m (List.mem_cons_of_mem _ hm)
      | false =>
        simp only [Bool.false_eq_true, if_false, pure_bind, hk]
        exact ih _ fun m hm => h m (List.mem_cons_of_mem _ hm)
  exact (congrArg (fun t : Sem (List (Str × Addr)) => t >>= fun s => pure s) (go scope.names [] h)).trans rfl
theorem closL_mem {cf : Str → Addr} {n : Str} {c : Addr} : ∀ {names : List (Str × NameKind)} {acc : List (Str × Addr)}, (n, c) ∈ closL cf names acc → (n, c) ∈ acc ∨ ((n, NameKind.free) ∈ names ∧ c = cf n)
  | [], acc, h => .inl h
  | (m, k) :: r, acc, h => by
    unfold closL at h
    split at h
    · rename_i q
      have e : k = .free := by simpa using q
      rcases closL_mem h with h | ⟨h, e'⟩
      · rcases List.mem_cons.mp h with h | h
        · cases h; exact .inr ⟨by rw [e]; exact List.mem_cons_self, rfl⟩
        · exact .inl h
      · exact .inr ⟨List.mem_cons_of_mem _ h, e'⟩
    · rcases closL_mem h with h | ⟨h, e'⟩
      · exact .inl h
      · exact .inr ⟨List.mem_cons_of_mem _ h, e'⟩

theorem closL_lookup {cf : Str → Addr} {n : Str} {names : List (Str × NameKind)} (h : (n, NameKind.free) ∈ names) : (closL cf names []).lookup n = some (cf n) := by
  have go : ∀ (names : List (Str × NameKind)) (acc : List (Str × Addr)), ((n, NameKind.free) ∈ names ∨ acc.lookup n = some (cf n)) → (∀ c, (n, c) ∈ acc → c = cf n) → (closL cf names acc).lookup n = some (cf n) := by
    intro names
    induction names with
    | nil => intro acc h _; exact h.elim (fun h => nomatch h) id
    | cons p r ih =>
      obtain ⟨m, k⟩ := p
      intro acc h ha
      unfold closL
      split
      · rename_i q
        have e : k = .free := by simpa using q
        refine ih _ ?_ ?_
        · by_cases hm : n = m
          · subst hm; exact .inr (by simp)
          · rcases h with h | h
            · rcases List.mem_cons.mp h with h | h
              · cases h; exact absurd rfl hm
              · exact .inl h
            · exact .inr (by rw [List.lookup_cons]; have : (n == m) = false := by simpa using hm
                             rw [this]; exact h)
        · intro c hc
          rcases List.mem_cons.mp hc with hc | hc
          · cases hc; rfl
          · exact ha c hc
      · rename_i q
        refine ih _ ?_ ha
        rcases h with h | h
        · rcases List.mem_cons.mp h with h | h
          · cases h; exact absurd rfl q
          · exact .inl h
        · exact .inr h
  exact go names [] (.inl h) fun c hc => nomatch hc
theorem closL_keys {cf : Str → Addr} : ∀ {names : List (Str × NameKind)} {acc : List (Str × Addr)}, (names.map (·.1)).Nodup → (∀ x ∈ acc, x.1 ∉ names.map (·.1)) → (acc.map (·.1)).Nodup → ((closL cf names acc).map (·.1)).Nodup
  | [], acc, _, _, h => h
  | (m, k) :: r, acc, nd, ha, h => by
    have nd' := List.nodup_cons.mp nd
    unfold closL
    split
    · refine closL_keys nd'.2 ?_ ?_
      · intro x hx
        rcases List.mem_cons.mp hx with e | hx
        · rw [e]; exact nd'.1
        · exact fun q => ha x hx (List.mem_cons_of_mem _ q)
      · refine List.nodup_cons.mpr ⟨fun q => ?_, h⟩
        obtain ⟨x, hx, e⟩ := List.mem_map.mp q
        exact ha x hx (by rw [e]; exact List.mem_cons_self)
    · exact closL_keys nd'.2 (fun x hx q => ha x hx (List.mem_cons_of_mem _ q)) h

/-- a block's names as it runs -/
def relab (outer : List (Str × NameKind)) (names : List (Str × NameKind)) : List (Str × NameKind) := names.map fun p => if p.2 == .free && outer.lookup p.1 == some .cell then (p.1, .cell) else p
/-- what a block's names hold -/
def compRho (ρ : Rho) (x : Str) (b : Bnd) : List (Str × NameKind) → Rho
  | [] => []
  | (n, k) :: r => match k with
    | .local => if n == x then (n, b) :: compRho ρ x b r else compRho ρ x b r
    | .cell => (match ρ.lookup n with | some (.val T) => (n, .val T) :: compRho ρ x b r | _ => compRho ρ x b r)
    | .free => (match ρ.lookup n with | some (.ro T) => (n, .ro T) :: compRho ρ x b r | _ => compRho ρ x b r)
    | _ => compRho ρ x b r
theorem compRho_lookup {ρ : Rho} {x y : Str} {b c : Bnd} : ∀ {names : List (Str × NameKind)}, (compRho ρ x b names).lookup y = some c → (y = x ∧ c = b ∧ (y, NameKind.local) ∈ names) ∨ (∃ T, c = .val T ∧ ρ.lookup y = some (.val T) ∧ (y, NameKind.cell) ∈ names) ∨ (∃ T, c = .ro T ∧ ρ.lookup y = some (.ro T) ∧ (y, NameKind.free) ∈ names)
  | [], h => by cases h
  | (n, k) :: r, h => by
    have up : ∀ {c}, ((y = x ∧ c = b ∧ (y, NameKind.local) ∈ r) ∨ (∃ T, c = .val T ∧ ρ.lookup y = some (.val T) ∧ (y, NameKind.cell) ∈ r) ∨ (∃ T, c = .ro T ∧ ρ.lookup y = some (.ro T) ∧ (y, NameKind.free) ∈ r)) →
        ((y = x ∧ c = b ∧ (y, NameKind.local) ∈ (n, k) :: r) ∨ (∃ T, c = .val T ∧ ρ.lookup y = some (.val T) ∧ (y, NameKind.cell) ∈ (n, k) :: r) ∨ (∃ T, c = .ro T ∧ ρ.lookup y = some (.ro T) ∧ (y, NameKind.free) ∈ (n, k) :: r)) := fun h =>
      h.imp (fun ⟨a, b, c⟩ => ⟨a, b, List.mem_cons_of_mem _ c⟩) fun h => h.imp (fun ⟨T, a, b, c⟩ => ⟨T, a, b, List.mem_cons_of_mem _ c⟩) fun ⟨T, a, b, c⟩ => ⟨T, a, b, List.mem_cons_of_mem _ c⟩
    cases k with
    | «local» =>
      simp only [compRho] at h
      split at h
      · rename_i q
        have e : n = x := by simpa using q
        rw [List.lookup_cons] at h
        cases hy : y == n with
        | true =>
          rw [hy] at h
          have e' : y = n := by simpa using hy
          exact .inl ⟨e'.trans e, (Option.some.inj h).symm, by rw [e']; exact List.mem_cons_self⟩
        | false => rw [hy] at h; exact up (compRho_lookup h)
      · exact up (compRho_lookup h)
    | cell =>
      simp only [compRho] at h
      split at h
      · rename_i T hT
        rw [List.lookup_cons] at h
        cases hy : y == n with
        | true =>
          rw [hy] at h
          have e' : y = n := by simpa using hy
          exact .inr (.inl ⟨T, (Option.some.inj h).symm, by rw [e']; exact hT, by rw [e']; exact List.mem_cons_self⟩)
        | false => rw [hy] at h; exact up (compRho_lookup h)
      · exact up (compRho_lookup h)
    | free =>
      simp only [compRho] at h
      split at h
      · rename_i T hT
        rw [List.lookup_cons] at h
        cases hy : y == n with
        | true =>
          rw [hy] at h
          have e' : y = n := by simpa using hy
          exact .inr (.inr ⟨T, (Option.some.inj h).symm, by rw [e']; exact hT, by rw [e']; exact List.mem_cons_self⟩)
        | false => rw [hy] at h; exact up (compRho_lookup h)
      · exact up (compRho_lookup h)
    | _ => exact up (compRho_lookup (by simpa only [compRho] using h))


theorem compRho_off {ρ : Rho} {x : Str} {b b' : Bnd} : ∀ {names : List (Str × NameKind)}, x ∉ names.map (·.1) → compRho ρ x b names = compRho ρ x b' names
  | [], _ => rfl
  | (n, k) :: r, h => by
    have h1 : (n == x) = false := by
      cases e : n == x with
      | false => rfl
      | true => exact absurd (by have : n = x := by simpa using e
                                 rw [← this]; exact List.mem_cons_self) h
    have ih := compRho_off (ρ := ρ) (b := b) (b' := b') (names := r) fun q => h (List.mem_cons_of_mem _ q)
    cases k with
    | «local» => simp only [compRho, h1, Bool.false_eq_true, if_false]; exact ih
    | cell => simp only [compRho]; rw [ih]
    | free => simp only [compRho]; rw [ih]
    | _ => simp only [compRho]; exact ih
theorem compRho_put {ρ : Rho} {x : Str} {b b' : Bnd} : ∀ {names : List (Str × NameKind)}, (names.map (·.1)).Nodup → (x, NameKind.local) ∈ names → put x b' (compRho ρ x b names) = compRho ρ x b' names
  | (n, k) :: r, nd, h => by
    have nd' := List.nodup_cons.mp nd
    rcases List.mem_cons.mp h with e | h
    · cases e
      simp only [compRho, BEq.rfl, if_true, put]
      rw [compRho_off nd'.1]
    · have h1 : (n == x) = false := by
        cases e : n == x with
        | false => rfl
        | true =>
          exfalso
          have e' : n = x := by simpa using e
          exact nd'.1 (by rw [e']; exact List.mem_map.mpr ⟨_, h, rfl⟩)
      have h2 : (x == n) = false := by
        cases e : x == n with
        | false => rfl
        | true =>
          have e' : x = n := by simpa using e
          rw [e'] at h1; simp at h1
      have ih := compRho_put (ρ := ρ) (b := b) (b' := b') nd'.2 h
      cases k with
      | «local» => simp only [compRho, h1, Bool.false_eq_true, if_false]; exact ih
      | cell =>
        simp only [compRho]
        split
        · simp only [put, h2, Bool.false_eq_true, if_false]; rw [ih]
        · exact ih
      | free =>
        simp only [compRho]
        split
        · simp only [put, h2, Bool.false_eq_true, if_false]; rw [ih]
        · exact ih
      | _ => simp only [compRho]; exact ih
theorem compRho_self {ρ : Rho} {x : Str} {b : Bnd} : ∀ {names : List (Str × NameKind)}, (names.map (·.1)).Nodup → (x, NameKind.local) ∈ names → (compRho ρ x b names).lookup x = some b
  | (n, k) :: r, nd, h => by
    have nd' := List.nodup_cons.mp nd
    rcases List.mem_cons.mp h with e | h
    · cases e
      simp [compRho]
    · have h2 : (x == n) = false := by
        cases e : x == n with
        | false => rfl
        | true =>
          exfalso
          have e' : x = n := by simpa using e
          exact nd'.1 (by rw [← e']; exact List.mem_map.mpr ⟨_, h, rfl⟩)
      have h1 : (n == x) = false := by
        cases e : n == x with
        | false => rfl
        | true =>
          have e' : n = x := by simpa using e
          rw [e'] at h2; simp at h2
      have ih := compRho_self (ρ := ρ) (b := b) nd'.2 h
      cases k with
      | «local» => simp only [compRho, h1, Bool.false_eq_true, if_false]; exact ih
      | cell =>
        simp only [compRho]
        split
        · rw [List.lookup_cons, h2]; exact ih
        · exact ih
      | free =>
        simp only [compRho]
        split
        · rw [List.lookup_cons, h2]; exact ih
        · exact ih
      | _ => simp only [compRho]; exact ih
theorem relab_keys {outer names : List (Str × NameKind)} : (relab outer names).map (·.1) = names.map (·.1) := by
  unfold relab
  rw [List.map_map]
  congr 1
  funext p
  simp only [Function.comp]
  split <;> rfl
theorem relab_mem {outer names : List (Str × NameKind)} {n : Str} {k : NameKind} (h : (n, k) ∈ relab outer names) : (n, k) ∈ names ∨ (k = .cell ∧ (n, NameKind.free) ∈ names ∧ outer.lookup n = some .cell) := by
  obtain ⟨p, hp, e⟩ := List.mem_map.mp h
  obtain ⟨m, k'⟩ := p
  dsimp only at e
  split at e
  · rename_i q
    cases e
    have q' := Bool.and_eq_true_iff.mp q
    have e1 : k' = .free := by simpa using q'.1
    exact .inr ⟨rfl, by rw [← e1]; exact hp, by simpa using q'.2⟩
  · cases e; exact .inl hp
theorem relab_loc {outer names : List (Str × NameKind)} {n : Str} (h : (n, NameKind.local) ∈ names) : (n, NameKind.local) ∈ relab outer names :=
  List.mem_map.mpr ⟨_, h, by simp⟩

section
variable {C : Cx} {ρ : Rho}

/-- a block's context -/
abbrev Cx.comp (C : Cx) (scope : Scope) (env : Env) : Cx := ⟨C.W, C.A, env, C.lv, relab C.names scope.names⟩

theorem relabel_names {scope : Scope} (ok : C.Ok) : (relabel scope C.env).names = relab C.names scope.names := by
  unfold relabel relab
  dsimp only
  congr 1
  funext p
  obtain ⟨n, k⟩ := p
  simp only [ok.kind, Env.kindOf, ok.nm]
  cases k <;> simp <;> rfl

theorem comp_ok {scope : Scope} {cl : List (Str × Addr)} {Cc : Addr} (ok : C.Ok) (hk : scope.kind = .function) : (C.comp scope (compEnvC scope cl Cc C.env)).Ok :=
  ⟨ok.w, ok.hd, ok.dep, ok.un, hk, ok.gl, ok.bl, relabel_names ok⟩
end
end Mine

namespace Mine
open PySem PySem.W PyProof.Rows PySem.Spec

section
variable {C : Cx} {ρ : Rho}

def freeOk (ρ : Rho) (outer : List (Str × NameKind)) (names : List (Str × NameKind)) : Bool := names.all fun p => p.2 != .free || ((ρ.lookup p.1).isSome && (outer.lookup p.1 == some .cell || outer.lookup p.1 == some .free))

theorem St.cellAt {Ob Mb : Addr → Prop} {ad : Str → Addr} {h : Heap} (S : St C Ob Mb ρ ad h) {n : Str} (hn : (ρ.lookup n).isSome = true) (hk : C.names.lookup n = some .cell ∨ C.names.lookup n = some .free) : ∃ c, C.env.cells.lookup n = some c := by
  obtain ⟨b, hb⟩ := Option.isSome_iff_exists.mp hn
  have kk : C.env.kindOf n = C.names.lookup n := by unfold Env.kindOf; rw [S.ok.nm]
  have go : ∀ v, Loc C.env h n v → ∃ c, C.env.cells.lookup n = some c := by
    intro v l
    cases l with
    | loc k _ => rw [kk] at k; rcases hk with q | q <;> rw [q] at k <;> cases k
    | cel _ e _ => exact ⟨_, e⟩
  have H := S.vars n b hb
  cases b with
  | val T => obtain ⟨v, l, _⟩ := H; exact go _ l
  | own ds => obtain ⟨_, l, _⟩ := H; exact go _ l
  | free => obtain ⟨v, l⟩ := H; exact go _ l
  | ro T => obtain ⟨v, c, _, e, _⟩ := H; exact ⟨c, e⟩

theorem Agree.off {X : Addr → Prop} {h₀ h h' : Heap} {J : Addr} (ag : Agree X h₀ h) (nJ : h₀.get? J = none) (g : Agree (fun a => a = J) h h') : Agree X h₀ h' :=
  ⟨fun b o e => let ⟨o', e'⟩ := ag.1 b o e; g.1 b o' e', fun b o n e => g.2 b o (fun z => by have z' : b = J := z; rw [z', nJ] at e; cases e) (ag.2 b o n e)⟩

/-- how the parts of a block come out: the items, the test, the element -/
structure Block (C : Cx) (ρ : Rho) (x : Str) (scope : Scope) (ifs : List Expr) (elt : Expr) (ds : List PyData) (p : PyData → Bool) (F : PyData → PyData) : Prop where
  kind : scope.kind = .function
  nd : (scope.names.map (·.1)).Nodup
  hx : (x, NameKind.local) ∈ scope.names
  nc : ∀ y ∈ scope.names, y.2 ≠ .cell
  free : freeOk ρ C.names scope.names = true
  sz : ds.length ≤ sizeLine
  test : ∀ d ∈ ds, ∀ env, (ifs = [] ∧ p d = true) ∨ ∃ c, ifs = [c] ∧ Tr (C.comp scope env) (compRho ρ x (.val (dt d)) (relab C.names scope.names)) c (p d)
  elt : ∀ d ∈ ds, p d = true → ∀ env, Ev (C.comp scope env) (compRho ρ x (.val (dt d)) (relab C.names scope.names)) elt (dt (F d))

theorem tests_run {Ob Mb : Addr → Prop} {ad : Str → Addr} {s : Shared} {Q : Bool → Shared → Prop} {E : Value → Shared → Prop} {ifs : List Expr} {b : Bool} (h : (ifs = [] ∧ b = true) ∨ ∃ c, ifs = [c] ∧ Tr C ρ c b) (S : St C Ob Mb ρ ad s.heap)
    (q : ∀ h' tk, Step C.W (OO Ob ρ ad) s.heap h' → Q b { s with heap := h', toks := tk }) :
    wpAny C.M C.A (forIn ifs true fun c r => if r = true then do let ok ← isTrue c C.env (eval c C.env); pure (ForInStep.yield ok) else pure (ForInStep.yield r)) Q E s := by
  rcases h with ⟨rfl, rfl⟩ | ⟨c, rfl, h⟩
  · exact wpAny_pure (q s.heap s.toks .refl)
  · simp only [List.forIn_cons, List.forIn_nil, if_true]
    exact wpAny_bind (wpAny_bind (h Ob Mb ad s _ E S fun h' tk y => wpAny_pure (wpAny_pure (q h' tk y))))

set_option maxHeartbeats 2000000 in
theorem comp_block {Ob Mb : Addr → Prop} {ad : Str → Addr} {s : Shared} {x : Str} {px pos : Pos} {scope : Scope} {ifs : List Expr} {elt iter : Expr} {ds : List PyData} {p : PyData → Bool} {F : PyData → PyData} {I : Addr} {fp : List Addr} {P : Nat → Value → Prop} {Stt : Nat → Heap → Prop} {h₂ : Heap} {tk₂ : Nat}
    {RR : Value → Addr → Result → Shared → Prop} {E : Value → Shared → Prop}
    (B : Block C ρ x scope ifs elt ds p F) (S : St C Ob Mb ρ ad s.heap) (nI : s.heap.get? I = none) (ext : ∀ b o, s.heap.get? b = some o → h₂.get? b = some o)
    (W : Walks C.W.prog C.W.w C.A I fp [I] (ds.map dt).length P Stt) (st₀ : Stt 0 h₂) (exI : ∀ i h, Stt i h → ∃ o, h.get? I = some o) (hfp : ∀ b ∈ fp, b ≠ I → ¬ OO Ob ρ ad b ∧ ∃ o, s.heap.get? b = some o)
    (hP : ∀ i v T', P i v → (ds.map dt)[i]? = some T' → T'.P (OO Ob ρ ad) s.heap v) {cf : Str → Addr} (hcf : ∀ n, (n, NameKind.free) ∈ scope.names → C.env.cells.lookup n = some (cf n))
    (hRR : ∀ D Cc h' tk items m', s.heap.get? D = none → s.heap.get? Cc = none → D ≠ Cc → h'.Ns Cc m' → h'.PlainList D items → RepL (fun a => OO Ob ρ ad a ∨ a = D ∨ a = Cc) h' items.toList ((ds.filter p).map F) → Agree C.W.X s.heap h' → C.W.I.P (fun a => OO Ob ρ ad a ∨ a = D ∨ a = Cc) h' →
      RR (.ref D) Cc (.ok .next) { s with heap := h', toks := tk }) :
    wpAny C.M C.A (newList []) (fun acc s₃ => wpAny C.M C.A (newFunctionEnv scope C.env.globals (closL cf scope.names []) [] C.env.qual none .none (some C.env)) (fun cenv s₄ =>
      codeAny C.M C.A (.compStart (.ListComp elt [⟨.Name x px, iter, ifs, 0⟩] scope pos) 0 (.ref I) acc { cenv with scope := relabel scope C.env }) (RR acc cenv.locals) s₄) E s₃) E { s with heap := h₂, toks := tk₂ } := by
  refine wpAny_newObj_type (wpAny_newFunctionEnv B.nc (by intro y hy; simp at hy) (fun h₄ hns₄ hsb₄ => ?_) B.kind)
  dsimp only at hns₄ hsb₄ ⊢
  generalize hH3 : h₂.push { cls := .type "list", dict := none, data := .seq ([] : List Value).toArray } = H3 at hns₄ hsb₄ ⊢
  have hC : H3.objs.size = h₂.objs.size + 1 := by rw [← hH3, Heap.size_push]
  generalize hD : h₂.objs.size = D at hC ⊢
  generalize hCc : H3.objs.size = Cc at hC hns₄ hsb₄ ⊢
  have n2D : h₂.get? D = none := fresh_none (by rw [hD]; exact Nat.le_refl _)
  have n2C : h₂.get? Cc = none := fresh_none (by rw [hD, hC]; exact Nat.le_succ _)
  have hDC : D ≠ Cc := by rw [hC]; exact Nat.ne_of_lt (Nat.lt_succ_self _)
  have old₂ : ∀ b o, h₂.get? b = some o → h₄.get? b = some o := fun b o e => hsb₄.extBut b o (fun q => by rw [q, n2C] at e; cases e) (Heap.get?_push_of_some _ (hH3 ▸ Heap.get?_push_of_some _ e))
  have hacc : h₄.PlainList D #[] := ⟨_, hsb₄.extBut _ _ hDC (Heap.get?_push_of_some _ (by rw [← hH3, ← hD]; exact Heap.get?_push_size _ rfl))⟩
  have old : ∀ b o, s.heap.get? b = some o → h₄.get? b = some o := fun b o e => old₂ b o (ext b o e)
  have nD : s.heap.get? D = none := by
    cases e : s.heap.get? D with
    | none => rfl
    | some o => have := ext D o e; rw [n2D] at this; cases this
  have nC : s.heap.get? Cc = none := by
    cases e : s.heap.get? Cc with
    | none => rfl
    | some o => have := ext Cc o e; rw [n2C] at this; cases this
  obtain ⟨oI, eI⟩ := exI 0 h₂ st₀
  have hID : I ≠ D := fun q => by rw [q, n2D] at eI; cases eI
  have hIC : I ≠ Cc := fun q => by rw [q, n2C] at eI; cases eI
  let O : Addr → Prop := OO Ob ρ ad
  let O' : Addr → Prop := fun a => O a ∨ a = I ∨ a = D ∨ a = Cc
  let M' : Addr → Prop := fun a => C.W.X a ∨ a = Cc ∨ ∃ n, (n, a) ∈ closL cf scope.names []
  let C' : Cx := C.comp scope (compEnvC scope (closL cf scope.names []) Cc C.env)
  have ok' : C'.Ok := comp_ok S.ok B.kind
  have newO : ∀ a o, s.heap.get? a = some o → O' a → O a := fun a o e w => by
    rcases w with w | w | w | w
    · exact w
    · rw [w, nI] at e; cases e
    · rw [w, nD] at e; cases e
    · rw [w, nC] at e; cases e
  have clos : ∀ n c, (n, c) ∈ closL cf scope.names [] → (n, c) ∈ C.env.cells ∧ (n, NameKind.free) ∈ scope.names ∧ c = cf n := fun n c m => by
    rcases closL_mem m with h | ⟨h, e⟩
    · cases h
    · exact ⟨by rw [e]; exact mem_of_lookup (hcf n h), h, e⟩
  have exO : ∀ a, O a → ∃ o, s.heap.get? a = some o := S.base.ex
  have xO : ∀ a, C.W.X a → O a := S.base.sub
  have xno : ∀ a, s.heap.get? a = none → ¬ C.W.X a := fun a e w => by
    obtain ⟨o, e'⟩ := exO a (xO a w); rw [e] at e'; cases e'
  have gnone : ∀ a, s.heap.get? a = none → C.W.g.get? a = none := fun a e => by
    cases e' : C.W.g.get? a with
    | none => rfl
    | some o => have := S.base.keep a o e'; rw [e] at this; cases this
  have noOwn : ∀ (b : Bnd) (y : Str) (es : List PyData), (b = .free ∨ ∃ T, b = .val T) → (compRho ρ x b (relab C.names scope.names)).lookup y ≠ some (.own es) := fun b y es hb e => by
    rcases compRho_lookup e with ⟨_, q, _⟩ | ⟨_, q, _⟩ | ⟨_, q, _⟩
    · rcases hb with hb | ⟨_, hb⟩ <;> rw [hb] at q <;> cases q
    · cases q
    · cases q
  have ndR : ((relab C.names scope.names).map (·.1)).Nodup := by rw [relab_keys]; exact B.nd
  have xR : (x, NameKind.local) ∈ relab C.names scope.names := relab_loc B.hx
  have kO : ∀ y, C'.env.kindOf y = (relab C.names scope.names).lookup y := fun y => by unfold Env.kindOf; rw [ok'.nm]
  have kx : C'.env.kindOf x = some .local := by rw [kO]; exact lookup_of_mem ndR xR
  have cellsD : (closL cf scope.names []).Pairwise fun x y => x.2 ≠ y.2 := by
    have nk := closL_keys (cf := cf) (acc := []) B.nd (fun _ h => nomatch h) List.nodup_nil
    have : ∀ l : List (Str × Addr), (l.map (·.1)).Nodup → (∀ q ∈ l, q ∈ C.env.cells) → l.Pairwise fun x y => x.2 ≠ y.2 := by
      intro l
      induction l with
      | nil => intro _ _; exact .nil
      | cons q r ih =>
        intro nd hm
        have nd' := List.nodup_cons.mp nd
        refine List.pairwise_cons.mpr ⟨fun z hz e => ?_, ih nd'.2 fun z hz => hm z (List.mem_cons_of_mem _ hz)⟩
        have := name_of_addr S.cd (hm q List.mem_cons_self) (by have := hm z (List.mem_cons_of_mem _ hz); rw [show z = (z.1, q.2) from Prod.ext rfl e.symm] at this; exact this)
        exact nd'.1 (List.mem_map.mpr ⟨z, hz, this.symm⟩)
    exact this _ nk fun q hq => (clos q.1 q.2 hq).1
  -- the block's state, at its start
  have S₄ : St C' O' M' (compRho ρ x .free (relab C.names scope.names)) (fun _ => 0) h₄ := by
    have oo : ∀ a, OO O' (compRho ρ x .free (relab C.names scope.names)) (fun _ => 0) a → O' a := fun a w => w.elim id fun ⟨y, es, l, _⟩ => absurd l (noOwn _ y es (.inl rfl))
    refine ⟨ok', ?_, fun a w => .inl w, ?_, .inr (.inl rfl), xno _ nC, ?_, fun n c m _ => .inr (.inr ⟨n, m⟩), cellsD, ⟨_, hns₄⟩, ?_, fun y z es fs e _ _ => absurd e (noOwn _ y es (.inl rfl))⟩
    · refine Base.re (O := O') ⟨fun b o e => old b o (S.base.keep b o e), fun a w => .inl (xO a w), ?_, ?_, C.W.I.mono (C.W.I.re newO S.base.inv) (.ext old)⟩ oo fun a w => .inl (.inl (xO a w))
      · intro a w
        rcases w with w | w | w | w
        · exact S.base.old a w
        · exact gnone a (w ▸ nI)
        · exact gnone a (w ▸ nD)
        · exact gnone a (w ▸ nC)
      · intro a w
        rcases w with w | w | w | w
        · obtain ⟨o, e⟩ := exO a w; exact ⟨o, old a o e⟩
        · exact ⟨oI, w ▸ old₂ I oI eI⟩
        · obtain ⟨_, e⟩ := hacc; exact ⟨_, w ▸ e⟩
        · obtain ⟨o, _, _, e, _⟩ := hns₄; exact ⟨o, w ▸ e⟩
    · intro a w
      rcases w with w | w | ⟨n, w⟩
      · exact .inl (xO a w)
      · exact .inr (.inr (.inr w))
      · exact .inl (.inl (S.oc n a (clos n a w).1).1)
    · intro n c m
      exact ⟨.inl (.inl (S.oc n c (clos n c m).1).1), (S.oc n c (clos n c m).1).2⟩
    · intro y b e
      rcases compRho_lookup e with ⟨rfl, rfl, hm⟩ | ⟨T, rfl, hT, hm⟩ | ⟨T, rfl, hT, hm⟩
      · exact ⟨_, Loc.loc kx hns₄⟩
      · obtain ⟨v, l, pv⟩ := S.vars y _ hT
        have pv' : T.P (OO O' (compRho ρ x .free (relab C.names scope.names)) fun _ => 0) h₄ v := T.tr pv (fun a o e w => newO a o e (oo a w)) (.ext old)
        rcases relab_mem hm with hm' | ⟨_, hm', hc'⟩
        · exact absurd rfl (B.nc _ hm')
        · have hl := hcf y hm'
          have ic : s.heap.IsCell (cf y) (some v) := by
            have kk : C.env.kindOf y = some .cell := by unfold Env.kindOf; rw [S.ok.nm]; exact hc'
            generalize hv : some v = u at l
            cases l with
            | loc k _ => rw [kk] at k; cases k
            | cel _ e i => rw [hl] at e; cases e; exact i
          exact ⟨v, Loc.cel (by rw [kO]; exact lookup_of_mem ndR hm) (closL_lookup hm') (ic.keeps old), pv'⟩
      · obtain ⟨v, c, kk, lc, ic, pv⟩ := S.vars y _ hT
        have pv' : T.P (OO O' (compRho ρ x .free (relab C.names scope.names)) fun _ => 0) h₄ v := T.tr pv (fun a o e w => newO a o e (oo a w)) (.ext old)
        rcases relab_mem hm with hm' | ⟨z, _, _⟩
        · have hl := hcf y hm'
          rw [lc] at hl; cases hl
          exact ⟨v, cf y, by rw [kO]; exact lookup_of_mem ndR hm, closL_lookup hm', ic.keeps old, pv'⟩
        · cases z
  have cI : ∀ n c, (n, c) ∈ closL cf scope.names [] → c ≠ I := fun n c m z => by
    obtain ⟨o, e⟩ := exO c (.inl (S.oc n c (clos n c m).1).1); rw [z, nI] at e; cases e
  have cD : ∀ n c, (n, c) ∈ closL cf scope.names [] → c ≠ D := fun n c m z => by
    obtain ⟨o, e⟩ := exO c (.inl (S.oc n c (clos n c m).1).1); rw [z, nD] at e; cases e
  have mI : ¬ M' I := by
    rintro (w | w | ⟨n, w⟩)
    · exact xno _ nI w
    · exact hIC w
    · exact cI n I w rfl
  have mD : ¬ M' D := by
    rintro (w | w | ⟨n, w⟩)
    · exact xno _ nD w
    · exact hDC w
    · exact cD n D w rfl
  have st₄ : Stt 0 h₄ := W.frame _ _ _ st₀ fun b _ o e => old₂ b o e
  have hlen : (ds.map dt).length = ds.length := List.length_map ..
  rw [hlen] at W
  have loop : ∀ s₄ : Shared, s₄ = { s with heap := h₄, toks := tk₂ + ([] : List (Str × Value)).length } →
      codeAny C.M C.A (.compLoop (.ListComp elt [⟨.Name x px, iter, ifs, 0⟩] scope pos) 0 (.ref I) (.ref D) (compEnvC scope (closL cf scope.names []) Cc C.env)) (RR (.ref D) Cc) s₄ := by
    rintro s₄ rfl
    refine codeAny_compLoop_tests (fun k s' => ∃ h' tk i items b, s' = { s with heap := h', toks := tk } ∧ i ≤ ds.length ∧ k = ds.length + 1 - i ∧ (b = .free ∨ ∃ T, b = .val T) ∧ St C' O' M' (compRho ρ x b (relab C.names scope.names)) (fun _ => 0) h' ∧ Stt i h' ∧ h'.PlainList D items ∧
        RepL O' h' items.toList (((ds.take i).filter p).map F) ∧ Agree C.W.X s.heap h') ?_ (ds.length + 1)
      ⟨h₄, _, 0, #[], .free, rfl, Nat.zero_le _, rfl, .inl rfl, S₄, st₄, hacc, .nil, .ext old⟩
    rintro k s' ⟨h', tk, i, items, b, rfl, hle, rfl, hb, S', st, li, rl, ag⟩
    by_cases hlt : i < ds.length
    · refine W.item i _ _ _ hlt st fun v h₅ tk₅ hPv st₅ hk₅ => ?_
      have hk₅' : ∀ b o, b ≠ I → h'.get? b = some o → h₅.get? b = some o := fun b o n e => hk₅ b o (by simpa using n) e
      have ex₅ : ∃ o, h₅.get? I = some o := exI _ _ st₅
      have S₅ := S'.mut (I := I) (.inr (.inl rfl)) mI cI hk₅' ex₅
      have agI : Agree (fun a => a = I) h' h₅ := ⟨fun b o e => if z : b = I then z ▸ ex₅ else ⟨o, hk₅' b o z e⟩, fun b o n e => hk₅' b o n e⟩
      obtain ⟨d, hd⟩ : ∃ d, ds[i]? = some d := ⟨ds[i], by simp [hlt]⟩
      have hdm : d ∈ ds := List.mem_of_getElem? hd
      have oo : ∀ a, OO O' (compRho ρ x b (relab C.names scope.names)) (fun _ => 0) a → O' a := fun a w => w.elim id fun ⟨y, es, l, _⟩ => absurd l (noOwn _ y es hb)
      have li₅ : h₅.PlainList D items := PL_agree li agI (Ne.symm hID)
      have rl₅ : RepL O' h₅ items.toList (((ds.take i).filter p).map F) := rl.mono (agI.wk fun a z => z ▸ .inr (.inl rfl))
      have ag₅ : Agree C.W.X s.heap h₅ := ag.off nI agI
      have tp : (dt d).P (OO O' (compRho ρ x b (relab C.names scope.names)) fun _ => 0) h₅ v := (dt d).tr (hP i v (dt d) hPv (by simp [hd])) (fun a o e w => newO a o e (oo a w)) (ag₅.wk fun a w => xO a w)
      refine wpAny_assign_Name (S₅.set (s := { s with heap := h₅, toks := tk₅ }) (b := .val (dt d)) (compRho_self ndR xR) (by rcases hb with rfl | ⟨_, rfl⟩ <;> rfl) (.inr ⟨dt d, rfl, tp⟩) fun h₆ tk₆ a₆ S₆ _ _ kl₆ g₆ => ?_)
      obtain rfl : a₆ = Cc := kl₆ kx
      rw [compRho_put ndR xR] at S₆
      have oo₆ : ∀ a, OO O' (compRho ρ x (.val (dt d)) (relab C.names scope.names)) (fun _ => 0) a → O' a := fun a w => w.elim id fun ⟨y, es, l, _⟩ => absurd l (noOwn _ y es (.inr ⟨_, rfl⟩))
      have li₆ : h₆.PlainList D items := PL_agree li₅ g₆ hDC
      have rl₆ : RepL O' h₆ items.toList (((ds.take i).filter p).map F) := rl₅.mono (g₆.wk fun a z => by have z' : a = _ := z; rw [z']; exact .inr (.inr (.inr rfl)))
      have ag₆ : Agree C.W.X s.heap h₆ := ag₅.off nC g₆
      have xD : ¬ C.W.X D := xno _ nD
      have step : ∀ {h h' : Heap}, Step C'.W (OO O' (compRho ρ x (.val (dt d)) (relab C.names scope.names)) fun _ => 0) h h' → (h.PlainList D items → h'.PlainList D items) ∧ (RepL O' h items.toList (((ds.take i).filter p).map F) → RepL O' h' items.toList (((ds.take i).filter p).map F)) ∧ (Agree C.W.X s.heap h → Agree C.W.X s.heap h') :=
        fun y => ⟨fun l => PL_agree l y.ag xD, fun r => r.mono (y.ag.wk fun a w => .inl (xO a w)), fun a => a.trans y.ag⟩
      have fp₅ : ∀ b ∈ fp, b ≠ D ∧ b ≠ a₆ ∧ ¬ C.W.X b := fun b hb => by
        by_cases z : b = I
        · rw [z]; exact ⟨hID, hIC, xno _ nI⟩
        · obtain ⟨n, o, e⟩ := hfp b hb z
          exact ⟨fun q => (by rw [q, nD] at e; cases e), fun q => (by rw [q, nC] at e; cases e), fun q => n (xO b q)⟩
      have tk1 : ds.take (i + 1) = ds.take i ++ [d] := by rw [List.take_add_one, hd]; rfl
      refine tests_run (C := C') (B.test d hdm _) S₆ fun h₇ tk₇ y₇ => ?_
      obtain ⟨f1, f2, f3⟩ := step y₇
      have S₇ := S₆.step y₇
      cases hp : p d with
      | false =>
        simp only [Bool.false_eq_true, if_false]
        refine ⟨ds.length + 1 - (i + 1), by omega, h₇, tk₇, i + 1, items, .val (dt d), rfl, hlt, rfl, .inr ⟨_, rfl⟩, S₇, W.frame _ _ _ st₅ fun b hb o e => ?_, f1 li₆, ?_, f3 ag₆⟩
        · exact y₇.ag.2 b o (fp₅ b hb).2.2 (g₆.2 b o (fp₅ b hb).2.1 e)
        · rw [tk1, List.filter_append, List.filter_cons_of_neg (by simp [hp]), List.filter_nil, List.append_nil]
          exact f2 rl₆
      | true =>
        simp only [if_true]
        refine B.elt d hdm hp _ O' M' (fun _ => 0) { s with heap := h₇, toks := tk₇ } S₇ _ _ fun h₈ tk₈ v₈ y₈ pv₈ => ?_
        obtain ⟨e1, e2, e3⟩ := step y₈
        have S₈ := S₇.step y₈
        have li₈ := e1 (f1 li₆)
        have rl₈ := e2 (f2 rl₆)
        refine wpAny_list_append_plain (s := { s with heap := h₈, toks := tk₈ }) li₈ (fun h₉ li₉ sb₉ => ?_) ?_
        · obtain ⟨_, e₉⟩ := id li₉
          have g₉ : Agree (fun a => a = D) h₈ h₉ := .same sb₉ e₉ rfl
          refine ⟨ds.length + 1 - (i + 1), by omega, h₉, tk₈, i + 1, items.push v₈, .val (dt d), rfl, hlt, rfl, .inr ⟨_, rfl⟩, S₈.mut (I := D) (.inr (.inr (.inl rfl))) mD cD (fun b o n e => g₉.2 b o n e) ⟨_, e₉⟩, W.frame _ _ _ st₅ fun b hb o e => ?_, li₉, ?_, (e3 (f3 ag₆)).off nD g₉⟩
          · exact g₉.2 b o (fp₅ b hb).1 (y₈.ag.2 b o (fp₅ b hb).2.2 (y₇.ag.2 b o (fp₅ b hb).2.2 (g₆.2 b o (fp₅ b hb).2.1 e)))
          · rw [tk1, List.filter_append, List.filter_cons_of_pos hp, List.filter_nil, List.map_append, Array.toList_push]
            have gO : Agree O' h₈ h₉ := g₉.wk fun a z => by have z' : a = D := z; rw [z']; exact .inr (.inr (.inl rfl))
            exact RepL.append (rl₈.mono gO) (.cons ((dt (F d)).mono ((dt (F d)).re (fun a _ _ w => .inl w) pv₈) gO) .nil)
        · have h1 := rl₈.length
          have h2 : (((ds.take i).filter p).map F).length ≤ ds.length := by
            rw [List.length_map]
            exact Nat.le_trans (List.length_filter_le ..) (by rw [List.length_take]; exact Nat.min_le_right ..)
          have h3 := B.sz
          rw [Array.length_toList] at h1
          omega
    · obtain rfl : i = ds.length := by omega
      refine W.done _ _ _ st fun h₅ tk₅ hk₅ => ?_
      have hk₅' : ∀ b o, b ≠ I → h'.get? b = some o → h₅.get? b = some o := fun b o n e => hk₅ b o (by simpa using n) e
      obtain ⟨m', nsC⟩ := S'.ns
      rw [List.take_length] at rl
      have kO' : ∀ b o, ¬ O' b → h'.get? b = some o → h₅.get? b = some o := fun b o n e => hk₅' b o (fun z => n (.inr (.inl z))) e
      refine hRR D Cc h₅ tk₅ items m' nD nC hDC ?_ ?_ ?_ ?_ ?_
      · obtain ⟨o, es, ep, e, r⟩ := nsC
        exact ⟨o, es, ep, hk₅' _ o (Ne.symm hIC) e, r⟩
      · exact PL_keep li fun o => hk₅' _ o (Ne.symm hID)
      · exact RepL.re (fun a _ _ w => w.elim .inl fun w => .inr (.inr w)) (rl.mono₀ kO')
      · exact ⟨fun b o e => let ⟨o', e'⟩ := ag.1 b o e; ⟨o', hk₅' b o' (fun z => by rw [z, nI] at e; cases e) e'⟩, fun b o n e => hk₅' b o (fun z => by rw [z, nI] at e; cases e) (ag.2 b o n e)⟩
      · have i1 : C.W.I.P O' h' := C.W.I.re (fun a _ _ w => .inl w) S'.base.inv
        exact C.W.I.re (fun a _ _ w => w.elim .inl fun w => .inr (.inr w)) (C.W.I.mono₀ i1 fun b o n e => hk₅' b o (fun z => n ⟨.inr (.inl z), by rw [z]; exact xno _ nI⟩) e)
  exact codeAny_compStart_list (loop _ rfl) (W.self 0 _ _ _ st₄ (loop _ rfl))

/-- an expression makes a new list -/
def EvNew (C : Cx) (ρ : Rho) (e : Expr) (ds : List PyData) : Prop :=
  ∀ (Ob Mb : Addr → Prop) (ad : Str → Addr) (s : Shared) (Q : Value → Shared → Prop) (E : Value → Shared → Prop), St C Ob Mb ρ ad s.heap →
    (∀ h' tk a items, Step C.W (OO Ob ρ ad) s.heap h' → s.heap.get? a = none → h'.PlainList a items → RepL (fun b => OO Ob ρ ad b ∨ b = a) h' items.toList ds → C.W.I.P (fun b => OO Ob ρ ad b ∨ b = a) h' → Q (.ref a) { s with heap := h', toks := tk }) → wpAny C.M C.A (eval e C.env) Q E s

theorem EvNew.ev {e : Expr} {ds : List PyData} (h : EvNew C ρ e ds) : Ev C ρ e (dt (.list ds)) := fun Ob Mb ad s S Q E q =>
  h Ob Mb ad s Q E S fun h' tk a items y na li rl _ => q h' tk _ y (.list (fun w => by obtain ⟨o, e⟩ := S.base.ex a w; rw [na] at e; cases e) li.isList (rl.re fun b _ _ w => .inl w))

theorem eval_comp {Ob Mb : Addr → Prop} {ad : Str → Addr} {s : Shared} {x : Str} {px pos cpos : Pos} {scope : Scope} {ifs : List Expr} {elt iter : Expr} {ds : List PyData} {p : PyData → Bool} {F : PyData → PyData} {T : Ty} {use : Option (Value → Sem Unit)} {Q : Value → Shared → Prop} {E : Value → Shared → Prop}
    (hi : Ev C ρ iter T) (hI : Iter C T (ds.map dt)) (B : Block C ρ x scope ifs elt ds p F) (hs : ∀ x, foldedSetIterable iter C.env x = pure x) (S : St C Ob Mb ρ ad s.heap)
    (q : ∀ D Cc h' tk items m', s.heap.get? D = none → s.heap.get? Cc = none → D ≠ Cc → h'.Ns Cc m' → h'.PlainList D items → RepL (fun a => OO Ob ρ ad a ∨ a = D ∨ a = Cc) h' items.toList ((ds.filter p).map F) → Agree C.W.X s.heap h' → C.W.I.P (fun a => OO Ob ρ ad a ∨ a = D ∨ a = Cc) h' →
      compPost C.M C.A E use Q (.ref D) Cc (.ok .next) { s with heap := h', toks := tk }) :
    wpAny C.M C.A (comprehension (.ListComp elt [⟨.Name x px, iter, ifs, 0⟩] scope pos) scope C.env cpos (newList []) false (eval iter C.env) use) Q E s := by
  have hcf : ∀ n, (n, NameKind.free) ∈ scope.names → C.env.cells.lookup n = some ((C.env.cells.lookup n).getD 0) := fun n hn => by
    have := List.all_eq_true.mp B.free _ hn
    simp only [bne_self_eq_false, Bool.false_or, Bool.and_eq_true, Bool.or_eq_true, beq_iff_eq] at this
    obtain ⟨c, hc⟩ := S.cellAt this.1 this.2
    rw [hc]; rfl
  refine wpAny_comprehension_free rfl hs (closureFor_eq hcf) B.kind (fun y hy hl => ?_) ?_
  · exact lookup_of_mem B.nd (by rw [← hl]; exact hy)
  · refine hi Ob Mb ad s S _ E fun h₁ tk₁ v y₁ pv => ?_
    have S₁ := S.step y₁
    refine hI (OO Ob ρ ad) { s with heap := h₁, toks := tk₁ } v _ E S.ok S₁.base pv fun I fp P Stt h₂ tk₂ nI ext W st₀ exI hfp hP => ?_
    refine comp_block (s := { s with heap := h₁, toks := tk₁ }) (RR := fun acc Cc => compPost C.M C.A E use Q acc Cc) B S₁ nI ext W st₀ exI hfp hP hcf ?_
    intro D Cc h' tk items m' nD nC hDC ns li rl ag inv
    have up : ∀ a, h₁.get? a = none → s.heap.get? a = none := fun a e => by
      cases e' : s.heap.get? a with
      | none => rfl
      | some o => obtain ⟨o', e''⟩ := y₁.ag.1 a o e'; rw [e] at e''; cases e''
    exact q D Cc h' tk items m' (up D nD) (up Cc nC) hDC ns li rl (y₁.ag.trans ag) inv

theorem EvNew.comp {x : Str} {px pos : Pos} {scope : Scope} {ifs : List Expr} {elt iter : Expr} {ds : List PyData} {p : PyData → Bool} {F : PyData → PyData} {T : Ty} (hi : Ev C ρ iter T) (hI : Iter C T (ds.map dt)) (B : Block C ρ x scope ifs elt ds p F)
    (hs : ∀ env x, foldedSetIterable iter env x = pure x := by intro _ _; rfl) : EvNew C ρ (.ListComp elt [⟨.Name x px, iter, ifs, 0⟩] scope pos) ((ds.filter p).map F) := fun Ob Mb ad s Q E S q => by
  rw [eval_ListComp]
  refine eval_comp hi hI B (hs _) S ?_
  intro D Cc h' tk items m' nD nC hDC ns li rl ag inv
  refine ⟨m', ns, fun h'' sb => ?_⟩
  have kk : ∀ b o, b ≠ Cc → h'.get? b = some o → h''.get? b = some o := fun b o n e => (sb.2 b n).trans e
  have k0 : ∀ b o, s.heap.get? b = some o → b ≠ Cc := fun b o e z => by rw [z, nC] at e; cases e
  have xC : ¬ C.W.X Cc := fun w => by obtain ⟨o, e⟩ := S.base.ex Cc (S.base.sub Cc w); rw [nC] at e; cases e
  have inv' : C.W.I.P (fun b => OO Ob ρ ad b ∨ b = D) h'' := C.W.I.re (fun a _ _ w => w.elim .inl fun w => .inr (.inl w)) (C.W.I.mono₀ inv fun b o n e => kk b o (fun z => n ⟨.inr (.inr z), by rw [z]; exact xC⟩) e)
  refine q h'' tk D items ⟨⟨fun b o e => let ⟨o', e'⟩ := ag.1 b o e; ⟨o', kk b o' (k0 b o e) e'⟩, fun b o n e => kk b o (k0 b o e) (ag.2 b o n e)⟩, fun _ => C.W.I.re (fun a _ _ w => .inl w) inv'⟩ nD (PL_keep li fun o => kk _ o hDC) ?_ inv'
  exact RepL.re (fun a _ _ w => w.elim .inl fun w => .inr (.inl w)) (rl.mono₀ fun b o n e => kk b o (fun z => n (.inr (.inr z))) e)


/-- y = [.. for x in ..] -/
theorem Ex1.assignC {x y : Str} {px py pos spos : Pos} {scope : Scope} {ifs : List Expr} {elt iter : Expr} {ds : List PyData} {p : PyData → Bool} {F : PyData → PyData} {T : Ty} {b₀ : Bnd} (hi : Ev C ρ iter T) (hI : Iter C T (ds.map dt)) (B : Block C ρ x scope ifs elt ds p F)
    (hy : ρ.lookup y = some b₀) (hsto : b₀.sto = true := by rfl) (hs : ∀ env x, foldedSetIterable iter env x = pure x := by intro _ _; rfl) :
    Ex1 C ρ (.Assign [.Name y py] (.ListComp elt [⟨.Name x px, iter, ifs, 0⟩] scope pos) spos) (fun o => o = .next (put y (.val (dt (.list ((ds.filter p).map F)))) ρ)) := fun Ob Mb ad s Q E S q => by
  have hsw : ∃ b, swapsWith (.ListComp elt [⟨.Name x px, iter, ifs, 0⟩] scope pos) (some (.Name y py)) spos.line C.env = pure b := ⟨_, rfl⟩
  obtain ⟨b, hsw⟩ := hsw
  cases b with
  | false => 
    exact wpAny_Assign_Name ((EvNew.comp hi hI B hs).ev Ob Mb ad s S _ E fun h' tk v y' pv => (S.step y').set (s := { s with heap := h', toks := tk }) hy hsto (.inr ⟨_, rfl, pv⟩) fun h₂ tk₂ a₂ S₂ _ m₂ _ g₂ =>
      q .next h₂ tk₂ _ rfl ⟨ad, S₂, fun a o _ w => w.put hy fun _ e => by cases e⟩ ((Agree.mt S y').trans (g₂.wk fun a w => .inl (w ▸ m₂)))) hsw
  | true =>
    rw [exec_Assign_Name_used _ _ _ _ hsw]
    refine wpAny_bind (wpAny_standAt (wpAny_bind ?_))
    show wpAny _ _ (do let _ ← comprehension (.ListComp elt [⟨.Name x px, iter, ifs, 0⟩] scope pos) scope C.env _ (newList []) false (eval iter C.env) (some (PySem.assign (.Name y py) C.env))) _ _ s
    refine wpAny_bind (wpAny_mono (eval_comp (use := some (PySem.assign (.Name y py) C.env)) (Q := fun _ s' => Q .next s') hi hI B (hs _) S ?_) (fun _ s' hq => wpAny_pure (wpAny_pure hq)) fun _ _ e => e)
    intro D Cc h' tk items m' nD nC hDC ns li rl ag inv
    show wpAny _ _ (PySem.assign (.Name y py) C.env (.ref D)) _ _ _
    have k0 : ∀ b o, s.heap.get? b = some o → b ≠ Cc := fun b o e z => by rw [z, nC] at e; cases e
    have exC : ∃ o, h'.get? Cc = some o := let ⟨o, _, _, e, _⟩ := ns; ⟨o, e⟩
    have yS : Step C.W (OO Ob ρ ad) s.heap h' := ⟨ag, fun _ => C.W.I.re (fun a _ _ w => .inl w) inv⟩
    have S' : St C (fun b => Ob b ∨ b = Cc) Mb ρ ad h' := S.add yS nC exC (C.W.I.re (fun a _ _ w => w.elim .inl fun w => .inr (.inr w)) inv)
    have nOC : ¬ Ob Cc := fun w => by obtain ⟨o, e⟩ := S.base.ex Cc (.inl w); rw [nC] at e; cases e
    have pv : (dt (.list ((ds.filter p).map F))).P (OO (fun b => Ob b ∨ b = Cc) ρ ad) h' (.ref D) := by
      have up : ∀ a, OO (fun b => Ob b ∨ b = Cc) ρ ad a → OO Ob ρ ad a ∨ a = D ∨ a = Cc := fun a w => w.elim (fun w => w.elim (fun w => .inl (.inl w)) fun w => .inr (.inr w)) fun w => .inl (.inr w)
      refine Rep.list (fun w => ?_) li.isList (rl.re fun a _ _ w => up a w)
      rcases w with (w | w) | w
      · obtain ⟨o, e⟩ := S.base.ex D (.inl w); rw [nD] at e; cases e
      · exact hDC w
      · obtain ⟨o, e⟩ := S.base.ex D (.inr w); rw [nD] at e; cases e
    refine wpAny_assign_Name (S'.set (s := { s with heap := h', toks := tk }) hy hsto (.inr ⟨_, rfl, pv⟩) fun h₂ tk₂ a₂ S₂ _ m₂ _ g₂ => ?_)
    have a2C : a₂ ≠ Cc := fun z => nOC (z ▸ S.mo a₂ m₂)
    refine ⟨m', Ns_agree ns g₂ (fun z => a2C z.symm), fun h₃ sb => ?_⟩
    have kk : ∀ b o, b ≠ Cc → h₂.get? b = some o → h₃.get? b = some o := fun b o n e => (sb.2 b n).trans e
    refine q .next h₃ tk₂ _ rfl ⟨ad, S₂.drop nOC S.mo (fun n c w => (S.oc n c w).1) kk, fun a o _ w => w.put hy fun _ e => by cases e⟩ ?_
    have ag1 : Agree (OO Mb ρ ad) s.heap h₂ := (Agree.mt S yS).trans (g₂.wk fun a w => .inl (by have w' : a = a₂ := w; rw [w']; exact m₂))
    exact ⟨fun b o e => let ⟨o', e'⟩ := ag1.1 b o e; ⟨o', kk b o' (k0 b o e) e'⟩, fun b o n e => kk b o (k0 b o e) (ag1.2 b o n e)⟩
end
end Mine

namespace Mine
open PySem PySem.W PyProof.Rows PySem.Spec

/-- a text by its signs -/
def S (l : List Nat) : Str := ⟨l.toArray⟩
theorem S_len (l : List Nat) : (S l).length = l.length := by simp [S, Str.length]
theorem S_cps (l : List Nat) : (S l).cps.toList = l := by simp [S]
theorem S_eta (x : Str) : S x.cps.toList = x := by cases x; simp [S]
theorem S_app (a b : List Nat) : S a ++ S b = S (a ++ b) := by show Str.append (S a) (S b) = _; simp [S, Str.append]
theorem S_inj {a b : List Nat} : S a = S b ↔ a = b := ⟨fun e => by rw [← S_cps a, ← S_cps b, e], fun e => by rw [e]⟩
theorem S_beq (a b : List Nat) : (S a == S b) = decide (a = b) := by
  by_cases h : a = b
  · subst h; simp
  · rw [decide_eq_false h]; simp [S_inj, h]
theorem S_bne (a b : List Nat) : (S a != S b) = !decide (a = b) := by rw [bne, S_beq]

abbrev tI (i : Int) : Ty := dt (.int i)
abbrev tS (l : List Nat) : Ty := dt (.str (S l))
abbrev tB (b : Bool) : Ty := dt (.bool b)

/-- a slice's end -/
def clampI (n : Nat) (i : Int) : Nat := if i < 0 then (i + n).toNat else min i.toNat n
def sliceL {α : Type} (lo hi : Option Int) (xs : List α) : List α := (xs.drop ((lo.map (clampI xs.length)).getD 0)).take ((hi.map (clampI xs.length)).getD xs.length - (lo.map (clampI xs.length)).getD 0)

theorem clip_eq (n : Nat) (v : Option Int) (d : Nat) : (match v with | none => (d : Int) | some i => max 0 (min (if i < 0 then i + n else i) n)) = (((v.map (clampI n)).getD d : Nat) : Int) := by
  cases v with
  | none => rfl
  | some i =>
    simp only [Option.map_some, Option.getD_some, clampI]
    split <;> omega

theorem pick_run' {α : Type} (xs : List α) (a b : Nat) : (sliceRange a b 1).filterMap (xs[·]?) = (xs.drop a).take (b - a) := by
  rw [sliceRange_one]
  have := pick_run xs.toArray a (b - a)
  simpa using this

theorem slicePick_eq (items : Array Value) (lo hi : Option Int) : slicePick items lo hi none = (sliceL lo hi items.toList).toArray := by
  unfold slicePick sliceL
  have e1 : (sliceBounds lo hi none items.size).1 = (((lo.map (clampI items.size)).getD 0 : Nat) : Int) := by
    have := clip_eq items.size lo 0
    unfold sliceBounds
    simp only [Option.getD_none, show (1 : Int) > 0 by decide, if_true]
    rw [← this]; cases lo <;> simp
  have e2 : (sliceBounds lo hi none items.size).2.1 = (((hi.map (clampI items.size)).getD items.size : Nat) : Int) := by
    have := clip_eq items.size hi items.size
    unfold sliceBounds
    simp only [Option.getD_none, show (1 : Int) > 0 by decide, if_true]
    rw [← this]; cases hi <;> rfl
  have e3 : (sliceBounds lo hi none items.size).2.2 = 1 := rfl
  rw [e1, e2, e3]
  have := pick_run' items.toList ((lo.map (clampI items.size)).getD 0) ((hi.map (clampI items.size)).getD items.size)
  simp only [Array.getElem?_toList] at this
  rw [this]; simp

theorem slice_text (l : List Nat) (lo hi : Option Int) : Txt.slice (S l) lo hi = S (sliceL lo hi l) := by
  have e : Builtin.Str.strSliceIndices lo hi 1 (S l).length = sliceRange (((lo.map (clampI l.length)).getD 0 : Nat) : Int) (((hi.map (clampI l.length)).getD l.length : Nat) : Int) 1 := by
    unfold Builtin.Str.strSliceIndices
    simp only [show (1 : Int) > 0 by decide, if_true, S_len]
    have h1 := clip_eq l.length lo 0
    have h2 := clip_eq l.length hi l.length
    rw [← h1, ← h2]; cases lo <;> cases hi <;> simp
  have p := pick_run' l ((lo.map (clampI l.length)).getD 0) ((hi.map (clampI l.length)).getD l.length)
  unfold Txt.slice
  rw [e]
  split
  · rename_i q
    have q' : (sliceRange (((lo.map (clampI l.length)).getD 0 : Nat) : Int) (((hi.map (clampI l.length)).getD l.length : Nat) : Int) 1).length = l.length := by simpa [S_len] using q
    rw [sliceRange_one] at q'
    simp only [List.length_map, List.length_range] at q'
    have hb : (hi.map (clampI l.length)).getD l.length ≤ l.length := by
      cases hi with
      | none => exact Nat.le_refl _
      | some i => simp only [Option.map_some, Option.getD_some, clampI]; split <;> omega
    congr 1
    unfold sliceL
    by_cases h0 : l.length = 0
    · have : l = [] := List.length_eq_zero_iff.mp h0
      subst this; simp
    · have ha : (lo.map (clampI l.length)).getD 0 = 0 := by omega
      have hb' : (hi.map (clampI l.length)).getD l.length = l.length := by omega
      rw [ha, hb']; simp
  · unfold sliceL
    rw [← p]
    simp [S]

section
variable {C : Cx} {ρ : Rho}

/-- an item, a slice -/
def Itm (C : Cx) (T₁ T₂ T : Ty) : Prop :=
  ∀ (O : Addr → Prop) (s : Shared) (o i : Value), C.Ok → Base C.W O s.heap → T₁.P O s.heap o → T₂.P O s.heap i → (∃ t id, s.TypeIs o t ∧ typeLookup (.type t) "__getitem__" = pure (some (.builtin id))) ∧ Gives C O (getItem o i) T s

theorem Ev.sub {value slice : Expr} {pos : Pos} {T₁ T₂ T : Ty} (h₁ : Ev C ρ value T₁) (h₂ : Ev C ρ slice T₂) (ho : Itm C T₁ T₂ T) (hs : ∀ o i, ∃ ops, subscripted slice false o i = operate ops (getItem o i) := by intro _ _; exact ⟨_, rfl⟩) :
    Ev C ρ (.Subscript value slice pos) T := fun Ob Mb ad s S Q E q =>
  Subscript_ (h₁ Ob Mb ad s S _ E fun h' tk a y pa => h₂ Ob Mb ad { s with heap := h', toks := tk } (S.step y) _ E fun h₂ tk₂ b y₂ pb => by
    obtain ⟨⟨t, id, hT, hl⟩, g⟩ := ho (OO Ob ρ ad) { s with heap := h₂, toks := tk₂ } a b S.ok ((S.step y).step y₂).base (T₁.mono pa ((S.step y).agO y₂)) pb
    obtain ⟨ops, hops⟩ := hs a b
    unfold subscriptTail
    refine wpAny_bind ?_
    rw [getitemInPython_of_ne hT.not_modules]
    refine wpAny_bind (wpAny_specialOf hT hl ?_)
    have fin : wpAny C.M C.A (subscripted slice false a b) (fun r s₃ => wpAny C.M C.A (letTemporaryGo value a r >>= fun _ => pure r) Q E s₃) E { s with heap := h₂, toks := tk₂ } := by
      rw [hops]
      exact wpAny_operating (g _ E fun h₃ tk₃ v y₃ pv => wpAny_bind (wpAny_letTemporaryGo (wpAny_pure (q h₃ tk₃ v (y.trans (y₂.trans y₃)) pv))))
    first
      | exact wpAny_pure (wpAny_bind fin)
      | exact wpAny_bind (wpAny_pure (wpAny_bind fin))
      | exact wpAny_bind fin)

/-- a slice object -/
def slcT (lo hi st : Option Int) : Ty := ⟨fun O h v => ∃ a vl vu vs, v = .ref a ∧ ¬ O a ∧ h.IsSliceOf a vl vu vs ∧ IsPart vl lo ∧ IsPart vu hi ∧ IsPart vs st,
  fun ⟨a, vl, vu, vs, e, n, ⟨o, eo, r⟩, p⟩ g => ⟨a, vl, vu, vs, e, n, ⟨o, g _ o n eo, r⟩, p⟩, fun g ⟨a, vl, vu, vs, e, n, ⟨o, eo, r⟩, p⟩ => ⟨a, vl, vu, vs, e, fun q => n (g a o eo q), ⟨o, eo, r⟩, p⟩⟩
def EvO (C : Cx) (ρ : Rho) : Option Expr → Option Int → Prop
  | none, o => o = none
  | some e, o => ∃ i, o = some i ∧ Ev C ρ e (tI i)
theorem EvO.nil : EvO C ρ none none := rfl
theorem EvO.val {e : Expr} {i : Int} (h : Ev C ρ e (tI i)) : EvO C ρ (some e) (some i) := ⟨i, rfl, h⟩
theorem EvO.run {o : Option Expr} {oi : Option Int} (h : EvO C ρ o oi) {Ob Mb : Addr → Prop} {ad : Str → Addr} {s : Shared} {Q : Value → Shared → Prop} {E : Value → Shared → Prop} (S : St C Ob Mb ρ ad s.heap)
    (q : ∀ h' tk v, Step C.W (OO Ob ρ ad) s.heap h' → IsPart v oi → Q v { s with heap := h', toks := tk }) : wpAny C.M C.A (evalPart o C.env) Q E s := by
  cases o with
  | none => cases h; exact evalPart_none_step (q s.heap s.toks _ .refl .none)
  | some e =>
    obtain ⟨i, rfl, h⟩ := h
    exact evalPart_some_step (h Ob Mb ad s S Q E fun h' tk v y pv => by cases pv; exact q h' tk _ y (.int i _))

theorem Ev.slice {l u st : Option Expr} {p : Pos} {lo hi sp : Option Int} (h₁ : EvO C ρ l lo) (h₂ : EvO C ρ u hi) (h₃ : EvO C ρ st sp) : Ev C ρ (.Slice l u st p) (slcT lo hi sp) := fun Ob Mb ad s S Q E q =>
  wpAny_Slice (h₁.run S fun h' tk a y pa => h₂.run (s := { s with heap := h', toks := tk }) (S.step y) fun h₂ tk₂ b y₂ pb => h₃.run (s := { s with heap := h₂, toks := tk₂ }) ((S.step y).step y₂) fun h₃ tk₃ c y₃ pc => by
    have S₃ := ((S.step y).step y₂).step y₃
    refine q _ tk₃ _ (y.trans (y₂.trans (y₃.trans (.push _)))) ⟨_, a, b, c, rfl, fun w => ?_, Heap.IsSliceOf.new .., pa, pb, pc⟩
    obtain ⟨o, e⟩ := S₃.base.ex _ w
    rw [fresh_none (Nat.le_refl _)] at e; cases e)

theorem new_off {W : Wd} {O : Addr → Prop} {h : Heap} (B : Base W O h) : ¬ O h.objs.size := fun w => by
  obtain ⟨o, e⟩ := B.ex _ w
  rw [fresh_none (Nat.le_refl _)] at e; cases e

theorem RepL.slice {O : Addr → Prop} {h : Heap} {vs : List Value} {ds : List PyData} (lo hi : Option Int) (r : RepL O h vs ds) : RepL O h (sliceL lo hi vs) (sliceL lo hi ds) := by
  unfold sliceL
  rw [r.length]
  exact (r.drop _).take _

theorem Itm.listSlice {ds : List PyData} {lo hi : Option Int} (hsz : ds.length ≤ sizeLine) : Itm C (dt (.list ds)) (slcT lo hi none) (dt (.list (sliceL lo hi ds))) := by
  intro O s o i ok B po pi
  obtain ⟨a, vl, vu, vs, rfl, na, hs, p1, p2, p3⟩ := pi
  cases po with
  | list n li rl =>
    refine ⟨⟨_, _, li.typeIs, list_getitem_lookup⟩, fun Q E q => ?_⟩
    cases p3
    refine wpAny_getItem_list_slice li hs p1 p2 .none (by simp) (q _ _ _ (.push _) (.list (new_off B) ⟨_, Heap.get?_push_size _ rfl, rfl, _, rfl⟩ ?_)) ?_
    · rw [slicePick_eq]
      simpa using (rl.slice lo hi).mono (.push _)
    · have := rl.length; rw [Array.length_toList] at this; omega

theorem part_pv {v : Value} {o : Option Int} (p : IsPart v o) : ∃ x : Option (Int × Tok), v = partValue x ∧ x.map (·.1) = o := by
  cases p with
  | none => exact ⟨none, rfl, rfl⟩
  | int i t => exact ⟨some (i, t), rfl, rfl⟩
theorem Itm.strSlice {l : List Nat} {lo hi : Option Int} (hsz : l.length ≤ sizeLine) : Itm C (tS l) (slcT lo hi none) (tS (sliceL lo hi l)) := by
  intro O s o i ok B po pi
  obtain ⟨a, vl, vu, vs, rfl, na, ⟨ob, eo, hc, hd⟩, p1, p2, p3⟩ := pi
  cases po
  refine ⟨⟨_, _, typeIs_str _ _ _, F.slot_str_getitem.lookup⟩, fun Q E q => ?_⟩
  cases p3
  obtain ⟨x1, rfl, e1⟩ := part_pv p1
  obtain ⟨x2, rfl, e2⟩ := part_pv p2
  refine wpAny_getItem_str_slice (l := x1) (u := x2) (st := none) ⟨ob, eo, hc, hd⟩ rfl ?_
  unfold sliceMade slicePicked
  rw [e1, e2]
  have e := slice_text l lo hi
  unfold Txt.slice at e
  refine post_val_or_str ⟨?_, fun t' k => ?_⟩
  · show (if _ then _ else _ : Str).length ≤ sizeLine
    refine Nat.le_trans (Txt.slice_le (S l) lo hi) ?_
    rw [S_len]; exact hsz
  · refine q _ _ _ .refl ?_
    have : (if ((1 : Int) == 1 && (Builtin.Str.strSliceIndices lo hi 1 (S l).length).length == (S l).length) = true then S l else ⟨((Builtin.Str.strSliceIndices lo hi 1 (S l).length).filterMap ((S l).cps[·]?)).toArray⟩) = S (sliceL lo hi l) := e
    exact this ▸ Rep.str _ t'
end
end Mine

namespace Mine
open PySem PySem.W PyProof.Rows PySem.Spec

section
variable {C : Cx} {ρ : Rho}

theorem Bin.addI {a b : Int} : Bin C .Add (tI a) (tI b) (tI (a + b)) := fun O s v w ok B pv pw Q E q => by
  cases pv; cases pw; exact add_int (q s.heap _ _ .refl (.int _ _))
theorem Bin.subI {a b : Int} : Bin C .Sub (tI a) (tI b) (tI (a - b)) := fun O s v w ok B pv pw Q E q => by
  cases pv; cases pw; exact sub_int (q s.heap _ _ .refl (.int _ _))
theorem Bin.fdivI {a b : Int} (h : 0 < b) (hb : b < 1073741824) : Bin C .FloorDiv (tI a) (tI b) (tI (a / b)) := fun O s v w ok B pv pw Q E q => by
  cases pv; cases pw
  refine floordiv_int (by omega) ?_ (.inl (PyProof.noPylong_small (by omega)))
  rw [Int.fdiv_eq_ediv_of_nonneg _ (by omega)]
  exact q s.heap _ _ .refl (.int _ _)
theorem Bin.modI {a b : Int} (h : 0 < b) : Bin C .Mod (tI a) (tI b) (tI (a % b)) := fun O s v w ok B pv pw Q E q => by
  cases pv; cases pw
  refine mod_int' (by omega) ?_
  rw [Int.fmod_eq_emod_of_nonneg _ (by omega)]
  exact q s.heap _ _ .refl (.int _ _)
theorem Bin.addS {a b : List Nat} (h : a.length + b.length ≤ sizeLine) : Bin C .Add (tS a) (tS b) (tS (a ++ b)) := fun O s v w ok B pv pw Q E q => by
  cases pv; cases pw
  refine add_str (fun t' tk => ?_) (by rw [S_len, S_len]; exact h)
  rw [S_app]
  exact q s.heap _ _ .refl (.str _ _)
theorem Bin.addL {a b : List PyData} (h : a.length + b.length ≤ sizeLine) : Bin C .Add (dt (.list a)) (dt (.list b)) (dt (.list (a ++ b))) := fun O s v w ok B pv pw Q E q => by
  cases pv with
  | list n1 l1 r1 =>
    cases pw with
    | list n2 l2 r2 =>
      obtain ⟨⟨cls, dd, data, sl⟩, ho, hc, n, hd⟩ := id l1
      obtain ⟨⟨cls2, dd2, data2, sl2⟩, ho2, hc2, n2, hd2⟩ := id l2
      simp only at hc hd hc2 hd2
      subst hc hd hc2 hd2
      have h1 := r1.length
      have h2 := r2.length
      rw [Array.length_toList] at h1 h2
      refine concat_meets ⟨_, ho, rfl⟩ ⟨_, ho2, rfl⟩ noFill_list_add seq_list_add PySem.F.slot_list_add PySem.F.entry_list_add (PySem.F.args_list_add_2 _ _) (list_addW _ _ _ _ n n2 dd dd2 sl sl2 (by omega)) ⟨ho, ho2, ?_⟩
      refine q _ _ _ (.push _) (.list (new_off B) ⟨_, Heap.get?_push_size _ rfl, rfl, _, rfl⟩ ?_)
      simpa using (r1.append r2).mono (.push _)

theorem Cmp.ltI {a b : Int} : Cmp C .Lt (tI a) (tI b) (tB (decide (a < b))) := fun O s v w ok B pv pw Q E q => by
  cases pv; cases pw; exact lt_int (q s.heap s.toks _ .refl (.bool _))
theorem Cmp.leI {a b : Int} : Cmp C .LtE (tI a) (tI b) (tB (decide (a ≤ b))) := fun O s v w ok B pv pw Q E q => by
  cases pv; cases pw; exact le_int (q s.heap s.toks _ .refl (.bool _))
theorem Cmp.gtI {a b : Int} : Cmp C .Gt (tI a) (tI b) (tB (decide (b < a))) := fun O s v w ok B pv pw Q E q => by
  cases pv; cases pw; exact gt_int (q s.heap s.toks _ .refl (.bool _))
theorem Cmp.eqI {a b : Int} : Cmp C .Eq (tI a) (tI b) (tB (decide (a = b))) := fun O s v w ok B pv pw Q E q => by
  cases pv; cases pw; refine eq_int ?_; rw [show (a == b) = decide (a = b) from rfl]; exact q s.heap s.toks _ .refl (.bool _)
theorem Cmp.neI {a b : Int} : Cmp C .NotEq (tI a) (tI b) (tB (!decide (a = b))) := fun O s v w ok B pv pw Q E q => by
  cases pv; cases pw; refine ne_int ?_; rw [show (a != b) = !decide (a = b) from rfl]; exact q s.heap s.toks _ .refl (.bool _)
theorem Cmp.eqS {a b : List Nat} : Cmp C .Eq (tS a) (tS b) (tB (decide (a = b))) := fun O s v w ok B pv pw Q E q => by
  cases pv; cases pw; refine eq_str ?_; rw [S_beq]; exact q s.heap s.toks _ .refl (.bool _)
theorem Cmp.neS {a b : List Nat} : Cmp C .NotEq (tS a) (tS b) (tB (!decide (a = b))) := fun O s v w ok B pv pw Q E q => by
  cases pv; cases pw; refine ne_str ?_; rw [S_bne]; exact q s.heap s.toks _ .refl (.bool _)
theorem units64 (ok : C.Ok) : C.A.units + 64 < cLine := by have := ok.un; omega
theorem Cmp.eqD {a b : PyData} (ha : SeqAt.shaped a = true) (hb : SeqAt.shaped b = true) : Cmp C .Eq (dt a) (dt b) (tB (PyData.eqv a b)) := fun O s v w ok B pv pw Q E q => by
  obtain ⟨_, ra⟩ := pv.reads
  obtain ⟨_, rb⟩ := pw.reads
  exact eq_dataH ra rb ha hb (units64 ok) (q s.heap s.toks _ .refl (.bool _))

theorem Truth.bool {b : Bool} : Truth C (tB b) b := fun O s v Q E ok B pv q => by cases pv; exact wpAny_truthy_bool (q s.heap s.toks .refl)
end
end Mine

namespace Mine
open PySem PySem.W PyProof.Rows PySem.Spec

theorem mapSeq_set (its : Array Value) (n : Nat) (j : Nat) (x : Value) : Obj.mapSeq (·.setIfInBounds j x) { cls := .type "list", data := .seq its n } = { cls := .type "list", data := .seq (its.setIfInBounds j x) n } := by
  simp [Obj.mapSeq]
theorem PL_set {h : Heap} {l : Addr} {items : Array Value} (x : h.PlainList l items) (j : Nat) (v : Value) : (h.update l (Obj.mapSeq (·.setIfInBounds j v))).PlainList l (items.setIfInBounds j v) := by
  obtain ⟨n, e⟩ := x
  exact ⟨n, by rw [Heap.get?_update_self _ e (by rw [mapSeq_set]; rfl), mapSeq_set]⟩

/-- an index as Python means it -/
def idxN (n : Nat) (k : Int) : Nat := if k < 0 then (k + n).toNat else k.toNat
theorem seqIndex_idx {k : Int} {n : Nat} (h1 : -(n : Int) ≤ k) (h2 : k < n) : seqIndex? k n = some (idxN n k) := by
  unfold seqIndex? idxN
  split
  · rw [if_pos (by simp only [Bool.and_eq_true, decide_eq_true_eq]; omega)]
  · rw [if_pos (by simp only [Bool.and_eq_true, decide_eq_true_eq]; omega)]
theorem fitsIdx {k : Int} (h1 : -16777216 ≤ k) (h2 : k ≤ 16777216) : Builtin.List.listFitsIndex k = true := by
  unfold Builtin.List.listFitsIndex
  simp only [Bool.and_eq_true, decide_eq_true_eq]
  omega
theorem idxN_lt {k : Int} {n : Nat} (h1 : -(n : Int) ≤ k) (h2 : k < n) : idxN n k < n := by unfold idxN; split <;> omega

section
variable {prog : Program} {w : World} {A : Around} {E : Value → Shared → Prop} {s : Shared}
/-- xs[k] = v, k at hand or from behind -/
theorem setItem_plain {l : Addr} {items : Array Value} {k : Int} {t : Tok} {v : Value} {Q : Unit → Shared → Prop} (hl : s.heap.PlainList l items) (hfit : Builtin.List.listFitsIndex k = true) (h1 : -(items.size : Int) ≤ k) (h2 : k < items.size)
    (hQ : ∀ h', h'.PlainList l (items.setIfInBounds (idxN items.size k) v) → Heap.SameBut l s.heap h' → Q () { s with heap := h' }) : wpAny (model prog w) A (setItem (.ref l) (.int k t) v) Q E s := by
  obtain ⟨n, ho⟩ := id hl
  have hL := hl.isList
  have hj := seqIndex_idx h1 h2
  have hjlt := idxN_lt h1 h2
  generalize idxN items.size k = j at hj hjlt hQ
  have hx : items[j]? = some items[j] := Array.getElem?_eq_getElem hjlt
  unfold setItem
  try with_reducible refine wpAny_holding ?_
  first | refine wpAny_bind (wpAny_pure ?_) | skip
  refine wpAny_bind (wpAny_sequenceKey hL.typeIs (by decide) ?_)
  refine wpAny_bind (wpAny_callSpecial?_slot (name := Str.ofString "__setitem__") hL.typeIs slot_list_setitem
    (wpAny_call_entry slot_list_setitem hL.typeIs entry_list_setitem ?_ (args_list_setitem _ _ _)))
  show wpAny _ _ (Builtin.List.listSubscript? (.int k t) >>= _) _ _ s
  refine wpAny_bind (wpAny_listSubscript_int hfit ?_)
  have fin := hQ _ (PL_set hl j v) (Heap.SameBut.update ..)
  cases k with
  | ofNat m =>
    have hm : m = j := by
      have := seqIndex_idx h1 h2
      rw [hj] at this
      have e := Option.some.inj this
      rw [e]; unfold idxN; rw [if_neg (by simp)]; rfl
    subst hm
    show wpAny _ _ ((seqItemAt l m >>= fun r => pure (r.map (m, ·))) >>= _) _ _ s
    refine wpAny_bind (wpAny_bind (wpAny_seqItemAt ho rfl (wpAny_pure ?_)))
    rw [hx]
    show wpAny _ _ (setSeqItemAt l m v >>= _) _ _ s
    refine wpAny_bind (wpAny_setSeqItemAt ho rfl ?_)
    first
      | exact wpAny_bind (wpAny_pure (wpAny_pure ⟨.none, rfl, wpAny_pure fin⟩))
      | exact wpAny_pure ⟨.none, rfl, wpAny_pure fin⟩
  | negSucc m =>
    show wpAny _ _ ((Builtin.List.listItems (.ref l) >>= fun xs => pure ((seqIndex? (Int.negSucc m) xs.size).bind fun i => xs[i]?.map (i, ·))) >>= _) _ _ s
    refine wpAny_bind (wpAny_bind ?_)
    show wpAny _ _ (seqItems? (.ref l) >>= _) _ _ s
    refine wpAny_bind (wpAny_seqItems ho rfl (wpAny_pure (wpAny_pure ?_)))
    rw [hj]
    simp only [Option.bind_some, hx, Option.map_some]
    show wpAny _ _ (setSeqItemAt l j v >>= _) _ _ s
    refine wpAny_bind (wpAny_setSeqItemAt ho rfl ?_)
    first
      | exact wpAny_bind (wpAny_pure (wpAny_pure ⟨.none, rfl, wpAny_pure fin⟩))
      | exact wpAny_pure ⟨.none, rfl, wpAny_pure fin⟩
end

section
variable {C : Cx} {ρ : Rho}

theorem Itm.listAt {ds : List PyData} {k : Int} {d : PyData} (h1 : -(ds.length : Int) ≤ k) (h2 : k < ds.length) (hs : ds.length ≤ sizeLine) (hd : ds[idxN ds.length k]? = some d) : Itm C (dt (.list ds)) (tI k) (dt d) := by
  intro O s o i ok B po pi
  cases pi
  cases po with
  | list n li rl =>
    refine ⟨⟨_, _, li.typeIs, list_getitem_lookup⟩, fun Q E q => ?_⟩
    obtain ⟨v, hv, pv⟩ := rl.get hd
    have hlen := rl.length
    rw [Array.length_toList] at hlen
    have hsl := sizeLine_eq
    have fin := q s.heap s.toks v .refl pv
    by_cases h0 : k < 0
    · refine wpAny_getItem_list_neg li h0 (by omega) (by omega) ?_ fin
      rw [← Array.getElem?_toList, hlen]
      unfold idxN at hv; rw [if_pos h0] at hv; exact hv
    · refine wpAny_getItem_list li (by omega) (by omega) ?_ fin
      rw [← Array.getElem?_toList]
      unfold idxN at hv; rw [if_neg h0] at hv; exact hv
theorem Itm.tupleAt {ds : List PyData} {k : Int} {d : PyData} (h1 : -(ds.length : Int) ≤ k) (h2 : k < ds.length) (hs : ds.length ≤ sizeLine) (hd : ds[idxN ds.length k]? = some d) : Itm C (dt (.tuple ds)) (tI k) (dt d) := by
  intro O s o i ok B po pi
  cases pi
  cases po with
  | tuple n li rl =>
    refine ⟨⟨_, _, li.typeIs, slot_tuple_getitem.lookup⟩, fun Q E q => ?_⟩
    obtain ⟨v, hv, pv⟩ := rl.get hd
    have hlen := rl.length
    rw [Array.length_toList] at hlen
    have hsl := sizeLine_eq
    refine getItem_tuple li (by omega) (by omega) (j := idxN ds.length k) ?_ ?_ (q s.heap s.toks v .refl pv)
    · rw [hlen]; exact seqIndex_idx h1 h2
    · rw [← Array.getElem?_toList]; exact hv

/-- own lists: made, appended to, changed -/
theorem Ex1.assignOwn {x : Str} {px p : Pos} {e : Expr} {ds : List PyData} {b₀ : Bnd} (h : EvNew C ρ e ds) (hx : ρ.lookup x = some b₀) (hs : b₀.sto = true := by rfl) (hw : ∀ env, swapsWith e (some (.Name x px)) p.line env = pure false := by intro _; rfl) :
    Ex1 C ρ (.Assign [.Name x px] e p) (fun o => o = .next (put x (.own ds) ρ)) := fun Ob Mb ad s Q E S q => by
  refine wpAny_Assign_Name (h Ob Mb ad s _ E S fun h' tk a items y na pl rl inv => ?_) (hw _)
  have exa : ∃ o, h'.get? a = some o := let ⟨_, e⟩ := pl; ⟨_, e⟩
  have S₁ := S.add y na exa inv
  have nO : ¬ Ob a := fun w => by obtain ⟨o, e⟩ := S.base.ex a (.inl w); rw [na] at e; cases e
  refine S₁.set (s := { s with heap := h', toks := tk }) (b := .free) hx hs (.inl rfl) fun h₂ tk₂ a₂ S₂ l₂ m₂ _ g₂ => ?_
  have a2a : a ≠ a₂ := fun z => nO (z ▸ S.mo a₂ m₂)
  have S₃ := S₂.toOwn (ds := ds) (items := items) hx nO S.mo (fun n c w => (S.oc n c w).1) (fun y es e z => by
    obtain ⟨o, eo⟩ := S.own_ex ⟨y, es, e, rfl⟩; rw [z, na] at eo; cases eo) l₂ (PL_agree pl g₂ a2a) ?_
  · refine q .next h₂ tk₂ _ rfl ⟨_, S₃, fun b o eb w => ?_⟩ ((Agree.mt S y).trans (g₂.wk fun b w => .inl (by have w' : b = a₂ := w; rw [w']; exact m₂)))
    obtain ⟨z, es, e, r⟩ := w
    rcases lookup_put hx e with ⟨rfl, _⟩ | ⟨nz, e⟩
    · rw [upd_pos rfl] at r; rw [r, na] at eb; cases eb
    · rw [upd_neg nz] at r; exact ⟨z, es, e, r⟩
  · have g' : Agree (fun b => OO Ob ρ ad b ∨ b = a) h' h₂ := g₂.wk fun b w => .inl (.inl (by have w' : b = a₂ := w; rw [w']; exact S.mo a₂ m₂))
    refine RepL.re (fun b _ _ w => ?_) (rl.mono g')
    rcases w with (w | w) | w
    · exact .inl (.inl w)
    · exact .inr w
    · exact .inl (.inr (w.put hx fun _ z => by cases z))

theorem EvNew.list {elts : List Expr} {p : Pos} {ds : List PyData} (h : EvL C ρ elts (ds.map dt)) (hz : ds.length ≤ sizeLine := by decide) : EvNew C ρ (.List elts p) ds := fun Ob Mb ad s Q E S q =>
  List_ (h Ob Mb ad s _ _ E S fun h' tk vs y pv => by
    have B := (S.step y).base
    have rl := TyL.repL pv
    have hn : h'.get? h'.objs.size = none := fresh_none (Nat.le_refl _)
    refine wpAny_newObj_type (q _ tk _ vs.toArray (y.trans (.push _)) ?_ ⟨_, Heap.get?_push_size _ rfl⟩ ?_ ?_) ?_
    · cases e : s.heap.get? h'.objs.size with
      | none => rfl
      | some o => obtain ⟨o', e'⟩ := y.ag.1 _ o e; rw [hn] at e'; cases e'
    · have : RepL (fun b => OO Ob ρ ad b ∨ b = h'.objs.size) h' vs ds := rl.re fun b o e w => w.elim id fun w => by rw [w, hn] at e; cases e
      simpa using this.mono (.push _)
    · exact inv_ext B hn fun b o e => Heap.get?_push_of_some _ e
    · show vs.toArray.size ≤ sizeLine
      rw [List.size_toArray, rl.length]; exact hz)
theorem Ev.tuple {elts : List Expr} {k : Nat} {p : Pos} {ds : List PyData} (h : EvL C ρ elts (ds.map dt)) (hz : ds.length ≤ sizeLine := by decide) : Ev C ρ (.Tuple elts k p) (dt (.tuple ds)) := fun Ob Mb ad s S Q E q =>
  Tuple_ (h Ob Mb ad s _ _ E S fun h' tk vs y pv => by
    have B := (S.step y).base
    have rl := TyL.repL pv
    refine wpAny_newTuple (q _ tk _ (y.trans (.push _)) (.tuple (new_off B) ⟨_, Heap.get?_push_size _ rfl, rfl, _, rfl⟩ ?_)) (by rw [rl.length]; exact hz)
    simpa using rl.mono (.push _))

theorem Ex1.append {x : Str} {nx apos cpos p : Pos} {e : Expr} {ds : List PyData} {d : PyData} {pl : Env → Sem Bool} (hx : ρ.lookup x = some (.own ds)) (h : Ev C ρ e (dt d)) (hz : ds.length < sizeLine)
    (he : ∀ env, eval (.Call (.Attribute (.Name x nx) "append" apos) [e] [] cpos) env = (do
      let ov ← eval (.Name x nx) env
      standAt apos.atName
      let (f, first) ← holding [ov] (getMethod ov "append" (pl env))
      callWith cpos f first (backTo cpos (starEach [e] env)) []) := by intro _; rfl)
    (hs : ∀ env, starEach [e] env = (false, eval e env) :: starEach [] env := by intro _; rfl)
    (hd : (x == ("__debug__" : Str)) = false := by decide) (hi : ∀ env, env.scope.kind = .function → interactive env = false := by intro _ h; unfold interactive; rw [h]; rfl)
    (hw : ∀ env, swapsWith (.Call (.Attribute (.Name x nx) "append" apos) [e] [] cpos) none p.line env = pure false := by intro _; rfl) :
    Ex1 C ρ (.Expr (.Call (.Attribute (.Name x nx) "append" apos) [e] [] cpos) p) (fun o => o = .next (put x (.own (ds ++ [d])) ρ)) := fun Ob Mb ad s Q E S q => by
  obtain ⟨items, l, nO, pl', rl⟩ := S.vars x _ hx
  refine wpAny_Expr (MethodCall_ (wpAny_Name (loc_load S.ok.kind l ?_) hd) (he _)) (hi _ S.ok.kind) (hw _)
  obtain ⟨n, ho⟩ := id pl'
  refine Calls.getMethod_list_append ho rfl rfl ?_
  refine wpAny_args (W := C.W) KeepOk.builtin ?_ (hs _) rfl
  refine spliced_more (h Ob Mb ad s S _ E fun h' tk v y pv => spliced_none ⟨(S.step y).kin, ?_⟩) (hs _)
  have S' := S.step y
  have pl₂ := PL_agree pl' y.ag (S.xown hx)
  have rl₂ := rl.mono (S.agO y)
  have hlen := rl.length
  rw [Array.length_toList] at hlen
  refine wpAny_list_append_plain (s := { s with heap := h', toks := tk }) pl₂ (fun h₂ pl₃ sb => ?_) (by omega)
  have S₂ := S'.updOwn hx sb pl₃ (es := ds ++ [d]) (by rw [Array.toList_push]; exact rl₂.append (.cons pv .nil))
  obtain ⟨_, e₃⟩ := id pl₃
  refine q .next h₂ tk _ rfl ⟨ad, S₂, fun a o _ w => ?_⟩ ((Agree.mt S y).trans (.same sb e₃ (.inr ⟨x, ds, hx, rfl⟩)))
  obtain ⟨z, es, e, r⟩ := w
  rcases lookup_put hx e with ⟨rfl, _⟩ | ⟨_, e⟩
  · exact ⟨z, ds, hx, r⟩
  · exact ⟨z, es, e, r⟩

theorem RepL.set {O : Addr → Prop} {h : Heap} : ∀ {vs : List Value} {ds : List PyData} (j : Nat) {v : Value} {d : PyData}, RepL O h vs ds → Rep O h v d → RepL O h (vs.set j v) (ds.set j d)
  | _, _, _, _, _, .nil, _ => .nil
  | _, _, 0, _, _, .cons _ r, p => .cons p r
  | _, _, j + 1, _, _, .cons x r, p => .cons x (RepL.set j r p)

/-- x[i] = e upon an own list -/
theorem Ex1.setItem {x : Str} {nx ps p : Pos} {ie e : Expr} {ds : List PyData} {d : PyData} {k : Int} (hx : ρ.lookup x = some (.own ds)) (h : Ev C ρ e (dt d)) (hi : Ev C ρ ie (tI k)) (h1 : -(ds.length : Int) ≤ k) (h2 : k < ds.length) (hz : ds.length ≤ sizeLine)
    (hd : (x == ("__debug__" : Str)) = false := by decide) (hw : ∀ env, swapsWith e (some (.Subscript (.Name x nx) ie ps)) p.line env = pure false := by intro _; rfl) :
    Ex1 C ρ (.Assign [.Subscript (.Name x nx) ie ps] e p) (fun o => o = .next (put x (.own (ds.set (idxN ds.length k) d)) ρ)) := fun Ob Mb ad s Q E S q => by
  refine wpAny_Assign_Subscript (h Ob Mb ad s S _ E fun h' tk v y pv => ?_) (hw _)
  have S' := S.step y
  obtain ⟨items, l, nO, pl, rl⟩ := S'.vars x _ hx
  refine wpAny_Name (loc_load S.ok.kind l ?_) hd
  refine hi Ob Mb ad { s with heap := h', toks := tk } S' _ E fun h₂ tk₂ iv y₂ pi => ?_
  cases pi
  have S₂ := S'.step y₂
  have pl₂ := PL_agree pl y₂.ag (S.xown hx)
  have rl₂ := rl.mono (S'.agO y₂)
  have pv₂ := (dt d).mono pv (S'.agO y₂)
  have hlen := rl.length
  rw [Array.length_toList] at hlen
  have hsl := sizeLine_eq
  refine setItem_plain (s := { s with heap := h₂, toks := tk₂ }) pl₂ (fitsIdx (by omega) (by omega)) (by omega) (by omega) fun h₃ pl₃ sb => ?_
  rw [hlen] at pl₃
  have S₃ := S₂.updOwn hx sb pl₃ (es := ds.set (idxN ds.length k) d) (by rw [Array.toList_setIfInBounds]; exact rl₂.set _ pv₂)
  obtain ⟨_, e₃⟩ := id pl₃
  refine q .next h₃ tk₂ _ rfl ⟨ad, S₃, fun a o _ w => ?_⟩ ((Agree.mt S y).trans ((Agree.mt S' y₂).trans (.same sb e₃ (.inr ⟨x, ds, hx, rfl⟩))))
  obtain ⟨z, es, e, r⟩ := w
  rcases lookup_put hx e with ⟨rfl, _⟩ | ⟨_, e⟩
  · exact ⟨z, ds, hx, r⟩
  · exact ⟨z, es, e, r⟩

/-- a value that does not lie on the heap -/
def Ty.Atom (T : Ty) : Prop := ∀ O O' h h' v, T.P O h v → T.P O' h' v
theorem atomS {l : List Nat} : (tS l).Atom := fun _ _ _ _ _ p => by cases p; exact .str _ _

theorem freeze_step {Ob Mb : Addr → Prop} {ad : Str → Addr} {h h' : Heap} {x : Str} {ds : List PyData} (S : St C Ob Mb ρ ad h) (hx : ρ.lookup x = some (.own ds)) (y : Step C.W (OO Ob (put x (.val (dt (.list ds))) ρ) ad) h h') : Step C.W (OO Ob ρ ad) h h' := by
  refine ⟨y.ag, fun i => ?_⟩
  obtain ⟨items, l, nO, pl, rl⟩ := S.vars x _ hx
  have i1 : C.W.I.P (OO Ob (put x (.val (dt (.list ds))) ρ) ad) h := C.W.I.re (fun a _ _ q => q.imp id fun q => q.put hx fun _ e => by cases e) i
  have i2 := C.W.I.upL (y.inv i1) (PL_agree pl y.ag (S.xown hx))
  refine C.W.I.re (fun a _ _ q => ?_) i2
  rcases q with q | ⟨z, es, e, r⟩
  · exact .inl (.inl q)
  · by_cases nz : z = x
    · exact .inr (by rw [r, nz])
    · exact .inl (.inr ⟨z, es, by rw [lookup_put_ne nz]; exact e, r⟩)
/-- an own list, read -/
theorem Ev.borrow {e : Expr} {T : Ty} (x : Str) {ds : List PyData} (hx : ρ.lookup x = some (.own ds)) (h : Ev C (put x (.val (dt (.list ds))) ρ) e T) (ha : T.Atom) : Ev C ρ e T := fun Ob Mb ad s S Q E q =>
  h Ob Mb ad s (S.freeze hx) Q E fun h' tk v y pv => q h' tk v (freeze_step S hx y) (ha _ _ _ _ _ pv)
/-- from here on the list changes no more -/
theorem Ex.freeze {sts : List Stmt} {Post : Out → Prop} (x : Str) {ds : List PyData} (hx : ρ.lookup x = some (.own ds)) (h : Ex C (put x (.val (dt (.list ds))) ρ) sts Post) : Ex C ρ sts Post := fun Ob Mb ad s Q E S q =>
  h Ob Mb ad s Q E (S.freeze hx) fun fl h' tk out p f g => q fl h' tk out p (f.up (fun a o _ w => w.put hx fun _ e => by cases e) fun a o e => ⟨o, e⟩) (g.wk fun a w => w.imp id fun w => w.put hx fun _ e => by cases e)
end
end Mine

namespace Mine
open PySem PySem.W PyProof.Rows PySem.Spec

section
variable {C : Cx} {ρ : Rho} {W : Wd}

theorem Truth.list {ds : List PyData} (h : ds.length ≤ sizeLine) : Truth C (dt (.list ds)) (!ds.isEmpty) := fun O s v Q E ok B pv q => by
  cases pv with
  | list n li rl =>
    have hlen := rl.length
    rw [Array.length_toList] at hlen
    have hsl := sizeLine_eq
    refine wpAny_truthy_list li (by omega) ?_
    rename_i vs
    have e : (!vs.isEmpty) = !ds.isEmpty := by
      cases ds with
      | nil => simp at hlen; simp [hlen]
      | cons d r =>
        have : vs.size ≠ 0 := by rw [hlen]; simp
        simp [Array.isEmpty, this]
    rw [e]
    exact q s.heap _ .refl

theorem Cl.lenS {l : List Nat} (h : l.length ≤ sizeLine) : Cl W 0 (.builtin "len") [tS l] (tI l.length) := fun C O s vs ok e hl B tv Q E q => by
  cases tv with
  | cons p r =>
    cases r; cases p
    have hsl := sizeLine_eq
    refine len_str (by rw [S_len]; omega) ?_
    rw [S_len]
    exact q s.heap _ _ .refl (.int _ _)
theorem Cl.lenL {ds : List PyData} (h : ds.length ≤ sizeLine) : Cl W 0 (.builtin "len") [dt (.list ds)] (tI ds.length) := fun C O s vs ok e hl B tv Q E q => by
  cases tv with
  | cons p r =>
    cases r
    cases p with
    | list n li rl =>
      have hlen := rl.length
      rw [Array.length_toList] at hlen
      have hsl := sizeLine_eq
      refine Calls.call_len_list li (by omega) ?_
      rw [hlen]
      exact q s.heap _ _ .refl (.int _ _)

/-- a range -/
def rngT (a b c : Int) : Ty := ⟨fun O h v => ∃ r t u w, v = .ref r ∧ ¬ O r ∧ IsRange h r a b c t u w, fun ⟨r, t, u, w, e, n, i⟩ g => ⟨r, t, u, w, e, n, g _ _ n i⟩, fun g ⟨r, t, u, w, e, n, i⟩ => ⟨r, t, u, w, e, fun q => n (g _ _ i q), i⟩⟩
theorem Cl.range1 {n : Int} : Cl W 0 (.type "range") [tI n] (rngT 0 n 1) := fun C O s vs ok e hl B tv Q E q => by
  subst e
  cases tv with
  | cons p r => cases r; cases p; exact call_range_1 (q _ _ _ (.push _) ⟨_, _, _, _, rfl, new_off B, IsRange.new ..⟩)
theorem Cl.range2 {a b : Int} : Cl W 0 (.type "range") [tI a, tI b] (rngT a b 1) := fun C O s vs ok e hl B tv Q E q => by
  subst e
  cases tv with
  | cons p r => cases p; cases r with
    | cons p r => cases r; cases p; exact call_range_2 (q _ _ _ (.push _) ⟨_, _, _, _, rfl, new_off B, IsRange.new ..⟩)

theorem Iter.list {ds : List PyData} : Iter C (dt (.list ds)) (ds.map dt) := fun O s v Q E ok B pv q => by
  cases pv with
  | list n li rl =>
    rename_i a vs
    obtain ⟨o, eo, hc, k, hd⟩ := id li
    have hlt := Heap.lt_size eo
    have hlen := rl.length
    rw [Array.length_toList] at hlen
    refine wpAny_pyIter_list li ?_
    refine q s.heap.objs.size [s.heap.objs.size, a] (fun i v => vs[i]? = some v) (fun i h => h.IsListIter s.heap.objs.size a i ∧ h.IsList a vs) _ s.toks (fresh_none (Nat.le_refl _)) (fun b o e => Heap.get?_push_of_some _ e) (by rw [List.length_map, ← hlen]; exact Walks.list ok.hd _ _ (Nat.ne_of_lt hlt) vs) ⟨⟨_, Heap.get?_push_size _ rfl, rfl, rfl⟩, li.push _⟩ (fun i h st => let ⟨o, e, _⟩ := st.1; ⟨o, e⟩) ?_ ?_
    · intro b hb nb
      rcases List.mem_cons.mp hb with h | h
      · exact absurd h nb
      · rw [List.mem_singleton.mp h]; exact ⟨n, o, eo⟩
    · intro i v T' hP hT
      rw [List.getElem?_map] at hT
      obtain ⟨d, hd', rfl⟩ := Option.map_eq_some_iff.mp hT
      obtain ⟨w, hw, pw⟩ := rl.get hd'
      have hP' : vs[i]? = some v := hP
      rw [← Array.getElem?_toList, hw] at hP'
      cases hP'
      exact pw
/-- a range's numbers -/
def rngL (a c : Int) (n : Nat) : List PyData := (List.range n).map fun (i : Nat) => PyData.int (a + (i : Int) * c)
theorem Iter.range {a b c : Int} (n : Nat) (hs : Builtin.Range.small a b c = true) (hn : Builtin.Range.rangeSize a b c = (n : Int)) : Iter C (rngT a b c) ((rngL a c n).map dt) := fun O s v Q E ok B pv q => by
  obtain ⟨r, t, u, w, rfl, nr, i⟩ := pv
  refine wpAny_pyIter_range i hs ?_
  have hl : ((rngL a c n).map dt).length = n := by simp [rngL]
  refine q s.heap.objs.size [s.heap.objs.size] _ _ _ s.toks (fresh_none (Nat.le_refl _)) (fun b o e => Heap.get?_push_of_some _ e) (by rw [hl]; exact (Walks.range ok.hd _ a c n)) (by rw [hn]; simpa using Heap.get?_push_size _ rfl) (fun i h st => ⟨_, st⟩) (fun b hb nb => absurd (List.mem_singleton.mp hb) nb) ?_
  rintro i v T' ⟨t, rfl⟩ hT
  rw [rngL, List.map_map, List.getElem?_map] at hT
  obtain ⟨j, hj, rfl⟩ := Option.map_eq_some_iff.mp hT
  have : j = i := by
    have := List.getElem?_eq_some_iff.mp hj
    obtain ⟨h1, h2⟩ := this
    simpa using h2.symm
  subst this
  exact .int _ _
theorem rng_up {a b : Int} (ha : -1000000000 < a) (ha' : a < 1000000000) (hb : -1000000000 < b) (hb' : b < 1000000000) : Iter C (rngT a b 1) ((rngL a 1 (b - a).toNat).map dt) :=
  Iter.range _ (small_one (by omega) (by omega) (by omega) (by omega)) (by rw [rangeSize_one]; split <;> omega)

theorem Mth.strip {l : List Nat} : Mth C (tS l) "strip" "str.strip" := fun O s v pl Q E ok B pv q => by cases pv; exact GM.strip q
theorem Mth.lstrip {l : List Nat} : Mth C (tS l) "lstrip" "str.lstrip" := fun O s v pl Q E ok B pv q => by cases pv; exact GM.lstrip q
theorem Mth.join {l : List Nat} : Mth C (tS l) "join" "str.join" := fun O s v pl Q E ok B pv q => by cases pv; exact GM.join q
theorem Mth.split {l : List Nat} : Mth C (tS l) "split" "str.split" := fun O s v pl Q E ok B pv q => by cases pv; exact GM.split q

theorem strs_of {O : Addr → Prop} {h : Heap} : ∀ {ls : List (List Nat)} {vs : List Value}, RepL O h vs (ls.map fun l => .str (S l)) → ∃ xs : List (Str × Tok), vs = strValues xs ∧ xs.map (·.1) = ls.map S
  | [], _, .nil => ⟨[], rfl, rfl⟩
  | l :: ls, _, .cons p r => by
    obtain ⟨xs, rfl, e⟩ := strs_of r
    cases p
    rename_i t
    exact ⟨(S l, t) :: xs, rfl, by rw [List.map_cons, List.map_cons, e]⟩
/-- sep.join -/
def joinL (sep : List Nat) : List (List Nat) → List Nat
  | [] => []
  | [x] => x
  | x :: y :: r => x ++ sep ++ joinL sep (y :: r)
end
end Mine

namespace Mine
open PySem PySem.W PyProof.Rows PySem.Spec

theorem plainAttrs_pat : PlainAttrs "re.Pattern" :=
  ⟨⟨"object.__getattribute__", by rw [typeLookup_type, builtinLookup_eq_fast]; kernel_rfl, by decide +kernel⟩, by rw [typeLookup_type, builtinLookup_eq_fast]; kernel_rfl⟩
theorem plainAttrs_mat : PlainAttrs "re.Match" :=
  ⟨⟨"object.__getattribute__", by rw [typeLookup_type, builtinLookup_eq_fast]; kernel_rfl, by decide +kernel⟩, by rw [typeLookup_type, builtinLookup_eq_fast]; kernel_rfl⟩
theorem slot_match : Slot "re.Pattern" "match" "re.Pattern.match" :=
  .of (owner := "re.Pattern") (n := "match") (by rw [typeLookup_type, builtinLookup_eq_fast]; kernel_rfl) (by decide +kernel) (by decide +kernel) (by decide +kernel)
    (by first | exact .inl (by decide +kernel) | exact .inr (by decide +kernel)) (by rw [isSubtype_type]; kernel_rfl)
theorem type_match : typeOf (.builtin "re.Pattern.match") = pure (.type "method_descriptor") := by show builtinType _ = _; rw [builtinType_eq_fast]; kernel_rfl
theorem entry_match : entryFor table "re.Pattern.match" = some Builtin.«re.Pattern.match» := entryFor_of_tree (by kernel_rfl)
theorem slot_group : Slot "re.Match" "group" "re.Match.group" :=
  .of (owner := "re.Match") (n := "group") (by rw [typeLookup_type, builtinLookup_eq_fast]; kernel_rfl) (by decide +kernel) (by decide +kernel) (by decide +kernel)
    (by first | exact .inl (by decide +kernel) | exact .inr (by decide +kernel)) (by rw [isSubtype_type]; kernel_rfl)
theorem type_group : typeOf (.builtin "re.Match.group") = pure (.type "method_descriptor") := by show builtinType _ = _; rw [builtinType_eq_fast]; kernel_rfl
theorem entry_group : entryFor table "re.Match.group" = some Builtin.«re.Match.group» := entryFor_of_tree (by kernel_rfl)
theorem args_match (a b : Value) : argsOk "re.Pattern.match" ⟨[a, b], []⟩ := by
  unfold argsOk; kernel_rfl
theorem args_group1 (a b : Value) : argsOk "re.Match.group" ⟨[a, b], []⟩ := by
  unfold argsOk; kernel_rfl
end Mine

namespace Mine
open PySem PySem.W PyProof.Rows PySem.Spec

section
open PySem.Sre (M Op ops)
/-- the machine ends within so many steps -/
def Ends (N : Nat) (m : M) (P : M → Prop) : Prop := ∃ m', M.runFor N m = m' ∧ m'.outcome.isSome = true ∧ P m'
theorem Ends.step {N : Nat} {m : M} {P : M → Prop} (h : m.outcome = none) (k : Ends N m.step P) : Ends (N + 1) m P := by
  obtain ⟨m', e, o, p⟩ := k
  refine ⟨m', ?_, o, p⟩
  show (if m.outcome.isSome = true then m else M.runFor N m.step) = m'
  rw [h]; exact e
theorem runFor_done {m : M} (h : m.outcome.isSome = true) : ∀ N, M.runFor N m = m
  | 0 => rfl
  | N + 1 => by show (if m.outcome.isSome = true then m else M.runFor N m.step) = m; rw [if_pos h]
theorem Ends.done {N : Nat} {m : M} {P : M → Prop} (h : m.outcome.isSome = true) (p : P m) : Ends N m P := ⟨m, runFor_done h N, h, p⟩
theorem runFor_add : ∀ (a b : Nat) (m : M), M.runFor (a + b) m = M.runFor b (M.runFor a m)
  | 0, b, m => by rw [Nat.zero_add]; rfl
  | a + 1, b, m => by
    rw [Nat.add_right_comm]
    by_cases h : m.outcome.isSome = true
    · rw [runFor_done h, runFor_done h, runFor_done h]
    · show (if m.outcome.isSome = true then m else M.runFor (a + b) m.step) = M.runFor b (if m.outcome.isSome = true then m else M.runFor a m.step)
      rw [if_neg h, if_neg h]
      exact runFor_add a b m.step
theorem drive_ends {Md : Model} {A : Around} {E : Value → Shared → Prop} {s : Shared} {P : M → Prop} {Q : M → Shared → Prop} (q : ∀ m', m'.outcome.isSome = true → P m' → Q m' s) : ∀ (turns N : Nat) (m : M), Ends N m P → N ≤ 4 * turns → 1 ≤ turns → wpAny Md A (Builtin.Re.reDrive turns m) Q E s
  | 0, _, _, _, _, h => absurd h (by decide)
  | turns + 1, N, m, k, hN, _ => by
    obtain ⟨m', e, o, p⟩ := k
    unfold Builtin.Re.reDrive
    show wpAny Md A (if (M.runFor 4 m).outcome.isSome = true then pure (M.runFor 4 m) else (do rule "sre.turn"; Builtin.Re.reDrive turns (M.runFor 4 m))) Q E s
    by_cases h : (M.runFor 4 m).outcome.isSome = true
    · rw [if_pos h]
      have : M.runFor 4 m = m' := by
        by_cases hl : N ≤ 4
        · have e2 := runFor_add N (4 - N) m
          rw [Nat.add_sub_cancel' hl, e, runFor_done o] at e2
          exact e2
        · have e2 := runFor_add 4 (N - 4) m
          rw [Nat.add_sub_cancel' (by omega), e, runFor_done h] at e2
          exact e2.symm
      rw [this]
      exact wpAny_pure (q m' o p)
    · rw [if_neg h]
      have hl : ¬ N ≤ 4 := fun hl => by
        have e2 := runFor_add N (4 - N) m
        rw [Nat.add_sub_cancel' hl, e, runFor_done o] at e2
        rw [e2] at h
        exact h o
      refine wpAny_bind (wpAny_rule ?_)
      refine drive_ends q turns (N - 4) _ ⟨m', ?_, o, p⟩ (by omega) (by omega)
      rw [← runFor_add, Nat.add_sub_cancel' (by omega)]
      exact e

variable {m : M}
theorem step_exec (h0 : m.outcome = none) (h1 : m.answer = none) (h2 : m.pc < m.code.size) : m.step = m.exec := by
  unfold M.step
  rw [h0, h1]
  simp [h2]
theorem step_back {f : Sre.Frame} {rest : List Sre.Frame} {yes : Bool} (h0 : m.outcome = none) (h1 : m.answer = some yes) (h2 : m.frames = f :: rest) :
    m.step = M.resume { m with answer := none, frames := rest, weight := m.weight - (1 + f.kept.marks.size), pc := f.pc, pos := f.pos, outermost := f.outermost } f yes := by
  unfold M.step
  rw [h0, h1, h2]
  rfl
theorem step_out {yes : Bool} (h0 : m.outcome = none) (h1 : m.answer = some yes) (h2 : m.frames = []) : m.step = { m with outcome := some (if yes then .matched else .failed) } := by
  unfold M.step
  rw [h0, h1, h2]
  rfl
theorem exec_rep1 {n : Nat} (hop : ops[m.word 0]? = some .REPEAT_ONE) (hl : m.word 2 = 0) (hp : m.pos ≤ m.lim) (hi : m.inner = none) (hw : m.weight ≤ 1000)
    (hr : ∀ sn, ∃ sn', Sre.run m.code m.text (m.pc + 4) (min (m.word 3) (m.lim - m.pos)) m.pos 0 sn = .ok (n, sn')) :
    ∃ sn', m.exec = { m with seen := sn', pos := m.pos + n, handed := m.pos + n, frames := { wait := .giveBack, pc := m.pc, pos := m.pos + n, outermost := m.outermost, count := n, kept := { lastmark := m.lastmark, lastindex := m.lastindex } } :: m.frames, weight := m.weight + 1, pc := m.pc + 1 + m.word 1 } := by
  obtain ⟨sn', e⟩ := hr ((m.seen.add (m.word 0)).add (m.word 4))
  refine ⟨sn', ?_⟩
  unfold M.exec
  rw [hop]
  have hroom : ((m.lim : Int) - m.pos).toNat = m.lim - m.pos := by omega
  have hl' : ¬ (((m.word 2 : Nat) : Int) > (m.lim : Int) - m.pos) := by rw [hl]; omega
  show (if ((m.word 2 : Nat) : Int) > (m.lim : Int) - m.pos then _ else match Sre.run m.code m.text (m.pc + 4) (min (m.word 3) ((m.lim : Int) - m.pos).toNat) m.pos 0 ((m.seen.add (m.word 0)).add (m.word 4)) with | .error why => _ | .ok (n, seen) => _) = _
  rw [if_neg hl', hroom, e]
  have hn : ¬ n < m.word 2 := by rw [hl]; exact Nat.not_lt_zero _
  show (if n < m.word 2 then _ else _) = _
  rw [if_neg hn]
  show M.attempt _ _ _ _ _ = _
  unfold M.attempt
  have hk : ({ m with seen := sn', pos := m.pos + n } : M).keep m.inner.isSome = { lastmark := m.lastmark, lastindex := m.lastindex } := by rw [hi]; rfl
  have hk' := hk
  simp only [hk']
  rw [if_neg (show ¬ (m.weight + 1 + (#[] : Array (Option Nat)).size > 16777216) by simp; omega)]
  rfl

theorem run_ok {code text : Array Nat} {i : Nat} (acc : Nat → Bool) (ha : ∀ c sn, ∃ sn', Sre.accepts code i c sn = .ok (acc c, sn')) : ∀ (n p found : Nat) (sn : Sre.Seen), p + n ≤ text.size → ∃ sn', Sre.run code text i n p found sn = .ok (found + (((text.toList.drop p).take n).takeWhile acc).length, sn')
  | 0, p, found, sn, _ => ⟨sn, by simp [Sre.run]⟩
  | n + 1, p, found, sn, h => by
    have hp : p < text.toList.length := by simp; omega
    have e : text.getD p 0 = text.toList[p] := by
      have : p < text.size := by omega
      simp [Array.getD, this]
    have hle : p + 1 + n ≤ text.size := by omega
    obtain ⟨s1, e1⟩ := ha (text.getD p 0) sn
    rw [List.drop_eq_getElem_cons hp, List.take_succ_cons, List.takeWhile_cons, ← e]
    cases hc : acc (text.getD p 0) with
    | true =>
      obtain ⟨s2, e2⟩ := run_ok acc ha n (p + 1) (found + 1) s1 hle
      refine ⟨s2, ?_⟩
      unfold Sre.run
      rw [e1, hc]
      show Sre.run code text i n (p + 1) (found + 1) s1 = _
      rw [e2]
      simp; omega
    | false =>
      refine ⟨s1, ?_⟩
      unfold Sre.run
      rw [e1, hc]
      simp
      rfl

/-- blanks and tabs -/
def isB (c : Nat) : Bool := c == 32 || c == 9
def isH (c : Nat) : Bool := c == 35
def hdrCode : Array Nat := #[14, 4, 0, 0, 4294967295, 6, 0, 17, 0, 24, 11, 0, 4294967295, 13, 6, 16, 32, 16, 9, 0, 1, 24, 6, 0, 4294967295, 16, 35, 1, 17, 1, 1]
theorem acc_hdrB (c : Nat) (sn : Sre.Seen) : ∃ sn', Sre.accepts hdrCode 13 c sn = .ok (isB c, sn') := by
  show ∃ sn', (if (c == 32) = true then .ok (true, _) else (if (c == 9) = true then .ok (true, _) else .ok (false, _) : Except String (Bool × Sre.Seen))) = .ok (isB c, sn')
  unfold isB
  cases c == 32 <;> cases c == 9 <;> exact ⟨_, rfl⟩
theorem acc_hdrH (c : Nat) (sn : Sre.Seen) : ∃ sn', Sre.accepts hdrCode 25 c sn = .ok (isH c, sn') := ⟨sn, rfl⟩

/-- how long the indent, the header -/
def indN (l : List Nat) : Nat := (l.takeWhile isB).length
def hdrN (l : List Nat) : Nat := indN l + ((l.drop (indN l)).takeWhile isH).length
theorem indN_le (l : List Nat) : indN l ≤ l.length := by unfold indN; exact (List.takeWhile_sublist _).length_le
theorem hdrN_le (l : List Nat) : hdrN l ≤ l.length := by
  unfold hdrN
  have h1 := indN_le l
  have h2 := (List.takeWhile_sublist (l := l.drop (indN l)) isH).length_le
  rw [List.length_drop] at h2
  omega

theorem run_rest {code : Array Nat} {l : List Nat} {i p : Nat} (acc : Nat → Bool) (ha : ∀ c sn, ∃ sn', Sre.accepts code i c sn = .ok (acc c, sn')) (hp : p ≤ l.length) (hz : l.length ≤ sizeLine) (sn : Sre.Seen) :
    ∃ sn', Sre.run code l.toArray i (min 4294967295 (l.length - p)) p 0 sn = .ok (((l.drop p).takeWhile acc).length, sn') := by
  have hsl := sizeLine_eq
  rw [Nat.min_eq_right (by omega)]
  obtain ⟨sn', e⟩ := run_ok (text := l.toArray) acc ha (l.length - p) p 0 sn (by simp; omega)
  refine ⟨sn', e.trans ?_⟩
  rw [Nat.zero_add, List.take_of_length_le (by simp)]


def mS (code : Array Nat) (l : List Nat) (pc pos handed : Nat) (marks : Array (Option Nat)) (lm li : Int) (fr : List Sre.Frame) (wt : Nat) (an : Option Bool) (oc : Option Sre.Outcome) (sn : Sre.Seen) : M :=
  { code, text := l.toArray, lim := l.length, start := 0, pc, pos, handed, marks, lastmark := lm, lastindex := li, frames := fr, weight := wt, answer := an, outcome := oc, seen := sn }
section
variable {code : Array Nat} {l : List Nat} {pc pos handed wt N : Nat} {marks : Array (Option Nat)} {lm li : Int} {fr : List Sre.Frame} {sn : Sre.Seen} {P : M → Prop}
theorem isAt0 {m : M} {k : Nat} (h : m.pos = 0) (hk : k = 0) : m.isAt k = .ok true := by
  subst hk
  show Except.ok (m.pos == 0) = _
  rw [h]; rfl
theorem Ends.at0 (hop : ops[code.getD pc 0]? = some .AT) (ha : code.getD (pc + 1) 0 = 0) (hpc : pc < code.size) (k : ∀ sn, Ends N (mS code l (pc + 2) 0 handed marks lm li fr wt none none sn) P) : Ends (N + 1) (mS code l pc 0 handed marks lm li fr wt none none sn) P := by
  refine Ends.step rfl ?_
  rw [step_exec rfl rfl hpc]
  have hw : (mS code l pc 0 handed marks lm li fr wt none none sn).word 1 = 0 := ha
  have e : ∃ sn', (mS code l pc 0 handed marks lm li fr wt none none sn).exec = mS code l (pc + 2) 0 handed marks lm li fr wt none none sn' := by
    unfold M.exec
    rw [show ops[(mS code l pc 0 handed marks lm li fr wt none none sn).word 0]? = some .AT from hop]
    refine ⟨(sn.add (code.getD pc 0)).add (43 + code.getD (pc + 1) 0), ?_⟩
    show (match M.isAt _ (code.getD (pc + 1) 0) with | .error why => _ | .ok yes => _) = _
    rw [isAt0 rfl ha]
    rfl
  obtain ⟨sn', e⟩ := e
  rw [e]
  exact k _
theorem Ends.mark (i : Nat) (hop : ops[code.getD pc 0]? = some .MARK) (ha : code.getD (pc + 1) 0 = i) (hpc : pc < code.size) (hi : (i : Int) ≤ lm + 1) (k : ∀ sn, Ends N (mS code l (pc + 2) pos handed (marks.setIfInBounds i (some pos)) (max lm i) (if i % 2 == 1 then (i / 2 + 1 : Nat) else li) fr wt none none sn) P) : Ends (N + 1) (mS code l pc pos handed marks lm li fr wt none none sn) P := by
  refine Ends.step rfl ?_
  rw [step_exec rfl rfl hpc]
  have e : (mS code l pc pos handed marks lm li fr wt none none sn).exec = mS code l (pc + 2) pos handed (marks.setIfInBounds i (some pos)) (max lm i) (if i % 2 == 1 then (i / 2 + 1 : Nat) else li) fr wt none none (sn.add (code.getD pc 0)) := by
    unfold M.exec
    rw [show ops[(mS code l pc pos handed marks lm li fr wt none none sn).word 0]? = some .MARK from hop]
    show M.mark _ (code.getD (pc + 1) 0) = _
    rw [ha]
    unfold M.mark
    show M.mk _ _ _ _ _ _ _ _ _ _ _ ((if (i : Int) ≤ lm + 1 then marks else _).setIfInBounds i (some pos)) _ _ _ _ _ _ _ _ _ = _
    rw [if_pos hi]
    rfl
  rw [e]
  exact k _
theorem Ends.succ (hop : ops[code.getD pc 0]? = some .SUCCESS) (hpc : pc < code.size) (k : ∀ sn, Ends N (mS code l pc pos pos marks lm li fr wt (some true) none sn) P) : Ends (N + 1) (mS code l pc pos handed marks lm li fr wt none none sn) P := by
  refine Ends.step rfl ?_
  rw [step_exec rfl rfl hpc]
  have e : (mS code l pc pos handed marks lm li fr wt none none sn).exec = mS code l pc pos pos marks lm li fr wt (some true) none (sn.add (code.getD pc 0)) := by
    unfold M.exec
    rw [show ops[(mS code l pc pos handed marks lm li fr wt none none sn).word 0]? = some .SUCCESS from hop]
    rfl
  rw [e]
  exact k _
theorem Ends.rep (n : Nat) (hop : ops[code.getD pc 0]? = some .REPEAT_ONE) (hl : code.getD (pc + 2) 0 = 0) (hm : code.getD (pc + 3) 0 = 4294967295) (hp : pos ≤ l.length) (hw : wt ≤ 1000) (hpc : pc < code.size) (hz : l.length ≤ sizeLine) (acc : Nat → Bool) (ha : ∀ c sn, ∃ sn', Sre.accepts code (pc + 4) c sn = .ok (acc c, sn')) (hn : ((l.drop pos).takeWhile acc).length = n)
    (k : ∀ sn, Ends N (mS code l (pc + 1 + code.getD (pc + 1) 0) (pos + n) (pos + n) marks lm li ({ wait := .giveBack, pc := pc, pos := pos + n, outermost := true, count := n, kept := { lastmark := lm, lastindex := li } } :: fr) (wt + 1) none none sn) P) : Ends (N + 1) (mS code l pc pos handed marks lm li fr wt none none sn) P := by
  refine Ends.step rfl ?_
  rw [step_exec rfl rfl hpc]
  obtain ⟨s1, e1⟩ := exec_rep1 (n := n) (m := mS code l pc pos handed marks lm li fr wt none none sn) hop hl hp rfl hw fun sn => by
    show ∃ sn', Sre.run code l.toArray (pc + 4) (min (code.getD (pc + 3) 0) (l.length - pos)) pos 0 sn = _
    rw [hm, ← hn]
    exact run_rest acc ha hp hz sn
  rw [e1]
  exact k s1
theorem Ends.back {f : Sre.Frame} (hf : f.wait = .giveBack) (hk : f.outermost = true) (k : Ends N (mS code l f.pc f.pos handed marks lm li fr (wt - (1 + f.kept.marks.size)) (some true) none sn) P) : Ends (N + 1) (mS code l pc pos handed marks lm li (f :: fr) wt (some true) none sn) P := by
  refine Ends.step rfl ?_
  rw [step_back (f := f) (rest := fr) (yes := true) rfl rfl rfl]
  have e : M.resume { mS code l pc pos handed marks lm li (f :: fr) wt (some true) none sn with answer := none, frames := fr, weight := wt - (1 + f.kept.marks.size), pc := f.pc, pos := f.pos, outermost := f.outermost } f true = mS code l f.pc f.pos handed marks lm li fr (wt - (1 + f.kept.marks.size)) (some true) none sn := by
    unfold M.resume
    rw [hf]
    show M.say _ true = _
    unfold M.say mS
    rw [hk]
  exact e ▸ k
theorem Ends.out {yes : Bool} (k : P (mS code l pc pos handed marks lm li [] wt (some yes) (some (if yes then .matched else .failed)) sn)) : Ends (N + 1) (mS code l pc pos handed marks lm li [] wt (some yes) none sn) P := by
  refine Ends.step rfl ?_
  rw [step_out (yes := yes) rfl rfl rfl]
  exact Ends.done rfl k
end

theorem ends_hdr {l : List Nat} (hz : l.length ≤ sizeLine) : Ends 9 (Sre.forMatch hdrCode l.toArray 1 0 l.length false false) fun m => m.outcome = some .matched ∧ m.start = 0 ∧ m.handed = hdrN l ∧ m.lastmark = 1 ∧ m.marks = #[some 0, some (hdrN l)] ∧ m.lastindex = 1 := by
  show Ends 9 (mS hdrCode l 5 0 0 #[none, none] (-1) (-1) [] 0 none none _) _
  refine Ends.at0 rfl rfl (by decide) fun _ => ?_
  refine Ends.mark 0 rfl rfl (by decide) (by decide) fun _ => ?_
  refine Ends.rep (indN l) rfl rfl rfl (Nat.zero_le _) (by decide) (by decide) hz isB acc_hdrB rfl fun _ => ?_
  refine Ends.rep (((l.drop (indN l)).takeWhile isH).length) rfl rfl rfl (by rw [Nat.zero_add]; exact indN_le l) (by decide) (by decide) hz isH acc_hdrH (by rw [Nat.zero_add]) fun _ => ?_
  refine Ends.mark 1 rfl rfl (by decide) (by decide) fun _ => ?_
  refine Ends.succ rfl (by decide) fun _ => ?_
  refine Ends.back rfl rfl ?_
  refine Ends.back rfl rfl ?_
  refine Ends.out ?_
  have e : 0 + indN l + ((l.drop (indN l)).takeWhile isH).length = hdrN l := by rw [Nat.zero_add]; rfl
  rw [e]
  exact ⟨rfl, rfl, rfl, rfl, rfl, rfl⟩
end
end Mine

namespace Mine
open PySem PySem.W PyProof.Rows PySem.Spec

/-- what a built-in method gives back by its tree -/
theorem call_slot_tree {prog : Program} {w : World} {A : Around} {E : Value → Shared → Prop} {s : Shared} {T : String} {name : Str} {id : String} {B : Builtin} {self : Value} {rest : List Value} {Q : Value → Shared → Prop} (slot : Slot T name id) (hT : s.TypeIs self T)
    (entry : entryFor table id = some B) (args : argsOk id ⟨self :: rest, []⟩)
    (h : wpAny (model prog w) A.in1 (B ⟨self :: rest, []⟩) (fun fin s' => match fin with
      | .done f => (match (Except.ok f : Result) with | .ok (.ret v) => Q v s' | .ok _ => False | .error e => E e s')
      | .again c' => c'.quiet = true ∧ codeAny (model prog w) A c' (fun r s' => match r with | .ok (.ret v) => Q v s' | .ok _ => False | .error e => E e s') s') E s) :
    wpAny (model prog w) A (call (.builtin id) (self :: rest)) Q E s :=
  wpAny_call (codeAny_call_builtin slot.plain entry (slot.check _ _ _ _ _ _ _ _ hT args h))

section
variable {Md : Model} {A : Around} {E : Value → Shared → Prop} {s : Shared}
theorem reNamed_one {id f : String} {v : Value} {Q : List (Option Value) → Shared → Prop} (h : Q [some v, none, none] s) : wpAny Md A (Builtin.Re.reNamed id f ["string", "pos", "endpos"] 1 [v] []) Q E s := by
  have e : Builtin.Re.reNamed id f ["string", "pos", "endpos"] 1 [v] [] = pure [some v, none, none] := rfl
  rw [e]
  exact wpAny_pure h
theorem fieldsOf_ref {a : Addr} {o : Obj} {vs : Array Value} {Q : Array Value → Shared → Prop} (ho : s.heap.get? a = some o) (hd : o.data = .fields vs) (h : Q vs s) : wpAny Md A (fieldsOf (.ref a)) Q E s := by
  unfold fieldsOf
  refine wpAny_bind (wpAny_load ho ?_)
  rw [hd]
  exact wpAny_pure h
theorem rawItems_ref {a : Addr} {vs : Array Value} {Q : Array Int → Shared → Prop} (ho : s.heap.IsTuple a vs) (h : Q (vs.map Builtin.Re.reRawOf) s) : wpAny Md A (Builtin.Re.reRawItems (.ref a)) Q E s := by
  obtain ⟨o, e, _, n, hd⟩ := ho
  unfold Builtin.Re.reRawItems seqItems?
  refine wpAny_bind (wpAny_bind (wpAny_load e ?_))
  rw [hd]
  exact wpAny_pure (wpAny_pure h)
theorem rules_loop {l : List Nat} {p : Nat → Bool} {nm : Nat → String} {Q : PUnit → Shared → Prop} (h : Q ⟨⟩ s) : wpAny Md A (forIn l PUnit.unit fun i (_ : PUnit) => if p i = true then (do rule (nm i); pure (ForInStep.yield PUnit.unit)) else pure (ForInStep.yield PUnit.unit)) Q E s := by
  induction l with
  | nil => exact wpAny_pure h
  | cons x r ih =>
    rw [List.forIn_cons]
    refine wpAny_bind ?_
    cases p x with
    | true => exact wpAny_bind (wpAny_rule (wpAny_pure ih))
    | false => exact wpAny_pure ih
theorem runToEnd {N : Nat} {m : Sre.M} {P : Sre.M → Prop} {Q : Option Sre.M → Shared → Prop} (k : Ends N m P) (hN : N ≤ 1000000000) (q : ∀ m', P m' → m'.outcome = some .matched → Q (some m') s) (q' : ∀ m', P m' → m'.outcome = some .failed → Q none s) (hs : ∀ m' why, P m' → m'.outcome ≠ some (.stuck why)) : wpAny Md A (Builtin.Re.reRunToEnd m) Q E s := by
  unfold Builtin.Re.reRunToEnd
  refine wpAny_bind (drive_ends (P := P) (fun m' ho hp => ?_) _ N m k (Nat.le_trans hN (by decide)) (by decide))
  refine wpAny_bind (rules_loop ?_)
  cases e : m'.outcome with
  | none => rw [e] at ho; cases ho
  | some o =>
    cases o with
    | matched => exact wpAny_pure (q m' hp e)
    | failed => exact wpAny_pure (q' m' hp e)
    | stuck why => exact absurd e (hs m' why hp)
end

/-- a pattern -/
structure Pat (K : Frag) (pa ca : Addr) (code : Array Nat) (groups : Nat) : Prop where
  pat : ∃ x t f u d1 d2, K.lookup pa = some { cls := .type "re.Pattern", data := .fields #[.str x t, .int f u, .int groups 0, d1, d2, .ref ca, .int 0 0] }
  cod : ∃ vs n, K.lookup ca = some { cls := .type "tuple", data := .seq vs n } ∧ (vs.map Builtin.Re.reRawOf).map (·.toNat) = code

/-- a match -/
def matT (l : List Nat) (spans : List Int) : Ty := ⟨fun O h v => ∃ a d t p lm li pa, v = .ref a ∧ ¬ O a ∧ ¬ O d ∧ h.get? a = some { cls := .type "re.Match", data := .fields #[.str (S l) t, pa, p, lm, li, .ref d] } ∧ h.IsTuple d (spans.map rawInt).toArray,
  fun ⟨a, d, t, p, lm, li, pa, e, na, nd, o, q⟩ g => ⟨a, d, t, p, lm, li, pa, e, na, nd, g _ _ na o, IsTuple_keep q fun o => g _ o nd⟩,
  fun g ⟨a, d, t, p, lm, li, pa, e, na, nd, o, q⟩ => ⟨a, d, t, p, lm, li, pa, e, fun w => na (g _ _ o w), fun w => nd (let ⟨o, k, _⟩ := q; g _ o k w), o, q⟩⟩

section
variable {C : Cx} {ρ : Rho} {W : Wd}
theorem Mth.match_ {pa ca : Addr} {code : Array Nat} {g : Nat} (hp : Pat C.W.K pa ca code g) : Mth C (eqT (.ref pa)) "match" "re.Pattern.match" := fun O s v pl Q E ok B pv q => by
  cases (pv : v = .ref pa)
  obtain ⟨x, t, f, u, d1, d2, e⟩ := hp.pat
  have X := ok.w.kin.keeps B.keep
  exact getMethod_builtin (T := "re.Pattern") ⟨_, X _ _ e, rfl⟩ plainAttrs_pat slot_match type_match (fun a e' => by cases e'; exact ⟨_, X _ _ e, rfl⟩) q
theorem Mth.group {l : List Nat} {sp : List Int} : Mth C (matT l sp) "group" "re.Match.group" := fun O s v pl Q E ok B pv q => by
  obtain ⟨a, d, t, p, lm, li, pa, rfl, na, nd, o, k⟩ := pv
  exact getMethod_builtin (T := "re.Match") ⟨_, o, rfl⟩ plainAttrs_mat slot_group type_group (fun a e' => by cases e'; exact ⟨_, o, rfl⟩) q

theorem Cl.match_ {pa ca : Addr} {code : Array Nat} {g N : Nat} {l : List Nat} {P : Sre.M → Prop} {sp : Option (List Int)} (hp : Pat W.K pa ca code g) (hz : l.length ≤ sizeLine) (k : Ends N (Sre.forMatch code l.toArray g 0 l.length false false) P) (hN : N ≤ 1000000000) (T : Ty)
    (q : ∀ (C : Cx) (O : Addr → Prop) (s : Shared) (m : Sre.M) (t : Tok) (Q : Value → Shared → Prop) (E : Value → Shared → Prop), P m → m.outcome = some .matched → Base C.W O s.heap → (∀ h' tk v, Step C.W O s.heap h' → T.P O h' v → Q v { s with heap := h', toks := tk }) → wpAny C.M C.A.in1 (Builtin.Re.reNewMatch (.ref pa) (.str (S l) t) g 0 l.length m) Q E s)
    (q' : ∀ m, P m → m.outcome = some .failed → ∀ O h, T.P O h .none) (hs : ∀ m' why, P m' → m'.outcome ≠ some (.stuck why)) : Cl W 0 (.builtin "re.Pattern.match") [eqT (.ref pa), tS l] T := fun C O s vs ok e hl B tv Q E qq => by
  subst e
  cases tv with
  | cons pv r =>
    cases r with
    | cons p r =>
      cases r
      cases p
      rename_i v0 t
      cases (pv : v0 = .ref pa)
      obtain ⟨x, t0, f, u, d1, d2, e⟩ := hp.pat
      obtain ⟨vs, n, ec, hc⟩ := hp.cod
      have X := ok.w.kin.keeps B.keep
      refine call_slot_tree slot_match ⟨_, X _ _ e, rfl⟩ entry_match (args_match _ _) ?_
      unfold Builtin.«re.Pattern.match»
      refine wpAny_bind ?_
      unfold Builtin.Re.reTarget
      refine wpAny_bind (reNamed_one ?_)
      refine wpAny_bind (wpAny_pure ?_)
      refine wpAny_bind (wpAny_pure ?_)
      refine wpAny_bind (fieldsOf_ref (X _ _ e) rfl ?_)
      refine wpAny_bind (m := Builtin.Re.reTextOf (.str (S l) t)) (wpAny_pure ?_)
      refine wpAny_bind (m := Builtin.Re.reNoCollectionInside (Value.str (S l) t) 0) (wpAny_pure ?_)
      refine wpAny_bind (rawItems_ref ⟨_, X _ _ ec, rfl, n, rfl⟩ ?_)
      refine wpAny_pure ?_
      have hlim : min ((2 ^ 63 - 1 : Int)).toNat l.toArray.size = l.length := by
        have hsl := sizeLine_eq
        have : ((2 ^ 63 - 1 : Int)).toNat = 9223372036854775807 := rfl
        rw [this, List.size_toArray]
        omega
      unfold Builtin.Re.reAnswer
      refine wpAny_bind ?_
      show wpAny _ _ (Builtin.Re.reRunToEnd (Sre.forMatch ((vs.map Builtin.Re.reRawOf).map (·.toNat)) l.toArray g (min 0 l.toArray.size) (min ((2 ^ 63 - 1 : Int)).toNat l.toArray.size) false false)) _ _ _
      rw [hlim, hc, Nat.zero_min]
      refine runToEnd k hN (fun m' pm mm => ?_) (fun m' pm mm => ?_) hs
      · refine wpAny_bind ?_
        show wpAny _ _ (Builtin.Re.reNewMatch (.ref pa) (.str (S l) t) g (min 0 l.toArray.size) (min ((2 ^ 63 - 1 : Int)).toNat l.toArray.size) m') _ _ _
        rw [hlim, Nat.zero_min]
        refine q C O s m' t _ E pm mm B fun h' tk v y pv => wpAny_pure ?_
        exact qq h' tk v y pv
      · exact wpAny_pure (qq s.heap s.toks _ .refl (q' m' pm mm _ _))

def badSpan (m : Sre.M) (g : Nat) : Bool := match m.marks.getD (2 * g) none, m.marks.getD (2 * g + 1) none with | some b, some e => ((2 * g + 1 : Nat) : Int) ≤ m.lastmark && e < b | _, _ => false
def spanOf (m : Sre.M) (g : Nat) : List Value := match if ((2 * g + 1 : Nat) : Int) ≤ m.lastmark then (m.marks.getD (2 * g) none, m.marks.getD (2 * g + 1) none) else (none, none) with
      | (some b, some e) => [rawInt b, rawInt e]
      | _ => [rawInt (-1), rawInt (-1)]
theorem newMatch {C : Cx} {O : Addr → Prop} {A : Around} {s : Shared} {l : List Nat} {t : Tok} {pa : Value} {g : Nat} {m : Sre.M} {sp : List Int} {Q : Value → Shared → Prop} {E : Value → Shared → Prop} (B : Base C.W O s.heap)
    (hb : ((List.range g).any (badSpan m)) = false) (hsp : (rawInt m.start :: rawInt m.handed :: (List.range g).flatMap (spanOf m)) = sp.map rawInt) (hz : sp.length ≤ 100)
    (q : ∀ h' tk v, Step C.W O s.heap h' → (matT l sp).P O h' v → Q v { s with heap := h', toks := tk }) : wpAny C.M A (Builtin.Re.reNewMatch pa (.str (S l) t) g 0 l.length m) Q E s := by
  unfold Builtin.Re.reNewMatch
  show wpAny C.M A (if ((List.range g).any (badSpan m)) = true then _ else _) Q E s
  rw [hb]
  show wpAny C.M A (do newFields "re.Match" [.str (S l) t, pa, rawInt (0 : Nat), rawInt l.length, rawInt m.lastindex, ← newTuple (rawInt m.start :: rawInt m.handed :: (List.range g).flatMap (spanOf m))]) Q E s
  rw [hsp]
  have hsl := sizeLine_eq
  refine wpAny_bind (wpAny_newTuple ?_ (by rw [List.length_map]; omega))
  refine wpAny_newObj_type ?_ (by show _ ≤ sizeLine + 2; rw [hsl]; simp)
  have nd : s.heap.get? s.heap.objs.size = none := fresh_none (Nat.le_refl _)
  refine q _ s.toks _ (.of_ext fun b o e => Heap.get?_push_of_some _ (Heap.get?_push_of_some _ e)) ⟨_, s.heap.objs.size, t, _, _, _, _, rfl, ?_, new_off B, Heap.get?_push_size _ rfl, ?_⟩
  · intro w
    obtain ⟨o, e⟩ := B.ex _ w
    have := Heap.lt_size e
    simp [Heap.push] at this
    exact absurd (Nat.lt_of_succ_lt this) (Nat.lt_irrefl _)
  · exact ⟨_, Heap.get?_push_of_some _ (Heap.get?_push_size _ rfl), rfl, _, rfl⟩

theorem Cl.matchHdr {pa ca : Addr} {l : List Nat} (hp : Pat W.K pa ca hdrCode 1) (hz : l.length ≤ sizeLine) : Cl W 0 (.builtin "re.Pattern.match") [eqT (.ref pa), tS l] (matT l [0, hdrN l, 0, hdrN l]) := by
  refine Cl.match_ (sp := none) hp hz (ends_hdr hz) (by decide) _ (fun C O s m t Q E pm mm B q => newMatch B ?_ ?_ (by simp) q) (fun m pm mm => ?_) fun m why pm => ?_
  · obtain ⟨_, _, _, h1, h2, _⟩ := pm
    simp [List.range_succ, badSpan, spanOf, h1, h2]
  · obtain ⟨_, e1, e2, h1, h2, _⟩ := pm
    rw [e1, e2]
    simp [List.range_succ, badSpan, spanOf, h1, h2]
  · rw [pm.1] at mm; cases mm
  · rw [pm.1]; intro z; cases z

theorem reFound_mat {Md : Model} {A : Around} {E : Value → Shared → Prop} {s : Shared} {a d : Addr} {fs : Array Value} {sp : List Int} {Q : Builtin.Re.ReFound → Shared → Prop} (o : s.heap.get? a = some { cls := .type "re.Match", data := .fields fs }) (hf : fs.getD 5 .none = .ref d) (ht : s.heap.IsTuple d (sp.map rawInt).toArray) (h : Q ⟨fs, sp.toArray⟩ s) : wpAny Md A (Builtin.Re.reFound (.ref a)) Q E s := by
  unfold Builtin.Re.reFound
  refine wpAny_bind (fieldsOf_ref o rfl ?_)
  rw [hf]
  refine wpAny_bind (rawItems_ref ht (wpAny_pure ?_))
  have : (sp.map rawInt).toArray.map Builtin.Re.reRawOf = sp.toArray := by
    rw [List.map_toArray, List.map_map]
    congr 1
    exact (List.map_congr_left fun _ _ => rfl).trans (List.map_id _)
  rw [this]
  exact h
theorem groupText_mat {Md : Model} {A : Around} {E : Value → Shared → Prop} {s : Shared} {l : List Nat} {t : Tok} {fs : Array Value} {sp : List Int} {g : Nat} {b e : Nat} {Q : Value → Shared → Prop} (hf : fs.getD 0 .none = .str (S l) t) (hb : sp.toArray.getD (2 * g) (-1) = (b : Int)) (he : sp.toArray.getD (2 * g + 1) (-1) = (e : Int)) (hz : l.length ≤ sizeLine)
    (h : ∀ t' k, Q (.str (S ((l.drop b).take (e - b))) t') { s with toks := k }) : wpAny Md A (Builtin.Re.reGroupText ⟨fs, sp.toArray⟩ g .none) Q E s := by
  unfold Builtin.Re.reGroupText
  show wpAny Md A (if (decide (sp.toArray.getD (2 * g) (-1) < 0) || decide (sp.toArray.getD (2 * g + 1) (-1) < 0)) = true then pure .none else (do
    let (text, kind) ← Builtin.Re.reTextOf (fs.getD 0 .none)
    Builtin.Re.reSlice text kind (sp.toArray.getD (2 * g) (-1)).toNat (sp.toArray.getD (2 * g + 1) (-1)).toNat)) Q E s
  rw [hb, he, hf]
  rw [if_neg (by simp)]
  refine wpAny_bind (m := Builtin.Re.reTextOf (.str (S l) t)) (wpAny_pure ?_)
  show wpAny Md A (mkStr ⟨(S l).cps.extract b e⟩) Q E s
  have ex : (⟨(S l).cps.extract b e⟩ : Str) = S ((l.drop b).take (e - b)) := by
    unfold S
    congr 1
    rw [List.extract_toArray, List.extract_eq_take_drop]
  rw [ex]
  exact wpAny_mkStr (h _ _) (by rw [S_len]; exact Nat.le_trans (by simp; omega) hz)

theorem Cl.group1 {l : List Nat} {b0 e0 : Int} {b e : Nat} (hz : l.length ≤ sizeLine) : Cl W 0 (.builtin "re.Match.group") [matT l [b0, e0, b, e], tI 1] (tS ((l.drop b).take (e - b))) := fun C O s vs ok eW hl B tv Q E qq => by
  subst eW
  cases tv with
  | cons pv r =>
    cases r with
    | cons p r =>
      cases r
      cases p
      obtain ⟨a, d, t, p, lm, li, pa, rfl, na, nd, o, k⟩ := pv
      refine call_slot_tree slot_group ⟨_, o, rfl⟩ entry_group (args_group1 _ _) ?_
      unfold Builtin.«re.Match.group»
      refine wpAny_bind (m := noKeywords "Match.group" _) (wpAny_pure ?_)
      refine wpAny_bind (reFound_mat o rfl k ?_)
      refine wpAny_bind (m := Builtin.Re.reGroupNumber _ _) (wpAny_pure ?_)
      refine wpAny_bind (groupText_mat (b := b) (e := e) rfl rfl rfl hz fun t' k => wpAny_pure ?_)
      exact qq s.heap k _ .refl (.str _ _)
end
end Mine

namespace Mine
open PySem PySem.W PyProof.Rows PySem.Spec

section
variable {C : Cx} {ρ : Rho} {W : Wd}
/-- not None -/
def Ty.Ref (T : Ty) : Prop := ∀ O h v, T.P O h v → ∃ a, v = .ref a
theorem ref_mat {l : List Nat} {sp : List Int} : (matT l sp).Ref := fun _ _ _ ⟨a, _, _, _, _, _, _, e, _⟩ => ⟨a, e⟩
theorem Cmp.isNone_ref {T : Ty} (h : T.Ref) : Cmp C .Is T (dt .none) (tB false) := fun O s v w ok B pv pw Q E q => by
  cases pw
  obtain ⟨a, rfl⟩ := h _ _ _ pv
  exact wpAny_is_plain rfl (q s.heap s.toks _ .refl (.bool _))
theorem Cmp.notNone_ref {T : Ty} (h : T.Ref) : Cmp C .IsNot T (dt .none) (tB true) := fun O s v w ok B pv pw Q E q => by
  cases pw
  obtain ⟨a, rfl⟩ := h _ _ _ pv
  exact wpAny_isNot_plain rfl (q s.heap s.toks _ .refl (.bool _))
theorem Cmp.notNone_none : Cmp C .IsNot (dt .none) (dt .none) (tB false) := fun O s v w ok B pv pw Q E q => by
  cases pw; cases pv
  exact wpAny_isNot_plain rfl (q s.heap s.toks _ .refl (.bool _))

theorem join_text (sep : List Nat) : ∀ ls : List (List Nat), Str.join (S sep) (ls.map S) = S (joinL sep ls)
  | [] => rfl
  | [x] => rfl
  | x :: y :: r => by
    have ih := join_text sep (y :: r)
    show S x ++ S sep ++ Str.join (S sep) ((y :: r).map S) = _
    rw [ih, S_app, S_app]
    rfl
theorem Cl.join {sep : List Nat} {ls : List (List Nat)} (h : (ls.map (·.length)).sum + ls.length ≤ 1048576) (hs : sep.length ≤ 16) : Cl W 0 (.builtin "str.join") [tS sep, dt (.list (ls.map fun l => .str (S l)))] (tS (joinL sep ls)) := fun C O s vs ok e hl B tv Q E q => by
  subst e
  cases tv with
  | cons p r =>
    cases p
    cases r with
    | cons p r =>
      cases r
      cases p with
      | list n li rl =>
        obtain ⟨xs, e, et⟩ := strs_of rl
        refine SC.join (l := xs) (texts := ls.map S) (by rw [← e]; simpa using li) et (joinOk_of_weight (by
          rw [List.map_map, List.length_map]
          exact Nat.le_trans (Nat.le_of_eq (by congr 2)) h) (by rw [S_len]; exact hs)) fun t' k => ?_
        rw [show Txt.join (S sep) (ls.map S) = Str.join (S sep) (ls.map S) from PySem.StrLaws.glued_eq_join _ _, join_text]
        exact q s.heap k _ .refl (.str _ _)
end
end Mine

namespace Mine
open PySem PySem.W PyProof.Rows PySem.Spec


theorem RepL.ints {O : Addr → Prop} {h : Heap} : ∀ {ns : List Int} {vs : List Value} {as : List Addr}, ReadsAll h vs (ns.map .int) as → RepL O h vs (ns.map .int)
  | [], _, _, .nil => .nil
  | _ :: _, _, _, .cons x r => by
    refine .cons ?_ (RepL.ints r)
    cases x
    exact .int _ _

/-- a list of whole numbers -/
abbrev tIs (ns : List Int) : Ty := dt (.list (ns.map .int))

theorem law_post (l : OpenLaw) (args ds : List WData) : l.row.claim.post args (.bool true) ds = true := by
  show (WShape.has [] (.bool true) .bool && WTm.holds [] (.eq .res (.lit (.bool true))) { args := args, res := some (.bool true), after := ds }) = true
  have h1 : WShape.has [] (.bool true) .bool = true := by first | rfl | kernel_rfl | decide
  rw [h1, Bool.true_and]
  unfold WTm.holds
  first | rfl | kernel_rfl | decide
end Mine

namespace Mine
open PySem PySem.W PyProof.Rows PySem.Spec

section
variable {W : Wd} {lv : Nat} {f : Addr} {oc : Value} {od : Option Addr} {osl : Array (Option Value)} {name qual : Str} {params : Arguments} {body : List Stmt} {scope : Scope} {dV kV doc pm cdv ct : Value} {an : Option Addr} {T T1 T2 T3 : Ty}
def parOk (sc : Scope) (n : Str) : Bool := sc.names.lookup n == some .local || sc.names.lookup n == some .cell
theorem Cl.def1 (n : Str) (ho : W.K.lookup f = some ⟨oc, od, .func (fnOf name qual params body scope dV kV doc pm an cdv ct), osl⟩)
    (hb : ∀ (A : Around) (env : Env), DefAt W f qual scope cdv env → Ex ⟨W, A, env, lv, scope.names⟩ (mk0 [(n, T1)] scope.names) body (fun o => o = .ret T)) (hcd : codeIn W.K cdv qual = true := by kernel_rfl)
    (hbind : ∀ (s : Shared) (a : Value), BindsTo s (fnOf name qual params body scope dV kV doc pm an cdv ct) ⟨[a], []⟩ [(n, a)] := by intro _ _; exact BindsTo.of_eq rfl)
    (hnd : (scope.names.map (·.1)).Nodup := by decide) (h1 : parOk scope n = true := by decide) (hcn : ((cellsFrom 0 scope.names []).map (·.1)).Nodup := by decide)
    (hco : scope.isCoroutine = false := by rfl) (hgen : scope.isGenerator = false := by rfl) (hk : scope.kind = .function := by rfl) : Cl W (lv + 1) (.ref f) [T1] T := by
  refine Cl.def_ (ps := [(n, T1)]) ho hcd (fun s vs h => ?_) hnd (by simp) ?_ hcn hb hco hgen hk
  · match vs, h with
    | [a], _ => exact hbind s a
  · show ((parOk scope n) && true) = true
    rw [h1]; rfl
theorem Cl.def2 (n m : Str) (ho : W.K.lookup f = some ⟨oc, od, .func (fnOf name qual params body scope dV kV doc pm an cdv ct), osl⟩)
    (hb : ∀ (A : Around) (env : Env), DefAt W f qual scope cdv env → Ex ⟨W, A, env, lv, scope.names⟩ (mk0 [(n, T1), (m, T2)] scope.names) body (fun o => o = .ret T)) (hcd : codeIn W.K cdv qual = true := by kernel_rfl)
    (hbind : ∀ (s : Shared) (a b : Value), BindsTo s (fnOf name qual params body scope dV kV doc pm an cdv ct) ⟨[a, b], []⟩ [(n, a), (m, b)] := by intro _ _ _; exact BindsTo.of_eq rfl)
    (hnd : (scope.names.map (·.1)).Nodup := by decide) (h1 : parOk scope n = true := by decide) (h2 : parOk scope m = true := by decide) (hnm : n ≠ m := by decide) (hcn : ((cellsFrom 0 scope.names []).map (·.1)).Nodup := by decide)
    (hco : scope.isCoroutine = false := by rfl) (hgen : scope.isGenerator = false := by rfl) (hk : scope.kind = .function := by rfl) : Cl W (lv + 1) (.ref f) [T1, T2] T := by
  refine Cl.def_ (ps := [(n, T1), (m, T2)]) ho hcd (fun s vs h => ?_) hnd (by simpa using hnm) ?_ hcn hb hco hgen hk
  · match vs, h with
    | [a, b], _ => exact hbind s a b
  · show ((parOk scope n) && ((parOk scope m) && true)) = true
    rw [h1, h2]; rfl
theorem Cl.def3 (n m k : Str) (ho : W.K.lookup f = some ⟨oc, od, .func (fnOf name qual params body scope dV kV doc pm an cdv ct), osl⟩)
    (hb : ∀ (A : Around) (env : Env), DefAt W f qual scope cdv env → Ex ⟨W, A, env, lv, scope.names⟩ (mk0 [(n, T1), (m, T2), (k, T3)] scope.names) body (fun o => o = .ret T)) (hcd : codeIn W.K cdv qual = true := by kernel_rfl)
    (hbind : ∀ (s : Shared) (a b c : Value), BindsTo s (fnOf name qual params body scope dV kV doc pm an cdv ct) ⟨[a, b, c], []⟩ [(n, a), (m, b), (k, c)] := by intro _ _ _ _; exact BindsTo.of_eq rfl)
    (hnd : (scope.names.map (·.1)).Nodup := by decide) (h1 : parOk scope n = true := by decide) (h2 : parOk scope m = true := by decide) (h3 : parOk scope k = true := by decide) (hnm : ([n, m, k]).Nodup := by decide) (hcn : ((cellsFrom 0 scope.names []).map (·.1)).Nodup := by decide)
    (hco : scope.isCoroutine = false := by rfl) (hgen : scope.isGenerator = false := by rfl) (hk : scope.kind = .function := by rfl) : Cl W (lv + 1) (.ref f) [T1, T2, T3] T := by
  refine Cl.def_ (ps := [(n, T1), (m, T2), (k, T3)]) ho hcd (fun s vs h => ?_) hnd (by simpa using hnm) ?_ hcn hb hco hgen hk
  · match vs, h with
    | [a, b, c], _ => exact hbind s a b c
  · show ((parOk scope n) && ((parOk scope m) && ((parOk scope k) && true))) = true
    rw [h1, h2, h3]; rfl
end
end Mine

namespace Mine
open PySem PySem.W PyProof.Rows PySem.Spec

section
variable {C : Cx} {ρ : Rho} {W : Wd}
theorem Ev.lit {x : Str} {k : Nat} {p : Pos} (l : List Nat) (h : x = S l := by kernel_rfl) : Ev C ρ (.Constant (.str x) k p) (tS l) := by
  subst h; exact Ev.str
abbrev sd (l : List Nat) : PyData := .str (S l)
abbrev tSs (ls : List (List Nat)) : Ty := dt (.list (ls.map sd))

theorem clamp_nat (n k : Nat) : clampI n (k : Int) = min k n := by unfold clampI; rw [if_neg (by omega)]; simp
theorem slice_to {α : Type} (xs : List α) (k : Nat) : sliceL none (some (k : Int)) xs = xs.take k := by
  show (xs.drop 0).take (clampI xs.length k - 0) = _
  rw [clamp_nat, List.drop_zero, Nat.sub_zero]
  rcases Nat.le_total k xs.length with h | h
  · rw [Nat.min_eq_left h]
  · rw [Nat.min_eq_right h, List.take_of_length_le (Nat.le_refl _), List.take_of_length_le h]
theorem slice_from {α : Type} (xs : List α) (k : Nat) : sliceL (some (k : Int)) none xs = xs.drop k := by
  show (xs.drop (clampI xs.length k)).take (xs.length - clampI xs.length k) = _
  rw [clamp_nat, List.take_of_length_le (by rw [List.length_drop]; exact Nat.le_refl _)]
  rcases Nat.le_total k xs.length with h | h
  · rw [Nat.min_eq_left h]
  · rw [Nat.min_eq_right h, List.drop_of_length_le (Nat.le_refl _), List.drop_of_length_le h]
/-- codes that may be laid -/
def okL (l : List Nat) : Bool := l.all fun c => decide (c < 0x110000)
theorem ok_lay {l : List Nat} (h : okL l = true) : (sd l).canLay0 = true := by
  have e : (S l).cps.all (fun c => decide (c < 0x110000)) = l.all fun c => decide (c < 0x110000) := by simp [S]
  unfold okL at h
  rw [← e] at h
  exact h
theorem ok_all {l : List Nat} : okL l = true ↔ ∀ c ∈ l, c < 0x110000 := by simp [okL]
theorem ok_sub {l m : List Nat} (h : okL l = true) (k : ∀ c ∈ m, c ∈ l) : okL m = true := ok_all.mpr fun c hc => ok_all.mp h c (k c hc)
theorem ok_app {l m : List Nat} (h : okL l = true) (k : okL m = true) : okL (l ++ m) = true := ok_all.mpr fun c hc => (List.mem_append.mp hc).elim (ok_all.mp h c) (ok_all.mp k c)
theorem eqv_str (a b : List Nat) : PyData.eqv (sd a) (sd b) = decide (a = b) := by
  show (S a == S b) = _
  exact S_beq a b
theorem eqv_strs : ∀ (as bs : List (List Nat)), PyData.eqv (.list (as.map sd)) (.list (bs.map sd)) = decide (as = bs) := by
  have go : ∀ (as bs : List (List Nat)), PyData.eqvAll (as.map sd) (bs.map sd) = decide (as = bs) := by
    intro as
    induction as with
    | nil => intro bs; cases bs <;> simp [PyData.eqvAll]
    | cons a r ih =>
      intro bs
      cases bs with
      | nil => simp [PyData.eqvAll]
      | cons b t =>
        show (PyData.eqv (sd a) (sd b) && PyData.eqvAll (r.map sd) (t.map sd)) = _
        rw [eqv_str, ih, ← Bool.decide_and]
        simp
  exact go
theorem Itm.strTo {l : List Nat} (k : Nat) (hsz : l.length ≤ sizeLine) : Itm C (tS l) (slcT none (some (k : Int)) none) (tS (l.take k)) := by rw [← slice_to]; exact Itm.strSlice hsz
theorem Itm.strFrom {l : List Nat} (k : Nat) (hsz : l.length ≤ sizeLine) : Itm C (tS l) (slcT (some (k : Int)) none none) (tS (l.drop k)) := by rw [← slice_from]; exact Itm.strSlice hsz
end
end Mine

namespace Mine
open PySem PySem.W PyProof.Rows PySem.Spec

section
variable {C : Cx} {ρ : Rho} {W : Wd} {Post : Out → Prop}
/-- what a loop leaves -/
def LoopP (D : Rho → Prop) (Post : Out → Prop) : Out → Prop
  | .next ρ => D ρ
  | .ret T => Post (.ret T)
  | _ => False
theorem rng_item {a c : Int} {n i : Nat} {T' : Ty} (h : ((rngL a c n).map dt)[i]? = some T') : i < n ∧ T' = tI (a + i * c) := by
  rw [rngL, List.map_map, List.getElem?_map] at h
  obtain ⟨j, hj, rfl⟩ := Option.map_eq_some_iff.mp h
  obtain ⟨h1, h2⟩ := List.getElem?_eq_some_iff.mp hj
  have e : i = j := by simpa using h2
  subst e
  exact ⟨by simpa using h1, rfl⟩
theorem list_item {ds : List PyData} {i : Nat} {T' : Ty} (h : (ds.map dt)[i]? = some T') : ∃ d, ds[i]? = some d ∧ T' = dt d := by
  rw [List.getElem?_map] at h
  obtain ⟨d, hd, rfl⟩ := Option.map_eq_some_iff.mp h
  exact ⟨d, hd, rfl⟩
theorem Ex.forT {x : Str} {px p : Pos} {it : Expr} {body rest : List Stmt} {T : Ty} {Ts : List Ty} (Inv : Nat → Rho → Prop) (hi : Ev C ρ it T) (hI : Iter C T Ts) (h₀ : Inv 0 ρ)
    (hx : ∀ i ρ', Inv i ρ' → ∃ b, ρ'.lookup x = some b ∧ b.sto = true)
    (turn : ∀ i ρ' T', Ts[i]? = some T' → Inv i ρ' → Ex C (put x (.val T') ρ') body (Turn (Inv (i + 1)) (LoopP (Inv Ts.length) Post)))
    (done : ∀ ρ', Inv Ts.length ρ' → Ex C ρ' rest Post)
    (hs : ∀ env x, foldedSetIterable it env x = pure x := by intro _ _; rfl) : Ex C ρ (.For (.Name x px) it body [] p :: rest) Post :=
  Ex.cons (P := LoopP (Inv Ts.length) Post) (Ex1.for_ Inv hi hI h₀ hx turn (fun _ h => h) hs) done (fun _ h => h.elim) (fun _ h => h.elim) fun _ h => h
theorem Ex.forR {x : Str} {px p : Pos} {it : Expr} {body rest : List Stmt} {a b : Int} (n : Nat) (Inv : Nat → Rho → Prop) (hi : Ev C ρ it (rngT a b 1)) (hn : (b - a).toNat = n) (hb : -1000000000 < a ∧ a < 1000000000 ∧ -1000000000 < b ∧ b < 1000000000) (h₀ : Inv 0 ρ)
    (hx : ∀ i ρ', Inv i ρ' → ∃ b, ρ'.lookup x = some b ∧ b.sto = true)
    (turn : ∀ i ρ', i < n → Inv i ρ' → Ex C (put x (.val (tI (a + i))) ρ') body (Turn (Inv (i + 1)) (LoopP (Inv n) Post)))
    (done : ∀ ρ', Inv n ρ' → Ex C ρ' rest Post)
    (hs : ∀ env x, foldedSetIterable it env x = pure x := by intro _ _; rfl) : Ex C ρ (.For (.Name x px) it body [] p :: rest) Post := by
  have hl : ((rngL a 1 n).map dt).length = n := by simp [rngL]
  refine Ex.forT Inv hi (hn ▸ rng_up hb.1 hb.2.1 hb.2.2.1 hb.2.2.2 : Iter C (rngT a b 1) ((rngL a 1 n).map dt)) h₀ hx (fun i ρ' T' e iv => ?_) (by rw [hl]; exact done) hs
  obtain ⟨hi, rfl⟩ := rng_item e
  rw [hl, Int.mul_one]
  exact turn i ρ' hi iv
theorem Ex.forL {x : Str} {px p : Pos} {it : Expr} {body rest : List Stmt} {ds : List PyData} (Inv : Nat → Rho → Prop) (hi : Ev C ρ it (dt (.list ds))) (h₀ : Inv 0 ρ)
    (hx : ∀ i ρ', Inv i ρ' → ∃ b, ρ'.lookup x = some b ∧ b.sto = true)
    (turn : ∀ i ρ' d, ds[i]? = some d → Inv i ρ' → Ex C (put x (.val (dt d)) ρ') body (Turn (Inv (i + 1)) (LoopP (Inv ds.length) Post)))
    (done : ∀ ρ', Inv ds.length ρ' → Ex C ρ' rest Post)
    (hs : ∀ env x, foldedSetIterable it env x = pure x := by intro _ _; rfl) : Ex C ρ (.For (.Name x px) it body [] p :: rest) Post := by
  refine Ex.forT Inv hi Iter.list h₀ hx (fun i ρ' T' e iv => ?_) (by rw [List.length_map]; exact done) hs
  obtain ⟨d, hd, rfl⟩ := list_item e
  rw [List.length_map]
  exact turn i ρ' d hd iv
end
end Mine

namespace Mine
open PySem PySem.W PyProof.Rows PySem.Spec

section
variable {C : Cx} {ρ : Rho} {W : Wd} {Post : Out → Prop}
open Classical in
/-- a function of data from one of what stands for them -/
noncomputable def liftF {α : Type} (j : α → PyData) (G : α → PyData) (d : PyData) : PyData := if h : ∃ a, j a = d then G h.choose else .none
open Classical in
noncomputable def liftP {α : Type} (j : α → PyData) (p : α → Bool) (d : PyData) : Bool := if h : ∃ a, j a = d then p h.choose else false
theorem liftF_at {α : Type} {j : α → PyData} {G : α → PyData} (hj : ∀ a b, j a = j b → a = b) (a : α) : liftF j G (j a) = G a := by
  have h : ∃ b, j b = j a := ⟨a, rfl⟩
  unfold liftF
  rw [dif_pos h, hj _ _ h.choose_spec]
theorem liftP_at {α : Type} {j : α → PyData} {p : α → Bool} (hj : ∀ a b, j a = j b → a = b) (a : α) : liftP j p (j a) = p a := by
  have h : ∃ b, j b = j a := ⟨a, rfl⟩
  unfold liftP
  rw [dif_pos h, hj _ _ h.choose_spec]
theorem injI : ∀ a b : Int, PyData.int a = .int b → a = b := fun _ _ h => by cases h; rfl
theorem injS : ∀ a b : List Nat, sd a = sd b → a = b := fun _ _ h => S_inj.mp (by cases h; rfl)
theorem block_of {α : Type} {x : Str} {scope : Scope} {ifs : List Expr} {elt : Expr} {xs : List α} {j G : α → PyData} {p : α → Bool} (hj : ∀ a b, j a = j b → a = b) (sz : xs.length ≤ sizeLine)
    (test : ∀ a ∈ xs, ∀ env, (ifs = [] ∧ p a = true) ∨ ∃ c, ifs = [c] ∧ Tr (C.comp scope env) (compRho ρ x (.val (dt (j a))) (relab C.names scope.names)) c (p a))
    (elt' : ∀ a ∈ xs, p a = true → ∀ env, Ev (C.comp scope env) (compRho ρ x (.val (dt (j a))) (relab C.names scope.names)) elt (dt (G a)))
    (kind : scope.kind = .function) (nd : (scope.names.map (·.1)).Nodup) (hx : (x, NameKind.local) ∈ scope.names) (nc : ∀ y ∈ scope.names, y.2 ≠ .cell) (free : freeOk ρ C.names scope.names = true) : Block C ρ x scope ifs elt (xs.map j) (liftP j p) (liftF j G) := by
  refine ⟨kind, nd, hx, nc, free, by rw [List.length_map]; exact sz, ?_, ?_⟩
  · intro d hd env
    obtain ⟨a, ha, rfl⟩ := List.mem_map.mp hd
    rw [liftP_at hj]
    exact test a ha env
  · intro d hd hp env
    obtain ⟨a, ha, rfl⟩ := List.mem_map.mp hd
    rw [liftP_at hj] at hp
    rw [liftF_at hj]
    exact elt' a ha hp env
theorem block_res {α : Type} {xs : List α} {j G : α → PyData} {p : α → Bool} (hj : ∀ a b, j a = j b → a = b) : ((xs.map j).filter (liftP j p)).map (liftF j G) = (xs.filter p).map G := by
  rw [List.filter_map, List.map_map]
  have e : (fun a => liftP j p (j a)) = p := funext fun a => liftP_at hj a
  have e2 : liftF j G ∘ j = G := funext fun a => liftF_at hj a
  show ((xs.filter (liftP j p ∘ j)).map (liftF j G ∘ j)) = _
  rw [show liftP j p ∘ j = p from e, e2]
/-- [elt for x in iter], over what stands for the data -/
theorem EvNew.comp0 {α : Type} {x : Str} {px pos : Pos} {scope : Scope} {elt iter : Expr} {T : Ty} (xs : List α) (j G : α → PyData) (hj : ∀ a b, j a = j b → a = b) (hi : Ev C ρ iter T) (hI : Iter C T ((xs.map j).map dt)) (sz : xs.length ≤ sizeLine)
    (elt' : ∀ a ∈ xs, ∀ env, Ev (C.comp scope env) (compRho ρ x (.val (dt (j a))) (relab C.names scope.names)) elt (dt (G a)))
    (kind : scope.kind = .function := by rfl) (nd : (scope.names.map (·.1)).Nodup := by decide) (hx : (x, NameKind.local) ∈ scope.names := by decide) (nc : ∀ y ∈ scope.names, y.2 ≠ .cell := by decide) (free : freeOk ρ C.names scope.names = true := by rfl)
    (hs : ∀ env x, foldedSetIterable iter env x = pure x := by intro _ _; rfl) : EvNew C ρ (.ListComp elt [⟨.Name x px, iter, [], 0⟩] scope pos) (xs.map G) := by
  have := EvNew.comp (px := px) (pos := pos) hi hI (block_of (p := fun _ => true) (G := G) hj sz (fun a ha env => .inl ⟨rfl, rfl⟩) (fun a ha _ env => elt' a ha env) kind nd hx nc free) hs
  rw [block_res hj] at this
  rwa [List.filter_eq_self.mpr fun _ _ => rfl] at this
theorem EvNew.compIf {α : Type} {x : Str} {px pos : Pos} {scope : Scope} {c elt iter : Expr} {T : Ty} (xs : List α) (j G : α → PyData) (p : α → Bool) (hj : ∀ a b, j a = j b → a = b) (hi : Ev C ρ iter T) (hI : Iter C T ((xs.map j).map dt)) (sz : xs.length ≤ sizeLine)
    (test : ∀ a ∈ xs, ∀ env, Tr (C.comp scope env) (compRho ρ x (.val (dt (j a))) (relab C.names scope.names)) c (p a))
    (elt' : ∀ a ∈ xs, p a = true → ∀ env, Ev (C.comp scope env) (compRho ρ x (.val (dt (j a))) (relab C.names scope.names)) elt (dt (G a)))
    (kind : scope.kind = .function := by rfl) (nd : (scope.names.map (·.1)).Nodup := by decide) (hx : (x, NameKind.local) ∈ scope.names := by decide) (nc : ∀ y ∈ scope.names, y.2 ≠ .cell := by decide) (free : freeOk ρ C.names scope.names = true := by rfl)
    (hs : ∀ env x, foldedSetIterable iter env x = pure x := by intro _ _; rfl) : EvNew C ρ (.ListComp elt [⟨.Name x px, iter, [c], 0⟩] scope pos) ((xs.filter p).map G) := by
  have := EvNew.comp (px := px) (pos := pos) hi hI (block_of (p := p) (G := G) hj sz (fun a ha env => .inr ⟨c, rfl, test a ha env⟩) elt' kind nd hx nc free) hs
  rwa [block_res hj] at this
theorem Ex1.compIf {α : Type} {x y : Str} {px py pos spos : Pos} {scope : Scope} {c elt iter : Expr} {T : Ty} {b₀ : Bnd} (xs : List α) (j G : α → PyData) (p : α → Bool) (hj : ∀ a b, j a = j b → a = b) (hi : Ev C ρ iter T) (hI : Iter C T ((xs.map j).map dt)) (sz : xs.length ≤ sizeLine)
    (test : ∀ a ∈ xs, ∀ env, Tr (C.comp scope env) (compRho ρ x (.val (dt (j a))) (relab C.names scope.names)) c (p a))
    (elt' : ∀ a ∈ xs, p a = true → ∀ env, Ev (C.comp scope env) (compRho ρ x (.val (dt (j a))) (relab C.names scope.names)) elt (dt (G a))) (hy : ρ.lookup y = some b₀) (hsto : b₀.sto = true := by rfl)
    (kind : scope.kind = .function := by rfl) (nd : (scope.names.map (·.1)).Nodup := by decide) (hx : (x, NameKind.local) ∈ scope.names := by decide) (nc : ∀ y ∈ scope.names, y.2 ≠ .cell := by decide) (free : freeOk ρ C.names scope.names = true := by rfl)
    (hs : ∀ env x, foldedSetIterable iter env x = pure x := by intro _ _; rfl) : Ex1 C ρ (.Assign [.Name y py] (.ListComp elt [⟨.Name x px, iter, [c], 0⟩] scope pos) spos) (fun o => o = .next (put y (.val (dt (.list ((xs.filter p).map G)))) ρ)) := by
  have := Ex1.assignC (px := px) (py := py) (pos := pos) (spos := spos) hi hI (block_of (p := p) (G := G) hj sz (fun a ha env => .inr ⟨c, rfl, test a ha env⟩) elt' kind nd hx nc free) hy hsto hs
  rwa [block_res hj] at this
theorem Un.neg {a : Int} : Un C .USub (tI a) (tI (-a)) := fun O s v ok B pv Q E q => by
  cases pv; exact neg_int (q s.heap _ _ .refl (.int _ _))
theorem slice_map {α β : Type} (f : α → β) (lo hi : Option Int) (xs : List α) : sliceL lo hi (xs.map f) = (sliceL lo hi xs).map f := by
  unfold sliceL
  rw [List.length_map, ← List.map_drop, ← List.map_take]
theorem Itm.intsSlice {ns : List Int} {lo hi : Option Int} (hsz : ns.length ≤ sizeLine) : Itm C (tIs ns) (slcT lo hi none) (tIs (sliceL lo hi ns)) := by
  show Itm C _ _ (dt (.list ((sliceL lo hi ns).map .int)))
  rw [← slice_map]; exact Itm.listSlice (by rw [List.length_map]; exact hsz)
end
end Mine

namespace Mine
open PySem PySem.W PyProof.Rows PySem.Spec

/-- the names of a target -/
def namesOf : List Expr → Option (List Str)
  | [] => some []
  | .Name x _ :: r => (namesOf r).map (x :: ·)
  | _ => none
/-- stores, one by one -/
inductive StoL (env : Env) : List (Value → Sem Unit) → List Str → Prop
  | nil : StoL env [] []
  | cons {t : Value → Sem Unit} {x : Str} {ts : List (Value → Sem Unit)} {xs : List Str} : (∀ (M : Model) (A : Around) (E : Value → Shared → Prop) (s : Shared) (v : Value) (Q : Unit → Shared → Prop), wpAny M A (storeName env x v) Q E s → wpAny M A (t v) Q E s) → StoL env ts xs → StoL env (t :: ts) (x :: xs)
theorem StoL.length {env : Env} : ∀ {ts : List (Value → Sem Unit)} {xs : List Str}, StoL env ts xs → ts.length = xs.length
  | _, _, .nil => rfl
  | _, _, .cons _ r => by rw [List.length_cons, List.length_cons, r.length]
theorem stoL_of {env : Env} : ∀ {elts : List Expr} {xs : List Str}, namesOf elts = some xs → StoL env ((assignEach elts env).map (·.2)) xs ∧ (assignEach elts env).findIdx? (·.1) = none
  | [], _, h => by cases h; exact ⟨.nil, rfl⟩
  | .Name x p :: r, xs, h => by
    obtain ⟨ys, hy, rfl⟩ := Option.map_eq_some_iff.mp (show (namesOf r).map (x :: ·) = some xs from h)
    obtain ⟨a, b⟩ := stoL_of (env := env) hy
    have e : assignEach (.Name x p :: r) env = (false, assign (.Name x p) env) :: assignEach r env := rfl
    rw [e]
    refine ⟨.cons (fun M A E s v Q q => assign_Name q) a, ?_⟩
    rw [List.findIdx?_cons, b]
    rfl
theorem stoL_bind {env : Env} : ∀ (xs : List Str), StoL env (xs.map fun n => bindName env n) xs
  | [] => .nil
  | x :: r => .cons (fun M A E s v Q q => bindName_ q) (stoL_bind r)

/-- several names stored -/
def putAll : List (Str × PyData) → Rho → Rho
  | [], ρ => ρ
  | (x, d) :: r, ρ => putAll r (put x (.val (dt d)) ρ)
def stoAll : List Str → List PyData → Rho → Prop
  | x :: xs, d :: ds, ρ => (∃ b, ρ.lookup x = some b ∧ b.sto = true) ∧ stoAll xs ds (put x (.val (dt d)) ρ)
  | _, _, _ => True

section
variable {C : Cx} {ρ : Rho}
theorem stores : ∀ {ts : List (Value → Sem Unit)} {xs : List Str} {vs : List Value} {ds : List PyData} {ρ : Rho} {Ob Mb : Addr → Prop} {ad : Str → Addr} {s : Shared} {Q : Unit → Shared → Prop} {E : Value → Shared → Prop},
    StoL C.env ts xs → St C Ob Mb ρ ad s.heap → RepL (OO Ob ρ ad) s.heap vs ds → stoAll xs ds ρ →
    (∀ h' tk, St C Ob Mb (putAll (xs.zip ds) ρ) ad h' → (∀ a, OwnAt (putAll (xs.zip ds) ρ) ad a → OwnAt ρ ad a) → Agree Mb s.heap h' → Q () { s with heap := h', toks := tk }) → wpAny C.M C.A (assignInOrder ts vs) Q E s
  | _, _, vs, _, ρ, Ob, Mb, ad, s, Q, E, .nil, S, r, h, q => by
    have e : assignInOrder [] vs = pure () := by cases vs <;> rfl
    rw [e]
    exact wpAny_pure (q s.heap s.toks S (fun _ w => w) .refl)
  | _, _, _, _, ρ, Ob, Mb, ad, s, Q, E, .cons (xs := xs) ht r, S, .nil, h, q => by
    exact wpAny_pure (q s.heap s.toks (by cases xs <;> exact S) (fun _ w => by cases xs <;> exact w) .refl)
  | _, _, _, _, ρ, Ob, Mb, ad, s, Q, E, .cons (x := x) (xs := xs) ht r, S, .cons (v := v) (d := d) (ds := ds) pv rv, h, q => by
    obtain ⟨⟨b, hx, hs⟩, hr⟩ := h
    show wpAny C.M C.A (do holding _ (_); assignInOrder _ _) Q E s
    refine wpAny_bind (wpAny_holding (ht _ _ _ _ _ _ (S.set hx hs (.inr ⟨dt d, rfl, pv⟩) fun h₂ tk₂ a₂ S₂ _ m₂ _ g₂ => ?_)))
    have ow : ∀ a, OwnAt (put x (.val (dt d)) ρ) ad a → OwnAt ρ ad a := fun a w => w.put hx fun _ e => by cases e
    refine stores (s := { s with heap := h₂, toks := tk₂ }) r S₂ ?_ hr fun h' tk S₃ w₃ g₃ => ?_
    · refine RepL.re (fun a o _ w => w.imp id (ow a)) (rv.mono (g₂.wk fun a w => .inl (S.mo _ (w ▸ m₂))))
    · exact q h' tk S₃ (fun a w => ow a (w₃ a w)) ((g₂.wk fun a w => w ▸ m₂).trans g₃)

theorem Step.of_but {W : Wd} {O : Addr → Prop} {h h' : Heap} (k : Heap.ExtBut h.objs.size h h') : Step W O h h' := .of_ext fun b o e => k b o (Nat.ne_of_lt (Heap.lt_size e)) e

theorem Ex1.unpackS {elts : List Expr} {k : Nat} {tp p : Pos} {e : Expr} (xs : List Str) (ds : List PyData) (h : Ev C ρ e (dt (.tuple ds))) (hst : stoAll xs.reverse ds.reverse ρ) (hl : xs.length = ds.length := by rfl)
    (hs : ∀ env, swapsWithSole [.Tuple elts k tp] e p.line env = pure false := by intro _; rfl) (hw : ∀ env : Env, env.scope.kind = .function → env.scope.names = C.names → swappedStores [.Tuple elts k tp] e env = pure (some xs) := by intro env h1 h2; simp only [swappedStores, Env.blockKind, Env.kindOf, h1, h2]; rfl) :
    Ex1 C ρ (.Assign [.Tuple elts k tp] e p) (fun o => o = .next (putAll (xs.reverse.zip ds.reverse) ρ)) := fun Ob Mb ad s Q E S q => by
  refine Assign_Tuple_swapped (h Ob Mb ad s S _ E fun h' tk v y pv => ?_) (hs _) (hw _ S.ok.kind S.ok.nm)
  cases pv with
  | tuple n it rl =>
    have hlen := rl.length
    rw [Array.length_toList] at hlen
    rw [hl, ← hlen]
    refine wpAny_unpackItems_tuple S.ok.hd it fun h₂ ex => ?_
    have y₂ : Step C.W (OO Ob ρ ad) h' h₂ := .of_but ex
    have S₂ := (S.step y).step y₂
    have rv : ∀ {vs : List Value} {ds : List PyData} {O : Addr → Prop} {h : Heap}, RepL O h vs ds → RepL O h vs.reverse ds.reverse := by
      intro vs ds O h r
      induction ds generalizing vs with
      | nil => cases r; exact .nil
      | cons d t ih =>
        cases r with
        | cons p r => rw [List.reverse_cons, List.reverse_cons]; exact (ih r).append (.cons p .nil)
    refine stores (s := { s with heap := h₂, toks := tk }) (stoL_bind xs.reverse) S₂ (rv (rl.mono ((S.step y).agO y₂))) hst fun h₃ tk₃ S₃ w₃ g₃ => ?_
    exact q .next h₃ tk₃ _ rfl ⟨ad, S₃, fun a o _ w => w₃ a w⟩ ((Agree.mt S (y.trans y₂)).trans (g₃.wk fun a w => .inl w))
end
end Mine

namespace Mine
open PySem PySem.W PyProof.Rows PySem.Spec

section
variable {C : Cx}
theorem Itm.strToI {l : List Nat} {z : Int} (hz : 0 ≤ z) (hsz : l.length ≤ sizeLine) : Itm C (tS l) (slcT none (some z) none) (tS (l.take z.toNat)) := by
  have := Itm.strTo (C := C) (l := l) z.toNat hsz
  rwa [Int.toNat_of_nonneg hz] at this
theorem idxN_nn {n : Nat} {z : Int} (h : 0 ≤ z) : idxN n z = z.toNat := by unfold idxN; rw [if_neg (by omega)]
/-- an item of a list of what stands for data -/
theorem Itm.mapAt {α : Type} {xs : List α} {f : α → PyData} {z : Int} {a : α} (hz : 0 ≤ z) (ha : xs[z.toNat]? = some a) (hs : xs.length ≤ sizeLine) : Itm C (dt (.list (xs.map f))) (tI z) (dt (f a)) := by
  have h1 := (List.getElem?_eq_some_iff.mp ha).1
  refine Itm.listAt (by rw [List.length_map]; omega) (by rw [List.length_map]; omega) (by rw [List.length_map]; exact hs) ?_
  rw [idxN_nn hz, List.getElem?_map, ha]
  rfl
end
end Mine

namespace Mine
open PySem PySem.W PyProof.Rows PySem.Spec

def notStar : Expr → Bool
  | .Starred _ _ => false
  | _ => true
theorem starEach_ns {e : Expr} (h : notStar e = true) (es : List Expr) (env : Env) : starEach (e :: es) env = (false, eval e env) :: starEach es env := by
  cases e <;> first | rfl | cases h
/-- written data: atoms, tuples of atoms, lists of both -/
def atomD : Expr → Option PyData
  | .Constant (.str x) _ _ => some (.str x)
  | .Constant (.int i) _ _ => some (.int i)
  | .Constant (.bool b) _ _ => some (.bool b)
  | .Constant .none _ _ => some .none
  | _ => none
def eachD (f : Expr → Option PyData) : List Expr → Option (List PyData)
  | [] => some []
  | e :: es => match f e with
    | some d => (eachD f es).map (d :: ·)
    | none => none
def tupD : Expr → Option PyData
  | .Tuple es _ _ => (eachD atomD es).map .tuple
  | e => atomD e
section
variable {C : Cx} {ρ : Rho}
theorem EvL.cons' {e : Expr} {es : List Expr} {T : Ty} {Ts : List Ty} (h₁ : Ev C ρ e T) (h₂ : EvL C ρ es Ts) (he : notStar e = true := by rfl) : EvL C ρ (e :: es) (T :: Ts) := EvL.cons h₁ h₂ (starEach_ns he es)
theorem eachD_len {f : Expr → Option PyData} : ∀ {es : List Expr} {ds : List PyData}, eachD f es = some ds → ds.length = es.length
  | [], _, h => by cases h; rfl
  | e :: es, ds, h => by
    unfold eachD at h
    split at h
    · obtain ⟨r, hr, rfl⟩ := Option.map_eq_some_iff.mp h
      rw [List.length_cons, List.length_cons, eachD_len hr]
    · cases h
theorem EvL.each {f : Expr → Option PyData} (hf : ∀ e d, f e = some d → Ev C ρ e (dt d) ∧ notStar e = true) : ∀ {es : List Expr} {ds : List PyData}, eachD f es = some ds → EvL C ρ es (ds.map dt)
  | [], _, h => by cases h; exact EvL.nil
  | e :: es, ds, h => by
    unfold eachD at h
    split at h
    · rename_i d hd
      obtain ⟨r, hr, rfl⟩ := Option.map_eq_some_iff.mp h
      exact EvL.cons' (hf e d hd).1 (EvL.each hf hr) (hf e d hd).2
    · cases h
theorem Ev.atomD {e : Expr} {d : PyData} (h : atomD e = some d) : Ev C ρ e (dt d) ∧ notStar e = true := by
  unfold Mine.atomD at h
  split at h
  · cases h; exact ⟨Ev.str, rfl⟩
  · cases h; exact ⟨Ev.int, rfl⟩
  · cases h; exact ⟨Ev.bool, rfl⟩
  · cases h; exact ⟨Ev.none, rfl⟩
  · cases h
theorem Ev.tupD {e : Expr} {d : PyData} (h : tupD e = some d) (hz : ∀ es k p, e = .Tuple es k p → es.length ≤ sizeLine) : Ev C ρ e (dt d) ∧ notStar e = true := by
  unfold Mine.tupD at h
  split at h
  · obtain ⟨r, hr, rfl⟩ := Option.map_eq_some_iff.mp h
    exact ⟨Ev.tuple (EvL.each (fun _ _ => Ev.atomD) hr) (by rw [eachD_len hr]; exact hz _ _ _ rfl), rfl⟩
  · exact Ev.atomD h
def tupSmall : Expr → Bool
  | .Tuple es _ _ => decide (es.length ≤ 100)
  | _ => true
def tupD' (e : Expr) : Option PyData := if tupSmall e = true then tupD e else none
theorem Ev.tupD' {e : Expr} {d : PyData} (h : tupD' e = some d) : Ev C ρ e (dt d) ∧ notStar e = true := by
  unfold Mine.tupD' at h
  split at h
  · rename_i hs
    refine Ev.tupD h fun es k p e' => ?_
    subst e'
    have : es.length ≤ 100 := of_decide_eq_true hs
    have hsl := sizeLine_eq
    omega
  · cases h
/-- a written list -/
theorem EvNew.data {elts : List Expr} {p : Pos} (ds : List PyData) (h : eachD Mine.tupD' elts = some ds := by kernel_rfl) (hz : decide (elts.length ≤ 1000) = true := by kernel_rfl) : EvNew C ρ (.List elts p) ds :=
  EvNew.list (EvL.each (fun _ _ => Ev.tupD') h) (by rw [eachD_len h]; have := of_decide_eq_true hz; have hsl := sizeLine_eq; omega)
theorem Ev.tup {elts : List Expr} {k : Nat} {p : Pos} {ds : List PyData} (h : EvL C ρ elts (ds.map dt)) (hz : decide (ds.length ≤ 1000) = true := by kernel_rfl) : Ev C ρ (.Tuple elts k p) (dt (.tuple ds)) :=
  Ev.tuple h (by have := of_decide_eq_true hz; have hsl := sizeLine_eq; omega)
theorem EvNew.lst {elts : List Expr} {p : Pos} {ds : List PyData} (h : EvL C ρ elts (ds.map dt)) (hz : decide (ds.length ≤ 1000) = true := by kernel_rfl) : EvNew C ρ (.List elts p) ds :=
  EvNew.list h (by have := of_decide_eq_true hz; have hsl := sizeLine_eq; omega)
theorem eval_callN (x : Str) (p pos : Pos) (args : List Expr) (env : Env) : eval (.Call (.Name x p) args [] pos) env = (do callWith pos (← eval (.Name x p) env) [] (backTo pos (starEach args env)) (backToKw pos (keywordEach [] env))) := rfl
/-- calls of a name -/
theorem Ev.c1 {x : Str} {p pos : Pos} {e : Expr} {f : Value} {T1 T : Ty} {lv : Nat} (hf : Ev C ρ (.Name x p) (eqT f)) (hk : KeepOk C.W f) (h1 : Ev C ρ e T1) (hc : Cl C.W lv f [T1] T) (hl : lv ≤ C.lv) (n1 : notStar e = true := by rfl) : Ev C ρ (.Call (.Name x p) [e] [] pos) T :=
  Ev.call hf hk (EvL.cons' h1 EvL.nil n1) hc hl (eval_callN x p pos _) (starEach_ns n1 _) (fun _ => rfl)
theorem any_star {pos : Pos} {env : Env} : ∀ {es : List Expr}, (es.all notStar) = true → (backTo pos (starEach es env)).any (·.1) = false
  | [], _ => rfl
  | e :: es, h => by
    rw [List.all_cons, Bool.and_eq_true] at h
    rw [starEach_ns h.1]
    have ih := any_star (pos := pos) (env := env) h.2
    unfold backTo at ih ⊢
    rw [List.map_cons, List.any_cons, ih]
    rfl
theorem Ev.c2 {x : Str} {p pos : Pos} {e e2 : Expr} {f : Value} {T1 T2 T : Ty} {lv : Nat} (hf : Ev C ρ (.Name x p) (eqT f)) (hk : KeepOk C.W f) (h1 : Ev C ρ e T1) (h2 : Ev C ρ e2 T2) (hc : Cl C.W lv f [T1, T2] T) (hl : lv ≤ C.lv) (n1 : notStar e = true := by rfl) (n2 : notStar e2 = true := by rfl) : Ev C ρ (.Call (.Name x p) [e, e2] [] pos) T :=
  Ev.call hf hk (EvL.cons' h1 (EvL.cons' h2 EvL.nil n2) n1) hc hl (eval_callN x p pos _) (starEach_ns n1 _) (fun _ => any_star (by simp [n2]))
theorem Ev.c3 {x : Str} {p pos : Pos} {e e2 e3 : Expr} {f : Value} {T1 T2 T3 T : Ty} {lv : Nat} (hf : Ev C ρ (.Name x p) (eqT f)) (hk : KeepOk C.W f) (h1 : Ev C ρ e T1) (h2 : Ev C ρ e2 T2) (h3 : Ev C ρ e3 T3) (hc : Cl C.W lv f [T1, T2, T3] T) (hl : lv ≤ C.lv) (n1 : notStar e = true := by rfl) (n2 : notStar e2 = true := by rfl) (n3 : notStar e3 = true := by rfl) : Ev C ρ (.Call (.Name x p) [e, e2, e3] [] pos) T :=
  Ev.call hf hk (EvL.cons' h1 (EvL.cons' h2 (EvL.cons' h3 EvL.nil n3) n2) n1) hc hl (eval_callN x p pos _) (starEach_ns n1 _) (fun _ => any_star (by simp [n2, n3]))
end
end Mine

namespace Mine
open PySem PySem.W PyProof.Rows PySem.Spec

/-! the judgements, sealed: nothing unfolds them by the way -/
structure EV (C : Cx) (ρ : Rho) (e : Expr) (T : Ty) : Prop where
  un : Ev C ρ e T
structure EVL (C : Cx) (ρ : Rho) (es : List Expr) (Ts : List Ty) : Prop where
  un : EvL C ρ es Ts
structure EVN (C : Cx) (ρ : Rho) (e : Expr) (ds : List PyData) : Prop where
  un : EvNew C ρ e ds
structure EVO (C : Cx) (ρ : Rho) (e : Option Expr) (o : Option Int) : Prop where
  un : EvO C ρ e o
structure TR (C : Cx) (ρ : Rho) (e : Expr) (b : Bool) : Prop where
  un : Tr C ρ e b
structure EX (C : Cx) (ρ : Rho) (sts : List Stmt) (Post : Out → Prop) : Prop where
  un : Ex C ρ sts Post
structure EX1 (C : Cx) (ρ : Rho) (st : Stmt) (ρ' : Rho) : Prop where
  un : Ex1 C ρ st (fun o => o = .next ρ')
structure CL (W : Wd) (lv : Nat) (f : Value) (Ts : List Ty) (T : Ty) : Prop where
  un : Cl W lv f Ts T

section
variable {C : Cx} {ρ : Rho} {W : Wd} {Post : Out → Prop}
theorem EV.to {e : Expr} {T T' : Ty} (h : EV C ρ e T) (k : T = T') : EV C ρ e T' := k ▸ h
theorem EV.int {i : Int} {k : Nat} {p : Pos} : EV C ρ (.Constant (.int i) k p) (tI i) := ⟨Ev.int⟩
theorem EV.lit {x : Str} {k : Nat} {p : Pos} (l : List Nat) (h : x = S l := by kernel_rfl) : EV C ρ (.Constant (.str x) k p) (tS l) := ⟨Ev.lit l h⟩
theorem EV.none {k : Nat} {p : Pos} : EV C ρ (.Constant .none k p) (dt .none) := ⟨Ev.none⟩
theorem EV.name {x : Str} {p : Pos} {T : Ty} (hl : ρ.lookup x = some (.val T)) (hd : (x == ("__debug__" : Str)) = false := by kernel_rfl) : EV C ρ (.Name x p) T := ⟨Ev.name hl hd⟩
theorem EV.ro {x : Str} {p : Pos} {T : Ty} (hl : ρ.lookup x = some (.ro T)) (hd : (x == ("__debug__" : Str)) = false := by kernel_rfl) (hn : (x == ("__classdict__" : Str)) = false := by kernel_rfl) : EV C ρ (.Name x p) T := ⟨Ev.ro hl hd hn⟩
theorem EV.glob {x : Str} {p : Pos} {v : Value} (hn : C.names.lookup x = some .globalImplicit) (hg : C.W.gs.lookup x = some v) (hd : (x == ("__debug__" : Str)) = false := by kernel_rfl) : EV C ρ (.Name x p) (eqT v) := ⟨Ev.glob hn hg hd⟩
theorem EV.bin {l r : Expr} {op : Operator} {p : Pos} {T₁ T₂ T : Ty} (h₁ : EV C ρ l T₁) (h₂ : EV C ρ r T₂) (ho : Bin C op T₁ T₂ T) : EV C ρ (.BinOp l op r p) T := ⟨Ev.bin h₁.un h₂.un ho⟩
theorem EV.uno {l : Expr} {op : UnaryOp} {p : Pos} {T₁ T : Ty} (h₁ : EV C ρ l T₁) (ho : Un C op T₁ T) : EV C ρ (.UnaryOp op l p) T := ⟨Ev.un h₁.un ho⟩
theorem EV.cmp {l r : Expr} {op : CmpOp} {p : Pos} {T₁ T₂ T : Ty} (h₁ : EV C ρ l T₁) (h₂ : EV C ρ r T₂) (ho : Cmp C op T₁ T₂ T) (hm : behindInMarks op r = false := by with_unfolding_all rfl) : EV C ρ (.Compare l [op] [r] p) T := ⟨Ev.cmp h₁.un h₂.un ho hm⟩
theorem EV.ife {t b e : Expr} {p : Pos} {c : Bool} {T : Ty} (h : TR C ρ t c) (h₁ : c = true → EV C ρ b T) (h₂ : c = false → EV C ρ e T) : EV C ρ (.IfExp t b e p) T := ⟨Ev.ife h.un (fun q => (h₁ q).un) fun q => (h₂ q).un⟩
theorem EV.or2 {e₁ e₂ : Expr} {p : Pos} {T₁ T : Ty} {b : Bool} (h₁ : EV C ρ e₁ T₁) (ht : Truth C T₁ b) (k₁ : b = true → ∀ O h v, T₁.P O h v → T.P O h v) (h₂ : b = false → EV C ρ e₂ T) : EV C ρ (.BoolOp .Or [e₁, e₂] p) T := ⟨Ev.or2 h₁.un ht k₁ fun q => (h₂ q).un⟩
theorem EV.and2 {e₁ e₂ : Expr} {p : Pos} {T₁ T : Ty} {b : Bool} (h₁ : EV C ρ e₁ T₁) (ht : Truth C T₁ b) (k₁ : b = false → ∀ O h v, T₁.P O h v → T.P O h v) (h₂ : b = true → EV C ρ e₂ T) : EV C ρ (.BoolOp .And [e₁, e₂] p) T := ⟨Ev.and2 h₁.un ht k₁ fun q => (h₂ q).un⟩
theorem EV.sub {value slice : Expr} {pos : Pos} {T₁ T₂ T : Ty} (h₁ : EV C ρ value T₁) (h₂ : EV C ρ slice T₂) (ho : Itm C T₁ T₂ T) (hs : ∀ o i, ∃ ops, subscripted slice false o i = operate ops (getItem o i) := by intro _ _; exact ⟨_, rfl⟩) : EV C ρ (.Subscript value slice pos) T := ⟨Ev.sub h₁.un h₂.un ho hs⟩
theorem EVO.nil : EVO C ρ none none := ⟨EvO.nil⟩
theorem EVO.val {e : Expr} {i : Int} (h : EV C ρ e (tI i)) : EVO C ρ (some e) (some i) := ⟨EvO.val h.un⟩
theorem EV.slice {l u st : Option Expr} {p : Pos} {lo hi sp : Option Int} (h₁ : EVO C ρ l lo) (h₂ : EVO C ρ u hi) (h₃ : EVO C ρ st sp) : EV C ρ (.Slice l u st p) (slcT lo hi sp) := ⟨Ev.slice h₁.un h₂.un h₃.un⟩
theorem EVL.nil : EVL C ρ [] [] := ⟨EvL.nil⟩
theorem EVL.cons {e : Expr} {es : List Expr} {T : Ty} {Ts : List Ty} (h₁ : EV C ρ e T) (h₂ : EVL C ρ es Ts) (he : notStar e = true := by rfl) : EVL C ρ (e :: es) (T :: Ts) := ⟨EvL.cons' h₁.un h₂.un he⟩
theorem EV.tup {elts : List Expr} {k : Nat} {p : Pos} (ds : List PyData) (h : EVL C ρ elts (ds.map dt)) (hz : decide (ds.length ≤ 1000) = true := by kernel_rfl) : EV C ρ (.Tuple elts k p) (dt (.tuple ds)) := ⟨Ev.tup h.un hz⟩
theorem EV.tup2 {e₁ e₂ : Expr} {k : Nat} {p : Pos} {d₁ d₂ : PyData} (h₁ : EV C ρ e₁ (dt d₁)) (h₂ : EV C ρ e₂ (dt d₂)) (n₁ : notStar e₁ = true := by rfl) (n₂ : notStar e₂ = true := by rfl) : EV C ρ (.Tuple [e₁, e₂] k p) (dt (.tuple [d₁, d₂])) := EV.tup [d₁, d₂] (EVL.cons h₁ (EVL.cons h₂ EVL.nil n₂) n₁) rfl
theorem EV.tup4 {e₁ e₂ e₃ e₄ : Expr} {k : Nat} {p : Pos} {d₁ d₂ d₃ d₄ : PyData} (h₁ : EV C ρ e₁ (dt d₁)) (h₂ : EV C ρ e₂ (dt d₂)) (h₃ : EV C ρ e₃ (dt d₃)) (h₄ : EV C ρ e₄ (dt d₄)) (n₁ : notStar e₁ = true := by rfl) (n₂ : notStar e₂ = true := by rfl) (n₃ : notStar e₃ = true := by rfl) (n₄ : notStar e₄ = true := by rfl) : EV C ρ (.Tuple [e₁, e₂, e₃, e₄] k p) (dt (.tuple [d₁, d₂, d₃, d₄])) := EV.tup [d₁, d₂, d₃, d₄] (EVL.cons h₁ (EVL.cons h₂ (EVL.cons h₃ (EVL.cons h₄ EVL.nil n₄) n₃) n₂) n₁) rfl
theorem EVN.lst {elts : List Expr} {p : Pos} (ds : List PyData) (h : EVL C ρ elts (ds.map dt)) (hz : decide (ds.length ≤ 1000) = true := by kernel_rfl) : EVN C ρ (.List elts p) ds := ⟨EvNew.lst h.un hz⟩
theorem EVN.data {elts : List Expr} {p : Pos} (ds : List PyData) (h : eachD Mine.tupD' elts = some ds := by kernel_rfl) (hz : decide (elts.length ≤ 1000) = true := by kernel_rfl) : EVN C ρ (.List elts p) ds := ⟨EvNew.data ds h hz⟩
theorem EVN.v {e : Expr} {ds : List PyData} (h : EVN C ρ e ds) : EV C ρ e (dt (.list ds)) := ⟨h.un.ev⟩
theorem EV.c1 {x : Str} {p pos : Pos} {e : Expr} {f : Value} {T1 T : Ty} {lv : Nat} (hf : EV C ρ (.Name x p) (eqT f)) (hk : KeepOk C.W f) (h1 : EV C ρ e T1) (hc : CL C.W lv f [T1] T) (hl : lv ≤ C.lv) (n1 : notStar e = true := by rfl) : EV C ρ (.Call (.Name x p) [e] [] pos) T := ⟨Ev.c1 hf.un hk h1.un hc.un hl n1⟩
theorem EV.c2 {x : Str} {p pos : Pos} {e e2 : Expr} {f : Value} {T1 T2 T : Ty} {lv : Nat} (hf : EV C ρ (.Name x p) (eqT f)) (hk : KeepOk C.W f) (h1 : EV C ρ e T1) (h2 : EV C ρ e2 T2) (hc : CL C.W lv f [T1, T2] T) (hl : lv ≤ C.lv) (n1 : notStar e = true := by rfl) (n2 : notStar e2 = true := by rfl) : EV C ρ (.Call (.Name x p) [e, e2] [] pos) T := ⟨Ev.c2 hf.un hk h1.un h2.un hc.un hl n1 n2⟩
theorem EV.c3 {x : Str} {p pos : Pos} {e e2 e3 : Expr} {f : Value} {T1 T2 T3 T : Ty} {lv : Nat} (hf : EV C ρ (.Name x p) (eqT f)) (hk : KeepOk C.W f) (h1 : EV C ρ e T1) (h2 : EV C ρ e2 T2) (h3 : EV C ρ e3 T3) (hc : CL C.W lv f [T1, T2, T3] T) (hl : lv ≤ C.lv) (n1 : notStar e = true := by rfl) (n2 : notStar e2 = true := by rfl) (n3 : notStar e3 = true := by rfl) : EV C ρ (.Call (.Name x p) [e, e2, e3] [] pos) T := ⟨Ev.c3 hf.un hk h1.un h2.un h3.un hc.un hl n1 n2 n3⟩
theorem EV.m0 {o : Expr} {name : Str} {apos pos : Pos} {id : String} {T₀ T : Ty} {lv : Nat} {pl : Env → Sem Bool} (ho : EV C ρ o T₀) (hm : Mth C T₀ name id) (hc : CL C.W lv (.builtin id) [T₀] T) (hl : lv ≤ C.lv := by exact Nat.zero_le _)
    (he : ∀ env, eval (.Call (.Attribute o name apos) [] [] pos) env = (do
      let ov ← eval o env
      standAt apos.atName
      let (f, first) ← holding [ov] (getMethod ov name (pl env))
      callWith pos f first (backTo pos (starEach [] env)) []) := by intro _; rfl) : EV C ρ (.Call (.Attribute o name apos) [] [] pos) T := ⟨Ev.meth0 ho.un hm hc.un hl he⟩
theorem EV.m1 {o e : Expr} {name : Str} {apos pos : Pos} {id : String} {T₀ T T1 : Ty} {lv : Nat} {pl : Env → Sem Bool} (ho : EV C ρ o T₀) (hm : Mth C T₀ name id) (h1 : EV C ρ e T1) (hc : CL C.W lv (.builtin id) [T₀, T1] T) (hl : lv ≤ C.lv := by exact Nat.zero_le _)
    (he : ∀ env, eval (.Call (.Attribute o name apos) [e] [] pos) env = (do
      let ov ← eval o env
      standAt apos.atName
      let (f, first) ← holding [ov] (getMethod ov name (pl env))
      callWith pos f first (backTo pos (starEach [e] env)) []) := by intro _; rfl) (n1 : notStar e = true := by rfl) : EV C ρ (.Call (.Attribute o name apos) [e] [] pos) T := ⟨Ev.meth ho.un hm (EvL.cons' h1.un EvL.nil n1) hc.un hl he (starEach_ns n1 _) (fun _ => rfl)⟩
theorem EV.borrow {e : Expr} {T : Ty} (x : Str) {ds : List PyData} (hx : ρ.lookup x = some (.own ds)) (h : EV C (put x (.val (dt (.list ds))) ρ) e T) (ha : T.Atom) : EV C ρ e T := ⟨Ev.borrow x hx h.un ha⟩

theorem TR.plain {e : Expr} {T : Ty} {b : Bool} (h : EV C ρ e T) (ht : Truth C T b) (he : ∀ env whole, isTrue e env whole = (do let v ← whole; standAt e.pos; holding [v] (truthy v)) := by intro _ _; rfl) : TR C ρ e b := ⟨Tr.plain h.un ht he⟩
theorem TR.not {e : Expr} {p : Pos} {b : Bool} (h : TR C ρ e b) : TR C ρ (.UnaryOp .Not e p) (!b) := ⟨Tr.not h.un⟩
theorem TR.and {e₁ e₂ : Expr} {p : Pos} {a b : Bool} (h : TR C ρ e₁ a) (h₂ : a = true → TR C ρ e₂ b) : TR C ρ (.BoolOp .And [e₁, e₂] p) (a && b) := by
  have := Tr.and (p := p) h.un (fun q => Tr.and (h₂ q).un fun _ => Tr.andNil)
  rw [Bool.and_true] at this
  exact ⟨this⟩
theorem TR.and3 {e₁ e₂ e₃ : Expr} {p : Pos} {a b c : Bool} (h : TR C ρ e₁ a) (h₂ : a = true → TR C ρ e₂ b) (h₃ : a = true → b = true → TR C ρ e₃ c) : TR C ρ (.BoolOp .And [e₁, e₂, e₃] p) (a && (b && c)) := by
  have := Tr.and (p := p) h.un (fun q => Tr.and (h₂ q).un fun r => Tr.and (h₃ q r).un fun _ => Tr.andNil)
  rw [Bool.and_true] at this
  exact ⟨this⟩
theorem TR.cmp {l r : Expr} {op : CmpOp} {p : Pos} {T₁ T₂ : Ty} {b : Bool} (h₁ : EV C ρ l T₁) (h₂ : EV C ρ r T₂) (ho : Cmp C op T₁ T₂ (dt (.bool b))) (hm : behindInMarks op r = false := by with_unfolding_all rfl) : TR C ρ (.Compare l [op] [r] p) b := ⟨Tr.cmp h₁.un h₂.un ho hm⟩
theorem TR.to {e : Expr} {b b' : Bool} (h : TR C ρ e b) (k : b = b') : TR C ρ e b' := k ▸ h

theorem EVN.comp0 {α : Type} {x : Str} {px pos : Pos} {scope : Scope} {elt iter : Expr} {T : Ty} (xs : List α) (j G : α → PyData) (hj : ∀ a b, j a = j b → a = b) (hi : EV C ρ iter T) (hI : Iter C T ((xs.map j).map dt)) (sz : xs.length ≤ sizeLine)
    (elt' : ∀ a ∈ xs, ∀ env, EV (C.comp scope env) (compRho ρ x (.val (dt (j a))) (relab C.names scope.names)) elt (dt (G a)))
    (kind : scope.kind = .function := by rfl) (nd : (scope.names.map (·.1)).Nodup := by decide) (hx : (x, NameKind.local) ∈ scope.names := by decide) (nc : ∀ y ∈ scope.names, y.2 ≠ .cell := by decide) (free : freeOk ρ C.names scope.names = true := by rfl)
    (hs : ∀ env x, foldedSetIterable iter env x = pure x := by intro _ _; rfl) : EVN C ρ (.ListComp elt [⟨.Name x px, iter, [], 0⟩] scope pos) (xs.map G) :=
  ⟨EvNew.comp0 xs j G hj hi.un hI sz (fun a ha env => (elt' a ha env).un) kind nd hx nc free hs⟩
theorem EVN.compIf {α : Type} {x : Str} {px pos : Pos} {scope : Scope} {c elt iter : Expr} {T : Ty} (xs : List α) (j G : α → PyData) (p : α → Bool) (hj : ∀ a b, j a = j b → a = b) (hi : EV C ρ iter T) (hI : Iter C T ((xs.map j).map dt)) (sz : xs.length ≤ sizeLine)
    (test : ∀ a ∈ xs, ∀ env, TR (C.comp scope env) (compRho ρ x (.val (dt (j a))) (relab C.names scope.names)) c (p a))
    (elt' : ∀ a ∈ xs, p a = true → ∀ env, EV (C.comp scope env) (compRho ρ x (.val (dt (j a))) (relab C.names scope.names)) elt (dt (G a)))
    (kind : scope.kind = .function := by rfl) (nd : (scope.names.map (·.1)).Nodup := by decide) (hx : (x, NameKind.local) ∈ scope.names := by decide) (nc : ∀ y ∈ scope.names, y.2 ≠ .cell := by decide) (free : freeOk ρ C.names scope.names = true := by rfl)
    (hs : ∀ env x, foldedSetIterable iter env x = pure x := by intro _ _; rfl) : EVN C ρ (.ListComp elt [⟨.Name x px, iter, [c], 0⟩] scope pos) ((xs.filter p).map G) :=
  ⟨EvNew.compIf xs j G p hj hi.un hI sz (fun a ha env => (test a ha env).un) (fun a ha q env => (elt' a ha q env).un) kind nd hx nc free hs⟩
theorem EX1.compIf {α : Type} {x y : Str} {px py pos spos : Pos} {scope : Scope} {c elt iter : Expr} {T : Ty} {b₀ : Bnd} (xs : List α) (j G : α → PyData) (p : α → Bool) (hj : ∀ a b, j a = j b → a = b) (hi : EV C ρ iter T) (hI : Iter C T ((xs.map j).map dt)) (sz : xs.length ≤ sizeLine)
    (test : ∀ a ∈ xs, ∀ env, TR (C.comp scope env) (compRho ρ x (.val (dt (j a))) (relab C.names scope.names)) c (p a))
    (elt' : ∀ a ∈ xs, p a = true → ∀ env, EV (C.comp scope env) (compRho ρ x (.val (dt (j a))) (relab C.names scope.names)) elt (dt (G a))) (hy : ρ.lookup y = some b₀) (hsto : b₀.sto = true := by rfl)
    (kind : scope.kind = .function := by rfl) (nd : (scope.names.map (·.1)).Nodup := by decide) (hx : (x, NameKind.local) ∈ scope.names := by decide) (nc : ∀ y ∈ scope.names, y.2 ≠ .cell := by decide) (free : freeOk ρ C.names scope.names = true := by rfl)
    (hs : ∀ env x, foldedSetIterable iter env x = pure x := by intro _ _; rfl) : EX1 C ρ (.Assign [.Name y py] (.ListComp elt [⟨.Name x px, iter, [c], 0⟩] scope pos) spos) (put y (.val (dt (.list ((xs.filter p).map G)))) ρ) :=
  ⟨Ex1.compIf xs j G p hj hi.un hI sz (fun a ha env => (test a ha env).un) (fun a ha q env => (elt' a ha q env).un) hy hsto kind nd hx nc free hs⟩

theorem EX.nil (h : Post (.next ρ)) : EX C ρ [] Post := ⟨Ex.nil h⟩
theorem EX.seq {st : Stmt} {rest : List Stmt} {ρ' : Rho} (h : EX1 C ρ st ρ') (hn : EX C ρ' rest Post) : EX C ρ (st :: rest) Post := ⟨Ex.seq h.un hn.un⟩
theorem EX.ite {t : Expr} {b e rest : List Stmt} {p : Pos} {c : Bool} (h : TR C ρ t c) (h₁ : c = true → EX C ρ (b ++ rest) Post) (h₂ : c = false → EX C ρ (e ++ rest) Post) : EX C ρ (.If t b e p :: rest) Post := ⟨Ex.ite h.un (fun q => (h₁ q).un) fun q => (h₂ q).un⟩
theorem EX.ret {e : Expr} {p : Pos} {T : Ty} {rest : List Stmt} (h : EV C ρ e T) (hp : Post (.ret T)) : EX C ρ (.Return (some e) p :: rest) Post := ⟨Ex.ret h.un hp⟩
theorem EX.freeze {sts : List Stmt} (x : Str) {ds : List PyData} (hx : ρ.lookup x = some (.own ds)) (h : EX C (put x (.val (dt (.list ds))) ρ) sts Post) : EX C ρ sts Post := ⟨Ex.freeze x hx h.un⟩
theorem EX.norm {sts : List Stmt} (ρ' : Rho) (h : EX C ρ' sts Post) (e : ρ = ρ' := by rfl) : EX C ρ sts Post := e ▸ h
theorem EX1.assign {x : Str} {px p : Pos} {e : Expr} {T : Ty} {b₀ : Bnd} (h : EV C ρ e T) (hx : ρ.lookup x = some b₀) (hs : b₀.sto = true := by rfl) (hw : ∀ env, swapsWith e (some (.Name x px)) p.line env = pure false := by intro _; rfl) :
    EX1 C ρ (.Assign [.Name x px] e p) (put x (.val T) ρ) := ⟨Ex1.assign h.un hx hs hw⟩
theorem EX1.own {x : Str} {px p : Pos} {e : Expr} {ds : List PyData} {b₀ : Bnd} (h : EVN C ρ e ds) (hx : ρ.lookup x = some b₀) (hs : b₀.sto = true := by rfl) (hw : ∀ env, swapsWith e (some (.Name x px)) p.line env = pure false := by intro _; rfl) :
    EX1 C ρ (.Assign [.Name x px] e p) (put x (.own ds) ρ) := ⟨Ex1.assignOwn h.un hx hs hw⟩
theorem EX1.append {x : Str} {nx apos cpos p : Pos} {e : Expr} {ds : List PyData} {d : PyData} {pl : Env → Sem Bool} (hx : ρ.lookup x = some (.own ds)) (h : EV C ρ e (dt d)) (hz : ds.length < sizeLine)
    (he : ∀ env, eval (.Call (.Attribute (.Name x nx) "append" apos) [e] [] cpos) env = (do
      let ov ← eval (.Name x nx) env
      standAt apos.atName
      let (f, first) ← holding [ov] (getMethod ov "append" (pl env))
      callWith cpos f first (backTo cpos (starEach [e] env)) []) := by intro _; rfl)
    (hs : notStar e = true := by rfl) (hd : (x == ("__debug__" : Str)) = false := by kernel_rfl) (hi : ∀ env, env.scope.kind = .function → interactive env = false := by intro _ h; unfold interactive; rw [h]; rfl)
    (hw : ∀ env, swapsWith (.Call (.Attribute (.Name x nx) "append" apos) [e] [] cpos) none p.line env = pure false := by intro _; rfl) :
    EX1 C ρ (.Expr (.Call (.Attribute (.Name x nx) "append" apos) [e] [] cpos) p) (put x (.own (ds ++ [d])) ρ) := ⟨Ex1.append hx h.un hz he (starEach_ns hs []) hd hi hw⟩
theorem EX1.setItem {x : Str} {nx ps p : Pos} {ie e : Expr} {ds : List PyData} {d : PyData} {k : Int} (hx : ρ.lookup x = some (.own ds)) (h : EV C ρ e (dt d)) (hi : EV C ρ ie (tI k)) (h1 : -(ds.length : Int) ≤ k) (h2 : k < ds.length) (hz : ds.length ≤ sizeLine)
    (hd : (x == ("__debug__" : Str)) = false := by kernel_rfl) (hw : ∀ env, swapsWith e (some (.Subscript (.Name x nx) ie ps)) p.line env = pure false := by intro _; rfl) :
    EX1 C ρ (.Assign [.Subscript (.Name x nx) ie ps] e p) (put x (.own (ds.set (idxN ds.length k) d)) ρ) := ⟨Ex1.setItem hx h.un hi.un h1 h2 hz hd hw⟩
theorem EX1.unpackS {elts : List Expr} {k : Nat} {tp p : Pos} {e : Expr} (xs : List Str) (ds : List PyData) (h : EV C ρ e (dt (.tuple ds))) (hst : stoAll xs.reverse ds.reverse ρ) (hl : xs.length = ds.length := by rfl)
    (hs : ∀ env, swapsWithSole [.Tuple elts k tp] e p.line env = pure false := by intro _; rfl) (hw : ∀ env : Env, env.scope.kind = .function → env.scope.names = C.names → swappedStores [.Tuple elts k tp] e env = pure (some xs) := by intro env h1 h2; simp only [swappedStores, Env.blockKind, Env.kindOf, h1, h2]; rfl) :
    EX1 C ρ (.Assign [.Tuple elts k tp] e p) (putAll (xs.reverse.zip ds.reverse) ρ) := ⟨Ex1.unpackS xs ds h.un hst hl hs hw⟩
theorem EX.forR {x : Str} {px p : Pos} {it : Expr} {body rest : List Stmt} {a b : Int} (n : Nat) (Inv : Nat → Rho → Prop) (hi : EV C ρ it (rngT a b 1)) (hn : (b - a).toNat = n) (hb : -1000000000 < a ∧ a < 1000000000 ∧ -1000000000 < b ∧ b < 1000000000) (h₀ : Inv 0 ρ)
    (hx : ∀ i ρ', Inv i ρ' → ∃ b, ρ'.lookup x = some b ∧ b.sto = true)
    (turn : ∀ i ρ', i < n → Inv i ρ' → EX C (put x (.val (tI (a + i))) ρ') body (Turn (Inv (i + 1)) (LoopP (Inv n) Post)))
    (done : ∀ ρ', Inv n ρ' → EX C ρ' rest Post)
    (hs : ∀ env x, foldedSetIterable it env x = pure x := by intro _ _; rfl) : EX C ρ (.For (.Name x px) it body [] p :: rest) Post :=
  ⟨Ex.forR n Inv hi.un hn hb h₀ hx (fun i ρ' q r => (turn i ρ' q r).un) (fun ρ' q => (done ρ' q).un) hs⟩
theorem EX.forL {x : Str} {px p : Pos} {it : Expr} {body rest : List Stmt} {ds : List PyData} (Inv : Nat → Rho → Prop) (hi : EV C ρ it (dt (.list ds))) (h₀ : Inv 0 ρ)
    (hx : ∀ i ρ', Inv i ρ' → ∃ b, ρ'.lookup x = some b ∧ b.sto = true)
    (turn : ∀ i ρ' d, ds[i]? = some d → Inv i ρ' → EX C (put x (.val (dt d)) ρ') body (Turn (Inv (i + 1)) (LoopP (Inv ds.length) Post)))
    (done : ∀ ρ', Inv ds.length ρ' → EX C ρ' rest Post)
    (hs : ∀ env x, foldedSetIterable it env x = pure x := by intro _ _; rfl) : EX C ρ (.For (.Name x px) it body [] p :: rest) Post :=
  ⟨Ex.forL Inv hi.un h₀ hx (fun i ρ' d q r => (turn i ρ' d q r).un) (fun ρ' q => (done ρ' q).un) hs⟩
theorem EX.while_ {t : Expr} {body rest : List Stmt} {p : Pos} (Inv : Nat → Rho → Prop) (D : Rho → Prop) (n : Nat) (h₀ : Inv n ρ)
    (turn : ∀ k ρ', Inv k ρ' → ∃ b, TR C ρ' t b ∧ (b = true → EX C ρ' body (Turn (fun ρ'' => ∃ k', k' < k ∧ Inv k' ρ'') (LoopP D Post))) ∧ (b = false → D ρ'))
    (done : ∀ ρ', D ρ' → EX C ρ' rest Post) : EX C ρ (.While t body [] p :: rest) Post :=
  ⟨Ex.cons (P := LoopP D Post) (Ex1.while_ Inv n h₀ fun k ρ' q => let ⟨b, h1, h2, h3⟩ := turn k ρ' q; ⟨b, h1.un, fun e => (h2 e).un, fun e => h3 e⟩) (fun ρ' q => (done ρ' q).un) (fun _ h => h.elim) (fun _ h => h.elim) fun _ h => h⟩
end
section
variable {W : Wd} {lv : Nat} {f : Addr} {oc : Value} {od : Option Addr} {osl : Array (Option Value)} {name qual : Str} {params : Arguments} {body : List Stmt} {scope : Scope} {dV kV doc pm cdv ct : Value} {an : Option Addr} {T T1 T2 T3 T4 : Ty}
theorem CL.def1 (n : Str) (ho : W.K.lookup f = some ⟨oc, od, .func (fnOf name qual params body scope dV kV doc pm an cdv ct), osl⟩)
    (hb : ∀ (A : Around) (env : Env), EX ⟨W, A, env, lv, scope.names⟩ (mk0 [(n, T1)] scope.names) body (fun o => o = .ret T)) (hcd : codeIn W.K cdv qual = true := by kernel_rfl)
    (hbind : ∀ (s : Shared) (a : Value), BindsTo s (fnOf name qual params body scope dV kV doc pm an cdv ct) ⟨[a], []⟩ [(n, a)] := by intro _ _; exact BindsTo.of_eq rfl)
    (hnd : (scope.names.map (·.1)).Nodup := by decide) (h1 : parOk scope n = true := by decide) (hcn : ((cellsFrom 0 scope.names []).map (·.1)).Nodup := by decide)
    (hco : scope.isCoroutine = false := by rfl) (hgen : scope.isGenerator = false := by rfl) (hk : scope.kind = .function := by rfl) : CL W (lv + 1) (.ref f) [T1] T :=
  ⟨Cl.def1 n ho (fun A env _ => (hb A env).un) hcd hbind hnd h1 hcn hco hgen hk⟩
theorem CL.def2 (n m : Str) (ho : W.K.lookup f = some ⟨oc, od, .func (fnOf name qual params body scope dV kV doc pm an cdv ct), osl⟩)
    (hb : ∀ (A : Around) (env : Env), EX ⟨W, A, env, lv, scope.names⟩ (mk0 [(n, T1), (m, T2)] scope.names) body (fun o => o = .ret T)) (hcd : codeIn W.K cdv qual = true := by kernel_rfl)
    (hbind : ∀ (s : Shared) (a b : Value), BindsTo s (fnOf name qual params body scope dV kV doc pm an cdv ct) ⟨[a, b], []⟩ [(n, a), (m, b)] := by intro _ _ _; exact BindsTo.of_eq rfl)
    (hnd : (scope.names.map (·.1)).Nodup := by decide) (h1 : parOk scope n = true := by decide) (h2 : parOk scope m = true := by decide) (hnm : n ≠ m := by decide) (hcn : ((cellsFrom 0 scope.names []).map (·.1)).Nodup := by decide)
    (hco : scope.isCoroutine = false := by rfl) (hgen : scope.isGenerator = false := by rfl) (hk : scope.kind = .function := by rfl) : CL W (lv + 1) (.ref f) [T1, T2] T :=
  ⟨Cl.def2 n m ho (fun A env _ => (hb A env).un) hcd hbind hnd h1 h2 hnm hcn hco hgen hk⟩
theorem CL.def3 (n m k : Str) (ho : W.K.lookup f = some ⟨oc, od, .func (fnOf name qual params body scope dV kV doc pm an cdv ct), osl⟩)
    (hb : ∀ (A : Around) (env : Env), EX ⟨W, A, env, lv, scope.names⟩ (mk0 [(n, T1), (m, T2), (k, T3)] scope.names) body (fun o => o = .ret T)) (hcd : codeIn W.K cdv qual = true := by kernel_rfl)
    (hbind : ∀ (s : Shared) (a b c : Value), BindsTo s (fnOf name qual params body scope dV kV doc pm an cdv ct) ⟨[a, b, c], []⟩ [(n, a), (m, b), (k, c)] := by intro _ _ _ _; exact BindsTo.of_eq rfl)
    (hnd : (scope.names.map (·.1)).Nodup := by decide) (h1 : parOk scope n = true := by decide) (h2 : parOk scope m = true := by decide) (h3 : parOk scope k = true := by decide) (hnm : ([n, m, k]).Nodup := by decide) (hcn : ((cellsFrom 0 scope.names []).map (·.1)).Nodup := by decide)
    (hco : scope.isCoroutine = false := by rfl) (hgen : scope.isGenerator = false := by rfl) (hk : scope.kind = .function := by rfl) : CL W (lv + 1) (.ref f) [T1, T2, T3] T :=
  ⟨Cl.def3 n m k ho (fun A env _ => (hb A env).un) hcd hbind hnd h1 h2 h3 hnm hcn hco hgen hk⟩
end
end Mine

namespace Mine
open PySem PySem.W PyProof.Rows PySem.Spec



section
variable {Md : Model} {A : Around} {E : Value → Shared → Prop} {s : Shared}
end
section
variable {C : Cx} {W : Wd}
end
end Mine

namespace Mine
open PySem PySem.W PyProof.Rows PySem.Spec


section
variable {C : Cx} {ρ : Rho} {W : Wd}
theorem CL.min2 {a b : Int} : CL W 0 (.builtin "min") [tI a, tI b] (tI (min a b)) := ⟨fun C O s vs ok e hl B tv Q E q => by
  subst e
  cases tv with
  | cons p r =>
    cases p
    cases r with
    | cons p r =>
      cases r; cases p
      refine min_two_ints ok.hd fun h' tk hk => q h' tk _ (.of_ext hk) ?_
      by_cases c : b < a
      · rw [if_pos c, show min a b = b by omega]; exact .int _ _
      · rw [if_neg c, show min a b = a by omega]; exact .int _ _⟩
theorem CL.listL {ds : List PyData} (hz : ds.length ≤ sizeLine) : CL W 0 (.type "list") [dt (.list ds)] (dt (.list ds)) := ⟨fun C O s vs ok e hl B tv Q E q => by
  subst e
  cases tv with
  | cons p r =>
    cases r
    cases p with
    | list n li rl =>
      obtain ⟨o, ho, hc, k, hd⟩ := id li
      have hlen := rl.length
      rw [Array.length_toList] at hlen
      refine call_list_seq _ (.inl rfl) ho hc hd (fun h' c' hk hD => q h' s.toks _ (.of_ext hk) (.list (new_off B) ⟨_, hD, rfl, c', rfl⟩ (rl.mono (.ext hk)))) (by omega)⟩
theorem Itm.listRev {ds : List PyData} (hsz : ds.length ≤ sizeLine) : Itm C (dt (.list ds)) (slcT none none (some (-1))) (dt (.list ds.reverse)) := by
  intro O s o i ok B po pi
  obtain ⟨a, vl, vu, vs, rfl, na, hs, p1, p2, p3⟩ := pi
  cases po with
  | list n li rl =>
    refine ⟨⟨_, _, li.typeIs, list_getitem_lookup⟩, fun Q E q => ?_⟩
    have rv : ∀ {vs : List Value} {ds : List PyData} {O : Addr → Prop} {h : Heap}, RepL O h vs ds → RepL O h vs.reverse ds.reverse := by
      intro vs ds O h r
      induction ds generalizing vs with
      | nil => cases r; exact .nil
      | cons d t ih =>
        cases r with
        | cons p r => rw [List.reverse_cons, List.reverse_cons]; exact (ih r).append (.cons p .nil)
    refine wpAny_getItem_list_slice li hs p1 p2 p3 (by simp) (q _ _ _ (.push _) (.list (new_off B) ⟨_, Heap.get?_push_size _ rfl, rfl, _, rfl⟩ ?_)) ?_
    · rw [krv_pick]
      simpa using (rv rl).mono (.push _)
    · have := rl.length; rw [Array.length_toList] at this; omega
/-- a chain of two comparisons -/
theorem TR.chain {l m r : Expr} {o₁ o₂ : CmpOp} {p : Pos} {T₁ T₂ T₃ : Ty} {a b : Bool} (h₁ : EV C ρ l T₁) (h₂ : EV C ρ m T₂) (h₃ : a = true → EV C ρ r T₃) (c₁ : Cmp C o₁ T₁ T₂ (tB a)) (c₂ : a = true → Cmp C o₂ T₂ T₃ (tB b))
    (hm : lastMarks [o₁, o₂] [m, r] = false := by with_unfolding_all rfl) : TR C ρ (.Compare l [o₁, o₂] [m, r] p) (a && b) := ⟨fun Ob Mb ad s Q E S q =>
  isTrue_chain (h₁.un Ob Mb ad s S _ E fun h' tk x y px => test_link (h₂.un Ob Mb ad { s with heap := h', toks := tk } (S.step y) _ E fun h₂ tk₂ z y₂ pz =>
    c₁ (OO Ob ρ ad) { s with heap := h₂, toks := tk₂ } x z S.ok ((S.step y).step y₂).base (T₁.mono px ((S.step y).agO y₂)) pz _ E fun h₃' tk₃ v y₃ pv => by
      cases pv
      refine wpAny_truthy_bool ?_
      have S₃ := ((S.step y).step y₂).step y₃
      cases a with
      | false => exact q h₃' tk₃ (y.trans (y₂.trans y₃))
      | true =>
        exact test_last ((h₃ rfl).un Ob Mb ad { s with heap := h₃', toks := tk₃ } S₃ _ E fun h₄ tk₄ u y₄ pu =>
          c₂ rfl (OO Ob ρ ad) { s with heap := h₄, toks := tk₄ } z u S.ok (S₃.step y₄).base (T₂.mono pz (((S.step y).step y₂).agO (y₃.trans y₄))) pu _ E fun h₅ tk₅ v y₅ pv => by
            cases pv
            exact wpAny_truthy_bool (q h₅ tk₅ (y.trans (y₂.trans (y₃.trans (y₄.trans y₅)))))))) hm⟩
end
end Mine

namespace Mine
open PySem PySem.W PyProof.Rows PySem.Spec
theorem slice_mid {α : Type} (xs : List α) (a b : Nat) (ha : a ≤ xs.length) : sliceL (some (a : Int)) (some (b : Int)) xs = (xs.drop a).take (b - a) := by
  show (xs.drop (clampI xs.length a)).take (clampI xs.length b - clampI xs.length a) = _
  rw [clamp_nat, clamp_nat, Nat.min_eq_left ha]
  rcases Nat.le_total b xs.length with h | h
  · rw [Nat.min_eq_left h]
  · rw [Nat.min_eq_right h, List.take_of_length_le (by rw [List.length_drop]; exact Nat.le_refl _), List.take_of_length_le (by rw [List.length_drop]; omega)]
/-- numbers as data -/
abbrev jn (r : Nat) : PyData := .int (r : Int)
theorem injN : ∀ a b : Nat, jn a = jn b → a = b := fun a b h => by
  have : (a : Int) = b := by simpa [jn] using h
  omega
section
variable {W : Wd}
variable {C : Cx} {ρ : Rho}
theorem CL.lenM {α : Type} {f : α → PyData} {a : List α} (h : a.length ≤ sizeLine) : CL W 0 (.builtin "len") [dt (.list (a.map f))] (tI a.length) := by
  have := Cl.lenL (W := W) (ds := a.map f) (by rw [List.length_map]; exact h)
  rw [List.length_map] at this
  exact ⟨this⟩
theorem CL.lenS {l : List Nat} (h : l.length ≤ sizeLine) : CL W 0 (.builtin "len") [tS l] (tI l.length) := ⟨Cl.lenS h⟩
end
end Mine

namespace Mine
open PySem PySem.W PyProof.Rows PySem.Spec

/-- lists of what stands for data, compared -/
theorem eqv_map {α : Type} [DecidableEq α] {j : α → PyData} (hj : ∀ a b, PyData.eqv (j a) (j b) = decide (a = b)) : ∀ (as bs : List α), PyData.eqv (.list (as.map j)) (.list (bs.map j)) = decide (as = bs) := by
  have go : ∀ (as bs : List α), PyData.eqvAll (as.map j) (bs.map j) = decide (as = bs) := by
    intro as
    induction as with
    | nil => intro bs; cases bs <;> simp [PyData.eqvAll]
    | cons a r ih =>
      intro bs
      cases bs with
      | nil => simp [PyData.eqvAll]
      | cons b t =>
        show (PyData.eqv (j a) (j b) && PyData.eqvAll (r.map j) (t.map j)) = _
        rw [hj, ih, ← Bool.decide_and]
        simp
  exact go
section
variable {C : Cx} {ρ : Rho}



end
end Mine

namespace Mine
open PySem PySem.W PyProof.Rows PySem.Spec

section
variable {C : Cx} {ρ : Rho}


end
end Mine

namespace Mine
open PySem PySem.W PyProof.Rows PySem.Spec

/-- the table of a def's inner codes -/
def TabInv (P : Addr) (q : Str) (O : Addr → Prop) (h : Heap) : Prop := ∃ ps, h.get? P = some (tabObj ps) ∧ TriplesOk ps.toList ∧ ∀ pos v, codeAmong pos ps.toList = some v → ∃ c, v = .ref c ∧ ¬ O c ∧ c ≠ P ∧ h.CodeRec (.ref c) q
theorem CodeRec_at {h h' : Heap} {c : Addr} {q : Str} (x : h.CodeRec (.ref c) q) (k : ∀ o, h.get? c = some o → h'.get? c = some o) : h'.CodeRec (.ref c) q := by
  obtain ⟨c', o, vs, t, e, g, r⟩ := x
  cases e
  exact ⟨c, o, vs, t, rfl, k o g, r⟩
theorem CodeRec_ex {h : Heap} {c : Addr} {q : Str} (x : h.CodeRec (.ref c) q) : ∃ o vs, h.get? c = some o ∧ o.data = .fields vs := by
  obtain ⟨c', o, vs, t, e, g, r⟩ := x
  cases e
  exact ⟨o, vs, g, r.1⟩
def tabI (P : Addr) (q : Str) : HInv (fun a => a = P) where
  P := TabInv P q
  mono₀ := fun {O h h'} ⟨ps, e, t, k⟩ g => ⟨ps, g P _ (fun w => w.2 rfl) e, t, fun pos v hv => by
    obtain ⟨c, e1, n, np, r⟩ := k pos v hv
    exact ⟨c, e1, n, np, CodeRec_at r fun o => g c o fun w => n w.1⟩⟩
  re := fun {O O' h} g ⟨ps, e, t, k⟩ => ⟨ps, e, t, fun pos v hv => by
    obtain ⟨c, e1, n, np, r⟩ := k pos v hv
    obtain ⟨o, vs, eo, _⟩ := CodeRec_ex r
    exact ⟨c, e1, fun w => n (g c o eo w), np, r⟩⟩
  upL := fun {O h a items} ⟨ps, e, t, k⟩ pl => ⟨ps, e, t, fun pos v hv => by
    obtain ⟨c, e1, n, np, r⟩ := k pos v hv
    refine ⟨c, e1, fun w => w.elim n fun w => ?_, np, r⟩
    obtain ⟨o, vs, eo, d⟩ := CodeRec_ex r
    obtain ⟨_, ep⟩ := pl
    rw [w, ep] at eo; cases eo; cases d⟩

/-- what the law's world holds of that table -/
structure TabOk (W : Wd) (c P : Addr) (q : Str) : Prop where
  xP : ∀ a, W.X a ↔ a = P
  toI : ∀ O h, TabInv P q O h → W.I.P O h
  ofI : ∀ O h, W.I.P O h → TabInv P q O h
  cd : CodeHd W.g c P
  bm : ∃ mg, W.g.Ns mainGlobals mg ∧ ∃ bm ob, mg "__builtins__" = some (.ref bm) ∧ bm ≠ builtinsNs ∧ W.g.get? bm = some ob ∧ ob.cls = .type "module" ∧ ob.dict = some builtinsNs ∧ ob.data = .plain

theorem codeAmong_app {pos' : Pos} (a b : Int) (c : Value) : ∀ (l : List Value) (w : Value), TriplesOk l → codeAmong pos' (l ++ [rawInt a, rawInt b, c]) = some w → codeAmong pos' l = some w ∨ w = c
  | [], w, _, h => by
    have h : (if a == (pos'.line : Int) && b == (pos'.col : Int) then some c else codeAmong pos' []) = some w := h
    split at h
    · cases h; exact .inr rfl
    · cases h
  | .int x t :: .int y u :: z :: r, w, ok, h => by
    have h : (if x == (pos'.line : Int) && y == (pos'.col : Int) then some z else codeAmong pos' (r ++ [rawInt a, rawInt b, c])) = some w := h
    show (if x == (pos'.line : Int) && y == (pos'.col : Int) then some z else codeAmong pos' r) = some w ∨ _
    split at h
    · rename_i q; rw [if_pos q]; exact .inl h
    · rename_i q; rw [if_neg q]; exact codeAmong_app a b c r w ok h

section
variable {C : Cx} {ρ : Rho}
/-- a lambda -/
theorem lam_run {Ob Mb : Addr → Prop} {ad : Str → Addr} {s : Shared} {c P : Addr} {q : Str} {params : Arguments} {body : Expr} {scope : Scope} {pos : Pos} {clos : List (Str × Addr)} {Q : Value → Shared → Prop} {E : Value → Shared → Prop} (K : TabOk C.W c P q) (S : St C Ob Mb ρ ad s.heap)
    (hcode : C.env.code = .ref c) (hq : C.env.qual ++ "<lambda>" = q) (hcl : closureFor scope C.env = pure clos) (hdef : defaultsOf params C.env = ([], []))
    (k : ∀ h' tk f c' pm ctv, Step C.W (OO Ob ρ ad) s.heap h' → s.heap.get? f = none → h'.get? f = some (kla_obj "<lambda>" q params body scope clos pm c' ctv) → ¬ OO Ob ρ ad c' → c' ≠ P → h'.CodeRec (.ref c') q → Q (.ref f) { s with heap := h', toks := tk }) :
    wpAny C.M C.A (eval (.Lambda params body scope pos) C.env) Q E s := by
  refine kla_eval hdef ?_
  rw [hq]
  obtain ⟨ps, hP, tr, tb⟩ := K.ofI _ _ S.base.inv
  obtain ⟨mg, hg, bm, ob, b1, b2, b3, b4, b5, b6⟩ := K.bm
  have hgs := hg.keeps S.base.keep
  have hgP : mainGlobals ≠ P := fun z => by
    obtain ⟨o, es, ep, e, hd, _⟩ := hgs
    rw [z, hP] at e; cases e; cases hd
  have hbP : bm ≠ P := fun z => by
    have e := S.base.keep _ _ b3
    rw [z, hP] at e; cases e; cases b4
  have hbG : bm ≠ mainGlobals := fun z => by
    obtain ⟨o, es, ep, e, hd, _⟩ := hg
    rw [z, e] at b3; cases b3; rw [hd] at b6; cases b6
  have BA : s.heap.BuiltinsAt mg P := ⟨bm, ob, b1, b2, hbG, hbP, S.base.keep _ _ b3, b4, b5, b6⟩
  cases hf : codeAmong pos ps.toList with
  | none =>
    refine kla_makeFunction (mg := mg) hcl S.ok.gl hgs hcode (K.cd.keeps S.base.keep) hP tr hf hgP BA fun c' ctv h' tk hx hge hlt hrec htb => ?_
    have nc : s.heap.get? c' = none := fresh_none hge
    have cP : c' ≠ P := fun z => by rw [z, hP] at nc; cases nc
    have nO : ¬ OO Ob ρ ad c' := fun w => by obtain ⟨o, e⟩ := S.base.ex _ w; rw [nc] at e; cases e
    have hfn : s.heap.get? h'.objs.size = none := fresh_none (Nat.le_of_lt (Nat.lt_of_le_of_lt hge hlt))
    refine k _ tk h'.objs.size c' _ ctv ⟨⟨fun b o e => ?_, fun b o n e => ?_⟩, fun i => ?_⟩ hfn (Heap.get?_push_size _ rfl) nO cP (hrec.push _)
    · by_cases z : b = P
      · exact ⟨_, z ▸ Heap.get?_push_of_some _ htb⟩
      · exact ⟨o, Heap.get?_push_of_some _ (hx b o z e)⟩
    · exact Heap.get?_push_of_some _ (hx b o (fun z => n ((K.xP b).mpr z)) e)
    · obtain ⟨ps', hP', tr', tb'⟩ := K.ofI _ _ i
      rw [hP] at hP'
      have e0 : ps' = ps := by cases hP'; rfl
      subst e0
      have el : (ps' ++ #[rawInt pos.line, rawInt pos.col, .ref c']).toList = ps'.toList ++ [rawInt pos.line, rawInt pos.col, .ref c'] := by simp
      refine K.toI _ _ ⟨_, Heap.get?_push_of_some _ htb, by rw [el]; exact TriplesOk_snoc _ _ _ _ tr, fun pos' v hv => ?_⟩
      rw [el] at hv
      rcases codeAmong_app _ _ _ _ _ tr hv with hv | hv
      · obtain ⟨d, e1, n1, n2, r⟩ := tb' pos' v hv
        exact ⟨d, e1, n1, n2, CodeRec_at r fun o e => Heap.get?_push_of_some _ (hx d o n2 e)⟩
      · exact ⟨c', hv, nO, cP, hrec.push _⟩
  | some cv =>
    obtain ⟨c', rfl, nO, cP, rc⟩ := tb pos cv hf
    refine kla_makeFunctionHit (mg := mg) hcl S.ok.gl hgs hcode (K.cd.keeps S.base.keep) hP tr hf BA fun ctv h' tk hk hsz => ?_
    have hfn : s.heap.get? h'.objs.size = none := fresh_none hsz
    exact k _ tk h'.objs.size c' _ ctv (.of_ext fun b o e => Heap.get?_push_of_some _ (hk b o e)) hfn (Heap.get?_push_size _ rfl) nO cP (CodeRec_at rc fun o e => Heap.get?_push_of_some _ (hk c' o e))
end

section
variable {prog : Program} {w : World} {A : Around} {E : Value → Shared → Prop} {s : Shared} {K : Frag} {x C dx : Addr} {ox : Obj} {es : List DictEntry} {n : Nat} {name : Str} {v : Value}
/-- an instance's attribute is stored -/
theorem osa_raw {tk : Tok} {R : Result → Shared → Prop} (X : K.In s.heap) (I : InstAt s.heap x ox C (some (dictOf es n))) (hd : ox.dict = some dx)
    (hp : plainOver K C = true) (ht : takerIn K C name = some none) (hh : hasDictIn K C = true) (hl : (getL name es).isSome = true) (hz : (putL name (PyData.keyHash w.params name) (.str name s.toks) v es).length ≤ 1000)
    (h : ∀ h', Heap.SameBut dx s.heap h' → h'.get? dx = some (dictOf (putL name (PyData.keyHash w.params name) (.str name s.toks) v es) (putN name es n)) → R (.ok (.ret .none)) { s with heap := h', toks := s.toks + 1 }) :
    codeAny (model prog w) A (.call (.builtin "object.__setattr__") ⟨[.ref x, .str name tk, v], []⟩) R s := by
  refine osa_open X I hp ht fun b => ?_
  obtain ⟨cd, hc, hd'⟩ := any_some hh
  obtain ⟨hx, hcl, hn, hdx⟩ := I
  obtain ⟨oc, odi, oda, osl⟩ := ox
  dsimp only at hcl hd hdx
  subst hcl hd
  have D : s.heap.get? dx = some (dictOf es n) := hdx
  have D' : (s.heap.update dx (Obj.putName name (PyData.keyHash w.params name) (.str name s.toks) v)).get? dx = some (dictOf (putL name (PyData.keyHash w.params name) (.str name s.toks) v es) (putN name es n)) := by
    rw [Heap.get?_update_self _ D (by rw [putName_dict]; rfl), putName_dict]
  refine wpAny_bind (wpAny_pure (wpAny_bind (wpAny_bind (wpAny_loadPart hx (wpAny_bind ((looks_clsIn X hc).here ?_))))))
  rw [hd']
  refine wpAny_pure (a := some dx) (wpAny_bind (wpAny_pure (wpAny_bind ?_)))
  unfold nsSet
  refine wpAny_bind (wpAny_bind (wpAny_askSetting (wpAny_pure (wpAny_bind (wpAny_mkText (wpAny_bind (wpAny_loadPart D ?_)))))))
  dsimp only
  have c : (!es.toArray.any (·.key.isStr name) && es.toArray.any (·.refKey)) = false := by
    unfold getL at hl
    simp only [List.any_toArray]
    split at hl
    · rename_i en he
      rw [List.any_eq_true.mpr ⟨en, List.mem_of_find?_eq_some he, List.find?_some he⟩]; rfl
    · split at hl
      · cases hl
      · rename_i z; rw [Bool.not_eq_true] at z; rw [z, Bool.and_false]
  rw [aRefKeyMayBeTheName_at, c]
  refine wpAny_updatePart D ?_
  refine wpAny_bind (wpAny_lookBehind D' (pastItsLine_dict (by rw [List.size_toArray, sizeLine_eq]; omega)) ?_)
  exact wpAny_pure (h _ (Heap.SameBut.update ..) D')
theorem set_raw {Q : Unit → Shared → Prop} (X : K.In s.heap) (I : InstAt s.heap x ox C (some (dictOf es n))) (hd : ox.dict = some dx)
    (hs : findIn K (.ref C) "__setattr__" = some (some (.builtin "object.__setattr__"))) (hp : plainOver K C = true) (ht : takerIn K C name = some none) (hh : hasDictIn K C = true) (hl : (getL name es).isSome = true) (hz : (putL name (PyData.keyHash w.params name) (.str name (s.toks + 1)) v es).length ≤ 1000)
    (h : ∀ h', Heap.SameBut dx s.heap h' → h'.get? dx = some (dictOf (putL name (PyData.keyHash w.params name) (.str name (s.toks + 1)) v es) (putN name es n)) → Q () { s with heap := h', toks := s.toks + 2 }) :
    wpAny (model prog w) A (setAttr (.ref x) name v) Q E s :=
  set_plain X I hs (osa_raw (s := { s with toks := s.toks + 1 }) X I hd hp ht hh hl hz h)
end
end Mine

namespace Mine
open PySem PySem.W PyProof.Rows PySem.Spec

/-- what the written part holds of the class and its __init__ -/
structure ClsOk (K : Frag) (C fI : Addr) : Prop where
  mks : makesIn K C = true
  ini : findIn K (.ref C) "__init__" = some (some (.ref fI))
  fn : typeIn K (.ref fI) = some (.type "function")
  sa : findIn K (.ref C) "__setattr__" = some (some (.builtin "object.__setattr__"))
  ov : plainOver K C = true
  hd : hasDictIn K C = true
  tk : ∀ n ∈ ([("editwin" : Str), "get", "compare"] : List Str), takerIn K C n = some none
  pg : ∀ n : Str, plainGet K C n = true
  fi : ∀ n ∈ ([("get" : Str), "compare"] : List Str), findIn K (.ref C) n = some none
  it : ∃ oc od osl name qual params scope dV kV doc pm an cdv ct p1 p2 p3 p4, K.lookup fI = some ⟨oc, od, .func (fnOf name qual params [.Assign [.Attribute (.Name "self" p1) "editwin" p2] (.Name "editwin" p3) p4] scope dV kV doc pm an cdv ct), osl⟩ ∧ codeIn K cdv qual = true ∧
    (∀ (s : Shared) (a b : Value), BindsTo s (fnOf name qual params [.Assign [.Attribute (.Name "self" p1) "editwin" p2] (.Name "editwin" p3) p4] scope dV kV doc pm an cdv ct) ⟨[a, b], []⟩ [("self", a), ("editwin", b)]) ∧
    scope.names.lookup ("self" : Str) = some NameKind.local ∧ scope.names.lookup ("editwin" : Str) = some NameKind.local ∧ (∀ x ∈ scope.names, x.2 ≠ .cell) ∧ scope.isCoroutine = false ∧ scope.isGenerator = false ∧ scope.kind = .function

section
variable {prog : Program} {w : World} {A : Around} {s : Shared} {K : Frag} {C fI : Addr} {R : Result → Shared → Prop}
theorem new_raw (Y : ClsOk K C fI) (X : K.In s.heap) (nl : s.heap.NoLimit) (hroom : A.depth + 2 < recursionLimit) (arg : Value)
    (h : ∀ h' tk x dx hs t, (∀ b o, s.heap.get? b = some o → h'.get? b = some o) → s.heap.get? x = none → s.heap.get? dx = none → x ≠ dx → h'.get? x = some (instObj C dx) → h'.get? dx = some (dictOf [⟨hs, .str "editwin" t, arg⟩] 1) → R (.ok (.ret (.ref x))) { s with heap := h', toks := tk }) :
    codeAny (model prog w) A (.call (.ref C) ⟨[arg], []⟩) R s := by
  obtain ⟨oc, od, osl, name, qual, params, scope, dV, kV, doc, pm, an, cdv, ct, p1, p2, p3, p4, ho, hcd, hb, l1, l2, nc, hco, hgen, hk⟩ := Y.it
  obtain ⟨hh, g, d, t, os⟩ := s
  refine make_core (makes_of X Y.mks) (looks_findIn X Y.ini) (fun self => bind_fn X self Y.fn) (.inl rfl) ?_
  have k1 : ∀ b o, hh.get? b = some o → ((hh.push emptyDict).push (instObj C hh.objs.size)).get? b = some o := fun b o e => Heap.get?_push_of_some _ (Heap.get?_push_of_some _ e)
  have X1 := X.keeps k1
  have hx : ((hh.push emptyDict).push (instObj C hh.objs.size)).get? (hh.objs.size + 1) = some (instObj C hh.objs.size) := by heap_get
  have hdx : ((hh.push emptyDict).push (instObj C hh.objs.size)).get? hh.objs.size = some emptyDict := by heap_get
  have hsz : ((hh.push emptyDict).push (instObj C hh.objs.size)).objs.size = hh.objs.size + 2 := by rw [Heap.size_push, Heap.size_push]
  generalize (hh.push emptyDict).push (instObj C hh.objs.size) = h1 at *
  refine codeAny_call_function (by show A.depth + (Code.builtin "type.__call__" _).weight < _; rw [show (Code.builtin "type.__call__" ⟨[Value.ref C, arg], []⟩).weight = 1 by kernel_rfl]; omega) (X1 _ _ ho) rfl hco hgen rfl (codeRec_of X1 hcd) (hb _ _ _ _ _ _ _ ?_)
  refine wpAny_newFunctionEnv nc (fun y hy => ?_) (fun h2 ns sb => ⟨?_, codeAny_func ?_⟩) hk
  · simp only [List.mem_cons, List.not_mem_nil, or_false] at hy
    rcases hy with rfl | rfl
    · exact l1
    · exact l2
  · exact (nl.keeps k1).keeps fun b o e => (sb.2 b (Nat.ne_of_lt (Heap.lt_size e))).trans (Heap.get?_push_of_some _ e)
  · have k2 : ∀ b o, h1.get? b = some o → h2.get? b = some o := fun b o e => (sb.2 b (Nat.ne_of_lt (Heap.lt_size e))).trans (Heap.get?_push_of_some _ e)
    have ns : h2.Ns h1.objs.size (fun y => ([((("self" : Str)), Value.ref (hh.objs.size + 1)), ("editwin", arg)] : List (Str × Value)).reverse.lookup y) := ns
    generalize henv : newEnv scope h1.objs.size (fnOf name qual params [.Assign [.Attribute (.Name "self" p1) "editwin" p2] (.Name "editwin" p3) p4] scope dV kV doc pm an cdv ct).globals (fnOf name qual params [.Assign [.Attribute (.Name "self" p1) "editwin" p2] (.Name "editwin" p3) p4] scope dV kV doc pm an cdv ct).closure ((fnOf name qual params [.Assign [.Attribute (.Name "self" p1) "editwin" p2] (.Name "editwin" p3) p4] scope dV kV doc pm an cdv ct).qualname ++ ".<locals>.") (some fI) (fnOf name qual params [.Assign [.Attribute (.Name "self" p1) "editwin" p2] (.Name "editwin" p3) p4] scope dV kV doc pm an cdv ct).code none (fnOf name qual params [.Assign [.Attribute (.Name "self" p1) "editwin" p2] (.Name "editwin" p3) p4] scope dV kV doc pm an cdv ct).builtins = env
    have hke : env.scope.kind = .function := by rw [← henv]; exact hk
    have hL : env.locals = h1.objs.size := by rw [← henv]; rfl
    have hk1 : env.kindOf "self" = some .local := by rw [← henv]; exact l1
    have hk2 : env.kindOf "editwin" = some .local := by rw [← henv]; exact l2
    rw [← hL] at ns
    refine wpAny_execs_cons (plainObj_wpAny_Assign_Attribute (wpAny_Name (wpAny_loadName_local (v := arg) hke hk2 ns (by rfl) ?_)) rfl)
    refine wpAny_Name (wpAny_loadName_local (v := .ref (hh.objs.size + 1)) hke hk1 ns (by rfl) ?_)
    refine set_raw (dx := hh.objs.size) (es := []) (n := 0) (ox := instObj C hh.objs.size) (X1.keeps k2) ⟨k2 _ _ hx, rfl, rfl, k2 _ _ hdx⟩ rfl Y.sa Y.ov (Y.tk _ (.head _)) Y.hd (by rfl) (by simp [putL]) fun h3 sb3 e3 => ?_
    refine wpAny_execs_nil ⟨rfl, ?_⟩
    refine h h3 _ (hh.objs.size + 1) hh.objs.size _ _ (fun b o e => (sb3.2 b (Nat.ne_of_lt (Heap.lt_size e))).trans (k2 _ _ (k1 _ _ e))) (fresh_none (Nat.le_succ _)) (fresh_none (Nat.le_refl _)) (Nat.succ_ne_self _) ?_ e3
    exact (sb3.2 _ (Nat.succ_ne_self _)).trans (k2 _ _ hx)
end
set_option maxHeartbeats 1000000 in
theorem Cl.defG {W : Wd} {lv : Nat} {f : Addr} {oc : Value} {od : Option Addr} {osl : Array (Option Value)} {name qual : Str} {params : Arguments} {body : List Stmt} {scope : Scope} {dV kV doc pm cdv ct : Value} {an : Option Addr} {ps : List (Str × Ty)} {T : Ty}
    (ho : W.K.lookup f = some ⟨oc, od, .func (fnOf name qual params body scope dV kV doc pm an cdv ct), osl⟩) (hcd : codeIn W.K cdv qual = true)
    (hbind : ∀ (s : Shared) (vs : List Value), vs.length = ps.length → BindsTo s (fnOf name qual params body scope dV kV doc pm an cdv ct) ⟨vs, []⟩ ((ps.map (·.1)).zip vs))
    (hnd : (scope.names.map (·.1)).Nodup) (hpd : (ps.map (·.1)).Nodup) (hkind : (ps.all fun y => scope.names.lookup y.1 == some .local || scope.names.lookup y.1 == some .cell) = true) (hcn : ((cellsFrom 0 scope.names []).map (·.1)).Nodup)
    (hb : ∀ (A : Around) (env : Env), DefAt W f qual scope cdv env → ∀ (O Ob Mb : Addr → Prop) (s : Shared) (Q : Flow → Shared → Prop) (E : Value → Shared → Prop), St ⟨W, A, env, lv, scope.names⟩ Ob Mb (mk0 ps scope.names) (fun _ => 0) s.heap → (∀ a, O a → Ob a) → (∀ n c, (n, c) ∈ env.cells → ¬ O c) →
      (∀ v h' tk, Base W Ob h' → T.P O h' v → Agree Mb s.heap h' → Q (.ret v) { s with heap := h', toks := tk }) → wpAny (model W.prog W.w) A (execs body env) Q E s)
    (hco : scope.isCoroutine = false := by rfl) (hgen : scope.isGenerator = false := by rfl) (hk : scope.kind = .function := by rfl) : Cl W (lv + 1) (.ref f) (ps.map (·.2)) T := by
  intro C₀ O s vs ok eW hlv B tv Q E q
  subst eW
  have X := ok.w.kin.keeps B.keep
  obtain ⟨pr, loose, mg, mb, TT⟩ := ok.w.top
  have hlen : vs.length = ps.length := by rw [tv.length, List.length_map]
  refine wpAny_call (codeAny_call_function (by have := ok.dep; omega) (X _ _ ho) rfl hco hgen rfl (codeRec_of X hcd) (hbind s vs hlen _ _ _ _ ?_))
  have hkind' : ∀ n, ∀ x ∈ (ps.map (·.1)).zip vs, scope.names.lookup x.1 = some .local ∨ (scope.names.lookup x.1 = some .cell ∧ ((cellsFrom n scope.names []).lookup x.1).isSome = true) := by
    refine kindsX ?_
    refine List.all_eq_true.mpr fun y hy => ?_
    have hy1 : y.1 ∈ ps.map (·.1) := (List.of_mem_zip hy).1
    obtain ⟨p, hp, e⟩ := List.mem_map.mp hy1
    have := List.all_eq_true.mp hkind p hp
    rw [e] at this
    exact this
  refine wpAny_newFunctionEnv_cells hk (hkind' _) ?_
  intro env henv s₁ Ic
  have hkO : ∀ x, env.kindOf x = scope.names.lookup x := fun x => by rw [henv]; rfl
  obtain ⟨⟨⟨h₁, tk₁, e₁⟩, ns, keep, frs⟩, cell, apart, above⟩ := Ic
  have hL : env.locals = s.heap.objs.size := by rw [henv]; rfl
  have hcells : env.cells = cellsFrom (s.heap.objs.size + 1) scope.names [] := by rw [henv]; rfl
  have hcnd : (env.cells.map (·.1)).Nodup := by rw [hcells, cellsFrom_keys (m := 0) (b := []) rfl]; exact hcn
  subst e₁
  have keep : ∀ b o, s.heap.get? b = some o → h₁.get? b = some o := keep
  have ns : h₁.Ns env.locals _ := ns
  have cell : ∀ n c, env.cells.lookup n = some c → h₁.IsCell c _ := cell
  have nL : s.heap.get? env.locals = none := fresh_none (by rw [hL]; exact Nat.le_refl _)
  have nC : ∀ n c, (n, c) ∈ env.cells → s.heap.get? c = none := fun n c m => fresh_none (Nat.le_of_lt (by have := above n c m; rw [hL] at this; exact this))
  have cellM : ∀ n c, (n, c) ∈ env.cells → h₁.IsCell c (bindC env.kindOf ((ps.map (·.1)).zip vs) (fun _ => none) n) := fun n c m => cell n c (lookup_of_mem hcnd m)
  refine ⟨(TT.nolimit.keeps B.keep).keeps keep, codeAny_func ?_⟩
  have ok' : Cx.Ok ⟨C₀.W, C₀.A.deeper env, env, lv, scope.names⟩ := by
    refine ⟨ok.w, ok.hd, ?_, ?_, by show env.scope.kind = _; rw [henv]; exact hk, by show env.globals = _; rw [henv]; rfl, by show env.builtins = _; rw [henv]; rfl, by show env.scope.names = _; rw [henv]; rfl⟩
    · have := ok.dep
      show C₀.A.depth + 1 + lv < recursionLimit
      omega
    · have := ok.un
      show C₀.A.units + 3 + 100 * lv + 200 < cLine
      omega
  let Ob : Addr → Prop := fun a => O a ∨ a = env.locals ∨ ∃ n, (n, a) ∈ env.cells
  let Mb : Addr → Prop := fun a => C₀.W.X a ∨ a = env.locals ∨ ∃ n, (n, a) ∈ env.cells
  have newO : ∀ a o, s.heap.get? a = some o → Ob a → O a := fun a o e w => by
    rcases w with w | w | ⟨n, w⟩
    · exact w
    · rw [w, nL] at e; cases e
    · rw [nC n a w] at e; cases e
  have xO : ∀ a, C₀.W.X a → O a := B.sub
  have xno : ∀ a, s.heap.get? a = none → ¬ C₀.W.X a := fun a e w => by
    obtain ⟨o, e'⟩ := B.ex a (xO a w); rw [e] at e'; cases e'
  have oo : ∀ a, OO Ob (mk0 ps scope.names) (fun _ => 0) a → Ob a := fun a w => w.elim id fun ⟨x, ds, l, _⟩ => absurd l (mk0_own hnd)
  have gnone : ∀ a, s.heap.get? a = none → C₀.W.g.get? a = none := fun a e => by
    cases e' : C₀.W.g.get? a with
    | none => rfl
    | some o => have := B.keep a o e'; rw [e] at this; cases this
  have S : St ⟨C₀.W, C₀.A.deeper env, env, lv, scope.names⟩ Ob Mb (mk0 ps scope.names) (fun _ => 0) h₁ := by
    refine ⟨ok', ?_, fun a w => .inl w, fun a w => w.elim (fun w => .inl (xO a w)) fun w => .inr w, .inr (.inl rfl), xno _ nL, fun n c m => ⟨.inr (.inr ⟨n, m⟩), xno _ (nC n c m)⟩, fun n c m _ => .inr (.inr ⟨n, m⟩), apart, ⟨_, ns⟩, ?_, ?_⟩
    · refine Base.re (O := Ob) ⟨fun b o e => keep b o (B.keep b o e), fun a w => .inl (xO a w), ?_, ?_, ?_⟩ oo fun a w => .inl (.inl (xO a w))
      · intro a w
        rcases w with w | w | ⟨n, w⟩
        · exact B.old a w
        · exact gnone a (w ▸ nL)
        · exact gnone a (nC n a w)
      · intro a w
        rcases w with w | w | ⟨n, w⟩
        · obtain ⟨o, e⟩ := B.ex a w; exact ⟨o, keep a o e⟩
        · obtain ⟨o, _, _, e, _⟩ := ns; exact ⟨o, w ▸ e⟩
        · obtain ⟨o, e, _⟩ := cellM n a w; exact ⟨o, e⟩
      · exact C₀.W.I.mono (C₀.W.I.re newO B.inv) (.ext keep)
    · intro x b e
      obtain ⟨hkx, rfl⟩ := mk0_lookup hnd e
      have nd2 : (((ps.map (·.1)).zip vs).map (·.1)).Nodup := by
        rw [List.map_fst_zip (by rw [List.length_map, hlen]; exact Nat.le_refl _)]
        exact hpd
      have loc : ∀ v, (ps.lookup x = none → True) → (∀ w, v = some w → (x, w) ∈ (ps.map (·.1)).zip vs) → True := fun _ _ _ => trivial
      cases hp : ps.lookup x with
      | some U =>
        obtain ⟨v, m, pv⟩ := tv.zip hp
        have pv' : U.P (OO Ob (mk0 ps scope.names) (fun _ => 0)) h₁ v := U.tr pv (fun a o e w => newO a o e (oo a w)) (.ext keep)
        rcases hkx with hkx | hkx
        · have l := Loc.loc (env := env) (x := x) (by rw [hkO]; exact hkx) ns
          rw [bindL_mem (by rw [hkO]; exact hkx) nd2 m] at l
          exact ⟨v, l, pv'⟩
        · obtain ⟨c, hc⟩ := Option.isSome_iff_exists.mp (cellsFrom_some scope.names (s.heap.objs.size + 1) [] (.inl hkx))
          rw [← hcells] at hc
          have l := Loc.cel (env := env) (x := x) (by rw [hkO]; exact hkx) hc (cell x c hc)
          rw [bindC_mem (by rw [hkO, hkx]; intro z; cases z) nd2 m] at l
          exact ⟨v, l, pv'⟩
      | none =>
        rcases hkx with hkx | hkx
        · exact ⟨_, Loc.loc (env := env) (x := x) (by rw [hkO]; exact hkx) ns⟩
        · obtain ⟨c, hc⟩ := Option.isSome_iff_exists.mp (cellsFrom_some scope.names (s.heap.objs.size + 1) [] (.inl hkx))
          rw [← hcells] at hc
          exact ⟨_, Loc.cel (env := env) (x := x) (by rw [hkO]; exact hkx) hc (cell x c hc)⟩
    · intro x y ds es e _ _
      exact absurd e (mk0_own hnd)
  have D : DefAt C₀.W f qual scope cdv env := by
    refine ⟨by rw [henv]; rfl, by rw [henv]; rfl, by rw [henv]; rfl, by rw [henv]; rfl, by rw [henv]; rfl, fun x hx => ?_⟩
    obtain ⟨c, hc⟩ := Option.isSome_iff_exists.mp (cellsFrom_some scope.names (s.heap.objs.size + 1) [] (.inl hx))
    exact ⟨c, by rw [hcells]; exact hc⟩
  have nOc : ∀ n c, (n, c) ∈ env.cells → ¬ O c := fun n c m w => by obtain ⟨o, e⟩ := B.ex c w; rw [nC n c m] at e; cases e
  refine hb (C₀.A.deeper env) env D O Ob Mb { s with heap := h₁, toks := tk₁ } _ _ S (fun a w => .inl w) nOc fun v h₂ tk₂ B₂ pv g => ?_
  refine q h₂ tk₂ v ⟨⟨fun b o e => g.1 b o (keep b o e), fun b o n e => g.2 b o (fun w => ?_) (keep b o e)⟩, fun _ => C₀.W.I.re (fun a _ _ w => .inl w) B₂.inv⟩ pv
  rcases w with w | w | ⟨m, w⟩
  · exact n w
  · rw [w, nL] at e; cases e
  · rw [nC m b w] at e; cases e
end Mine

namespace Mine
open PySem PySem.W PyProof.Rows PySem.Spec

structure LamS where
  p : Arguments
  b : Expr
  sc : Scope
/-- a lambda's function, its cell -/
def LamAt (O : Addr → Prop) (h : Heap) (q : Str) (L : LamS) (f cR : Addr) : Prop := ∃ c pm ctv, ¬ O f ∧ ¬ O c ∧ h.get? f = some (kla_obj "<lambda>" q L.p L.b L.sc [("rows", cR)] pm c ctv) ∧ h.CodeRec (.ref c) q
theorem LamAt.mono₀ {O : Addr → Prop} {h h' : Heap} {q : Str} {L : LamS} {f cR : Addr} (g : ∀ b o, ¬ O b → h.get? b = some o → h'.get? b = some o) : LamAt O h q L f cR → LamAt O h' q L f cR :=
  fun ⟨c, pm, ctv, n1, n2, e, r⟩ => ⟨c, pm, ctv, n1, n2, g _ _ n1 e, CodeRec_at r fun o => g _ o n2⟩
theorem LamAt.re {O O' : Addr → Prop} {h : Heap} {q : Str} {L : LamS} {f cR : Addr} (g : ∀ a o, h.get? a = some o → O' a → O a) : LamAt O h q L f cR → LamAt O' h q L f cR :=
  fun ⟨c, pm, ctv, n1, n2, e, r⟩ => ⟨c, pm, ctv, fun w => n1 (g _ _ e w), fun w => n2 (by obtain ⟨o, vs, eo, _⟩ := CodeRec_ex r; exact g _ o eo w), e, r⟩
/-- a page -/
def PageP (W : Wd) (Cc : Addr) (q : Str) (L1 L2 : LamS) (rows : List (List Nat)) (O : Addr → Prop) (h : Heap) (v : Value) : Prop :=
  ∃ a d es n f1 f2 cR vr, v = .ref a ∧ ¬ O a ∧ ¬ O d ∧ ¬ O cR ∧ W.g.get? cR = none ∧ h.get? a = some (instObj Cc d) ∧ h.get? d = some (dictOf es n) ∧ getL "get" es = some (some (.ref f1)) ∧ getL "compare" es = some (some (.ref f2)) ∧
    LamAt O h q L1 f1 cR ∧ LamAt O h q L2 f2 cR ∧ h.IsCell cR (some vr) ∧ Rep O h vr (.list (rows.map sd))
def pageT (W : Wd) (Cc : Addr) (q : Str) (L1 L2 : LamS) (rows : List (List Nat)) : Ty where
  P := PageP W Cc q L1 L2 rows
  mono₀ := fun ⟨a, d, es, n, f1, f2, cR, vr, e, na, nd, nc, ng, ha, hd, g1, g2, l1, l2, hc, hr⟩ g => ⟨a, d, es, n, f1, f2, cR, vr, e, na, nd, nc, ng, g _ _ na ha, g _ _ nd hd, g1, g2, l1.mono₀ g, l2.mono₀ g, (let ⟨o, eo, r⟩ := hc; ⟨o, g _ o nc eo, r⟩), hr.mono₀ g⟩
  re := fun g ⟨a, d, es, n, f1, f2, cR, vr, e, na, nd, nc, ng, ha, hd, g1, g2, l1, l2, hc, hr⟩ => ⟨a, d, es, n, f1, f2, cR, vr, e, fun w => na (g _ _ ha w), fun w => nd (g _ _ hd w), fun w => nc (by obtain ⟨o, eo, r⟩ := hc; exact g _ o eo w), ng, ha, hd, g1, g2, l1.re g, l2.re g, hc, hr.re g⟩

section
variable {C : Cx} {ρ : Rho}
/-- more places that may change: new ones -/
theorem St.addS {Ob Mb : Addr → Prop} {ad : Str → Addr} {h h' : Heap} (S : St C Ob Mb ρ ad h) (D : Addr → Prop) (hn : ∀ a, D a → h.get? a = none) (hl : ∀ a, D a → ∃ o, h'.get? a = some o) (k : ∀ b o, h.get? b = some o → h'.get? b = some o) : St C (fun b => Ob b ∨ D b) Mb ρ ad h' := by
  have y : Step C.W (OO Ob ρ ad) h h' := .of_ext k
  have S' := S.step y
  have up : ∀ b, OO Ob ρ ad b → OO (fun b => Ob b ∨ D b) ρ ad b := fun b q => q.imp (fun q => .inl q) id
  have dn : ∀ b o, h.get? b = some o → OO (fun b => Ob b ∨ D b) ρ ad b → OO Ob ρ ad b := fun b o e q => q.elim (fun q => q.elim (fun q => .inl q) fun q => by rw [hn b q] at e; cases e) fun q => .inr q
  have ag := S.agO y
  refine { S' with base := ?_, mo := fun b q => .inl (S.mo b q), oc := fun n c q => ⟨.inl (S.oc n c q).1, (S.oc n c q).2⟩, vars := ?_ }
  · refine ⟨S'.base.keep, fun b q => up b (S'.base.sub b q), ?_, ?_, C.W.I.mono (C.W.I.re dn S.base.inv) (.ext k)⟩
    · intro b q
      rcases q with (q | q) | q
      · exact S.base.old b (.inl q)
      · cases e : C.W.g.get? b with
        | none => rfl
        | some o => have := S.base.keep b o e; rw [hn b q] at this; cases this
      · exact S.base.old b (.inr q)
    · intro b q
      rcases q with (q | q) | q
      · exact S'.base.ex b (.inl q)
      · exact hl b q
      · exact S'.base.ex b (.inr q)
  · intro x b e
    have H := S.vars x b e
    cases b with
    | val T => obtain ⟨v, l, p⟩ := H; exact ⟨v, l.step S y.ag, T.tr p dn ag⟩
    | own ds =>
      obtain ⟨it, l, n, i, r⟩ := H
      refine ⟨it, l.step S y.ag, fun q => q.elim n fun q => ?_, PL_agree i y.ag (S.xown e), r.tr dn ag⟩
      obtain ⟨_, eo⟩ := i
      rw [hn _ q] at eo; cases eo
    | free => obtain ⟨v, l⟩ := H; exact ⟨v, l.step S y.ag⟩
    | ro T => obtain ⟨v, c, k, lc, ic, p⟩ := H; exact ⟨v, c, k, lc, IsCell_agree ic y.ag (S.xc lc), T.tr p dn ag⟩
end

theorem getL1 (h : Int) (t : Tok) (v : Value) : getL "get" [⟨h, .str "editwin" t, v⟩] = some none := by
  unfold getL; simp only [List.find?_cons, List.any_cons]; rfl
theorem putL1 (h h' : Int) (t t' : Tok) (v w : Value) : putL "get" h' (.str "get" t') w [⟨h, .str "editwin" t, v⟩] = [⟨h, .str "editwin" t, v⟩, ⟨h', .str "get" t', w⟩] := by kernel_rfl
theorem getL2 (h h' : Int) (t t' : Tok) (v w : Value) : getL "compare" [⟨h, .str "editwin" t, v⟩, ⟨h', .str "get" t', w⟩] = some none := by kernel_rfl
theorem putL2 (h h' h2 : Int) (t t' t2 : Tok) (v w u : Value) : putL "compare" h2 (.str "compare" t2) u [⟨h, .str "editwin" t, v⟩, ⟨h', .str "get" t', w⟩] = [⟨h, .str "editwin" t, v⟩, ⟨h', .str "get" t', w⟩, ⟨h2, .str "compare" t2, u⟩] := by kernel_rfl
theorem getL3 (h h' h2 : Int) (t t' t2 : Tok) (v w u : Value) : getL "get" [⟨h, .str "editwin" t, v⟩, ⟨h', .str "get" t', w⟩, ⟨h2, .str "compare" t2, u⟩] = some (some w) := by kernel_rfl
theorem getL4 (h h' h2 : Int) (t t' t2 : Tok) (v w u : Value) : getL "compare" [⟨h, .str "editwin" t, v⟩, ⟨h', .str "get" t', w⟩, ⟨h2, .str "compare" t2, u⟩] = some (some u) := by kernel_rfl

def pgNames : List (Str × NameKind) := [("rows", .cell), ("page", .local), ("Rstrip", .globalImplicit)]
abbrev rPg (b : Bnd) (rows : List (List Nat)) : Rho := [("rows", .val (tSs rows)), ("page", b)]
/-- what an attribute's store leaves -/
theorem St.attr {C : Cx} {ρ : Rho} {Ob Mb : Addr → Prop} {ad : Str → Addr} {h h' : Heap} {d : Addr} {o' : Obj} (S : St C Ob Mb ρ ad h) (hO : Ob d) (nM : ¬ Mb d) (nc : ∀ n c, (n, c) ∈ C.env.cells → c ≠ d) (sb : Heap.SameBut d h h') (e : h'.get? d = some o') : St C Ob Mb ρ ad h' :=
  S.mut hO nM nc (fun b o z eb => (sb.2 b z).trans eb) ⟨o', e⟩

section
variable {W : Wd} {lv : Nat} {f c P Cc fI : Addr} {q : Str} {oc : Value} {od : Option Addr} {osl : Array (Option Value)} {name qual : Str} {params : Arguments} {scope : Scope} {dV kV doc pm ct : Value} {an : Option Addr} {rows : List (List Nat)}
  {L1 L2 : LamS} {p1 p2 p3 p4 p5 p6 p7 p8 p9 p10 p11 p12 p13 p14 p15 : Pos} {k1 : Nat}
set_option maxHeartbeats 4000000 in
theorem Cl.page (TK : TabOk W c P q) (CK : ClsOk W.K Cc fI) (hq : qual ++ ".<locals>." ++ "<lambda>" = q)
    (ho : W.K.lookup f = some ⟨oc, od, .func (fnOf name qual params [.Assign [.Name "page" p1] (.Call (.Name "Rstrip" p2) [.Constant .none k1 p3] [] p4) p5, .Assign [.Attribute (.Name "page" p6) "get" p7] (.Lambda L1.p L1.b L1.sc p8) p9, .Assign [.Attribute (.Name "page" p10) "compare" p11] (.Lambda L2.p L2.b L2.sc p12) p13, .Return (some (.Name "page" p14)) p15] scope dV kV doc pm an (.ref c) ct), osl⟩)
    (hcd : codeIn W.K (.ref c) qual = true) (hbind : ∀ (s : Shared) (a : Value), BindsTo s (fnOf name qual params [.Assign [.Name "page" p1] (.Call (.Name "Rstrip" p2) [.Constant .none k1 p3] [] p4) p5, .Assign [.Attribute (.Name "page" p6) "get" p7] (.Lambda L1.p L1.b L1.sc p8) p9, .Assign [.Attribute (.Name "page" p10) "compare" p11] (.Lambda L2.p L2.b L2.sc p12) p13, .Return (some (.Name "page" p14)) p15] scope dV kV doc pm an (.ref c) ct) ⟨[a], []⟩ [("rows", a)])
    (hsc : scope.names = pgNames) (hgs : W.gs.lookup ("Rstrip" : Str) = some (.ref Cc)) (hkp : keepIn W.K (.ref Cc) = true)
    (d1 : ∀ env, defaultsOf L1.p env = ([], [])) (d2 : ∀ env, defaultsOf L2.p env = ([], [])) (f1 : ∀ n, (n, NameKind.free) ∈ L1.sc.names → n = "rows") (f2 : ∀ n, (n, NameKind.free) ∈ L2.sc.names → n = "rows") (g1 : ∀ a, closL (fun _ => a) L1.sc.names [] = [(("rows" : Str), a)]) (g2 : ∀ a, closL (fun _ => a) L2.sc.names [] = [(("rows" : Str), a)])
    (hco : scope.isCoroutine = false := by rfl) (hgen : scope.isGenerator = false := by rfl) (hk : scope.kind = .function := by rfl) : Cl W (lv + 3) (.ref f) [tSs rows] (pageT W Cc q L1 L2 rows) := by
  refine Cl.defG (lv := lv + 2) (ps := [("rows", tSs rows)]) ho hcd (fun s vs h => ?_) (by rw [hsc]; decide) (by simp) (by rw [hsc]; rfl) (by rw [hsc]; decide) ?_ hco hgen hk
  · match vs, h with
    | [a], _ => exact hbind s a
  intro A env D O Ob Mb s Q E S hOb hOc fin
  have eρ : mk0 [("rows", tSs rows)] scope.names = rPg .free rows := by rw [hsc]; rfl
  rw [eρ] at S
  have hkO : ∀ x, env.kindOf x = scope.names.lookup x := fun x => by unfold Env.kindOf; rw [D.scope]
  -- where rows lies
  obtain ⟨cR, hcR⟩ := D.cells "rows" (by rw [hsc]; rfl)
  have mcR := mem_of_lookup hcR
  have nOcR : ¬ O cR := hOc _ _ mcR
  have exO : ∀ a, O a → ∃ o, s.heap.get? a = some o := fun a w => S.base.ex a (.inl (hOb a w))
  have ngR : W.g.get? cR = none := S.base.old cR (.inl (S.oc _ _ mcR).1)
  have xP : ∀ a, W.X a ↔ a = P := TK.xP
  have okd : A.depth + (lv + 2) < recursionLimit := S.ok.dep
  -- page = Rstrip(None)
  refine wpAny_execs_cons (wpAny_Assign_Name (Call_ ((Ev.glob (C := ⟨W, A, env, lv + 2, scope.names⟩) (ρ := rPg .free rows) (p := p2) (v := .ref Cc) (by rw [hsc]; rfl) hgs) Ob Mb (fun _ => 0) s S _ E fun h₁ tk₁ v₁ y₁ e₁ => ?_) rfl) rfl)
  cases (e₁ : v₁ = .ref Cc)
  have S₁ := S.step y₁
  refine wpAny_args (W := W) (KeepOk.ref hkp) ?_ rfl rfl
  refine spliced_more (Constant_none (spliced_none ⟨S₁.kin, ?_⟩)) rfl
  refine wpAny_call (new_raw (R := fun r s' => match r with | .ok (.ret v) => wpAny _ _ (storeName env "page" v) _ E s' | .ok _ => False | .error e => E e s') CK S₁.kin ?_ (by omega) .none fun h₂ tk₂ x dx hs t ext nx nd xd ex ed => ?_)
  · obtain ⟨pr, loose, mg, mb, TT⟩ := S.ok.w.top
    exact TT.nolimit.keeps S₁.base.keep
  have nx : h₁.get? x = none := nx
  have nd : h₁.get? dx = none := nd
  have ext : ∀ b o, h₁.get? b = some o → h₂.get? b = some o := ext
  have S₂ : St ⟨W, A, env, lv + 2, scope.names⟩ (fun b => Ob b ∨ (b = x ∨ b = dx)) Mb (rPg .free rows) (fun _ => 0) h₂ :=
    S₁.addS (fun b => b = x ∨ b = dx) (fun a w => w.elim (fun w => w ▸ nx) fun w => w ▸ nd) (fun a w => w.elim (fun w => ⟨_, w ▸ ex⟩) fun w => ⟨_, w ▸ ed⟩) ext
  have exI : ∀ a, Ob a → ∃ o, h₁.get? a = some o := fun a w => S₁.base.ex a (.inl w)
  have mx : ∀ a, Mb a → a ≠ x := fun a w z => by obtain ⟨o, e⟩ := exI a (S.mo a w); rw [z, nx] at e; cases e
  have md : ∀ a, Mb a → a ≠ dx := fun a w z => by obtain ⟨o, e⟩ := exI a (S.mo a w); rw [z, nd] at e; cases e
  have ncd : ∀ n b, (n, b) ∈ env.cells → b ≠ dx := fun n b w z => by obtain ⟨o, e⟩ := exI b (S.oc n b w).1; rw [z, nd] at e; cases e
  have Xd : ¬ W.X dx := fun w => md dx (S.mx _ w) rfl
  have Xx : ¬ W.X x := fun w => mx x (S.mx _ w) rfl
  show wpAny _ _ (storeName env "page" (.ref x)) _ E _
  refine S₂.set (s := { s with heap := h₂, toks := tk₂ }) (x := "page") (b₀ := .free) rfl rfl (.inr ⟨eqT (.ref x), rfl, rfl⟩) fun h₃ tk₃ a₃ S₃ _ m₃ _ g₃ => ?_
  have S₃ : St ⟨W, A, env, lv + 2, scope.names⟩ (fun b => Ob b ∨ (b = x ∨ b = dx)) Mb (rPg (.val (eqT (.ref x))) rows) (fun _ => 0) h₃ := S₃
  have ex₃ : h₃.get? x = some (instObj Cc dx) := g₃.2 x _ (fun z => mx _ m₃ (by have z' : x = a₃ := z; exact z'.symm)) ex
  have ed₃ : h₃.get? dx = some (dictOf [⟨hs, .str "editwin" t, .none⟩] 1) := g₃.2 dx _ (fun z => md _ m₃ (by have z' : dx = a₃ := z; exact z'.symm)) ed
  have hcl : ∀ L : LamS, (∀ n, (n, NameKind.free) ∈ L.sc.names → n = "rows") → (∀ a, closL (fun _ => a) L.sc.names [] = [(("rows" : Str), a)]) → closureFor L.sc env = pure [(("rows" : Str), cR)] := fun L k1 k2 => by
    rw [← k2 cR]; exact closureFor_eq fun n hn => by rw [k1 n hn]; exact hcR
  have hqq : env.qual ++ "<lambda>" = q := by rw [D.qual]; exact hq
  -- page.get
  refine wpAny_execs_cons (plainObj_wpAny_Assign_Attribute (lam_run (s := { s with heap := h₃, toks := tk₃ }) TK S₃ D.code hqq (hcl L1 f1 g1) (d1 _) fun h₄ tk₄ fA cA pmA ctA y₄ nfA efA nOA cPA rcA => ?_) rfl)
  have nfA : h₃.get? fA = none := nfA
  have S₄ := S₃.step y₄
  obtain ⟨v₄, l₄, e₄⟩ := S₄.vars "page" _ rfl
  cases (e₄ : v₄ = .ref x)
  refine wpAny_Name (loc_load S.ok.kind l₄ ?_) (by decide)
  have ex₄ : h₄.get? x = some (instObj Cc dx) := y₄.ag.2 x _ Xx ex₃
  have ed₄ : h₄.get? dx = some (dictOf [⟨hs, .str "editwin" t, .none⟩] 1) := y₄.ag.2 dx _ Xd ed₃
  refine set_raw (s := { s with heap := h₄, toks := tk₄ }) (dx := dx) (ox := instObj Cc dx) S₄.kin ⟨ex₄, rfl, rfl, ed₄⟩ rfl CK.sa CK.ov (CK.tk _ (.tail _ (.head _))) CK.hd (by rw [getL1]; rfl) (by rw [putL1]; simp) fun h₅ sb₅ e₅ => ?_
  rw [putL1] at e₅
  have S₅ := S₄.attr (d := dx) (.inr (.inr rfl)) (fun w => md dx w rfl) ncd sb₅ e₅
  have fAd : fA ≠ dx := fun z => by rw [z, ed₃] at nfA; cases nfA
  have cAd : cA ≠ dx := fun z => nOA (.inl (.inr (.inr z)))
  have ex₅ : h₅.get? x = some (instObj Cc dx) := (sb₅.2 x xd).trans ex₄
  have efA₅ := (sb₅.2 fA fAd).trans efA
  have rcA₅ : h₅.CodeRec (.ref cA) q := CodeRec_at rcA fun o e => (sb₅.2 cA cAd).trans e
  -- page.compare
  refine wpAny_execs_cons (plainObj_wpAny_Assign_Attribute (lam_run (s := { s with heap := h₅, toks := tk₄ + 2 }) TK S₅ D.code hqq (hcl L2 f2 g2) (d2 _) fun h₆ tk₆ fB cB pmB ctB y₆ nfB efB nOB cPB rcB => ?_) rfl)
  have nfB : h₅.get? fB = none := nfB
  have S₆ := S₅.step y₆
  obtain ⟨v₆, l₆, e₆⟩ := S₆.vars "page" _ rfl
  cases (e₆ : v₆ = .ref x)
  refine wpAny_Name (loc_load S.ok.kind l₆ ?_) (by decide)
  have ex₆ : h₆.get? x = some (instObj Cc dx) := y₆.ag.2 x _ Xx ex₅
  have ed₆ := y₆.ag.2 dx _ Xd e₅
  refine set_raw (s := { s with heap := h₆, toks := tk₆ }) (dx := dx) (ox := instObj Cc dx) S₆.kin ⟨ex₆, rfl, rfl, ed₆⟩ rfl CK.sa CK.ov (CK.tk _ (.tail _ (.tail _ (.head _)))) CK.hd (by rw [getL2]; rfl) (by rw [putL2]; simp) fun h₇ sb₇ e₇ => ?_
  rw [putL2] at e₇
  have S₇ := S₆.attr (d := dx) (.inr (.inr rfl)) (fun w => md dx w rfl) ncd sb₇ e₇
  have fBd : fB ≠ dx := fun z => by rw [z, e₅] at nfB; cases nfB
  have cBd : cB ≠ dx := fun z => nOB (.inl (.inr (.inr z)))
  have fAX : ¬ W.X fA := fun w => by
    obtain ⟨o, e⟩ := S₃.base.ex fA (S₃.base.sub fA w); rw [nfA] at e; cases e
  have cAX : ¬ W.X cA := fun w => cPA ((xP _).mp w)
  -- return page
  refine wpAny_execs_cons (wpAny_Return_some ?_)
  obtain ⟨v₇, l₇, e₇'⟩ := S₇.vars "page" _ rfl
  cases (e₇' : v₇ = .ref x)
  refine wpAny_Name (loc_load S.ok.kind l₇ ?_) (by decide)
  obtain ⟨vr, lr, pr⟩ := S₇.vars "rows" _ rfl
  have icR : h₇.IsCell cR (some vr) := by
    generalize hv : some vr = u at lr
    cases lr with
    | loc k n => rw [hkO, hsc] at k; cases k
    | cel k e n => rw [hcR] at e; cases e; exact n
  have up0 : ∀ a, s.heap.get? a ≠ none → h₁.get? a ≠ none := fun a w => by
    cases e : s.heap.get? a with
    | none => exact absurd e w
    | some o => obtain ⟨o', e'⟩ := y₁.ag.1 a o e; rw [e']; nofun
  have nOf : ∀ a, (h₁.get? a = none) → ¬ O a := fun a n w => by
    obtain ⟨o, e⟩ := exO a w
    exact up0 a (by rw [e]; nofun) n
  have n13 : ∀ a, h₃.get? a = none → h₁.get? a = none := fun a n => by
    cases e : h₁.get? a with
    | none => rfl
    | some o => obtain ⟨o', e'⟩ := g₃.1 a o (ext a o e); rw [n] at e'; cases e'
  have n35 : ∀ a, h₅.get? a = none → h₃.get? a = none := fun a n => by
    cases e : h₃.get? a with
    | none => rfl
    | some o =>
      obtain ⟨o', e'⟩ := y₄.ag.1 a o e
      by_cases z : a = dx
      · rw [z, e₅] at n; cases n
      · rw [(sb₅.2 a z).trans e'] at n; cases n
  have LA : LamAt O h₇ q L1 fA cR := by
    refine ⟨cA, pmA, ctA, nOf _ (n13 _ nfA), fun w => nOA (.inl (.inl (hOb _ w))), ?_, CodeRec_at rcA₅ fun o e => (sb₇.2 cA cAd).trans (y₆.ag.2 cA o cAX e)⟩
    exact (sb₇.2 fA fAd).trans (y₆.ag.2 fA _ fAX efA₅)
  have LB : LamAt O h₇ q L2 fB cR := by
    refine ⟨cB, pmB, ctB, nOf _ (n13 _ (n35 _ nfB)), fun w => nOB (.inl (.inl (hOb _ w))), (sb₇.2 fB fBd).trans efB, CodeRec_at rcB fun o e => (sb₇.2 cB cBd).trans e⟩
  refine fin (.ref x) h₇ _ (S₇.base.re (fun a w => .inl (.inl w)) fun a w => S.mo a (S.mx a w)) ⟨x, dx, _, _, fA, fB, cR, vr, rfl, nOf _ nx, nOf _ nd, nOcR, ngR, (sb₇.2 x xd).trans ex₆, e₇, getL3 .., getL4 .., LA, LB, icR, pr.re fun a _ _ w => .inl (.inl (hOb a w))⟩ ?_
  -- what stands
  have nsd : s.heap.get? dx = none := by
    cases e : s.heap.get? dx with
    | none => rfl
    | some o => exact absurd nd (up0 dx (by rw [e]; nofun))
  have a₁ : Agree Mb s.heap h₁ := y₁.ag.wk S.mx
  have a₂ : Agree Mb s.heap h₃ := (a₁.trans (.ext ext)).trans (g₃.wk fun b w => by have w' : b = a₃ := w; rw [w']; exact m₃)
  have a₄ : Agree Mb s.heap h₄ := a₂.trans (y₄.ag.wk S.mx)
  have a₅ : Agree Mb s.heap h₅ := Agree.off a₄ nsd (.same sb₅ e₅ rfl)
  have a₆ : Agree Mb s.heap h₆ := a₅.trans (y₆.ag.wk S.mx)
  exact Agree.off a₆ nsd (.same sb₇ e₇ rfl)
end
end Mine

namespace Mine
open PySem PySem.W PyProof.Rows PySem.Spec

theorem TabOk.upC {W : Wd} {c P : Addr} {q : Str} (TK : TabOk W c P q) {O : Addr → Prop} {h : Heap} {a : Addr} {v : Option Value} (i : W.I.P O h) (ic : h.IsCell a v) : W.I.P (fun b => O b ∨ b = a) h := by
  obtain ⟨ps, e, t, k⟩ := TK.ofI _ _ i
  refine TK.toI _ _ ⟨ps, e, t, fun pos w hw => ?_⟩
  obtain ⟨d, e1, n, np, r⟩ := k pos w hw
  refine ⟨d, e1, fun z => z.elim n fun z => ?_, np, r⟩
  obtain ⟨o, vs, eo, d'⟩ := CodeRec_ex r
  obtain ⟨o', eo', r'⟩ := ic
  rw [z, eo'] at eo; cases eo; rw [r'] at d'; cases d'
theorem Rep.offCell {O : Addr → Prop} {h : Heap} {v : Value} {rows : List (List Nat)} {a L : Addr} {u : Option Value} (x : Rep O h v (.list (rows.map sd))) (ic : h.IsCell a u) (nL : h.get? L = Option.none) : Rep (fun b => O b ∨ b = L ∨ b = a) h v (.list (rows.map sd)) := by
  cases x with
  | list n li rl =>
    refine .list (fun w => ?_) li ?_
    · rcases w with w | w | w
      · exact n w
      · obtain ⟨o, e, _⟩ := li
        rw [w, nL] at e; cases e
      · exact IsCell_IsList (w ▸ ic) li
    · obtain ⟨xs, e, et⟩ := strs_of rl
      have : ∀ {ls : List (List Nat)} {vs : List Value} {O O' : Addr → Prop}, RepL O h vs (ls.map sd) → RepL O' h vs (ls.map sd) := by
        intro ls
        induction ls with
        | nil => intro vs O O' r; cases r; exact .nil
        | cons l t ih => intro vs O O' r; cases r with | cons p r => cases p; exact .cons (.str _ _) (ih r)
      exact this rl
theorem lookup_rev {l : List (Str × Value)} {x : Str} {v : Value} (nd : (l.map (·.1)).Nodup) (m : (x, v) ∈ l) : l.reverse.lookup x = some v :=
  lookup_of_mem (by rw [List.map_reverse]; exact (List.reverse_perm _).nodup_iff.mpr nd) (List.mem_reverse.mpr m)
def lamRho (ps : List (Str × Ty)) (rows : List (List Nat)) : Rho := ps.map (fun p => (p.1, Bnd.val p.2)) ++ [(("rows" : Str), Bnd.ro (tSs rows))]
theorem lamRho_lookup {ps : List (Str × Ty)} {rows : List (List Nat)} {x : Str} {b : Bnd} (h : (lamRho ps rows).lookup x = some b) : (∃ T, b = .val T ∧ ps.lookup x = some T) ∨ (x = "rows" ∧ b = .ro (tSs rows)) := by
  unfold lamRho at h
  induction ps with
  | nil =>
    right
    have h : List.lookup x [(("rows" : Str), Bnd.ro (tSs rows))] = some b := h
    rw [List.lookup_cons] at h
    cases hx : x == ("rows" : Str) with
    | true => rw [hx] at h; cases h; exact ⟨by simpa using hx, rfl⟩
    | false => rw [hx] at h; cases h
  | cons p r ih =>
    rw [List.map_cons, List.cons_append, List.lookup_cons] at h
    rw [List.lookup_cons]
    cases hx : x == p.1 with
    | true => rw [hx] at h; cases h; exact .inl ⟨_, rfl, rfl⟩
    | false => rw [hx] at h; exact ih h

set_option maxHeartbeats 2000000 in
theorem lam_call {C₀ : Cx} {O : Addr → Prop} {s : Shared} {c P f cR : Addr} {q : Str} {L : LamS} {T : Ty} {rows : List (List Nat)} {vr : Value} {vs : List Value} {lv : Nat} (ps : List (Str × Ty)) (TK : TabOk C₀.W c P q) (ok : C₀.Ok) (B : Base C₀.W O s.heap) (LA : LamAt O s.heap q L f cR) (nO : ¬ O cR) (ng : C₀.W.g.get? cR = none)
    (ic : s.heap.IsCell cR (some vr)) (pr : Rep O s.heap vr (.list (rows.map sd))) (tv : TyL O s.heap (ps.map (·.2)) vs) (hat : ∀ p ∈ ps, p.2.Atom) (hlv : lv + 1 ≤ C₀.lv)
    (hbind : ∀ (s : Shared) (vs : List Value) pm c ctv, vs.length = ps.length → BindsTo s (kla_fn "<lambda>" q L.p L.b L.sc [("rows", cR)] pm (.ref c) ctv) ⟨vs, []⟩ ((ps.map (·.1)).zip vs)) (hpd : (ps.map (·.1)).Nodup)
    (hloc : ∀ p ∈ ps, L.sc.names.lookup p.1 = some .local) (hfr : L.sc.names.lookup ("rows" : Str) = some .free) (hnc : ∀ x ∈ L.sc.names, x.2 ≠ .cell) (hco : L.sc.isCoroutine = false) (hgen : L.sc.isGenerator = false) (hk : L.sc.kind = .function)
    (hb : ∀ (A : Around) (env : Env), EV ⟨C₀.W, A, env, lv, L.sc.names⟩ (lamRho ps rows) L.b T) : Gives C₀ O (call (.ref f) vs) T s := by
  intro Q E q'
  obtain ⟨c', pm, ctv, nf, nc', ef, rc⟩ := LA
  obtain ⟨pr', loose, mg, mb, TT⟩ := ok.w.top
  have hlen : vs.length = ps.length := by rw [tv.length, List.length_map]
  refine wpAny_call (kla_callFunE (by have := ok.dep; omega) ef rfl hco hgen rfl rc (hbind s vs pm c' ctv hlen _ _ _ _ ?_))
  refine wpAny_newFunctionEnv hnc (fun y hy => ?_) (fun h₁ ns sb => ⟨?_, kla_codeExpr ?_⟩) hk
  · have hy1 : y.1 ∈ ps.map (·.1) := (List.of_mem_zip hy).1
    obtain ⟨p, hp, e⟩ := List.mem_map.mp hy1
    rw [← e]; exact hloc p hp
  · exact (TT.nolimit.keeps B.keep).keeps fun b o e => (sb.2 b (Nat.ne_of_lt (Heap.lt_size e))).trans (Heap.get?_push_of_some _ e)
  have keep : ∀ b o, s.heap.get? b = some o → h₁.get? b = some o := fun b o e => (sb.2 b (Nat.ne_of_lt (Heap.lt_size e))).trans (Heap.get?_push_of_some _ e)
  generalize henv : newEnv (kla_fn "<lambda>" q L.p L.b L.sc [("rows", cR)] pm (.ref c') ctv).scope s.heap.objs.size (kla_fn "<lambda>" q L.p L.b L.sc [("rows", cR)] pm (.ref c') ctv).globals (kla_fn "<lambda>" q L.p L.b L.sc [("rows", cR)] pm (.ref c') ctv).closure ((kla_fn "<lambda>" q L.p L.b L.sc [("rows", cR)] pm (.ref c') ctv).qualname ++ ".<locals>.") (some f) (kla_fn "<lambda>" q L.p L.b L.sc [("rows", cR)] pm (.ref c') ctv).code none (kla_fn "<lambda>" q L.p L.b L.sc [("rows", cR)] pm (.ref c') ctv).builtins = env
  have hkO : ∀ x, env.kindOf x = L.sc.names.lookup x := fun x => by rw [← henv]; rfl
  have hL : env.locals = s.heap.objs.size := by rw [← henv]; rfl
  have hcells : env.cells = [(("rows" : Str), cR)] := by rw [← henv]; rfl
  rw [← hL] at ns
  have nL : s.heap.get? env.locals = none := fresh_none (by rw [hL]; exact Nat.le_refl _)
  have gL : C₀.W.g.get? env.locals = none := by
    cases e : C₀.W.g.get? env.locals with
    | none => rfl
    | some o => have := B.keep _ o e; rw [nL] at this; cases this
  have ok' : Cx.Ok ⟨C₀.W, C₀.A.deeper env, env, lv, L.sc.names⟩ := by
    refine ⟨ok.w, ok.hd, ?_, ?_, by show env.scope.kind = _; rw [← henv]; exact hk, by show env.globals = _; rw [← henv]; rfl, by show env.builtins = _; rw [← henv]; rfl, by show env.scope.names = _; rw [← henv]; rfl⟩
    · have := ok.dep
      show C₀.A.depth + 1 + lv < recursionLimit
      omega
    · have := ok.un
      show C₀.A.units + 3 + 100 * lv + 200 < cLine
      omega
  have xno : ∀ a, C₀.W.X a → O a := B.sub
  have xL : ¬ C₀.W.X env.locals := fun w => by obtain ⟨o, e⟩ := B.ex _ (xno _ w); rw [nL] at e; cases e
  have xR : ¬ C₀.W.X cR := fun w => nO (xno _ w)
  let Ob : Addr → Prop := fun a => O a ∨ a = env.locals ∨ a = cR
  let Mb : Addr → Prop := fun a => C₀.W.X a ∨ a = env.locals
  have noOwn : ∀ x ds, (lamRho ps rows).lookup x ≠ some (.own ds) := fun x ds h => by
    rcases lamRho_lookup h with ⟨T, e, _⟩ | ⟨_, e⟩ <;> cases e
  have oo : ∀ a, OO Ob (lamRho ps rows) (fun _ => 0) a → Ob a := fun a w => w.elim id fun ⟨x, ds, l, _⟩ => absurd l (noOwn x ds)
  have inv₁ : C₀.W.I.P Ob h₁ := by
    have i0 := TK.upC B.inv ic
    have i1 : C₀.W.I.P Ob s.heap := C₀.W.I.re (fun a o e w => by
      rcases w with w | w | w
      · exact .inl w
      · rw [w, nL] at e; cases e
      · exact .inr w) i0
    exact C₀.W.I.mono i1 (.ext keep)
  have S : St ⟨C₀.W, C₀.A.deeper env, env, lv, L.sc.names⟩ Ob Mb (lamRho ps rows) (fun _ => 0) h₁ := by
    refine ⟨ok', ?_, fun a w => .inl w, fun a w => w.elim (fun w => .inl (xno a w)) fun w => .inr (.inl w), .inr rfl, xL, fun n d m => ?_, fun n d m kk => ?_, by rw [hcells]; simp, ⟨_, ns⟩, ?_, fun x y ds es e _ _ => absurd e (noOwn x ds)⟩
    · refine Base.re (O := Ob) ⟨fun b o e => keep b o (B.keep b o e), fun a w => .inl (xno a w), fun a w => ?_, fun a w => ?_, inv₁⟩ oo fun a w => .inl (.inl (xno a w))
      · rcases w with w | w | w
        · exact B.old a w
        · rw [w]; exact gL
        · rw [w]; exact ng
      · rcases w with w | w | w
        · obtain ⟨o, e⟩ := B.ex a w; exact ⟨o, keep a o e⟩
        · obtain ⟨o, _, _, e, _⟩ := ns; exact ⟨o, w ▸ e⟩
        · obtain ⟨o, e, _⟩ := ic; exact ⟨o, w ▸ keep _ o e⟩
    · have m' : (n, d) ∈ env.cells := m
      rw [hcells] at m'
      have : d = cR := by simp at m'; exact m'.2
      subst this
      exact ⟨.inr (.inr rfl), xR⟩
    · have m' : (n, d) ∈ env.cells := m
      rw [hcells] at m'
      have e1 : n = "rows" := by simp at m'; exact m'.1
      have kk' : env.kindOf n = some .cell := kk
      rw [e1, hkO, hfr] at kk'; cases kk'
    · intro x b e
      rcases lamRho_lookup e with ⟨T', rfl, hp⟩ | ⟨rfl, rfl⟩
      · obtain ⟨v, m, pv⟩ := tv.zip hp
        have nd2 : (((ps.map (·.1)).zip vs).map (·.1)).Nodup := by
          rw [List.map_fst_zip (by rw [List.length_map, hlen]; exact Nat.le_refl _)]
          exact hpd
        have l := Loc.loc (env := env) (x := x) (by rw [hkO]; exact hloc _ (mem_of_lookup hp)) ns
        simp only [lookup_rev nd2 m] at l
        exact ⟨v, l, hat _ (mem_of_lookup hp) _ _ _ _ _ pv⟩
      · refine ⟨vr, cR, by show env.kindOf ("rows" : Str) = _; rw [hkO]; exact hfr, by show env.cells.lookup ("rows" : Str) = _; rw [hcells]; rfl, (let ⟨o, e, r⟩ := ic; ⟨o, keep _ o e, r⟩), ?_⟩
        exact Rep.re (fun a _ _ w => oo a w) ((pr.offCell ic nL).mono₀ fun b o n e => keep b o e)
  refine (hb (C₀.A.deeper env) env).un Ob Mb (fun _ => 0) { s with heap := h₁, toks := _ } S _ _ fun h₂ tk₂ v y pv => ?_
  refine q' h₂ tk₂ v ⟨⟨fun b o e => y.ag.1 b o (keep b o e), fun b o n e => y.ag.2 b o n (keep b o e)⟩, fun _ => ?_⟩ (T.re (fun a _ _ w => .inl (.inl w)) pv)
  exact C₀.W.I.re (fun a _ _ w => .inl (.inl w)) (y.inv S.base.inv)

theorem plainGet_any {K : Frag} {C : Addr} {n m : Str} (h : plainGet K C n = true) : plainGet K C m = true := h
section
variable {C : Cx} {ρ : Rho} {Cc fI : Addr} {q : Str} {L1 L2 : LamS} {rows : List (List Nat)}
theorem EV.pgcall (b : Bool) {o e : Expr} {es : List Expr} {apos pos : Pos} {Ts : List Ty} {T : Ty} {name : Str} {pl : Env → Sem Bool} (ck : ClsOk C.W.K Cc fI) (ho : EV C ρ o (pageT C.W Cc q L1 L2 rows)) (ha : EVL C ρ (e :: es) Ts)
    (hc : ∀ O s f cR vr vs, C.Ok → Base C.W O s.heap → LamAt O s.heap q (bif b then L1 else L2) f cR → ¬ O cR → C.W.g.get? cR = Option.none → s.heap.IsCell cR (some vr) → Rep O s.heap vr (.list (rows.map sd)) → TyL O s.heap Ts vs → Gives C O (call (.ref f) vs) T s)
    (hn : name = bif b then ("get" : Str) else "compare")
    (he : ∀ env, eval (.Call (.Attribute o name apos) (e :: es) [] pos) env = (do
      let ov ← eval o env
      standAt apos.atName
      let (f, first) ← holding [ov] (getMethod ov name (pl env))
      callWith pos f first (backTo pos (starEach (e :: es) env)) []) := by intro _; rfl)
    (hs : notStar e = true := by rfl) (hp : es.all notStar = true := by rfl) : EV C ρ (.Call (.Attribute o name apos) (e :: es) [] pos) T := ⟨fun Ob Mb ad s S Q E k => by
  refine MethodCall_ (ho.un Ob Mb ad s S _ E fun h' tk v y pv => ?_) (he _)
  obtain ⟨a, d, es', n, f1, f2, cR, vr, rfl, na, nd, nc, ng, ia, id, g1, g2, l1, l2, ic, hr⟩ := pv
  have S₁ := S.step y
  obtain ⟨f, gf, lf⟩ : ∃ f, getL name es' = some (some (.ref f)) ∧ LamAt (OO Ob ρ ad) h' q (bif b then L1 else L2) f cR := by
    cases b with
    | true => exact ⟨f1, by rw [hn]; exact g1, l1⟩
    | false => exact ⟨f2, by rw [hn]; exact g2, l2⟩
  have fi : findIn C.W.K (.ref Cc) name = some Option.none := by
    cases b with
    | true => rw [hn]; exact ck.fi _ (.head _)
    | false => rw [hn]; exact ck.fi _ (.tail _ (.head _))
  have I : InstAt h' a (instObj Cc d) Cc (some (dictOf es' n)) := ⟨ia, rfl, rfl, id⟩
  have pg := plainGet_of (ck.pg name)
  refine method_usual (s := { s with heap := h', toks := tk }) S₁.kin I pg.1 pg.2 fi rfl (get_value (s := { s with heap := h', toks := tk }) S₁.kin I pg.1 (findObj_own ck.hd fi rfl (by rw [lookIn_dict]; exact gf)) rfl ?_)
  have fa : FnAt f h' := let ⟨_, _, _, _, _, e, _⟩ := lf; ⟨_, _, _, _, e⟩
  refine callWith_F (s := { s with heap := h', toks := tk + 1 }) fa ?_ (starEach_ns hs _ _) (any_star hp)
  refine ha.un Ob Mb ad { s with heap := h', toks := tk + 1 } pos _ E S₁ fun h₂ tk₂ vs y₂ pvs => ?_
  have S₂ := S₁.step y₂
  have ag := S₁.agO y₂
  have lf₂ := lf.mono₀ ag.2
  refine ⟨let ⟨_, _, _, _, _, e, _⟩ := lf₂; ⟨_, _, _, _, e⟩, ?_⟩
  exact hc (OO Ob ρ ad) { s with heap := h₂, toks := tk₂ } f cR vr vs S.ok S₂.base lf₂ nc ng (let ⟨o, e, r⟩ := ic; ⟨o, ag.2 _ o nc e, r⟩) (hr.mono ag) pvs Q E fun h₃ tk₃ v₃ y₃ p₃ => k h₃ tk₃ v₃ (y.trans (y₂.trans y₃)) p₃⟩
end
end Mine

namespace Mine
open PySem PySem.W PyProof.Rows PySem.Spec

theorem slot_map_next : Slot "map" "__next__" "map.__next__" :=
  .of (owner := "map") (n := "__next__") (by rw [typeLookup_type, builtinLookup_eq_fast]; kernel_rfl) (by decide +kernel) (by decide +kernel) (by decide +kernel)
    (by first | exact .inl (by decide +kernel) | exact .inr (by decide +kernel)) (by rw [isSubtype_type]; kernel_rfl)
theorem slot_map_iter : Slot "map" "__iter__" "map.__iter__" :=
  .of (owner := "map") (n := "__iter__") (by rw [typeLookup_type, builtinLookup_eq_fast]; kernel_rfl) (by decide +kernel) (by decide +kernel) (by decide +kernel)
    (by first | exact .inl (by decide +kernel) | exact .inr (by decide +kernel)) (by rw [isSubtype_type]; kernel_rfl)
theorem slot_map_init : Slot "map" "__init__" "object.__init__" :=
  .of (owner := "object") (n := "__init__") (by rw [typeLookup_type, builtinLookup_eq_fast]; kernel_rfl) (by decide +kernel) (by decide +kernel) (by decide +kernel)
    (by first | exact .inl (by decide +kernel) | exact .inr (by decide +kernel)) (by rw [isSubtype_type]; kernel_rfl)
theorem entry_map_next : entryFor table "map.__next__" = some Builtin.«map.__next__» := entryFor_of_tree (by kernel_rfl)
theorem entry_map_new : entryFor table "map.__new__" = some Builtin.«map.__new__» := entryFor_of_tree (by kernel_rfl)
theorem entry_map_iter : entryFor table "map.__iter__" = some Builtin.«dict_keyiterator.__iter__» :=
  entryFor_alias (id' := "dict_keyiterator.__iter__") (by kernel_rfl) (by first | rfl | decide +kernel | (unfold String.splitOn; simp +decide [String.splitOnAux])) (by decide +kernel) (by kernel_rfl)
theorem args_map_next (a : Value) : argsOk "map.__next__" ⟨[a], []⟩ := by unfold argsOk; kernel_rfl
theorem args_map_iter (a : Value) : argsOk "map.__iter__" ⟨[a], []⟩ := by unfold argsOk; kernel_rfl
theorem mro_map : mroOf (.type "map") = pure [.type "map", .type "object"] := by rw [mroOf_type]; kernel_rfl
theorem lookup_map_new : typeLookup (.type "map") "__new__" = pure (some (.builtin "map.__new__")) := by rw [typeLookup_type, builtinLookup_eq_fast]; kernel_rfl
theorem called_map : TypeCalled "map" "map.__new__" "object.__init__" :=
  ⟨by decide +kernel, by decide +kernel, ⟨_, _, mro_map⟩, madeBy_type mro_map lookup_map_new (by decide +kernel), by decide +kernel, by rw [isSubtype_type]; kernel_rfl, slot_map_init⟩
theorem typeCall_map (a b : Value) : checkTypeCall "map" ⟨[a, b], []⟩ = pure () := by kernel_rfl
theorem newCall_map (a b : Value) : checkBuiltinCall "map.__new__" ⟨[.type "map", a, b], []⟩ = pure () := by kernel_rfl
theorem sub_map : isSubtype (.type "map") (.type "map") = pure true := by rw [isSubtype_type]; kernel_rfl
abbrev IsMap (h : Heap) (m tp : Addr) : Prop := h.get? m = some { cls := .type "map", data := .fields #[.ref tp, .type "int"] }
theorem args_oi_3 (a b c : Value) : argsOk "object.__init__" ⟨[a, b, c], []⟩ := by unfold argsOk; kernel_rfl

theorem meets_map_new (l : Addr) (items : Array Value) :
    Meets (Builtin.«map.__new__» ⟨[.type "map", .type "int", .ref l], []⟩) (fun _ R s => s.heap.IsList l items ∧
      ∀ h', h' = (((s.heap.push { cls := .type "list_iterator", data := .fields #[.ref l, .int 0 0] }).push { cls := .type "tuple", data := .seq #[.ref s.heap.objs.size] }).push { cls := .type "map", data := .fields #[.ref (s.heap.push { cls := .type "list_iterator", data := .fields #[.ref l, .int 0 0] }).objs.size, .type "int"] }) →
      R (.ok (.ret (.ref ((s.heap.push { cls := .type "list_iterator", data := .fields #[.ref l, .int 0 0] }).push { cls := .type "tuple", data := .seq #[.ref s.heap.objs.size] }).objs.size))) { s with heap := h' }) :=
  .of_wp fun prog w A R s h => by
    obtain ⟨hp, g, d, tk, os⟩ := s; obtain ⟨hl, h⟩ := h
    have hsub := sub_map
    wp_walk using wpAny_pyIter_list hl
    exact ⟨_, rfl, h _ rfl⟩
end Mine

namespace Mine
open PySem PySem.W PyProof.Rows PySem.Spec

section
variable {prog : Program} {w : World} {A : Around} {E : Value → Shared → Prop} {s : Shared}
/-- a map of int over a list, its iterator at i -/
structure MapAt (h : Heap) (m tp it l : Addr) (i : Nat) (items : Array Value) : Prop where
  mp : IsMap h m tp
  tu : h.get? tp = some { cls := .type "tuple", data := .seq #[.ref it] }
  li : h.IsListIter it l i
  ls : h.IsList l items
  n1 : m ≠ it
  n2 : tp ≠ it
  n3 : l ≠ it
theorem call_map {l : Addr} {items : Array Value} {Q : Value → Shared → Prop} (hL : s.heap.IsList l items)
    (h : ∀ h' m tp it, MapAt h' m tp it l 0 items → s.heap.get? it = none → (∀ b o, s.heap.get? b = some o → h'.get? b = some o) → Q (.ref m) { s with heap := h' }) :
    wpAny (model prog w) A (call (.type "map") [.type "int", .ref l]) Q E s := by
  refine callType_new called_map (by decide) (typeCall_map _ _) (newCall_map _ _) (fun obj => args_oi_3 obj _ _) entry_map_new (meets_map_new l items) ⟨hL, fun h' e => ?_⟩
  have z1 : (s.heap.push { cls := .type "list_iterator", data := .fields #[.ref l, .int 0 0] }).objs.size = s.heap.objs.size + 1 := Heap.size_push ..
  have z2 : ((s.heap.push { cls := .type "list_iterator", data := .fields #[.ref l, .int 0 0] }).push { cls := .type "tuple", data := .seq #[.ref s.heap.objs.size] }).objs.size = s.heap.objs.size + 2 := by rw [Heap.size_push, z1]
  have k : ∀ b o, s.heap.get? b = some o → h'.get? b = some o := fun b o q => by rw [e]; exact Heap.get?_push_of_some _ (Heap.get?_push_of_some _ (Heap.get?_push_of_some _ q))
  have ll : l < s.heap.objs.size := by obtain ⟨o, ho, _⟩ := hL; exact Heap.lt_size ho
  have mp : IsMap h' (((s.heap.push { cls := .type "list_iterator", data := .fields #[.ref l, .int 0 0] }).push { cls := .type "tuple", data := .seq #[.ref s.heap.objs.size] }).objs.size) ((s.heap.push { cls := .type "list_iterator", data := .fields #[.ref l, .int 0 0] }).objs.size) := by
    rw [e]; exact Heap.get?_push_size _ rfl
  refine ⟨⟨_, mp, rfl⟩, h h' _ _ s.heap.objs.size ⟨mp, ?_, ?_, ?_, ?_, ?_, Nat.ne_of_lt ll⟩ (fresh_none (Nat.le_refl _)) k⟩
  · rw [e]; exact Heap.get?_push_of_some _ (Heap.get?_push_size _ rfl)
  · rw [e]; exact ⟨_, Heap.get?_push_of_some _ (Heap.get?_push_of_some _ (Heap.get?_push_size _ rfl)), rfl, rfl⟩
  · obtain ⟨o, ho, r⟩ := hL; exact ⟨o, k _ o ho, r⟩
  · rw [z2]; intro z; have : s.heap.objs.size + 2 = s.heap.objs.size := z; omega
  · rw [z1]; intro z; have : s.heap.objs.size + 1 = s.heap.objs.size := z; omega

theorem map_next_item {m tp it l : Addr} {i : Nat} {items : Array Value} {x : Str} {t : Tok} {n : Int} {Q : Option Value → Shared → Prop} (M : MapAt s.heap m tp it l i items) (hx : items[i]? = some (.str x t)) (hn : PySem.intText? x = some n) (hl : x.length ≤ 640)
    (hQ : ∀ h' tk, MapAt h' m tp it l (i + 1) items → Heap.SameBut it s.heap h' → Q (some (.int n s.toks)) { s with heap := h', toks := tk }) : wpAny (model prog w) A (pyNext (.ref m)) Q E s := by
  have hT : s.TypeIs (.ref m) "map" := ⟨_, M.mp, rfl⟩
  unfold pyNext
  refine wpAny_bind (wpAny_attempt (wpAny_callSpecial?_slot (name := Str.ofString "__next__") hT slot_map_next (wpAny_call_entry slot_map_next hT entry_map_next ?_ (args_map_next _))))
  show wpAny _ _ (field (.ref m) 0 >>= _) _ _ s
  refine wpAny_bind (wpAny_field M.mp rfl (x := .ref tp) rfl ?_)
  show wpAny _ _ (seqItems? (.ref tp) >>= _) _ _ s
  refine wpAny_bind (wpAny_seqItems M.tu rfl ?_)
  dsimp only
  refine wpAny_bind ?_
  rw [show (#[Value.ref it] : Array Value) = [Value.ref it].toArray from rfl, List.forIn_toArray, List.forIn_cons]
  refine wpAny_bind (wpAny_bind (wpAny_holding (wpAny_nextOf_list_item M.li M.ls hx fun h₁ hit hs => wpAny_pure ?_)))
  refine wpAny_pure ?_
  have M₁ : MapAt h₁ m tp it l (i + 1) items := ⟨(hs.2 m M.n1).trans M.mp, (hs.2 tp M.n2).trans M.tu, hit, (let ⟨o, ho, r⟩ := M.ls; ⟨o, (hs.2 l M.n3).trans ho, r⟩), M.n1, M.n2, M.n3⟩
  show wpAny _ _ (field (.ref m) 1 >>= _) _ _ _
  refine wpAny_bind (wpAny_field M₁.mp rfl (x := .type "int") rfl ?_)
  refine wpAny_bind (wpAny_holding (KIN.call_text hn hl ?_))
  exact wpAny_bind (wpAny_letGo (wpAny_pure ⟨_, rfl, wpAny_pure (hQ h₁ _ M₁ hs)⟩))

theorem map_next_end {m tp it l : Addr} {i : Nat} {items : Array Value} {Q : Option Value → Shared → Prop} (hh : A.handled = none) (M : MapAt s.heap m tp it l i items) (hx : items[i]? = none)
    (hQ : ∀ h', Heap.ExtBut it s.heap h' → Q none { s with heap := h' }) : wpAny (model prog w) A (pyNext (.ref m)) Q E s := by
  have hT : s.TypeIs (.ref m) "map" := ⟨_, M.mp, rfl⟩
  unfold pyNext
  refine wpAny_bind (wpAny_attempt (wpAny_callSpecial?_slot (name := Str.ofString "__next__") hT slot_map_next (wpAny_call_entry slot_map_next hT entry_map_next ?_ (args_map_next _))))
  show wpAny _ _ (field (.ref m) 0 >>= _) _ _ s
  refine wpAny_bind (wpAny_field M.mp rfl (x := .ref tp) rfl ?_)
  show wpAny _ _ (seqItems? (.ref tp) >>= _) _ _ s
  refine wpAny_bind (wpAny_seqItems M.tu rfl ?_)
  dsimp only
  refine wpAny_bind ?_
  rw [show (#[Value.ref it] : Array Value) = [Value.ref it].toArray from rfl, List.forIn_toArray, List.forIn_cons]
  refine wpAny_bind (wpAny_bind (wpAny_holding (wpAny_nextOf_list_end hh M.li M.ls hx fun h' e he ho => ?_)))
  obtain ⟨o, ho, hc⟩ := ho
  refine wpAny_bind (wpAny_isInstance (T := "StopIteration") (b := true) ⟨o, ho, hc⟩ isSubtype_stop ?_)
  exact wpAny_pure (hQ _ he)
theorem map_iter {m tp : Addr} {Q : Value → Shared → Prop} (M : IsMap s.heap m tp) (h : Q (.ref m) s) : wpAny (model prog w) A (pyIter (.ref m)) Q E s := by
  have hT : s.TypeIs (.ref m) "map" := ⟨_, M, rfl⟩
  refine wpAny_pyIter_slot hT slot_map_iter (wpAny_call_entry slot_map_iter hT entry_map_iter ?_ (args_map_iter _))
  show wpAny _ _ (ret (.ref m)) _ _ s
  exact wpAny_pure ⟨_, rfl, "map", _, hT, slot_map_next.lookup, h⟩
/-- a, b = map(int, [x, y]) -/
theorem map_unpack {m tp it l : Addr} {x y : Str} {t u : Tok} {n k : Int} {Q : List Value → Shared → Prop} (hh : A.handled = none) (M : MapAt s.heap m tp it l 0 #[.str x t, .str y u]) (hn : PySem.intText? x = some n) (hk : PySem.intText? y = some k) (hx : x.length ≤ 640) (hy : y.length ≤ 640)
    (hQ : ∀ h' tk t1 t2, Heap.ExtBut it s.heap h' → Q [.int n t1, .int k t2] { s with heap := h', toks := tk }) : wpAny (model prog w) A (unpackItems (.ref m) 2 none) Q E s := by
  have hT : s.TypeIs (.ref m) "map" := ⟨_, M.mp, rfl⟩
  unfold unpackItems
  refine wpAny_bind ?_
  unfold notIterableAtAll
  refine wpAny_bind (wpAny_specialOf hT slot_map_iter.lookup ?_)
  refine wpAny_pure ?_
  simp only [Bool.false_eq_true, if_false]
  refine wpAny_bind (wpAny_holding (map_iter M.mp ?_))
  refine wpAny_bind (wpAny_holding ?_)
  show wpAny _ _ (pyNext (.ref m) >>= _) _ E s
  refine wpAny_bind (map_next_item M (by rfl) hn hx fun h₁ tk₁ M₁ s₁ => ?_)
  refine wpAny_bind (wpAny_holding ?_)
  show wpAny _ _ (pyNext (.ref m) >>= _) _ E _
  refine wpAny_bind (map_next_item M₁ (by rfl) hk hy fun h₂ tk₂ M₂ s₂ => ?_)
  refine wpAny_bind (wpAny_holding ?_)
  refine wpAny_pure (wpAny_pure (wpAny_pure ?_))
  rw [if_neg (by simp)]
  refine wpAny_bind (wpAny_holding (map_next_end hh M₂ (by rfl) fun h₃ e₃ => ?_))
  simp only [Option.isSome_none, Bool.false_eq_true, if_false]
  refine wpAny_pure (hQ h₃ _ _ _ fun b o hb e => e₃ b o hb ((s₂.2 b hb).trans ((s₁.2 b hb).trans e)))
end
end Mine

namespace Mine
open PySem PySem.W PyProof.Rows PySem.Spec

/-! strip -/
def stripL (p : Nat → Bool) (l : List Nat) : List Nat := ((l.dropWhile p).reverse.dropWhile p).reverse
def rstripL (p : Nat → Bool) (l : List Nat) : List Nat := (l.reverse.dropWhile p).reverse
theorem drop_tw (p : Nat → Bool) : ∀ l : List Nat, l.drop (l.takeWhile p).length = l.dropWhile p
  | [] => rfl
  | a :: r => by
    cases h : p a with
    | true => simp [h, drop_tw p r]
    | false => simp [h]
theorem take_rtw (p : Nat → Bool) (l : List Nat) : l.take (l.length - (l.reverse.takeWhile p).length) = rstripL p l := by
  unfold rstripL
  rw [← drop_tw p l.reverse, List.drop_reverse, List.reverse_reverse]
theorem sub_text (l : List Nat) (i j : Nat) : Builtin.Str.strSub (S l) i j = S ((l.drop i).take (j - i)) := by
  apply Str.ext'
  apply Array.toList_inj.mp
  rw [StrLaws.strSub_toList, S_cps, S_cps]
theorem lstrip_text (p : Nat → Bool) (l : List Nat) : Txt.stripBy p true false (S l) = S (l.dropWhile p) := by
  rw [PyProof.Rows.stripBy_eq, sub_text]
  simp only [stripLo, stripHi, if_true, Bool.false_eq_true, if_false, S_cps, S_len]
  rw [drop_tw, List.take_of_length_le (by have := drop_tw p l; rw [← this, List.length_drop]; exact Nat.le_refl _)]
theorem strip_text (p : Nat → Bool) (l : List Nat) : Txt.stripBy p true true (S l) = S (stripL p l) := by
  rw [PyProof.Rows.stripBy_eq, sub_text]
  simp only [stripLo, stripHi, if_true, S_cps, S_len]
  rw [drop_tw]
  have hl : l.length = (l.takeWhile p).length + (l.dropWhile p).length := by
    have := congrArg List.length (List.takeWhile_append_dropWhile (p := p) (l := l))
    rw [List.length_append] at this; exact this.symm
  rw [show l.length - ((l.dropWhile p).reverse.takeWhile p).length - (l.takeWhile p).length = (l.dropWhile p).length - ((l.dropWhile p).reverse.takeWhile p).length by omega, take_rtw]
  rfl
section
variable {W : Wd}
abbrev isSp := Unicode.isSpace
theorem CL.strip {l : List Nat} (hz : l.length ≤ sizeLine) : CL W 0 (.builtin "str.strip") [tS l] (tS (stripL isSp l)) := ⟨fun C O s vs ok e hl B tv Q E q => by
  subst e
  cases tv with
  | cons p r => cases r; cases p; refine SC.strip (fun t' k => ?_) (by rw [S_len]; exact hz); unfold Txt.strip; rw [strip_text]; exact q s.heap k _ .refl (.str _ _)⟩
theorem cont_text (cs : List Nat) : (S cs).cps.contains = fun c => cs.contains c := by
  funext c; simp [S]
theorem CL.lstripC {l cs : List Nat} (hz : l.length ≤ sizeLine) : CL W 0 (.builtin "str.lstrip") [tS l, tS cs] (tS (l.dropWhile fun c => cs.contains c)) := ⟨fun C O s vs ok e hl B tv Q E q => by
  subst e
  cases tv with
  | cons p r =>
    cases p
    cases r with
    | cons p r => cases r; cases p; refine SC.lstripChars (fun t' k => ?_) (by rw [S_len]; exact hz); unfold Txt.lstripChars; rw [cont_text, lstrip_text]; exact q s.heap k _ .refl (.str _ _)⟩
end

/-! split at one sign -/
theorem join_uniq {c : Nat} : ∀ {ps qs : List (List Nat)}, ps ≠ [] → qs ≠ [] → (∀ p ∈ ps, c ∉ p) → (∀ q ∈ qs, c ∉ q) → joinL [c] ps = joinL [c] qs → ps = qs := by
  have tw : ∀ {p r : List Nat}, c ∉ p → (p ++ c :: r).takeWhile (· != c) = p := by
    intro p r h
    induction p with
    | nil => simp
    | cons a t ih =>
      have : a ≠ c := fun e => h (e ▸ List.mem_cons_self)
      simp [this, ih fun q => h (List.mem_cons_of_mem _ q)]
  have nof : ∀ {p r q : List Nat}, c ∉ q → p ++ [c] ++ r ≠ q := fun h e => h (by rw [← e]; simp)
  intro ps
  induction ps with
  | nil => intro qs h; exact absurd rfl h
  | cons p r ih =>
    intro qs _ hq hp hqs e
    cases qs with
    | nil => exact absurd rfl hq
    | cons q t =>
      cases r with
      | nil =>
        cases t with
        | nil => simpa [joinL] using e
        | cons t1 t2 => exact absurd e.symm (nof (hp p List.mem_cons_self))
      | cons r1 r2 =>
        cases t with
        | nil => exact absurd e (nof (hqs q List.mem_cons_self))
        | cons t1 t2 =>
          have e' : p ++ [c] ++ joinL [c] (r1 :: r2) = q ++ [c] ++ joinL [c] (t1 :: t2) := e
          rw [List.append_assoc, List.append_assoc] at e'
          have e1 := congrArg (List.takeWhile (· != c)) e'
          rw [show p ++ ([c] ++ joinL [c] (r1 :: r2)) = p ++ c :: joinL [c] (r1 :: r2) from rfl, show q ++ ([c] ++ joinL [c] (t1 :: t2)) = q ++ c :: joinL [c] (t1 :: t2) from rfl, tw (hp p List.mem_cons_self), tw (hqs q List.mem_cons_self)] at e1
          subst e1
          have e2 := List.append_cancel_left e'
          have e3 : joinL [c] (r1 :: r2) = joinL [c] (t1 :: t2) := by simpa using e2
          rw [ih (by simp) (by simp) (fun x hx => hp x (List.mem_cons_of_mem _ hx)) (fun x hx => hqs x (List.mem_cons_of_mem _ hx)) e3]
theorem split_text {c : Nat} {x : List Nat} {ps : List (List Nat)} (hne : ps ≠ []) (hf : ∀ p ∈ ps, c ∉ p) (hj : joinL [c] ps = x) : Txt.split (S x) (S [c]) = ps.map S := by
  have h1 := StrLaws.join_split (S x) (S [c])
  have h2 := StrLaws.split_free (S x) c
  have h3 := split_pos (S x) (S [c])
  have e : ∀ L : List Str, L = (L.map fun s => s.cps.toList).map S := fun L => by
    rw [List.map_map]
    conv => lhs; rw [← List.map_id L]
    exact List.map_congr_left fun s _ => (S_eta s).symm
  have eL := e (Txt.split (S x) (S [c]))
  rw [eL] at h1 ⊢
  rw [join_text] at h1
  congr 1
  refine join_uniq ?_ hne ?_ hf ?_
  · intro z
    have : (Txt.split (S x) (S [c])).length = 0 := by
      have := congrArg List.length z
      simpa using this
    omega
  · intro p hp
    obtain ⟨s, hs, rfl⟩ := List.mem_map.mp hp
    exact h2 s hs
  · rw [hj]; exact S_inj.mp h1
theorem strL {O : Addr → Prop} {h : Heap} : ∀ {l : List (Str × Tok)} {ps : List (List Nat)}, l.map (·.1) = ps.map S → RepL O h (strValues l) (ps.map sd)
  | [], [], _ => .nil
  | [], _ :: _, e => by cases e
  | _ :: _, [], e => by cases e
  | (x, t) :: l, p :: ps, e => by
    have e1 : x = S p := (List.cons.inj e).1
    subst e1
    exact .cons (.str _ _) (strL (List.cons.inj e).2)
/-- x.split(y), where the list lies -/
theorem split_raw {prog : Program} {w : World} {A : Around} {E : Value → Shared → Prop} {s : Shared} {x y : Str} {t u : Tok} {Q : Value → Shared → Prop} (hy : (y.length == 0) = false) (hz : x.length + 2 ≤ sizeLine)
    (hq : ∀ l tk, l.map (·.1) = Txt.split x y → Q (.ref s.heap.objs.size) { s with heap := s.heap.push { cls := .type "list", data := .seq (strValues l).toArray }, toks := tk }) :
    wpAny (model prog w) A (call (.builtin "str.split") [.str x t, .str y u]) Q E s := by
  have hsz : x.length ≤ sizeLine := by omega
  have hsz2 : (Builtin.Str.partsBetween x (Builtin.Str.occurrences x y 0 x.length (x.length + 1)) y.length).length ≤ sizeLine := by
    have h1 := StrLaws.occ_length_le x y 0 x.length (x.length + 1)
    rw [len_partsBetween]; omega
  cases h1 : (decide (x.length < y.length) || decide (Builtin.Str.strKind x < Builtin.Str.strKind y))
  · cases hf : (Builtin.Str.occurrences x y 0 x.length (x.length + 1)).isEmpty
    · refine call_meets F.slot_str_split (typeIs_str _ _ _) F.entry_str_split (F.args_str_split_2 _ _) (meets_str_split_sep x y t u h1 hy hf hsz hsz2) ?_
      have := hq (numbered s.toks (Builtin.Str.partsBetween x (Builtin.Str.occurrences x y 0 x.length (x.length + 1)) y.length)) (s.toks + (Builtin.Str.partsBetween x (Builtin.Str.occurrences x y 0 x.length (x.length + 1)) y.length).length) ((numbered_texts _ _).trans ((if_neg (ne_true_of_eq_false h1)).trans (if_neg (ne_true_of_eq_false hf))).symm)
      show wants Q E _ _
      rw [← strsFrom_eq] at this
      exact this
    · exact call_meets F.slot_str_split (typeIs_str _ _ _) F.entry_str_split (F.args_str_split_2 _ _) (meets_str_split_not_found x y t u h1 hy hf)
        (hq [(x, t)] s.toks ((if_neg (ne_true_of_eq_false h1)).trans (if_pos hf)).symm)
  · exact call_meets F.slot_str_split (typeIs_str _ _ _) F.entry_str_split (F.args_str_split_2 _ _) (meets_str_split_cannot_occur x y t u h1)
      (hq [(x, t)] s.toks (if_pos h1).symm)
section
variable {W : Wd}
theorem CL.split {c : Nat} {x : List Nat} (ps : List (List Nat)) (hne : ps ≠ []) (hf : ∀ p ∈ ps, c ∉ p) (hj : joinL [c] ps = x) (hz : x.length ≤ 1000000) : CL W 0 (.builtin "str.split") [tS x, tS [c]] (dt (.list (ps.map sd))) := ⟨fun C O s vs ok e hl B tv Q E q => by
  subst e
  have hsl := sizeLine_eq
  cases tv with
  | cons p r =>
    cases p
    cases r with
    | cons p r =>
      cases r; cases p
      refine split_raw rfl (by rw [S_len]; omega) fun l tk he => ?_
      rw [split_text hne hf hj] at he
      exact q _ tk _ (.push _) (.list (new_off B) ⟨_, Heap.get?_push_size _ rfl, rfl, _, rfl⟩ (by simpa using strL he))⟩
/-! numbers as texts -/
def dg (n : Nat) : List Nat := (Nat.toDigits 10 n).map Char.toNat
theorem dg_text (n : Nat) : PySem.Str.ofString (toString ((n : Nat) : Int)) = S (dg n) := by
  rw [← S_eta (PySem.Str.ofString (toString ((n : Nat) : Int))), KIN.signs_num]; rfl
theorem dg_int {n : Nat} (h : n < 1000000000) : PySem.intText? (S (dg n)) = some (n : Int) := by
  rw [← dg_text]; exact KIN.num_reads (by omega) (by omega)
theorem dg_digit {n c : Nat} (h : c ∈ dg n) : 48 ≤ c ∧ c ≤ 57 := by
  obtain ⟨ch, hch, e⟩ := List.mem_map.mp h
  have r := digit_range (Nat.isDigit_of_mem_toDigits (by decide) (by decide) hch)
  rw [← e]
  exact r
theorem dg_len {n : Nat} (h : n < 1000000000) : (dg n).length ≤ 10 := by
  have := toString_length_le (v := (n : Int)) (k := 10) (by omega) (by decide) (by omega)
  rw [dg_text, S_len] at this
  exact this
theorem CL.int {l : List Nat} {n : Int} (hn : PySem.intText? (S l) = some n) (hl : l.length ≤ 640) : CL W 0 (.type "int") [tS l] (tI n) := ⟨fun C O s vs ok e hlv B tv Q E q => by
  subst e
  cases tv with
  | cons p r => cases r; cases p; exact KIN.call_text hn (by rw [S_len]; exact hl) (q s.heap _ _ .refl (.int _ _))⟩
theorem CL.intD {n : Nat} (h : n < 1000000000) : CL W 0 (.type "int") [tS (dg n)] (tI (n : Int)) := CL.int (dg_int h) (Nat.le_trans (dg_len h) (by decide))
end
section
variable {C : Cx} {ρ : Rho}
/-- '%d.0' % n, '%d.end' % n -/
theorem Bin.pct0 {n : Nat} (h : n < 1000000000) : Bin C .Mod (tS [37, 100, 46, 48]) (tI (n : Int)) (tS (dg n ++ [46, 48])) := fun O s v w ok B pv pw Q E q => by
  cases pv; cases pw
  refine KPc.mod_int (X' := ⟨#[37, 100, 46, 48]⟩) (T := fun i => PySem.Str.ofString (toString i) ++ PySem.Str.ofString ".0") (n := (n : Int)) rfl (by omega) (by omega) ?kpcm fun t' k => ?_
  case kpcm => kpc_run
  have e : PySem.Str.ofString (toString (n : Int)) ++ PySem.Str.ofString ".0" = S (dg n ++ [46, 48]) := by
    rw [dg_text, ← S_app]; congr 1
  rw [e]
  exact q s.heap k _ .refl (.str _ _)
theorem Bin.pctE {n : Nat} (h : n < 1000000000) : Bin C .Mod (tS [37, 100, 46, 101, 110, 100]) (tI (n : Int)) (tS (dg n ++ [46, 101, 110, 100])) := fun O s v w ok B pv pw Q E q => by
  cases pv; cases pw
  refine KPc.mod_int (X' := ⟨#[37, 100, 46, 101, 110, 100]⟩) (T := fun i => PySem.Str.ofString (toString i) ++ PySem.Str.ofString ".end") (n := (n : Int)) rfl (by omega) (by omega) ?kpcm fun t' k => ?_
  case kpcm => kpc_run
  have e : PySem.Str.ofString (toString (n : Int)) ++ PySem.Str.ofString ".end" = S (dg n ++ [46, 101, 110, 100]) := by
    rw [dg_text, ← S_app]; congr 1
  rw [e]
  exact q s.heap k _ .refl (.str _ _)
end
end Mine

namespace Mine
open PySem PySem.W PyProof.Rows PySem.Spec
open PySem.Sre (M ops)

def whtCode : Array Nat := #[14, 4, 0, 0, 4294967295, 6, 0, 24, 9, 0, 4294967295, 13, 4, 8, 12, 0, 1, 6, 5, 1]
theorem cat_sp (c : Nat) : Sre.category 12 c = .ok (isSp c) := by
  unfold Sre.category
  show Except.map (· != false) (Except.ok (Unicode.isSpace c) : Except String Bool) = _
  show Except.ok (isSp c != false) = Except.ok (isSp c)
  generalize isSp c = b
  cases b <;> rfl
theorem acc_wht (c : Nat) (sn : Sre.Seen) : ∃ sn', Sre.accepts whtCode 11 c sn = .ok (isSp c, sn') := by
  show ∃ sn', Sre.inSet whtCode c 20 13 true sn = .ok (isSp c, sn')
  unfold Sre.inSet
  show ∃ sn', (do if ← Sre.category 12 c then pure (true, _) else Sre.inSet whtCode c 19 15 true _) = Except.ok (isSp c, sn')
  rw [cat_sp]
  show ∃ sn', (if isSp c = true then pure (true, _) else Sre.inSet whtCode c 19 15 true _) = Except.ok (isSp c, sn')
  cases isSp c
  · exact ⟨_, rfl⟩
  · exact ⟨_, rfl⟩
theorem isAt5 {m : M} {k : Nat} (hk : k = 5) : m.isAt k = .ok (m.pos == m.lim || (m.pos + 1 == m.lim && m.text.getD m.pos 0 == 10)) := by subst hk; rfl
section
variable {code : Array Nat} {l : List Nat} {pc pos handed wt N : Nat} {marks : Array (Option Nat)} {lm li : Int} {fr : List Sre.Frame} {sn : Sre.Seen} {P : M → Prop}
theorem Ends.at5 (b : Bool) (hop : ops[code.getD pc 0]? = some .AT) (ha : code.getD (pc + 1) 0 = 5) (hpc : pc < code.size) (hb : (pos == l.length || (pos + 1 == l.length && l.toArray.getD pos 0 == 10)) = b)
    (k : ∀ sn, Ends N (if b = true then mS code l (pc + 2) pos handed marks lm li fr wt none none sn else mS code l pc pos handed marks lm li fr wt (some false) none sn) P) : Ends (N + 1) (mS code l pc pos handed marks lm li fr wt none none sn) P := by
  refine Ends.step rfl ?_
  rw [step_exec rfl rfl hpc]
  have e : ∃ sn', (mS code l pc pos handed marks lm li fr wt none none sn).exec = if b = true then mS code l (pc + 2) pos handed marks lm li fr wt none none sn' else mS code l pc pos handed marks lm li fr wt (some false) none sn' := by
    unfold M.exec
    rw [show ops[(mS code l pc pos handed marks lm li fr wt none none sn).word 0]? = some .AT from hop]
    refine ⟨(sn.add (code.getD pc 0)).add (43 + code.getD (pc + 1) 0), ?_⟩
    show (match M.isAt _ (code.getD (pc + 1) 0) with | .error why => _ | .ok yes => _) = _
    have key : ∀ m : M, m.pos = pos → m.lim = l.length → m.text = l.toArray → m.isAt (code.getD (pc + 1) 0) = .ok b := fun m h1 h2 h3 => by rw [isAt5 ha, h1, h2, h3, hb]
    rw [key _ rfl rfl rfl]
    cases b <;> rfl
  obtain ⟨sn', e⟩ := e
  rw [e]
  exact k _
theorem Ends.backF0 {f : Sre.Frame} (hf : f.wait = .giveBack) (hk : f.outermost = true) (hc : f.count = 0) (hkp : f.kept = { lastmark := lm, lastindex := li }) (hl : code.getD (f.pc + 2) 0 = 0) (k : Ends N (mS code l f.pc f.pos handed marks lm li fr (wt - 1) (some false) none sn) P) : Ends (N + 1) (mS code l pc pos handed marks lm li (f :: fr) wt (some false) none sn) P := by
  refine Ends.step rfl ?_
  rw [step_back (f := f) (rest := fr) (yes := false) rfl rfl rfl]
  have e : M.resume { mS code l pc pos handed marks lm li (f :: fr) wt (some false) none sn with answer := none, frames := fr, weight := wt - (1 + f.kept.marks.size), pc := f.pc, pos := f.pos, outermost := f.outermost } f false = mS code l f.pc f.pos handed marks lm li fr (wt - 1) (some false) none sn := by
    unfold M.resume
    rw [hf]
    show (if f.count - 1 < ((code.getD (f.pc + 2) 0 : Nat) : Int) then _ else _) = _
    rw [hc, hl, if_pos (by decide), hkp]
    show M.say _ false = _
    unfold M.say mS
    rw [hk]
    rfl
  exact e ▸ k
theorem Ends.backF1 {f : Sre.Frame} (j : Nat) (hf : f.wait = .giveBack) (hk : f.outermost = true) (hc : f.count = ((j + 1 : Nat) : Int)) (hkp : f.kept = { lastmark := lm, lastindex := li }) (hl : code.getD (f.pc + 2) 0 = 0) (hw : wt ≤ 1000) (hw1 : 1 ≤ wt)
    (k : Ends N (mS code l (f.pc + 1 + code.getD (f.pc + 1) 0) (f.pos - 1) (f.pos - 1) marks lm li ({ wait := .giveBack, pc := f.pc, pos := f.pos - 1, outermost := true, count := (j : Int), kept := { lastmark := lm, lastindex := li } } :: fr) wt none none sn) P) : Ends (N + 1) (mS code l pc pos handed marks lm li (f :: fr) wt (some false) none sn) P := by
  refine Ends.step rfl ?_
  rw [step_back (f := f) (rest := fr) (yes := false) rfl rfl rfl]
  have e : M.resume { mS code l pc pos handed marks lm li (f :: fr) wt (some false) none sn with answer := none, frames := fr, weight := wt - (1 + f.kept.marks.size), pc := f.pc, pos := f.pos, outermost := f.outermost } f false = mS code l (f.pc + 1 + code.getD (f.pc + 1) 0) (f.pos - 1) (f.pos - 1) marks lm li ({ wait := .giveBack, pc := f.pc, pos := f.pos - 1, outermost := true, count := (j : Int), kept := { lastmark := lm, lastindex := li } } :: fr) wt none none sn := by
    unfold M.resume
    rw [hf]
    show (if f.count - 1 < ((code.getD (f.pc + 2) 0 : Nat) : Int) then _ else _) = _
    rw [hc, hl, if_neg (by omega), hkp]
    show M.attempt _ _ _ _ _ = _
    unfold M.attempt
    have hw' : ¬ (wt - (1 + (#[] : Array (Option Nat)).size) + 1 + (#[] : Array (Option Nat)).size > 16777216) := by simp; omega
    show (if wt - (1 + (#[] : Array (Option Nat)).size) + 1 + (#[] : Array (Option Nat)).size > 16777216 then _ else _) = _
    rw [if_neg hw']
    have e1 : wt - (1 + (#[] : Array (Option Nat)).size) + 1 + (#[] : Array (Option Nat)).size = wt := by simp; omega
    have e2 : ((j + 1 : Nat) : Int) - 1 = (j : Int) := by omega
    show M.mk _ _ _ _ _ _ _ _ _ _ _ _ _ _ _ _ ({ wait := .giveBack, pc := f.pc, pos := f.pos - 1, outermost := f.outermost, count := ((j + 1 : Nat) : Int) - 1, kept := { lastmark := lm, lastindex := li } } :: fr) (wt - (1 + (#[] : Array (Option Nat)).size) + 1 + (#[] : Array (Option Nat)).size) _ _ _ = _
    rw [e1, e2, hk]
    rfl
  exact e ▸ k
end

theorem fail_loop {l : List Nat} {P : M → Prop} (hP : ∀ m : M, m.outcome = some .failed → P m) : ∀ (j handed : Nat) (sn : Sre.Seen), j < l.length → (j + 1 = l.length → l.toArray.getD j 0 ≠ 10) →
    Ends (2 * j + 3) (mS whtCode l 17 j handed #[] (-1) (-1) [{ wait := .giveBack, pc := 7, pos := j, outermost := true, count := (j : Int), kept := { lastmark := -1, lastindex := -1 } }] 1 none none sn) P
  | 0, handed, sn, h, h10 => by
    refine Ends.at5 false rfl rfl (by decide) ?_ fun sn => ?_
    · rw [show (0 == l.length) = false by simp; omega]
      by_cases e : 1 = l.length
      · have z := h10 (by omega); rw [show (l.toArray.getD 0 0 == 10) = false from by simpa using z, Bool.and_false]; rfl
      · simp; omega
    · rw [if_neg (by decide)]
      exact Ends.backF0 rfl rfl rfl rfl rfl (Ends.out (hP _ rfl))
  | j + 1, handed, sn, h, h10 => by
    refine Ends.at5 false rfl rfl (by decide) ?_ fun sn => ?_
    · rw [show (j + 1 == l.length) = false by simp; omega]
      by_cases e : j + 1 + 1 = l.length
      · have z := h10 (by omega); rw [show (l.toArray.getD (j + 1) 0 == 10) = false from by simpa using z, Bool.and_false]; rfl
      · simp; omega
    · rw [if_neg (by decide)]
      exact Ends.backF1 j rfl rfl rfl rfl rfl (by decide) (by decide) (fail_loop hP j j sn (by omega) (by omega))
def allW (l : List Nat) : Bool := l.all isSp
theorem tw_all_iff (p : Nat → Bool) : ∀ l : List Nat, (l.takeWhile p).length = l.length ↔ l.all p = true
  | [] => by simp
  | a :: r => by
    cases h : p a with
    | true => simp [h, tw_all_iff p r]
    | false => simp [h]
theorem tw_at (p : Nat → Bool) : ∀ l : List Nat, (l.takeWhile p).length < l.length → p (l.getD (l.takeWhile p).length 0) = false
  | [], h => by simp at h
  | a :: r, h => by
    cases ha : p a with
    | true =>
      rw [List.takeWhile_cons, ha, if_pos rfl, List.length_cons, List.length_cons] at h
      rw [List.takeWhile_cons, ha, if_pos rfl, List.length_cons]
      exact tw_at p r (by omega)
    | false => simp [ha]
theorem ends_wht {l : List Nat} (hz : l.length ≤ sizeLine) : Ends (2 * l.length + 7) (Sre.forMatch whtCode l.toArray 0 0 l.length false false) fun m => (allW l = true ∧ m.outcome = some .matched ∧ m.start = 0 ∧ m.handed = l.length ∧ m.lastmark = -1 ∧ m.marks = #[] ∧ m.lastindex = -1) ∨ (allW l = false ∧ m.outcome = some .failed) := by
  show Ends (2 * l.length + 7) (mS whtCode l 5 0 0 #[] (-1) (-1) [] 0 none none _) _
  refine Ends.at0 rfl rfl (by decide) fun _ => ?_
  refine Ends.rep (l.takeWhile isSp).length rfl rfl rfl (Nat.zero_le _) (by decide) (by decide) hz isSp acc_wht rfl fun sn => ?_
  rw [Nat.zero_add]
  by_cases h : (l.takeWhile isSp).length = l.length
  · have ha : allW l = true := (tw_all_iff isSp l).mp h
    refine Ends.at5 (N := 2 * l.length + 4) true rfl rfl (by decide) (by rw [h]; simp) fun sn => ?_
    rw [if_pos rfl]
    refine Ends.succ (N := 2 * l.length + 3) rfl (by decide) fun _ => ?_
    refine Ends.back (N := 2 * l.length + 2) rfl rfl ?_
    refine Ends.out (N := 2 * l.length + 1) ?_
    exact .inl ⟨ha, rfl, rfl, h, rfl, rfl, rfl⟩
  · have ha : allW l = false := by
      cases e : allW l with
      | false => rfl
      | true => exact absurd ((tw_all_iff isSp l).mpr e) h
    have hlt : (l.takeWhile isSp).length < l.length := by
      have := (List.takeWhile_sublist (l := l) isSp).length_le; omega
    have hsp := tw_at isSp l hlt
    have e10 : l.toArray.getD (l.takeWhile isSp).length 0 ≠ 10 := by
      have : l.toArray.getD (l.takeWhile isSp).length 0 = l.getD (l.takeWhile isSp).length 0 := by simp [Array.getD, List.getD_eq_getElem?_getD, hlt]
      rw [this]
      intro z
      rw [z] at hsp
      exact absurd hsp (by decide +kernel)
    have := fail_loop (l := l) (P := fun m => (allW l = true ∧ m.outcome = some .matched ∧ m.start = 0 ∧ m.handed = l.length ∧ m.lastmark = -1 ∧ m.marks = #[] ∧ m.lastindex = -1) ∨ (allW l = false ∧ m.outcome = some .failed)) (fun m hm => .inr ⟨ha, hm⟩) (l.takeWhile isSp).length (l.takeWhile isSp).length sn hlt (fun _ => e10)
    obtain ⟨m', e, o, p⟩ := this
    refine ⟨m', ?_, o, p⟩
    obtain ⟨d, hd⟩ : ∃ d, 2 * l.length + 5 = 2 * (l.takeWhile isSp).length + 3 + d := ⟨2 * l.length + 5 - (2 * (l.takeWhile isSp).length + 3), by omega⟩
    rw [hd, runFor_add]
    exact (congrArg (M.runFor d) e).trans (runFor_done o d)
section
variable {W : Wd}
/-- None or a match -/
def whtT (l : List Nat) : Ty := if allW l = true then matT l [0, (l.length : Int)] else dt .none
theorem Cl.matchWht {pa ca : Addr} {l : List Nat} (hp : Pat W.K pa ca whtCode 0) (hz : l.length ≤ 100000000) (hz' : l.length ≤ sizeLine) : Cl W 0 (.builtin "re.Pattern.match") [eqT (.ref pa), tS l] (whtT l) := by
  refine Cl.match_ (sp := none) hp hz' (ends_wht hz') (by omega) _ (fun C O s m t Q E pm mm B q => ?_) (fun m pm mm => ?_) fun m why pm => ?_
  · rcases pm with ⟨ha, _, e1, e2, h1, h2, _⟩ | ⟨_, pm⟩
    · unfold whtT at q
      rw [if_pos ha] at q
      refine newMatch B ?_ ?_ (by simp) q
      · simp
      · rw [e1, e2]; simp
    · rw [pm] at mm; cases mm
  · rcases pm with ⟨_, pm, _⟩ | ⟨ha, _⟩
    · rw [pm] at mm; cases mm
    · unfold whtT
      rw [if_neg (by rw [ha]; decide)]
      intro O h
      exact .none
  · rcases pm with ⟨_, pm, _⟩ | ⟨_, pm⟩ <;> rw [pm] <;> (intro z; cases z)
end
end Mine

namespace Mine
open PySem PySem.W PyProof.Rows PySem.Spec

section
variable {C : Cx} {ρ : Rho}
/-- x, y = map(int, e) -/
theorem Ex1.mapInt {elts : List Expr} {k : Nat} {tp p q1 q2 pos : Pos} {e : Expr} (x y : Str) {a b : List Nat} {n m : Int} (hm : Ev C ρ (.Name "map" q1) (eqT (.type "map"))) (hi : Ev C ρ (.Name "int" q2) (eqT (.type "int"))) (h : Ev C ρ e (dt (.list [sd a, sd b])))
    (ha : PySem.intText? (S a) = some n) (hb : PySem.intText? (S b) = some m) (la : a.length ≤ 640) (lb : b.length ≤ 640) (hst : stoAll [x, y] [.int n, .int m] ρ) (hn : namesOf elts = some [x, y] := by rfl) (ns : notStar e = true := by rfl)
    (hs : ∀ env, swapsWithSole [.Tuple elts k tp] (.Call (.Name "map" q1) [.Name "int" q2, e] [] pos) p.line env = pure false := by intro _; rfl) (hw : ∀ env : Env, env.scope.kind = .function → env.scope.names = C.names → swappedStores [.Tuple elts k tp] (.Call (.Name "map" q1) [.Name "int" q2, e] [] pos) env = pure none := by intro _ h1 h2; rfl) :
    Ex1 C ρ (.Assign [.Tuple elts k tp] (.Call (.Name "map" q1) [.Name "int" q2, e] [] pos) p) (fun o => o = .next (putAll ([x, y].zip [.int n, .int m]) ρ)) := fun Ob Mb ad s Q E S q => by
  refine Assign_Tuple (Call_ (hm Ob Mb ad s S _ E fun h' tk v y₁ pv => ?_) (eval_callN _ _ _ _ _)) (hs _) (hw _ S.ok.kind S.ok.nm)
  cases (pv : v = .type "map")
  have HA : EvL C ρ [.Name "int" q2, e] [eqT (.type "int"), dt (.list [sd a, sd b])] := EvL.cons' hi (EvL.cons' h EvL.nil ns) rfl
  refine wpAny_args (KeepOk.type) (HA Ob Mb ad { s with heap := h', toks := tk } pos _ E (S.step y₁) fun h₂ tk₂ vs y₂ pvs => ⟨((S.step y₁).step y₂).kin, ?_⟩) (starEach_ns rfl _ _) (any_star (by simp [ns]))
  cases pvs with
  | cons p1 r1 =>
  cases r1 with
  | cons p2 r2 =>
  cases r2
  rename_i v1 v2
  cases (p1 : v1 = .type "int")
  cases p2 with
  | list nO hL rl =>
  rename_i l items
  have hit : ∃ t u, items = #[.str (Mine.S a) t, .str (Mine.S b) u] := by
    obtain ⟨il⟩ := items
    cases rl with
    | cons z1 r1 => cases r1 with
      | cons z2 r2 =>
        cases r2
        cases z1; cases z2
        exact ⟨_, _, rfl⟩
  obtain ⟨t, u, rfl⟩ := hit
  refine call_map (s := { s with heap := h₂, toks := tk₂ }) hL fun h₃ m₃ tp₃ it MA nit k₃ => ?_
  obtain ⟨sl, fi⟩ := stoL_of (env := C.env) hn
  have hlen : (assignEach elts C.env).length = 2 := by rw [← List.length_map (f := (·.2)), sl.length]; rfl
  rw [arm_assign_Tuple]
  refine wpAny_bind (wpAny_standAt ?_)
  unfold PySem.unpack
  rw [fi, hlen]
  refine wpAny_bind (wpAny_holding (map_unpack (s := { s with heap := h₃, toks := tk₂ }) S.ok.hd MA ha hb (by rw [S_len]; exact la) (by rw [S_len]; exact lb) fun h₄ tk₄ t1 t2 ex => ?_))
  have y₃ : Step C.W (OO Ob ρ ad) h₂ h₄ := .of_ext fun b o eb => ex b o (fun z => by rw [z, nit] at eb; cases eb) (k₃ b o eb)
  have yy := y₁.trans (y₂.trans y₃)
  have S₂ := S.step yy
  refine stores (s := { s with heap := h₄, toks := tk₄ }) sl S₂ (.cons (.int _ _) (.cons (.int _ _) .nil)) hst fun h₅ tk₅ S₅ w₅ g₅ => ?_
  exact q .next h₅ tk₅ _ rfl ⟨ad, S₅, fun a o _ w => w₅ a w⟩ ((Agree.mt S yy).trans (g₅.wk fun a w => .inl w))
theorem EX1.mapInt {elts : List Expr} {k : Nat} {tp p q1 q2 pos : Pos} {e : Expr} (x y : Str) {a b : List Nat} {n m : Int} (hm : EV C ρ (.Name "map" q1) (eqT (.type "map"))) (hi : EV C ρ (.Name "int" q2) (eqT (.type "int"))) (h : EV C ρ e (dt (.list [sd a, sd b])))
    (ha : PySem.intText? (S a) = some n) (hb : PySem.intText? (S b) = some m) (la : a.length ≤ 640) (lb : b.length ≤ 640) (hst : stoAll [x, y] [.int n, .int m] ρ) (hn : namesOf elts = some [x, y] := by rfl) (ns : notStar e = true := by rfl)
    (hs : ∀ env, swapsWithSole [.Tuple elts k tp] (.Call (.Name "map" q1) [.Name "int" q2, e] [] pos) p.line env = pure false := by intro _; rfl) (hw : ∀ env : Env, env.scope.kind = .function → env.scope.names = C.names → swappedStores [.Tuple elts k tp] (.Call (.Name "map" q1) [.Name "int" q2, e] [] pos) env = pure none := by intro _ h1 h2; rfl) :
    EX1 C ρ (.Assign [.Tuple elts k tp] (.Call (.Name "map" q1) [.Name "int" q2, e] [] pos) p) (putAll ([x, y].zip [.int n, .int m]) ρ) := ⟨Ex1.mapInt x y hm.un hi.un h.un ha hb la lb hst hn ns hs hw⟩
end

/-- the world of a law that makes pages: its code table is hidden -/
abbrev pageW (prog : Program) (w : World) (K : Frag) (h : Heap) (gs : List (Str × Value)) (c P : Addr) (q : Str) : Wd := ⟨prog, w, K, ghostOf h [(c, P)], fun a => a = P, tabI P q, gs⟩
theorem law_runT {prog : Program} {w : World} {K : Frag} {gs : List (Str × Value)} {p : Program} {loose : List Str} {s₁ : Shared} {mg mb : Str → Option Value} {f fa l : Addr} {vs : List Value} {ns : List Int} {as : List Addr} {cw : ClaimW} {cl : Str → Option Addr} {mean mean' : ExcName → Option Value} {args : List WData} {lv : Nat} {d : DefRec} (c P : Addr) (q : Str)
    (KX : K.In s₁.heap) (T : Top p loose mean' mg mb s₁.heap) (hgs : ∀ q ∈ gs, GlobV K q.1 q.2) (hn : nsIn K mainGlobals "law" = some (some (.ref f))) (hmg : mg "law" = some (.ref fa)) (hg : s₁.gens = #[]) (hL : s₁.heap.IsList l vs.toArray) (ra : ReadsAll s₁.heap vs (ns.map .int) as) (hlv : lv ≤ 20)
    (hr : ∀ cls, cw.raises args cls = false) (hp : cw.post args (.bool true) args = true) (hK : noTabs K = true) (hd : (recsOf p).find? (fun e => e.name == ("_law_page" : Str)) = some d) (ht : tabIn K "_law_page" = some (c, P))
    (law : ∀ (W : Wd), W.Ok → W.K = K → W.gs = gs → TabOk W c P q → Cl W lv (.ref f) [tIs ns] (tB true)) :
    wpAny (model prog w) callerA (call (.ref fa) [.ref l]) (fun v s' => GoodWG cw cl mean args s₁ (.ok (.ret v)) s') (fun e s' => GoodWG cw cl mean args s₁ (.error e) s') s₁ := by
  have e1 := mg_of KX T.g hn
  rw [hmg] at e1
  cases e1
  have hT : TabsAt [(c, P)] s₁.heap := fun r hr => by
    cases hr with
    | head => exact tab_of T KX hd ht
    | tail _ z => cases z
  have hT1 := hT (c, P) (.head _)
  have hP : s₁.heap.get? P = some (tabObj #[]) := hT1.2
  have GT := ghost_top hT T
  have gl : ∀ x v, gs.lookup x = some v → GlobV K x v := fun x v e => hgs _ (mem_of_lookup e)
  have gP : (ghostOf s₁.heap [(c, P)]).get? P = none := hideAll_none _ (.head _)
  have okW : (pageW prog w K s₁.heap gs c P q).Ok := ⟨ghost_K hT KX hK, ⟨_, _, _, _, topRead_of GT⟩, fun a h => by cases (h : a = P); exact gP, gl⟩
  have TK : TabOk (pageW prog w K s₁.heap gs c P q) c P q := ⟨fun _ => Iff.rfl, fun _ _ z => z, fun _ _ z => z, (ghost_code hT).1, ⟨mg, GT.g, GT.bmain⟩⟩
  let env : Env := { scope := { kind := .function, names := [], isGenerator := false, isCoroutine := false }, locals := 0, globals := mainGlobals, cells := [], builtins := builtinsNs }
  have ok : Cx.Ok ⟨pageW prog w K s₁.heap gs c P q, callerA, env, lv, []⟩ := by
    refine ⟨okW, rfl, ?_, ?_, rfl, rfl, rfl, rfl⟩
    · show 1 + claimMargin + lv < recursionLimit
      unfold claimMargin recursionLimit; omega
    · show 4 + 100 * lv + 200 < cLine
      unfold cLine; omega
  have B : Base (pageW prog w K s₁.heap gs c P q) (fun a => a = P) s₁.heap := ⟨fun b o e => of_hideAll _ e, fun _ h => h, fun a h => by cases h; exact gP, fun a h => by cases h; exact ⟨_, hP⟩, ⟨#[], hP, trivial, fun pos v e => by cases e⟩⟩
  have lP : ¬ l = P := fun z => by
    obtain ⟨o, e, hc, _⟩ := hL
    rw [z, hP] at e; cases e; cases hc
  refine law _ okW rfl rfl TK ⟨pageW prog w K s₁.heap gs c P q, callerA, env, lv, []⟩ (fun a => a = P) s₁ [.ref l] ok rfl (Nat.le_refl _) B (.cons (.list lP hL (by simpa using RepL.ints ra)) .nil) _ _ fun h' tk v y pv => ?_
  cases pv
  have inv' : TabInv P q (fun a => a = P) h' := y.inv B.inv
  obtain ⟨ps, eP, _⟩ := inv'
  refine ⟨.inl ⟨_, .bool true, [], rfl, hr, .bool true, hp, fun _ => ⟨List.nodup_nil, fun _ h => by cases h⟩⟩, ⟨fun b o e => ?_, fun b o e => ?_⟩, rfl, .of_eq hg⟩
  · by_cases hb : b = P
    · subst hb
      rw [hP] at e; cases e
      exact .inr (.inl ⟨(hT1.1.tab hP).isCodeTable, rfl, #[], ps, rfl, by rw [Array.empty_append]; exact eP⟩)
    · exact .inl (y.ag.2 b o hb e)
  · exact y.ag.1 b o e
end Mine

namespace Mine
open PySem PySem.W PyProof.Rows PySem.Spec

/-- header, rest -/
def hdrL (l : List Nat) : List Nat := l.take (hdrN l)
def rstL (l : List Nat) : List Nat := l.drop (hdrN l)
def fullR (l : List Nat) : Bool := !allW (rstL l)
theorem hdrL_len (l : List Nat) : (hdrL l).length = hdrN l := by
  have := hdrN_le l; unfold hdrL; rw [List.length_take]; omega
/-- row n of the page, as Tk keeps it -/
def rowAt (rows : List (List Nat)) : Nat → List Nat
  | 0 => []
  | n + 1 => rows.getD n []
def gdR (rows : List (List Nat)) (H : List Nat) (i : Nat) : Bool := decide (hdrL (rowAt rows i) = H) && fullR (rowAt rows i)
/-- rows a to b - 1, with their line ends -/
def cutR (rows : List (List Nat)) (a b : Nat) : List Nat := (((rows.drop (a - 1)).take (b - a)).map (· ++ [10])).flatten
/-- what find_paragraph finds -/
structure FindS (rows : List (List Nat)) (m s e b : Nat) : Prop where
  ms : m ≤ s
  wh : ∀ i, m ≤ i → i < s → i ≤ rows.length ∧ allW (rowAt rows i) = true
  st : ¬ (s ≤ rows.length ∧ allW (rowAt rows s) = true)
  se : s ≤ e
  ge : ∀ i, s ≤ i → i < e → gdR rows (hdrL (rowAt rows s)) i = true
  en : gdR rows (hdrL (rowAt rows s)) e = false
  bs : b < s
  gb : ∀ i, b < i → i < s → gdR rows (hdrL (rowAt rows s)) i = true
  be : b = 0 ∨ gdR rows (hdrL (rowAt rows s)) b = false
abbrev fpd (rows : List (List Nat)) (a e : Nat) (H : List Nat) : PyData := .tuple [sd (dg a ++ [46, 48]), sd (dg e ++ [46, 48]), sd H, sd (cutR rows a e)]

theorem rowAt_big {rows : List (List Nat)} {n : Nat} (h : rows.length < n) : rowAt rows n = [] := by
  cases n with
  | zero => rfl
  | succ n => simp [rowAt, List.getD_eq_getElem?_getD, List.getElem?_eq_none (by omega : rows.length ≤ n)]
theorem rowAt_mem {rows : List (List Nat)} {n : Nat} : rowAt rows n = [] ∨ rowAt rows n ∈ rows := by
  cases n with
  | zero => exact .inl rfl
  | succ n =>
    by_cases h : n < rows.length
    · refine .inr ?_
      simp [rowAt, List.getD_eq_getElem?_getD, List.getElem?_eq_getElem h]
    · exact .inl (rowAt_big (by omega))
theorem rowAt_get {rows : List (List Nat)} {n : Nat} (h0 : 0 < n) (h : n ≤ rows.length) : rows[n - 1]? = some (rowAt rows n) := by
  cases n with
  | zero => omega
  | succ n => simp [rowAt, List.getD_eq_getElem?_getD, List.getElem?_eq_getElem (by omega : n < rows.length)]
theorem full_nil : fullR [] = false := by rfl
theorem gd_big {rows : List (List Nat)} {H : List Nat} {n : Nat} (h : rows.length < n) : gdR rows H n = false := by
  unfold gdR; rw [rowAt_big h, full_nil, Bool.and_false]

/-- up to the first that is not -/
theorem up_ex (p : Nat → Bool) : ∀ (d n : Nat), p (n + d) = false → ∃ e, n ≤ e ∧ e ≤ n + d ∧ (∀ i, n ≤ i → i < e → p i = true) ∧ p e = false
  | 0, n, h => ⟨n, Nat.le_refl _, Nat.le_refl _, fun i a b => by omega, h⟩
  | d + 1, n, h => by
    cases e : p n with
    | false => exact ⟨n, Nat.le_refl _, by omega, fun i a b => by omega, e⟩
    | true =>
      obtain ⟨e', h1, h2, h3, h4⟩ := up_ex p d (n + 1) (by rw [← h]; congr 1; omega)
      exact ⟨e', by omega, by omega, fun i a b => if z : i = n then z ▸ e else h3 i (by omega) b, h4⟩
theorem dn_ex (p : Nat → Bool) : ∀ (n : Nat), ∃ b, b ≤ n ∧ (∀ i, b < i → i ≤ n → p i = true) ∧ (b = 0 ∨ p b = false)
  | 0 => ⟨0, Nat.le_refl _, fun i a b => by omega, .inl rfl⟩
  | n + 1 => by
    cases e : p (n + 1) with
    | false => exact ⟨n + 1, Nat.le_refl _, fun i a b => by omega, .inr e⟩
    | true =>
      obtain ⟨b, h1, h2, h3⟩ := dn_ex p n
      exact ⟨b, by omega, fun i a c => if z : i = n + 1 then z ▸ e else h2 i a (by omega), h3⟩
theorem FindS.le {rows : List (List Nat)} {m s e b : Nat} (F : FindS rows m s e b) (hm : m ≤ rows.length + 1) : s ≤ rows.length + 1 ∧ e ≤ rows.length + 1 := by
  have h1 : s ≤ rows.length + 1 := by
    by_cases z : m = s
    · omega
    · have := (F.wh (s - 1) (by have := F.ms; omega) (by have := F.ms; omega)).1; omega
  refine ⟨h1, ?_⟩
  by_cases z : s = e
  · omega
  · have := F.ge (e - 1) (by have := F.se; omega) (by have := F.se; omega)
    by_cases q : rows.length < e - 1
    · rw [gd_big q] at this; cases this
    · omega
theorem find_ex (rows : List (List Nat)) (m : Nat) (h0 : 1 ≤ m) (hm : m ≤ rows.length + 1) : ∃ s e b, FindS rows m s e b := by
  obtain ⟨s, a1, a2, a3, a4⟩ := up_ex (fun i => decide (i ≤ rows.length) && allW (rowAt rows i)) (rows.length + 1 - m) m (by
    rw [show m + (rows.length + 1 - m) = rows.length + 1 by omega]
    show (decide (rows.length + 1 ≤ rows.length) && _) = false
    rw [decide_eq_false (by omega), Bool.false_and])
  obtain ⟨e, b1, b2, b3, b4⟩ := up_ex (gdR rows (hdrL (rowAt rows s))) (rows.length + 1 - s) s (by
    rw [show s + (rows.length + 1 - s) = rows.length + 1 by omega]; exact gd_big (by omega))
  obtain ⟨b, c1, c2, c3⟩ := dn_ex (gdR rows (hdrL (rowAt rows s))) (s - 1)
  refine ⟨s, e, b, a1, fun i x y => by simpa using a3 i x y, fun z => by simp [z.1, z.2] at a4, b1, b3, b4, by omega, fun i x y => c2 i x (by omega), c3⟩
theorem joinL_nil : ∀ (ls : List (List Nat)), joinL [] ls = ls.flatten
  | [] => rfl
  | [a] => by simp [joinL]
  | a :: b :: r => by
    have := joinL_nil (b :: r)
    simp only [joinL, List.nil_append] at this ⊢
    rw [this]; simp
theorem len_flat {n : Nat} : ∀ {ls : List (List Nat)}, (∀ l ∈ ls, l.length ≤ n) → (ls.map (·.length)).sum ≤ ls.length * n
  | [], _ => by simp
  | a :: r, h => by
    have h1 := h a (.head _)
    have h2 := len_flat (ls := r) fun l hl => h l (.tail _ hl)
    simp only [List.map_cons, List.sum_cons, List.length_cons, Nat.add_mul]; omega
theorem Itm.rowsMid {C : Cx} {α : Type} {f : α → PyData} {rows : List α} {a b : Nat} (ha : a ≤ rows.length) (hz : rows.length ≤ sizeLine) : Itm C (dt (.list (rows.map f))) (slcT (some (a : Int)) (some (b : Int)) none) (dt (.list (((rows.drop a).take (b - a)).map f))) := by
  have := Itm.listSlice (C := C) (ds := rows.map f) (lo := some (a : Int)) (hi := some (b : Int)) (by rw [List.length_map]; exact hz)
  rw [slice_mid _ _ _ (by rw [List.length_map]; exact ha), ← List.map_drop, ← List.map_take] at this
  exact this
def lamN1 : List (Str × NameKind) := [("start", .local), ("stop", .local), ("rows", .free), ("_law_get", .globalImplicit)]
def lamN2 : List (Str × NameKind) := [("start", .local), ("sign", .local), ("stop", .local), ("rows", .free), ("int", .globalImplicit), ("len", .globalImplicit)]
/-- the lambdas of _law_page -/
structure PgK (K : Frag) (L1 L2 : LamS) : Prop where
  b1 : ∃ p1 p2 p3 p4 p5, L1.b = .Call (.Name "_law_get" p1) [.Name "rows" p2, .Name "start" p3, .Name "stop" p4] [] p5
  n1 : L1.sc.names = lamN1
  k1 : L1.sc.isCoroutine = false ∧ L1.sc.isGenerator = false ∧ L1.sc.kind = .function
  i1 : ∀ cR (s : Shared) (v1 v2 : Value) pm c ctv, BindsTo s (kla_fn "<lambda>" "_law_page.<locals>.<lambda>" L1.p L1.b L1.sc [("rows", cR)] pm (.ref c) ctv) ⟨[v1, v2], []⟩ [("start", v1), ("stop", v2)]
  b2 : ∃ p1 k1 p2 p3 p4 p5 p6 p7 k2 p8 k3 p9 p10 p11 p12 p13 p14 p15 p16, ∃ pl : Env → Sem Bool, L2.b = .BoolOp .And [.Compare (.Name "sign" p1) [.Eq] [.Constant (.str "<") k1 p2] p3, .Compare (.Call (.Name "int" p4) [.Subscript (.Call (.Attribute (.Name "start" p5) "split" p6) [.Constant (.str ".") k2 p7] [] p8) (.Constant (.int 0) k3 p9) p10] [] p11) [.LtE] [.Call (.Name "len" p12) [.Name "rows" p13] [] p14] p15] p16 ∧
    ∀ env, eval (.Call (.Attribute (.Name "start" p5) "split" p6) [.Constant (.str ".") k2 p7] [] p8) env = (do
      let ov ← eval (.Name "start" p5) env
      standAt p6.atName
      let (f, first) ← holding [ov] (getMethod ov "split" (pl env))
      callWith p8 f first (backTo p8 (starEach [.Constant (.str ".") k2 p7] env)) [])
  n2 : L2.sc.names = lamN2
  k2 : L2.sc.isCoroutine = false ∧ L2.sc.isGenerator = false ∧ L2.sc.kind = .function
  i2 : ∀ cR (s : Shared) (v1 v2 v3 : Value) pm c ctv, BindsTo s (kla_fn "<lambda>" "_law_page.<locals>.<lambda>" L2.p L2.b L2.sc [("rows", cR)] pm (.ref c) ctv) ⟨[v1, v2, v3], []⟩ [("start", v1), ("sign", v2), ("stop", v3)]
/-- _law_page -/
structure PgFn (K : Frag) (f c : Addr) (L1 L2 : LamS) : Prop where
  fn : ∃ oc od osl name params scope dV kV doc pm an ct p1 p2 k1 p3 p4 p5 p6 p7 p8 p9 p10 p11 p12 p13 p14 p15, K.lookup f = some ⟨oc, od, .func (fnOf name "_law_page" params [.Assign [.Name "page" p1] (.Call (.Name "Rstrip" p2) [.Constant .none k1 p3] [] p4) p5, .Assign [.Attribute (.Name "page" p6) "get" p7] (.Lambda L1.p L1.b L1.sc p8) p9, .Assign [.Attribute (.Name "page" p10) "compare" p11] (.Lambda L2.p L2.b L2.sc p12) p13, .Return (some (.Name "page" p14)) p15] scope dV kV doc pm an (.ref c) ct), osl⟩ ∧
    (∀ (s : Shared) (a : Value), BindsTo s (fnOf name "_law_page" params [.Assign [.Name "page" p1] (.Call (.Name "Rstrip" p2) [.Constant .none k1 p3] [] p4) p5, .Assign [.Attribute (.Name "page" p6) "get" p7] (.Lambda L1.p L1.b L1.sc p8) p9, .Assign [.Attribute (.Name "page" p10) "compare" p11] (.Lambda L2.p L2.b L2.sc p12) p13, .Return (some (.Name "page" p14)) p15] scope dV kV doc pm an (.ref c) ct) ⟨[a], []⟩ [("rows", a)]) ∧ scope.names = pgNames ∧ scope.isCoroutine = false ∧ scope.isGenerator = false ∧ scope.kind = .function
  cd : codeIn K (.ref c) "_law_page" = true
  d1 : ∀ env, defaultsOf L1.p env = ([], [])
  d2 : ∀ env, defaultsOf L2.p env = ([], [])
theorem CL.pageK {W : Wd} {f c P Cc fI : Addr} {L1 L2 : LamS} {lv : Nat} {rows : List (List Nat)} (F : PgFn W.K f c L1 L2) (G : PgK W.K L1 L2) (TK : TabOk W c P "_law_page.<locals>.<lambda>") (CK : ClsOk W.K Cc fI) (hgs : W.gs.lookup ("Rstrip" : Str) = some (.ref Cc)) (hkp : keepIn W.K (.ref Cc) = true) :
    CL W (lv + 3) (.ref f) [tSs rows] (pageT W Cc "_law_page.<locals>.<lambda>" L1 L2 rows) := by
  obtain ⟨⟨oc, od, osl, name, params, scope, dV, kV, doc, pm, an, ct, p1, p2, k1, p3, p4, p5, p6, p7, p8, p9, p10, p11, p12, p13, p14, p15, ho, hb, hn, hc, hg, hk⟩, hcd, d1, d2⟩ := F
  have fr1 : ∀ n, (n, NameKind.free) ∈ L1.sc.names → n = "rows" := fun n h => by
    rw [G.n1] at h
    simp [lamN1] at h
    exact h
  have fr2 : ∀ n, (n, NameKind.free) ∈ L2.sc.names → n = "rows" := fun n h => by
    rw [G.n2] at h
    simp [lamN2] at h
    exact h
  exact ⟨Cl.page TK CK (by kernel_rfl) ho hcd hb hn hgs hkp d1 d2 fr1 fr2 (fun a => by rw [G.n1]; rfl) (fun a => by rw [G.n2]; rfl) hc hg hk⟩

section
variable {W : Wd} {A : Around} {env : Env} {lv : Nat} {names : List (Str × NameKind)} {ρ : Rho} {P c Cc fI fg : Addr} {L1 L2 : LamS} {rows : List (List Nat)}
/-- page.get(a, b), by what _law_get gives -/
theorem EV.get {o e1 e2 : Expr} {apos pos : Pos} {a b r : List Nat} (TK : TabOk W c P "_law_page.<locals>.<lambda>") (CK : ClsOk W.K Cc fI) (G : PgK W.K L1 L2) (hl : lv = lv' + 2) (hgs : W.gs.lookup ("_law_get" : Str) = some (.ref fg)) (hkp : keepIn W.K (.ref fg) = true)
    (ho : EV ⟨W, A, env, lv, names⟩ ρ o (pageT W Cc "_law_page.<locals>.<lambda>" L1 L2 rows)) (h1 : EV ⟨W, A, env, lv, names⟩ ρ e1 (tS a)) (h2 : EV ⟨W, A, env, lv, names⟩ ρ e2 (tS b)) (hc : CL W 1 (.ref fg) [tSs rows, tS a, tS b] (tS r)) {pl : Env → Sem Bool}
    (he : ∀ env, eval (.Call (.Attribute o "get" apos) [e1, e2] [] pos) env = (do
      let ov ← eval o env
      standAt apos.atName
      let (f, first) ← holding [ov] (getMethod ov "get" (pl env))
      callWith pos f first (backTo pos (starEach [e1, e2] env)) []) := by intro _; rfl) (n1 : notStar e1 = true := by rfl) (n2 : notStar e2 = true := by rfl) :
    EV ⟨W, A, env, lv, names⟩ ρ (.Call (.Attribute o "get" apos) [e1, e2] [] pos) (tS r) := by
  subst hl
  refine EV.pgcall true CK ho (EVL.cons h1 (EVL.cons h2 EVL.nil n2) n1) (fun O s f cR vr vs ok B LA nO ng ic pr tv => ?_) rfl he n1 (by simp [n2])
  refine lam_call (lv := 1) [("start", tS a), ("stop", tS b)] TK ok B LA nO ng ic pr tv (fun p hp => ?_) (Nat.le_add_left _ _) ?_ (show ([("start" : Str), "stop"]).Nodup by decide) ?_ ?_ ?_ G.k1.1 G.k1.2.1 G.k1.2.2 fun A' env' => ?_
  · simp only [List.mem_cons, List.not_mem_nil, or_false] at hp
    rcases hp with rfl | rfl <;> exact atomS
  · intro s vs pm c' ctv hv
    match vs, hv with
    | [v1, v2], _ => exact G.i1 _ _ _ _ _ _ _
  · show ∀ p ∈ ([("start", tS a), ("stop", tS b)] : List (Str × Ty)), L1.sc.names.lookup p.1 = some .local
    rw [G.n1]
    intro p hp
    simp only [List.mem_cons, List.not_mem_nil, or_false] at hp
    rcases hp with rfl | rfl <;> rfl
  · show L1.sc.names.lookup _ = some .free
    rw [G.n1]; rfl
  · show ∀ x ∈ L1.sc.names, x.2 ≠ .cell
    rw [G.n1]; decide
  · show EV ⟨W, A', env', 1, L1.sc.names⟩ (lamRho [("start", tS a), ("stop", tS b)] rows) L1.b (tS r)
    obtain ⟨p1, p2, p3, p4, p5, e⟩ := G.b1
    rw [G.n1, e]
    exact EV.c3 (EV.glob rfl hgs) (KeepOk.ref hkp) (EV.ro rfl) (EV.name rfl) (EV.name rfl) hc (Nat.le_refl _)
/-- page.compare('n.0', '<', 'end') -/
theorem EV.compare {o e1 e2 e3 : Expr} {apos pos : Pos} {n : Nat} {b : List Nat} (TK : TabOk W c P "_law_page.<locals>.<lambda>") (CK : ClsOk W.K Cc fI) (G : PgK W.K L1 L2) (hl : lv = lv' + 1) (hgi : W.gs.lookup ("int" : Str) = some (.type "int")) (hgl : W.gs.lookup ("len" : Str) = some (.builtin "len")) (hz : rows.length ≤ 1000) (hn : n < 1000000000)
    (hsp : CL W 0 (.builtin "str.split") [tS (dg n ++ [46, 48]), tS [46]] (dt (.list ([dg n, [48]].map sd))))
    (ho : EV ⟨W, A, env, lv, names⟩ ρ o (pageT W Cc "_law_page.<locals>.<lambda>" L1 L2 rows)) (h1 : EV ⟨W, A, env, lv, names⟩ ρ e1 (tS (dg n ++ [46, 48]))) (h2 : EV ⟨W, A, env, lv, names⟩ ρ e2 (tS [60])) (h3 : EV ⟨W, A, env, lv, names⟩ ρ e3 (tS b)) {pl : Env → Sem Bool}
    (he : ∀ env, eval (.Call (.Attribute o "compare" apos) [e1, e2, e3] [] pos) env = (do
      let ov ← eval o env
      standAt apos.atName
      let (f, first) ← holding [ov] (getMethod ov "compare" (pl env))
      callWith pos f first (backTo pos (starEach [e1, e2, e3] env)) []) := by intro _; rfl) (n1 : notStar e1 = true := by rfl) (n2 : notStar e2 = true := by rfl) (n3 : notStar e3 = true := by rfl) :
    EV ⟨W, A, env, lv, names⟩ ρ (.Call (.Attribute o "compare" apos) [e1, e2, e3] [] pos) (tB (decide (n ≤ rows.length))) := by
  subst hl
  have hsl := sizeLine_eq
  refine EV.pgcall false CK ho (EVL.cons h1 (EVL.cons h2 (EVL.cons h3 EVL.nil n3) n2) n1) (fun O s f cR vr vs ok B LA nO ng ic pr tv => ?_) rfl he n1 (by simp [n2, n3])
  refine lam_call (lv := 0) [("start", tS (dg n ++ [46, 48])), ("sign", tS [60]), ("stop", tS b)] TK ok B LA nO ng ic pr tv (fun p hp => ?_) (Nat.le_add_left _ _) ?_ (show ([("start" : Str), "sign", "stop"]).Nodup by decide) ?_ ?_ ?_ G.k2.1 G.k2.2.1 G.k2.2.2 fun A' env' => ?_
  · simp only [List.mem_cons, List.not_mem_nil, or_false] at hp
    rcases hp with rfl | rfl | rfl <;> exact atomS
  · intro s vs pm c' ctv hv
    match vs, hv with
    | [v1, v2, v3], _ => exact G.i2 _ _ _ _ _ _ _ _
  · show ∀ p ∈ ([("start", tS (dg n ++ [46, 48])), ("sign", tS [60]), ("stop", tS b)] : List (Str × Ty)), L2.sc.names.lookup p.1 = some .local
    rw [G.n2]
    intro p hp
    simp only [List.mem_cons, List.not_mem_nil, or_false] at hp
    rcases hp with rfl | rfl | rfl <;> rfl
  · show L2.sc.names.lookup _ = some .free
    rw [G.n2]; rfl
  · show ∀ x ∈ L2.sc.names, x.2 ≠ .cell
    rw [G.n2]; decide
  · show EV ⟨W, A', env', 0, L2.sc.names⟩ (lamRho [("start", tS (dg n ++ [46, 48])), ("sign", tS [60]), ("stop", tS b)] rows) L2.b (tB (decide (n ≤ rows.length)))
    obtain ⟨p1, k1, p2, p3, p4, p5, p6, p7, k2, p8, k3, p9, p10, p11, p12, p13, p14, p15, p16, pl', e, he'⟩ := G.b2
    rw [G.n2, e]
    refine EV.and2 (b := true) (EV.cmp (EV.name rfl) (EV.lit [60]) Cmp.eqS) (by rw [show decide ([60] = [60]) = true by decide]; exact Truth.bool) (fun z => by cases z) fun _ => ?_
    refine EV.to (EV.cmp (EV.c1 (EV.glob rfl hgi) KeepOk.type (EV.sub (EV.m1 (EV.name rfl) Mth.split (EV.lit [46]) hsp (Nat.le_refl _) he') EV.int (Itm.mapAt (a := dg n) (xs := [dg n, [48]]) (by decide) rfl (by rw [hsl]; simp))) (CL.intD hn) (Nat.le_refl _)) (EV.c1 (EV.glob rfl hgl) KeepOk.builtin (EV.ro rfl) (CL.lenM (by omega)) (Nat.le_refl _)) Cmp.leI) ?_
    simp
end
end Mine

namespace Mine
open PySem PySem.W PyProof.Rows PySem.Spec

section
variable {C : Cx} {ρ : Rho}
end
theorem slice_two {α : Type} (l : List α) (x y : α) : sliceL none (some (-2 : Int)) (l ++ [x, y]) = l := by
  show ((l ++ [x, y]).drop 0).take (clampI (l ++ [x, y]).length (-2) - 0) = _
  rw [List.drop_zero, Nat.sub_zero]
  have : clampI (l ++ [x, y]).length (-2) = l.length := by
    unfold clampI
    rw [if_pos (by omega), List.length_append]
    show (-2 + ((l.length + 2 : Nat) : Int)).toNat = _
    omega
  rw [this, List.take_left]
theorem slice_n2 {n : Nat} : sliceL none (some (-2 : Int)) (dg n ++ [46, 48]) = dg n := slice_two _ _ _
/-- white -/
theorem dw_nil (p : Nat → Bool) : ∀ l : List Nat, l.dropWhile p = [] ↔ l.all p = true
  | [] => by simp
  | a :: r => by
    cases h : p a with
    | true => rw [List.dropWhile_cons, h, if_pos rfl, dw_nil p r, List.all_cons, h, Bool.true_and]
    | false => rw [List.dropWhile_cons, h, if_neg (by decide), List.all_cons, h]; simp
theorem dw_head (p : Nat → Bool) : ∀ {l r : List Nat} {a : Nat}, l.dropWhile p = a :: r → p a = false
  | [], r, a, h => by cases h
  | b :: l, r, a, h => by
    cases hb : p b with
    | true => rw [List.dropWhile_cons, hb, if_pos rfl] at h; exact dw_head p h
    | false => rw [List.dropWhile_cons, hb, if_neg (by decide)] at h; cases h; exact hb
theorem strip_nil (p : Nat → Bool) (l : List Nat) : stripL p l = [] ↔ l.all p = true := by
  unfold stripL
  rw [List.reverse_eq_nil_iff]
  constructor
  · intro h
    cases e : l.dropWhile p with
    | nil => exact (dw_nil p l).mp e
    | cons a r =>
      have hn := dw_head p e
      rw [e] at h
      have := List.all_eq_true.mp ((dw_nil p _).mp h) a (by simp)
      rw [hn] at this; cases this
  · intro h
    rw [(dw_nil p l).mpr h]; rfl
theorem strip_white (l : List Nat) : decide (stripL isSp l = []) = allW l := by
  unfold allW
  cases h : l.all isSp with
  | true => exact decide_eq_true ((strip_nil _ _).mpr h)
  | false => refine decide_eq_false fun z => ?_; rw [(strip_nil _ _).mp z] at h; cases h
theorem rst_eq (l : List Nat) : (l.dropWhile fun c => [32, 9].contains c).dropWhile (fun c => [35].contains c) = rstL l := by
  have e1 : (fun c => [32, 9].contains c) = isB := by funext c; show List.elem c [32, 9] = _; unfold isB; simp only [List.elem]; cases c == 32 <;> cases c == 9 <;> rfl
  have e2 : (fun c => [35].contains c) = isH := by funext c; show List.elem c [35] = _; unfold isH; simp only [List.elem]; cases c == 35 <;> rfl
  rw [e1, e2]
  unfold rstL hdrN
  rw [← List.drop_drop, show indN l = (l.takeWhile isB).length from rfl, drop_tw, drop_tw]
theorem hdr_take (l : List Nat) : l.take (l.length - (rstL l).length) = hdrL l := by
  unfold hdrL rstL
  have := hdrN_le l
  rw [List.length_drop, show l.length - (l.length - hdrN l) = hdrN l by omega]
theorem ok_hdr {l : List Nat} (h : okL l = true) : okL (hdrL l) = true := ok_sub h fun c hc => List.mem_of_mem_take hc
end Mine

namespace Mine
open PySem PySem.W PyProof.Rows PySem.Spec

theorem rngL_nat (a n : Nat) : rngL (a : Int) 1 n = (List.range' a n).map jn := by
  unfold rngL
  have e : List.range' a n = (List.range n).map (a + ·) := by rw [List.range'_eq_map_range]
  rw [e, List.map_map]
  refine List.map_congr_left fun i _ => ?_
  show PyData.int _ = PyData.int _
  congr 1
  show (a : Int) + (i : Int) * 1 = ((a + i : Nat) : Int)
  omega
section
variable {C : Cx} {W : Wd}
theorem Iter.rangeAB {a b : Nat} (ha : a < 1000000) (hb : b < 1000000) : Iter C (rngT (a : Int) (b : Int) 1) (((List.range' a (b - a)).map jn).map dt) := by
  have := rng_up (C := C) (a := (a : Int)) (b := (b : Int)) (by omega) (by omega) (by omega) (by omega)
  rw [show ((b : Int) - a).toNat = b - a by omega, rngL_nat] at this
  exact this
theorem Itm.t4a {a b c d : PyData} : Itm C (dt (.tuple [a, b, c, d])) (tI 0) (dt a) := Itm.tupleAt (ds := [a, b, c, d]) (by simp) (by simp) (by rw [sizeLine_eq]; simp) rfl
theorem Itm.t4b {a b c d : PyData} : Itm C (dt (.tuple [a, b, c, d])) (tI 1) (dt b) := Itm.tupleAt (ds := [a, b, c, d]) (by simp) (by simp) (by rw [sizeLine_eq]; simp) rfl
theorem Itm.num {n : Nat} (h : n < 1000000000) : Itm C (tS (dg n ++ [46, 48])) (slcT none (some (-2)) none) (tS (dg n)) := by
  have := Itm.strSlice (C := C) (l := dg n ++ [46, 48]) (lo := none) (hi := some (-2)) (by have := dg_len h; rw [sizeLine_eq, List.length_append]; show _ + 2 ≤ _; omega)
  rwa [slice_n2] at this
theorem Itm.listTo {α : Type} {f : α → PyData} {rows : List α} {k : Nat} (hz : rows.length ≤ sizeLine) : Itm C (dt (.list (rows.map f))) (slcT none (some (k : Int)) none) (dt (.list ((rows.take k).map f))) := by
  have := Itm.listSlice (C := C) (ds := rows.map f) (lo := none) (hi := some (k : Int)) (by rw [List.length_map]; exact hz)
  rw [slice_to, ← List.map_take] at this
  exact this
theorem Itm.listFrom {α : Type} {f : α → PyData} {rows : List α} {k : Nat} (hz : rows.length ≤ sizeLine) : Itm C (dt (.list (rows.map f))) (slcT (some (k : Int)) none none) (dt (.list ((rows.drop k).map f))) := by
  have := Itm.listSlice (C := C) (ds := rows.map f) (lo := some (k : Int)) (hi := none) (by rw [List.length_map]; exact hz)
  rw [slice_from, ← List.map_drop] at this
  exact this
theorem Itm.listRevM {α : Type} {f : α → PyData} {rows : List α} (hz : rows.length ≤ sizeLine) : Itm C (dt (.list (rows.map f))) (slcT none none (some (-1))) (dt (.list (rows.reverse.map f))) := by
  have := Itm.listRev (C := C) (ds := rows.map f) (by rw [List.length_map]; exact hz)
  rwa [← List.map_reverse] at this
theorem Truth.listM {α : Type} {f : α → PyData} {xs : List α} (h : xs.length ≤ sizeLine) : Truth C (dt (.list (xs.map f))) (!xs.isEmpty) := by
  have := Truth.list (C := C) (ds := xs.map f) (by rw [List.length_map]; exact h)
  rwa [List.isEmpty_map] at this
end
end Mine

namespace Mine
open PySem PySem.W PyProof.Rows PySem.Spec

section
variable {C : Cx} {ρ : Rho} {Post : Out → Prop}
theorem Ex.app {a rest : List Stmt} {P : Out → Prop} (h : Ex C ρ a P) (hn : ∀ ρ', P (.next ρ') → Ex C ρ' rest Post) (hb : ∀ ρ', P (.brk ρ') → Post (.brk ρ')) (hc : ∀ ρ', P (.cont ρ') → Post (.cont ρ')) (hr : ∀ T, P (.ret T) → Post (.ret T)) :
    Ex C ρ (a ++ rest) Post := fun Ob Mb ad s Q E S q => by
  intro Γ p₀ hΓ
  rw [wp_execs_append]
  refine Sem.wp_mono _ Γ _ (fun f p₁ s₁ x => ?_) (fun _ _ _ x => x) _ s (h Ob Mb ad s (fun fl s' => match fl with | .next => wpAny C.M C.A (execs rest C.env) Q E s' | f => Q f s') E S (fun fl h' tk out p f g => ?_) Γ p₀ hΓ)
  · cases f with
    | next => exact (show wpAny C.M C.A (execs rest C.env) Q E s₁ from x) Γ p₁ hΓ
    | brk => exact x
    | cont => exact x
    | ret v => exact x
  cases fl with
  | next =>
    cases out with
    | next ρ' =>
      obtain ⟨ad', S', ow⟩ := f
      refine hn ρ' p Ob Mb ad' { s with heap := h', toks := tk } Q E S' fun fl₂ h₂ tk₂ out₂ p₂ f₂ g₂ => ?_
      exact q fl₂ h₂ tk₂ out₂ p₂ (f₂.up ow g.1) (Agree.up ow g g₂)
    | _ => exact f.elim
  | brk =>
    cases out with
    | brk ρ' => exact q _ h' tk _ (hb ρ' p) f g
    | _ => exact f.elim
  | cont =>
    cases out with
    | cont ρ' => exact q _ h' tk _ (hc ρ' p) f g
    | _ => exact f.elim
  | ret v =>
    cases out with
    | ret T => exact q _ h' tk _ (hr T p) f g
    | _ => exact f.elim
/-- it goes on with such names -/
def NextP (Mid : Rho → Prop) : Out → Prop := fun o => ∃ ρ', o = .next ρ' ∧ Mid ρ'
/-- an If whose branches meet again -/
theorem EX.iteM {t : Expr} {b e rest : List Stmt} {p : Pos} {c : Bool} (Mid : Rho → Prop) (h : TR C ρ t c) (h₁ : c = true → EX C ρ b (NextP Mid)) (h₂ : c = false → EX C ρ e (NextP Mid)) (k : ∀ ρ', Mid ρ' → EX C ρ' rest Post) : EX C ρ (.If t b e p :: rest) Post :=
  ⟨Ex.app (a := [.If t b e p]) (P := NextP Mid) (Ex.ite h.un (fun q => by rw [List.append_nil]; exact (h₁ q).un) fun q => by rw [List.append_nil]; exact (h₂ q).un)
    (fun ρ' ⟨ρ'', e, m⟩ => by cases e; exact (k _ m).un) (fun ρ' ⟨ρ'', e, m⟩ => by cases e) (fun ρ' ⟨ρ'', e, m⟩ => by cases e) fun T ⟨ρ'', e, m⟩ => by cases e⟩
theorem EX.nilM {Mid : Rho → Prop} (h : Mid ρ) : EX C ρ [] (NextP Mid) := EX.nil ⟨ρ, rfl, h⟩

end
end Mine

namespace Mine
open PySem PySem.W PyProof.Rows PySem.Spec

end Mine

namespace Mine
open PySem PySem.W PyProof.Rows PySem.Spec

section
variable {C : Cx}
/-- t[a:] of a tuple -/
theorem Itm.tupFrom {ds : List PyData} {a : Nat} (h1 : 1 ≤ a) (ha : a ≤ ds.length) (hsz : ds.length ≤ sizeLine) : Itm C (dt (.tuple ds)) (slcT (some (a : Int)) none none) (dt (.tuple (ds.drop a))) := by
  intro O s o i ok B po pi
  obtain ⟨sl, vl, vu, vs, rfl, na, hs, p1, p2, p3⟩ := pi
  cases po with
  | tuple n ti rl =>
    refine ⟨⟨_, _, IsTup.typeIs ti, slot_tuple_getitem.lookup⟩, fun Q E q => ?_⟩
    cases p1; cases p2; cases p3
    have hl := rl.length
    rw [Array.length_toList] at hl
    refine getItem_tuple_from ti hs h1 (by omega) (q _ _ _ (.push _) (.tuple (new_off B) ⟨_, Heap.get?_push_size _ rfl, rfl, _, rfl⟩ ?_)) (by omega)
    simpa using (rl.drop a).mono (.push _)
end
end Mine

namespace Mine

theorem white_full {l : List Nat} (h : allW l = true) : fullR l = false := by
  unfold fullR
  have : allW (rstL l) = true := by
    unfold allW at *
    rw [List.all_eq_true] at *
    exact fun x hx => h x (List.mem_of_mem_drop hx)
  rw [this]; rfl

end Mine

namespace Mine
open PySem

abbrev Pr := List Nat × List Nat
abbrev DSt := List Pr × Option (List Nat)
/-- one turn of _law_due -/
def dstep (a : DSt) (r : List Nat) : DSt :=
  if fullR r = false then (a.1, none)
  else if a.2 = some (hdrL r) then (a.1.dropLast ++ [(hdrL r, ((a.1.getLast?.getD ([], [])).2 ++ r) ++ [10])], a.2)
  else (a.1 ++ [(hdrL r, r ++ [10])], some (hdrL r))
def dfold (a : DSt) (l : List (List Nat)) : DSt := l.foldl dstep a
def dueP (l : List (List Nat)) : List Pr := (dfold ([], none) l).1
theorem dfold_app (a : DSt) (l m : List (List Nat)) : dfold a (l ++ m) = dfold (dfold a l) m := List.foldl_append
theorem dstep_n {a : DSt} {r : List Nat} (h : fullR r = false) : dstep a r = (a.1, none) := by unfold dstep; rw [if_pos h]
theorem dstep_m {a : DSt} {r : List Nat} (h : fullR r = true) (h2 : a.2 = some (hdrL r)) : dstep a r = (a.1.dropLast ++ [(hdrL r, ((a.1.getLast?.getD ([], [])).2 ++ r) ++ [10])], a.2) := by unfold dstep; rw [if_neg (by rw [h]; decide), if_pos h2]
theorem dstep_o {a : DSt} {r : List Nat} (h : fullR r = true) (h2 : a.2 ≠ some (hdrL r)) : dstep a r = (a.1 ++ [(hdrL r, r ++ [10])], some (hdrL r)) := by unfold dstep; rw [if_neg (by rw [h]; decide), if_neg h2]
theorem snoc_of {α : Type} : ∀ {l : List α}, l ≠ [] → ∃ x y, l = x ++ [y]
  | [], h => absurd rfl h
  | [a], _ => ⟨[], a, rfl⟩
  | a :: b :: l, _ => by
    obtain ⟨x, y, e⟩ := snoc_of (l := b :: l) (by simp)
    exact ⟨a :: x, y, by rw [e]; rfl⟩
theorem dstep_frame (acc acc' : List Pr) (ab : Option (List Nat)) (h : ab ≠ none → acc' ≠ []) (r : List Nat) : dstep (acc ++ acc', ab) r = (acc ++ (dstep (acc', ab) r).1, (dstep (acc', ab) r).2) ∧ ((dstep (acc', ab) r).2 ≠ none → (dstep (acc', ab) r).1 ≠ []) := by
  cases c1 : fullR r with
  | false =>
    rw [dstep_n c1, dstep_n c1]; exact ⟨rfl, fun z => absurd rfl z⟩
  | true =>
    by_cases c2 : ab = some (hdrL r)
    · rw [dstep_m (a := (acc ++ acc', ab)) c1 c2, dstep_m (a := (acc', ab)) c1 c2]
      obtain ⟨x, y, rfl⟩ := snoc_of (h (by rw [c2]; simp))
      refine ⟨?_, fun _ => by simp⟩
      show ((acc ++ (x ++ [y])).dropLast ++ _, ab) = (acc ++ ((x ++ [y]).dropLast ++ _), ab)
      rw [← List.append_assoc, List.dropLast_concat, List.dropLast_concat, List.getLast?_concat, List.getLast?_concat, List.append_assoc]
    · rw [dstep_o (a := (acc ++ acc', ab)) c1 c2, dstep_o (a := (acc', ab)) c1 c2]
      exact ⟨by rw [List.append_assoc], fun _ => by simp⟩
theorem dfold_frame : ∀ (l : List (List Nat)) (acc acc' : List Pr) (ab : Option (List Nat)), (ab ≠ none → acc' ≠ []) → dfold (acc ++ acc', ab) l = (acc ++ (dfold (acc', ab) l).1, (dfold (acc', ab) l).2)
  | [], acc, acc', ab, _ => rfl
  | r :: l, acc, acc', ab, h => by
    obtain ⟨e, k⟩ := dstep_frame acc acc' ab h r
    show dfold (dstep (acc ++ acc', ab) r) l = (acc ++ (dfold (dstep (acc', ab) r) l).1, (dfold (dstep (acc', ab) r) l).2)
    rw [e]
    exact dfold_frame l acc _ _ k
/-- what comes goes on with nothing -/
def BC (ab : Option (List Nat)) (l : List (List Nat)) : Prop := ∀ x r, l = x :: r → fullR x = true → ab ≠ some (hdrL x)
theorem dfold_bc {acc : List Pr} {ab : Option (List Nat)} {l : List (List Nat)} (h : BC ab l) : (dfold (acc, ab) l).1 = acc ++ dueP l := by
  cases l with
  | nil => show acc = acc ++ []; simp
  | cons x r =>
    have e : dstep (acc, ab) x = dstep (acc ++ [], none) x := by
      cases c1 : fullR x with
      | false => rw [dstep_n c1, dstep_n c1, List.append_nil]
      | true => rw [dstep_o c1 (h x r rfl c1), dstep_o c1 (by simp), List.append_nil]
    show (dfold (dstep (acc, ab) x) r).1 = _
    rw [e]
    have := dfold_frame (x :: r) acc [] none (fun z => absurd rfl z)
    exact congrArg Prod.fst this
/-- rows that aren't full pass -/
theorem dfold_bare {a : DSt} : ∀ {l : List (List Nat)}, l ≠ [] → (∀ x ∈ l, fullR x = false) → dfold a l = (a.1, none)
  | [x], _, h => by
    show dstep a x = _
    unfold dstep; rw [if_pos (h x (.head _))]
  | x :: y :: l, _, h => by
    show dfold (dstep a x) (y :: l) = _
    rw [dfold_bare (by simp) fun z hz => h z (.tail _ hz)]
    unfold dstep; rw [if_pos (h x (.head _))]
abbrev endsR (l : List (List Nat)) : List Nat := (l.map (· ++ [10])).flatten
theorem dfold_more {H t : List Nat} {acc : List Pr} : ∀ {l : List (List Nat)}, (∀ x ∈ l, hdrL x = H ∧ fullR x = true) → dfold (acc ++ [(H, t)], some H) l = (acc ++ [(H, t ++ endsR l)], some H)
  | [], _ => by show _ = (acc ++ [(H, t ++ [])], some H); rw [List.append_nil]; rfl
  | x :: l, h => by
    obtain ⟨h1, h2⟩ := h x (.head _)
    show dfold (dstep (acc ++ [(H, t)], some H) x) l = _
    have e : dstep (acc ++ [(H, t)], some H) x = (acc ++ [(H, t ++ x ++ [10])], some H) := by
      unfold dstep
      rw [if_neg (by rw [h2]; decide), if_pos (by rw [h1]), List.dropLast_concat, List.getLast?_concat, h1]; rfl
    rw [e, dfold_more fun z hz => h z (.tail _ hz)]
    simp [endsR]
/-- a stretch -/
theorem dfold_run {H : List Nat} {acc : List Pr} {ab : Option (List Nat)} {l : List (List Nat)} (hn : l ≠ []) (h : ∀ x ∈ l, hdrL x = H ∧ fullR x = true) (hab : ab ≠ some H) : dfold (acc, ab) l = (acc ++ [(H, endsR l)], some H) := by
  cases l with
  | nil => exact absurd rfl hn
  | cons x l =>
    obtain ⟨h1, h2⟩ := h x (.head _)
    show dfold (dstep (acc, ab) x) l = _
    have e : dstep (acc, ab) x = (acc ++ [(H, x ++ [10])], some H) := by
      unfold dstep
      rw [if_neg (by rw [h2]; decide), if_neg (by rw [h1]; exact hab), h1]
    rw [e, dfold_more fun z hz => h z (.tail _ hz)]
    simp [endsR]
theorem due_run {H : List Nat} {l m : List (List Nat)} (hn : l ≠ []) (h : ∀ x ∈ l, hdrL x = H ∧ fullR x = true) (hb : BC (some H) m) : dueP (l ++ m) = (H, endsR l) :: dueP m := by
  unfold dueP
  rw [dfold_app, dfold_run hn h (by simp)]
  exact (dfold_bc hb).trans rfl
theorem due_bare {x : List Nat} {m : List (List Nat)} (h : fullR x = false) : dueP (x :: m) = dueP m := by
  show (dfold (dstep ([], none) x) m).1 = _
  have e : dstep ([], none) x = ([], none) := by unfold dstep; rw [if_pos h]
  rw [e]; rfl
abbrev bareL (l : List (List Nat)) : List (List Nat) := l.filter fun x => !fullR x
theorem row_r {N L : List (List Nat)} {j : Nat} (h : 1 ≤ j) : rowAt (N ++ L) (N.length + j) = rowAt L j := by
  obtain ⟨i, rfl⟩ : ∃ i, j = i + 1 := ⟨j - 1, by omega⟩
  show (N ++ L).getD (N.length + i) [] = L.getD i []
  rw [List.getD_eq_getElem?_getD, List.getElem?_append_right (by omega), List.getD_eq_getElem?_getD, Nat.add_sub_cancel_left]
theorem row_l {N L : List (List Nat)} {i : Nat} (h : i ≤ N.length) : rowAt (N ++ L) i = rowAt N i := by
  cases i with
  | zero => rfl
  | succ i =>
    show (N ++ L).getD i [] = N.getD i []
    rw [List.getD_eq_getElem?_getD, List.getElem?_append_left (by omega), List.getD_eq_getElem?_getD]
theorem row_bare {N : List (List Nat)} (h : ∀ x ∈ N, fullR x = false) (i : Nat) : fullR (rowAt N i) = false := by
  rcases rowAt_mem (rows := N) (n := i) with z | z
  · rw [z]; rfl
  · exact h _ z
/-- as long as p, then what is left -/
theorem span_at {p : List Nat → Bool} : ∀ {L : List (List Nat)} {n : Nat}, n ≤ L.length → (∀ i, 1 ≤ i → i ≤ n → p (rowAt L i) = true) → ∃ w R, L = w ++ R ∧ w.length = n ∧ ∀ x ∈ w, p x = true
  | L, n, h, k => ⟨L.take n, L.drop n, (List.take_append_drop n L).symm, by rw [List.length_take]; omega, fun x hx => by
    obtain ⟨j, hj, rfl⟩ := List.getElem_of_mem hx
    rw [List.length_take] at hj
    rw [List.getElem_take]
    have := k (j + 1) (by omega) (by omega)
    rwa [show rowAt L (j + 1) = L[j] by simp [rowAt, List.getD_eq_getElem?_getD, List.getElem?_eq_getElem (show j < L.length by omega)]] at this⟩
theorem down_step {N L : List (List Nat)} {s e b : Nat} (hN : ∀ x ∈ N, fullR x = false) (F : FindS (N ++ L) (N.length + 1) s e b) : ∃ w T, L = w ++ T ∧ (∀ x ∈ w, allW x = true) ∧ s = N.length + w.length + 1 ∧ b + 1 = s ∧
    ((T = [] ∧ e = s) ∨ (∃ x R, T = x :: R ∧ fullR x = false ∧ allW x = false ∧ e = s) ∨ ∃ p R, T = p ++ R ∧ p ≠ [] ∧ (∀ y ∈ p, hdrL y = hdrL (rowAt (N ++ L) s) ∧ fullR y = true) ∧ BC (some (hdrL (rowAt (N ++ L) s))) R ∧ e = s + p.length) := by
  have hlen : (N ++ L).length = N.length + L.length := List.length_append
  have hle := F.le (by omega)
  have hms := F.ms
  obtain ⟨w, T, hL, hwl, hw⟩ := span_at (p := allW) (L := L) (n := s - (N.length + 1)) (by omega) (fun i x y => by
    have := (F.wh (N.length + i) (by omega) (by omega)).2
    rwa [row_r x] at this)
  have hs : s = N.length + w.length + 1 := by omega
  have hb : b + 1 = s := by
    have h1 := F.bs
    by_cases z : b + 1 = s
    · exact z
    · have h2 := F.gb (s - 1) (by omega) (by omega)
      have h3 : fullR (rowAt (N ++ L) (s - 1)) = false := by
        by_cases q : s - 1 ≤ N.length
        · rw [row_l q]; exact row_bare hN _
        · exact white_full (F.wh (s - 1) (by omega) (by omega)).2
      unfold gdR at h2
      rw [h3, Bool.and_false] at h2; cases h2
  refine ⟨w, T, hL, hw, hs, hb, ?_⟩
  have hrow : ∀ j, 1 ≤ j → rowAt (N ++ L) (s - 1 + j) = rowAt T j := fun j x => by
    have : N ++ L = (N ++ w) ++ T := by rw [hL, List.append_assoc]
    rw [this, show s - 1 + j = (N ++ w).length + j by rw [List.length_append]; omega, row_r x]
  have hTl : L.length = w.length + T.length := by rw [hL, List.length_append]
  cases T with
  | nil =>
    refine .inl ⟨rfl, ?_⟩
    have := F.se
    simp at hTl
    omega
  | cons x R =>
    have hx : rowAt (N ++ L) s = x := by have := hrow 1 (Nat.le_refl _); rw [show s - 1 + 1 = s by omega] at this; exact this
    have hxw : allW x = false := by
      cases z : allW x with
      | false => rfl
      | true =>
        refine absurd ⟨?_, by rw [hx]; exact z⟩ F.st
        simp at hTl; omega
    have gx : gdR (N ++ L) (hdrL (rowAt (N ++ L) s)) s = fullR x := by unfold gdR; rw [hx]; simp
    cases hf : fullR x with
    | false =>
      refine .inr (.inl ⟨x, R, rfl, hf, hxw, ?_⟩)
      have := F.se
      by_cases z : s = e
      · exact z.symm
      · have := F.ge s (Nat.le_refl _) (by omega)
        rw [gx, hf] at this; cases this
    | true =>
      have hse : s < e := by
        have h1 := F.se
        by_cases z : s = e
        · have := F.en; rw [← z, gx, hf] at this; cases this
        · omega
      obtain ⟨p, R', hT, hpl, hp⟩ := span_at (p := fun y => decide (hdrL y = hdrL (rowAt (N ++ L) s)) && fullR y) (L := x :: R) (n := e - s) (by simp at hTl; simp; omega) (fun i a c => by
        have := F.ge (s - 1 + i) (by omega) (by omega)
        unfold gdR at this
        rwa [hrow i a] at this)
      refine .inr (.inr ⟨p, R', hT, fun z => by rw [z] at hpl; simp at hpl; omega, fun y hy => by simpa using hp y hy, fun y r er hyf q => ?_, by omega⟩)
      have hen := F.en
      have hye : rowAt (N ++ L) e = y := by
        have h1 := hrow (e - s + 1) (by omega)
        rw [show s - 1 + (e - s + 1) = e by omega, hT, show e - s + 1 = p.length + 1 by omega, row_r (Nat.le_refl _), er] at h1
        exact h1
      unfold gdR at hen
      rw [hye, hyf, Bool.and_true] at hen
      exact of_decide_eq_false hen (Option.some.inj q).symm
theorem up_step {A N : List (List Nat)} {x : List Nat} {s e b : Nat} (hN : ∀ y ∈ N, fullR y = false) (F : FindS (A ++ [x] ++ N) (A.length + 1) s e b) :
    (allW x = true ∧ e = s ∧ b + 1 = s ∧ A.length + 1 < s) ∨
    (allW x = false ∧ s = A.length + 1 ∧ rowAt (A ++ [x] ++ N) s = x ∧ e = (if fullR x = true then A.length + 2 else A.length + 1) ∧ ∃ A1 p, A = A1 ++ p ∧ b = A1.length ∧ (∀ y ∈ p, hdrL y = hdrL x ∧ fullR y = true) ∧ ∀ Z z, A1 = Z ++ [z] → fullR z = true → hdrL z ≠ hdrL x) := by
  have hlen : (A ++ [x] ++ N).length = A.length + 1 + N.length := by simp; omega
  have hle := F.le (by omega)
  have hms := F.ms
  have hx : rowAt (A ++ [x] ++ N) (A.length + 1) = x := by
    rw [List.append_assoc, row_r (Nat.le_refl _)]; rfl
  have hN' : ∀ i, A.length + 1 < i → fullR (rowAt (A ++ [x] ++ N) i) = false := fun i hi => by
    have : i = (A ++ [x]).length + (i - (A.length + 1)) := by simp; omega
    rw [this, row_r (by omega)]
    exact row_bare hN _
  cases hw : allW x with
  | true =>
    refine .inl ⟨rfl, ?_, ?_, ?_⟩
    · have hlt : A.length + 1 < s := by
        by_cases z : s = A.length + 1
        · exact absurd ⟨by omega, by rw [z, hx]; exact hw⟩ F.st
        · omega
      have h1 := F.se
      by_cases z : s = e
      · exact z.symm
      · have := F.ge s (Nat.le_refl _) (by omega)
        unfold gdR at this
        rw [hN' s hlt, Bool.and_false] at this; cases this
    · have h1 := F.bs
      by_cases z : b + 1 = s
      · exact z
      · have h2 := F.gb (s - 1) (by omega) (by omega)
        have h3 : fullR (rowAt (A ++ [x] ++ N) (s - 1)) = false := by
          by_cases q : s - 1 < A.length + 1
          · have : s = A.length + 1 := by omega
            exact absurd ⟨by omega, by rw [this, hx]; exact hw⟩ F.st
          · exact white_full (F.wh (s - 1) (by omega) (by omega)).2
        unfold gdR at h2
        rw [h3, Bool.and_false] at h2; cases h2
    · by_cases z : s = A.length + 1
      · exact absurd ⟨by omega, by rw [z, hx]; exact hw⟩ F.st
      · omega
  | false =>
    have hs : s = A.length + 1 := by
      by_cases z : s = A.length + 1
      · exact z
      · have := (F.wh (A.length + 1) (Nat.le_refl _) (by omega)).2
        rw [hx, hw] at this; cases this
    subst hs
    have Fge := F.ge; have Fen := F.en; have Fgb := F.gb; have Fbe := F.be; have Fbs := F.bs; have Fse := F.se
    rw [hx] at Fge Fen Fgb Fbe
    have gx : gdR (A ++ [x] ++ N) (hdrL x) (A.length + 1) = fullR x := by unfold gdR; rw [hx]; simp
    refine .inr ⟨rfl, rfl, hx, ?_, A.take b, A.drop b, (List.take_append_drop b A).symm, by rw [List.length_take]; omega, fun y hy => ?_, fun Z z ez hz q => ?_⟩
    · split
      · rename_i hf
        have h1 : A.length + 1 < e := by
          by_cases z : e = A.length + 1
          · rw [z, gx, hf] at Fen; cases Fen
          · omega
        by_cases z : e = A.length + 2
        · exact z
        · have := Fge (A.length + 2) (by omega) (by omega)
          unfold gdR at this
          rw [hN' _ (by omega), Bool.and_false] at this; cases this
      · rename_i hf
        by_cases z : e = A.length + 1
        · exact z
        · have := Fge (A.length + 1) (Nat.le_refl _) (by omega)
          rw [gx] at this; exact absurd this hf
    · obtain ⟨j, hj, rfl⟩ := List.getElem_of_mem hy
      rw [List.length_drop] at hj
      have := Fgb (b + j + 1) (by omega) (by omega)
      unfold gdR at this
      rw [List.append_assoc, row_l (by omega), show rowAt A (b + j + 1) = (A.drop b)[j]'(by rw [List.length_drop]; exact hj) by
        rw [List.getElem_drop]; simp [rowAt, List.getD_eq_getElem?_getD, List.getElem?_eq_getElem (show b + j < A.length by omega)]] at this
      simpa using this
    · rcases Fbe with z0 | z0
      · rw [z0, List.take_zero] at ez
        exact absurd ez (by simp)
      · have hb0 : b ≠ 0 := fun z => by rw [z, List.take_zero] at ez; exact absurd ez (by simp)
        have hzl : Z.length = b - 1 := by
          have := congrArg List.length ez
          rw [List.length_take, List.length_append] at this
          simp at this; omega
        have hzr : rowAt A b = z := by
          have h1 : rowAt (A.take b ++ A.drop b) b = z := by
            rw [row_l (by rw [List.length_take]; omega), ez]
            have : b = Z.length + 1 := by omega
            rw [this, row_r (Nat.le_refl _)]; rfl
          rwa [List.take_append_drop] at h1
        unfold gdR at z0
        rw [List.append_assoc, row_l (by omega), hzr, hz, Bool.and_true] at z0
        exact of_decide_eq_false z0 q
theorem solid_eq {rows : List (List Nat)} {m s e b : Nat} (hm : m ≤ rows.length) (F : FindS rows m s e b) :
    (((List.range' m (rows.length + 1 - m)).filter fun j => !allW (rowAt rows j)) ++ [rows.length + 1])[0]? = some s := by
  have hle := F.le (by omega)
  have hms := F.ms
  have key : ∀ a n, m ≤ a → a + n ≤ s → (List.range' a n).filter (fun j => !allW (rowAt rows j)) = [] := fun a n ha hn => by
    rw [List.filter_eq_nil_iff]
    intro j hj
    obtain ⟨i, hi, rfl⟩ := List.mem_range'.mp hj
    rw [(F.wh (a + 1 * i) (by omega) (by omega)).2]; decide
  by_cases hs : s ≤ rows.length
  · have : rows.length + 1 - m = (s - m) + (rows.length - s + 1) := by omega
    rw [this, ← List.range'_append_1, List.filter_append, key _ _ (by omega) (by omega), List.nil_append, show m + (s - m) = s by omega, List.range'_succ, List.filter_cons]
    have hn : allW (rowAt rows s) = false := by
      cases z : allW (rowAt rows s) with
      | false => rfl
      | true => exact absurd ⟨hs, z⟩ F.st
    rw [hn]; rfl
  · rw [key _ _ (Nat.le_refl _) (by omega)]
    show some (rows.length + 1) = some s
    congr 1; omega
end Mine

namespace Mine
open PySem

theorem bare_app (A B : List (List Nat)) : bareL (A ++ B) = bareL A ++ bareL B := List.filter_append _ _
theorem bare_id {w : List (List Nat)} (h : ∀ x ∈ w, fullR x = false) : bareL w = w := List.filter_eq_self.mpr fun x hx => by rw [h x hx]; rfl
theorem bare_no {w : List (List Nat)} (h : ∀ x ∈ w, fullR x = true) : bareL w = [] := List.filter_eq_nil_iff.mpr fun x hx => by rw [h x hx]; decide
theorem bare_mem {B : List (List Nat)} : ∀ x ∈ bareL B, fullR x = false := fun x hx => by simpa using (List.mem_filter.mp hx).2
theorem dfold_b {a : DSt} {w : List (List Nat)} (h : ∀ x ∈ w, fullR x = false) : (dfold a w).1 = a.1 := by
  cases w with
  | nil => rfl
  | cons x l => rw [dfold_bare (by simp) h]
theorem dfold_ab {a : DSt} {w L : List (List Nat)} {H : List Nat} {y : List Nat} {R : List (List Nat)} (h : ∀ x ∈ w, fullR x = false) (hb : BC a.2 (w ++ L)) (hL : L = y :: R) (hy : fullR y = true) (hH : hdrL y = H) : (dfold a w).2 ≠ some H := by
  cases w with
  | nil => subst hL; exact hH ▸ hb y R rfl hy
  | cons x l => rw [dfold_bare (by simp) h]; simp
/-- a turn that takes a stretch -/
theorem down_cut {B w p R : List (List Nat)} {H : List Nat} (hw : ∀ x ∈ w, fullR x = false) (hp : p ≠ []) (hp2 : ∀ y ∈ p, hdrL y = H ∧ fullR y = true) (hb : BC (dfold ([], none) B).2 (w ++ (p ++ R))) :
    dfold ([], none) (B ++ w ++ p) = ((dfold ([], none) B).1 ++ [(H, endsR p)], some H) ∧ bareL (B ++ w ++ p) = bareL B ++ w := by
  refine ⟨?_, by rw [bare_app, bare_app, bare_id hw, bare_no fun x hx => (hp2 x hx).2, List.append_nil]⟩
  rw [dfold_app, dfold_app]
  have h1 : (dfold (dfold ([], none) B) w).2 ≠ some H := by
    cases p with
    | nil => exact absurd rfl hp
    | cons y p => exact dfold_ab hw hb rfl (hp2 y (.head _)).2 (hp2 y (.head _)).1
  have h2 := dfold_b (a := dfold ([], none) B) hw
  rw [← h2]
  exact dfold_run (acc := (dfold (dfold ([], none) B) w).1) (ab := (dfold (dfold ([], none) B) w).2) hp hp2 h1
theorem cut_at {A p R : List (List Nat)} {a e : Nat} (ha : a = A.length + 1) (he : e = a + p.length) : cutR (A ++ (p ++ R)) a e = endsR p := by
  unfold cutR
  rw [show a - 1 = A.length by omega, show e - a = p.length by omega, List.drop_left, List.take_left]
/-- the rows' ends at the mark part -/
def UB (A L : List (List Nat)) : Prop := ∀ Z z x R, A = Z ++ [z] → L = x :: R → fullR z = true → fullR x = true → hdrL z ≠ hdrL x
theorem UB.bc {A L : List (List Nat)} {x : List Nat} (h : UB (A ++ [x]) L) (hx : fullR x = true) : BC (some (hdrL x)) L := fun y R e hy q => h A x y R rfl e hx hy (Option.some.inj q)
theorem UB.bare {A L : List (List Nat)} {x : List Nat} (hx : fullR x = false) : UB A (x :: L) := fun Z z y R e1 e2 h1 h2 => by
  cases e2; rw [hx] at h2; cases h2
theorem UB.run {A p L : List (List Nat)} {H : List Nat} (hp : p ≠ []) (hp2 : ∀ y ∈ p, hdrL y = H ∧ fullR y = true) (h : ∀ Z z, A = Z ++ [z] → fullR z = true → hdrL z ≠ H) : UB A (p ++ L) := fun Z z y R e1 e2 h1 h2 => by
  cases p with
  | nil => exact absurd rfl hp
  | cons y' p =>
    cases e2
    rw [(hp2 y (.head _)).1]
    exact h Z z e1 h1
end Mine

namespace Mine
open PySem

theorem bare_cons {x : List Nat} {L : List (List Nat)} (h : fullR x = false) : bareL (x :: L) = x :: bareL L := List.filter_cons_of_pos (by rw [h]; rfl)
/-- one turn going up -/
theorem up_turn {A L : List (List Nat)} {s e b : Nat} (hA : A ≠ []) (hub : UB A L) (F : FindS (A ++ bareL L) A.length s e b) :
    ∃ A' L', A ++ L = A' ++ L' ∧ A'.length + 1 = min A.length (b + 1) ∧ UB A' L' ∧
      ((¬ b + 1 < e ∧ A' ++ bareL L' = A ++ bareL L ∧ dueP L' = dueP L) ∨
       (b + 1 < e ∧ (A ++ bareL L).take b ++ (A ++ bareL L).drop (e - 1) = A' ++ bareL L' ∧ dueP L' = (hdrL (rowAt (A ++ bareL L) s), cutR (A ++ bareL L) (b + 1) e) :: dueP L)) := by
  obtain ⟨A0, x, rfl⟩ := snoc_of hA
  have hl : (A0 ++ [x]).length = A0.length + 1 := by simp
  rw [hl] at F ⊢
  have pass : fullR x = false → ¬ b + 1 < e → A0.length + 1 ≤ b + 1 → ∃ A' L', A0 ++ [x] ++ L = A' ++ L' ∧ A'.length + 1 = min (A0.length + 1) (b + 1) ∧ UB A' L' ∧
      ((¬ b + 1 < e ∧ A' ++ bareL L' = A0 ++ [x] ++ bareL L ∧ dueP L' = dueP L) ∨
       (b + 1 < e ∧ (A0 ++ [x] ++ bareL L).take b ++ (A0 ++ [x] ++ bareL L).drop (e - 1) = A' ++ bareL L' ∧ dueP L' = (hdrL (rowAt (A0 ++ [x] ++ bareL L) s), cutR (A0 ++ [x] ++ bareL L) (b + 1) e) :: dueP L)) := fun hx h1 h2 =>
    ⟨A0, x :: L, by simp, by omega, UB.bare hx, .inl ⟨h1, by rw [bare_cons hx]; simp, due_bare hx⟩⟩
  rcases up_step bare_mem F with ⟨hw, he, hb, hs⟩ | ⟨hw, hs, hr, he, A1, p, hA0, hb, hp2, hz⟩
  · exact pass (white_full hw) (by omega) (by omega)
  · have hAl : A0.length = A1.length + p.length := by rw [hA0, List.length_append]
    rw [hr]
    cases hx : fullR x with
    | true =>
      rw [if_pos hx] at he
      have hq : ∀ y ∈ p ++ [x], hdrL y = hdrL x ∧ fullR y = true := fun y hy => by
        rcases List.mem_append.mp hy with z | z
        · exact hp2 y z
        · simp at z; rw [z]; exact ⟨rfl, hx⟩
      have hst : A0 ++ [x] ++ bareL L = A1 ++ ((p ++ [x]) ++ bareL L) := by rw [hA0]; simp
      have hpl : (p ++ [x]).length = p.length + 1 := by simp
      refine ⟨A1, (p ++ [x]) ++ L, by rw [hA0]; simp, by omega, UB.run (by simp) hq fun Z z e f => hz Z z e f, .inr ⟨by omega, ?_, ?_⟩⟩
      · rw [hst, List.take_left' (by omega), ← List.append_assoc, List.drop_left' (by rw [List.length_append]; omega), bare_app, bare_no fun y hy => (hq y hy).2, List.nil_append]
      · rw [due_run (by simp) hq (hub.bc hx), hst, cut_at (by omega) (by omega)]
    | false =>
      rw [if_neg (by rw [hx]; decide)] at he
      by_cases hp : p = []
      · subst hp
        have := pass hx (by simp at hAl; omega) (by simp at hAl; omega)
        rwa [hr] at this
      · have hpl := List.length_pos_iff.mpr hp
        have hst : A0 ++ [x] ++ bareL L = A1 ++ (p ++ (x :: bareL L)) := by rw [hA0]; simp
        refine ⟨A1, p ++ (x :: L), by rw [hA0]; simp, by omega, UB.run hp hp2 fun Z z e f => hz Z z e f, .inr ⟨by omega, ?_, ?_⟩⟩
        · rw [hst, List.take_left' (by omega), ← List.append_assoc, List.drop_left' (by rw [List.length_append]; omega), bare_app, bare_no fun y hy => (hp2 y hy).2, List.nil_append, bare_cons hx]
        · rw [due_run hp hp2 (fun y R e f => by cases e; rw [hx] at f; cases f), due_bare hx, hst, cut_at (by omega) (by omega)]
end Mine

namespace Mine
open PySem PySem.W PyProof.Rows PySem.Spec
open_top hd for PySem.Challenge.rw_dm0162_06
end Mine

namespace Mine
open PySem PySem.W PyProof.Rows PySem.Spec

def gsF : List (Str × Value) := [("find_paragraph", .ref 55), ("_law_page", .ref 110), ("_law_get", .ref 103), ("is_all_white", .ref 62), ("get_comment_header", .ref 69), ("_twin_re_2", .ref 43), ("_twin_re_3", .ref 48), ("Rstrip", .ref 94), ("len", .builtin "len"), ("int", .type "int"), ("map", .type "map"), ("range", .type "range"),
  ("_law_rest", .ref 117), ("_law_down", .ref 122), ("_law_up", .ref 129), ("_law_due", .ref 136), ("list", .type "list"), ("min", .builtin "min")]
noncomputable abbrev WF (prog : Program) (w : World) (P : Params) (g : Heap) (X : Addr → Prop) (I : HInv X) : Wd := ⟨prog, w, hd.heap_39 P, g, X, I, gsF⟩
-- COMMON
abbrev q0 : Str := "_law_page.<locals>.<lambda>"
section
variable {prog : Program} {w : World} {P : Params} {g : Heap} {X : Addr → Prop} {I : HInv X}
theorem patH : Pat (hd.heap_39 P) 43 42 hdrCode 1 := ⟨⟨_, _, _, _, _, _, rfl⟩, ⟨_, _, rfl, by kernel_rfl⟩⟩
theorem patW : Pat (hd.heap_39 P) 48 47 whtCode 0 := ⟨⟨_, _, _, _, _, _, rfl⟩, ⟨_, _, rfl, by kernel_rfl⟩⟩
theorem c_hdr {l : List Nat} (hz : l.length ≤ sizeLine) : CL (WF prog w P g X I) 1 (.ref 69) [tS l] (tS (hdrL l)) := by
  refine CL.def1 (lv := 0) "line" rfl fun A env => ?_
  exact EX.seq (EX1.assign (EV.m1 (EV.glob rfl rfl) (Mth.match_ patH) (EV.name rfl) ⟨Cl.matchHdr patH hz⟩) rfl) <|
    EX.ite (TR.cmp (EV.name rfl) EV.none (Cmp.isNone_ref ref_mat)) (fun h => by cases h) fun _ =>
    EX.ret (EV.m1 (EV.name rfl) Mth.group EV.int ⟨Cl.group1 hz⟩) rfl
theorem c_white {l : List Nat} (hz : l.length ≤ 1000000) : CL (WF prog w P g X I) 1 (.ref 62) [tS l] (tB (allW l)) := by
  have hsl := sizeLine_eq
  refine CL.def1 (lv := 0) "line" rfl fun A env => ?_
  refine EX.ret (EV.cmp (EV.m1 (EV.glob rfl rfl) (Mth.match_ patW) (EV.name rfl) ⟨Cl.matchWht patW (by omega) (by omega)⟩) EV.none (T := tB (allW l)) ?_) rfl
  unfold whtT
  cases h : allW l with
  | true => rw [if_pos rfl]; exact Cmp.notNone_ref ref_mat
  | false => rw [if_neg (by decide)]; exact Cmp.notNone_none
theorem sp0 {W : Wd} {n : Nat} (h : n < 1000000000) : CL W 0 (.builtin "str.split") [tS (dg n ++ [46, 48]), tS [46]] (dt (.list ([dg n, [48]].map sd))) :=
  CL.split [dg n, [48]] (by simp) (fun p hp => by
    simp only [List.mem_cons, List.not_mem_nil, or_false] at hp
    rcases hp with rfl | rfl
    · intro z; have := dg_digit z; omega
    · decide) (by simp [joinL]) (by have := dg_len h; simp; omega)
theorem spE {W : Wd} {n : Nat} (h : n < 1000000000) : CL W 0 (.builtin "str.split") [tS (dg n ++ [46, 101, 110, 100]), tS [46]] (dt (.list ([dg n, [101, 110, 100]].map sd))) :=
  CL.split [dg n, [101, 110, 100]] (by simp) (fun p hp => by
    simp only [List.mem_cons, List.not_mem_nil, or_false] at hp
    rcases hp with rfl | rfl
    · intro z; have := dg_digit z; omega
    · decide) (by simp [joinL]) (by have := dg_len h; simp; omega)
theorem c_getE {rows : List (List Nat)} {n : Nat} (hz : rows.length ≤ 1000) (hn : n < 1000000000) : CL (WF prog w P g X I) 1 (.ref 103) [tSs rows, tS (dg n ++ [46, 48]), tS (dg n ++ [46, 101, 110, 100])] (tS (rowAt rows n)) := by
  have hsl := sizeLine_eq
  refine CL.def3 (lv := 0) "rows" "start" "stop" rfl fun A env => ?_
  refine EX.seq (EX1.unpackS ["first", "last"] [.int (n : Int), .list ([dg n, [101, 110, 100]].map sd)] (EV.tup2 (EV.c1 (EV.glob rfl rfl) KeepOk.type (EV.sub (EV.m1 (EV.name rfl) Mth.split (EV.lit [46]) (sp0 hn)) EV.int (Itm.mapAt (by decide) rfl (by rw [hsl]; simp))) (CL.intD hn) (Nat.le_refl _)) (EV.m1 (EV.name rfl) Mth.split (EV.lit [46]) (spE hn))) ⟨⟨_, rfl, rfl⟩, ⟨_, rfl, rfl⟩, trivial⟩ rfl) ?_
  refine EX.ite (TR.cmp (EV.sub (EV.name rfl) EV.int (Itm.mapAt (a := [101, 110, 100]) (xs := [dg n, [101, 110, 100]]) (by decide) rfl (by rw [hsl]; simp))) (EV.lit [101, 110, 100]) Cmp.eqS) (fun _ => ?_) (fun c => by simp at c)
  refine EX.ret (EV.ife (c := decide ((0 : Int) < n) && decide ((n : Int) ≤ rows.length)) (TR.chain EV.int (EV.name rfl) (fun _ => EV.c1 (EV.glob rfl rfl) KeepOk.builtin (EV.name rfl) (CL.lenM (by omega)) (Nat.le_refl _)) Cmp.ltI fun _ => Cmp.leI) (fun c => ?_) fun c => ?_) rfl
  · have c : 0 < n ∧ n ≤ rows.length := by simpa using c
    exact EV.sub (EV.name rfl) (EV.bin (EV.name rfl) EV.int Bin.subI) (Itm.mapAt (by omega) (by rw [show ((n : Int) - 1).toNat = n - 1 by omega]; exact rowAt_get c.1 c.2) (by omega))
  · refine EV.to (EV.lit []) ?_
    have : n = 0 ∨ rows.length < n := by
      rcases Nat.eq_zero_or_pos n with z | z
      · exact .inl z
      · refine .inr ?_
        rw [decide_eq_true (by omega : (0 : Int) < n), Bool.true_and] at c
        have := of_decide_eq_false c
        omega
    rcases this with rfl | z
    · rfl
    · rw [rowAt_big z]
theorem c_getT {rows : List (List Nat)} {a b : Nat} (hz : rows.length ≤ 1000) (hl : ∀ l ∈ rows, l.length ≤ 500) (ha : a ≤ rows.length) (hb : b < 1000000) : CL (WF prog w P g X I) 1 (.ref 103) [tSs rows, tS (dg (a + 1) ++ [46, 48]), tS (dg (b + 1) ++ [46, 48])] (tS (cutR rows (a + 1) (b + 1))) := by
  have hsl := sizeLine_eq
  refine CL.def3 (lv := 0) "rows" "start" "stop" rfl fun A env => ?_
  refine EX.seq (EX1.unpackS ["first", "last"] [.int ((a + 1 : Nat) : Int), .list ([dg (b + 1), [48]].map sd)] (EV.tup2 (EV.c1 (EV.glob rfl rfl) KeepOk.type (EV.sub (EV.m1 (EV.name rfl) Mth.split (EV.lit [46]) (sp0 (by omega))) EV.int (Itm.mapAt (by decide) rfl (by rw [hsl]; simp))) (CL.intD (by omega)) (Nat.le_refl _)) (EV.m1 (EV.name rfl) Mth.split (EV.lit [46]) (sp0 (by omega)))) ⟨⟨_, rfl, rfl⟩, ⟨_, rfl, rfl⟩, trivial⟩ rfl) ?_
  refine EX.ite (TR.cmp (EV.sub (EV.name rfl) EV.int (Itm.mapAt (a := [48]) (xs := [dg (b + 1), [48]]) (by decide) rfl (by rw [hsl]; simp))) (EV.lit [101, 110, 100]) Cmp.eqS) (fun c => by simp at c) fun _ => ?_
  have e1 : ((rows.drop a).take (b - a)).length ≤ 1000 := by rw [List.length_take, List.length_drop]; omega
  have e2 : ∀ l ∈ (rows.drop a).take (b - a), l.length ≤ 500 := fun l h => hl l (List.mem_of_mem_drop (List.mem_of_mem_take h))
  have e3 : ∀ l ∈ ((rows.drop a).take (b - a)).map (· ++ [10]), l.length ≤ 501 := fun l h => by
    obtain ⟨l', h', rfl⟩ := List.mem_map.mp h
    have := e2 l' h'; simp; omega
  have e4 := len_flat e3
  rw [List.length_map] at e4
  have e5 : ((rows.drop a).take (b - a)).length * 501 ≤ 1000 * 501 := Nat.mul_le_mul_right _ e1
  refine EX.ret (EV.m1 (EV.lit []) Mth.join (EV.to (EVN.comp0 ((rows.drop a).take (b - a)) sd (fun l => sd (l ++ [10])) injS (T := tSs ((rows.drop a).take (b - a))) (EV.sub (EV.name rfl) (EV.slice (EVO.val (EV.bin (EV.name rfl) EV.int Bin.subI)) (EVO.val (EV.bin (EV.c1 (EV.glob rfl rfl) KeepOk.type (EV.sub (EV.name rfl) EV.int (Itm.mapAt (a := dg (b + 1)) (xs := [dg (b + 1), [48]]) (by decide) rfl (by rw [hsl]; simp))) (CL.intD (by omega)) (Nat.le_refl _)) EV.int Bin.subI)) EVO.nil) ?_) Iter.list (by omega) fun l h env' => ?_).v ?_) ⟨Cl.join (sep := []) (ls := ((rows.drop a).take (b - a)).map (· ++ [10])) (by rw [List.length_map]; omega) (by decide)⟩) (by rw [joinL_nil]; unfold cutR; rw [show a + 1 - 1 = a by omega, show b + 1 - (a + 1) = b - a by omega])
  · rw [show (((a + 1 : Nat) : Int) - 1) = (a : Int) by omega, show (((b + 1 : Nat) : Int) - 1) = (b : Int) by omega]
    exact Itm.rowsMid ha (by omega)
  · exact EV.bin (EV.name rfl) (EV.lit [10]) (Bin.addS (by have := e2 l h; simp; omega))
  · rw [List.map_map]; rfl
theorem clsF : ClsOk (hd.heap_39 P) 94 83 where
  mks := by kernel_rfl
  ini := by kernel_rfl
  fn := by kernel_rfl
  sa := by kernel_rfl
  ov := by kernel_rfl
  hd := by kernel_rfl
  tk := fun n hn => by
    simp only [List.mem_cons, List.not_mem_nil, or_false] at hn
    rcases hn with rfl | rfl | rfl <;> kernel_rfl
  pg := fun n => plainGet_any (n := "get") (by kernel_rfl)
  fi := fun n hn => by
    simp only [List.mem_cons, List.not_mem_nil, or_false] at hn
    rcases hn with rfl | rfl <;> kernel_rfl
  it := ⟨_, _, _, _, _, _, _, _, _, _, _, _, _, _, _, _, _, _, rfl, by kernel_rfl, fun s a b => BindsTo.of_eq rfl, by kernel_rfl, by kernel_rfl, by decide, rfl, rfl, rfl⟩
theorem pgF : ∃ L1 L2, PgFn (hd.heap_39 P) 110 109 L1 L2 ∧ PgK (hd.heap_39 P) L1 L2 :=
  ⟨⟨_, _, _⟩, ⟨_, _, _⟩, ⟨⟨_, _, _, _, _, _, _, _, _, _, _, _, _, _, _, _, _, _, _, _, _, _, _, _, _, _, _, _, rfl, fun s a => BindsTo.of_eq rfl, rfl, rfl, rfl, rfl⟩, by kernel_rfl, fun _ => rfl, fun _ => rfl⟩,
    ⟨⟨_, _, _, _, _, rfl⟩, rfl, ⟨rfl, rfl, rfl⟩, fun _ _ _ _ _ _ _ => BindsTo.of_eq rfl, ⟨_, _, _, _, _, _, _, _, _, _, _, _, _, _, _, _, _, _, _, _, rfl, fun _ => rfl⟩, rfl, ⟨rfl, rfl, rfl⟩, fun _ _ _ _ _ _ _ _ => BindsTo.of_eq rfl⟩⟩
abbrev rF (pg : Ty) (mk : List Nat) (n : Nat) (c : Bnd) (line : List Nat) (fl ch cl la fi : Bnd) : Rho := [("text", .val pg), ("mark", .val (tS mk)), ("lineno", .val (tI n)), ("col", c), ("line", .val (tS line)), ("first_lineno", fl), ("comment_header", ch), ("comment_header_len", cl), ("last", la), ("first", fi)]
theorem c_find {L1 L2 : LamS} {rows : List (List Nat)} {m s e b : Nat} {cc : List Nat} {ci : Int} (TK : TabOk (WF prog w P g X I) 109 105 q0) (G : PgK (hd.heap_39 P) L1 L2) (hz : rows.length ≤ 1000) (hl : ∀ l ∈ rows, l.length ≤ 500) (hm : m ≤ rows.length + 1) (F : FindS rows m s e b) (hc : PySem.intText? (S cc) = some ci) (hc1 : cc.length ≤ 640) (hc2 : 46 ∉ cc) :
    CL (WF prog w P g X I) 3 (.ref 55) [pageT (WF prog w P g X I) 94 q0 L1 L2 rows, tS (dg m ++ [46] ++ cc)] (dt (fpd rows (b + 1) e (hdrL (rowAt rows s)))) := by
  have hsl := sizeLine_eq
  obtain ⟨hs, he⟩ := F.le hm
  have hrl : ∀ n, (rowAt rows n).length ≤ 500 := fun n => by
    rcases rowAt_mem (rows := rows) (n := n) with z | z
    · rw [z]; simp
    · exact hl _ z
  have hsp : CL (WF prog w P g X I) 0 (.builtin "str.split") [tS (dg m ++ [46] ++ cc), tS [46]] (dt (.list ([dg m, cc].map sd))) :=
    CL.split [dg m, cc] (by simp) (fun p hp => by
      simp only [List.mem_cons, List.not_mem_nil, or_false] at hp
      rcases hp with rfl | rfl
      · intro z; have := dg_digit z; omega
      · exact hc2) (by simp [joinL]) (by have := dg_len (n := m) (by omega); simp; omega)
  refine CL.def2 (lv := 2) "text" "mark" rfl fun A env => ?_
  refine EX.seq (EX1.mapInt "lineno" "col" (EV.glob rfl rfl) (EV.glob rfl rfl) (EV.m1 (EV.name rfl) Mth.split (EV.lit [46]) hsp) (dg_int (by omega)) hc (Nat.le_trans (dg_len (n := m) (by omega)) (by decide)) hc1 ⟨⟨_, rfl, rfl⟩, ⟨_, rfl, rfl⟩, trivial⟩) ?_
  refine EX.seq (EX1.assign (EV.get TK clsF G (lv' := 0) rfl rfl (by kernel_rfl) (EV.name rfl) (EV.bin (EV.lit [37, 100, 46, 48]) (EV.name rfl) (Bin.pct0 (by omega))) (EV.bin (EV.lit [37, 100, 46, 101, 110, 100]) (EV.name rfl) (Bin.pctE (by omega))) (c_getE hz (by omega))) rfl) ?_
  refine EX.norm (rF (pageT (WF prog w P g X I) 94 q0 L1 L2 rows) (dg m ++ [46] ++ cc) m (.val (tI ci)) (rowAt rows m) .free .free .free .free .free) ?_
  refine EX.while_ (fun k ρ' => ∃ n, m ≤ n ∧ n + k = s ∧ ρ' = rF (pageT (WF prog w P g X I) 94 q0 L1 L2 rows) (dg m ++ [46] ++ cc) n (.val (tI ci)) (rowAt rows n) .free .free .free .free .free) (fun ρ' => ρ' = rF (pageT (WF prog w P g X I) 94 q0 L1 L2 rows) (dg m ++ [46] ++ cc) s (.val (tI ci)) (rowAt rows s) .free .free .free .free .free) (s - m) ⟨m, Nat.le_refl _, by have := F.ms; omega, rfl⟩ ?_ ?_
  · rintro k ρ' ⟨n, h1, h2, rfl⟩
    refine ⟨_, TR.and (TR.plain (EV.compare TK clsF G (lv' := 1) rfl rfl rfl hz (n := n) (by omega) (sp0 (by omega)) (EV.name rfl) (EV.bin (EV.lit [37, 100, 46, 48]) (EV.name rfl) (Bin.pct0 (by omega))) (EV.lit [60]) (EV.lit [101, 110, 100])) Truth.bool) (fun _ => TR.plain (EV.c1 (EV.glob rfl rfl) (KeepOk.ref (by kernel_rfl)) (EV.name rfl) (c_white (by have := hrl n; omega)) (Nat.le_succ 1)) Truth.bool), fun c => ?_, fun c => ?_⟩
    · have c : n ≤ rows.length ∧ allW (rowAt rows n) = true := by simpa using c
      have hn : n ≠ s := fun z => F.st (z ▸ c)
      refine EX.seq (EX1.assign (T := tI ((n + 1 : Nat) : Int)) (EV.bin (EV.name rfl) EV.int Bin.addI) rfl) ?_
      refine EX.seq (EX1.assign (EV.get TK clsF G (lv' := 0) rfl rfl (by kernel_rfl) (EV.name rfl) (EV.bin (EV.lit [37, 100, 46, 48]) (EV.name rfl) (Bin.pct0 (by omega))) (EV.bin (EV.lit [37, 100, 46, 101, 110, 100]) (EV.name rfl) (Bin.pctE (by omega))) (c_getE hz (by omega))) rfl) ?_
      exact EX.nil ⟨k - 1, by omega, n + 1, by omega, by omega, rfl⟩
    · have hn : n = s := by
        by_cases z : n = s
        · exact z
        · have := F.wh n h1 (by omega)
          rw [decide_eq_true this.1, this.2] at c; cases c
      subst hn; rfl
  rintro ρ' rfl
  refine EX.seq (EX1.assign (EV.name rfl) rfl) ?_
  refine EX.seq (EX1.assign (EV.c1 (EV.glob rfl rfl) (KeepOk.ref (by kernel_rfl)) (EV.name rfl) (c_hdr (by have := hrl s; omega)) (Nat.le_succ 1)) rfl) ?_
  have hH : (hdrL (rowAt rows s)).length ≤ 500 := by have := hrl s; have := hdrN_le (rowAt rows s); rw [hdrL_len]; omega
  refine EX.seq (EX1.assign (EV.c1 (EV.glob rfl rfl) KeepOk.builtin (EV.name rfl) (CL.lenS (by omega)) (Nat.zero_le _)) rfl) ?_
  -- the test of a row
  have tst : ∀ n, gdR rows (hdrL (rowAt rows s)) n = (decide (hdrL (rowAt rows n) = hdrL (rowAt rows s)) && !allW ((rowAt rows n).drop (hdrL (rowAt rows s)).length)) := fun n => by
    unfold gdR
    by_cases z : hdrL (rowAt rows n) = hdrL (rowAt rows s)
    · rw [decide_eq_true z, Bool.true_and, Bool.true_and, ← z, hdrL_len]; rfl
    · rw [decide_eq_false z, Bool.false_and, Bool.false_and]
  refine EX.while_ (fun k ρ' => ∃ n, s ≤ n ∧ n + k = e ∧ ρ' = rF (pageT (WF prog w P g X I) 94 q0 L1 L2 rows) (dg m ++ [46] ++ cc) n (.val (tI ci)) (rowAt rows n) (.val (tI s)) (.val (tS (hdrL (rowAt rows s)))) (.val (tI ((hdrL (rowAt rows s)).length : Nat))) .free .free) (fun ρ' => ρ' = rF (pageT (WF prog w P g X I) 94 q0 L1 L2 rows) (dg m ++ [46] ++ cc) e (.val (tI ci)) (rowAt rows e) (.val (tI s)) (.val (tS (hdrL (rowAt rows s)))) (.val (tI ((hdrL (rowAt rows s)).length : Nat))) .free .free) (e - s) ⟨s, Nat.le_refl _, by have := F.se; omega, rfl⟩ ?_ ?_
  · rintro k ρ' ⟨n, h1, h2, rfl⟩
    refine ⟨_, TR.and (TR.cmp (EV.c1 (EV.glob rfl rfl) (KeepOk.ref (by kernel_rfl)) (EV.name rfl) (c_hdr (by have := hrl n; omega)) (Nat.le_succ 1)) (EV.name rfl) Cmp.eqS) (fun _ => TR.not (TR.plain (EV.c1 (EV.glob rfl rfl) (KeepOk.ref (by kernel_rfl)) (EV.sub (EV.name rfl) (EV.slice (EVO.val (EV.name rfl)) EVO.nil EVO.nil) (Itm.strFrom _ (by have := hrl n; omega))) (c_white (by have := hrl n; simp; omega)) (Nat.le_succ 1)) Truth.bool)), fun c => ?_, fun c => ?_⟩
    · rw [← tst] at c
      have hn : n ≠ e := fun z => by rw [z, F.en] at c; cases c
      refine EX.seq (EX1.assign (T := tI ((n + 1 : Nat) : Int)) (EV.bin (EV.name rfl) EV.int Bin.addI) rfl) ?_
      refine EX.seq (EX1.assign (EV.get TK clsF G (lv' := 0) rfl rfl (by kernel_rfl) (EV.name rfl) (EV.bin (EV.lit [37, 100, 46, 48]) (EV.name rfl) (Bin.pct0 (by omega))) (EV.bin (EV.lit [37, 100, 46, 101, 110, 100]) (EV.name rfl) (Bin.pctE (by omega))) (c_getE hz (by omega))) rfl) ?_
      exact EX.nil ⟨k - 1, by omega, n + 1, by omega, by omega, rfl⟩
    · rw [← tst] at c
      have hn : n = e := by
        by_cases z : n = e
        · exact z
        · have := F.ge n h1 (by omega)
          rw [this] at c; cases c
      subst hn; rfl
  rintro ρ' rfl
  refine EX.seq (EX1.assign (EV.bin (EV.lit [37, 100, 46, 48]) (EV.name rfl) (Bin.pct0 (by omega))) rfl) ?_
  have hbs := F.bs
  refine EX.seq (EX1.assign (T := tI ((s - 1 : Nat) : Int)) (EV.to (EV.bin (EV.name rfl) EV.int Bin.subI) (congrArg tI (by omega))) rfl) ?_
  refine EX.seq (EX1.assign (EV.get TK clsF G (lv' := 0) rfl rfl (by kernel_rfl) (EV.name rfl) (EV.bin (EV.lit [37, 100, 46, 48]) (EV.name rfl) (Bin.pct0 (by omega))) (EV.bin (EV.lit [37, 100, 46, 101, 110, 100]) (EV.name rfl) (Bin.pctE (by omega))) (c_getE hz (by omega))) rfl) ?_
  refine EX.while_ (fun k ρ' => ∃ n, n < s ∧ b + k = n ∧ ρ' = rF (pageT (WF prog w P g X I) 94 q0 L1 L2 rows) (dg m ++ [46] ++ cc) n (.val (tI ci)) (rowAt rows n) (.val (tI s)) (.val (tS (hdrL (rowAt rows s)))) (.val (tI ((hdrL (rowAt rows s)).length : Nat))) (.val (tS (dg e ++ [46, 48]))) .free) (fun ρ' => ρ' = rF (pageT (WF prog w P g X I) 94 q0 L1 L2 rows) (dg m ++ [46] ++ cc) b (.val (tI ci)) (rowAt rows b) (.val (tI s)) (.val (tS (hdrL (rowAt rows s)))) (.val (tI ((hdrL (rowAt rows s)).length : Nat))) (.val (tS (dg e ++ [46, 48]))) .free) (s - 1 - b) ⟨s - 1, by omega, by omega, rfl⟩ ?_ ?_
  · rintro k ρ' ⟨n, h1, h2, rfl⟩
    refine ⟨_, TR.and3 (TR.cmp (EV.name rfl) EV.int Cmp.gtI) (fun _ => TR.cmp (EV.c1 (EV.glob rfl rfl) (KeepOk.ref (by kernel_rfl)) (EV.name rfl) (c_hdr (by have := hrl n; omega)) (Nat.le_succ 1)) (EV.name rfl) Cmp.eqS) (fun _ _ => TR.not (TR.plain (EV.c1 (EV.glob rfl rfl) (KeepOk.ref (by kernel_rfl)) (EV.sub (EV.name rfl) (EV.slice (EVO.val (EV.name rfl)) EVO.nil EVO.nil) (Itm.strFrom _ (by have := hrl n; omega))) (c_white (by have := hrl n; simp; omega)) (Nat.le_succ 1)) Truth.bool)), fun c => ?_, fun c => ?_⟩
    · rw [← tst] at c
      have c : 0 < n ∧ gdR rows (hdrL (rowAt rows s)) n = true := by simpa using c
      have hn : n ≠ b := fun z => by
        rcases F.be with q | q
        · omega
        · rw [z, q] at c; cases c.2
      refine EX.seq (EX1.assign (T := tI ((n - 1 : Nat) : Int)) (EV.to (EV.bin (EV.name rfl) EV.int Bin.subI) (congrArg tI (by omega))) rfl) ?_
      refine EX.seq (EX1.assign (EV.get TK clsF G (lv' := 0) rfl rfl (by kernel_rfl) (EV.name rfl) (EV.bin (EV.lit [37, 100, 46, 48]) (EV.name rfl) (Bin.pct0 (by omega))) (EV.bin (EV.lit [37, 100, 46, 101, 110, 100]) (EV.name rfl) (Bin.pctE (by omega))) (c_getE hz (by omega))) rfl) ?_
      exact EX.nil ⟨k - 1, by omega, n - 1, by omega, by omega, rfl⟩
    · rw [← tst] at c
      have hn : n = b := by
        by_cases z : n = b
        · exact z
        · have := F.gb n (by omega) h1
          rw [this, decide_eq_true (by omega : (0 : Int) < n)] at c; cases c
      subst hn; rfl
  rintro ρ' rfl
  have hse := F.se
  obtain ⟨e', rfl⟩ : ∃ e', e = e' + 1 := ⟨e - 1, by omega⟩
  refine EX.seq (EX1.assign (EV.bin (EV.lit [37, 100, 46, 48]) (EV.to (T' := tI ((b + 1 : Nat) : Int)) (EV.bin (EV.name rfl) EV.int Bin.addI) rfl) (Bin.pct0 (by omega))) rfl) ?_
  exact EX.ret (EV.tup4 (EV.name rfl) (EV.name rfl) (EV.name rfl) (EV.get TK clsF G (lv' := 0) rfl rfl (by kernel_rfl) (EV.name rfl) (EV.name rfl) (EV.name rfl) (c_getT hz hl (by omega) (by omega)))) rfl
theorem c_find0 {L1 L2 : LamS} {rows : List (List Nat)} {m s e b : Nat} (TK : TabOk (WF prog w P g X I) 109 105 q0) (G : PgK (hd.heap_39 P) L1 L2) (hz : rows.length ≤ 1000) (hl : ∀ l ∈ rows, l.length ≤ 500) (hm : m ≤ rows.length + 1) (F : FindS rows m s e b) :
    CL (WF prog w P g X I) 3 (.ref 55) [pageT (WF prog w P g X I) 94 q0 L1 L2 rows, tS (dg m ++ [46, 48])] (dt (fpd rows (b + 1) e (hdrL (rowAt rows s)))) := by
  have := c_find (cc := [48]) (ci := 0) TK G hz hl hm F (dg_int (n := 0) (by decide)) (by decide) (by decide)
  rwa [List.append_assoc] at this
end
end Mine

namespace Mine
open PySem PySem.W PyProof.Rows PySem.Spec

abbrev jq (p : Pr) : PyData := .tuple [sd p.1, sd p.2]
def abD : Option (List Nat) → PyData
  | none => .none
  | some H => sd H
theorem eqv_ab (h : List Nat) (a : Option (List Nat)) : PyData.eqv (sd h) (abD a) = decide (a = some h) := by
  cases a with
  | none => rfl
  | some H =>
    show PyData.eqv (sd h) (sd H) = _
    rw [eqv_str]; exact decide_eq_decide.mpr ⟨fun e => by rw [e], fun e => (Option.some.inj e).symm⟩
theorem shaped_sd {l : List Nat} (h : okL l = true) : SeqAt.shaped (sd l) = true := by
  unfold SeqAt.shaped
  rw [ok_lay h]; rfl
section
variable {prog : Program} {w : World} {P : Params} {g : Heap} {X : Addr → Prop} {I : HInv X}
theorem c_rest {l : List Nat} (hz : l.length ≤ 100000) : CL (WF prog w P g X I) 1 (.ref 117) [tS l] (tS (rstL l)) := by
  have hsl := sizeLine_eq
  refine CL.def1 (lv := 0) "row" rfl fun A env => ?_
  exact EX.ret (EV.to (EV.m1 (EV.m1 (EV.name rfl) Mth.lstrip (EV.lit [32, 9]) (CL.lstripC (by omega))) Mth.lstrip (EV.lit [35]) (CL.lstripC (by have := (List.dropWhile_sublist (l := l) fun c => [32, 9].contains c).length_le; omega))) (by rw [rst_eq])) rfl
/-- what a list of stretches is made of -/
def PrOk (n : Nat) (acc : List Pr) : Prop := acc.length ≤ n ∧ ∀ p ∈ acc, p.1.length ≤ 5 ∧ okL p.1 = true ∧ p.2.length ≤ 6 * n ∧ okL p.2 = true
theorem prok_step {n : Nat} {a : DSt} {r : List Nat} (h : PrOk n a.1) (hr : r.length ≤ 5 ∧ okL r = true) : PrOk (n + 1) (dstep a r).1 := by
  have hH : (hdrL r).length ≤ 5 ∧ okL (hdrL r) = true := ⟨by rw [hdrL_len]; exact Nat.le_trans (hdrN_le r) hr.1, ok_hdr hr.2⟩
  have up : ∀ p ∈ a.1, p.1.length ≤ 5 ∧ okL p.1 = true ∧ p.2.length ≤ 6 * (n + 1) ∧ okL p.2 = true := fun p hp => by
    obtain ⟨x, y, z, t⟩ := h.2 p hp; exact ⟨x, y, by omega, t⟩
  cases c1 : fullR r with
  | false => rw [dstep_n c1]; exact ⟨by have := h.1; show a.1.length ≤ _; omega, up⟩
  | true =>
    by_cases c2 : a.2 = some (hdrL r)
    · rw [dstep_m c1 c2]
      refine ⟨?_, fun p hp => ?_⟩
      · show (a.1.dropLast ++ [_]).length ≤ _
        rw [List.length_append, List.length_dropLast]
        have := h.1
        show a.1.length - 1 + 1 ≤ n + 1
        omega
      · rcases List.mem_append.mp hp with z | z
        · exact up p (List.dropLast_sublist _ |>.mem z)
        · simp at z
          rw [z]
          have hl : (a.1.getLast?.getD ([], [])).2.length ≤ 6 * n ∧ okL (a.1.getLast?.getD ([], [])).2 = true := by
            cases e : a.1.getLast? with
            | none => exact ⟨by simp, rfl⟩
            | some q =>
              have := h.2 q (List.mem_of_getLast? e)
              exact ⟨this.2.2.1, this.2.2.2⟩
          exact ⟨hH.1, hH.2, by simp; omega, by rw [← List.append_assoc]; exact ok_app (ok_app hl.2 hr.2) (by decide)⟩
    · rw [dstep_o c1 c2]
      refine ⟨?_, fun p hp => ?_⟩
      · show (a.1 ++ [_]).length ≤ _
        rw [List.length_append]
        have := h.1
        show a.1.length + 1 ≤ n + 1
        omega
      · rcases List.mem_append.mp hp with z | z
        · exact up p z
        · simp at z
          rw [z]
          exact ⟨hH.1, hH.2, by simp; omega, ok_app hr.2 (by decide)⟩
theorem prok_fold {rows : List (List Nat)} (h : ∀ l ∈ rows, l.length ≤ 5 ∧ okL l = true) : ∀ i, i ≤ rows.length → PrOk i (dfold ([], none) (rows.take i)).1
  | 0, _ => ⟨Nat.le_refl _, fun p hp => by cases hp⟩
  | i + 1, hi => by
    have e : rows.take (i + 1) = rows.take i ++ [rows[i]] := by rw [List.take_add_one, List.getElem?_eq_getElem (by omega)]; rfl
    rw [e, dfold_app]
    exact prok_step (prok_fold h i (by omega)) (h _ (List.getElem_mem _))
theorem ab_step {a : DSt} {r : List Nat} (h : ∀ H, a.2 = some H → okL H = true ∧ a.1 ≠ []) (hr : okL r = true) : ∀ H, (dstep a r).2 = some H → okL H = true ∧ (dstep a r).1 ≠ [] := by
  cases c1 : fullR r with
  | false => rw [dstep_n c1]; intro H e; cases e
  | true =>
    by_cases c2 : a.2 = some (hdrL r)
    · rw [dstep_m c1 c2]; exact fun H e => ⟨(h H e).1, by simp⟩
    · rw [dstep_o c1 c2]; intro H e; cases e; exact ⟨ok_hdr hr, by simp⟩
theorem ab_fold {rows : List (List Nat)} (h : ∀ l ∈ rows, l.length ≤ 5 ∧ okL l = true) : ∀ i, i ≤ rows.length → ∀ H, (dfold ([], none) (rows.take i)).2 = some H → okL H = true ∧ (dfold ([], none) (rows.take i)).1 ≠ []
  | 0, _ => fun H e => by cases e
  | i + 1, hi => by
    have e : rows.take (i + 1) = rows.take i ++ [rows[i]] := by rw [List.take_add_one, List.getElem?_eq_getElem (by omega)]; rfl
    rw [e, dfold_app]
    exact ab_step (ab_fold h i (by omega)) (h _ (List.getElem_mem _)).2
theorem set_last {x : List Pr} {y z : Pr} : ((x ++ [y]).map jq).set (idxN ((x ++ [y]).map jq).length (-1)) (jq z) = (x ++ [z]).map jq := by
  have : idxN ((x ++ [y]).map jq).length (-1) = (x.map jq).length := by unfold idxN; simp; omega
  rw [this, List.map_append, List.map_append, List.set_append_right _ _ (Nat.le_refl _), Nat.sub_self]; rfl
theorem get_last {x : List Pr} {y : Pr} : ((x ++ [y]).map jq)[idxN ((x ++ [y]).map jq).length (-1)]? = some (jq y) := by
  have : idxN ((x ++ [y]).map jq).length (-1) = (x.map jq).length := by unfold idxN; simp; omega
  rw [this, List.map_append, List.getElem?_append_right (Nat.le_refl _), Nat.sub_self]; rfl
abbrev r6d (rows : List (List Nat)) (a : DSt) (b1 b2 : Bnd) : Rho := [("rows", .val (tSs rows)), ("due", .own (a.1.map jq)), ("above", .val (dt (abD a.2))), ("row", b1), ("header", b2)]
theorem c_due {rows : List (List Nat)} (hz : rows.length ≤ 100) (hr : ∀ l ∈ rows, l.length ≤ 5 ∧ okL l = true) : CL (WF prog w P g X I) 2 (.ref 136) [tSs rows] (dt (.list ((dueP rows).map jq))) := by
  have hsl := sizeLine_eq
  refine CL.def1 (lv := 1) "rows" rfl fun A env => ?_
  refine EX.seq (EX1.own (EVN.data []) rfl) ?_
  refine EX.seq (EX1.assign EV.none rfl) ?_
  refine EX.norm (r6d rows (dfold ([], none) (rows.take 0)) .free .free) ?_
  refine EX.forL (ds := rows.map sd) (fun i ρ => ∃ b1 b2, (Bnd.sto b1 = true ∧ Bnd.sto b2 = true) ∧ ρ = r6d rows (dfold ([], none) (rows.take i)) b1 b2) (EV.name rfl) ⟨_, _, ⟨rfl, rfl⟩, rfl⟩ ?_ ?_ ?_
  · rintro i ρ' ⟨b1, b2, hs, rfl⟩
    exact ⟨_, rfl, hs.1⟩
  · rintro i ρ' d hd ⟨b1, b2, ⟨_, s2⟩, rfl⟩
    rw [List.getElem?_map] at hd
    obtain ⟨r, hri, rfl⟩ := Option.map_eq_some_iff.mp hd
    have hi : i < rows.length := (List.getElem?_eq_some_iff.mp hri).1
    have hrm := hr r (List.mem_of_getElem? hri)
    have hst : rows.take (i + 1) = rows.take i ++ [r] := by rw [List.take_add_one, hri]; rfl
    have hpk := prok_fold hr i (by omega)
    have hab := ab_fold hr i (by omega)
    have hnx : dfold ([], none) (rows.take (i + 1)) = dstep (dfold ([], none) (rows.take i)) r := by rw [hst, dfold_app]; rfl
    generalize dfold ([], none) (rows.take i) = a at hpk hnx hab ⊢
    have hrl : (rstL r).length ≤ r.length := by unfold rstL; rw [List.length_drop]; omega
    refine EX.seq (EX1.assign (T := tS (hdrL r)) (EV.to (EV.sub (EV.name rfl) (EV.slice EVO.nil (EVO.val (EV.bin (EV.c1 (EV.glob rfl rfl) KeepOk.builtin (EV.name rfl) (CL.lenS (by omega)) (Nat.zero_le _)) (EV.c1 (EV.glob rfl rfl) KeepOk.builtin (EV.c1 (EV.glob rfl rfl) (KeepOk.ref (by kernel_rfl)) (EV.name rfl) (c_rest (by omega)) (Nat.le_refl _)) (CL.lenS (by omega)) (Nat.zero_le _)) Bin.subI)) EVO.nil) (Itm.strToI (by omega) (by omega))) (by rw [show ((r.length : Int) - ((rstL r).length : Int)).toNat = r.length - (rstL r).length by omega, hdr_take])) rfl s2) ?_
    refine EX.ite (c := !fullR r) (TR.to (TR.cmp (EV.m0 (EV.c1 (EV.glob rfl rfl) (KeepOk.ref (by kernel_rfl)) (EV.name rfl) (c_rest (by omega)) (Nat.le_refl _)) Mth.strip (CL.strip (by omega))) (EV.lit []) Cmp.eqS) (by rw [strip_white]; unfold fullR; rw [Bool.not_not])) (fun c => ?_) fun c => ?_
    · have c : fullR r = false := by simpa using c
      refine EX.seq (EX1.assign EV.none rfl) (EX.nil ⟨.val (tS r), .val (tS (hdrL r)), ⟨rfl, rfl⟩, ?_⟩)
      rw [hnx, dstep_n c]; rfl
    · have c : fullR r = true := by simpa using c
      refine EX.ite (c := decide (a.2 = some (hdrL r))) (TR.to (TR.cmp (EV.name rfl) (EV.name rfl) (Cmp.eqD (shaped_sd (ok_hdr hrm.2)) ?_)) (eqv_ab _ _)) (fun c2 => ?_) fun c2 => ?_
      · cases e : a.2 with
        | none => rfl
        | some H => exact shaped_sd (hab H e).1
      · have c2 := of_decide_eq_true c2
        obtain ⟨acc, ab⟩ := a
        obtain ⟨x, y, rfl⟩ := snoc_of (hab _ c2).2
        have hy := hpk.2 y (by simp)
        have hyl := hpk.1
        refine EX.seq (EX1.setItem (d := jq (hdrL r, (y.2 ++ r) ++ [10])) rfl (EV.tup2 (EV.name rfl) (EV.bin (EV.bin (EV.borrow "due" rfl (EV.sub (EV.sub (T := dt (jq y)) (EV.name rfl) (EV.uno EV.int Un.neg) (Itm.listAt (by simp; omega) (by simp; omega) (by rw [List.length_map]; exact Nat.le_trans hyl (by omega)) get_last)) EV.int (Itm.tupleAt (ds := [sd y.1, sd y.2]) (d := sd y.2) (by simp) (by simp) (by rw [hsl]; simp) rfl)) atomS) (EV.name rfl) (Bin.addS (by omega))) (EV.lit [10]) (Bin.addS (by simp; omega)))) (EV.uno EV.int Un.neg) (by simp; omega) (by simp; omega) (by rw [List.length_map]; exact Nat.le_trans hyl (by omega))) (EX.nil ⟨.val (tS r), .val (tS (hdrL r)), ⟨rfl, rfl⟩, ?_⟩)
        rw [hnx, dstep_m c c2, set_last, List.dropLast_concat, List.getLast?_concat]
        rfl
      · have c2 := of_decide_eq_false c2
        refine EX.seq (EX1.append (d := jq (hdrL r, r ++ [10])) rfl (EV.tup2 (EV.name rfl) (EV.bin (EV.name rfl) (EV.lit [10]) (Bin.addS (by simp; omega)))) (by rw [List.length_map]; have := hpk.1; omega)) ?_
        refine EX.seq (EX1.assign (EV.name rfl) rfl) (EX.nil ⟨.val (tS r), .val (tS (hdrL r)), ⟨rfl, rfl⟩, ?_⟩)
        rw [hnx, dstep_o c c2]
        show _ = r6d rows (a.1 ++ [(hdrL r, r ++ [10])], some (hdrL r)) _ _
        unfold r6d
        rw [List.map_append]; rfl
  · rintro ρ' ⟨b1, b2, hs, rfl⟩
    rw [List.length_map, List.take_of_length_le (Nat.le_refl _)]
    refine EX.freeze "due" rfl ?_
    exact EX.ret (EV.name rfl) rfl
end
end Mine

namespace Mine
open PySem PySem.W PyProof.Rows PySem.Spec

theorem prok_any {rows : List (List Nat)} (h : ∀ l ∈ rows, l.length ≤ 5 ∧ okL l = true) : PrOk rows.length (dfold ([], none) rows).1 := by
  have := prok_fold h rows.length (Nat.le_refl _)
  rwa [List.take_of_length_le (Nat.le_refl _)] at this
section
variable {prog : Program} {w : World} {P : Params} {g : Heap} {X : Addr → Prop} {I : HInv X}
abbrev r6n (rows : List (List Nat)) (cut : List Pr) (stay : List (List Nat)) (rw : Nat) (b1 b2 b3 b4 : Bnd) : Rho := [("rows", .val (tSs rows)), ("cut", .own (cut.map jq)), ("stay", .val (tSs stay)), ("row", .val (tI (rw : Int))), ("turn", b1), ("solid", b2), ("told", b3), ("below", b4)]
theorem c_down {L1 L2 : LamS} {rows : List (List Nat)} (TK : TabOk (WF prog w P g X I) 109 105 q0) (PF : PgFn (hd.heap_39 P) 110 109 L1 L2) (G : PgK (hd.heap_39 P) L1 L2) (hz : rows.length ≤ 100) (hr : ∀ l ∈ rows, l.length ≤ 5 ∧ okL l = true) :
    CL (WF prog w P g X I) 4 (.ref 122) [tSs rows] (dt (.tuple [.list ((dueP rows).map jq), .list ((bareL rows).map sd)])) := by
  have hsl := sizeLine_eq
  refine CL.def1 (lv := 3) "rows" rfl fun A env => ?_
  refine EX.seq (EX1.own (EVN.data []) rfl) ?_
  refine EX.seq (EX1.assign (EV.c1 (EV.glob rfl rfl) KeepOk.type (EV.name rfl) (CL.listL (by rw [List.length_map]; omega)) (Nat.zero_le _)) rfl) ?_
  refine EX.seq (EX1.assign EV.int rfl) ?_
  refine EX.norm (r6n rows [] rows 1 .free .free .free .free) ?_
  refine EX.forR rows.length (fun i ρ => ∃ B L rw b1 b2 b3 b4, rows = B ++ L ∧ L.length ≤ rows.length - i ∧ BC (dfold ([], none) B).2 L ∧ (rw = (bareL B).length + 1 ∨ L = [] ∧ (bareL B).length < rw) ∧ (Bnd.sto b1 = true ∧ Bnd.sto b2 = true ∧ Bnd.sto b3 = true ∧ Bnd.sto b4 = true) ∧ ρ = r6n rows (dfold ([], none) B).1 (bareL B ++ L) rw b1 b2 b3 b4)
    (EV.c1 (EV.glob rfl rfl) KeepOk.type (EV.c1 (EV.glob rfl rfl) KeepOk.builtin (EV.name rfl) (CL.lenM (by omega)) (Nat.zero_le _)) ⟨Cl.range1⟩ (Nat.zero_le _)) (by omega) (by omega) ⟨[], rows, 1, .free, .free, .free, .free, rfl, Nat.le_refl _, fun x r e f z => (by cases z), .inl rfl, ⟨rfl, rfl, rfl, rfl⟩, rfl⟩ ?_ ?_ ?_
  · rintro i ρ' ⟨B, L, rw, b1, b2, b3, b4, h1, h2, h3, h4, hs, rfl⟩
    exact ⟨_, rfl, hs.1⟩
  · rintro i ρ' hi ⟨B, L, rw, b1, b2, b3, b4, h1, h2, h3, h4, ⟨_, s2, s3, s4⟩, rfl⟩
    have hbn : ∀ x ∈ bareL B, fullR x = false := fun x hx => by simpa using (List.mem_filter.mp hx).2
    have hrw5 : ∀ l ∈ bareL B ++ L, l.length ≤ 5 ∧ okL l = true := fun l hl => by
      refine hr l ?_
      rw [h1]
      rcases List.mem_append.mp hl with z | z
      · exact List.mem_append_left _ (List.mem_filter.mp z).1
      · exact List.mem_append_right _ z
    have hbl : (bareL B).length ≤ B.length := List.length_filter_le _ _
    have hrl : rows.length = B.length + L.length := by rw [h1, List.length_append]
    have hsl2 : (bareL B ++ L).length = (bareL B).length + L.length := List.length_append
    generalize hst : bareL B ++ L = st at hrw5 hsl2 ⊢
    have hst5 : ∀ l ∈ st, l.length ≤ 500 := fun l hl => by have := (hrw5 l hl).1; omega
    refine EX.ite (TR.cmp (EV.name rfl) (EV.c1 (EV.glob rfl rfl) KeepOk.builtin (EV.name rfl) (CL.lenM (by omega)) (Nat.zero_le _)) Cmp.leI) (fun c => ?_) fun c => ?_
    · have c : rw ≤ st.length := by have := of_decide_eq_true c; omega
      have hrw : rw = (bareL B).length + 1 := by
        rcases h4 with z | ⟨z, y⟩
        · exact z
        · rw [z] at hsl2; simp at hsl2; omega
      obtain ⟨s, e, b, F⟩ := find_ex st rw (by omega) (by omega)
      have hsol := solid_eq c F
      have hle := F.le (by omega)
      have hms := F.ms
      have hse := F.se
      have hit : ∀ {C : Cx}, Iter C (rngT (rw : Int) ((st.length + 1 : Nat) : Int) 1) (((List.range' rw (st.length + 1 - rw)).map jn).map dt) := Iter.rangeAB (by omega) (by omega)
      have hrow : ∀ n, (rowAt st n).length ≤ 5 := fun n => by
        rcases rowAt_mem (rows := st) (n := n) with z | z
        · rw [z]; simp
        · exact (hrw5 _ z).1
      have hfl := List.length_filter_le (fun j => !allW (rowAt st j)) (List.range' rw (st.length + 1 - rw))
      rw [List.length_range'] at hfl
      refine EX.seq (EX1.assign (T := dt (.list ((((List.range' rw (st.length + 1 - rw)).filter fun j => !allW (rowAt st j)) ++ [st.length + 1]).map jn))) (EV.to (EV.bin (EVN.compIf (List.range' rw (st.length + 1 - rw)) jn jn (fun j => !allW (rowAt st j)) injN (EV.c2 (EV.glob rfl rfl) KeepOk.type (EV.name rfl) (EV.to (T' := tI ((st.length + 1 : Nat) : Int)) (EV.bin (EV.c1 (EV.glob rfl rfl) KeepOk.builtin (EV.name rfl) (CL.lenM (by omega)) (Nat.zero_le _)) EV.int Bin.addI) rfl) ⟨Cl.range2⟩ (Nat.zero_le _)) hit (by rw [List.length_range']; omega) (fun j hj env' => ?_) (fun j hj _ env' => EV.name rfl)).v (EVN.lst [jn (st.length + 1)] (EVL.cons (EV.to (T' := tI ((st.length + 1 : Nat) : Int)) (EV.bin (EV.c1 (EV.glob rfl rfl) KeepOk.builtin (EV.name rfl) (CL.lenM (by omega)) (Nat.zero_le _)) EV.int Bin.addI) rfl) EVL.nil)).v (Bin.addL (by rw [List.length_map]; show _ + 1 ≤ _; omega))) (by rw [List.map_append]; rfl)) rfl s2) ?_
      · obtain ⟨i', hi', rfl⟩ := List.mem_range'.mp hj
        exact TR.to (TR.cmp (EV.m0 (EV.sub (EV.name rfl) (EV.bin (EV.name rfl) EV.int Bin.subI) (Itm.mapAt (by omega) (by rw [show (((rw + 1 * i' : Nat) : Int) - 1).toNat = rw + 1 * i' - 1 by omega]; exact rowAt_get (by omega) (by omega)) (by omega))) Mth.strip (CL.strip (by have := hrow (rw + 1 * i'); omega))) (EV.lit []) Cmp.neS) (by rw [strip_white])
      refine EX.seq (EX1.assign (EV.c2 (EV.glob rfl rfl) (KeepOk.ref (by kernel_rfl)) (EV.c1 (EV.glob rfl rfl) (KeepOk.ref (by kernel_rfl)) (EV.name rfl) (CL.pageK (lv := 0) PF G TK clsF rfl (by kernel_rfl)) (Nat.le_refl _)) (EV.bin (EV.lit [37, 100, 46, 48]) (EV.name rfl) (Bin.pct0 (by omega))) (c_find0 TK G (by omega) hst5 (by omega) F) (Nat.le_refl _)) rfl s3) ?_
      subst hst
      subst hrw
      obtain ⟨w', T, hL, hw', hs', hb, hcase⟩ := down_step hbn F
      refine EX.seq (EX1.unpackS ["row", "below"] [.int ((b + 1 : Nat) : Int), .int (e : Int)] (EV.tup2 (EV.c1 (EV.glob rfl rfl) KeepOk.type (EV.sub (EV.sub (EV.name rfl) EV.int Itm.t4a) (EV.slice EVO.nil (EVO.val (EV.uno EV.int Un.neg)) EVO.nil) (Itm.num (by omega))) (CL.intD (by omega)) (Nat.zero_le _)) (EV.c1 (EV.glob rfl rfl) KeepOk.type (EV.sub (EV.sub (EV.name rfl) EV.int Itm.t4b) (EV.slice EVO.nil (EVO.val (EV.uno EV.int Un.neg)) EVO.nil) (Itm.num (by omega))) (CL.intD (by omega)) (Nat.zero_le _))) ⟨⟨_, rfl, s4⟩, ⟨_, rfl, rfl⟩, trivial⟩ rfl) ?_
      refine EX.ite (c := false) (TR.to (TR.cmp (EV.name rfl) (EV.sub (EV.name rfl) EV.int (Itm.mapAt (by decide) hsol (by rw [List.length_append]; show _ + 1 ≤ _; omega))) Cmp.neI) (by rw [decide_eq_true (by omega)]; rfl)) (fun c => by cases c) fun _ => ?_
      have hww : ∀ x ∈ w', fullR x = false := fun x hx => white_full (hw' x hx)
      obtain ⟨so, hso⟩ : ∃ so : Bnd, so = .val (dt (.list ((((List.range' ((bareL B).length + 1) ((bareL B ++ L).length + 1 - ((bareL B).length + 1))).filter fun j => !allW (rowAt (bareL B ++ L) j)) ++ [(bareL B ++ L).length + 1]).map jn))) := ⟨_, rfl⟩
      have hsos : so.sto = true := by rw [hso]; rfl
      refine EX.norm (r6n rows (dfold ([], none) B).1 (bareL B ++ L) (b + 1) (.val (tI (0 + (i : Int)))) so (.val (dt (fpd (bareL B ++ L) (b + 1) e (hdrL (rowAt (bareL B ++ L) s))))) (.val (tI (e : Int)))) ?_ (by rw [hso]; rfl)
      clear hso hsol
      have hTl : L.length = w'.length + T.length := by rw [hL, List.length_append]
      refine EX.ite (TR.cmp (EV.name rfl) (EV.name rfl) Cmp.eqI) (fun c => ?_) fun c => ?_
      · have c : b + 1 = e := by have := of_decide_eq_true c; omega
        refine EX.seq (EX1.assign (T := tI ((b + 2 : Nat) : Int)) (EV.to (EV.bin (EV.name rfl) EV.int Bin.addI) (congrArg tI (by omega))) rfl) ?_
        rcases hcase with ⟨hT, _⟩ | ⟨x, R, hT, hx, _, _⟩ | ⟨p, R, hT, hpn, _, _, he⟩
        · subst hT
          rw [List.append_nil] at hL
          subst hL
          refine EX.nil ⟨B ++ L, [], b + 2, .val (tI (0 + (i : Int))), so, .val (dt (fpd (bareL B ++ L) (b + 1) e (hdrL (rowAt (bareL B ++ L) s)))), .val (tI (e : Int)), by rw [List.append_nil]; exact h1, by simp, fun x r e f z => (by cases e), .inr ⟨rfl, ?_⟩, ⟨rfl, hsos, rfl, rfl⟩, ?_⟩
          · rw [bare_app, bare_id hww, List.length_append]; omega
          · rw [dfold_app, dfold_b hww, bare_app, bare_id hww, List.append_nil]; rfl
        · subst hT
          have hwx : ∀ y ∈ w' ++ [x], fullR y = false := fun y hy => by
            rcases List.mem_append.mp hy with z | z
            · exact hww y z
            · simp at z; rw [z]; exact hx
          have hwn : (dfold (dfold ([], none) B) (w' ++ [x])) = ((dfold ([], none) B).1, none) := dfold_bare (by simp) hwx
          refine EX.nil ⟨B ++ (w' ++ [x]), R, b + 2, .val (tI (0 + (i : Int))), so, .val (dt (fpd (bareL B ++ L) (b + 1) e (hdrL (rowAt (bareL B ++ L) s)))), .val (tI (e : Int)), by rw [h1, hL]; simp, by rw [List.length_cons] at hTl; omega, ?_, .inl ?_, ⟨rfl, hsos, rfl, rfl⟩, ?_⟩
          · rw [dfold_app, hwn]; exact fun y r _ _ z => by cases z
          · rw [bare_app, bare_id hwx, List.length_append, List.length_append]; show _ = _ + (_ + 1) + 1; omega
          · rw [dfold_app, hwn, bare_app, bare_id hwx]
            have : bareL B ++ (w' ++ [x]) ++ R = bareL B ++ L := by rw [hL]; simp
            rw [this]; rfl
        · exfalso
          have := List.length_pos_iff.mpr hpn
          omega
      · have c : ¬ b + 1 = e := by have := of_decide_eq_false c; omega
        rcases hcase with ⟨_, z⟩ | ⟨x, R, hT, hx, _, z⟩ | ⟨p, R, hT, hpn, hp2, hbc, he⟩
        · omega
        · omega
        · subst hT
          have hpl := List.length_pos_iff.mpr hpn
          obtain ⟨d1, d2⟩ := down_cut hww hpn hp2 (hL ▸ h3)
          have hst2 : bareL B ++ L = (bareL B ++ w') ++ (p ++ R) := by rw [hL, List.append_assoc]
          have hcut : cutR (bareL B ++ L) (b + 1) e = endsR p := by rw [hst2]; exact cut_at (by rw [List.length_append]; omega) (by omega)
          have hpk := (prok_any (rows := B) fun l hl => hr l (by rw [h1]; exact List.mem_append_left _ hl)).1
          have hsz : (bareL B ++ L).length ≤ 100 := by omega
          rw [List.length_append] at hTl
          have ht1 : (bareL B ++ L).take b = bareL B ++ w' := by rw [hst2, List.take_left' (by rw [List.length_append]; omega)]
          have ht2 : (bareL B ++ L).drop (e - 1) = R := by rw [hst2, ← List.append_assoc, List.drop_left' (by rw [List.length_append, List.length_append]; omega)]
          generalize hdrL (rowAt (bareL B ++ L) s) = H at *
          generalize bareL B ++ L = st at *
          refine EX.seq (EX1.append (d := jq (H, endsR p)) rfl (EV.to (EV.sub (EV.name rfl) (EV.slice (EVO.val EV.int) EVO.nil EVO.nil) (Itm.tupFrom (a := 2) (by decide) (by simp) (by rw [hsl]; simp))) (by rw [hcut]; rfl)) (by rw [List.length_map]; omega)) ?_
          refine EX.seq (EX1.assign (T := tSs ((bareL B ++ w') ++ R)) (EV.to (EV.bin (EV.sub (EV.name rfl) (EV.slice EVO.nil (EVO.val (EV.to (T' := tI (b : Int)) (EV.bin (EV.name rfl) EV.int Bin.subI) (congrArg tI (by omega)))) EVO.nil) (Itm.listTo (by omega))) (EV.sub (EV.name rfl) (EV.slice (EVO.val (EV.to (T' := tI ((e - 1 : Nat) : Int)) (EV.bin (EV.name rfl) EV.int Bin.subI) (congrArg tI (by omega)))) EVO.nil EVO.nil) (Itm.listFrom (by omega))) (Bin.addL (by simp; omega))) (by rw [ht1, ht2, ← List.map_append])) rfl) ?_
          refine EX.nil ⟨B ++ w' ++ p, R, b + 1, .val (tI (0 + (i : Int))), so, .val (dt (fpd st (b + 1) e H)), .val (tI (e : Int)), by rw [h1, hL]; simp, by omega, by rw [d1]; exact hbc, .inl (by rw [d2, List.length_append]; omega), ⟨rfl, hsos, rfl, rfl⟩, ?_⟩
          rw [d1, d2]
          show _ = r6n rows ((dfold ([], none) B).1 ++ [(H, endsR p)]) _ _ _ _ _ _
          unfold r6n
          rw [List.map_append]; rfl
    · have c : ¬ rw ≤ st.length := by have := of_decide_eq_false c; omega
      have hL : L = [] := by
        rcases h4 with z | ⟨z, y⟩
        · exact List.eq_nil_of_length_eq_zero (by omega)
        · exact z
      subst hst
      exact EX.nil ⟨B, L, rw, .val (tI (0 + (i : Int))), b2, b3, b4, h1, by rw [hL]; simp, h3, h4, ⟨rfl, s2, s3, s4⟩, rfl⟩
  · rintro ρ' ⟨B, L, rw, b1, b2, b3, b4, h1, h2, h3, h4, hs, rfl⟩
    have hL : L = [] := List.eq_nil_of_length_eq_zero (by omega)
    subst hL
    rw [List.append_nil] at h1 ⊢
    subst h1
    refine EX.freeze "cut" rfl ?_
    exact EX.ret (EV.tup2 (EV.name rfl) (EV.name rfl)) rfl
end
end Mine

namespace Mine
open PySem PySem.W PyProof.Rows PySem.Spec

section
variable {prog : Program} {w : World} {P : Params} {g : Heap} {X : Addr → Prop} {I : HInv X}
abbrev r6u (rows : List (List Nat)) (cut : List Pr) (stay : List (List Nat)) (mk : Nat) (b1 b2 b3 : Bnd) : Rho := [("rows", .val (tSs rows)), ("cut", .own (cut.map jq)), ("stay", .val (tSs stay)), ("mark", .val (tI (mk : Int))), ("told", b1), ("first", b2), ("below", b3)]
theorem c_up {L1 L2 : LamS} {rows : List (List Nat)} (TK : TabOk (WF prog w P g X I) 109 105 q0) (PF : PgFn (hd.heap_39 P) 110 109 L1 L2) (G : PgK (hd.heap_39 P) L1 L2) (hz : rows.length ≤ 100) (hr : ∀ l ∈ rows, l.length ≤ 5 ∧ okL l = true) :
    CL (WF prog w P g X I) 4 (.ref 129) [tSs rows] (dt (.tuple [.list ((dueP rows).reverse.map jq), .list ((bareL rows).map sd)])) := by
  have hsl := sizeLine_eq
  refine CL.def1 (lv := 3) "rows" rfl fun A env => ?_
  refine EX.seq (EX1.own (EVN.data []) rfl) ?_
  refine EX.seq (EX1.assign (EV.c1 (EV.glob rfl rfl) KeepOk.type (EV.name rfl) (CL.listL (by rw [List.length_map]; omega)) (Nat.zero_le _)) rfl) ?_
  refine EX.seq (EX1.assign (EV.c1 (EV.glob rfl rfl) KeepOk.builtin (EV.name rfl) (CL.lenM (by omega)) (Nat.zero_le _)) rfl) ?_
  refine EX.norm (r6u rows [] rows rows.length .free .free .free) ?_
  refine EX.while_ (fun k ρ => ∃ A L b1 b2 b3, rows = A ++ L ∧ A.length = k ∧ UB A L ∧ (Bnd.sto b1 = true ∧ Bnd.sto b2 = true ∧ Bnd.sto b3 = true) ∧ ρ = r6u rows (dueP L).reverse (A ++ bareL L) k b1 b2 b3)
    (fun ρ => ∃ b1 b2 b3, ρ = r6u rows (dueP rows).reverse (bareL rows) 0 b1 b2 b3) rows.length ⟨rows, [], .free, .free, .free, by simp, rfl, fun Z z x R _ e => (by cases e), ⟨rfl, rfl, rfl⟩, by rw [show bareL [] = [] from rfl, List.append_nil]; rfl⟩ ?_ ?_
  · rintro k ρ' ⟨A', L, b1, b2, b3, h1, hk, hub, ⟨s1, s2, s3⟩, rfl⟩
    refine ⟨_, TR.cmp (EV.name rfl) EV.int Cmp.gtI, fun c => ?_, fun c => ?_⟩
    · have c : 0 < k := by have := of_decide_eq_true c; omega
      subst hk
      have hrw5 : ∀ l ∈ A' ++ bareL L, l.length ≤ 5 ∧ okL l = true := fun l hl => by
        refine hr l ?_
        rw [h1]
        rcases List.mem_append.mp hl with z | z
        · exact List.mem_append_left _ z
        · exact List.mem_append_right _ (List.mem_filter.mp z).1
      have hst5 : ∀ l ∈ A' ++ bareL L, l.length ≤ 500 := fun l hl => by have := (hrw5 l hl).1; omega
      have hbl : (bareL L).length ≤ L.length := List.length_filter_le _ _
      have hrl : rows.length = A'.length + L.length := by rw [h1, List.length_append]
      have hsl2 : (A' ++ bareL L).length = A'.length + (bareL L).length := List.length_append
      have hpk := (prok_any (rows := L) fun l hl => hr l (by rw [h1]; exact List.mem_append_right _ hl)).1
      obtain ⟨s, e, b, F⟩ := find_ex (A' ++ bareL L) A'.length (by omega) (by omega)
      have hle := F.le (by omega)
      have hbs := F.bs
      have hse := F.se
      obtain ⟨A2, L2', e1, e2, e3, hcase⟩ := up_turn (List.length_pos_iff.mp c) hub F
      generalize hst : A' ++ bareL L = st at *
      generalize hH : hdrL (rowAt st s) = H at *
      refine EX.seq (EX1.assign (T := dt (fpd st (b + 1) e H)) (EV.to (EV.c2 (EV.glob rfl rfl) (KeepOk.ref (by kernel_rfl)) (EV.c1 (EV.glob rfl rfl) (KeepOk.ref (by kernel_rfl)) (EV.name rfl) (CL.pageK (lv := 0) PF G TK clsF rfl (by kernel_rfl)) (Nat.le_refl _)) (EV.bin (EV.lit [37, 100, 46, 48]) (EV.name rfl) (Bin.pct0 (by omega))) (c_find0 TK G (by omega) hst5 (by omega) F) (Nat.le_refl _)) (by rw [hH])) rfl s1) ?_
      refine EX.seq (EX1.unpackS ["first", "below"] [.int ((b + 1 : Nat) : Int), .int (e : Int)] (EV.tup2 (EV.c1 (EV.glob rfl rfl) KeepOk.type (EV.sub (EV.sub (EV.name rfl) EV.int Itm.t4a) (EV.slice EVO.nil (EVO.val (EV.uno EV.int Un.neg)) EVO.nil) (Itm.num (by omega))) (CL.intD (by omega)) (Nat.zero_le _)) (EV.c1 (EV.glob rfl rfl) KeepOk.type (EV.sub (EV.sub (EV.name rfl) EV.int Itm.t4b) (EV.slice EVO.nil (EVO.val (EV.uno EV.int Un.neg)) EVO.nil) (Itm.num (by omega))) (CL.intD (by omega)) (Nat.zero_le _))) ⟨⟨_, rfl, s3⟩, ⟨_, rfl, s2⟩, trivial⟩ rfl) ?_
      refine EX.norm (r6u rows (dueP L).reverse st A'.length (.val (dt (fpd st (b + 1) e H))) (.val (tI ((b + 1 : Nat) : Int))) (.val (tI (e : Int)))) ?_
      refine EX.iteM (fun ρ' => ρ' = r6u rows (dueP L2').reverse (A2 ++ bareL L2') A'.length (.val (dt (fpd st (b + 1) e H))) (.val (tI ((b + 1 : Nat) : Int))) (.val (tI (e : Int)))) (TR.cmp (EV.name rfl) (EV.name rfl) Cmp.ltI) (fun c => ?_) (fun c => ?_) ?_
      · have c : b + 1 < e := by have := of_decide_eq_true c; omega
        rcases hcase with ⟨z, _⟩ | ⟨_, t1, t2⟩
        · exact absurd c z
        · refine EX.seq (EX1.append (d := jq (H, cutR st (b + 1) e)) rfl (EV.to (EV.sub (EV.name rfl) (EV.slice (EVO.val EV.int) EVO.nil EVO.nil) (Itm.tupFrom (a := 2) (by decide) (by simp) (by rw [hsl]; simp))) rfl) (by rw [List.length_map, List.length_reverse]; unfold dueP; omega)) ?_
          refine EX.seq (EX1.assign (T := tSs (A2 ++ bareL L2')) (EV.to (EV.bin (EV.sub (EV.name rfl) (EV.slice EVO.nil (EVO.val (EV.to (T' := tI (b : Int)) (EV.bin (EV.name rfl) EV.int Bin.subI) (congrArg tI (by omega)))) EVO.nil) (Itm.listTo (by omega))) (EV.sub (EV.name rfl) (EV.slice (EVO.val (EV.to (T' := tI ((e - 1 : Nat) : Int)) (EV.bin (EV.name rfl) EV.int Bin.subI) (congrArg tI (by omega)))) EVO.nil EVO.nil) (Itm.listFrom (by omega))) (Bin.addL (by simp; omega))) (by rw [← List.map_append, t1])) rfl) ?_
          refine EX.nilM ?_
          rw [t2, List.reverse_cons]
          unfold r6u
          rw [List.map_append]; rfl
      · have c : ¬ b + 1 < e := by have := of_decide_eq_false c; omega
        rcases hcase with ⟨_, t1, t2⟩ | ⟨z, _⟩
        · refine EX.nilM ?_
          rw [t1, t2]
        · exact absurd z c
      · rintro ρ' rfl
        refine EX.seq (EX1.assign (T := tI (A2.length : Int)) (EV.to (EV.bin (EV.c2 (EV.glob rfl rfl) KeepOk.builtin (EV.name rfl) (EV.name rfl) CL.min2 (Nat.zero_le _)) EV.int Bin.subI) (congrArg tI (by omega))) rfl) ?_
        exact EX.nil ⟨A2.length, by omega, A2, L2', _, _, _, by rw [h1, e1], rfl, e3, ⟨rfl, rfl, rfl⟩, rfl⟩
    · have c : k = 0 := by have := of_decide_eq_false c; omega
      subst c
      have : A' = [] := List.eq_nil_of_length_eq_zero hk
      subst this
      rw [List.nil_append] at h1
      subst h1
      exact ⟨b1, b2, b3, rfl⟩
  · rintro ρ' ⟨b1, b2, b3, rfl⟩
    refine EX.freeze "cut" rfl ?_
    exact EX.ret (EV.tup2 (EV.name rfl) (EV.name rfl)) rfl
end
end Mine

namespace Mine
open PySem PySem.W PyProof.Rows PySem.Spec

theorem lay_map {α : Type} {j : α → PyData} {d : Nat} {as : List α} (h : ∀ a ∈ as, (j a).canLay0 = true ∧ (j a).depth ≤ d) : (PyData.list (as.map j)).canLay0 = true ∧ (PyData.list (as.map j)).depth ≤ d + 1 := by
  refine ⟨?_, ?_⟩
  · show PyData.canLayAll0 (as.map j) = true
    induction as with
    | nil => rfl
    | cons a r ih =>
      show ((j a).canLay0 && PyData.canLayAll0 (r.map j)) = true
      rw [(h a List.mem_cons_self).1, ih fun b hb => h b (List.mem_cons_of_mem _ hb)]
      rfl
  · show PyData.depthAll (as.map j) + 1 ≤ d + 1
    refine Nat.succ_le_succ ?_
    induction as with
    | nil => exact Nat.zero_le _
    | cons a r ih =>
      show max (j a).depth (PyData.depthAll (r.map j)) ≤ d
      exact Nat.max_le.mpr ⟨(h a List.mem_cons_self).2, ih fun b hb => h b (List.mem_cons_of_mem _ hb)⟩
abbrev outD (x : List Pr) (y : List (List Nat)) : PyData := .tuple [.list (x.map jq), .list (y.map sd)]
theorem shaped_out {x : List Pr} {y : List (List Nat)} (hx : ∀ p ∈ x, okL p.1 = true ∧ okL p.2 = true) (hy : ∀ l ∈ y, okL l = true) : SeqAt.shaped (outD x y) = true := by
  obtain ⟨a1, a2⟩ := lay_map (j := jq) (d := 1) (as := x) fun p hp => by
    refine ⟨?_, Nat.le_refl _⟩
    show (PyData.canLay0 (sd p.1) && (PyData.canLay0 (sd p.2) && true)) = true
    rw [ok_lay (hx p hp).1, ok_lay (hx p hp).2]; rfl
  obtain ⟨b1, b2⟩ := lay_map (j := sd) (d := 0) (as := y) fun l hl => ⟨ok_lay (hy l hl), Nat.le_refl _⟩
  show ((PyData.canLay0 (.list (x.map jq)) && (PyData.canLay0 (.list (y.map sd)) && true)) && decide (max (PyData.depth (.list (x.map jq))) (max (PyData.depth (.list (y.map sd))) 0) + 1 ≤ 64)) = true
  rw [a1, b1, decide_eq_true (by omega)]; rfl
theorem eqv_jq (p q : Pr) : PyData.eqv (jq p) (jq q) = decide (p = q) := by
  show (PyData.eqv (sd p.1) (sd q.1) && (PyData.eqv (sd p.2) (sd q.2) && true)) = _
  rw [eqv_str, eqv_str, Bool.and_true]
  obtain ⟨a, b⟩ := p
  obtain ⟨c, d⟩ := q
  simp [Bool.decide_and]
theorem eqv_out (x : List Pr) (y : List (List Nat)) : PyData.eqv (outD x y) (outD x y) = true := by
  show (PyData.eqv (.list (x.map jq)) (.list (x.map jq)) && (PyData.eqv (.list (y.map sd)) (.list (y.map sd)) && true)) = true
  rw [eqv_map eqv_jq, eqv_strs]; simp
theorem Cmp.eqOut {C : Cx} {x : List Pr} {y : List (List Nat)} (hx : ∀ p ∈ x, okL p.1 = true ∧ okL p.2 = true) (hy : ∀ l ∈ y, okL l = true) : Cmp C .Eq (dt (outD x y)) (dt (outD x y)) (tB true) := by
  have := Cmp.eqD (C := C) (shaped_out hx hy) (shaped_out hx hy)
  rwa [eqv_out] at this
def HD : List (List Nat) := [[], [35], [32], [9], [32, 35], [35, 35]]
def TL : List (List Nat) := [[97], [], [32, 98], [12], [12, 97], [99, 32, 35], [35]]
def rowX (x : Int) : List Nat := HD.getD (x % 6).toNat [] ++ TL.getD (x / 6 % 7).toNat []
theorem hd_at : ∀ m < 6, HD[m]? = some (HD.getD m []) ∧ (HD.getD m []).length ≤ 2 ∧ okL (HD.getD m []) = true := by decide
theorem tl_at : ∀ m < 7, TL[m]? = some (TL.getD m []) ∧ (TL.getD m []).length ≤ 3 ∧ okL (TL.getD m []) = true := by decide
theorem rowX_ok (x : Int) : (rowX x).length ≤ 5 ∧ okL (rowX x) = true := by
  obtain ⟨_, a, b⟩ := hd_at (x % 6).toNat (by omega)
  obtain ⟨_, c, d⟩ := tl_at (x / 6 % 7).toNat (by omega)
  unfold rowX
  exact ⟨by rw [List.length_append]; omega, ok_app b d⟩
section
variable {prog : Program} {w : World} {P : Params} {g : Heap} {X : Addr → Prop} {I : HInv X}
theorem c_law {L1 L2 : LamS} {ns : List Int} (TK : TabOk (WF prog w P g X I) 109 105 q0) (PF : PgFn (hd.heap_39 P) 110 109 L1 L2) (G : PgK (hd.heap_39 P) L1 L2) (hz : ns.length ≤ 63) : CL (WF prog w P g X I) 5 (.ref 141) [tIs ns] (tB true) := by
  have hsl := sizeLine_eq
  refine CL.def1 (lv := 4) "script" rfl fun A env => ?_
  refine EX.seq (EX1.assign (EVN.data (HD.map sd)).v rfl) ?_
  refine EX.seq (EX1.assign (EVN.data (TL.map sd)).v rfl) ?_
  obtain ⟨rows, hr1, hr2, hr3, hr4⟩ : ∃ rows : List (List Nat), 1 ≤ rows.length ∧ rows.length ≤ 9 ∧ (∀ l ∈ rows, l.length ≤ 5 ∧ okL l = true) ∧ rows = if (ns.take 9).isEmpty = true then [[97]] else (ns.take 9).map rowX := by
    by_cases h : (ns.take 9).isEmpty = true
    · exact ⟨[[97]], by decide, by decide, by decide, by rw [if_pos h]⟩
    · refine ⟨(ns.take 9).map rowX, ?_, ?_, fun l hl => ?_, by rw [if_neg h]⟩
      · rw [List.length_map]
        cases e : ns.take 9 with
        | nil => rw [e] at h; exact absurd rfl h
        | cons a r => simp
      · rw [List.length_map, List.length_take]; omega
      · obtain ⟨x, _, rfl⟩ := List.mem_map.mp hl; exact rowX_ok x
  have h9 : sliceL none (some (9 : Int)) ns = ns.take 9 := slice_to ns 9
  refine EX.seq (EX1.assign (T := tSs rows) (EV.or2 (T₁ := dt (.list ((ns.take 9).map fun x => sd (rowX x)))) (b := !(ns.take 9).isEmpty) (EVN.comp0 (ns.take 9) .int (fun x => sd (rowX x)) injI (EV.sub (EV.name rfl) (EV.slice EVO.nil (EVO.val EV.int) EVO.nil) (by rw [← h9]; exact Itm.intsSlice (by omega))) Iter.list (by rw [List.length_take]; omega) fun x hx env' => ?_).v ?_ (fun h O hh v p => ?_) fun h => ?_) rfl) ?_
  · obtain ⟨a1, a2, _⟩ := hd_at (x % 6).toNat (by omega)
    obtain ⟨b1, b2, _⟩ := tl_at (x / 6 % 7).toNat (by omega)
    exact EV.bin (EV.sub (EV.name rfl) (EV.bin (EV.name rfl) EV.int (Bin.modI (by decide))) (Itm.mapAt (by omega) a1 (by rw [hsl]; decide))) (EV.sub (EV.name rfl) (EV.bin (EV.bin (EV.name rfl) EV.int (Bin.fdivI (by decide) (by decide))) EV.int (Bin.modI (by decide))) (Itm.mapAt (by omega) b1 (by rw [hsl]; decide))) (Bin.addS (by omega))
  · exact Truth.listM (by rw [List.length_take]; omega)
  · have h : ¬ (ns.take 9).isEmpty = true := by simpa using h
    rw [if_neg h] at hr4
    rw [hr4]
    show Rep O hh v _
    rw [List.map_map]
    exact p
  · have h : (ns.take 9).isEmpty = true := by simpa using h
    rw [if_pos h] at hr4
    rw [hr4]
    exact (EVN.data [sd [97]]).v
  clear hr4
  have hok : ∀ l ∈ rows, okL l = true := fun l hl => (hr3 l hl).2
  have hbo : ∀ l ∈ bareL rows, okL l = true := fun l hl => hok l (List.mem_filter.mp hl).1
  have hpk := prok_any hr3
  have hdo : ∀ p ∈ dueP rows, okL p.1 = true ∧ okL p.2 = true := fun p hp => ⟨(hpk.2 p hp).2.1, (hpk.2 p hp).2.2.2⟩
  have hro : ∀ p ∈ (dueP rows).reverse, okL p.1 = true ∧ okL p.2 = true := fun p hp => hdo p (List.mem_reverse.mp hp)
  have hdl : (dueP rows).length ≤ 9 := Nat.le_trans hpk.1 hr2
  refine EX.seq (EX1.assign (EV.c1 (EV.glob rfl rfl) (KeepOk.ref (by kernel_rfl)) (EV.name rfl) (c_due (by omega) hr3) (Nat.le_add_left _ _)) rfl) ?_
  refine EX.seq (EX1.compIf rows sd sd (fun x => !fullR x) injS (EV.name rfl) Iter.list (by omega) (fun l hl env' => ?_) (fun l hl _ env' => EV.name rfl) rfl) ?_
  · have hll := (hr3 l hl).1
    have hrl : (rstL l).length ≤ l.length := by unfold rstL; rw [List.length_drop]; omega
    exact TR.to (TR.cmp (EV.m0 (EV.c1 (EV.glob rfl rfl) (KeepOk.ref (by kernel_rfl)) (EV.name rfl) (c_rest (by omega)) (Nat.le_add_left _ _)) Mth.strip (CL.strip (by omega))) (EV.lit []) Cmp.eqS) (by rw [strip_white]; unfold fullR; rw [Bool.not_not])
  refine EX.ret (EV.and2 (b := true) (EV.cmp (EV.c1 (EV.glob rfl rfl) (KeepOk.ref (by kernel_rfl)) (EV.name rfl) (c_down TK PF G (by omega) hr3) (Nat.le_refl _)) (EV.tup2 (EV.name rfl) (EV.name rfl)) (Cmp.eqOut hdo hbo)) Truth.bool (fun z => by cases z) fun _ => ?_) rfl
  exact EV.cmp (EV.c1 (EV.glob rfl rfl) (KeepOk.ref (by kernel_rfl)) (EV.name rfl) (c_up TK PF G (by omega) hr3) (Nat.le_refl _)) (EV.tup2 (EV.sub (EV.name rfl) (EV.slice EVO.nil EVO.nil (EVO.val (EV.uno EV.int Un.neg))) (Itm.listRevM (by omega))) (EV.name rfl)) (Cmp.eqOut hro hbo)
end
end Mine

namespace Mine
open PySem PySem.W PyProof.Rows PySem.Spec

theorem glF (P : Params) : ∀ q ∈ gsF, GlobV (hd.heap_39 P) q.1 q.2 := by
  intro q hq
  simp only [gsF, List.mem_cons, List.not_mem_nil, or_false] at hq
  rcases hq with rfl | rfl | rfl | rfl | rfl | rfl | rfl | rfl | rfl | rfl | rfl | rfl | rfl | rfl | rfl | rfl | rfl | rfl
  · exact .inl (by kernel_rfl)
  · exact .inl (by kernel_rfl)
  · exact .inl (by kernel_rfl)
  · exact .inl (by kernel_rfl)
  · exact .inl (by kernel_rfl)
  · exact .inl (by kernel_rfl)
  · exact .inl (by kernel_rfl)
  · exact .inl (by kernel_rfl)
  · exact .inr ⟨by kernel_rfl, by kernel_rfl, by decide⟩
  · exact .inr ⟨by kernel_rfl, by kernel_rfl, by decide⟩
  · exact .inr ⟨by kernel_rfl, by kernel_rfl, by decide⟩
  · exact .inr ⟨by kernel_rfl, by kernel_rfl, by decide⟩
  · exact .inl (by kernel_rfl)
  · exact .inl (by kernel_rfl)
  · exact .inl (by kernel_rfl)
  · exact .inl (by kernel_rfl)
  · exact .inr ⟨by kernel_rfl, by kernel_rfl, by decide⟩
  · exact .inr ⟨by kernel_rfl, by kernel_rfl, by decide⟩
theorem law06 : PySem.Challenge.rw_dm0162_06.Holds := hd (by
  intro w s₀ s₁ mg mb G Y fa o pm cd doc dV kV ho hd hcd hD hmg hg args vals as hpre hlay hrd hwl hlo
  have KX := km_in_of Y
  clear ho hd hcd hD Y
  wrow_args hpre hlay hrd hwl hlo
  rename_i ns _ _ _ _ _ _ _ _ _ _ hL ra _ _ _ _ hlen _
  obtain ⟨d, hdd⟩ : ∃ d, (recsOf hd.view_39).find? (fun e => e.name == ("_law_page" : Str)) = some d := Option.isSome_iff_exists.mp (by kernel_rfl)
  refine law_runT (f := 141) 109 105 q0 KX G.T (glF _) (by kernel_rfl) hmg hg hL ra (lv := 5) (by decide) (fun _ => rfl) (law_post _ _ _) (by kernel_rfl) hdd (by kernel_rfl) fun W ok hK hG TK => ?_
  obtain ⟨pr, w', K, g, X, I, gs⟩ := W
  cases hK
  cases hG
  obtain ⟨L1, L2, PF, PK⟩ := pgF
  exact (c_law TK PF PK (by omega)).un)
end Mine

theorem PySem.Challenge.cw_dm0162_06_holds : PySem.Challenge.rw_dm0162_06.Holds :=
  Mine.law06
