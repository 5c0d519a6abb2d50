import PyProof.Rows.All
import Wide.All
import OpenK.AllK
import Wide.FinOn
import PySem.Challenge.RW_fu0007_01
set_option Elab.async false
set_option linter.unusedVariables false
set_option linter.unusedSimpArgs false
section
open PySem PySem.W PyProof.Rows
namespace Mine
set_option maxRecDepth 100000 in
set_option maxHeartbeats 8000000 in
open_top hd for PySem.Challenge.rw_fu0007_01
end Mine
end

section
open PySem PySem.W PySem.Calls PySem.Spec PyProof.Rows
set_option maxRecDepth 100000

-- B1
namespace Mine

/-- data, with no heap -/
inductive D where
  | none
  | bool (b : Bool)
  | int (i : Int)
  | str (x : PySem.Str)
  | ints (l : List Int)
  | strs (l : List PySem.Str)
  | rng (l : List Int)
  | mine (l : List Int)
  | tup (l : List D)

def rngL (a c : Int) (n : Nat) : List Int := (List.range n).map fun (i : Nat) => a + (i : Int) * c

mutual
inductive Is (own : Option Addr) (h : Heap) : Value → D → Prop
  | none : Is own h .none .none
  | bool (b : Bool) : Is own h (.bool b) (.bool b)
  | int (i : Int) (t : Tok) : Is own h (.int i t) (.int i)
  | str (x : PySem.Str) (t : Tok) : Is own h (.str x t) (.str x)
  | ints {a : Addr} {vs : List Value} {l : List Int} : h.IsList a vs.toArray → IntsAre vs l → own ≠ some a → Is own h (.ref a) (.ints l)
  | mine {a : Addr} {vs : List Value} {l : List Int} : h.PlainList a vs.toArray → IntsAre vs l → own = some a → Is own h (.ref a) (.mine l)
  | strs {a : Addr} {vs : List Value} {l : List PySem.Str} : h.IsList a vs.toArray → StrsAre vs l → own ≠ some a → Is own h (.ref a) (.strs l)
  | rng {r : Addr} {a b c : Int} {t u v : Tok} {n : Nat} : IsRange h r a b c t u v → Builtin.Range.rangeSize a b c = (n : Int) → Builtin.Range.small a b c = true → own ≠ some r → Is own h (.ref r) (.rng (rngL a c n))
  | tup {a : Addr} {vs : List Value} {ds : List D} : IsTup h a vs.toArray → IsAll own h vs ds → own ≠ some a → Is own h (.ref a) (.tup ds)
inductive IsAll (own : Option Addr) (h : Heap) : List Value → List D → Prop
  | nil : IsAll own h [] []
  | cons {v : Value} {vs : List Value} {d : D} {ds : List D} : Is own h v d → IsAll own h vs ds → IsAll own h (v :: vs) (d :: ds)
end

/-- an object that no store into a namespace or a cell can be -/
def Stable (o : Obj) : Prop := (o.cls = .type "list" ∨ o.cls = .type "tuple" ∨ o.cls = .type "range") ∧ (∀ es n, o.data ≠ .dict es n) ∧ (∀ v, o.data ≠ .cell v)
theorem Stable.ne {o : Obj} (h : Stable o) : o.cls ≠ .none := by
  rcases h.1 with e | e | e <;> rw [e] <;> nofun

theorem list_stable {h : Heap} {a : Addr} {its : Array Value} (x : h.IsList a its) : ∃ o, h.get? a = some o ∧ Stable o ∧ o.cls = .type "list" ∧ ∃ n, o.data = .seq its n := by
  obtain ⟨o, ho, hc, n, hd⟩ := x
  exact ⟨o, ho, ⟨.inl hc, by rw [hd]; nofun, by rw [hd]; nofun⟩, hc, n, hd⟩
theorem tup_stable {h : Heap} {a : Addr} {its : Array Value} (x : IsTup h a its) : ∃ o, h.get? a = some o ∧ Stable o ∧ o.cls = .type "tuple" ∧ ∃ n, o.data = .seq its n := by
  obtain ⟨o, ho, hc, n, hd⟩ := x
  exact ⟨o, ho, ⟨.inr (.inl hc), by rw [hd]; nofun, by rw [hd]; nofun⟩, hc, n, hd⟩

theorem Is.mono {own : Option Addr} {h h' : Heap} (hk : ∀ b o, Stable o → h.get? b = some o → h'.get? b = some o) {v : Value} {d : D} (x : Is own h v d) : Is own h' v d := by
  have li : ∀ {a its}, h.IsList a its → h'.IsList a its := fun y => by
    obtain ⟨o, ho, hs, hc, hn⟩ := list_stable y
    exact ⟨o, hk _ _ hs ho, hc, hn⟩
  refine Is.rec (motive_1 := fun v d _ => Is own h' v d) (motive_2 := fun vs ds _ => IsAll own h' vs ds) .none .bool .int .str ?_ ?_ ?_ ?_ ?_ .nil ?_ x
  · intro a vs l h1 h2 h3; exact .ints (li h1) h2 h3
  · intro a vs l h1 h2 h3; exact .mine (h1.at fun o e => by obtain ⟨n, e'⟩ := h1; rw [e'] at e; cases e; exact hk _ _ ⟨.inl rfl, by nofun, by nofun⟩ e') h2 h3
  · intro a vs l h1 h2 h3; exact .strs (li h1) h2 h3
  · intro r a b c t u v n h1 h2 h3 h4; exact .rng (hk _ _ ⟨.inr (.inr rfl), by nofun, by nofun⟩ h1) h2 h3 h4
  · intro a vs ds h1 _ h3 ih
    obtain ⟨o, ho, hs, hc, hn⟩ := tup_stable h1
    exact .tup ⟨o, hk _ _ hs ho, hc, hn⟩ ih h3
  · intro v vs d ds _ _ ih1 ih2; exact .cons ih1 ih2
theorem IsAll.mono {own : Option Addr} {h h' : Heap} (hk : ∀ b o, Stable o → h.get? b = some o → h'.get? b = some o) : ∀ {vs : List Value} {ds : List D}, IsAll own h vs ds → IsAll own h' vs ds
  | _, _, .nil => .nil
  | _, _, .cons r1 r2 => .cons (r1.mono hk) (IsAll.mono hk r2)

theorem ne_of_stable {h : Heap} {a b : Addr} {o o' : Obj} (hs : Stable o) (ho : h.get? a = some o) (hb : h.get? b = some o') (hn : ¬ Stable o') : a ≠ b := by
  rintro rfl
  rw [ho] at hb; cases hb; exact hn hs
theorem not_stable_dict {o : Obj} {es n} (h : o.data = .dict es n) : ¬ Stable o := fun x => x.2.1 _ _ h
theorem not_stable_cell {o : Obj} {v} (h : o.data = .cell v) : ¬ Stable o := fun x => x.2.2 _ h

structure Cx where
  prog : Program
  w : World
  H0 : Heap
  c : Addr
  P : Addr
  ext : Array GenState → OsState → Prop
  mg : PySem.Str → Option Value
  mb : PySem.Str → Option Value
  bm : Addr
  ob : Obj

structure Cx.Ok (X : Cx) : Prop where
  g : X.H0.Ns mainGlobals X.mg
  b : X.H0.Ns builtinsNs X.mb
  nolimit : X.H0.NoLimit
  bmod : BMod X.H0 mainGlobals X.mg X.bm X.ob
  builtins : ∀ x : PySem.Str, x ≠ "__name__" → X.mb x = bootBuiltins x

structure Inv (X : Cx) (s : Shared) : Prop where
  ok : X.Ok
  base : ∃ h₀ ps, Based X.H0 h₀ X.c X.P ps ∧ ∀ b o, h₀.get? b = some o → s.heap.get? b = some o
  ext : X.ext s.gens s.os

namespace Inv
variable {X : Cx} {s s' : Shared}
theorem tab (I : Inv X s) : ∃ ps, s.heap.get? X.P = some { cls := .none, data := .fields ps } := by
  obtain ⟨h₀, ps, B, k⟩ := I.base
  exact ⟨ps, k _ _ B.tab.2⟩
theorem old (I : Inv X s) {b : Addr} {o : Obj} (hb : b ≠ X.P) (e : X.H0.get? b = some o) : s.heap.get? b = some o := by
  obtain ⟨h₀, ps, B, k⟩ := I.base
  exact k _ _ ((B.same.2 b hb).trans e)
theorem P_lt (I : Inv X s) : ∃ o, X.H0.get? X.P = some o := by
  obtain ⟨h₀, ps, B, k⟩ := I.base
  obtain ⟨ps₁, ht⟩ := B.tab₁
  exact ⟨_, ht.2⟩
theorem P_obj (I : Inv X s) : ∃ ps, X.H0.get? X.P = some { cls := .none, data := .fields ps } := by
  obtain ⟨h₀, ps, B, k⟩ := I.base
  obtain ⟨ps₁, ht⟩ := B.tab₁
  exact ⟨_, ht.2⟩
theorem ne_P (I : Inv X s) {b : Addr} (e : X.H0.get? b = none) : b ≠ X.P := by
  rintro rfl
  obtain ⟨o, ho⟩ := I.P_lt
  rw [e] at ho; cases ho
theorem ns (I : Inv X s) {a : Addr} {m : PySem.Str → Option Value} (h : X.H0.Ns a m) : s.heap.Ns a m := by
  obtain ⟨o, es, ep, ho, hd, r⟩ := h
  refine ⟨o, es, ep, I.old ?_ ho, hd, r⟩
  rintro rfl
  obtain ⟨ps, hp⟩ := I.P_obj
  rw [hp] at ho; cases ho; cases hd
theorem nolimit (I : Inv X s) : s.heap.NoLimit := by
  obtain ⟨mc, h1, h2⟩ := I.ok.nolimit
  exact ⟨mc, I.ns h1, h2⟩
/-- the heap has grown elsewhere than in what stood at the start -/
theorem step (I : Inv X s) {h' : Heap} {tk : Nat} (hk : ∀ b o, X.H0.get? b ≠ none → s.heap.get? b = some o → h'.get? b = some o) : Inv X { s with heap := h', toks := tk } := by
  obtain ⟨h₀, ps, B, k⟩ := I.base
  refine ⟨I.ok, ⟨h₀, ps, B, fun b o e => hk b o ?_ (k b o e)⟩, I.ext⟩
  intro hn
  rw [B.fresh hn] at e; cases e
theorem keeps (I : Inv X s) (k : Keeps s s') : Inv X s' := by
  obtain ⟨h', tk, rfl, hk⟩ := k
  exact I.step fun b o _ e => hk b o e
theorem bmod (I : Inv X s) : BMod s.heap mainGlobals X.mg X.bm X.ob := by
  have B := I.ok.bmod
  refine ⟨I.ns B.ns, B.name, B.ne, I.old ?_ B.obj, B.cls, B.dict, B.data⟩
  intro e
  obtain ⟨ps, hp⟩ := I.P_obj
  have := B.obj
  rw [e, hp] at this
  have h2 := B.cls
  rw [← Option.some.inj this] at h2
  cases h2
end Inv

def Rl (X : Cx) (q : Bool) (s s' : Shared) : Prop :=
  Inv X s' ∧ (∀ b o, b ≠ X.P → s.heap.get? b = some o → s'.heap.get? b = some o) ∧ (q = true → Keeps s s')

theorem keeps_refl (s : Shared) : Keeps s s := ⟨s.heap, s.toks, rfl, fun _ _ e => e⟩
theorem keeps_trans {s s' s'' : Shared} (a : Keeps s s') (b : Keeps s' s'') : Keeps s s'' := by
  obtain ⟨h₁, t₁, rfl, k₁⟩ := a
  obtain ⟨h₂, t₂, rfl, k₂⟩ := b
  exact ⟨h₂, t₂, rfl, fun b o e => k₂ b o (k₁ b o e)⟩
theorem keeps_get {s s' : Shared} (k : Keeps s s') {b : Addr} {o : Obj} (e : s.heap.get? b = some o) : s'.heap.get? b = some o := by
  obtain ⟨h', tk, rfl, hk⟩ := k
  exact hk b o e
theorem keeps_tok (s : Shared) (t : Nat) : Keeps s { s with toks := t } := ⟨s.heap, t, rfl, fun _ _ e => e⟩
theorem keeps_push (s : Shared) (o : Obj) (t : Nat) : Keeps s { s with heap := s.heap.push o, toks := t } := ⟨_, t, rfl, fun _ _ e => Heap.get?_push_of_some _ e⟩
theorem keeps_of {s : Shared} {h' : Heap} {t : Nat} (hk : ∀ b o, s.heap.get? b = some o → h'.get? b = some o) : Keeps s { s with heap := h', toks := t } := ⟨h', t, rfl, hk⟩

namespace Rl
variable {X : Cx} {q : Bool} {s s' s'' : Shared}
theorem ofKeeps (I : Inv X s) (k : Keeps s s') : Rl X q s s' := ⟨I.keeps k, fun _ _ _ e => keeps_get k e, fun _ => k⟩
theorem refl (I : Inv X s) : Rl X q s s := ofKeeps I (keeps_refl s)
theorem trans (a : Rl X q s s') (b : Rl X q s' s'') : Rl X q s s'' := ⟨b.1, fun x o hx e => b.2.1 x o hx (a.2.1 x o hx e), fun hq => keeps_trans (a.2.2 hq) (b.2.2 hq)⟩
theorem inv (a : Rl X q s s') : Inv X s' := a.1
theorem weak (a : Rl X q s s') : Rl X false s s' := ⟨a.1, a.2.1, fun h => by cases h⟩
theorem stable (I : Inv X s) (a : Rl X q s s') (b : Addr) (o : Obj) (hs : Stable o) (e : s.heap.get? b = some o) : s'.heap.get? b = some o := by
  refine a.2.1 b o ?_ e
  rintro rfl
  obtain ⟨ps, hp⟩ := I.tab
  rw [hp] at e; cases e; exact hs.ne rfl
theorem is (I : Inv X s) (a : Rl X q s s') {own : Option Addr} {v : Value} {d : D} (x : Is own s.heap v d) : Is own s'.heap v d := x.mono (a.stable I)
end Rl

structure Fx where
  own : Option Addr
  A : Around
  env : Env
  lv : Nat

structure Rm (F : Fx) : Prop where
  handled : F.A.handled = none
  depth : F.A.depth + F.lv < recursionLimit
  units : F.A.units + 16 * F.lv + 16 < cLine

/-- the frame bears the named data -/
structure Fits (X : Cx) (F : Fx) (h : Heap) (g : List (PySem.Str × D)) : Prop where
  fresh : X.H0.get? F.env.locals = none
  kind : F.env.scope.kind = .function
  glob : F.env.globals = mainGlobals
  bi : F.env.builtins = builtinsNs
  rm : Rm F
  ns : ∃ m, h.Ns F.env.locals m ∧ ∀ x d, g.lookup x = some d → F.env.kindOf x = some .local → ∃ v, m x = some v ∧ Is F.own h v d
  cell : ∀ x c, F.env.cells.lookup x = some c → X.H0.get? c = none ∧ ∃ ov, h.IsCell c ov ∧ ∀ d, g.lookup x = some d → F.env.kindOf x = some .cell → ∃ v, ov = some v ∧ Is F.own h v d
  has : ∀ x, F.env.kindOf x = some .cell → ∃ c, F.env.cells.lookup x = some c
  apart : ∀ x y c, F.env.cells.lookup x = some c → F.env.cells.lookup y = some c → x = y
  live : ∀ a, F.own = some a → X.H0.get? a = none ∧ ∃ its, h.IsList a its

namespace Fits
variable {X : Cx} {F : Fx} {h h' : Heap} {g g' : List (PySem.Str × D)}
theorem mono (x : Fits X F h g) (hk : ∀ b o, b ≠ X.P → h.get? b = some o → h'.get? b = some o) (hP : ∃ ps, h.get? X.P = some { cls := .none, data := .fields ps }) : Fits X F h' g := by
  obtain ⟨ps, hp⟩ := hP
  have st : ∀ b o, Stable o → h.get? b = some o → h'.get? b = some o := fun b o hs e => hk b o (by rintro rfl; rw [hp] at e; cases e; exact hs.ne rfl) e
  refine { x with ns := ?_, cell := ?_, live := ?_ }
  · obtain ⟨m, hn, hm⟩ := x.ns
    refine ⟨m, ?_, fun y d hy hl => let ⟨v, h1, h2⟩ := hm y d hy hl; ⟨v, h1, h2.mono st⟩⟩
    obtain ⟨o, es, ep, ho, hd, r⟩ := hn
    exact ⟨o, es, ep, hk _ _ (by intro e; rw [e, hp] at ho; cases ho; cases hd) ho, hd, r⟩
  · intro y c hc
    obtain ⟨h0, ov, ⟨o, ho, hd⟩, r⟩ := x.cell y c hc
    exact ⟨h0, ov, ⟨o, hk _ _ (by rintro rfl; rw [hp] at ho; cases ho; cases hd) ho, hd⟩, fun d hd' hk' => let ⟨v, h1, h2⟩ := r d hd' hk'; ⟨v, h1, h2.mono st⟩⟩
  · intro a ha
    obtain ⟨h0, its, hl⟩ := x.live a ha
    obtain ⟨o, ho, hs, hc, hn⟩ := list_stable hl
    exact ⟨h0, its, o, st _ _ hs ho, hc, hn⟩
theorem rl {q : Bool} {s s' : Shared} (x : Fits X F s.heap g) (I : Inv X s) (r : Rl X q s s') : Fits X F s'.heap g := x.mono r.2.1 I.tab
theorem sub (x : Fits X F h g) (hs : ∀ y d, g'.lookup y = some d → g.lookup y = some d) : Fits X F h g' := by
  refine { x with ns := ?_, cell := ?_ }
  · obtain ⟨m, hn, hm⟩ := x.ns
    exact ⟨m, hn, fun y d hy hl => hm y d (hs y d hy) hl⟩
  · intro y c hc
    obtain ⟨h0, ov, hcell, r⟩ := x.cell y c hc
    exact ⟨h0, ov, hcell, fun d hd hk => r d (hs y d hd) hk⟩
end Fits

/-- an expression: its value is d, the heap only grows -/
def EV (X : Cx) (F : Fx) (q : Bool) (g : List (PySem.Str × D)) (e : Expr) (d : D) : Prop :=
  ∀ (s : Shared) (E : Value → Shared → Prop), Inv X s → Fits X F s.heap g → wpAny (model X.prog X.w) F.A (eval e F.env) (fun v s' => Is F.own s'.heap v d ∧ Rl X q s s') E s
/-- a tree that gives a Bool -/
def TV (X : Cx) (F : Fx) (q : Bool) (g : List (PySem.Str × D)) (e : Expr) (b : Bool) : Prop :=
  ∀ (s : Shared) (E : Value → Shared → Prop), Inv X s → Fits X F s.heap g → wpAny (model X.prog X.w) F.A (isTrue e F.env (eval e F.env)) (fun v s' => v = b ∧ Rl X q s s') E s

section
variable {X : Cx} {F : Fx} {q : Bool} {g g' : List (PySem.Str × D)} {e l r : Expr} {d a b : D}
theorem EV.weak (h : EV X F true g e d) : EV X F q g e d := fun s E I f =>
  wpAny_mono (h s E I f) (fun _ _ x => ⟨x.1, x.2.1, x.2.2.1, fun _ => x.2.2.2 rfl⟩) fun _ _ x => x
theorem EV.sub (h : EV X F q g' e d) (hs : ∀ y d, g'.lookup y = some d → g.lookup y = some d) : EV X F q g e d := fun s E I f => h s E I (f.sub hs)

end
end Mine

-- B2
namespace Mine

def TR (X : Cx) (F : Fx) (q : Bool) (s : Shared) (t : Sem Value) (d : D) : Prop :=
  ∀ E, wpAny (model X.prog X.w) F.A t (fun v s' => Is F.own s'.heap v d ∧ Rl X q s s') E s
def Bop (X : Cx) (F : Fx) (op : Operator) (a b d : D) : Prop :=
  ∀ s u v, Inv X s → Rm F → Is F.own s.heap u a → Is F.own s.heap v b → TR X F true s (binaryOp op u v) d
def Iop (X : Cx) (F : Fx) (op : Operator) (a b d : D) : Prop :=
  ∀ s u v, Inv X s → Rm F → Is F.own s.heap u a → Is F.own s.heap v b → TR X F true s (inplaceOp op u v) d
def Cop (X : Cx) (F : Fx) (op : CmpOp) (a b d : D) : Prop :=
  ∀ s u v, Inv X s → Rm F → Is F.own s.heap u a → Is F.own s.heap v b → TR X F true s (compareOp op u v) d

section
variable {X : Cx} {F : Fx} {q : Bool} {g : List (PySem.Str × D)} {e l r : Expr} {d a b : D} {pos : Pos}

theorem Rl.up {s s' : Shared} (x : Rl X true s s') : Rl X q s s' := ⟨x.1, x.2.1, fun _ => x.2.2 rfl⟩

theorem EV.then {Q : Value → Shared → Prop} {E : Value → Shared → Prop} {s : Shared} (h : EV X F q g e d) (I : Inv X s) (f : Fits X F s.heap g)
    (k : ∀ v s', Is F.own s'.heap v d → Rl X q s s' → Inv X s' → Fits X F s'.heap g → Q v s') : wpAny (model X.prog X.w) F.A (eval e F.env) Q E s :=
  wpAny_mono (h s E I f) (fun v s' x => k v s' x.1 x.2 x.2.inv (f.rl I x.2)) fun _ _ x => x
theorem TV.then {Q : Bool → Shared → Prop} {E : Value → Shared → Prop} {s : Shared} {b : Bool} (h : TV X F q g e b) (I : Inv X s) (f : Fits X F s.heap g)
    (k : ∀ s', Rl X q s s' → Inv X s' → Fits X F s'.heap g → Q b s') : wpAny (model X.prog X.w) F.A (isTrue e F.env (eval e F.env)) Q E s :=
  wpAny_mono (h s E I f) (fun v s' x => by obtain ⟨rfl, x⟩ := x; exact k s' x x.inv (f.rl I x)) fun _ _ x => x

theorem ev_bin {op : Operator} (hl : EV X F q g l a) (hr : EV X F q g r b) (ho : Bop X F op a b d) : EV X F q g (.BinOp l op r pos) d := fun s E I f =>
  wpAny_BinOp (hl.then I f fun u s₁ i₁ r₁ I₁ f₁ => hr.then I₁ f₁ fun v s₂ i₂ r₂ I₂ f₂ =>
    wpAny_mono (ho s₂ u v I₂ f.rm (r₂.is I₁ i₁) i₂ E) (fun w s₃ x => ⟨x.1, (r₁.trans r₂).trans x.2.up⟩) fun _ _ x => x)

theorem ev_cmp {op : CmpOp} (hl : EV X F q g l a) (hr : EV X F q g r b) (ho : Cop X F op a b d) (hm : behindInMarks op r = false) : EV X F q g (.Compare l [op] [r] pos) d := fun s E I f =>
  wpAny_Compare1 (hl.then I f fun u s₁ i₁ r₁ I₁ f₁ => hr.then I₁ f₁ fun v s₂ i₂ r₂ I₂ f₂ =>
    wpAny_mono (ho s₂ u v I₂ f.rm (r₂.is I₁ i₁) i₂ E) (fun w s₃ x => ⟨x.1, (r₁.trans r₂).trans x.2.up⟩) fun _ _ x => x) hm

theorem tv_cmp {op : CmpOp} {c : Bool} (hl : EV X F q g l a) (hr : EV X F q g r b) (ho : Cop X F op a b (.bool c)) (hm : behindInMarks op r = false) : TV X F q g (.Compare l [op] [r] pos) c := fun s E I f =>
  wpAny_isTrue_Compare1 (hl.then I f fun u s₁ i₁ r₁ I₁ f₁ => hr.then I₁ f₁ fun v s₂ i₂ r₂ I₂ f₂ =>
    wpAny_mono (ho s₂ u v I₂ f.rm (r₂.is I₁ i₁) i₂ E) (fun w s₃ x => by
      obtain ⟨i, x⟩ := x
      cases i
      exact wpAny_truthy_bool ⟨rfl, (r₁.trans r₂).trans x.up⟩) fun _ _ x => x) hm

-- what comes back as a value without a heap
theorem tr_of {s : Shared} {t : Sem Value} {v : Value} {h' : Heap} {tk : Nat} (I : Inv X s) : True := trivial

theorem rl_tok {s : Shared} (I : Inv X s) (t : Nat) : Rl X q s { s with toks := t } := Rl.ofKeeps I (keeps_tok s t)

theorem bop_add {m n : Int} : Bop X F .Add (.int m) (.int n) (.int (m + n)) := fun s u v I _ hu hv E => by
  cases hu; cases hv; exact PyProof.Rows.add_int ⟨.int _ _, rl_tok I _⟩
theorem bop_sub {m n : Int} : Bop X F .Sub (.int m) (.int n) (.int (m - n)) := fun s u v I _ hu hv E => by
  cases hu; cases hv; exact PyProof.Rows.sub_int ⟨.int _ _, rl_tok I _⟩
theorem bits_le {a : Int} (h : a.natAbs < 2 ^ 64) : Builtin.Int.intBits a ≤ 64 := intBits_le h
theorem bop_mul {m n : Int} (hm : m.natAbs < 2 ^ 64) : Bop X F .Mult (.int m) (.int n) (.int (m * n)) := fun s u v I _ hu hv E => by
  cases hu; cases hv; exact PyProof.Rows.mul_int ⟨.int _ _, rl_tok I _⟩ (.of_left (bits_le hm))
theorem bop_div {m n : Int} (hn : n ≠ 0) (hs : n.natAbs < 1073741824) : Bop X F .FloorDiv (.int m) (.int n) (.int (m.fdiv n)) := fun s u v I _ hu hv E => by
  cases hu; cases hv; exact PyProof.Rows.floordiv_int hn ⟨.int _ _, rl_tok I _⟩ (.inl (PyProof.noPylong_small hs))
theorem bop_mod {m n : Int} (hn : n ≠ 0) : Bop X F .Mod (.int m) (.int n) (.int (m.fmod n)) := fun s u v I _ hu hv E => by
  cases hu; cases hv; exact PyProof.Rows.mod_int' hn ⟨.int _ _, rl_tok I _⟩
theorem bop_pow {m n : Int} (hn : 0 ≤ n) (hn2 : n ≤ 1000000) (hm : m.natAbs < 2 ^ 64) : Bop X F .Pow (.int m) (.int n) (.int (m ^ n.toNat)) := fun s u v I _ hu hv E => by
  cases hu; cases hv; exact PyProof.Rows.pow_int_small hn hn2 hm ⟨.int _ _, rl_tok I _⟩
theorem bop_shr {m n : Int} (hn : 0 ≤ n) : Bop X F .RShift (.int m) (.int n) (.int (m.fdiv (2 ^ n.toNat))) := fun s u v I _ hu hv E => by
  cases hu; cases hv; exact PyProof.Rows.rshift_int hn ⟨.int _ _, rl_tok I _⟩
theorem bop_shl {m n : Int} (hn : 0 ≤ n) (hn2 : n ≤ 1000000) (hm : m.natAbs < 2 ^ 64) : Bop X F .LShift (.int m) (.int n) (.int (m * 2 ^ n.toNat)) := fun s u v I _ hu hv E => by
  cases hu; cases hv; exact PyProof.Rows.lshift_int_small hn hn2 hm ⟨.int _ _, rl_tok I _⟩
theorem bop_and {m n : Int} : Bop X F .BitAnd (.int m) (.int n) (.int (Builtin.bitAnd m n)) := fun s u v I _ hu hv E => by
  cases hu; cases hv; exact PyProof.Rows.and_int ⟨.int _ _, rl_tok I _⟩
theorem bop_or {m n : Int} : Bop X F .BitOr (.int m) (.int n) (.int (Builtin.bitOr m n)) := fun s u v I _ hu hv E => by
  cases hu; cases hv; exact PyProof.Rows.or_int ⟨.int _ _, rl_tok I _⟩
theorem bop_xor {m n : Int} : Bop X F .BitXor (.int m) (.int n) (.int (Builtin.bitXor m n)) := fun s u v I _ hu hv E => by
  cases hu; cases hv; exact PyProof.Rows.xor_int ⟨.int _ _, rl_tok I _⟩
end
end Mine

-- B3
namespace Mine

mutual
def D.py : D → PyData
  | .none => .none
  | .bool b => .bool b
  | .int i => .int i
  | .str x => .str x
  | .ints l => .list (l.map .int)
  | .strs l => .list (l.map .str)
  | .rng _ => .none
  | .mine l => .list (l.map .int)
  | .tup ds => .tuple (D.pyAll ds)
def D.pyAll : List D → List PyData
  | [] => []
  | d :: ds => d.py :: D.pyAll ds
end
mutual
def D.lay : D → Bool
  | .none | .bool _ | .int _ | .ints _ | .mine _ => true
  | .str x => PyData.strOk x
  | .strs l => l.all PyData.strOk
  | .rng _ => false
  | .tup ds => D.layAll ds
def D.layAll : List D → Bool
  | [] => true
  | d :: ds => d.lay && D.layAll ds
end

theorem readsInts {h : Heap} {vs : List Value} {l : List Int} (x : IntsAre vs l) : ∃ as, ReadsAll h vs (l.map .int) as := by
  induction x with
  | nil => exact ⟨_, .nil⟩
  | cons n t _ ih => obtain ⟨as, r⟩ := ih; exact ⟨_, .cons (.int n t) r⟩
theorem readsStrs {h : Heap} {vs : List Value} {l : List PySem.Str} (x : StrsAre vs l) : ∃ as, ReadsAll h vs (l.map .str) as := by
  induction x with
  | nil => exact ⟨_, .nil⟩
  | cons n t _ ih => obtain ⟨as, r⟩ := ih; exact ⟨_, .cons (.str n t) r⟩

theorem Is.reads {own : Option Addr} {h : Heap} {v : Value} {d : D} (x : Is own h v d) : d.lay = true → ∃ as, Reads h v d.py as := by
  refine Is.rec (motive_1 := fun v d _ => d.lay = true → ∃ as, Reads h v d.py as) (motive_2 := fun vs ds _ => D.layAll ds = true → ∃ as, ReadsAll h vs (D.pyAll ds) as) ?_ ?_ ?_ ?_ ?_ ?_ ?_ ?_ ?_ ?_ ?_ x
  · intro _; exact ⟨_, .none⟩
  · intro b _; exact ⟨_, .bool b⟩
  · intro i t _; exact ⟨_, .int i t⟩
  · intro i t _; exact ⟨_, .str i t⟩
  · intro a vs l ⟨o, h1, h2, n, h3⟩ hi _ _
    obtain ⟨as, r⟩ := readsInts (h := h) hi
    exact ⟨_, .list h1 h2 h3 (by simpa using r)⟩
  · intro a vs l hpl hi _ _; obtain ⟨o, h1, h2, n, h3⟩ := hpl.isList
    obtain ⟨as, r⟩ := readsInts (h := h) hi
    exact ⟨_, .list h1 h2 h3 (by simpa using r)⟩
  · intro a vs l ⟨o, h1, h2, n, h3⟩ hi _ _
    obtain ⟨as, r⟩ := readsStrs (h := h) hi
    exact ⟨_, .list h1 h2 h3 (by simpa using r)⟩
  · intro r a b c t u v n h1 h2 h3 h4 hl; simp [D.lay] at hl
  · intro a vs ds ⟨o, h1, h2, n, h3⟩ _ _ ih hl
    obtain ⟨as, r⟩ := ih (by simpa [D.lay] using hl)
    exact ⟨_, .tuple h1 h2 h3 (by simpa [D.py] using r)⟩
  · intro _; exact ⟨_, .nil⟩
  · intro v vs d ds _ _ ih1 ih2 hl
    simp only [D.layAll, Bool.and_eq_true] at hl
    obtain ⟨as, r1⟩ := ih1 hl.1
    obtain ⟨bs, r2⟩ := ih2 hl.2
    exact ⟨_, .cons r1 r2⟩

theorem canInts (l : List Int) : PyData.canLayAll0 (l.map .int) = true := by
  induction l with
  | nil => rfl
  | cons n l ih => simpa [PyData.canLayAll0, PyData.canLay0] using ih
theorem canStrs (l : List PySem.Str) : l.all PyData.strOk = true → PyData.canLayAll0 (l.map .str) = true := by
  induction l with
  | nil => intro _; rfl
  | cons n l ih => intro h; simp only [List.all_cons, Bool.and_eq_true] at h; simp [PyData.canLayAll0, PyData.canLay0, h.1, ih h.2]
mutual
theorem D.can : ∀ d : D, d.lay = true → d.py.canLay0 = true
  | .none, _ => by simp [D.py, PyData.canLay0]
  | .bool _, _ => by simp [D.py, PyData.canLay0]
  | .int _, _ => by simp [D.py, PyData.canLay0]
  | .str x, h => by simpa [D.py, PyData.canLay0, D.lay] using h
  | .ints l, _ => by simpa [D.py, PyData.canLay0] using canInts l
  | .mine l, _ => by simpa [D.py, PyData.canLay0] using canInts l
  | .strs l, h => by simpa [D.py, PyData.canLay0] using canStrs l (by simpa [D.lay] using h)
  | .rng _, h => by simp [D.lay] at h
  | .tup ds, h => by
    have := D.canAll ds (by simpa [D.lay] using h)
    simpa [D.py, PyData.canLay0] using this
theorem D.canAll : ∀ ds : List D, D.layAll ds = true → PyData.canLayAll0 (D.pyAll ds) = true
  | [], _ => by simp [D.pyAll, PyData.canLayAll0]
  | d :: ds, h => by
    simp only [D.layAll, Bool.and_eq_true] at h
    simp [D.pyAll, PyData.canLayAll0, D.can d h.1, D.canAll ds h.2]
end

section
variable {X : Cx} {F : Fx} {q : Bool} {g : List (PySem.Str × D)} {e l r : Expr} {d a b : D} {pos : Pos}

theorem cop_eq (ha : a.lay = true) (hb : b.lay = true) (hd : min a.py.depth b.py.depth ≤ 15) : Cop X F .Eq a b (.bool (PyData.eqv a.py b.py)) := fun s u v I R hu hv E => by
  obtain ⟨as, ra⟩ := hu.reads ha
  obtain ⟨bs, rb⟩ := hv.reads hb
  exact SeqAt.compareEq_reads ra rb (D.can a ha) (D.can b hb) (by have := R.units; omega) ⟨.bool _, Rl.refl I⟩
theorem cop_ne (ha : a.lay = true) (hb : b.lay = true) (hd : min a.py.depth b.py.depth ≤ 15) : Cop X F .NotEq a b (.bool (!PyData.eqv a.py b.py)) := fun s u v I R hu hv E => by
  obtain ⟨as, ra⟩ := hu.reads ha
  obtain ⟨bs, rb⟩ := hv.reads hb
  exact SeqAt.compareNe_reads ra rb (D.can a ha) (D.can b hb) (by have := R.units; omega) ⟨.bool _, Rl.refl I⟩
theorem cop_in_tup {ds : List D} (ha : a.lay = true) (hb : D.layAll ds = true) (hd : min (PyData.depthAll (D.pyAll ds)) a.py.depth ≤ 14) : Cop X F .In a (.tup ds) (.bool ((D.pyAll ds).any fun y => PyData.eqv y a.py)) := fun s u v I R hu hv E => by
  obtain ⟨as, ra⟩ := hu.reads ha
  obtain ⟨bs, rb⟩ := hv.reads (by simpa [D.lay] using hb)
  exact SeqAt.in_tuple_reads (by simpa [D.py] using rb) ra (D.canAll ds hb) (D.can a ha) (by have := R.units; omega) ⟨.bool _, Rl.refl I⟩
theorem cop_in_ints {l : List Int} {i : Int} : Cop X F .In (.int i) (.ints l) (.bool ((l.map PyData.int).any fun y => PyData.eqv y (.int i))) := fun s u v I R hu hv E => by
  obtain ⟨as, ra⟩ := hu.reads rfl
  obtain ⟨bs, rb⟩ := hv.reads rfl
  exact SeqAt.in_list_reads (by simpa [D.py] using rb) ra (canInts l) rfl (by
    have := R.units
    have h0 : (PyData.int i).depth = 0 := by simp [PyData.depth]
    have : min (PyData.depthAll (l.map .int)) (D.int i).py.depth ≤ 0 := by rw [show (D.int i).py = .int i by simp [D.py], h0]; exact Nat.min_le_right _ _
    omega) ⟨.bool _, Rl.refl I⟩
theorem cop_in_str {x y : PySem.Str} : Cop X F .In (.str y) (.str x) (.bool (Txt.contains x y)) := fun s u v I R hu hv E => by
  cases hu; cases hv; exact SB.contains ⟨.bool _, Rl.refl I⟩

theorem cop_eq_int {m n : Int} : Cop X F .Eq (.int m) (.int n) (.bool (m == n)) := fun s u v I _ hu hv E => by
  cases hu; cases hv; exact PyProof.Rows.eq_int ⟨.bool _, Rl.refl I⟩
theorem cop_ne_int {m n : Int} : Cop X F .NotEq (.int m) (.int n) (.bool (m != n)) := fun s u v I _ hu hv E => by
  cases hu; cases hv; exact PyProof.Rows.ne_int ⟨.bool _, Rl.refl I⟩
theorem cop_lt {m n : Int} : Cop X F .Lt (.int m) (.int n) (.bool (decide (m < n))) := fun s u v I _ hu hv E => by
  cases hu; cases hv; exact PyProof.Rows.lt_int ⟨.bool _, Rl.refl I⟩
theorem cop_le {m n : Int} : Cop X F .LtE (.int m) (.int n) (.bool (decide (m ≤ n))) := fun s u v I _ hu hv E => by
  cases hu; cases hv; exact PyProof.Rows.le_int ⟨.bool _, Rl.refl I⟩
theorem cop_gt {m n : Int} : Cop X F .Gt (.int m) (.int n) (.bool (decide (n < m))) := fun s u v I _ hu hv E => by
  cases hu; cases hv; exact PyProof.Rows.gt_int ⟨.bool _, Rl.refl I⟩
theorem cop_ge {m n : Int} : Cop X F .GtE (.int m) (.int n) (.bool (decide (n ≤ m))) := fun s u v I _ hu hv E => by
  cases hu; cases hv; exact PyProof.Rows.ge_int ⟨.bool _, Rl.refl I⟩
theorem cop_eq_str {x y : PySem.Str} : Cop X F .Eq (.str x) (.str y) (.bool (x == y)) := fun s u v I _ hu hv E => by
  cases hu; cases hv; exact PyProof.Rows.eq_str ⟨.bool _, Rl.refl I⟩
theorem cop_ne_str {x y : PySem.Str} : Cop X F .NotEq (.str x) (.str y) (.bool (x != y)) := fun s u v I _ hu hv E => by
  cases hu; cases hv; exact PyProof.Rows.ne_str ⟨.bool _, Rl.refl I⟩

def D.isNone : D → Bool
  | .none => true
  | _ => false
theorem is_isNone {own : Option Addr} {h : Heap} {v : Value} (x : Is own h v d) : (v == .none) = d.isNone := by
  cases x <;> rfl
theorem cop_is_none : Cop X F .Is a .none (.bool a.isNone) := fun s u v I _ hu hv E => by
  cases hv; exact PySem.is_none ⟨by rw [is_isNone hu]; exact .bool _, Rl.refl I⟩
theorem cop_isnot_none : Cop X F .IsNot a .none (.bool (!a.isNone)) := fun s u v I _ hu hv E => by
  cases hv; exact PySem.isNot_none ⟨by rw [is_isNone hu]; exact .bool _, Rl.refl I⟩

-- constants and names
theorem ev_int {i : Int} {k : Nat} : EV X F q g (.Constant (.int i) k pos) (.int i) := fun s E I f => wpAny_Constant_int ⟨.int _ _, rl_tok I _⟩
theorem ev_str {x : PySem.Str} {k : Nat} : EV X F q g (.Constant (.str x) k pos) (.str x) := fun s E I f => wpAny_Constant_str ⟨.str _ _, rl_tok I _⟩
theorem ev_none {k : Nat} : EV X F q g (.Constant .none k pos) .none := fun s E I f => wpAny_Constant_none ⟨.none, Rl.refl I⟩
theorem ev_bool {b : Bool} {k : Nat} : EV X F q g (.Constant (.bool b) k pos) (.bool b) := fun s E I f => wpAny_Constant_bool ⟨.bool _, Rl.refl I⟩

theorem ev_local {x : PySem.Str} (hd : (x == ("__debug__" : PySem.Str)) = false) (hl : F.env.kindOf x = some .local) (hg : g.lookup x = some d) : EV X F q g (.Name x pos) d := fun s E I f => by
  obtain ⟨m, hn, hm⟩ := f.ns
  obtain ⟨v, hv, hi⟩ := hm x d hg hl
  exact wpAny_Name (wpAny_loadName_local f.kind hl hn hv ⟨hi, Rl.refl I⟩) hd
theorem ev_cell {x : PySem.Str} (hd : (x == ("__debug__" : PySem.Str)) = false) (hl : F.env.kindOf x = some .cell) (hg : g.lookup x = some d) : EV X F q g (.Name x pos) d := fun s E I f => by
  obtain ⟨c, hc⟩ := f.has x hl
  obtain ⟨_, ov, hcell, r⟩ := f.cell x c hc
  obtain ⟨v, rfl, hi⟩ := r d hg hl
  exact wpAny_Name (wpAny_loadName_cell f.kind hl hc hcell ⟨hi, Rl.refl I⟩) hd

/-- a name of the module's: one value, whatever the state -/
theorem load_global {Q : Value → Shared → Prop} {E : Value → Shared → Prop} {s : Shared} {x : PySem.Str} {v : Value} (I : Inv X s) (f : Fits X F s.heap g) (hl : F.env.kindOf x = some .globalImplicit) (hv : X.mg x = some v) (h : Q v s)
    (hd : (x == ("__debug__" : PySem.Str)) = false) : wpAny (model X.prog X.w) F.A (eval (.Name x pos) F.env) Q E s :=
  Name_function_global f.kind hl (loadGlobal_global (show s.heap.Ns F.env.globals X.mg from f.glob ▸ I.ns I.ok.g) hv h) hd
theorem load_builtin {Q : Value → Shared → Prop} {E : Value → Shared → Prop} {s : Shared} {x : PySem.Str} {v : Value} (I : Inv X s) (f : Fits X F s.heap g) (hl : F.env.kindOf x = some .globalImplicit) (hv : X.mg x = none)
    (hb : bootBuiltins x = some v) (hn : x ≠ "__name__") (h : Q v s) (hd : (x == ("__debug__" : PySem.Str)) = false) : wpAny (model X.prog X.w) F.A (eval (.Name x pos) F.env) Q E s :=
  Name_function_global f.kind hl (loadGlobal_builtin (show s.heap.Ns F.env.globals X.mg from f.glob ▸ I.ns I.ok.g) hv (show s.heap.Ns F.env.builtins X.mb from f.bi ▸ I.ns I.ok.b) ((I.ok.builtins x hn).trans hb) h) hd

theorem ev_global {x : PySem.Str} {v : Value} (hd : (x == ("__debug__" : PySem.Str)) = false) (hl : F.env.kindOf x = some .globalImplicit) (hv : X.mg x = some v) (hi : ∀ h own, Is own h v d) : EV X F q g (.Name x pos) d := fun s E I f =>
  load_global I f hl hv ⟨hi _ _, Rl.refl I⟩ hd

-- unary, conditional
theorem ev_neg {n : Int} (h : EV X F q g e (.int n)) : EV X F q g (.UnaryOp .USub e pos) (.int (-n)) := fun s E I f =>
  wpAny_UnaryOp (h.then I f fun v s₁ i r I₁ _ => by cases i; exact PyProof.Rows.neg_int ⟨.int _ _, r.trans (rl_tok I₁ _)⟩)

theorem ev_if {t : Expr} {c : Bool} (ht : TV X F q g t c) (h1 : c = true → EV X F q g l d) (h2 : c = false → EV X F q g r d) : EV X F q g (.IfExp t l r pos) d := fun s E I f =>
  wpAny_IfExp (ht.then I f fun s₁ r₁ I₁ f₁ => by
    cases c with
    | true => exact (h1 rfl).then I₁ f₁ fun v s₂ i r₂ _ _ => ⟨i, r₁.trans r₂⟩
    | false => exact (h2 rfl).then I₁ f₁ fun v s₂ i r₂ _ _ => ⟨i, r₁.trans r₂⟩)

-- truth
theorem truthy_D {s : Shared} {v : Value} {E : Value → Shared → Prop} (I : Inv X s) (i : Is F.own s.heap v (.bool true)) : True := trivial

def D.truth : D → Option Bool
  | .none => some false
  | .bool b => some b
  | .int i => some (i != 0)
  | .ints l => if l.length < 2 ^ 60 then some (!l.isEmpty) else Option.none
  | _ => Option.none
theorem IntsAre.len {vs : List Value} {l : List Int} (h : IntsAre vs l) : vs.length = l.length := by
  induction h with
  | nil => rfl
  | cons _ _ _ ih => simp [ih]
theorem StrsAre.len {vs : List Value} {l : List PySem.Str} (h : StrsAre vs l) : vs.length = l.length := by
  induction h with
  | nil => rfl
  | cons _ _ _ ih => simp [ih]

theorem truthy_of {s : Shared} {v : Value} {b : Bool} {E : Value → Shared → Prop} (I : Inv X s) (i : Is F.own s.heap v d) (h : d.truth = some b) :
    wpAny (model X.prog X.w) F.A (truthy v) (fun r s' => r = b ∧ Rl X true s s') E s := by
  cases i with
  | none => cases h; exact PyProof.Rows.truthy_none ⟨rfl, Rl.refl I⟩
  | bool c => cases h; exact wpAny_truthy_bool ⟨rfl, Rl.refl I⟩
  | int n t => cases h; exact PyProof.Rows.truthy_int ⟨rfl, Rl.refl I⟩
  | «ints» hl hi ho =>
    simp only [D.truth] at h
    split at h
    · rename_i hz
      cases h
      have hlen := IntsAre.len hi
      refine wpAny_truthy_list hl (by simp only [List.size_toArray, hlen]; exact Int.ofNat_lt.mpr (Nat.lt_trans hz (by decide))) ⟨?_, rl_tok I _⟩
      cases hi <;> rfl
    · cases h
  | _ => cases h

/-- a test by its value: not, and, or, if and comparisons have their own arms -/
theorem tv_plain {b : Bool} (h : EV X F q g e d) (ht : d.truth = some b) (he : ∀ whole, isTrue e F.env whole = (do let v ← whole; standAt e.pos; holding [v] (truthy v))) : TV X F q g e b := fun s E I f =>
  wpAny_isTrue_value (h.then I f fun v s₁ i r I₁ _ => wpAny_mono (truthy_of I₁ i ht) (fun _ _ x => ⟨x.1, r.trans x.2.up⟩) fun _ _ x => x) (he _)
theorem tv_not {b : Bool} (h : TV X F q g e b) : TV X F q g (.UnaryOp .Not e pos) (!b) := fun s E I f =>
  wpAny_isTrue_Not (h.then I f fun s₁ r _ _ => ⟨rfl, r⟩)
theorem tv_and_nil : TV X F q g (.BoolOp .And [] pos) true := fun s E I f => PyProof.Rows.isTrue_and_nil ⟨rfl, Rl.refl I⟩
theorem tv_or_nil : TV X F q g (.BoolOp .Or [] pos) false := fun s E I f => PyProof.Rows.isTrue_or_nil ⟨rfl, Rl.refl I⟩
theorem isTrue_boolOp {op : BoolOp} {es : List Expr} {pos pos' : Pos} {env : Env} (w w' : Sem Value) : isTrue (.BoolOp op es pos) env w = isTrue (.BoolOp op es pos') env w' := by
  rw [arm_isTrue_BoolOp, arm_isTrue_BoolOp]
theorem tv_and {x : Expr} {rest : List Expr} {c b : Bool} (h : TV X F q g x c) (h2 : c = true → TV X F q g (.BoolOp .And rest pos) b) (hb : c = false → b = false) : TV X F q g (.BoolOp .And (x :: rest) pos) b := fun s E I f =>
  PyProof.Rows.isTrue_and (h.then I f fun s₁ r I₁ f₁ => by
    cases c with
    | true => simp only [if_true]; rw [isTrue_boolOp _ (eval (.BoolOp .And rest pos) F.env)]; exact (h2 rfl).then I₁ f₁ fun s₂ r₂ _ _ => ⟨rfl, r.trans r₂⟩
    | false => exact ⟨(hb rfl).symm, r⟩)
theorem tv_or {x : Expr} {rest : List Expr} {c b : Bool} (h : TV X F q g x c) (h2 : c = false → TV X F q g (.BoolOp .Or rest pos) b) (hb : c = true → b = true) : TV X F q g (.BoolOp .Or (x :: rest) pos) b := fun s E I f =>
  PyProof.Rows.isTrue_or (h.then I f fun s₁ r I₁ f₁ => by
    cases c with
    | false => simp only [Bool.false_eq_true, if_false]; rw [isTrue_boolOp _ (eval (.BoolOp .Or rest pos) F.env)]; exact (h2 rfl).then I₁ f₁ fun s₂ r₂ _ _ => ⟨rfl, r.trans r₂⟩
    | true => exact ⟨(hb rfl).symm, r⟩)

/-- and, or as values: of Bools -/
theorem ev_and2 {x y : Expr} {b c : Bool} (h : EV X F q g x (.bool c)) (h2 : c = true → EV X F q g y (.bool b)) (hb : c = false → b = false) : EV X F q g (.BoolOp .And [x, y] pos) (.bool b) := fun s E I f =>
  wpAny_And2 (h.then I f fun v s₁ i r I₁ f₁ => by
    cases i
    refine wpAny_truthy_bool ?_
    cases c with
    | true => exact (h2 rfl).then I₁ f₁ fun w s₂ i₂ r₂ _ _ => ⟨i₂, r.trans r₂⟩
    | false => exact ⟨by rw [hb rfl]; exact .bool _, r⟩)
theorem ev_or2 {x y : Expr} {b c : Bool} (h : EV X F q g x (.bool c)) (h2 : c = false → EV X F q g y (.bool b)) (hb : c = true → b = true) : EV X F q g (.BoolOp .Or [x, y] pos) (.bool b) := fun s E I f =>
  wpAny_Or2 (h.then I f fun v s₁ i r I₁ f₁ => by
    cases i
    refine wpAny_truthy_bool ?_
    cases c with
    | false => exact (h2 rfl).then I₁ f₁ fun w s₂ i₂ r₂ _ _ => ⟨i₂, r.trans r₂⟩
    | true => exact ⟨by rw [hb rfl]; exact .bool _, r⟩)

/-- a chain of two comparisons -/
theorem ev_chain2 {op₁ op₂ : CmpOp} {x y z : Expr} {a b c : D} {p p' : Bool} (hx : EV X F q g x a) (hy : EV X F q g y b) (hz : EV X F q g z c) (h1 : Cop X F op₁ a b (.bool p)) (h2 : Cop X F op₂ b c (.bool p'))
    (hm : lastMarks [op₁, op₂] [y, z] = false) : EV X F q g (.Compare x [op₁, op₂] [y, z] pos) (.bool (p && p')) := fun s E I f =>
  PyProof.Rows.Compare_chain (hx.then I f fun u s₁ i₁ r₁ I₁ f₁ => PyProof.Rows.chain_link (hy.then I₁ f₁ fun v s₂ i₂ r₂ I₂ f₂ =>
    wpAny_mono (h1 s₂ u v I₂ f.rm (r₂.is I₁ i₁) i₂ E) (fun w s₃ x => by
      obtain ⟨i, r₃⟩ := x
      cases i
      have I₃ := r₃.inv
      refine wpAny_truthy_bool ?_
      cases p with
      | false => exact ⟨.bool _, (r₁.trans r₂).trans r₃.up⟩
      | true =>
        refine PyProof.Rows.chain_last (hz.then I₃ (f₂.rl I₂ r₃) fun t s₄ i₄ r₄ I₄ f₄ => ?_)
        refine wpAny_mono (h2 s₄ v t I₄ f.rm (r₄.is I₃ (r₃.is I₂ i₂)) i₄ E) (fun w s₅ x => ?_) fun _ _ x => x
        obtain ⟨i, r₅⟩ := x
        exact ⟨i, ((r₁.trans r₂).trans r₃.up).trans (r₄.trans r₅.up)⟩) fun _ _ x => x)) hm
end
end Mine

-- B4
namespace Mine

theorem ints_get {vs : List Value} {l : List Int} (h : IntsAre vs l) {k : Nat} {n : Int} (e : l[k]? = some n) : ∃ t, vs[k]? = some (.int n t) := by
  induction h generalizing k with
  | nil => simp at e
  | cons m t _ ih => cases k with
    | zero => simp at e; subst e; exact ⟨t, by simp⟩
    | succ k => simpa using ih (by simpa using e)
theorem strs_get {vs : List Value} {l : List PySem.Str} (h : StrsAre vs l) {k : Nat} {n : PySem.Str} (e : l[k]? = some n) : ∃ t, vs[k]? = some (.str n t) := by
  induction h generalizing k with
  | nil => simp at e
  | cons m t _ ih => cases k with
    | zero => simp at e; subst e; exact ⟨t, by simp⟩
    | succ k => simpa using ih (by simpa using e)
theorem all_get {own : Option Addr} {h : Heap} : ∀ {vs : List Value} {ds : List D}, IsAll own h vs ds → ∀ {k : Nat} {d : D}, ds[k]? = some d → ∃ v, vs[k]? = some v ∧ Is own h v d
  | _, _, .nil, k, d, e => by simp at e
  | _, _, .cons r rs, 0, d, e => by simp at e; subst e; exact ⟨_, by simp, r⟩
  | _, _, .cons r rs, k + 1, d, e => by simpa using all_get rs (by simpa using e)
theorem all_len {own : Option Addr} {h : Heap} : ∀ {vs : List Value} {ds : List D}, IsAll own h vs ds → vs.length = ds.length
  | _, _, .nil => rfl
  | _, _, .cons r rs => by simp [all_len rs]
theorem ints_take {vs : List Value} {l : List Int} (h : IntsAre vs l) (n : Nat) : IntsAre (vs.take n) (l.take n) := by
  induction h generalizing n with
  | nil => simpa using IntsAre.nil
  | cons m t _ ih => cases n with
    | zero => simpa using IntsAre.nil
    | succ n => simpa using IntsAre.cons m t (ih n)
theorem ints_drop {vs : List Value} {l : List Int} (h : IntsAre vs l) (n : Nat) : IntsAre (vs.drop n) (l.drop n) := by
  induction h generalizing n with
  | nil => simpa using IntsAre.nil
  | cons m t h ih => cases n with
    | zero => simpa using IntsAre.cons m t h
    | succ n => simpa using ih n
theorem all_drop {own : Option Addr} {h : Heap} : ∀ {vs : List Value} {ds : List D}, IsAll own h vs ds → ∀ n, IsAll own h (vs.drop n) (ds.drop n)
  | _, _, .nil, n => by simpa using IsAll.nil
  | _, _, .cons r rs, 0 => by simpa using IsAll.cons r rs
  | _, _, .cons r rs, n + 1 => by simpa using all_drop rs n
theorem ints_append {vs ws : List Value} {l m : List Int} (h : IntsAre vs l) (h' : IntsAre ws m) : IntsAre (vs ++ ws) (l ++ m) := by
  induction h with
  | nil => simpa using h'
  | cons n t _ ih => simpa using IntsAre.cons n t ih
theorem strs_append {vs ws : List Value} {l m : List PySem.Str} (h : StrsAre vs l) (h' : StrsAre ws m) : StrsAre (vs ++ ws) (l ++ m) := by
  induction h with
  | nil => simpa using h'
  | cons n t _ ih => simpa using StrsAre.cons n t ih
theorem ints_rep {vs : List Value} {l : List Int} (h : IntsAre vs l) : ∀ n, IntsAre (List.replicate n vs).flatten (List.replicate n l).flatten
  | 0 => by simpa using IntsAre.nil
  | n + 1 => by simpa [List.replicate_succ] using ints_append h (ints_rep h n)

theorem seqIndex_nonneg {k : Int} {n : Nat} (h0 : 0 ≤ k) (h : k.toNat < n) : seqIndex? k n = some k.toNat := by
  unfold seqIndex?
  simp only [show ¬ k < 0 by omega, if_false]
  rw [if_pos]
  simp only [Bool.and_eq_true, decide_eq_true_eq]
  omega

section
variable {X : Cx} {F : Fx} {q : Bool} {g : List (PySem.Str × D)} {e l r : Expr} {d a b : D} {pos : Pos}

theorem Fits.own_ne (f : Fits X F h g) {c : Addr} (hc : h.get? c = none) : F.own ≠ some c := fun e => by
  obtain ⟨_, its, o, ho, _⟩ := f.live c e
  rw [hc] at ho; cases ho
theorem fresh_none (h : Heap) : h.get? h.objs.size = none := Heap.get?_none_of_le (Nat.le_refl _)

/-- what must be known of the own list, beyond what a value says -/
def OwnOk (F : Fx) (h : Heap) : Prop := ∀ a, F.own = some a → ∃ o, h.get? a = some o
theorem Fits.ownOk {h : Heap} (f : Fits X F h g) : OwnOk F h := fun a e => by obtain ⟨_, its, o, ho, _⟩ := f.live a e; exact ⟨o, ho⟩
theorem OwnOk.ne {h : Heap} (f : OwnOk F h) {c : Addr} (hc : h.get? c = none) : F.own ≠ some c := fun e => by
  obtain ⟨o, ho⟩ := f c e
  rw [hc] at ho; cases ho
theorem OwnOk.fresh {h : Heap} (f : OwnOk F h) : F.own ≠ some h.objs.size := f.ne (fresh_none h)
theorem OwnOk.rl {s s' : Shared} (f : OwnOk F s.heap) (k : Keeps s s') : OwnOk F s'.heap := fun a e => by obtain ⟨o, ho⟩ := f a e; exact ⟨o, keeps_get k ho⟩

/-- an operation upon two values, where the own list stands -/
def Gop (X : Cx) (F : Fx) (T : String) (a b d : D) : Prop :=
  ∀ s u v, Inv X s → Rm F → OwnOk F s.heap → Is F.own s.heap u a → Is F.own s.heap v b → s.TypeIs u T ∧ TR X F true s (getItem u v) d
def Bopw (X : Cx) (F : Fx) (op : Operator) (a b d : D) : Prop :=
  ∀ s u v, Inv X s → Rm F → OwnOk F s.heap → Is F.own s.heap u a → Is F.own s.heap v b → TR X F true s (binaryOp op u v) d
theorem ev_binw {op : Operator} (hl : EV X F q g l a) (hr : EV X F q g r b) (ho : Bopw X F op a b d) : EV X F q g (.BinOp l op r pos) d := fun s E I f =>
  wpAny_BinOp (hl.then I f fun u s₁ i₁ r₁ I₁ f₁ => hr.then I₁ f₁ fun v s₂ i₂ r₂ I₂ f₂ =>
    wpAny_mono (ho s₂ u v I₂ f.rm f₂.ownOk (r₂.is I₁ i₁) i₂ E) (fun w s₃ x => ⟨x.1, (r₁.trans r₂).trans x.2.up⟩) fun _ _ x => x)

theorem ev_sub {T id : String} (hl : EV X F q g l a) (hr : EV X F q g r b) (ho : Gop X F T a b d) (ht : typeLookup (.type T) "__getitem__" = pure (some (.builtin id)))
    (hs : ∀ o i, subscripted r false o i = operate [o, i] (getItem o i)) : EV X F q g (.Subscript l r pos) d := fun s E I f =>
  PyProof.Rows.Subscript_ (hl.then I f fun u s₁ i₁ r₁ I₁ f₁ => hr.then I₁ f₁ fun v s₂ i₂ r₂ I₂ f₂ => by
    obtain ⟨hT, hg⟩ := ho s₂ u v I₂ f.rm f₂.ownOk (r₂.is I₁ i₁) i₂
    unfold subscriptTail
    refine wpAny_bind ?_
    rw [getitemInPython_of_ne hT.not_modules]
    refine wpAny_bind (wpAny_specialOf hT ht ?_)
    have fin : wpAny (model X.prog X.w) F.A (subscripted r false u v) (fun w s₃ => wpAny (model X.prog X.w) F.A (letTemporaryGo l u w >>= fun _ => pure w) (fun v s' => Is F.own s'.heap v d ∧ Rl X q s s') E s₃) E s₂ := by
      rw [hs]
      exact wpAny_operating (wpAny_mono (hg E) (fun w s₃ x => wpAny_bind (wpAny_letTemporaryGo (wpAny_pure ⟨x.1, (r₁.trans r₂).trans x.2.up⟩))) fun _ _ x => x)
    first
      | exact wpAny_pure (wpAny_bind fin)
      | exact wpAny_bind (wpAny_pure (wpAny_bind fin))
      | exact wpAny_bind fin)

theorem getitem_list : typeLookup (.type "list") "__getitem__" = pure (some (.builtin "list.__getitem__")) := slot_list_getitem.lookup
theorem getitem_tuple : typeLookup (.type "tuple") "__getitem__" = pure (some (.builtin "tuple.__getitem__")) := slot_tuple_getitem.lookup
theorem getitem_str : typeLookup (.type "str") "__getitem__" = pure (some (.builtin "str.__getitem__")) := F.slot_str_getitem.lookup

theorem gop_ints {m : List Int} {k n : Int} (h0 : 0 ≤ k) (h1 : k < 2 ^ 63) (hk : m[k.toNat]? = some n) : Gop X F "list" (.ints m) (.int k) (.int n) := fun s u v I _ _ hu hv => by
  cases hu with
  | «ints» hl hi ho =>
    cases hv
    obtain ⟨t, ht⟩ := ints_get hi hk
    exact ⟨hl.typeIs, fun E => wpAny_getItem_list hl h0 h1 (by simpa using ht) ⟨.int _ _, Rl.refl I⟩⟩
theorem gop_strs {m : List PySem.Str} {k : Int} {n : PySem.Str} (h0 : 0 ≤ k) (h1 : k < 2 ^ 63) (hk : m[k.toNat]? = some n) : Gop X F "list" (.strs m) (.int k) (.str n) := fun s u v I _ _ hu hv => by
  cases hu with
  | «strs» hl hi ho =>
    cases hv
    obtain ⟨t, ht⟩ := strs_get hi hk
    exact ⟨hl.typeIs, fun E => wpAny_getItem_list hl h0 h1 (by simpa using ht) ⟨.str _ _, Rl.refl I⟩⟩
theorem gop_tup {m : List D} {k : Int} {n : D} (h0 : 0 ≤ k) (h1 : k < 2 ^ 63) (hk : m[k.toNat]? = some n) : Gop X F "tuple" (.tup m) (.int k) n := fun s u v I _ _ hu hv => by
  cases hu with
  | tup hl hi ho =>
    cases hv
    obtain ⟨w, hw, hwi⟩ := all_get hi hk
    have hlen := all_len hi
    have hlt : k.toNat < m.length := (List.getElem?_eq_some_iff.mp hk).1
    refine ⟨hl.typeIs, fun E => PyProof.Rows.getItem_tuple hl (by omega) h1 (j := k.toNat) ?_ (by simpa using hw) ⟨hwi, Rl.refl I⟩⟩
    rw [List.size_toArray, hlen]
    exact seqIndex_nonneg h0 hlt
theorem gop_str {x : PySem.Str} {k : Int} {c : Nat} (h0 : 0 ≤ k) (h1 : k < 2 ^ 63) (hk : x.cps[k.toNat]? = some c) : Gop X F "str" (.str x) (.int k) (.str ⟨#[c]⟩) := fun s u v I _ _ hu hv => by
  cases hu; cases hv
  refine ⟨typeIs_str _ _ _, fun E => PySem.P.getItem_str ?_ ?_ ⟨.str _ _, rl_tok I _⟩⟩
  · simp; omega
  · have hlt : k.toNat < x.cps.size := (Array.getElem?_eq_some_iff.mp hk).1
    have : seqIndex? k x.length = some k.toNat := seqIndex_nonneg h0 hlt
    rw [this]; exact hk
end
end Mine

-- B5
namespace Mine

def plainE : Expr → Bool
  | .Starred .. => false
  | _ => true
theorem starEach_plain (env : Env) : ∀ es : List Expr, es.all plainE = true → starEach es env = es.map fun e => (false, eval e env)
  | [], _ => rfl
  | e :: es, h => by
    simp only [List.all_cons, Bool.and_eq_true] at h
    have ih := starEach_plain env es h.2
    cases e with
    | Starred => simp [plainE] at h
    | _ => simp only [starEach, ih, List.map_cons]
theorem backTo_plain (pos : Pos) (env : Env) (es : List Expr) : backTo pos (es.map fun e => (false, eval e env)) = es.map fun e => (false, eval e env) := by
  simp [backTo, Function.comp_def]
theorem trees_plain (pos : Pos) (env : Env) (es : List Expr) (h : es.all plainE = true) : backTo pos (starEach es env) = es.map fun e => (false, eval e env) := by
  rw [starEach_plain env es h, backTo_plain]

def EVs (X : Cx) (F : Fx) (q : Bool) (g : List (PySem.Str × D)) (es : List Expr) (ds : List D) : Prop :=
  ∀ (s : Shared) (E : Value → Shared → Prop), Inv X s → Fits X F s.heap g →
    wpAny (model X.prog X.w) F.A (spliced (es.map fun e => (false, eval e F.env))) (fun vs s' => IsAll F.own s'.heap vs ds ∧ Rl X q s s') E s

section
variable {X : Cx} {F : Fx} {q : Bool} {g : List (PySem.Str × D)} {e l r : Expr} {d a b : D} {pos : Pos} {es : List Expr} {ds : List D}

theorem Rl.isAll {s s' : Shared} (I : Inv X s) (x : Rl X q s s') {own : Option Addr} {vs : List Value} (i : IsAll own s.heap vs ds) : IsAll own s'.heap vs ds := i.mono (x.stable I)

theorem evs_nil : EVs X F q g [] [] := fun s E I f => spliced_nil ⟨.nil, Rl.refl I⟩
theorem evs_cons (h : EV X F q g e d) (hs : EVs X F q g es ds) : EVs X F q g (e :: es) (d :: ds) := fun s E I f =>
  spliced_cons (h.then I f fun v s₁ i r I₁ f₁ => wpAny_mono (hs s₁ E I₁ f₁) (fun vs s₂ x => ⟨.cons (x.2.is I₁ i) x.1, r.trans x.2⟩) fun _ _ x => x)
theorem EVs.then {Q : List Value → Shared → Prop} {E : Value → Shared → Prop} {s : Shared} (h : EVs X F q g es ds) (I : Inv X s) (f : Fits X F s.heap g)
    (k : ∀ vs s', IsAll F.own s'.heap vs ds → Rl X q s s' → Inv X s' → Fits X F s'.heap g → Q vs s') : wpAny (model X.prog X.w) F.A (spliced (es.map fun e => (false, eval e F.env))) Q E s :=
  wpAny_mono (h s E I f) (fun v s' x => k v s' x.1 x.2 x.2.inv (f.rl I x.2)) fun _ _ x => x

theorem all_ints {own : Option Addr} {h : Heap} : ∀ {vs : List Value} {l : List Int}, IsAll own h vs (l.map .int) → IntsAre vs l
  | _, [], .nil => .nil
  | _, n :: l, .cons r rs => by cases r; exact .cons _ _ (all_ints rs)
theorem all_strs {own : Option Addr} {h : Heap} : ∀ {vs : List Value} {l : List PySem.Str}, IsAll own h vs (l.map .str) → StrsAre vs l
  | _, [], .nil => .nil
  | _, n :: l, .cons r rs => by cases r; exact .cons _ _ (all_strs rs)

theorem new_list {h : Heap} {its : Array Value} : (h.push { cls := .type "list", data := .seq its }).IsList h.objs.size its := ⟨_, Heap.get?_push_size _ rfl, rfl, _, rfl⟩
theorem new_tup {h : Heap} {its : Array Value} : IsTup (h.push { cls := .type "tuple", data := .seq its }) h.objs.size its := ⟨_, Heap.get?_push_size _ rfl, rfl, _, rfl⟩

theorem ev_listI {l : List Int} (hs : EVs X F q g es (l.map .int)) (hp : es.all plainE = true) (hz : l.length ≤ 1000000 := by decide) : EV X F q g (.List es pos) (.ints l) := fun s E I f => by
  refine PyProof.Rows.List_ ?_
  rw [trees_plain _ _ _ hp]
  refine hs.then I f fun vs s₁ i r I₁ f₁ => ?_
  have hi := all_ints i
  refine wpAny_newObj_type ⟨.ints new_list hi f₁.ownOk.fresh, r.trans (Rl.ofKeeps I₁ (keeps_push _ _ _))⟩ ?_
  show vs.toArray.size ≤ sizeLine
  rw [List.size_toArray, IntsAre.len hi]
  exact Nat.le_trans hz (by decide)
theorem ev_listS {l : List PySem.Str} (hs : EVs X F q g es (l.map .str)) (hp : es.all plainE = true) (hz : l.length ≤ 1000000 := by decide) : EV X F q g (.List es pos) (.strs l) := fun s E I f => by
  refine PyProof.Rows.List_ ?_
  rw [trees_plain _ _ _ hp]
  refine hs.then I f fun vs s₁ i r I₁ f₁ => ?_
  have hi := all_strs i
  refine wpAny_newObj_type ⟨.strs new_list hi f₁.ownOk.fresh, r.trans (Rl.ofKeeps I₁ (keeps_push _ _ _))⟩ ?_
  show vs.toArray.size ≤ sizeLine
  rw [List.size_toArray, StrsAre.len hi]
  exact Nat.le_trans hz (by decide)
theorem ev_tup {k : Nat} (hs : EVs X F q g es ds) (hp : es.all plainE = true) (hz : ds.length ≤ 1000000 := by decide) : EV X F q g (.Tuple es k pos) (.tup ds) := fun s E I f => by
  refine PyProof.Rows.Tuple_ ?_
  rw [trees_plain _ _ _ hp]
  refine hs.then I f fun vs s₁ i r I₁ f₁ => ?_
  have k₁ := keeps_push s₁ { cls := .type "tuple", data := .seq vs.toArray } s₁.toks
  have R₁ : Rl X true s₁ _ := Rl.ofKeeps I₁ k₁
  refine wpAny_newObj_type ⟨.tup new_tup (R₁.isAll I₁ i) f₁.ownOk.fresh, r.trans R₁.up⟩ ?_
  show vs.toArray.size ≤ sizeLine
  rw [List.size_toArray, all_len i]
  exact Nat.le_trans hz (by decide)

-- calls
def Fop (X : Cx) (F : Fx) (q : Bool) (f : Value) (ds : List D) (d : D) : Prop :=
  ∀ s vs E, Inv X s → Rm F → OwnOk F s.heap → IsAll F.own s.heap vs ds → wpAny (model X.prog X.w) F.A (call f vs) (fun v s' => Is F.own s'.heap v d ∧ Rl X q s s') E s

theorem args_of {E : Value → Shared → Prop} {f : Value} {Q : Args → Shared → Prop} {s : Shared} (hne : es ≠ []) (h : wpAny (model X.prog X.w) F.A (spliced (es.map fun e => (false, eval e F.env))) (fun vs s' => Q ⟨vs, []⟩ s') E s) :
    wpAny (model X.prog X.w) F.A (evalArgs f true (es.map fun e => (false, eval e F.env)) []) Q E s := by
  cases es with
  | nil => exact absurd rfl hne
  | cons e es => exact evalArgs_plain h

theorem ev_call_b {x : PySem.Str} {np : Pos} {id : String} (hd : (x == ("__debug__" : PySem.Str)) = false) (hk : F.env.kindOf x = some .globalImplicit) (hm : X.mg x = none) (hb : bootBuiltins x = some (.builtin id)) (hn : x ≠ "__name__")
    (hs : EVs X F q g es ds) (hp : es.all plainE = true) (hne : es ≠ []) (hf : Fop X F q (.builtin id) ds d) : EV X F q g (.Call (.Name x np) es [] pos) d := fun s E I f => by
  refine wpAny_Call_NameR (load_builtin I f hk hm hb hn ?_ hd)
  rw [trees_plain _ _ _ hp]
  refine Calls.callWith_builtin (by simp [List.any_map]) (args_of hne (hs.then I f fun vs s₁ i r I₁ f₁ => ?_))
  exact wpAny_mono (hf s₁ vs E I₁ f.rm f₁.ownOk i) (fun v s₂ x => ⟨x.1, r.trans x.2⟩) fun _ _ x => x
theorem ev_call_t {x : PySem.Str} {np : Pos} {id : String} (hd : (x == ("__debug__" : PySem.Str)) = false) (hk : F.env.kindOf x = some .globalImplicit) (hm : X.mg x = none) (hb : bootBuiltins x = some (.type id)) (hn : x ≠ "__name__")
    (hs : EVs X F q g es ds) (hp : es.all plainE = true) (hne : es ≠ []) (hf : Fop X F q (.type id) ds d) : EV X F q g (.Call (.Name x np) es [] pos) d := fun s E I f => by
  refine wpAny_Call_NameR (load_builtin I f hk hm hb hn ?_ hd)
  rw [trees_plain _ _ _ hp]
  refine PySem.callWith_type (by simp [List.any_map]) (args_of hne (hs.then I f fun vs s₁ i r I₁ f₁ => ?_))
  exact wpAny_mono (hf s₁ vs E I₁ f.rm f₁.ownOk i) (fun v s₂ x => ⟨x.1, r.trans x.2⟩) fun _ _ x => x
theorem ev_call_f {x : PySem.Str} {np : Pos} {fa : Addr} {o : Obj} {fd : FuncData} (hd : (x == ("__debug__" : PySem.Str)) = false) (hk : F.env.kindOf x = some .globalImplicit) (hm : X.mg x = some (.ref fa)) (ho : X.H0.get? fa = some o) (hfd : o.data = .func fd)
    (hs : EVs X F q g es ds) (hp : es.all plainE = true) (hne : es ≠ []) (hf : Fop X F q (.ref fa) ds d) : EV X F q g (.Call (.Name x np) es [] pos) d := fun s E I f => by
  refine wpAny_Call_NameR (load_global I f hk hm ?_ hd)
  rw [trees_plain _ _ _ hp]
  refine Calls.callWith_function (o := o) (fd := fd) (args_of hne (hs.then I f fun vs s₁ i r I₁ f₁ => ⟨⟨I₁.old ?_ ho, hfd⟩, ?_⟩))
  · rintro rfl
    obtain ⟨ps, hp⟩ := I.P_obj
    rw [hp] at ho; cases ho; cases hfd
  · exact wpAny_mono (hf s₁ vs E I₁ f.rm f₁.ownOk i) (fun v s₂ x => ⟨x.1, r.trans x.2⟩) fun _ _ x => x

-- built-in functions
theorem fop_len_str {x : PySem.Str} (h : x.length < 2 ^ 60) : Fop X F q (.builtin "len") [.str x] (.int x.length) := fun s vs E I _ _ i => by
  cases i with
  | cons i1 i2 =>
    cases i1; cases i2
    have h' : (x.length : Int) < 2 ^ 60 := by exact_mod_cast h
    refine PySem.P.len_str ?_ ⟨.int _ _, rl_tok I _⟩
    omega
theorem fop_len_ints {l : List Int} (h : l.length < 2 ^ 60) : Fop X F q (.builtin "len") [.ints l] (.int l.length) := fun s vs E I _ _ i => by
  cases i with
  | cons i1 i2 =>
    cases i2
    cases i1 with
    | «ints» hl hi ho =>
      rename_i ws
      have e : ((ws.toArray.size : Nat) : Int) = (l.length : Int) := by rw [List.size_toArray, IntsAre.len hi]
      refine call_len_list hl ?_ ?_
      · rw [e]; have : (l.length : Int) < 2 ^ 60 := by exact_mod_cast h
        omega
      · rw [e]; exact ⟨.int _ _, rl_tok I _⟩
theorem fop_ord {c : Nat} : Fop X F q (.builtin "ord") [.str ⟨#[c]⟩] (.int c) := fun s vs E I _ _ i => by
  cases i with
  | cons i1 i2 => cases i1; cases i2; exact PySem.P.ord_of_char ⟨.int _ _, rl_tok I _⟩
theorem fop_abs {n : Int} : Fop X F q (.builtin "abs") [.int n] (.int (if n < 0 then -n else n)) := fun s vs E I _ _ i => by
  cases i with
  | cons i1 i2 => cases i1; cases i2; exact PyProof.Rows.call_abs_int fun u tk => ⟨.int _ _, rl_tok I _⟩
theorem fop_int {n : Int} : Fop X F q (.type "int") [.int n] (.int n) := fun s vs E I _ _ i => by
  cases i with
  | cons i1 i2 => cases i1; cases i2; exact call_int_int ⟨.int _ _, Rl.refl I⟩
theorem fop_sum {l : List Int} : Fop X F q (.builtin "sum") [.ints l] (.int l.sum) := fun s vs E I R ok i => by
  cases i with
  | cons i1 i2 =>
    cases i2
    cases i1 with
    | «ints» hl hi ho =>
      rename_i a ws
      have hn : ∃ xs : Array (Int × Tok), ws.toArray = intItems xs ∧ l = xs.toList.map (·.1) := by
        clear hl ho
        induction hi with
        | nil => exact ⟨#[], by simp [intItems], rfl⟩
        | cons n t _ ih =>
          obtain ⟨xs, e1, e2⟩ := ih
          refine ⟨((n, t) :: xs.toList).toArray, ?_, ?_⟩
          · have e3 := congrArg Array.toList e1
            simp [intItems] at e3 ⊢
            exact e3
          · simp [e2]
      obtain ⟨xs, e1, e2⟩ := hn
      rw [e1] at hl
      refine sum_intListG R.handled hl fun h' tk t' hk => ?_
      have e3 : preSum (numAt xs) xs.size = l.sum := by
        have : (List.range xs.size).map (numAt xs) = l := by
          rw [e2]
          apply List.ext_getElem?
          intro k
          by_cases hk : k < xs.size
          · simp [numAt, hk]
          · simp [numAt, hk]
        rw [← this]
        clear this e2 e1 hl
        generalize numAt xs = f
        generalize xs.size = n
        induction n with
        | zero => rfl
        | succ n ih => rw [List.range_succ, List.map_append, List.sum_append, ← ih]; simp [preSum]
      rw [e3]
      exact ⟨.int _ _, Rl.ofKeeps I (keeps_of hk)⟩
end
end Mine

-- B6
namespace Mine

def cl (v : Option Int) (dflt n : Nat) : Nat := match v with
  | none => dflt
  | some i => (max 0 (min (if i < 0 then i + n else i) n)).toNat
def cut {α : Type} (l : List α) (lo hi : Option Int) : List α := (l.drop (cl lo 0 l.length)).take (cl hi l.length l.length - cl lo 0 l.length)
theorem cut_take {α : Type} (l : List α) {j : Int} (h : 0 ≤ j) : cut l none (some j) = l.take j.toNat := by
  unfold cut cl
  simp only [Nat.sub_zero, List.drop_zero, show ¬ j < 0 by omega, if_false]
  by_cases hj : j.toNat ≤ l.length
  · congr 1; omega
  · rw [List.take_of_length_le (by omega), List.take_of_length_le (by omega)]
theorem cut_drop {α : Type} (l : List α) {j : Int} (h : 0 ≤ j) : cut l (some j) none = l.drop j.toNat := by
  unfold cut cl
  simp only [show ¬ j < 0 by omega, if_false]
  by_cases hj : j.toNat ≤ l.length
  · rw [show (max 0 (min j (l.length : Int))).toNat = j.toNat by omega, List.take_of_length_le (by simp)]
  · rw [List.drop_of_length_le (by omega), List.drop_of_length_le (by omega)]; simp
theorem cut_end {α : Type} (l : List α) {k : Nat} (h : 0 < k) : cut l none (some (-(k : Int))) = l.take (l.length - k) := by
  unfold cut cl
  simp only [Nat.sub_zero, List.drop_zero, show (-(k : Int)) < 0 by omega, if_true]
  congr 1; omega

theorem bounds_cl (lo hi : Option Int) (n : Nat) : sliceBounds lo hi none n = (((cl lo 0 n : Nat) : Int), ((cl hi n n : Nat) : Int), (1 : Int)) := by
  unfold sliceBounds cl
  simp only [Option.getD_none, show (1 : Int) > 0 by decide, if_true]
  cases lo <;> cases hi <;> simp only [Int.toNat_of_nonneg (Int.le_max_left 0 _)] <;> rfl
theorem pick_cut (items : Array Value) (lo hi : Option Int) : slicePick items lo hi none = (cut items.toList lo hi).toArray := by
  unfold slicePick
  rw [bounds_cl]
  simp only [sliceRange_one, pick_run, cut, Array.length_toList]
theorem str_cut (x : PySem.Str) (lo hi : Option Int) : Builtin.Str.strSliceIndices lo hi 1 x.length = (List.range (cl hi x.length x.length - cl lo 0 x.length)).map (cl lo 0 x.length + ·) := by
  rw [← sliceRange_one]
  unfold Builtin.Str.strSliceIndices cl
  simp only [show (1 : Int) > 0 by decide, if_true]
  cases lo <;> cases hi <;> simp only [Int.toNat_of_nonneg (Int.le_max_left 0 _)] <;> rfl
theorem str_picked (x : PySem.Str) (lo hi : Option Int) : (Builtin.Str.strSliceIndices lo hi 1 x.length).filterMap (x.cps[·]?) = cut x.cps.toList lo hi := by
  rw [str_cut, pick_run]; rfl
theorem cut_all {α : Type} (l : List α) (lo hi : Option Int) (h : (cut l lo hi).length = l.length) : cut l lo hi = l := by
  unfold cut at h ⊢
  rw [List.length_take, List.length_drop] at h
  have hlo : cl lo 0 l.length ≤ l.length := by
    unfold cl; cases lo <;> simp only <;> omega
  by_cases h0 : l.length = 0
  · rw [List.length_eq_zero_iff.mp h0]; simp
  · have h1 : cl lo 0 l.length = 0 := by omega
    rw [h1] at h ⊢
    rw [List.drop_zero, List.take_of_length_le (by omega)]
theorem cut_len {α : Type} (l : List α) (lo hi : Option Int) : (cut l lo hi).length ≤ l.length := by
  unfold cut; rw [List.length_take, List.length_drop]; omega

/-- a part of a slice -/
def OV (X : Cx) (F : Fx) (q : Bool) (g : List (PySem.Str × D)) (x : Option Expr) (v : Option Int) : Prop :=
  match x, v with
  | none, none => True
  | some e, some i => EV X F q g e (.int i)
  | _, _ => False

section
variable {X : Cx} {F : Fx} {q : Bool} {g : List (PySem.Str × D)} {e l r : Expr} {d a b : D} {pos : Pos} {es : List Expr} {ds : List D}

theorem OV.then {x : Option Expr} {v : Option Int} {Q : Value → Shared → Prop} {E : Value → Shared → Prop} {s : Shared} (h : OV X F q g x v) (I : Inv X s) (f : Fits X F s.heap g)
    (k : ∀ w s', IsPart w v → (∃ p : Option (Int × Tok), w = partValue p ∧ p.map (·.1) = v) → Rl X q s s' → Inv X s' → Fits X F s'.heap g → Q w s') : wpAny (model X.prog X.w) F.A (evalPart x F.env) Q E s := by
  cases x with
  | none => cases v with
    | none => exact wpAny_pure (k _ _ .none ⟨none, rfl, rfl⟩ (Rl.refl I) I f)
    | some i => exact h.elim
  | some e => cases v with
    | none => exact h.elim
    | some i => exact EV.then (d := .int i) h I f fun w s' hi r I' f' => by cases hi; exact k _ _ (.int _ _) ⟨some (_, _), rfl, rfl⟩ r I' f'

theorem isNameTail {n : PySem.Str} {p : Pos} (o r : Value) : letTemporaryGo (.Name n p) o r = pure () := rfl

theorem cut_ints {vs : List Value} {l : List Int} (h : IntsAre vs l) (lo hi : Option Int) : IntsAre (cut vs lo hi) (cut l lo hi) := by
  unfold cut; rw [IntsAre.len h]; exact ints_take (ints_drop h _) _

theorem ev_sliceI {n : PySem.Str} {np p : Pos} {lo hi : Option Expr} {i j : Option Int} {m : List Int} (hn : EV X F q g (.Name n np) (.ints m)) (hl : OV X F q g lo i) (hh : OV X F q g hi j) (hz : m.length ≤ 1000000) :
    EV X F q g (.Subscript (.Name n np) (.Slice lo hi none p) pos) (.ints (cut m i j)) := fun s E I f =>
  wpAny_Subscript_list_slice (hn.then I f fun u s₁ i₁ r₁ I₁ f₁ => hl.then I₁ f₁ fun v s₂ i₂ _ r₂ I₂ f₂ => hh.then I₂ f₂ fun w s₃ i₃ _ r₃ I₃ f₃ => by
    have i₁' := r₃.is I₂ (r₂.is I₁ i₁)
    cases i₁' with
    | «ints» hl' hi' ho =>
      rename_i a vs
      have hsz : vs.toArray.size ≤ sizeLine := by rw [List.size_toArray, IntsAre.len hi']; exact Nat.le_trans hz (by decide)
      refine ⟨_, _, i, j, rfl, hl', hsz, i₂, i₃, ?_⟩
      have K1 := keeps_push s₃ { cls := .type "slice", data := .fields #[v, w, .none] } s₃.toks
      have K2 : Keeps s₃ { s₃ with heap := (s₃.heap.push { cls := .type "slice", data := .fields #[v, w, .none] }).push { cls := .type "list", data := .seq (slicePick vs.toArray i j none) } } := keeps_trans K1 (keeps_push _ _ _)
      refine ⟨?_, (r₁.trans (r₂.trans r₃)).trans (Rl.ofKeeps I₃ K2)⟩
      rw [pick_cut, show s₃.heap.objs.size + 1 = (s₃.heap.push { cls := .type "slice", data := .fields #[v, w, .none] }).objs.size from (Heap.size_push ..).symm]
      refine .ints new_list (cut_ints hi' i j) ?_
      have := (f₃.ownOk.rl K1).fresh
      exact this) isNameTail

theorem ev_sliceS {n : PySem.Str} {np p : Pos} {lo hi : Option Expr} {i j : Option Int} {x : PySem.Str} (hn : EV X F q g (.Name n np) (.str x)) (hl : OV X F q g lo i) (hh : OV X F q g hi j) (hz : x.length ≤ 1000000) :
    EV X F q g (.Subscript (.Name n np) (.Slice lo hi none p) pos) (.str ⟨(cut x.cps.toList i j).toArray⟩) := fun s E I f =>
  wpAny_Subscript_str_slice (hn.then I f fun u s₁ i₁ r₁ I₁ f₁ => hl.then I₁ f₁ fun v s₂ i₂ hv r₂ I₂ f₂ => hh.then I₂ f₂ fun w s₃ i₃ hw r₃ I₃ f₃ => by
    obtain ⟨pv, rfl, ev⟩ := hv
    obtain ⟨pw, rfl, ew⟩ := hw
    cases i₁ with
    | str _ t =>
      refine ⟨x, t, pv, pw, rfl, rfl, rfl, ?_⟩
      have hp : slicePicked x pv pw none = Builtin.Str.strSliceIndices i j 1 x.length := by unfold slicePicked; rw [ev, ew]; rfl
      unfold sliceMade
      rw [hp, str_picked]
      have K : ∀ tk, Keeps s₃ { s₃ with heap := s₃.heap.push { cls := .type "slice", data := .fields #[partValue pv, partValue pw, .none] }, toks := tk } := fun tk => keeps_push _ _ _
      split
      · rename_i hc
        have hlen : (cut x.cps.toList i j).length = x.cps.toList.length := by
          simp only [Option.map_none, Option.getD_none, beq_self_eq_true, Bool.true_and, beq_iff_eq] at hc
          have h2 : (Builtin.Str.strSliceIndices i j 1 x.length).length = x.length := hc
          rw [str_cut] at h2
          unfold cut
          rw [List.length_take, List.length_drop, Array.length_toList]
          simp only [List.length_map, List.length_range] at h2
          have hx : x.length = x.cps.size := rfl
          rw [hx] at h2
          have hlo : cl i 0 x.cps.size ≤ x.cps.size := by
            unfold cl; cases i <;> simp only <;> omega
          have hhi : cl j x.cps.size x.cps.size ≤ x.cps.size := by
            unfold cl; cases j <;> simp only <;> omega
          omega
        rw [cut_all _ _ _ hlen]
        exact ⟨.str _ _, (r₁.trans (r₂.trans r₃)).trans (Rl.ofKeeps I₃ (K _))⟩
      · refine ⟨?_, ⟨.str _ _, (r₁.trans (r₂.trans r₃)).trans (Rl.ofKeeps I₃ (K _))⟩⟩
        show (cut x.cps.toList i j).toArray.size ≤ sizeLine
        rw [List.size_toArray]
        have h1 := cut_len x.cps.toList i j
        rw [Array.length_toList] at h1
        exact Nat.le_trans h1 (Nat.le_trans hz (by decide))) isNameTail

-- lists, texts: the operators
theorem bopw_addI {l m : List Int} (hz : l.length + m.length ≤ 1000000) : Bopw X F .Add (.ints l) (.ints m) (.ints (l ++ m)) := fun s u v I R ok hu hv E => by
  cases hu with
  | «ints» hl hi ho =>
    rename_i a vs
    cases hv with
    | «ints» hl2 hi2 ho2 =>
      rename_i b ws
      obtain ⟨⟨cls, dd, data, sl⟩, h1, hc, n, hd⟩ := id hl
      obtain ⟨⟨cls2, dd2, data2, sl2⟩, h2, hc2, n2, hd2⟩ := id hl2
      simp only at hc hd hc2 hd2
      subst hc hd hc2 hd2
      have e : vs.toArray ++ ws.toArray = (vs ++ ws).toArray := by simp
      have hsz : vs.toArray.size + ws.toArray.size ≤ sizeLine := by simp only [List.size_toArray, IntsAre.len hi, IntsAre.len hi2]; exact Nat.le_trans hz (by decide)
      refine concat_meets ⟨_, h1, rfl⟩ ⟨_, h2, rfl⟩ noFill_list_add seq_list_add PySem.F.slot_list_add PySem.F.entry_list_add (PySem.F.args_list_add_2 _ _) (list_addW a b vs.toArray ws.toArray n n2 dd dd2 sl sl2 hsz) ⟨h1, h2, ?_⟩
      rw [e]
      exact ⟨.ints new_list (ints_append hi hi2) ok.fresh, Rl.ofKeeps I (keeps_push _ _ _)⟩

theorem bopw_mulI {l : List Int} {n : Int} (hlo : -(2 ^ 63 : Int) ≤ n) (hhi : n < 2 ^ 63) (hz : l.length * n.toNat ≤ 1000000) : Bopw X F .Mult (.ints l) (.int n) (.ints (List.replicate n.toNat l).flatten) := fun s u v I R ok hu hv E => by
  cases hu with
  | «ints» hl hi ho =>
    rename_i a vs
    cases hv with
    | int _ t =>
      obtain ⟨⟨cls, dd, data, sl⟩, h1, hc, k, hd⟩ := id hl
      simp only at hc hd
      subst hc hd
      have hsz : vs.toArray.size * n.toNat ≤ 1000000 := by simpa only [List.size_toArray, IntsAre.len hi] using hz
      refine wpAny_binaryOp_repeat_ref (T := "list") (U := "int") (by decide) ⟨_, h1, rfl⟩ (fun s' => typeIs_int s' n t) noFill_list_mul PySem.F.fills_int_mul PySem.F.slot_int_rmul repeat_list PySem.F.slot_int_index.lookup
        (call_meets PySem.F.slot_int_rmul (typeIs_int s n t) PySem.F.entry_int_rmul (PySem.F.args_int_rmul_2 _ _) (lm_int_rmul_list_any n t a vs.toArray k dd sl)
          ⟨h1, rfl, ⟨_, h1, rfl⟩, call_meets PySem.F.slot_list_mul ⟨_, h1, rfl⟩ PySem.F.entry_list_mul (PySem.F.args_list_mul_2 _ _)
            (lm_list_mul_any a vs.toArray k dd sl n t (by simp [Builtin.List.listFitsIndex]; omega) (by omega) (by simp [Builtin.List.listTooLong, sizeLine]; simp at hsz; omega)) ⟨h1, ?_⟩⟩)
      rw [listMul_foldl_if]
      exact ⟨.ints new_list (ints_rep hi _) ok.fresh, Rl.ofKeeps I (keeps_push _ _ _)⟩

theorem bop_addS {x y : PySem.Str} (hz : x.length + y.length ≤ 1000000) : Bop X F .Add (.str x) (.str y) (.str (x ++ y)) := fun s u v I _ hu hv E => by
  cases hu; cases hv
  exact PyProof.Rows.add_str (fun t' tk => ⟨.str _ _, rl_tok I _⟩) (Nat.le_trans hz (by decide))

-- ranges
theorem fop_range1 {b : Int} {n : Nat} (h1 : Builtin.Range.rangeSize 0 b 1 = (n : Int)) (h2 : Builtin.Range.small 0 b 1 = true) : Fop X F q (.type "range") [.int b] (.rng (rngL 0 1 n)) := fun s vs E I _ ok i => by
  cases i with
  | cons i1 i2 => cases i1; cases i2; exact call_range_1 ⟨.rng (Heap.get?_push_size _ rfl) h1 h2 ok.fresh, Rl.ofKeeps I (keeps_push _ _ _)⟩
theorem fop_range2 {a b : Int} {n : Nat} (h1 : Builtin.Range.rangeSize a b 1 = (n : Int)) (h2 : Builtin.Range.small a b 1 = true) : Fop X F q (.type "range") [.int a, .int b] (.rng (rngL a 1 n)) := fun s vs E I _ ok i => by
  cases i with
  | cons i1 i2 => cases i2 with
    | cons i2 i3 => cases i1; cases i2; cases i3; exact call_range_2 ⟨.rng (Heap.get?_push_size _ rfl) h1 h2 ok.fresh, Rl.ofKeeps I (keeps_push _ _ _)⟩
theorem fop_range3 {a b c : Int} {n : Nat} (hc : c ≠ 0) (hcs : c.natAbs < 1073741824) (h1 : Builtin.Range.rangeSize a b c = (n : Int)) (h2 : Builtin.Range.small a b c = true) : Fop X F q (.type "range") [.int a, .int b, .int c] (.rng (rngL a c n)) := fun s vs E I _ ok i => by
  cases i with
  | cons i1 i2 => cases i2 with
    | cons i2 i3 => cases i3 with
      | cons i3 i4 => cases i1; cases i2; cases i3; cases i4; exact call_range_3 hc ⟨.rng (Heap.get?_push_size _ rfl) h1 h2 ok.fresh, Rl.ofKeeps I (keeps_push _ _ _)⟩ (.inl (PyProof.noPylong_small hcs))

-- methods of texts
theorem ev_meth {o : Expr} {name : PySem.Str} {apos : Pos} {x : PySem.Str} (ho : EV X F q g o (.str x)) (hp : es.all plainE = true)
    (hm : ∀ (s : Shared) (t : Tok) (E : Value → Shared → Prop), Inv X s → Fits X F s.heap g → MethodOnS X.prog X.w F.A E name (.str x t) pos (es.map fun e => (false, eval e F.env)) (fun v s' => Is F.own s'.heap v d ∧ Rl X q s s') s)
    (hl : es.length < 20) (hbase : attributeBase o name F.env (eval o F.env) = eval o F.env) (hline : (apos.endLine == pos.line) = true) : EV X F q g (.Call (.Attribute o name apos) es [] pos) d := fun s E I f => by
  refine wpAny_Call_method_lateS hbase ?_ hline (ho.then I f fun u s₁ i₁ r₁ I₁ f₁ => ?_)
  · rw [trees_plain _ _ _ hp]
    have e : backToKw pos (keywordEach [] F.env) = [] := rfl
    rw [e]
    have e2 : (es.map fun e => (false, eval e F.env)).all (fun x => !x.1) = true := by simp [List.all_map]
    rw [e2]
    simp only [List.all_nil, Bool.true_and, decide_eq_true_eq, List.length_nil, List.isEmpty_nil, if_true]
    omega
  · rw [trees_plain _ _ _ hp]
    cases i₁ with
    | str _ t =>
      obtain ⟨T, id, pa, slot, hty, hT, hd, hc⟩ := hm s₁ t E I₁ f₁
      exact ⟨T, id, pa, slot, hty, hT, hd, wpAny_mono hc (fun v s₂ x => ⟨x.1, r₁.trans x.2⟩) fun _ _ x => x⟩

theorem ev_lower {o : Expr} {apos : Pos} {x : PySem.Str} (ho : EV X F q g o (.str x)) (hfit : (Txt.lower x).length ≤ 1000000) (hbase : attributeBase o "lower" F.env (eval o F.env) = eval o F.env) (hline : (apos.endLine == pos.line) = true) :
    EV X F q g (.Call (.Attribute o "lower" apos) [] [] pos) (.str (Txt.lower x)) :=
  ev_meth ho rfl (fun s t E I f => SB.lower (by unfold Builtin.Str.tooLong; exact decide_eq_false (Nat.not_lt.mpr (Nat.le_trans hfit (by decide)))) ⟨.str _ _, rl_tok I _⟩) (by decide) hbase hline
theorem ev_upper {o : Expr} {apos : Pos} {x : PySem.Str} (ho : EV X F q g o (.str x)) (hfit : (Txt.upper x).length ≤ 1000000) (hbase : attributeBase o "upper" F.env (eval o F.env) = eval o F.env) (hline : (apos.endLine == pos.line) = true) :
    EV X F q g (.Call (.Attribute o "upper" apos) [] [] pos) (.str (Txt.upper x)) :=
  ev_meth ho rfl (fun s t E I f => SB.upper (by unfold Builtin.Str.tooLong; exact decide_eq_false (Nat.not_lt.mpr (Nat.le_trans hfit (by decide)))) ⟨.str _ _, rl_tok I _⟩) (by decide) hbase hline
theorem ev_rfind {o : Expr} {apos : Pos} {x y : PySem.Str} (ho : EV X F q g o (.str x)) (he : EV X F q g e (.str y)) (hp : plainE e = true) (hbase : attributeBase o "rfind" F.env (eval o F.env) = eval o F.env) (hline : (apos.endLine == pos.line) = true) :
    EV X F q g (.Call (.Attribute o "rfind" apos) [e] [] pos) (.int (Txt.rfind x y)) :=
  ev_meth ho (by simp [hp]) (fun s t E I f => SB.rfind (he.then I f fun v s' i r I' _ => by cases i; exact ⟨_, _, rfl, .int _ _, r.trans (rl_tok I' _)⟩)) (by simp) hbase hline
theorem ev_find {o : Expr} {apos : Pos} {x y : PySem.Str} (ho : EV X F q g o (.str x)) (he : EV X F q g e (.str y)) (hp : plainE e = true) (hbase : attributeBase o "find" F.env (eval o F.env) = eval o F.env) (hline : (apos.endLine == pos.line) = true) :
    EV X F q g (.Call (.Attribute o "find" apos) [e] [] pos) (.int (Txt.find x y)) :=
  ev_meth ho (by simp [hp]) (fun s t E I f => SB.find (he.then I f fun v s' i r I' _ => by cases i; exact ⟨_, _, rfl, .int _ _, r.trans (rl_tok I' _)⟩)) (by simp) hbase hline
theorem ev_index {o : Expr} {apos : Pos} {x y : PySem.Str} {i : Nat} {rest : List Nat} (ho : EV X F q g o (.str x)) (he : EV X F q g e (.str y)) (hp : plainE e = true) (hoc : Builtin.Str.occurrences x y 0 x.length 1 = i :: rest)
    (hbase : attributeBase o "index" F.env (eval o F.env) = eval o F.env) (hline : (apos.endLine == pos.line) = true) : EV X F q g (.Call (.Attribute o "index" apos) [e] [] pos) (.int i) :=
  ev_meth ho (by simp [hp]) (fun s t E I f => SB.index (he.then I f fun v s' i r I' _ => by cases i; exact ⟨_, _, rfl, _, _, hoc, .int _ _, r.trans (rl_tok I' _)⟩)) (by simp) hbase hline
theorem strs_values {vs : List Value} {l : List PySem.Str} (h : StrsAre vs l) : ∃ ps : List (PySem.Str × Tok), vs = strValues ps ∧ ps.map (·.1) = l := by
  induction h with
  | nil => exact ⟨[], rfl, rfl⟩
  | cons y t _ ih => obtain ⟨ps, e1, e2⟩ := ih; exact ⟨(y, t) :: ps, by simp [strValues] at e1 ⊢; exact e1, by simp [e2]⟩
theorem ev_join {o : Expr} {apos : Pos} {x : PySem.Str} {l : List PySem.Str} (ho : EV X F q g o (.str x)) (he : EV X F q g e (.strs l)) (hp : plainE e = true) (hok : JoinOk x l = true)
    (hbase : attributeBase o "join" F.env (eval o F.env) = eval o F.env) (hline : (apos.endLine == pos.line) = true) : EV X F q g (.Call (.Attribute o "join" apos) [e] [] pos) (.str (Txt.join x l)) :=
  ev_meth ho (by simp [hp]) (fun s t E I f => SB.join (he.then I f fun v s' i r I' _ => by
    cases i with
    | «strs» hl hi ho =>
      obtain ⟨ps, rfl, e2⟩ := strs_values hi
      exact ⟨_, ps, rfl, hl, l, e2, hok, fun t' k => ⟨.str _ _, r.trans (rl_tok I' _)⟩⟩)) (by simp) hbase hline
end
end Mine

-- B7
namespace Mine

section
variable {X : Cx} {F : Fx} {q : Bool} {g : List (PySem.Str × D)} {e l r : Expr} {d a b : D} {pos : Pos} {es : List Expr} {ds : List D}

theorem ns_obj' {h : Heap} {L : Addr} {m : PySem.Str → Option Value} (x : h.Ns L m) : ∃ o, h.get? L = some o ∧ ¬ Stable o := by
  obtain ⟨o, es, ep, ho, hd, _⟩ := x
  exact ⟨o, ho, not_stable_dict hd⟩
theorem cell_obj' {h : Heap} {c : Addr} {v : Option Value} (x : h.IsCell c v) : ∃ o, h.get? c = some o ∧ ¬ Stable o := by
  obtain ⟨o, ho, hd⟩ := x
  exact ⟨o, ho, not_stable_cell hd⟩
theorem stable_same {h h' : Heap} {a : Addr} (hs : Heap.SameBut a h h') (ha : ∃ o, h.get? a = some o ∧ ¬ Stable o) (b : Addr) (o : Obj) (st : Stable o) (e : h.get? b = some o) : h'.get? b = some o := by
  obtain ⟨o', ho', hn⟩ := ha
  exact (hs.2 b (ne_of_stable st e ho' hn)).trans e
theorem ns_ne_cell {h : Heap} {L c : Addr} {m : PySem.Str → Option Value} {v : Option Value} (x : h.Ns L m) (y : h.IsCell c v) : L ≠ c := by
  rintro rfl
  obtain ⟨o, es, ep, ho, hd, _⟩ := x
  obtain ⟨o', ho', hd'⟩ := y
  rw [ho] at ho'; cases ho'; rw [hd] at hd'; cases hd'

theorem lookup_cons_eq {α : Type} (g : List (PySem.Str × α)) (x y : PySem.Str) (d : α) : ((x, d) :: g).lookup y = if y = x then some d else g.lookup y := by
  rw [List.lookup_cons]
  by_cases h : y = x
  · subst h; simp
  · rw [beq_eq_false_iff_ne.mpr h, if_neg h]

/-- a store into a name of the frame's -/
theorem store_ok {x : PySem.Str} {v : Value} {Q : Unit → Shared → Prop} {E : Value → Shared → Prop} {s : Shared} (I : Inv X s) (f : Fits X F s.heap g) (hx : F.env.kindOf x = some .local ∨ F.env.kindOf x = some .cell)
    (i : Is F.own s.heap v d)
    (h : ∀ h' tk c, Heap.SameBut c s.heap h' → (c = F.env.locals ∨ F.env.cells.lookup x = some c) → X.H0.get? c = none → (∃ o, s.heap.get? c = some o ∧ ¬ Stable o) → Inv X { s with heap := h', toks := tk } → Fits X F h' ((x, d) :: g) → Q () { s with heap := h', toks := tk }) :
    wpAny (model X.prog X.w) F.A (storeName F.env x v) Q E s := by
  obtain ⟨m, hn, hm⟩ := f.ns
  rcases hx with hx | hx
  · refine wpAny_storeName_local hx hn (fun h' hn' hs => ?_) (by rw [f.kind]; rfl)
    have no := ns_obj' hn
    have st := stable_same hs no
    refine h h' _ F.env.locals hs (.inl rfl) f.fresh no (I.step fun b o hb e => (hs.2 b (by rintro rfl; exact hb f.fresh)).trans e) ?_
    refine { f with ns := ⟨_, hn', fun y d' hy hl => ?_⟩, cell := fun y c hc => ?_, live := fun a0 ha => ?_ }
    · rw [lookup_cons_eq] at hy
      split at hy
      · rename_i e; cases hy; exact ⟨v, by simp [e], i.mono st⟩
      · rename_i e; obtain ⟨w, h1, h2⟩ := hm y d' hy hl; exact ⟨w, by simp [e, h1], h2.mono st⟩
    · obtain ⟨h0, ov, hcell, r⟩ := f.cell y c hc
      refine ⟨h0, ov, hcell.sameBut hs (Ne.symm (ns_ne_cell hn hcell)), fun d' hd' hk => ?_⟩
      rw [lookup_cons_eq] at hd'
      split at hd'
      · rename_i e; subst e; rw [hx] at hk; cases hk
      · obtain ⟨w, h1, h2⟩ := r d' hd' hk; exact ⟨w, h1, h2.mono st⟩
    · obtain ⟨h0, its, hl⟩ := f.live a0 ha
      obtain ⟨o, ho, hst, hc, hn2⟩ := list_stable hl
      exact ⟨h0, its, o, st _ _ hst ho, hc, hn2⟩
  · obtain ⟨c, hc⟩ := f.has x hx
    obtain ⟨h0, ov, hcell, r⟩ := f.cell x c hc
    refine wpAny_storeName_cell f.kind hx hc hcell fun h' hc' hs => ?_
    have no := cell_obj' hcell
    have st := stable_same hs no
    refine h h' s.toks c hs (.inr hc) h0 no (I.step fun b o hb e => (hs.2 b (by rintro rfl; exact hb h0)).trans e) ?_
    refine { f with ns := ⟨m, hn.sameBut hs (ns_ne_cell hn hcell), fun y d' hy hl => ?_⟩, cell := fun y c2 hc2 => ?_, live := fun a0 ha => ?_ }
    · rw [lookup_cons_eq] at hy
      split at hy
      · rename_i e; subst e; rw [hx] at hl; cases hl
      · obtain ⟨w, h1, h2⟩ := hm y d' hy hl; exact ⟨w, h1, h2.mono st⟩
    · by_cases hyx : y = x
      · subst hyx
        rw [hc] at hc2; cases hc2
        refine ⟨h0, some v, hc', fun d' hd' hk => ⟨v, rfl, ?_⟩⟩
        rw [lookup_cons_eq, if_pos rfl] at hd'
        cases hd'; exact i.mono st
      · obtain ⟨h02, ov2, hcell2, r2⟩ := f.cell y c2 hc2
        have hne : c2 ≠ c := by rintro rfl; exact hyx (f.apart _ _ _ hc2 hc)
        refine ⟨h02, ov2, hcell2.sameBut hs hne, fun d' hd' hk => ?_⟩
        rw [lookup_cons_eq, if_neg hyx] at hd'
        obtain ⟨w, h1, h2⟩ := r2 d' hd' hk; exact ⟨w, h1, h2.mono st⟩
    · obtain ⟨h0, its, hl⟩ := f.live a0 ha
      obtain ⟨o, ho, hst, hc, hn2⟩ := list_stable hl
      exact ⟨h0, its, o, st _ _ hst ho, hc, hn2⟩

/-- where a statement may write -/
def Chg (F : Fx) (b : Addr) : Prop := b = F.env.locals ∨ (∃ y, F.env.cells.lookup y = some b) ∨ F.own = some b
def SRl (X : Cx) (F : Fx) (s s' : Shared) : Prop := Inv X s' ∧ ∀ b o, b ≠ X.P → ¬ Chg F b → s.heap.get? b = some o → s'.heap.get? b = some o
theorem SRl.refl {s : Shared} (I : Inv X s) : SRl X F s s := ⟨I, fun _ _ _ _ e => e⟩
theorem SRl.trans {s s' s'' : Shared} (a : SRl X F s s') (b : SRl X F s' s'') : SRl X F s s'' := ⟨b.1, fun x o h1 h2 e => b.2 x o h1 h2 (a.2 x o h1 h2 e)⟩
theorem SRl.of {s s' : Shared} (a : Rl X q s s') : SRl X F s s' := ⟨a.1, fun x o h1 _ e => a.2.1 x o h1 e⟩

inductive Out where
  | next (g : List (PySem.Str × D))
  | ret (d : D)
def OutOk (X : Cx) (F : Fx) (fl : Flow) (s : Shared) : Out → Prop
  | .next g => fl = .next ∧ Fits X F s.heap g
  | .ret d => ∃ v, fl = .ret v ∧ Is F.own s.heap v d

def SX (X : Cx) (F : Fx) (g : List (PySem.Str × D)) (ss : List Stmt) (o : Out) : Prop :=
  ∀ (s : Shared) (E : Value → Shared → Prop), Inv X s → Fits X F s.heap g → wpAny (model X.prog X.w) F.A (execs ss F.env) (fun fl s' => OutOk X F fl s' o ∧ SRl X F s s') E s
def S1 (X : Cx) (F : Fx) (g : List (PySem.Str × D)) (st : Stmt) (o : Out) : Prop :=
  ∀ (s : Shared) (E : Value → Shared → Prop), Inv X s → Fits X F s.heap g → wpAny (model X.prog X.w) F.A (exec st F.env) (fun fl s' => OutOk X F fl s' o ∧ SRl X F s s') E s

variable {o : Out} {st : Stmt} {ss : List Stmt} {g' : List (PySem.Str × D)}
theorem sx_nil : SX X F g [] (.next g) := fun s E I f => wpAny_execs_nil ⟨⟨rfl, f⟩, SRl.refl I⟩
theorem sx_cons (h : S1 X F g st (.next g')) (hs : SX X F g' ss o) : SX X F g (st :: ss) o := fun s E I f =>
  wpAny_execs_cons (wpAny_mono (h s E I f) (fun fl s' x => by
    obtain ⟨⟨rfl, f'⟩, r⟩ := x
    exact wpAny_mono (hs s' E r.1 f') (fun fl s'' x => ⟨x.1, r.trans x.2⟩) fun _ _ x => x) fun _ _ x => x)
theorem sx_ret (h : S1 X F g st (.ret d)) : SX X F g (st :: ss) (.ret d) := fun s E I f =>
  wpAny_execs_cons (wpAny_mono (h s E I f) (fun fl s' x => by
    obtain ⟨⟨v, rfl, i⟩, r⟩ := x
    exact ⟨⟨v, rfl, i⟩, r⟩) fun _ _ x => x)
theorem sx_sub (h : SX X F g' ss o) (hs : ∀ y d, g'.lookup y = some d → g.lookup y = some d) : SX X F g ss o := fun s E I f => h s E I (f.sub hs)
theorem S1.sub (h : S1 X F g' st o) (hs : ∀ y d, g'.lookup y = some d → g.lookup y = some d) : S1 X F g st o := fun s E I f => h s E I (f.sub hs)
theorem sx_post (h : SX X F g ss (.next g')) {g'' : List (PySem.Str × D)} (hs : ∀ y d, g''.lookup y = some d → g'.lookup y = some d) : SX X F g ss (.next g'') := fun s E I f =>
  wpAny_mono (h s E I f) (fun fl s' x => ⟨⟨x.1.1, x.1.2.sub hs⟩, x.2⟩) fun _ _ x => x
theorem S1.post (h : S1 X F g st (.next g')) {g'' : List (PySem.Str × D)} (hs : ∀ y d, g''.lookup y = some d → g'.lookup y = some d) : S1 X F g st (.next g'') := fun s E I f =>
  wpAny_mono (h s E I f) (fun fl s' x => ⟨⟨x.1.1, x.1.2.sub hs⟩, x.2⟩) fun _ _ x => x

theorem s1_assign {x : PySem.Str} {px : Pos} (he : EV X F false g e d) (hx : F.env.kindOf x = some .local ∨ F.env.kindOf x = some .cell) (hs : swapsWith e (some (.Name x px)) pos.line F.env = pure false) :
    S1 X F g (.Assign [.Name x px] e pos) (.next ((x, d) :: g)) := fun s E I f =>
  wpAny_Assign_Name (he.then I f fun v s₁ i r I₁ f₁ => store_ok I₁ f₁ hx i fun h' tk c hs' hc h0 _ I₂ f₂ => ⟨⟨rfl, f₂⟩, I₂, fun b o hb hn e => (hs'.2 b (by
    rintro rfl
    rcases hc with rfl | hc
    · exact hn (.inl rfl)
    · exact hn (.inr (.inl ⟨_, hc⟩)))).trans (r.2.1 b o hb e)⟩) hs

theorem s1_aug {x : PySem.Str} {px : Pos} {op : Operator} (hx : F.env.kindOf x = some .local) (hg : g.lookup x = some a) (he : EV X F false g e b) (ho : Iop X F op a b d) :
    S1 X F g (.AugAssign (.Name x px) op e pos) (.next ((x, d) :: g)) := fun s E I f => by
  obtain ⟨m, hn, hm⟩ := f.ns
  obtain ⟨v, hv, hi⟩ := hm x a hg hx
  refine wpAny_AugAssign_Name (wpAny_loadName_local f.kind hx hn hv (he.then I f fun w s₁ i r I₁ f₁ => ?_))
  refine wpAny_mono (ho s₁ v w I₁ f.rm (r.is I hi) i E) (fun u s₂ y => ?_) fun _ _ x => x
  obtain ⟨iu, r₂⟩ := y
  refine store_ok r₂.inv (f₁.rl I₁ r₂) (.inl hx) iu fun h' tk c hs' hc h0 _ I₂ f₂ => ⟨⟨rfl, f₂⟩, I₂, fun b o hb hn e => (hs'.2 b (by
    rintro rfl
    rcases hc with rfl | hc
    · exact hn (.inl rfl)
    · exact hn (.inr (.inl ⟨_, hc⟩)))).trans (r₂.2.1 b o hb (r.2.1 b o hb e))⟩

theorem s1_if {t : Expr} {c : Bool} {bd el : List Stmt} (ht : TV X F false g t c) (h1 : c = true → SX X F g bd o) (h2 : c = false → SX X F g el o) : S1 X F g (.If t bd el pos) o := fun s E I f =>
  wpAny_If (ht.then I f fun s₁ r I₁ f₁ => by
    cases c with
    | true => exact wpAny_mono (h1 rfl s₁ E I₁ f₁) (fun _ _ x => ⟨x.1, (SRl.of r).trans x.2⟩) fun _ _ x => x
    | false => exact wpAny_mono (h2 rfl s₁ E I₁ f₁) (fun _ _ x => ⟨x.1, (SRl.of r).trans x.2⟩) fun _ _ x => x)
theorem s1_return (he : EV X F false g e d) : S1 X F g (.Return (some e) pos) (.ret d) := fun s E I f =>
  wpAny_Return_some (he.then I f fun v s₁ i r _ _ => ⟨⟨v, rfl, i⟩, SRl.of r⟩)
end
end Mine

-- B8
namespace Mine

/-- a value and its datum, where no heap is asked -/
inductive Sc : Value → D → Prop
  | none : Sc .none .none
  | bool (b : Bool) : Sc (.bool b) (.bool b)
  | int (i : Int) (t : Tok) : Sc (.int i t) (.int i)
  | str (x : PySem.Str) (t : Tok) : Sc (.str x t) (.str x)
theorem Sc.is {v : Value} {d : D} (h : Sc v d) (own : Option Addr) (hp : Heap) : Is own hp v d := by
  cases h with
  | none => exact .none
  | bool b => exact .bool b
  | int i t => exact .int i t
  | str x t => exact .str x t
def D.sc : D → Bool
  | .none | .bool _ | .int _ | .str _ => true
  | _ => false
theorem Is.sc {own : Option Addr} {h : Heap} {v : Value} {d : D} (i : Is own h v d) (hs : d.sc = true) : Sc v d := by
  cases i with
  | none => exact .none
  | bool b => exact .bool b
  | int i t => exact .int i t
  | str x t => exact .str x t
  | _ => cases hs

/-- what a loop takes from it, item by item -/
inductive Items : D → List D → Prop
  | ints (l : List Int) : Items (.ints l) (l.map .int)
  | strs (l : List PySem.Str) : Items (.strs l) (l.map .str)
  | rng (l : List Int) : Items (.rng l) (l.map .int)
  | str (x : PySem.Str) : Items (.str x) ((signs x).map .str)
  | tup (ds : List D) : ds.all D.sc = true → Items (.tup ds) ds

theorem walks_imp {prog : Program} {w : World} {A : Around} {I : Addr} {fp wr : List Addr} {n : Nat} {P P' : Nat → Value → Prop} {St : Nat → Heap → Prop} (W : Walks prog w A I fp wr n P St) (h : ∀ i v, P i v → P' i v) : Walks prog w A I fp wr n P' St :=
  ⟨W.sub, W.frame, fun i s Q E hi st k => W.item i s Q E hi st fun v h' tk hp => k v h' tk (h i v hp), W.done, W.self⟩
theorem walks_len {prog : Program} {w : World} {A : Around} {I : Addr} {fp wr : List Addr} {n m : Nat} {P : Nat → Value → Prop} {St : Nat → Heap → Prop} (W : Walks prog w A I fp wr n P St) (h : n = m) : Walks prog w A I fp wr m P St := h ▸ W

theorem cls_not_stable {o : Obj} {T : String} (h : o.cls = .type T) (h1 : T ≠ "list") (h2 : T ≠ "tuple") (h3 : T ≠ "range") : ¬ Stable o := fun x => by
  rcases x.1 with e | e | e <;> rw [h] at e <;> simp at e <;> contradiction

section
variable {X : Cx} {F : Fx} {q : Bool} {g : List (PySem.Str × D)} {e l r : Expr} {d a b : D} {pos : Pos} {es : List Expr} {ds : List D}

/-- an iterator at hand: its walk, its places -/
structure It (X : Cx) (F : Fx) (h0 : Heap) (I : Addr) (ds : List D) (h1 : Heap) : Prop where
  walk : ∃ fp St, (∀ A' : Around, A'.handled = none → Walks X.prog X.w A' I fp [I] ds.length (fun j v => ∃ d, ds[j]? = some d ∧ Sc v d) St) ∧ St 0 h1 ∧
    (∀ b ∈ fp, b = I ∨ ∃ ob, h0.get? b = some ob ∧ Stable ob ∧ F.own ≠ some b) ∧ ∀ j h, St j h → ∃ o, h.get? I = some o ∧ ¬ Stable o

theorem ints_at {vs : List Value} {l : List Int} (h : IntsAre vs l) {j : Nat} {v : Value} (e : vs[j]? = some v) : ∃ d, (l.map D.int)[j]? = some d ∧ Sc v d := by
  obtain ⟨n, t, rfl, hn⟩ := IntsAre.at h j v e
  exact ⟨.int n, by simp [hn], .int n t⟩
theorem strs_at {vs : List Value} {l : List PySem.Str} (h : StrsAre vs l) {j : Nat} {v : Value} (e : vs[j]? = some v) : ∃ d, (l.map D.str)[j]? = some d ∧ Sc v d := by
  obtain ⟨n, t, rfl, hn⟩ := StrsAre.item h j v e
  exact ⟨.str n, by simp [hn], .str n t⟩
theorem all_at {own : Option Addr} {h : Heap} : ∀ {vs : List Value} {ds : List D}, IsAll own h vs ds → ds.all D.sc = true → ∀ {j : Nat} {v : Value}, vs[j]? = some v → ∃ d, ds[j]? = some d ∧ Sc v d
  | _, _, .nil, _, j, v, e => by simp at e
  | _, _, .cons r rs, hs, 0, v, e => by simp only [List.all_cons, Bool.and_eq_true] at hs; simp at e; subst e; exact ⟨_, by simp, r.sc hs.1⟩
  | _, _, .cons r rs, hs, j + 1, v, e => by simp only [List.all_cons, Bool.and_eq_true] at hs; simpa using all_at rs hs.2 (by simpa using e)

theorem iter_of {s : Shared} {v : Value} {Q : Value → Shared → Prop} {E : Value → Shared → Prop} (i : Is F.own s.heap v d) (hi : Items d ds)
    (k : ∀ o, It X F s.heap s.heap.objs.size ds (s.heap.push o) → Q (.ref s.heap.objs.size) { s with heap := s.heap.push o }) : wpAny (model X.prog X.w) F.A (pyIter v) Q E s := by
  have lt : ∀ {a : Addr} {o : Obj}, s.heap.get? a = some o → a ≠ s.heap.objs.size := fun e => Nat.ne_of_lt (Heap.lt_size e)
  cases hi with
  | «ints» l =>
    cases i with
    | «ints» hl hv ho =>
      rename_i a vs
      obtain ⟨ob, hob, hst, _⟩ := list_stable hl
      refine wpAny_pyIter_list hl (k _ ⟨[s.heap.objs.size, a], _, fun A' hA => walks_len (walks_imp (Walks.list hA _ a (lt hob) vs.toArray) fun j v e => ints_at hv (by simpa using e)) (by simp [IntsAre.len hv]), ⟨⟨_, Heap.get?_push_size _ rfl, rfl, rfl⟩, hl.push _⟩, ?_, ?_⟩)
      · intro b hb
        rcases List.mem_cons.mp hb with rfl | hb
        · exact .inl rfl
        · rcases List.mem_cons.mp hb with rfl | hb
          · exact .inr ⟨ob, hob, hst, ho⟩
          · cases hb
      · rintro j h ⟨⟨o, ho', hc, _⟩, _⟩
        exact ⟨o, ho', cls_not_stable hc (by decide) (by decide) (by decide)⟩
  | «strs» l =>
    cases i with
    | «strs» hl hv ho =>
      rename_i a vs
      obtain ⟨ob, hob, hst, _⟩ := list_stable hl
      refine wpAny_pyIter_list hl (k _ ⟨[s.heap.objs.size, a], _, fun A' hA => walks_len (walks_imp (Walks.list hA _ a (lt hob) vs.toArray) fun j v e => strs_at hv (by simpa using e)) (by simp [StrsAre.len hv]), ⟨⟨_, Heap.get?_push_size _ rfl, rfl, rfl⟩, hl.push _⟩, ?_, ?_⟩)
      · intro b hb
        rcases List.mem_cons.mp hb with rfl | hb
        · exact .inl rfl
        · rcases List.mem_cons.mp hb with rfl | hb
          · exact .inr ⟨ob, hob, hst, ho⟩
          · cases hb
      · rintro j h ⟨⟨o, ho', hc, _⟩, _⟩
        exact ⟨o, ho', cls_not_stable hc (by decide) (by decide) (by decide)⟩
  | tup ds hsc =>
    cases i with
    | tup hl hv ho =>
      rename_i a vs
      obtain ⟨ob, hob, hst, _⟩ := tup_stable hl
      refine wpAny_pyIter_tuple hl (k _ ⟨[s.heap.objs.size, a], _, fun A' hA => walks_len (walks_imp (Walks.tuple hA _ a (lt hob) vs.toArray) fun j v e => all_at hv hsc (by simpa using e)) (by simp [all_len hv]), ⟨⟨_, Heap.get?_push_size _ rfl, rfl, rfl⟩, Heap.IsTuple.push hl _⟩, ?_, ?_⟩)
      · intro b hb
        rcases List.mem_cons.mp hb with rfl | hb
        · exact .inl rfl
        · rcases List.mem_cons.mp hb with rfl | hb
          · exact .inr ⟨ob, hob, hst, ho⟩
          · cases hb
      · rintro j h ⟨⟨o, ho', hc, _⟩, _⟩
        exact ⟨o, ho', cls_not_stable hc (by decide) (by decide) (by decide)⟩
  | rng l =>
    cases i with
    | rng hr hn hsm ho =>
      rename_i rr a b c t u v n
      refine wpAny_pyIter_range hr hsm (k _ ⟨[s.heap.objs.size], _, fun A' hA => walks_len (walks_imp (Walks.bound (Walks.range hA _ a c n)) fun j v e => ?_) (by simp [rngL]), ?_, ?_, ?_⟩)
      · obtain ⟨hj, t, rfl⟩ := e
        exact ⟨.int (a + (j : Int) * c), by simp [rngL, hj], .int _ _⟩
      · show IsRangeIter _ _ _ _ _
        rw [hn]
        simp only [Int.natCast_zero, Int.zero_mul, Int.add_zero, Int.sub_zero]
        exact Heap.get?_push_size _ rfl
      · intro b hb
        rcases List.mem_cons.mp hb with rfl | hb
        · exact .inl rfl
        · cases hb
      · intro j h hst
        exact ⟨_, hst, cls_not_stable rfl (by decide) (by decide) (by decide)⟩
  | str x =>
    cases i with
    | str _ t =>
      refine wpAny_pyIter_strU (k _ ⟨[s.heap.objs.size], fun j h => h.IsStrIter s.heap.objs.size (strIterType x) x t j, fun A' hA => ?_, ?_, ?_, ?_⟩)
      · have hP : ∀ j v, SignAt x j v → ∃ d, ((signs x).map D.str)[j]? = some d ∧ Sc v d := by
          rintro j v ⟨c, u, hc, rfl⟩
          exact ⟨.str ⟨#[c]⟩, by simp [signs_at hc], .str _ _⟩
        have hlen : x.cps.size = ((signs x).map D.str).length := by rw [List.length_map, signs_length]; rfl
        unfold strIterType
        split
        · exact walks_len (walks_imp (Walks.strAscii hA _ x t) hP) hlen
        · exact walks_len (walks_imp (Walks.strWide hA _ x t) hP) hlen
      · exact ⟨_, Heap.get?_push_size _ rfl, rfl, rfl⟩
      · intro b hb
        rcases List.mem_cons.mp hb with rfl | hb
        · exact .inl rfl
        · cases hb
      · rintro j h ⟨o, ho', hc, _⟩
        refine ⟨o, ho', ?_⟩
        unfold strIterType at hc
        split at hc <;> exact cls_not_stable hc (by decide) (by decide) (by decide)
end
end Mine

-- B9
namespace Mine

section
variable {X : Cx} {F : Fx} {q : Bool} {g g' : List (PySem.Str × D)} {e l r : Expr} {d a b : D} {pos : Pos} {es : List Expr} {ds : List D} {o : Out}

theorem Fits.lt_locals {h : Heap} (f : Fits X F h g) : ∃ o, h.get? F.env.locals = some o := by
  obtain ⟨m, ⟨o, _, _, ho, _⟩, _⟩ := f.ns
  exact ⟨o, ho⟩
theorem Fits.lt_cell {h : Heap} (f : Fits X F h g) {y : PySem.Str} {c : Addr} (hc : F.env.cells.lookup y = some c) : ∃ o, h.get? c = some o := by
  obtain ⟨_, ov, ⟨o, ho, _⟩, _⟩ := f.cell y c hc
  exact ⟨o, ho⟩
theorem Fits.lt_own {h : Heap} (f : Fits X F h g) {c : Addr} (hc : F.own = some c) : ∃ o, h.get? c = some o := by
  obtain ⟨_, its, o, ho, _⟩ := f.live c hc
  exact ⟨o, ho⟩
/-- an address that was free is nobody's -/
theorem Fits.not_chg {h : Heap} (f : Fits X F h g) {I : Addr} (hI : h.get? I = none) : ¬ Chg F I := by
  rintro (rfl | ⟨y, hy⟩ | hy)
  · obtain ⟨o, ho⟩ := f.lt_locals; rw [hI] at ho; cases ho
  · obtain ⟨o, ho⟩ := f.lt_cell hy; rw [hI] at ho; cases ho
  · obtain ⟨o, ho⟩ := f.lt_own hy; rw [hI] at ho; cases ho
theorem Fits.but {h h' : Heap} {I : Addr} (x : Fits X F h g) (hk : ∀ b o, b ≠ X.P → b ≠ I → h.get? b = some o → h'.get? b = some o) (hI : ∃ o, h.get? I = some o ∧ ¬ Stable o) (hn : ¬ Chg F I)
    (hP : ∃ ps, h.get? X.P = some { cls := .none, data := .fields ps }) : Fits X F h' g := by
  obtain ⟨ps, hp⟩ := hP
  obtain ⟨oI, hoI, hnI⟩ := hI
  have st : ∀ b o, Stable o → h.get? b = some o → h'.get? b = some o := fun b o hs e => hk b o (by rintro rfl; rw [hp] at e; cases e; exact hs.ne rfl) (ne_of_stable hs e hoI hnI) e
  refine { x with ns := ?_, cell := ?_, live := ?_ }
  · obtain ⟨m, hn', hm⟩ := x.ns
    refine ⟨m, ?_, fun y d hy hl => let ⟨v, h1, h2⟩ := hm y d hy hl; ⟨v, h1, h2.mono st⟩⟩
    obtain ⟨o, es, ep, ho, hd, r⟩ := hn'
    exact ⟨o, es, ep, hk _ _ (by intro e; rw [e, hp] at ho; cases ho; cases hd) (fun e => hn (.inl e.symm)) ho, hd, r⟩
  · intro y c hc
    obtain ⟨h0, ov, ⟨o, ho, hd⟩, r⟩ := x.cell y c hc
    exact ⟨h0, ov, ⟨o, hk _ _ (by rintro rfl; rw [hp] at ho; cases ho; cases hd) (by rintro rfl; exact hn (.inr (.inl ⟨y, hc⟩))) ho, hd⟩, fun d hd' hk' => let ⟨v, h1, h2⟩ := r d hd' hk'; ⟨v, h1, h2.mono st⟩⟩
  · intro a ha
    obtain ⟨h0, its, hl⟩ := x.live a ha
    obtain ⟨o, ho, hs, hc, hn'⟩ := list_stable hl
    exact ⟨h0, its, o, st _ _ hs ho, hc, hn'⟩

inductive FL (X : Cx) (F : Fx) (x : PySem.Str) (body : List Stmt) : List (PySem.Str × D) → List D → Out → Prop
  | nil {g g' : List (PySem.Str × D)} : (∀ y d, g'.lookup y = some d → g.lookup y = some d) → FL X F x body g [] (.next g')
  | cons {g g1 : List (PySem.Str × D)} {d : D} {ds : List D} {o : Out} : SX X F ((x, d) :: g) body (.next g1) → FL X F x body g1 ds o → FL X F x body g (d :: ds) o
  | stop {g : List (PySem.Str × D)} {d r : D} {ds : List D} : SX X F ((x, d) :: g) body (.ret r) → FL X F x body g (d :: ds) (.ret r)

theorem s1_for {x : PySem.Str} {px : Pos} {iter : Expr} {body : List Stmt} (he : EV X F false g iter d) (hi : Items d ds) (hx : F.env.kindOf x = some .local ∨ F.env.kindOf x = some .cell) (hb : FL X F x body g ds o)
    (hs : ∀ v, foldedSetIterable iter F.env v = pure v) (ht : ∀ I v, letOwnedTupleGo (.Name x px) (.ref I) v = pure ()) : S1 X F g (.For (.Name x px) iter body [] pos) o := fun s E I f => by
  refine wpAny_For (he.then I f fun v s₁ i r I₁ f₁ => iter_of i hi fun ob It => ?_) hs
  obtain ⟨fp, St, W, hst, hfp, hobj⟩ := It.walk
  generalize hJ : s₁.heap.objs.size = J at *
  have hJn : s₁.heap.get? J = none := by rw [← hJ]; exact fresh_none _
  have hJ0 : X.H0.get? J = none := by
    cases h0 : X.H0.get? J with
    | none => rfl
    | some o' =>
      by_cases hP : J = X.P
      · obtain ⟨ps, hp⟩ := I₁.tab; rw [← hP, hJn] at hp; cases hp
      · rw [I₁.old hP h0] at hJn; cases hJn
  have hnc : ¬ Chg F J := f₁.not_chg hJn
  have hJP : J ≠ X.P := I₁.ne_P hJ0
  have K := keeps_push s₁ ob s₁.toks
  have I₂ := I₁.keeps K
  have f₂ : Fits X F (s₁.heap.push ob) g := f₁.mono (fun b o _ e => Heap.get?_push_of_some _ e) I₁.tab
  -- the loop
  have main : ∀ (n : Nat) (s' : Shared), (∃ j g₁, n = ds.length + 1 - j ∧ j ≤ ds.length ∧ St j s'.heap ∧ Inv X s' ∧ Fits X F s'.heap g₁ ∧ FL X F x body g₁ (ds.drop j) o ∧
      (∀ b o, b ≠ X.P → b ≠ J → ¬ Chg F b → (s₁.heap.push ob).get? b = some o → s'.heap.get? b = some o)) →
      wpAny (model X.prog X.w) F.A (pyNext (.ref J)) (fun r s₁' => match r with
        | none => wpAny (model X.prog X.w) F.A (execs [] F.env) (fun fl s₃ => (match (Except.ok fl : Result) with | .ok fl => OutOk X F fl s₃ o ∧ SRl X F s s₃ | .error e => cameBackBy (model X.prog X.w) F.A F.env E e s₃)) (notedBy (model X.prog X.w) F.A F.env fun e s' => cameBackBy (model X.prog X.w) F.A F.env E e s') s₁'
        | some v => wpAny (model X.prog X.w) F.A (assign (.Name x px) F.env v) (fun _ s₂ => wpAny (model X.prog X.w) F.A (execs body F.env) (fun fl s₃ => match fl with
            | .next | .cont => ∃ m, m < n ∧ (∃ j g₁, m = ds.length + 1 - j ∧ j ≤ ds.length ∧ St j s₃.heap ∧ Inv X s₃ ∧ Fits X F s₃.heap g₁ ∧ FL X F x body g₁ (ds.drop j) o ∧
                (∀ b o, b ≠ X.P → b ≠ J → ¬ Chg F b → (s₁.heap.push ob).get? b = some o → s₃.heap.get? b = some o))
            | .brk => OutOk X F .next s₃ o ∧ SRl X F s s₃
            | .ret v => OutOk X F (.ret v) s₃ o ∧ SRl X F s s₃) (notedBy (model X.prog X.w) F.A F.env fun e s' => cameBackBy (model X.prog X.w) F.A F.env E e s') s₂)
            (notedBy (model X.prog X.w) F.A F.env fun e s' => cameBackBy (model X.prog X.w) F.A F.env E e s') s₁')
        (notedBy (model X.prog X.w) F.A F.env fun e s' => cameBackBy (model X.prog X.w) F.A F.env E e s') s' := by
    rintro n s' ⟨j, g₁, rfl, hj, hst', I', f', hfl, hk⟩
    have srl : ∀ {h' : Heap} {s₃ : Shared}, Inv X s₃ → s₃.heap = h' → (∀ b o, b ≠ X.P → b ≠ J → ¬ Chg F b → s'.heap.get? b = some o → h'.get? b = some o) → SRl X F s s₃ := fun {h' s₃} I₃ e hk' => by
      subst e
      refine ⟨I₃, fun b o hb hn eb => hk' b o hb ?_ hn (hk b o hb ?_ hn (Heap.get?_push_of_some _ (r.2.1 b o hb eb)))⟩
      all_goals (rintro rfl; have := r.2.1 _ o hb eb; rw [hJn] at this; cases this)
    by_cases hlt : j < ds.length
    · refine (W F.A f.rm.handled).item j s' _ _ hlt hst' fun v h' tk hv hst₃ hk₃ => ?_
      obtain ⟨dv, hdv, hsc⟩ := hv
      have hJs := hobj j _ hst'
      have I₃ : Inv X { s' with heap := h', toks := tk } := I'.step fun b o hb e => hk₃ b o (by intro hm; rw [List.mem_singleton.mp hm] at hb; exact hb hJ0) e
      have f₃ : Fits X F h' g₁ := f'.but (fun b o _ hb e => hk₃ b o (by simpa using hb) e) hJs hnc I'.tab
      refine wpAny_assign_Name (store_ok (F := F) (s := { s' with heap := h', toks := tk }) I₃ f₃ hx (hsc.is F.own h') fun h₄ tk₄ c hs₄ hc h0 hno I₄ f₄ => ?_)
      have hcC : Chg F c := by
        rcases hc with rfl | hc
        · exact .inl rfl
        · exact .inr (.inl ⟨_, hc⟩)
      have hdrop : ds.drop j = dv :: ds.drop (j + 1) := by
        rw [List.drop_eq_getElem_cons hlt]
        rw [List.getElem?_eq_getElem hlt] at hdv
        rw [Option.some.inj hdv]
      rw [hdrop] at hfl
      have stW : ∀ {h1 h2 : Heap} {k : Nat}, St k h1 → (∀ b o, b ≠ X.P → ¬ Chg F b → h1.get? b = some o → h2.get? b = some o) → (∀ b ob', s₁.heap.get? b = some ob' → Stable ob' → F.own ≠ some b → ¬ Chg F b) → St k h2 := fun {h1 h2 k} hk1 hk2 hs2 => by
        refine (W F.A f.rm.handled).frame _ _ _ hk1 fun b hb o e => hk2 b o ?_ ?_ e
        · rcases hfp b hb with rfl | ⟨ob', hob', hst', _⟩
          · exact hJP
          · rintro rfl; obtain ⟨ps, hp⟩ := I₁.tab; rw [hp] at hob'; cases hob'; exact hst'.ne rfl
        · rcases hfp b hb with rfl | ⟨ob', hob', hst', hown⟩
          · exact hnc
          · exact hs2 b ob' hob' hst' hown
      have notc : ∀ b ob', s₁.heap.get? b = some ob' → Stable ob' → F.own ≠ some b → ¬ Chg F b := by
        rintro b ob' hob' hst' hown (rfl | ⟨y, hy⟩ | hy)
        · obtain ⟨m, hn, _⟩ := f₁.ns
          obtain ⟨o2, ho2, hn2⟩ := ns_obj' hn
          exact ne_of_stable hst' hob' ho2 hn2 rfl
        · obtain ⟨_, ov, hcell, _⟩ := f₁.cell y b hy
          obtain ⟨o2, ho2, hn2⟩ := cell_obj' hcell
          exact ne_of_stable hst' hob' ho2 hn2 rfl
        · exact hown hy
      have hst₄ : St (j + 1) h₄ := stW hst₃ (fun b o _ hn e => (hs₄.2 b (by rintro rfl; exact hn hcC)).trans e) notc
      cases hfl with
      | cons hbody hrest =>
        refine wpAny_mono (hbody _ _ I₄ f₄) (fun fl s₅ x => ?_) fun _ _ x => x
        obtain ⟨⟨rfl, f₅⟩, r₅⟩ := x
        refine ⟨ds.length + 1 - (j + 1), by omega, j + 1, _, rfl, hlt, stW hst₄ r₅.2 notc, r₅.1, f₅, hrest, fun b o hb hbJ hn e => ?_⟩
        exact r₅.2 b o hb hn ((hs₄.2 b (by rintro rfl; exact hn hcC)).trans (hk₃ b o (by simpa using hbJ) (hk b o hb hbJ hn e)))
      | stop hbody =>
        refine wpAny_mono (hbody _ _ I₄ f₄) (fun fl s₅ x => ?_) fun _ _ x => x
        obtain ⟨⟨v5, rfl, i₅⟩, r₅⟩ := x
        refine ⟨⟨v5, rfl, i₅⟩, srl r₅.1 rfl fun b o hb hbJ hn e => ?_⟩
        exact r₅.2 b o hb hn ((hs₄.2 b (by rintro rfl; exact hn hcC)).trans (hk₃ b o (by simpa using hbJ) e))
    · obtain rfl : j = ds.length := Nat.le_antisymm hj (Nat.not_lt.mp hlt)
      refine (W F.A f.rm.handled).done s' _ _ hst' fun h' tk hk₃ => ?_
      have hJs := hobj _ _ hst'
      have I₃ : Inv X { s' with heap := h', toks := tk } := I'.step fun b o hb e => hk₃ b o (by intro hm; rw [List.mem_singleton.mp hm] at hb; exact hb hJ0) e
      have f₃ : Fits X F h' g₁ := f'.but (fun b o _ hb e => hk₃ b o (by simpa using hb) e) hJs hnc I'.tab
      rw [List.drop_length] at hfl
      cases hfl with
      | nil hsub => exact wpAny_execs_nil ⟨⟨rfl, f₃.sub hsub⟩, srl I₃ rfl fun b o _ hbJ _ e => hk₃ b o (by simpa using hbJ) e⟩
  exact codeAny_forLoop _ main (ds.length + 1) ⟨0, g, rfl, Nat.zero_le _, hst, I₂, f₂, by simpa using hb, fun _ _ _ _ _ e => e⟩ (ht J)

inductive WL (X : Cx) (F : Fx) (test : Expr) (body : List Stmt) : Nat → List (PySem.Str × D) → Out → Prop
  | done {n : Nat} {g : List (PySem.Str × D)} : TV X F false g test false → WL X F test body n g (.next g)
  | step {n : Nat} {g g1 : List (PySem.Str × D)} {o : Out} : TV X F false g test true → SX X F g body (.next g1) → WL X F test body n g1 o → WL X F test body (n + 1) g o

theorem s1_while {n : Nat} {test : Expr} {body : List Stmt} (hw : WL X F test body n g o) : S1 X F g (.While test body [] pos) o := fun s E I f => by
  refine wpAny_While ?_
  refine codeAny_whileLoop (fun k s' => ∃ g₁, Inv X s' ∧ Fits X F s'.heap g₁ ∧ WL X F test body k g₁ o ∧ SRl X F s s') ?_ n ⟨g, I, f, hw, SRl.refl I⟩
  rintro k s' ⟨g₁, I', f', hw', r'⟩
  cases hw' with
  | done ht =>
    refine ht.then I' f' fun s₁ r₁ I₁ f₁ => ?_
    simp only [Bool.false_eq_true, if_false]
    exact wpAny_execs_nil ⟨⟨rfl, f₁⟩, r'.trans (SRl.of r₁)⟩
  | step ht hb hrest =>
    rename_i k' _
    refine ht.then I' f' fun s₁ r₁ I₁ f₁ => ?_
    simp only [if_true]
    refine wpAny_mono (hb s₁ _ I₁ f₁) (fun fl s₂ x => ?_) fun _ _ x => x
    obtain ⟨⟨rfl, f₂⟩, r₂⟩ := x
    exact ⟨k', Nat.lt_succ_self _, _, r₂.1, f₂, hrest, (r'.trans (SRl.of r₁)).trans r₂⟩
end
end Mine

-- B10
namespace Mine

/-- what a block may capture -/
def D.cap : D → Bool
  | .none | .bool _ | .int _ | .str _ | .ints _ | .strs _ => true
  | _ => false
theorem Is.off {own own' : Option Addr} {h h' : Heap} {v : Value} {d : D} (hd : d.cap = true) (hk : ∀ b o, Stable o → own ≠ some b → h.get? b = some o → h'.get? b = some o ∧ own' ≠ some b) (i : Is own h v d) : Is own' h' v d := by
  have li : ∀ {a its}, own ≠ some a → h.IsList a its → h'.IsList a its ∧ own' ≠ some a := fun hn y => by
    obtain ⟨o, ho, hs, hc, hn'⟩ := list_stable y
    have := hk _ _ hs hn ho
    exact ⟨⟨o, this.1, hc, hn'⟩, this.2⟩
  cases i with
  | none => exact .none
  | bool b => exact .bool b
  | int i t => exact .int i t
  | str x t => exact .str x t
  | «ints» h1 h2 h3 => exact .ints (li h3 h1).1 h2 (li h3 h1).2
  | «strs» h1 h2 h3 => exact .strs (li h3 h1).1 h2 (li h3 h1).2
  | _ => cases hd

def closOf (env : Env) : List (PySem.Str × NameKind) → List (PySem.Str × Addr) → List (PySem.Str × Addr)
  | [], cs => cs
  | (n, k) :: r, cs => if k == .free then closOf env r ((n, (env.cells.lookup n).getD 0) :: cs) else closOf env r cs

theorem closureFor_of (scope : Scope) (env : Env) (h : ∀ p ∈ scope.names, p.2 = .free → ∃ c, env.cells.lookup p.1 = some c) : closureFor scope env = pure (closOf env scope.names []) := by
  unfold closureFor
  have key : ∀ (names : List (PySem.Str × NameKind)) (cs : List (PySem.Str × Addr)), (∀ p ∈ names, p.2 = .free → ∃ c, env.cells.lookup p.1 = some c) →
      (forIn names cs fun (x : PySem.Str × NameKind) (cs : List (PySem.Str × Addr)) => (if (x.2 == .free) = true then (do let c ← cellOf env x.1; pure (ForInStep.yield ((x.1, c) :: cs))) else pure (ForInStep.yield cs) : Sem _)) = pure (closOf env names cs) := by
    intro names
    induction names with
    | nil => intro cs _; rfl
    | cons p r ih =>
      obtain ⟨n, k⟩ := p
      intro cs hp
      rw [List.forIn_cons]
      by_cases hk : k = .free
      · subst hk
        obtain ⟨c, hc⟩ := hp (n, .free) List.mem_cons_self rfl
        have e : cellOf env n = pure c := by unfold cellOf; rw [hc]
        simp only [beq_self_eq_true, if_true, e, pure_bind]
        rw [ih _ fun q hq => hp q (List.mem_cons_of_mem _ hq)]
        simp [closOf, hc]
      · have hb : (k == NameKind.free) = false := by simpa using hk
        simp only [hb, Bool.false_eq_true, if_false, pure_bind]
        rw [ih _ fun q hq => hp q (List.mem_cons_of_mem _ hq)]
        simp [closOf, hb]
  have := key scope.names [] h
  simp only [] at this ⊢
  rw [show (forIn scope.names [] fun (x : PySem.Str × NameKind) (r : List (PySem.Str × Addr)) => (match x with
      | (name, kind) => if (kind == NameKind.free) = true then do
          let __do_lift ← cellOf env name
          pure (ForInStep.yield ((name, __do_lift) :: r))
        else pure (ForInStep.yield r) : Sem _)) = pure (closOf env scope.names []) from this]
  rfl

theorem clos_lookup (env : Env) : ∀ (names : List (PySem.Str × NameKind)) (cs : List (PySem.Str × Addr)) (y : PySem.Str) (c : Addr), (closOf env names cs).lookup y = some c → cs.lookup y = some c ∨ ((y, .free) ∈ names ∧ c = (env.cells.lookup y).getD 0)
  | [], _, _, _, h => .inl h
  | (n, k) :: r, cs, y, c, h => by
    unfold closOf at h
    split at h
    · rename_i hk
      have hk' : k = .free := by simpa using hk
      rcases clos_lookup env r _ y c h with h | ⟨h1, h2⟩
      · rw [lookup_cons_eq] at h
        split at h
        · rename_i e; subst e; cases h; exact .inr ⟨by rw [hk']; exact List.mem_cons_self, rfl⟩
        · exact .inl h
      · exact .inr ⟨List.mem_cons_of_mem _ h1, h2⟩
    · rcases clos_lookup env r _ y c h with h | ⟨h1, h2⟩
      · exact .inl h
      · exact .inr ⟨List.mem_cons_of_mem _ h1, h2⟩
theorem clos_has (env : Env) : ∀ (names : List (PySem.Str × NameKind)) (cs : List (PySem.Str × Addr)) (y : PySem.Str), (cs.lookup y).isSome = true ∨ (y, .free) ∈ names → ((closOf env names cs).lookup y).isSome = true
  | [], cs, y, h => h.elim id fun h => by cases h
  | (n, k) :: r, cs, y, h => by
    unfold closOf
    split
    · rename_i hk
      refine clos_has env r _ y ?_
      rw [lookup_cons_eq]
      by_cases e : y = n
      · left; rw [if_pos e]; rfl
      · rw [if_neg e]
        rcases h with h | h
        · exact .inl h
        · rcases List.mem_cons.mp h with h | h
          · exact absurd (Prod.mk.inj h).1 e
          · exact .inr h
    · rename_i hk
      refine clos_has env r _ y ?_
      rcases h with h | h
      · exact .inl h
      · rcases List.mem_cons.mp h with h | h
        · obtain ⟨rfl, rfl⟩ := Prod.mk.inj h
          exact absurd (show (NameKind.free == NameKind.free) = true from rfl) hk
        · exact .inr h

theorem cf_inj : ∀ (names : List (PySem.Str × NameKind)) (n : Nat) (acc : List (PySem.Str × Addr)), (∀ y c, acc.lookup y = some c → c < n) → (∀ x y c, acc.lookup x = some c → acc.lookup y = some c → x = y) →
    ∀ x y c, (cellsFrom n names acc).lookup x = some c → (cellsFrom n names acc).lookup y = some c → x = y
  | [], _, _, _, h => h
  | (m, k) :: r, n, acc, h1, h2 => by
    unfold cellsFrom
    split
    · refine cf_inj r (n + 1) _ ?_ ?_
      · intro y c hy
        rw [lookup_cons_eq] at hy
        split at hy
        · cases hy; exact Nat.lt_succ_self _
        · exact Nat.lt_succ_of_lt (h1 y c hy)
      · intro x y c hx hy
        rw [lookup_cons_eq] at hx hy
        split at hx <;> split at hy
        · rename_i e1 e2; rw [e1, e2]
        · cases hx; exact absurd (h1 _ _ hy) (Nat.lt_irrefl _)
        · cases hy; exact absurd (h1 _ _ hx) (Nat.lt_irrefl _)
        · exact h2 x y c hx hy
    · exact cf_inj r n acc h1 h2
theorem cf_has : ∀ (names : List (PySem.Str × NameKind)) (n : Nat) (acc : List (PySem.Str × Addr)) (y : PySem.Str), (acc.lookup y).isSome = true ∨ (y, .cell) ∈ names → ((cellsFrom n names acc).lookup y).isSome = true
  | [], _, _, _, h => h.elim id fun h => by cases h
  | (m, k) :: r, n, acc, y, h => by
    unfold cellsFrom
    split
    · refine cf_has r _ _ y ?_
      rw [lookup_cons_eq]
      by_cases e : y = m
      · left; rw [if_pos e]; rfl
      · rw [if_neg e]
        rcases h with h | h
        · exact .inl h
        · rcases List.mem_cons.mp h with h | h
          · exact absurd (Prod.mk.inj h).1 e
          · exact .inr h
    · rename_i hk
      refine cf_has r _ _ y ?_
      rcases h with h | h
      · exact .inl h
      · rcases List.mem_cons.mp h with h | h
        · obtain ⟨rfl, rfl⟩ := Prod.mk.inj h
          exact absurd (show (NameKind.cell == NameKind.cell) = true from rfl) hk
        · exact .inr h
theorem cf_cells : ∀ (names : List (PySem.Str × NameKind)) (h : Heap) (acc : List (PySem.Str × Addr)) (y : PySem.Str) (c : Addr), (cellsFrom h.objs.size names acc).lookup y = some c →
    acc.lookup y = some c ∨ ((y, .cell) ∈ names ∧ h.objs.size ≤ c ∧ (pushCells h names).IsCell c none)
  | [], _, _, _, _, e => .inl e
  | (m, k) :: r, h, acc, y, c, e => by
    unfold cellsFrom at e
    unfold pushCells
    split at e
    · rename_i hk
      have hk' : k = .cell := by simpa using hk
      rw [if_pos hk]
      rw [← Heap.size_push h { cls := .type "cell", data := .cell none }] at e
      rcases cf_cells r _ _ y c e with e5 | ⟨e1, e2, e3⟩
      · rw [lookup_cons_eq] at e5
        split at e5
        · rename_i e'; subst e'
          obtain rfl := Option.some.inj e5
          refine .inr ⟨by rw [hk']; exact List.mem_cons_self, Nat.le_refl _, ⟨_, pushCells_keeps _ _ _ _ (Heap.get?_push_size _ rfl), rfl⟩⟩
        · exact .inl e5
      · exact .inr ⟨List.mem_cons_of_mem _ e1, by rw [Heap.size_push] at e2; omega, e3⟩
    · rename_i hk
      rw [if_neg hk]
      rcases cf_cells r _ _ y c e with e | ⟨e1, e2, e3⟩
      · exact .inl e
      · exact .inr ⟨List.mem_cons_of_mem _ e1, e2, e3⟩

/-- the block's own frame -/
def compF (F : Fx) (scope : Scope) (C D : Addr) : Fx :=
  { F with own := some D, env := { scope := relabel scope F.env, locals := C, globals := F.env.globals, cells := cellsFrom (C + 1) scope.names (closOf F.env scope.names []), qual := F.env.qual, func := none, code := F.env.code, frame := F.env.frame, builtins := F.env.builtins } }

theorem relabel_kind {scope : Scope} {env : Env} : ∀ {names : List (PySem.Str × NameKind)} {y : PySem.Str} {k : NameKind}, (names.map fun (n, k) => if (k == NameKind.free && env.scope.kind == .function && env.kindOf n == some .cell) then (n, NameKind.cell) else (n, k)).lookup y = some k →
    ∃ k', names.lookup y = some k' ∧ (k' = k ∨ (k' = .free ∧ k = .cell ∧ env.kindOf y = some .cell))
  | [], y, k, h => by cases h
  | (n, k0) :: r, y, k, h => by
    simp only [List.map_cons] at h
    by_cases hc : (k0 == NameKind.free && env.scope.kind == .function && env.kindOf n == some .cell) = true
    · rw [if_pos hc, lookup_cons_eq] at h
      simp only [Bool.and_eq_true, beq_iff_eq] at hc
      rw [lookup_cons_eq]
      split at h
      · rename_i e; subst e; cases h; exact ⟨k0, by rw [if_pos rfl], .inr ⟨hc.1.1, rfl, hc.2⟩⟩
      · rename_i e; rw [if_neg e]; exact relabel_kind (scope := scope) h
    · rw [if_neg hc, lookup_cons_eq] at h
      rw [lookup_cons_eq]
      split at h
      · rename_i e; subst e; cases h; exact ⟨k0, by rw [if_pos rfl], .inl rfl⟩
      · rename_i e; rw [if_neg e]; exact relabel_kind (scope := scope) h
theorem mem_of_lookup' {α : Type} : ∀ {l : List (PySem.Str × α)} {n : PySem.Str} {c : α}, l.lookup n = some c → (n, c) ∈ l := mem_of_lookup

section
variable {X : Cx} {F : Fx} {q : Bool} {g gc : List (PySem.Str × D)} {e l r : Expr} {d a b : D} {pos : Pos} {es : List Expr} {ds : List D} {o : Out}

theorem Inv.free {s : Shared} (I : Inv X s) {b : Addr} (hb : s.heap.get? b = none) : X.H0.get? b = none := by
  cases h0 : X.H0.get? b with
  | none => rfl
  | some o' =>
    by_cases hP : b = X.P
    · obtain ⟨ps, hp⟩ := I.tab; rw [← hP, hb] at hp; cases hp
    · rw [I.old hP h0] at hb; cases hb

/-- what the block captures, as its frame says it -/
def Caps (F : Fx) (scope : Scope) (g gc : List (PySem.Str × D)) : Prop :=
  ∀ y d, gc.lookup y = some d → d.cap = true ∧ (y, .free) ∈ scope.names ∧ g.lookup y = some d
structure ScopeOk (F : Fx) (scope : Scope) : Prop where
  kind : scope.kind = .function
  free : ∀ p ∈ scope.names, p.2 = .free → F.env.kindOf p.1 = some .cell
  nodup : (scope.names.map (·.1)).Nodup

theorem nodup_kind : ∀ {l : List (PySem.Str × NameKind)}, (l.map (·.1)).Nodup → ∀ {n : PySem.Str} {k k' : NameKind}, (n, k) ∈ l → (n, k') ∈ l → k = k'
  | [], _, _, _, _, h, _ => by cases h
  | (m, k0) :: r, hn, n, k, k', h, h' => by
    rw [List.map_cons, List.nodup_cons] at hn
    rcases List.mem_cons.mp h with e | h <;> rcases List.mem_cons.mp h' with e' | h'
    · rw [← e'] at e; exact (Prod.mk.inj e).2
    · exact absurd (List.mem_map.mpr ⟨(n, k'), h', rfl⟩) (by rw [(Prod.mk.inj e).1]; exact hn.1)
    · exact absurd (List.mem_map.mpr ⟨(n, k), h, rfl⟩) (by rw [(Prod.mk.inj e').1]; exact hn.1)
    · exact nodup_kind hn.2 h h'

theorem comp_fits {s : Shared} {scope : Scope} (I : Inv X s) (f : Fits X F s.heap g) (so : ScopeOk F scope) (cp : Caps F scope g gc) {C Da : Nat} {h₁ h₂ : Heap} (hD : Da = s.heap.objs.size) (hC : C = s.heap.objs.size + 1)
    (h1 : h₁ = (s.heap.push { cls := .type "list", data := .seq #[] }).push { cls := .type "dict", data := .dict #[] }) (h2 : h₂ = pushCells h₁ scope.names) : Fits X (compF F scope C Da) h₂ gc := by
  have k1 : ∀ b o, s.heap.get? b = some o → h₁.get? b = some o := fun b o e => by rw [h1]; exact Heap.get?_push_of_some _ (Heap.get?_push_of_some _ e)
  have k2 : ∀ b o, s.heap.get? b = some o → h₂.get? b = some o := fun b o e => by rw [h2]; exact pushCells_keeps _ _ _ _ (k1 b o e)
  have sz : h₁.objs.size = C + 1 := by rw [h1, Heap.size_push, Heap.size_push, hC]
  have free : ∀ b, s.heap.objs.size ≤ b → X.H0.get? b = none := fun b hb => I.free (Heap.get?_none_of_le hb)
  have lt : ∀ {b : Addr} {o : Obj}, s.heap.get? b = some o → b < s.heap.objs.size := fun e => Heap.lt_size e
  have mv : ∀ {v : Value} {d : D}, d.cap = true → Is F.own s.heap v d → Is (some Da) h₂ v d := fun {v d} hd i => i.off hd fun b o _ _ e => ⟨k2 b o e, by
    intro h; rw [hD] at h; exact absurd (lt e) (by rw [← Option.some.inj h]; exact Nat.lt_irrefl _)⟩
  have clo : ∀ y c, (closOf F.env scope.names []).lookup y = some c → (y, .free) ∈ scope.names ∧ F.env.cells.lookup y = some c := fun y c h => by
    rcases clos_lookup F.env _ _ _ _ h with h | ⟨h1, h2⟩
    · cases h
    · obtain ⟨c', hc'⟩ := f.has y (so.free _ h1 rfl)
      rw [hc'] at h2; exact ⟨h1, by rw [hc', h2]; rfl⟩
  have cel : ∀ y c, (cellsFrom (C + 1) scope.names (closOf F.env scope.names [])).lookup y = some c → ((y, .free) ∈ scope.names ∧ F.env.cells.lookup y = some c) ∨ ((y, .cell) ∈ scope.names ∧ C + 1 ≤ c ∧ h₂.IsCell c none) := fun y c h => by
    rw [← sz] at h
    rcases cf_cells _ _ _ _ _ h with h | ⟨e1, e2, e3⟩
    · exact .inl (clo y c h)
    · exact .inr ⟨e1, by rw [← sz]; exact e2, by rw [h2]; exact e3⟩
  refine ⟨free C (by omega), so.kind, f.glob, f.bi, ⟨f.rm.handled, f.rm.depth, f.rm.units⟩, ⟨fun _ => none, ?_, fun y d hy hl => ?_⟩, fun y c hc => ?_, fun y hy => ?_, ?_, ?_⟩
  · have e : (s.heap.push { cls := .type "list", data := .seq #[] }).objs.size = C := by rw [Heap.size_push, hC]
    have := (Heap.Ns.new (s.heap.push { cls := .type "list", data := .seq #[] }) (.type "dict"))
    rw [e] at this
    rw [h2, h1]
    exact this.keeps (pushCells_keeps _ _)
  · obtain ⟨k', hk', hh⟩ := relabel_kind (scope := scope) (show ((relabel scope F.env).names).lookup y = some .local from hl)
    have := nodup_kind so.nodup (mem_of_lookup hk') (cp y d hy).2.1
    rcases hh with hh | hh
    · rw [hh] at this; cases this
    · cases hh.2.1
  · rcases cel y c hc with ⟨hf, hc'⟩ | ⟨hcell, hge, hcn⟩
    · obtain ⟨h0, ov, ⟨o, ho, hd⟩, r⟩ := f.cell y c hc'
      refine ⟨h0, ov, ⟨o, k2 _ _ ho, hd⟩, fun d hg hk => ?_⟩
      obtain ⟨w, hw, iw⟩ := r d (cp y d hg).2.2 (so.free _ hf rfl)
      exact ⟨w, hw, mv (cp y d hg).1 iw⟩
    · refine ⟨free c (by omega), none, hcn, fun d hg hk => ?_⟩
      have := nodup_kind so.nodup hcell (cp y d hg).2.1
      cases this
  · obtain ⟨k', hk', hh⟩ := relabel_kind (scope := scope) (show ((relabel scope F.env).names).lookup y = some .cell from hy)
    have hm := mem_of_lookup hk'
    have : ((cellsFrom (C + 1) scope.names (closOf F.env scope.names [])).lookup y).isSome = true := by
      rcases hh with hh | hh
      · rw [hh] at hm; exact cf_has _ _ _ _ (.inr hm)
      · rw [hh.1] at hm; exact cf_has _ _ _ _ (.inl (clos_has _ _ _ _ (.inr hm)))
    exact Option.isSome_iff_exists.mp this
  · refine cf_inj _ _ _ (fun y c h => ?_) fun x y c hx hy => f.apart x y c (clo x c hx).2 (clo y c hy).2
    obtain ⟨_, ov, ⟨o, ho, _⟩, _⟩ := f.cell y c (clo y c h).2
    exact Nat.lt_of_lt_of_le (lt ho) (by omega)
  · intro a ha
    cases ha
    refine ⟨free _ (by omega), #[], { cls := .type "list", data := .seq #[] }, ?_, rfl, 0, rfl⟩
    rw [h2, h1, hD]
    exact pushCells_keeps _ _ _ _ (Heap.get?_push_of_some _ (Heap.get?_push_size _ rfl))

theorem newEnv_comp {M : Model} {A : Around} {E : Value → Shared → Prop} {s : Shared} {scope : Scope} {env : Env} {cl : List (PySem.Str × Addr)} {Q : Env → Shared → Prop}
    (h : Q (newEnv scope s.heap.objs.size env.globals (cellsFrom (s.heap.objs.size + 1) scope.names cl) env.qual none .none (some env) builtinsNs) { s with heap := pushCells (s.heap.push { cls := .type "dict", data := .dict #[] }) scope.names }) :
    wpAny M A (newFunctionEnv scope env.globals cl [] env.qual none .none (some env)) Q E s := by
  simp only [newFunctionEnv, Option.isSome_some, if_true]
  refine wpAny_bind (wpAny_alloc ?_)
  refine wpAny_bind (wpAny_layCells _ (fun name kind cells => by cases hkc : kind == NameKind.cell <;> simp) _ _ _ _ ?_)
  rw [show ({ s with heap := s.heap.push { cls := .type "dict", data := .dict #[] } } : Shared).heap.objs.size = s.heap.objs.size + 1 from Heap.size_push ..]
  rw [List.forIn_nil]
  exact wpAny_bind (wpAny_pure (wpAny_pure h))
end
end Mine

-- B11
namespace Mine

inductive Scs : List Value → List D → Prop
  | nil : Scs [] []
  | cons {v : Value} {d : D} {vs : List Value} {ds : List D} : Sc v d → Scs vs ds → Scs (v :: vs) (d :: ds)
theorem Scs.snoc {vs : List Value} {ds : List D} {v : Value} {d : D} (h : Scs vs ds) (hv : Sc v d) : Scs (vs ++ [v]) (ds ++ [d]) := by
  induction h with
  | nil => exact .cons hv .nil
  | cons h1 _ ih => exact .cons h1 ih
theorem Scs.len {vs : List Value} {ds : List D} (h : Scs vs ds) : vs.length = ds.length := by
  induction h with
  | nil => rfl
  | cons _ _ ih => simp [ih]
theorem Scs.ints {vs : List Value} {l : List Int} (h : Scs vs (l.map .int)) : IntsAre vs l := by
  generalize e : l.map D.int = ds at h
  induction h generalizing l with
  | nil => cases l with
    | nil => exact .nil
    | cons => cases e
  | cons hv _ ih => cases l with
    | nil => cases e
    | cons n l => simp only [List.map_cons, List.cons.injEq] at e; obtain ⟨rfl, e⟩ := e; cases hv; exact .cons _ _ (ih e)
theorem Scs.strs {vs : List Value} {l : List PySem.Str} (h : Scs vs (l.map .str)) : StrsAre vs l := by
  generalize e : l.map D.str = ds at h
  induction h generalizing l with
  | nil => cases l with
    | nil => exact .nil
    | cons => cases e
  | cons hv _ ih => cases l with
    | nil => cases e
    | cons n l => simp only [List.map_cons, List.cons.injEq] at e; obtain ⟨rfl, e⟩ := e; cases hv; exact .cons _ _ (ih e)

section
variable {X : Cx} {F : Fx} {q : Bool} {g gc : List (PySem.Str × D)} {e l r : Expr} {d a b : D} {pos : Pos} {es : List Expr} {ds : List D} {o : Out}

/-- the own list grows: nothing else turns -/
theorem Fits.append {h h' : Heap} {a : Addr} {its its' : Array Value} (f : Fits X F h g) (hg : ∀ y d, g.lookup y = some d → d.cap = true) (hs : Heap.SameBut a h h') (ha : F.own = some a) (hl : h.IsList a its) (hl' : h'.IsList a its') : Fits X F h' g := by
  obtain ⟨oa, hoa, hsa, _, na, hda⟩ := list_stable hl
  have st : ∀ b o, Stable o → F.own ≠ some b → h.get? b = some o → h'.get? b = some o ∧ F.own ≠ some b := fun b o hs' hn e => ⟨(hs.2 b (by rintro rfl; exact hn ha)).trans e, hn⟩
  refine { f with ns := ?_, cell := ?_, live := ?_ }
  · obtain ⟨m, hn, hm⟩ := f.ns
    refine ⟨m, hn.sameBut hs ?_, fun y d hy hl => let ⟨v, h1, h2⟩ := hm y d hy hl; ⟨v, h1, h2.off (hg y d hy) st⟩⟩
    obtain ⟨o2, ho2, hn2⟩ := ns_obj' hn
    exact Ne.symm (ne_of_stable hsa hoa ho2 hn2)
  · intro y c hc
    obtain ⟨h0, ov, hcell, r⟩ := f.cell y c hc
    obtain ⟨o2, ho2, hn2⟩ := cell_obj' hcell
    exact ⟨h0, ov, hcell.sameBut hs (Ne.symm (ne_of_stable hsa hoa ho2 hn2)), fun d hd' hk' => let ⟨v, h1, h2⟩ := r d hd' hk'; ⟨v, h1, h2.off (hg y d hd') st⟩⟩
  · intro b hb
    rw [ha] at hb; cases hb
    exact ⟨(f.live a ha).1, its', hl'⟩

theorem comp_block {s₁ : Shared} {ob : Obj} {scope : Scope} {elt iter : Expr} {x : PySem.Str} {px : Pos} {f : D → D} {RR : Value → Addr → Result → Shared → Prop} {E : Value → Shared → Prop}
    (I₁ : Inv X s₁) (f₁ : Fits X F s₁.heap g) (it : It X F s₁.heap s₁.heap.objs.size ds (s₁.heap.push ob)) (so : ScopeOk F scope) (cp : Caps F scope g gc) (hz : ds.length ≤ 1000000)
    (hx : scope.names.lookup x = some .local ∨ scope.names.lookup x = some .cell)
    (helt : ∀ C Da, ∀ d ∈ ds, EV X (compF F scope C Da) true ((x, d) :: gc) elt (f d) ∧ (f d).sc = true)
    (hRR : ∀ (Da C : Addr) h' tk vs, s₁.heap.get? Da = none → s₁.heap.get? C = none → Da ≠ C → (∃ m, h'.Ns C m) → h'.IsList Da (List.toArray vs) → Scs vs (ds.map f) → (∀ b o, s₁.heap.get? b = some o → h'.get? b = some o) →
      RR (.ref Da) C (.ok .next) { s₁ with heap := h', toks := tk }) :
    wpAny (model X.prog X.w) F.A (newList []) (fun acc s₃ => wpAny (model X.prog X.w) F.A (newFunctionEnv scope F.env.globals (closOf F.env scope.names []) [] F.env.qual none .none (some F.env)) (fun cenv s₄ =>
      codeAny (model X.prog X.w) F.A (.compStart (.ListComp elt [⟨.Name x px, iter, [], 0⟩] scope pos) 0 (.ref s₁.heap.objs.size) acc { cenv with scope := relabel scope F.env }) (RR acc cenv.locals) s₄) E s₃) E { s₁ with heap := s₁.heap.push ob } := by
  obtain ⟨fp, St, W, hst, hfp, hobj⟩ := it.walk
  generalize hJ : s₁.heap.objs.size = J at *
  have hJn : s₁.heap.get? J = none := by rw [← hJ]; exact fresh_none _
  have hJ0 : X.H0.get? J = none := I₁.free hJn
  have I₂ : Inv X { s₁ with heap := s₁.heap.push ob } := I₁.keeps (keeps_push _ _ _)
  have f₂ : Fits X F (s₁.heap.push ob) g := f₁.mono (fun b o _ e => Heap.get?_push_of_some _ e) I₁.tab
  refine wpAny_newObj_type (newEnv_comp ?_)
  generalize hDa : (s₁.heap.push ob).objs.size = Da
  have hsz1 : (s₁.heap.push ob).objs.size = J + 1 := by rw [Heap.size_push, hJ]
  have hsz2 : ((s₁.heap.push ob).push { cls := .type "list", data := .seq ([] : List Value).toArray }).objs.size = Da + 1 := by rw [Heap.size_push, hDa]
  dsimp only
  rw [hsz2]
  generalize hH : pushCells (((s₁.heap.push ob).push { cls := .type "list", dict := none, data := .seq ([] : List Value).toArray }).push { cls := .type "dict", data := .dict #[] }) scope.names = H
  have ff : Fits X (compF F scope (Da + 1) Da) H gc := comp_fits I₂ f₂ so cp hDa.symm (by rw [← hDa]) rfl hH.symm
  have kH : ∀ b o, (s₁.heap.push ob).get? b = some o → H.get? b = some o := fun b o e => by rw [← hH]; exact pushCells_keeps _ _ _ _ (Heap.get?_push_of_some _ (Heap.get?_push_of_some _ e))
  have kH1 : ∀ b o, s₁.heap.get? b = some o → H.get? b = some o := fun b o e => kH b o (Heap.get?_push_of_some _ e)
  have hlD : H.IsList Da #[] := by
    rw [← hH]
    refine ⟨{ cls := .type "list", data := .seq #[] }, pushCells_keeps _ _ _ _ (Heap.get?_push_of_some _ ?_), rfl, 0, rfl⟩
    rw [← hDa]; exact Heap.get?_push_size _ rfl
  have hDn : s₁.heap.get? Da = none := Heap.get?_none_of_le (by rw [hJ, ← hDa, hsz1]; exact Nat.le_succ _)
  have hCn : s₁.heap.get? (Da + 1) = none := Heap.get?_none_of_le (by rw [hJ, ← hDa, hsz1]; exact Nat.le_trans (Nat.le_succ _) (Nat.le_succ _))
  have hJD : J ≠ Da := by rw [← hDa, hsz1]; exact Nat.ne_of_lt (Nat.lt_succ_self _)
  have hcells : ∀ y c, (compF F scope (Da + 1) Da).env.cells.lookup y = some c → (y, .free) ∈ scope.names ∧ F.env.cells.lookup y = some c ∨ ((y, .cell) ∈ scope.names ∧ Da + 1 < c) := fun y c h => by
    have h' : (cellsFrom (Da + 1 + 1) scope.names (closOf F.env scope.names [])).lookup y = some c := h
    have hz2 : (((s₁.heap.push ob).push { cls := .type "list", dict := none, data := .seq ([] : List Value).toArray }).push { cls := .type "dict", data := .dict #[] }).objs.size = Da + 1 + 1 := by rw [Heap.size_push, Heap.size_push, hDa]
    rw [← hz2] at h'
    rcases cf_cells _ _ _ _ _ h' with h | ⟨e1, e2, e3⟩
    · rcases clos_lookup F.env _ _ _ _ h with h | ⟨h1, h2⟩
      · cases h
      · obtain ⟨c', hc'⟩ := f₁.has y (so.free _ h1 rfl)
        rw [hc'] at h2; exact .inl ⟨h1, by rw [hc', h2]; rfl⟩
    · rw [hz2] at e2; exact .inr ⟨e1, e2⟩
  have hJchg : ¬ Chg (compF F scope (Da + 1) Da) J := by
    rintro (h | ⟨y, hy⟩ | h)
    · have h' : J = Da + 1 := h
      rw [← hDa, hsz1] at h'; omega
    · rcases hcells y J hy with ⟨_, h⟩ | ⟨_, h⟩
      · obtain ⟨o', ho'⟩ := f₁.lt_cell h; rw [hJn] at ho'; cases ho'
      · rw [← hDa, hsz1] at h; exact absurd h (by omega)
    · cases h; exact hJD rfl
  have hxk : (compF F scope (Da + 1) Da).env.kindOf x = some .local ∨ (compF F scope (Da + 1) Da).env.kindOf x = some .cell := by
    have gen : ∀ {names : List (PySem.Str × NameKind)} {k : NameKind}, k ≠ .free → names.lookup x = some k → (names.map fun (n, k) => if (k == NameKind.free && F.env.scope.kind == .function && F.env.kindOf n == some .cell) then (n, NameKind.cell) else (n, k)).lookup x = some k := by
      intro names k hk h
      induction names with
      | nil => cases h
      | cons p r ih =>
        obtain ⟨n, k0⟩ := p
        rw [lookup_cons_eq] at h
        simp only [List.map_cons]
        split at h
        · rename_i e'; subst e'; cases h
          rw [if_neg (by simp [hk])]
          rw [lookup_cons_eq, if_pos rfl]
        · rename_i e'
          split <;> rw [lookup_cons_eq, if_neg e'] <;> exact ih h
    rcases hx with hx | hx
    · exact .inl (gen (by decide) hx)
    · exact .inr (gen (by decide) hx)
  have capcap : ∀ y d, gc.lookup y = some d → d.cap = true := fun y d h => (cp y d h).1
  have loop : ∀ tk, codeAny (model X.prog X.w) F.A (.compLoop (.ListComp elt [⟨.Name x px, iter, [], 0⟩] scope pos) 0 (.ref J) (.ref Da) (compF F scope (Da + 1) Da).env) (RR (.ref Da) (Da + 1)) { s₁ with heap := H, toks := tk } := by
    intro tk
    refine codeAny_compLoop_list
      (fun k s' => ∃ j vs h t, s' = { s₁ with heap := h, toks := t } ∧ k = ds.length + 1 - j ∧ j ≤ ds.length ∧ Scs vs ((ds.take j).map f) ∧ St j h ∧ Inv X s' ∧ Fits X (compF F scope (Da + 1) Da) h gc ∧ h.IsList Da vs.toArray ∧
        (∀ b o, s₁.heap.get? b = some o → h.get? b = some o)) ?_ (ds.length + 1)
      ⟨0, [], H, tk, rfl, rfl, Nat.zero_le _, by simpa using Scs.nil, (W F.A f₁.rm.handled).frame _ _ _ hst fun b _ o e => kH b o e, I₁.keeps ⟨H, tk, rfl, kH1⟩, ff, hlD, kH1⟩
    rintro k s' ⟨j, vs, h, t, rfl, rfl, hj, hvs, hst', I', f', hl', hk'⟩
    by_cases hlt : j < ds.length
    · refine (W F.A f₁.rm.handled).item j _ _ _ hlt hst' fun v h₃ t₃ hv hst₃ hk₃ => ?_
      obtain ⟨dv, hdv, hsc⟩ := hv
      have hJs := hobj j _ hst'
      have hk₃' : ∀ b o, b ≠ J → h.get? b = some o → h₃.get? b = some o := fun b o hb e => hk₃ b o (by simpa using hb) e
      have I₃ : Inv X { s₁ with heap := h₃, toks := t₃ } := I'.step fun b o hb e => hk₃' b o (by rintro rfl; exact hb hJ0) e
      have f₃ : Fits X (compF F scope (Da + 1) Da) h₃ gc := f'.but (fun b o _ hb e => hk₃' b o hb e) hJs hJchg I'.tab
      have hl₃ : h₃.IsList Da vs.toArray := by
        obtain ⟨o1, ho1, r1⟩ := hl'
        exact ⟨o1, hk₃' _ _ (Ne.symm hJD) ho1, r1⟩
      refine wpAny_assign_Name (store_ok (F := compF F scope (Da + 1) Da) (s := { s₁ with heap := h₃, toks := t₃ }) I₃ f₃ hxk (hsc.is _ h₃) fun h₄ t₄ c hs₄ hc h0 hno I₄ f₄ => ?_)
      have hcn : s₁.heap.get? c = none := by
        rcases hc with rfl | hc
        · exact hCn
        · rcases hcells x c hc with ⟨hf, _⟩ | ⟨_, hgt⟩
          · exfalso
            rcases hx with hx | hx
            · cases nodup_kind so.nodup hf (mem_of_lookup hx)
            · cases nodup_kind so.nodup hf (mem_of_lookup hx)
          · refine Heap.get?_none_of_le ?_
            rw [hJ]; rw [← hDa, hsz1] at hgt; exact Nat.le_of_lt (Nat.lt_of_le_of_lt (by omega) hgt)
      have hk₄ : ∀ b o, s₁.heap.get? b = some o → h₄.get? b = some o := fun b o e => (hs₄.2 b (by rintro rfl; rw [hcn] at e; cases e)).trans (hk₃' b o (by rintro rfl; rw [hJn] at e; cases e) (hk' b o e))
      have hcJ : c ≠ J := by
        rintro rfl
        rcases hc with h | h
        · exact hJchg (.inl h)
        · exact hJchg (.inr (.inl ⟨_, h⟩))
      have hst₄ : St (j + 1) h₄ := (W F.A f₁.rm.handled).frame _ _ _ hst₃ fun b hb o e => (hs₄.2 b (by
        rintro rfl
        rcases hfp b hb with rfl | ⟨ob', hob', _⟩
        · exact hcJ rfl
        · rw [hcn] at hob'; cases hob')).trans e
      have hcD : c ≠ Da := by
        obtain ⟨o1, ho1, hn1⟩ := hno
        obtain ⟨o2, ho2, hs2, _⟩ := list_stable hl₃
        exact Ne.symm (ne_of_stable hs2 ho2 ho1 hn1)
      have hl₄ : h₄.IsList Da vs.toArray := by
        obtain ⟨o1, ho1, r1⟩ := hl₃
        exact ⟨o1, (hs₄.2 _ (Ne.symm hcD)).trans ho1, r1⟩
      have hmem : dv ∈ ds := List.mem_of_getElem? hdv
      obtain ⟨hev, hfs⟩ := helt (Da + 1) Da dv hmem
      refine hev.then I₄ f₄ fun w s₅ iw r₅ I₅ f₅ => ?_
      obtain ⟨h₅, t₅, rfl, hk₅⟩ := r₅.2.2 rfl
      have hl₅ : h₅.IsList Da vs.toArray := by
        obtain ⟨o1, ho1, r1⟩ := hl₄
        exact ⟨o1, hk₅ _ _ ho1, r1⟩
      have hsz5 : vs.toArray.size ≤ sizeLine := by
        rw [List.size_toArray, hvs.len, List.length_map, List.length_take]
        exact Nat.le_trans (Nat.min_le_right _ _) (Nat.le_trans hz (by decide))
      refine wpAny_list_append (hsz := hsz5) hl₅ fun h₆ hl₆ hs₆ => ?_
      have I₆ : Inv X { s₁ with heap := h₆, toks := t₅ } := I₅.step fun b o hb e => (hs₆.2 b (by rintro rfl; exact hb (I₁.free hDn))).trans e
      have hsnoc : Scs (vs ++ [w]) ((ds.take (j + 1)).map f) := by
        rw [List.take_add_one, hdv]
        simp only [Option.toList_some, List.map_append, List.map_cons, List.map_nil]
        exact hvs.snoc (iw.sc hfs)
      have f₅' : Fits X (compF F scope (Da + 1) Da) h₅ gc := by
        have fsub : Fits X (compF F scope (Da + 1) Da) h₅ ((x, dv) :: gc) := f₅
        refine fsub.sub fun y d hy => ?_
        rw [lookup_cons_eq]
        split
        · rename_i e'; subst e'
          exfalso
          have hf := (cp y d hy).2.1
          rcases hx with hx | hx
          · cases nodup_kind so.nodup hf (mem_of_lookup hx)
          · cases nodup_kind so.nodup hf (mem_of_lookup hx)
        · exact hy
      refine ⟨ds.length + 1 - (j + 1), by omega, j + 1, vs ++ [w], h₆, t₅, rfl, rfl, hlt, hsnoc, ?_, I₆, f₅'.append capcap hs₆ rfl hl₅ (its' := (vs ++ [w]).toArray) (by simpa using hl₆), by simpa using hl₆, fun b o e => ?_⟩
      · refine (W F.A f₁.rm.handled).frame _ _ _ hst₄ fun b hb o e => (hs₆.2 b ?_).trans (hk₅ _ _ e)
        rintro rfl
        rcases hfp b hb with h | ⟨ob', hob', _⟩
        · exact hJD h.symm
        · rw [hDn] at hob'; cases hob'
      · exact (hs₆.2 b (by rintro rfl; rw [hDn] at e; cases e)).trans (hk₅ _ _ (hk₄ b o e))
    · obtain rfl : j = ds.length := Nat.le_antisymm hj (Nat.not_lt.mp hlt)
      refine (W F.A f₁.rm.handled).done _ _ _ hst' fun h₃ t₃ hk₃ => ?_
      have hk₃' : ∀ b o, b ≠ J → h.get? b = some o → h₃.get? b = some o := fun b o hb e => hk₃ b o (by simpa using hb) e
      rw [List.take_length] at hvs
      refine hRR Da (Da + 1) h₃ t₃ vs hDn hCn (Nat.ne_of_lt (Nat.lt_succ_self _)) ?_ ?_ hvs fun b o e => hk₃' b o (by rintro rfl; rw [hJn] at e; cases e) (hk' b o e)
      · obtain ⟨m, ⟨o1, es, ep, ho1, r1⟩, _⟩ := f'.ns
        exact ⟨m, o1, es, ep, hk₃' _ _ (fun e => hJchg (.inl e.symm)) ho1, r1⟩
      · obtain ⟨o1, ho1, r1⟩ := hl'
        exact ⟨o1, hk₃' _ _ (Ne.symm hJD) ho1, r1⟩
  have hstH : St 0 H := (W F.A f₁.rm.handled).frame _ _ _ hst fun b _ o e => kH b o e
  exact codeAny_compStart_list (loop _) ((W F.A f₁.rm.handled).self 0 { s₁ with heap := H } _ _ hstH (loop _))
end
end Mine

-- B12
namespace Mine

section
variable {X : Cx} {F : Fx} {q : Bool} {g gc : List (PySem.Str × D)} {e l r : Expr} {d a b : D} {pos : Pos} {es : List Expr} {ds : List D} {o : Out}

theorem lookup_of_mem_nodup' : ∀ {l : List (PySem.Str × NameKind)}, (l.map (·.1)).Nodup → ∀ {x : PySem.Str × NameKind}, x ∈ l → l.lookup x.1 = some x.2
  | [], _, _, h => by cases h
  | (n, k) :: r, hn, x, h => by
    rw [List.map_cons, List.nodup_cons] at hn
    rw [lookup_cons_eq]
    rcases List.mem_cons.mp h with rfl | h
    · rw [if_pos rfl]
    · rw [if_neg (by intro e; exact hn.1 (by rw [← e]; exact List.mem_map.mpr ⟨x, h, rfl⟩))]
      exact lookup_of_mem_nodup' hn.2 h
theorem nodup_lookup {l : List (PySem.Str × NameKind)} (hn : (l.map (·.1)).Nodup) : ∀ x ∈ l, x.2 = .local → l.lookup x.1 = some .local := fun x hx hl => by
  have := lookup_of_mem_nodup' hn hx
  rw [hl] at this; exact this

/-- what a comprehension gives: ints or texts -/
inductive Got : List D → D → Prop
  | ints (l : List Int) : Got (l.map .int) (.ints l)
  | strs (l : List PySem.Str) : Got (l.map .str) (.strs l)

theorem got_is {h : Heap} {Da : Addr} {vs : List Value} (hg : Got ds d) (hs : Scs vs ds) (hl : h.IsList Da vs.toArray) (ho : F.own ≠ some Da) : Is F.own h (.ref Da) d := by
  cases hg with
  | «ints» l => exact .ints hl hs.ints ho
  | «strs» l => exact .strs hl hs.strs ho

theorem ev_comp {scope : Scope} {elt iter : Expr} {x : PySem.Str} {px : Pos} {f : D → D} {di : D} (he : EV X F true g iter di) (hi : Items di ds) (so : ScopeOk F scope) (cp : Caps F scope g gc) (hz : ds.length ≤ 1000000)
    (hx : scope.names.lookup x = some .local ∨ scope.names.lookup x = some .cell)
    (helt : ∀ C Da, ∀ d ∈ ds, EV X (compF F scope C Da) true ((x, d) :: gc) elt (f d) ∧ (f d).sc = true) (hgot : Got (ds.map f) d)
    (hs : ∀ v, foldedSetIterable iter F.env v = pure v) : EV X F q g (.ListComp elt [⟨.Name x px, iter, [], 0⟩] scope pos) d := EV.weak fun s E I ff => by
  have hclos := closureFor_of scope F.env fun p hp hk => ff.has p.1 (so.free p hp hk)
  rw [eval_ListComp]
  refine wpAny_comprehension_free (use := none) rfl hs hclos so.kind (nodup_lookup so.nodup) (he.then I ff fun v s₁ i r₁ I₁ f₁ => iter_of i hi fun ob it => ?_)
  refine comp_block (RR := fun acc C => compPost (model X.prog X.w) F.A E none (fun v s' => Is F.own s'.heap v d ∧ Rl X true s s') acc C) I₁ f₁ it so cp hz hx helt ?_
  intro Da C h' tk vs hD hC hDC hn hl hsc hk
  obtain ⟨m, hn⟩ := hn
  refine ⟨m, hn, fun h'' hs'' => ⟨?_, r₁.trans (Rl.ofKeeps I₁ (keeps_of fun b o e => (hs''.2 b (by rintro rfl; rw [hC] at e; cases e)).trans (hk b o e)))⟩⟩
  refine got_is hgot hsc ?_ ?_
  · obtain ⟨o1, ho1, r1⟩ := hl
    exact ⟨o1, (hs''.2 _ hDC).trans ho1, r1⟩
  · exact f₁.ownOk.ne hD

theorem s1_assign_comp {scope : Scope} {elt iter : Expr} {x y : PySem.Str} {px py : Pos} {f : D → D} {di : D} {pos2 : Pos} (he : EV X F true g iter di) (hi : Items di ds) (so : ScopeOk F scope) (cp : Caps F scope g gc) (hz : ds.length ≤ 1000000)
    (hx : scope.names.lookup x = some .local ∨ scope.names.lookup x = some .cell)
    (helt : ∀ C Da, ∀ d ∈ ds, EV X (compF F scope C Da) true ((x, d) :: gc) elt (f d) ∧ (f d).sc = true) (hgot : Got (ds.map f) d)
    (hs : ∀ v, foldedSetIterable iter F.env v = pure v)
    (hsw : swapsWith (.ListComp elt [⟨.Name x px, iter, [], 0⟩] scope pos) (some (.Name y py)) pos2.line F.env = pure true) (hy : F.env.kindOf y = some .local ∨ F.env.kindOf y = some .cell) :
    S1 X F g (.Assign [.Name y py] (.ListComp elt [⟨.Name x px, iter, [], 0⟩] scope pos) pos2) (.next ((y, d) :: g)) := fun s E I ff => by
  have hclos := closureFor_of scope F.env fun p hp hk => ff.has p.1 (so.free p hp hk)
  rw [exec_Assign_Name_used _ _ _ _ hsw]
  refine wpAny_bind (wpAny_standAt (wpAny_bind ?_))
  show wpAny _ F.A (do let _ ← comprehension (.ListComp elt [⟨.Name x px, iter, [], 0⟩] scope pos) scope F.env _ (newList []) false (eval iter F.env) (some (assign (.Name y py) F.env))) _ _ s
  refine wpAny_bind (wpAny_mono (wpAny_comprehension_free (use := some (assign (.Name y py) F.env)) (Q := fun _ s' => OutOk X F .next s' (.next ((y, d) :: g)) ∧ SRl X F s s') rfl hs hclos so.kind (nodup_lookup so.nodup)
    (he.then I ff fun v s₁ i r₁ I₁ f₁ => iter_of i hi fun ob it => ?_)) (fun _ s' hq => wpAny_pure (wpAny_pure hq)) fun _ _ e => e)
  refine comp_block (RR := fun acc C => compPost (model X.prog X.w) F.A E (some (assign (.Name y py) F.env)) (fun _ s' => OutOk X F .next s' (.next ((y, d) :: g)) ∧ SRl X F s s') acc C) I₁ f₁ it so cp hz hx helt ?_
  intro Da C h' tk vs hD hC hDC hn hl hsc hk
  obtain ⟨m, hn⟩ := hn
  have K : Keeps s₁ { s₁ with heap := h', toks := tk } := keeps_of hk
  have I₂ := I₁.keeps K
  have f₂ : Fits X F h' g := f₁.mono (fun b o _ e => hk b o e) I₁.tab
  have hnC : ¬ Chg F C := f₁.not_chg hC
  show wpAny _ F.A (assign (.Name y py) F.env (.ref Da)) _ _ _
  refine wpAny_assign_Name (store_ok (F := F) (s := { s₁ with heap := h', toks := tk }) I₂ f₂ hy (got_is hgot hsc hl (f₁.ownOk.ne hD)) fun h₃ tk₃ c hs₃ hc h0 hno I₃ f₃ => ?_)
  have hcC : Chg F c := by
    rcases hc with rfl | hc
    · exact .inl rfl
    · exact .inr (.inl ⟨_, hc⟩)
  have hCc : C ≠ c := by rintro rfl; exact hnC hcC
  refine ⟨m, hn.sameBut hs₃ hCc, fun h₄ hs₄ => ?_⟩
  have hn₃ := hn.sameBut hs₃ hCc
  have I₄ : Inv X { s₁ with heap := h₄, toks := tk₃ } := I₃.step fun b o hb e => (hs₄.2 b (by rintro rfl; exact hb (I₁.free hC))).trans e
  refine ⟨⟨rfl, f₃.but (fun b o _ hb e => (hs₄.2 b hb).trans e) (ns_obj' hn₃) hnC I₃.tab⟩, I₄, fun b o hb hnb e => ?_⟩
  have e1 := r₁.2.1 b o hb e
  exact (hs₄.2 b (by rintro rfl; rw [hC] at e1; cases e1)).trans ((hs₃.2 b (by rintro rfl; exact hnb hcC)).trans (hk b o e1))
end
end Mine

-- B13
namespace Mine

noncomputable def objAt (P : Params) (a : Addr) : Option Obj := (hd.heap_39 P).lookup a
def fdOf (o : Option Obj) : Option FuncData := match o with
  | some ⟨_, _, .func fd, _⟩ => some fd
  | _ => none
def stmtsOf (o : Option FuncData) : List Stmt := match o with
  | some fd => (match fd.body with | .stmts b => b | _ => [])
  | _ => []
def namesOf (o : Option FuncData) : List (PySem.Str × NameKind) := match o with
  | some fd => fd.scope.names
  | _ => []
noncomputable def bodyAt (P : Params) (a : Addr) : List Stmt := stmtsOf (fdOf (objAt P a))
noncomputable def namesAt (P : Params) (a : Addr) : List (PySem.Str × NameKind) := namesOf (fdOf (objAt P a))

structure Tp (X : Cx) : Prop where
  K : (hd.heap_39 X.w.params).In X.H0

theorem ns_some_of {K : Frag} {h : Heap} {N : Addr} {mg : PySem.Str → Option Value} {n : PySem.Str} {v : Value} (X : K.In h) (G : h.Ns N mg) (e : nsIn K N n = some (some v)) : mg n = some v := by
  obtain ⟨o, es, ep, ho, hd, _, hf⟩ := G
  unfold nsIn at e
  split at e
  · rename_i c d es' n' sl q
    have := X _ _ q
    rw [ho] at this
    cases this
    cases hd
    split at e
    · rename_i x he
      rw [← hf]
      unfold nsFind findBy
      rw [← Array.find?_toList, he]
      simpa using e
    · split at e <;> cases e
  · cases e

section
variable {X : Cx} {F : Fx} {q : Bool} {g g' : List (PySem.Str × D)} {e l r : Expr} {d a b : D} {pos : Pos} {es : List Expr} {ds : List D} {o : Out}

theorem mg_some (T : Tp X) (O : X.Ok) {n : PySem.Str} {v : Value} (e : nsIn (hd.heap_39 X.w.params) mainGlobals n = some (some v)) : X.mg n = some v := ns_some_of T.K O.g e
theorem mg_none (T : Tp X) (O : X.Ok) {n : PySem.Str} (e : nsIn (hd.heap_39 X.w.params) mainGlobals n = some none) : X.mg n = none := ns_none_of T.K O.g e

theorem bindL_skip (k : PySem.Str → Option NameKind) : ∀ (bs : List (PySem.Str × Value)) (m : PySem.Str → Option Value) (x : PySem.Str), x ∉ bs.map (·.1) → bindL k bs m x = m x
  | [], _, _, _ => rfl
  | (n, v) :: r, m, x, h => by
    unfold bindL
    rw [bindL_skip k r _ x (fun hx => h (List.mem_cons_of_mem _ hx))]
    split
    · exact if_neg (by rintro rfl; exact h List.mem_cons_self)
    · rfl
theorem bindC_skip (k : PySem.Str → Option NameKind) : ∀ (bs : List (PySem.Str × Value)) (m : PySem.Str → Option Value) (x : PySem.Str), x ∉ bs.map (·.1) → bindC k bs m x = m x
  | [], _, _, _ => rfl
  | (n, v) :: r, m, x, h => by
    unfold bindC
    rw [bindC_skip k r _ x (fun hx => h (List.mem_cons_of_mem _ hx))]
    split
    · rfl
    · exact if_neg (by rintro rfl; exact h List.mem_cons_self)
theorem zip_keys {α : Type} : ∀ (ns : List PySem.Str) (vs : List α) (x : PySem.Str), x ∈ (ns.zip vs).map (·.1) → x ∈ ns
  | [], _, _, h => by simp at h
  | n :: ns, [], _, h => by simp at h
  | n :: ns, v :: vs, x, h => by
    simp only [List.zip_cons_cons, List.map_cons, List.mem_cons] at h
    rcases h with h | h
    · exact List.mem_cons.mpr (.inl h)
    · exact List.mem_cons.mpr (.inr (zip_keys ns vs x h))
theorem bind_ok {own : Option Addr} {h : Heap} (k : PySem.Str → Option NameKind) : ∀ (ns : List PySem.Str) (vs : List Value) (ds : List D), ns.Nodup → IsAll own h vs ds → ∀ (m : PySem.Str → Option Value) (x : PySem.Str) (d : D),
    (ns.zip ds).lookup x = some d → (k x = some .local → ∃ v, bindL k (ns.zip vs) m x = some v ∧ Is own h v d) ∧ (k x ≠ some .local → ∃ v, bindC k (ns.zip vs) m x = some v ∧ Is own h v d)
  | [], _, _, _, _, _, _, _, h => by simp at h
  | n :: ns, _, _, _, .nil, _, _, _, h => by simp at h
  | n :: ns, v :: vs, d0 :: ds, hn, .cons i is, m, x, d, h => by
    rw [List.nodup_cons] at hn
    simp only [List.zip_cons_cons] at h ⊢
    rw [lookup_cons_eq] at h
    split at h
    · rename_i e
      subst e
      cases h
      constructor
      · intro hk
        refine ⟨v, ?_, i⟩
        unfold bindL
        rw [bindL_skip _ _ _ _ (fun hx => hn.1 (zip_keys _ _ _ hx)), if_pos hk, if_pos rfl]
      · intro hk
        refine ⟨v, ?_, i⟩
        unfold bindC
        rw [bindC_skip _ _ _ _ (fun hx => hn.1 (zip_keys _ _ _ hx)), if_neg hk, if_pos rfl]
    · constructor
      · intro hk
        unfold bindL
        exact (bind_ok k ns vs ds hn.2 is _ x d h).1 hk
      · intro hk
        unfold bindC
        exact (bind_ok k ns vs ds hn.2 is _ x d h).2 hk

theorem all_append {own : Option Addr} {h : Heap} : ∀ {vs ws : List Value} {ds es : List D}, IsAll own h vs ds → IsAll own h ws es → IsAll own h (vs ++ ws) (ds ++ es)
  | _, _, _, _, .nil, b => b
  | _, _, _, _, .cons r rs, b => .cons r (all_append rs b)

def calF (F : Fx) (fd : FuncData) (L fa : Addr) : Fx := { own := none, A := F.A.deeper (callEnvC fd L fa), env := callEnvC fd L fa, lv := F.lv - 1 }

/-- a call of a def -/
theorem fop_def {fa c : Addr} {ob oc : Obj} {fd : FuncData} {body : List Stmt} {names : List PySem.Str} {vsC : Array Value} {t : Tok} {ex : List Value} {exd : List D} (T : Tp X)
    (hown : F.own = none) (hlv : 1 ≤ F.lv)
    (ho : objAt X.w.params fa = some ob) (hfd : ob.data = .func fd) (hbody : fd.body = .stmts body) (hclo : fd.closure = []) (hgl : fd.globals = mainGlobals) (hbu : fd.builtins = builtinsNs)
    (hcd : fd.code = .ref c) (hco : objAt X.w.params c = some oc) (hcf : oc.data = .fields vsC) (hcq : vsC[1]? = some (.str fd.qualname t)) (hcc : oc.cls ≠ .none)
    (hnd : names.Nodup) (hex : ∀ own h, IsAll own h ex exd)
    (hbind : ∀ (s : Shared) (vs : List Value), Inv X s → vs.length = ds.length → BindsTo s fd ⟨vs, []⟩ (names.zip (vs ++ ex)))
    (hkind : ∀ x ∈ names, fd.scope.names.lookup x = some .local ∨ fd.scope.names.lookup x = some .cell)
    (h : ∀ L, SX X (calF F fd L fa) (names.zip (ds ++ exd)) body (.ret d))
    (hcor : fd.scope.isCoroutine = false := by rfl) (hgen : fd.scope.isGenerator = false := by rfl) (hk : fd.scope.kind = .function := by rfl) :
    Fop X F false (.ref fa) ds d := fun s vs E I R ok i => by
  have neP : ∀ {b : Addr} {o' : Obj}, objAt X.w.params b = some o' → (∀ ps, o' ≠ { cls := .none, data := .fields ps }) → b ≠ X.P := fun {b o'} e hne => by
    rintro rfl
    obtain ⟨ps, hp⟩ := I.P_obj
    have := T.K _ _ e
    rw [hp] at this; exact hne ps (Option.some.inj this).symm
  have hs : s.heap.get? fa = some ob := I.old (neP ho fun ps e => by rw [e] at hfd; cases hfd) (T.K _ _ ho)
  have hsc : s.heap.get? c = some oc := I.old (neP hco fun ps e => hcc (by rw [e])) (T.K _ _ hco)
  refine wpAny_call ?_
  refine codeAny_call_function (Nat.lt_of_le_of_lt (Nat.le_add_right _ _) R.depth) hs hfd hcor hgen hbody ⟨c, oc, vsC, t, hcd, hsc, hcf, hcq⟩ ?_
  refine hbind s vs I (all_len i) _ _ _ _ ?_
  rw [hclo]
  have hall : IsAll F.own s.heap (vs ++ ex) (ds ++ exd) := by
    exact all_append i (hex _ _)
  refine wpAny_newFunctionEnv_cells hk (fun x hx => ?_) fun env he s' x => ?_
  · have hx' := zip_keys _ _ _ (List.mem_map.mpr ⟨x, hx, rfl⟩)
    rcases hkind _ hx' with h | h
    · exact .inl h
    · exact .inr ⟨h, cf_has _ _ _ _ (.inr (mem_of_lookup h))⟩
  · subst he
    have hnl := I.nolimit.keeps x.toInCall.keep
    refine ⟨hnl, codeAny_func ?_⟩
    obtain ⟨h', tk, rfl, hkk⟩ := x.done
    have I' : Inv X { s with heap := h', toks := tk } := I.keeps ⟨h', tk, rfl, hkk⟩
    have hLn : s.heap.get? s.heap.objs.size = none := fresh_none _
    have mv : ∀ {v : Value} {d : D}, Is F.own s.heap v d → Is none h' v d := fun i => by rw [hown] at i; exact i.mono fun b o _ e => hkk b o e
    have f' : Fits X (calF F fd s.heap.objs.size fa) h' (names.zip (ds ++ exd)) := by
      refine ⟨I.free hLn, hk, hgl, hbu, ⟨R.handled, ?_, ?_⟩, ⟨_, x.toInCall.ns, fun y d' hy hl => ?_⟩, fun y c' hc' => ?_, fun y hy => ?_, ?_, nofun⟩
      · have := R.depth
        show F.A.depth + 1 + (F.lv - 1) < recursionLimit
        omega
      · have := R.units
        show F.A.units + 3 + 16 * (F.lv - 1) + 16 < cLine
        omega
      · obtain ⟨v, hv, iv⟩ := (bind_ok (callEnvC fd s.heap.objs.size fa).kindOf names (vs ++ ex) (ds ++ exd) hnd hall (fun _ => none) y d' hy).1 hl
        exact ⟨v, hv, mv iv⟩
      · have hc2 : (cellsFrom (s.heap.objs.size + 1) fd.scope.names []).lookup y = some c' := hc'
        have hlt := x.above y c' (mem_of_lookup hc')
        refine ⟨I.free (Heap.get?_none_of_le (Nat.le_of_lt hlt)), _, x.cell y c' hc', fun d' hd' hk' => ?_⟩
        have hnl : (callEnvC fd s.heap.objs.size fa).kindOf y ≠ some .local := by
          have hk'' : (callEnvC fd s.heap.objs.size fa).kindOf y = some .cell := hk'
          rw [hk'']; decide
        obtain ⟨v, hv, iv⟩ := (bind_ok (callEnvC fd s.heap.objs.size fa).kindOf names (vs ++ ex) (ds ++ exd) hnd hall (fun _ => none) y d' hd').2 hnl
        exact ⟨v, hv, mv iv⟩
      · exact Option.isSome_iff_exists.mp (cf_has _ _ _ _ (.inr (mem_of_lookup hy)))
      · exact fun x1 y1 c1 h1 h2 => name_of_addr x.apart (mem_of_lookup h1) (mem_of_lookup h2)
    have hrun := h s.heap.objs.size _ (fun e s' => wpAny (model X.prog X.w) (F.A.deeper (callEnvC fd s.heap.objs.size fa)) (leaving (callEnvC fd s.heap.objs.size fa) e) (fun _ s'' => E e s'') (fun e' s'' => E e' s'') s') I' f'
    refine wpAny_mono hrun (fun fl s₂ y => ?_) fun _ _ y => y
    obtain ⟨⟨v, rfl, iv⟩, r⟩ := y
    have iv' : Is none s₂.heap v d := iv
    refine ⟨by rw [hown]; exact iv', r.1, fun b o hb e => r.2 b o hb ?_ (hkk b o e), by nofun⟩
    rintro (hb' | ⟨y, hy⟩ | hb')
    · have hb2 : b = s.heap.objs.size := hb'
      rw [hb2, hLn] at e; cases e
    · have hlt : s.heap.objs.size < b := x.above y b (mem_of_lookup hy)
      rw [Heap.get?_none_of_le (Nat.le_of_lt hlt)] at e; cases e
    · cases hb'
end
end Mine

-- B14
namespace Mine

theorem grow' {h₁ h₀ h h' : Heap} {c P : Addr} {ps more : Array Value} (B : Based h₁ h₀ c P ps) (k : ∀ b o, h₀.get? b = some o → h.get? b = some o) (hx : Heap.ExtBut P h h') (hc' : h'.IsCode c P (ps ++ more)) (ht' : h'.TableAt c P (ps ++ more)) :
    Based h₁ (regrown h₀ P (ps ++ more)) c P (ps ++ more) ∧ ∀ b o, (regrown h₀ P (ps ++ more)).get? b = some o → h'.get? b = some o := by
  have hcP : c ≠ P := by obtain ⟨_, _, _, _, _, _, _, _, _, _, _, _, _, _, _, _, _, _, _, _, x⟩ := B.code; exact x
  have hself : (regrown h₀ P (ps ++ more)).get? P = some { cls := .none, data := .fields (ps ++ more) } := Heap.get?_update_self _ B.tab.2 rfl
  have hoth : ∀ b, b ≠ P → (regrown h₀ P (ps ++ more)).get? b = h₀.get? b := fun b hb => Heap.get?_update_other _ _ (Ne.symm hb)
  have keep' : ∀ b o, (regrown h₀ P (ps ++ more)).get? b = some o → h'.get? b = some o := fun b o e => by
    by_cases hb : b = P
    · subst hb; rw [hself] at e; cases e; exact ht'.2
    · rw [hoth b hb] at e; exact hx b o hb (k b o e)
  have htab' : (regrown h₀ P (ps ++ more)).TableAt c P (ps ++ more) :=
    let ⟨⟨o, vs, e, r⟩, _⟩ := B.tab; ⟨⟨o, vs, (hoth c hcP).trans e, r⟩, hself⟩
  have hcode' : (regrown h₀ P (ps ++ more)).IsCode c P (ps ++ more) := by
    obtain ⟨o, vs, file, tf, flags, tg, inF, text, tt, op, ho, r1, r2, r3, r4, r5, r6, _, _, _, r9⟩ := B.code
    obtain ⟨o', vs', file', tf', flags', tg', inF', text', tt', op', ho', _, _, _, _, _, _, hop', hpd', htr', _⟩ := hc'
    exact ⟨o, vs, file, tf, flags, tg, inF, text, tt, _, (hoth c hcP).trans ho, r1, r2, r3, r4, r5, r6, hself, rfl, htr', r9⟩
  obtain ⟨ps₁, ht₁⟩ := B.tab₁
  exact ⟨⟨B.old.step_table ht₁ B.tab htab' (fun b o hb e => (hoth b hb).trans e) B.notStatics, ⟨(Heap.SameBut.update h₀ P _).1.trans B.same.1, fun b hb => (hoth b hb).trans (B.same.2 b hb)⟩, hcode', htab', ⟨ps₁, ht₁⟩, B.notStatics⟩, keep'⟩

/-- the same frame of the world, with nothing asked of generators and the system -/
def Cx.free (X : Cx) : Cx := { X with ext := fun _ _ => True }
def genF (A : Around) (scope : Scope) (C : Addr) (code : Value) (env : Env) : Fx := { own := none, A := A, env := genEnv scope [] C code builtinsNs env, lv := 0 }

section
variable {X : Cx} {F : Fx} {q : Bool} {g g' : List (PySem.Str × D)} {e l r : Expr} {d a b : D} {pos : Pos} {es : List Expr} {ds : List D} {o : Out}

theorem gen_code {s : Shared} {scope : Scope} {qual : PySem.Str} {Q : Value → Shared → Prop} {E : Value → Shared → Prop} (I : Inv X s) (hcode : F.env.code = .ref X.c)
    (k : ∀ c' h' tk, (∀ b o, b ≠ X.P → s.heap.get? b = some o → h'.get? b = some o) → s.heap.objs.size ≤ h'.objs.size → Inv X { s with heap := h', toks := tk } → Q c' { s with heap := h', toks := tk }) :
    wpAny (model X.prog X.w) F.A (genexprCode F.env pos qual scope) Q E s := by
  obtain ⟨h₀, ps, B, kk⟩ := I.base
  cases hf : codeAmong pos ps.toList with
  | some c' => exact wpAny_genexprCode_hit hcode (B.code.keeps kk) hf (k c' s.heap s.toks (fun _ _ _ e => e) (Nat.le_refl _) I)
  | none =>
    refine wpAny_genexprCodeX hcode (B.code.keeps kk) (B.tab.keeps kk) hf fun c' h' tk hx hge hlt hc' _ ht' _ => ?_
    obtain ⟨B', k'⟩ := grow' B kk hx hc' ht'
    exact k _ h' tk (fun b o hb e => hx b o hb e) (Nat.le_trans hge (Nat.le_of_lt hlt)) ⟨I.ok, ⟨_, _, B', k'⟩, I.ext⟩

/-- a generator at hand: of Bools -/
structure Gn (X : Cx) (F : Fx) (s : Shared) (n : Nat) (p : Nat → Bool) (a : Addr) (s₅ : Shared) : Prop where
  walk : ∃ fp wr gi St, WalksS X.prog X.w F.A.in4 a fp wr (GenOnlyQ gi) n (fun j v => v = .bool (p j)) St ∧ St 0 s₅ ∧ ∀ b ∈ wr, s.heap.get? b = none
  rl : Rl X false s s₅
  gens : AllBare s.gens → AllBare s₅.gens
  os : s₅.os = s.os

theorem gen_eval {scope : Scope} {elt iter : Expr} {x y : PySem.Str} {px : Pos} {p : PySem.Str → Bool} {s : Shared} {Q : Value → Shared → Prop} {E : Value → Shared → Prop} (I : Inv X s) (ff : Fits X F s.heap g) (hbare : AllBare s.gens)
    (hext : ∀ gs os, X.ext gs os ↔ AllBare gs ∧ os = s.os)
    (he : EV X F true g iter (.str y)) (hcode : F.env.code = .ref X.c)
    (hco : scope.isCoroutine = false) (hclos : closureFor scope F.env = pure []) (hcell : ∀ y ∈ scope.names, y.2 ≠ .cell) (h0 : scope.names.lookup (".0" : PySem.Str) = some NameKind.local)
    (hx : scope.names.lookup x = some .local) (hkind : scope.kind = .function) (hlv : 2 ≤ F.lv)
    (helt : ∀ A C code, ∀ ch ∈ signs y, EV X.free (genF A scope C code F.env) true [(x, .str ch)] elt (.bool (p ch)))
    (hs : ∀ v, genFold iter F.env v = pure v)
    (hQ : ∀ a s₅, Gn X F s (signs y).length (fun j => p ((signs y)[j]?.getD "")) a s₅ → Q (.ref a) s₅) :
    wpAny (model X.prog X.w) F.A (eval (.GeneratorExp elt [⟨.Name x px, iter, [], 0⟩] scope pos) F.env) Q E s := by
  have hroom : F.A.depth < recursionLimit := Nat.lt_of_le_of_lt (Nat.le_add_right _ _) ff.rm.depth
  refine wpAny_GeneratorExp_walksQD ff.rm.handled hco hclos hcell h0 hx hkind hroom (he.then I ff fun v s₁ i r₁ I₁ f₁ => iter_of i (.str y) fun ob it => ?_) hs
  obtain ⟨fp, St, W, hst, hfp, hobj⟩ := it.walk
  generalize hJ : s₁.heap.objs.size = J at *
  have hJn : s₁.heap.get? J = none := by rw [← hJ]; exact fresh_none _
  have I₂ : Inv X { s₁ with heap := s₁.heap.push ob } := I₁.keeps (keeps_push _ _ _)
  have keep₂ : ∀ b o, s₁.heap.get? b = some o → (s₁.heap.push ob).get? b = some o := fun b o e => Heap.get?_push_of_some _ e
  refine ⟨I₂.nolimit, gen_code I₂ hcode fun c' h₃ tk₃ hk₃ hsz₃ I₃ => ?_⟩
  have M₃ := I₃.bmod
  rw [f₁.glob]
  refine wpAny_builtinsFor M₃.ns M₃.name M₃.ne M₃.obj M₃.cls M₃.dict M₃.data ?_
  have hlen : (signs y).length = ((signs y).map D.str).length := by simp
  have hsz2 : (s₁.heap.push ob).objs.size = J + 1 := by rw [Heap.size_push, hJ]
  have hJP : J ≠ X.P := I₁.ne_P (I₁.free hJn)
  have k₁ : Keeps s s₁ := r₁.2.2 rfl
  obtain ⟨h₁', t₁', e₁', kk₁⟩ := k₁
  have hsJ : ∀ b, J ≤ b → s.heap.get? b = none := fun b hb => by
    cases hc : s.heap.get? b with
    | none => rfl
    | some o =>
      have := keeps_get (r₁.2.2 rfl) hc
      exact absurd (Heap.lt_size this) (Nat.not_lt.mpr (by rw [hJ]; exact hb))
  refine ⟨J, fp, [J], (signs y).length, (fun j v => ∃ d, ((signs y).map D.str)[j]? = some d ∧ Sc v d), St, (fun _ => true), (fun j v => v = .bool (p ((signs y)[j]?.getD ""))), rfl,
    (fun A' hA => walks_len (W A' hA) (by simp)), (W F.A f₁.rm.handled).frame _ _ _ hst (fun b hb o e => hk₃ b o ?_ e), (fun b hb => ?_), I₃.nolimit, ?_, (fun href hhref => ?_), fun a h₅ tk gs hgb hag hsz₅ hk₅ W' hat => ?_⟩
  · rintro rfl
    rcases hfp _ hb with e' | ⟨ob', hob', hst', _⟩
    · exact hJP e'.symm
    · obtain ⟨ps, hp⟩ := I₁.tab; rw [hp] at hob'; cases hob'; exact hst'.ne rfl
  · refine Nat.lt_of_lt_of_le ?_ hsz₃
    show b < (s₁.heap.push ob).objs.size
    rw [hsz2]
    rcases hfp _ hb with rfl | ⟨ob', hob', hst', _⟩
    · exact Nat.lt_succ_self _
    · have := Heap.lt_size hob'
      rw [hJ] at this
      exact Nat.lt_succ_of_lt this
  · intro hm
    have : cStatics = J := by simpa using hm
    obtain ⟨mc, hn, _⟩ := I₁.nolimit
    obtain ⟨o', _, _, ho', _⟩ := hn
    rw [this, hJn] at ho'; cases ho'
  · have main : ∀ (A' : Around) E' (i : Nat) (v : Value) (s₂ : Shared) m₂, A'.handled = none → A'.depth ≤ F.A.depth + 1 → A'.units ≤ F.A.units + 8 → (∃ d, ((signs y).map D.str)[i]? = some d ∧ Sc v d) → s₂.heap.Ns h₃.objs.size m₂ → m₂ x = some v →
        (∀ b ∈ List.range h₃.objs.size, b ∉ [J] → ∀ o, href.get? b = some o → s₂.heap.get? b = some o) →
        wpAny (model X.prog X.w) A' (eval elt (genEnv scope [] h₃.objs.size c' builtinsNs F.env)) (fun y' s₃ => y' = .bool (p ((signs y)[i]?.getD "")) ∧ Keeps s₂ s₃) E' s₂ := by
      intro A' E' i v s₂ m₂ hA hD hU hP hn hm hkp
      obtain ⟨dd, hdd, hsc⟩ := hP
      rw [List.getElem?_map] at hdd
      obtain ⟨ch, hch, rfl⟩ := Option.map_eq_some_iff.mp hdd
      have hk : ∀ b o, b ≠ J → h₃.get? b = some o → s₂.heap.get? b = some o := fun b o hb e => hkp b (List.mem_range.mpr (Heap.lt_size e)) (by simpa using hb) o (hhref b o e)
      have Iu : Inv X.free s₂ := by
        obtain ⟨h₀, ps, B, kk⟩ := I₃.base
        refine ⟨⟨I₃.ok.g, I₃.ok.b, I₃.ok.nolimit, I₃.ok.bmod, I₃.ok.builtins⟩, ⟨h₀, ps, B, fun b o e => hk b o ?_ (kk b o e)⟩, trivial⟩
        rintro rfl
        rw [B.fresh (I₁.free hJn)] at e; cases e
      have hCfree : X.H0.get? h₃.objs.size = none := I₃.free (fresh_none _)
      have fu : Fits X.free (genF A' scope h₃.objs.size c' F.env) s₂.heap [(x, .str ch)] := by
        refine ⟨hCfree, hkind, ff.glob, rfl, ⟨hA, ?_, ?_⟩, ⟨m₂, hn, fun y' d' hy hl => ?_⟩, fun y' c₂ hc₂ => (by cases hc₂), fun y' hy => ?_, fun _ _ _ h => (by cases h), nofun⟩
        · have := ff.rm.depth
          show A'.depth + 0 < recursionLimit
          omega
        · have := ff.rm.units
          show A'.units + 16 * 0 + 16 < cLine
          omega
        · rw [lookup_cons_eq] at hy
          split at hy
          · rename_i e'; subst e'; cases hy; exact ⟨v, hm, hsc.is _ _⟩
          · cases hy
        · exact absurd rfl (hcell _ (mem_of_lookup hy))
      refine wpAny_mono (helt A' h₃.objs.size c' ch (List.mem_of_getElem? hch) s₂ E' Iu fu) (fun w s₃ z => ?_) fun _ _ z => z
      obtain ⟨iz, rz⟩ := z
      cases iz
      exact ⟨by rw [hch]; rfl, rz.2.2 rfl⟩
    exact ⟨fun A' E' i v s₂ m₂ hA hD hU hP hn hm hkp => wpAny_pure ⟨rfl, keeps_refl _⟩, fun A' E' i v s₂ m₂ hA hD hU hP _ hn hm hkp => main A' E' i v s₂ m₂ hA hD hU hP hn hm hkp⟩
  · have hpass : passing (fun _ => true) (signs y).length 0 = List.range (signs y).length := by simp [passing]
    rw [hpass, List.length_range] at W'
    have e1 : ∀ {b o}, b ≠ X.P → s.heap.get? b = some o → h₃.get? b = some o := fun hb e => hk₃ _ _ hb (keep₂ _ _ (keeps_get (r₁.2.2 rfl) e))
    refine hQ a _ ⟨⟨_, _, _, _, W'.imp fun j v hv => ?_, hat, fun b hb => ?_⟩, ⟨?_, fun b o hb e => hk₅ b o (e1 hb e), nofun⟩, fun hb => ?_, ?_⟩
    · obtain ⟨i, hi, hv⟩ := hv
      have hj : j < (signs y).length := by
        by_cases h : j < (signs y).length
        · exact h
        · rw [List.getElem?_eq_none (by simpa using Nat.not_lt.mp h)] at hi; cases hi
      have : i = j := by simpa [hj] using hi.symm
      rw [this] at hv; exact hv
    · rcases List.mem_cons.mp hb with rfl | hb
      · have : J ≤ h₃.objs.size := by
          have h2 := hsz₃
          have h3 : (s₁.heap.push ob).objs.size ≤ h₃.objs.size := h2
          rw [hsz2] at h3; omega
        exact hsJ _ this
      · have : b = J := by simpa using hb
        exact this ▸ hsJ _ (Nat.le_refl _)
    · obtain ⟨h₀, ps, B, kk⟩ := I₃.base
      refine ⟨I₃.ok, ⟨h₀, ps, B, fun b o e => hk₅ b o (kk b o e)⟩, ?_⟩
      have hx3 := (hext _ _).mp I₃.ext
      exact (hext _ _).mpr ⟨AllBare.push hx3.1 hgb, hx3.2⟩
    · have hx3 := (hext _ _).mp I₃.ext
      exact AllBare.push hx3.1 hgb
    · exact ((hext _ _).mp I₃.ext).2
end
end Mine

-- B15
namespace Mine

/-- what stands all the while: the program's own heap, the world's measure -/
structure Gd (X : Cx) : Prop where
  T : Tp X
  ext : ∃ os0, ∀ gs os, X.ext gs os ↔ AllBare gs ∧ os = os0

section
variable {X : Cx} {F : Fx} {q : Bool} {g g' : List (PySem.Str × D)} {e l r : Expr} {d a b : D} {pos : Pos} {es : List Expr} {ds : List D} {o : Out}

theorem any_rangeG (B : List PySem.Str) (p : PySem.Str → Bool) : (List.range B.length).any (fun j => p (B[j]?.getD "")) = B.any p := by
  rw [Bool.eq_iff_iff, List.any_eq_true, List.any_eq_true]
  constructor
  · rintro ⟨j, hj, h⟩
    have hj' := List.mem_range.mp hj
    exact ⟨B[j], List.getElem_mem hj', by simpa [List.getElem?_eq_getElem hj'] using h⟩
  · rintro ⟨b, hb, h⟩
    obtain ⟨j, hj, rfl⟩ := List.getElem_of_mem hb
    exact ⟨j, List.mem_range.mpr hj, by simpa [List.getElem?_eq_getElem hj] using h⟩
theorem all_rangeG (B : List PySem.Str) (p : PySem.Str → Bool) : (List.range B.length).all (fun j => p (B[j]?.getD "")) = B.all p := by
  rw [Bool.eq_iff_iff, List.all_eq_true, List.all_eq_true]
  constructor
  · intro h b hb
    obtain ⟨j, hj, rfl⟩ := List.getElem_of_mem hb
    simpa [List.getElem?_eq_getElem hj] using h j (List.mem_range.mpr hj)
  · intro h j hj
    have hj' := List.mem_range.mp hj
    simpa [List.getElem?_eq_getElem hj'] using h _ (List.getElem_mem hj')

theorem gn_after {s : Shared} {n : Nat} {p : Nat → Bool} {ga : Addr} {s₅ s' : Shared} {wr : List Addr} {gi : Nat} (os0 : OsState) (hext : ∀ gs os, X.ext gs os ↔ AllBare gs ∧ os = os0) (I : Inv X s) (G : Gn X F s n p ga s₅) (hwr : ∀ b ∈ wr, s.heap.get? b = none) (hm : Moved wr (GenOnlyQ gi) s₅ s') :
    Rl X false s s' := by
  have I₅ := G.rl.inv
  have h5 := (hext _ _).mp I₅.ext
  refine ⟨⟨I₅.ok, ?_, (hext _ _).mpr ⟨h5.1.movedS hm, hm.os.trans h5.2⟩⟩, fun b o hb e => hm.heap b o ?_ (G.rl.2.1 b o hb e), nofun⟩
  · obtain ⟨h₀, ps, B, kk⟩ := I₅.base
    refine ⟨h₀, ps, B, fun b o e => hm.heap b o (fun hb => ?_) (kk b o e)⟩
    have := B.fresh (I.free (hwr b hb))
    rw [e] at this; cases this
  · intro hb
    rw [hwr b hb] at e; cases e

theorem ev_any {np gpos : Pos} {scope : Scope} {elt iter : Expr} {x y : PySem.Str} {px : Pos} {p : PySem.Str → Bool} (Gx : Gd X)
    (hk : F.env.kindOf "any" = some .globalImplicit) (hm : X.mg "any" = none)
    (he : EV X F true g iter (.str y)) (hcode : F.env.code = .ref X.c)
    (hco : scope.isCoroutine = false) (hclos : closureFor scope F.env = pure []) (hcell : ∀ y ∈ scope.names, y.2 ≠ .cell) (h0 : scope.names.lookup (".0" : PySem.Str) = some NameKind.local)
    (hx : scope.names.lookup x = some .local) (hkind : scope.kind = .function) (hlv : 2 ≤ F.lv)
    (helt : ∀ A C code, ∀ ch ∈ signs y, EV X.free (genF A scope C code F.env) true [(x, .str ch)] elt (.bool (p ch)))
    (hs : ∀ v, genFold iter F.env v = pure v) :
    EV X F false g (.Call (.Name "any" np) [.GeneratorExp elt [⟨.Name x px, iter, [], 0⟩] scope gpos] [] pos) (.bool ((signs y).any p)) := fun s E I f => by
  obtain ⟨os0, hext⟩ := Gx.ext
  have h0' := (hext _ _).mp I.ext
  refine wpAny_Call_NameR (load_builtin I f hk hm (v := .builtin "any") (by rfl) (by decide) ?_ (by decide))
  rw [trees_plain _ _ _ rfl]
  refine Calls.callWith_builtin (by simp) (args_of (by simp) (spliced_cons (gen_eval I f h0'.1 (by rw [h0'.2]; exact hext) he hcode hco hclos hcell h0 hx hkind hlv helt hs fun ga s₅ G => spliced_nil ?_)))
  obtain ⟨fp, wr, gi, St, W, hst, hwr⟩ := G.walk
  have W1 := W.in4_1
  refine call_any_walkS (W1.self 0 _ _ _ hst ⟨ga, _, _, _, _, _, _, (fun j => p ((signs y)[j]?.getD "")), rfl, W1, hst, fun j v s Q E hv hQ => ?_, fun s' hm => ⟨?_, gn_after os0 hext I G hwr hm⟩⟩)
  · subst hv; exact wpAny_truthy_bool hQ
  · rw [any_rangeG]; exact .bool _
theorem ev_all {np gpos : Pos} {scope : Scope} {elt iter : Expr} {x y : PySem.Str} {px : Pos} {p : PySem.Str → Bool} (Gx : Gd X)
    (hk : F.env.kindOf "all" = some .globalImplicit) (hm : X.mg "all" = none)
    (he : EV X F true g iter (.str y)) (hcode : F.env.code = .ref X.c)
    (hco : scope.isCoroutine = false) (hclos : closureFor scope F.env = pure []) (hcell : ∀ y ∈ scope.names, y.2 ≠ .cell) (h0 : scope.names.lookup (".0" : PySem.Str) = some NameKind.local)
    (hx : scope.names.lookup x = some .local) (hkind : scope.kind = .function) (hlv : 2 ≤ F.lv)
    (helt : ∀ A C code, ∀ ch ∈ signs y, EV X.free (genF A scope C code F.env) true [(x, .str ch)] elt (.bool (p ch)))
    (hs : ∀ v, genFold iter F.env v = pure v) :
    EV X F false g (.Call (.Name "all" np) [.GeneratorExp elt [⟨.Name x px, iter, [], 0⟩] scope gpos] [] pos) (.bool ((signs y).all p)) := fun s E I f => by
  obtain ⟨os0, hext⟩ := Gx.ext
  have h0' := (hext _ _).mp I.ext
  refine wpAny_Call_NameR (load_builtin I f hk hm (v := .builtin "all") (by rfl) (by decide) ?_ (by decide))
  rw [trees_plain _ _ _ rfl]
  refine Calls.callWith_builtin (by simp) (args_of (by simp) (spliced_cons (gen_eval I f h0'.1 (by rw [h0'.2]; exact hext) he hcode hco hclos hcell h0 hx hkind hlv helt hs fun ga s₅ G => spliced_nil ?_)))
  obtain ⟨fp, wr, gi, St, W, hst, hwr⟩ := G.walk
  have W1 := W.in4_1
  refine call_all_walkS (W1.self 0 _ _ _ hst ⟨ga, _, _, _, _, _, _, (fun j => p ((signs y)[j]?.getD "")), rfl, W1, hst, fun j v s Q E hv hQ => ?_, fun s' hm => ⟨?_, gn_after os0 hext I G hwr hm⟩⟩)
  · subst hv; exact wpAny_truthy_bool hQ
  · rw [all_rangeG]; exact .bool _

-- in place
theorem iop_add {m n : Int} : Iop X F .Add (.int m) (.int n) (.int (m + n)) := fun s u v I _ hu hv E => by
  cases hu; cases hv; exact PyProof.Rows.iadd_int ⟨.int _ _, rl_tok I _⟩
theorem iop_sub {m n : Int} : Iop X F .Sub (.int m) (.int n) (.int (m - n)) := fun s u v I _ hu hv E => by
  cases hu; cases hv; exact PyProof.Rows.isub_int ⟨.int _ _, rl_tok I _⟩
theorem iop_xor {m n : Int} : Iop X F .BitXor (.int m) (.int n) (.int (Builtin.bitXor m n)) := fun s u v I _ hu hv E => by
  cases hu; cases hv; exact PyProof.Rows.ixor_int ⟨.int _ _, rl_tok I _⟩
end
end Mine

-- B16
namespace Mine

def isTab (o : Obj) : Bool := match o.cls, o.data with
  | .none, .fields _ => true
  | _, _ => false
theorem frag_ok (P : Params) : ((hd.heap_39 P).all fun p => !isTab p.2) = true := by rfl
theorem lookup_mem' {K : Frag} {a : Addr} {o : Obj} (e : K.lookup a = some o) : (a, o) ∈ K := by
  induction K with
  | nil => cases e
  | cons p r ih =>
    obtain ⟨b, x⟩ := p
    simp only [List.lookup] at e
    split at e
    · rename_i q; cases e; rw [beq_iff_eq.mp q]; exact List.mem_cons_self
    · exact List.mem_cons_of_mem _ (ih e)

section
variable {X : Cx} {F : Fx} {q : Bool} {g g' : List (PySem.Str × D)} {e l r : Expr} {d a b c : D} {pos : Pos} {es : List Expr} {ds : List D} {o : Out}

theorem Inv.K {s : Shared} (I : Inv X s) (T : Tp X) : (hd.heap_39 X.w.params).In s.heap := fun a o e => by
  refine I.old ?_ (T.K a o e)
  rintro rfl
  obtain ⟨ps, hp⟩ := I.P_obj
  have := T.K _ _ e
  rw [hp] at this
  have h2 := List.all_eq_true.mp (frag_ok X.w.params) _ (lookup_mem' e)
  rw [← Option.some.inj this] at h2
  simp [isTab] at h2

theorem ev_clsattr {n attr : PySem.Str} {np : Pos} {C : Addr} {mc : Value} {i : Int} {t : Tok} (T : Tp X) (hdb : (n == ("__debug__" : PySem.Str)) = false) (hk : F.env.kindOf n = some .globalImplicit) (hm : X.mg n = some (.ref C))
    (hr : readsIn (hd.heap_39 X.w.params) C mc = true) (he : findCls (hd.heap_39 X.w.params) (.ref C) mc attr = some (.val (.int i t))) : EV X F q g (.Attribute (.Name n np) attr pos) (.int i) := fun s E I f =>
  Attribute_name (load_global I f hk hm (cls_value (I.K T) hr he rfl ⟨.int _ _, rl_tok I _⟩) hdb)

theorem ev_tailT {l : Expr} {p cp : Pos} {k : Nat} (hl : EV X F q g l (.tup (a :: ds))) (hz : ds.length ≤ 1000) : EV X F q g (.Subscript l (.Slice (some (.Constant (.int 1) k cp)) none none p) pos) (.tup ds) := fun s E I f =>
  PyProof.Rows.Subscript_ (hl.then I f fun u s₁ i₁ r₁ I₁ f₁ => wpAny_Slice (wpAny_Constant_int (pos := cp) (k := k) (wpAny_pure (wpAny_pure (by
    generalize hs₂ : ({ s₁ with toks := s₁.toks + 1 } : Shared) = s₂
    have K12 : Keeps s₁ s₂ := hs₂ ▸ keeps_tok _ _
    have i₂ := (Rl.ofKeeps (q := true) I₁ K12).is I₁ i₁
    have I₂ := I₁.keeps K12
    have f₂ : Fits X F s₂.heap g := f₁.rl I₁ (Rl.ofKeeps (q := true) I₁ K12)
    cases i₂ with
    | tup hl hi ho =>
      rename_i t vs
      have K3 : Keeps s₂ { s₂ with heap := s₂.heap.push { cls := .type "slice", data := .fields #[.int 1 s₁.toks, .none, .none] } } := keeps_push _ _ s₂.toks
      have I₃ := I₂.keeps K3
      have f₃ := f₂.rl I₂ (Rl.ofKeeps (q := true) I₂ K3)
      have hT : ({ s₂ with heap := s₂.heap.push { cls := .type "slice", data := .fields #[.int 1 s₁.toks, .none, .none] } } : Shared).TypeIs (.ref t) "tuple" := (hl.push _).typeIs
      have hlen := all_len hi
      have hdrop : IsAll F.own s₂.heap (vs.drop 1) ds := by simpa using all_drop hi 1
      unfold subscriptTail
      refine wpAny_bind ?_
      rw [getitemInPython_of_ne hT.not_modules]
      refine wpAny_bind (wpAny_specialOf hT getitem_tuple ?_)
      have fin : wpAny (model X.prog X.w) F.A (subscripted (.Slice (some (.Constant (.int 1) k cp)) none none p) false (.ref t) (.ref s₂.heap.objs.size)) (fun w s₃ => wpAny (model X.prog X.w) F.A (letTemporaryGo l (.ref t) w >>= fun _ => pure w) (fun v s' => Is F.own s'.heap v (.tup ds) ∧ Rl X q s s') E s₃) E
          { s₂ with heap := s₂.heap.push { cls := .type "slice", data := .fields #[.int 1 s₁.toks, .none, .none] } } := by
        show wpAny _ _ (operate [.ref s₂.heap.objs.size, .ref t] (getItem (.ref t) (.ref s₂.heap.objs.size))) _ _ _
        refine wpAny_operating (getItem_tuple_from (a := 1) (u := s₁.toks) (hl.push _) (Heap.IsSliceOf.new ..) (Nat.le_refl _) (by simp [hlen]) ?_ (by simp [hlen, sizeLine]; omega))
        refine wpAny_bind (wpAny_letTemporaryGo (wpAny_pure ⟨?_, ?_⟩))
        · refine .tup new_tup ?_ f₃.ownOk.fresh
          have e2 : vs.toArray.toList.drop 1 = vs.drop 1 := by simp
          rw [e2]
          exact hdrop.mono fun b o _ e => Heap.get?_push_of_some _ (Heap.get?_push_of_some _ e)
        · exact r₁.trans (Rl.ofKeeps I₁ (keeps_trans K12 (keeps_trans K3 (keeps_push _ _ s₂.toks))))
      first
        | exact wpAny_pure (wpAny_bind fin)
        | exact wpAny_bind (wpAny_pure (wpAny_bind fin))
        | exact wpAny_bind fin)))))

-- a store, step by step
theorem store_step {x : PySem.Str} {px : Pos} {v : Value} {s : Shared} {Q : Unit → Shared → Prop} {E : Value → Shared → Prop} (I : Inv X s) (f : Fits X F s.heap g) (hx : F.env.kindOf x = some .local ∨ F.env.kindOf x = some .cell) (i : Is F.own s.heap v d)
    (k : ∀ s', SRl X F s s' → (∀ w dd, Is F.own s.heap w dd → Is F.own s'.heap w dd) → Fits X F s'.heap ((x, d) :: g) → Q () s') : wpAny (model X.prog X.w) F.A (assign (.Name x px) F.env v) Q E s :=
  wpAny_assign_Name (store_ok I f hx i fun h' tk c hs' hc h0 hno I₂ f₂ => k _ ⟨I₂, fun b o hb hn e => (hs'.2 b (by
    rintro rfl
    rcases hc with rfl | hc
    · exact hn (.inl rfl)
    · exact hn (.inr (.inl ⟨_, hc⟩)))).trans e⟩ (fun w dd hi => hi.mono (stable_same hs' hno)) f₂)

theorem s1_unpack3 {x y z : PySem.Str} {px py pz tp : Pos} {k : Nat} (he : EV X F false g e (.tup [a, b, c])) (hx : F.env.kindOf x = some .local) (hy : F.env.kindOf y = some .local) (hz : F.env.kindOf z = some .local)
    (hs : swapsWithSole [.Tuple [.Name x px, .Name y py, .Name z pz] k tp] e pos.line F.env = pure false) (hw : swappedStores [.Tuple [.Name x px, .Name y py, .Name z pz] k tp] e F.env = pure none) :
    S1 X F g (.Assign [.Tuple [.Name x px, .Name y py, .Name z pz] k tp] e pos) (.next ((z, c) :: (y, b) :: (x, a) :: g)) := fun s E I f =>
  Assign_Tuple (he.then I f fun v s₁ i r I₁ f₁ => by
    cases i with
    | tup hl hi ho =>
      rename_i t vs
      cases hi with
      | cons i1 hi => cases hi with
        | cons i2 hi => cases hi with
          | cons i3 hi => cases hi with
            | nil =>
              rename_i v1 v2 v3
              refine assign_Tuple_tuple f₁.rm.handled hl rfl rfl fun h' hx' => ?_
              have K : Keeps s₁ { s₁ with heap := h', toks := s₁.toks } := keeps_of fun b o e => hx' b o (Nat.ne_of_lt (Heap.lt_size e)) e
              have R := Rl.ofKeeps (q := true) I₁ K
              have I₂ := I₁.keeps K
              have f₂ := f₁.rl I₁ R
              show wpAny _ _ (assignInOrder [assign (.Name x px) F.env, assign (.Name y py) F.env, assign (.Name z pz) F.env] [v1, v2, v3]) _ _ { s₁ with heap := h', toks := s₁.toks }
              refine assignInOrder_cons (store_step I₂ f₂ (.inl hx) (R.is I₁ i1) fun s₃ r₃ m₃ f₃ => assignInOrder_cons (store_step r₃.1 f₃ (.inl hy) (m₃ _ _ (R.is I₁ i2)) fun s₄ r₄ m₄ f₄ =>
                assignInOrder_cons (store_step r₄.1 f₄ (.inl hz) (m₄ _ _ (m₃ _ _ (R.is I₁ i3))) fun s₅ r₅ m₅ f₅ => assignInOrder_nil ⟨⟨rfl, f₅⟩, (((SRl.of r).trans (SRl.of R)).trans r₃).trans (r₄.trans r₅)⟩)))) hs hw
end
end Mine

-- B17
namespace Mine

section
variable {X : Cx} {F : Fx} {q : Bool} {g g' : List (PySem.Str × D)} {e l r : Expr} {d a b c : D} {pos : Pos} {es : List Expr} {ds : List D} {o : Out}

/-- as EV, and then a token is out -/
def EVp (X : Cx) (F : Fx) (q : Bool) (g : List (PySem.Str × D)) (e : Expr) (d : D) : Prop :=
  ∀ (s : Shared) (E : Value → Shared → Prop), Inv X s → Fits X F s.heap g → wpAny (model X.prog X.w) F.A (eval e F.env) (fun v s' => Is F.own s'.heap v d ∧ Rl X q s s' ∧ 0 < s'.toks) E s
def EVq (X : Cx) (F : Fx) (q : Bool) (g : List (PySem.Str × D)) (e : Expr) (d : D) : Prop :=
  ∀ (s : Shared) (E : Value → Shared → Prop), 0 < s.toks → Inv X s → Fits X F s.heap g → wpAny (model X.prog X.w) F.A (eval e F.env) (fun v s' => Is F.own s'.heap v d ∧ Rl X q s s') E s

theorem evs_pq {e e' : Expr} {d d' : D} (h : EVp X F q g e d) (h' : EVq X F q g e' d') (hs : EVs X F q g es ds) : EVs X F q g (e :: e' :: es) (d :: d' :: ds) := fun s E I f =>
  spliced_cons (wpAny_mono (h s E I f) (fun v s₁ x => by
    obtain ⟨i, r, ht⟩ := x
    have f₁ := f.rl I r
    refine spliced_cons (wpAny_mono (h' s₁ E ht r.inv f₁) (fun v' s₂ x => ?_) fun _ _ x => x)
    obtain ⟨i', r'⟩ := x
    exact wpAny_mono (hs s₂ E r'.inv (f₁.rl r.inv r')) (fun vs s₃ x => ⟨.cons (x.2.is r'.inv (r'.is r.inv i)) (.cons (x.2.is r'.inv i') x.1), (r.trans r').trans x.2⟩) fun _ _ x => x) fun _ _ x => x)

theorem evp_addconst {x y : PySem.Str} {k : Nat} {cp : Pos} (hl : EV X F q g l (.str x)) (hz : x.length + y.length ≤ 1000000) : EVp X F q g (.BinOp l .Add (.Constant (.str y) k cp) pos) (.str (x ++ y)) := fun s E I f =>
  wpAny_BinOp (hl.then I f fun u s₁ i₁ r₁ I₁ f₁ => wpAny_Constant_str (by
    cases i₁ with
    | str _ t =>
      refine PySem.P.add_str ?_
      have K : ∀ tk, Keeps s₁ { s₁ with toks := tk } := fun tk => keeps_tok _ _
      have e3 : x.length + y.length ≤ sizeLine := Nat.le_trans hz (by decide)
      split
      · rename_i h0
        rw [Str.append_left_empty h0]
        exact ⟨.str _ _, r₁.trans (Rl.ofKeeps I₁ (K _)), Nat.succ_pos _⟩
      · split
        · rename_i h0
          rw [Str.append_right_empty h0]
          exact ⟨.str _ _, r₁.trans (Rl.ofKeeps I₁ (K _)), Nat.succ_pos _⟩
        · refine ⟨?_, .str _ _, r₁.trans (Rl.ofKeeps I₁ (K _)), Nat.succ_pos _⟩
          have : (x ++ y).length = x.length + y.length := by
            show (x.cps ++ y.cps).size = _
            simp [PySem.Str.length]
          rw [this]; exact e3))

theorem evq_replace {x y z : PySem.Str} {nm : PySem.Str} {np cp cp' apos : Pos} {k k' : Nat} (ho : EV X F q g (.Name nm np) (.str x)) (hn : ∀ s : Shared, True) (hyz : (y == z) = false) (hz : x.length + (x.length + 1) * z.length ≤ 16777216)
    (hbase : attributeBase (.Name nm np) "replace" F.env (eval (.Name nm np) F.env) = eval (.Name nm np) F.env) (hline : (apos.endLine == pos.line) = true)
    (htok : ∀ (s : Shared) (E : Value → Shared → Prop), Inv X s → Fits X F s.heap g → wpAny (model X.prog X.w) F.A (eval (.Name nm np) F.env) (fun v s' => Is F.own s'.heap v (.str x) ∧ s' = s) E s) :
    EVq X F q g (.Call (.Attribute (.Name nm np) "replace" apos) [.Constant (.str y) k cp, .Constant (.str z) k' cp'] [] pos) (.str (Txt.replace x y z)) := fun s E ht I f =>
  Call_method2 hbase rfl hline (wpAny_mono (htok s E I f) (fun v s' h => by
    obtain ⟨i, rfl⟩ := h
    cases i with
    | str _ t =>
      refine ⟨"str", "str.replace", PySem.F.plainAttrs_str, PySem.F.slot_str_replace, PySem.F.type_str_replace, typeIs_str _ _ _, (fun _ e => nomatch e), ?_⟩
      refine Calls.callWith_builtin rfl (Calls.evalArgs_plain (Calls.spliced_cons (wpAny_Constant_str (Calls.spliced_cons (wpAny_Constant_str (Calls.spliced_nil ?_))))))
      refine SC.replace (Nat.pos_iff_ne_zero.mp ht) (Nat.succ_ne_zero _) (Nat.ne_of_lt (Nat.lt_succ_self _)) hyz hz fun t' tk => ⟨.str _ _, rl_tok I _⟩) fun _ _ x => x)

theorem name_still {x : PySem.Str} {pos : Pos} (hd : (x == ("__debug__" : PySem.Str)) = false) (hl : F.env.kindOf x = some .local) (hg : g.lookup x = some d) :
    ∀ (s : Shared) (E : Value → Shared → Prop), Inv X s → Fits X F s.heap g → wpAny (model X.prog X.w) F.A (eval (.Name x pos) F.env) (fun v s' => Is F.own s'.heap v d ∧ s' = s) E s := fun s E I f => by
  obtain ⟨m, hn, hm⟩ := f.ns
  obtain ⟨v, hv, hi⟩ := hm x d hg hl
  exact wpAny_Name (wpAny_loadName_local f.kind hl hn hv ⟨hi, rfl⟩) hd

-- a list of one's own
def Fx.with (F : Fx) (a : Addr) : Fx := { F with own := some a }
def D.plain : D → Bool
  | .none | .bool _ | .int _ | .str _ => true
  | _ => false
theorem Is.cap' {own own' : Option Addr} {h : Heap} {v : Value} {d : D} (hc : d.cap = true) (hn : ∀ b o, Stable o → h.get? b = some o → own' ≠ some b) (i : Is own h v d) : Is own' h v d :=
  i.off hc fun b o hs _ e => ⟨e, hn b o hs e⟩

theorem sx_own {x : PySem.Str} {px lp : Pos} {ss : List Stmt} {d' : D} (hown : F.own = none) (hx : F.env.kindOf x = some .local) (hs : swapsWith (.List [] lp) (some (.Name x px)) pos.line F.env = pure false)
    (hcap : ∀ y dd, g'.lookup y = some dd → g.lookup y = some dd ∧ dd.cap = true ∧ y ≠ x)
    (h : ∀ a, SX X (F.with a) ((x, .mine []) :: g') ss (.ret d)) (hd : ∀ a hp v, Is (some a) hp v d → Is none hp v d') :
    SX X F g (.Assign [.Name x px] (.List [] lp) pos :: ss) (.ret d') := fun s E I f => by
  refine wpAny_execs_cons (wpAny_Assign_Name (PyProof.Rows.List_ (spliced_nil ?_)) hs)
  have hfree : s.heap.get? s.heap.objs.size = none := fresh_none _
  have hsz : (([] : List Value).toArray.size) ≤ sizeLine := by decide
  refine wpAny_newObj_type ?_ hsz
  generalize hA : s.heap.objs.size = A at *
  have K : Keeps s { s with heap := s.heap.push { cls := .type "list", data := .seq ([] : List Value).toArray } } := keeps_push _ _ s.toks
  have I₁ := I.keeps K
  have R₁ : Rl X true s _ := Rl.ofKeeps I K
  have hl : (s.heap.push { cls := .type "list", data := .seq ([] : List Value).toArray }).IsList A ([] : List Value).toArray := hA ▸ new_list
  have f₁ : Fits X (F.with A) (s.heap.push { cls := .type "list", data := .seq ([] : List Value).toArray }) g' := by
    have mv : ∀ {v : Value} {dd : D}, dd.cap = true → Is F.own s.heap v dd → Is (some A) (s.heap.push { cls := .type "list", data := .seq ([] : List Value).toArray }) v dd := fun hc i => i.off hc fun b o _ _ e =>
      ⟨Heap.get?_push_of_some _ e, fun h => by rw [← Option.some.inj h, hfree] at e; cases e⟩
    refine ⟨f.fresh, f.kind, f.glob, f.bi, ⟨f.rm.handled, f.rm.depth, f.rm.units⟩, ?_, fun y c hc => ?_, f.has, f.apart, fun a ha => ?_⟩
    · obtain ⟨m, hn, hm⟩ := f.ns
      exact ⟨m, hn.keeps fun _ _ e => Heap.get?_push_of_some _ e, fun y dd hy hk => let ⟨h1, h2, _⟩ := hcap y dd hy; let ⟨v, hv, iv⟩ := hm y dd h1 hk; ⟨v, hv, mv h2 iv⟩⟩
    · obtain ⟨h0, ov, ⟨o, ho, hd⟩, r⟩ := f.cell y c hc
      exact ⟨h0, ov, ⟨o, Heap.get?_push_of_some _ ho, hd⟩, fun dd hy hk => let ⟨h1, h2, _⟩ := hcap y dd hy; let ⟨v, hv, iv⟩ := r dd h1 hk; ⟨v, hv, mv h2 iv⟩⟩
    · cases ha; exact ⟨I.free hfree, _, hl⟩
  refine store_ok (F := F.with A) (d := .mine []) I₁ f₁ (.inl hx) (.mine (vs := []) ⟨0, hA ▸ Heap.get?_push_size _ rfl⟩ .nil rfl) fun h' tk c hs' hc h0 hno I₂ f₂ => ?_
  refine wpAny_mono (h A _ E I₂ f₂) (fun fl s₃ y => ?_) fun _ _ y => y
  obtain ⟨⟨v, rfl, iv⟩, r⟩ := y
  refine ⟨⟨v, rfl, by rw [hown]; exact hd A _ _ iv⟩, r.1, fun b o hb hn e => r.2 b o hb ?_ ((hs'.2 b ?_).trans (Heap.get?_push_of_some _ e))⟩
  · rintro (h | h | h)
    · exact hn (.inl h)
    · exact hn (.inr (.inl h))
    · have : A = b := Option.some.inj h
      rw [← this, hfree] at e; cases e
  · rintro rfl
    rcases hc with rfl | hc
    · exact hn (.inl rfl)
    · exact hn (.inr (.inl ⟨_, hc⟩))

theorem mine_out {l : List Int} {a : Addr} {hp : Heap} {v : Value} (i : Is (some a) hp v (.mine l)) : Is none hp v (.ints l) := by
  cases i with
  | mine h1 h2 h3 => exact .ints h1.isList h2 nofun
theorem none_out {a : Addr} {hp : Heap} {v : Value} (i : Is (some a) hp v .none) : Is none hp v .none := by cases i; exact .none

theorem Fits.grow {h h' : Heap} {own : Addr} {vs vs' : List Value} {x : PySem.Str} {l l' : List Int} (f : Fits X F h g) (hx : F.env.kindOf x = some .local) (hg : g.lookup x = some (.mine l)) (hcap : ∀ y dd, y ≠ x → g.lookup y = some dd → dd.cap = true)
    (hs : Heap.SameBut own h h') (ha : F.own = some own) (hl : h.PlainList own vs.toArray) (hl' : h'.PlainList own vs'.toArray) (hv : IntsAre vs' l') : Fits X F h' ((x, .mine l') :: g) := by
  obtain ⟨oa, hoa, hsa, _, na, hda⟩ := list_stable hl.isList
  have st : ∀ b o, Stable o → F.own ≠ some b → h.get? b = some o → h'.get? b = some o ∧ F.own ≠ some b := fun b o hs' hn e => ⟨(hs.2 b (by rintro rfl; exact hn ha)).trans e, hn⟩
  refine { f with ns := ?_, cell := ?_, live := ?_ }
  · obtain ⟨m, hn, hm⟩ := f.ns
    obtain ⟨o2, ho2, hn2⟩ := ns_obj' hn
    refine ⟨m, hn.sameBut hs (Ne.symm (ne_of_stable hsa hoa ho2 hn2)), fun y d hy hl2 => ?_⟩
    rw [lookup_cons_eq] at hy
    split at hy
    · rename_i e; subst e; cases hy
      obtain ⟨v, h1, h2⟩ := hm y _ hg hx
      cases h2 with
      | mine q1 q2 q3 =>
        rw [ha] at q3
        have := Option.some.inj q3
        subst this
        exact ⟨_, h1, .mine hl' hv ha⟩
    · rename_i e
      obtain ⟨v, h1, h2⟩ := hm y d hy hl2
      exact ⟨v, h1, h2.off (hcap y d e hy) st⟩
  · intro y c hc
    obtain ⟨h0, ov, hcell, r⟩ := f.cell y c hc
    obtain ⟨o2, ho2, hn2⟩ := cell_obj' hcell
    refine ⟨h0, ov, hcell.sameBut hs (Ne.symm (ne_of_stable hsa hoa ho2 hn2)), fun d hd' hk' => ?_⟩
    rw [lookup_cons_eq] at hd'
    split at hd'
    · rename_i e; subst e; rw [hx] at hk'; cases hk'
    · rename_i e
      obtain ⟨v, h1, h2⟩ := r d hd' hk'
      exact ⟨v, h1, h2.off (hcap y d e hd') st⟩
  · intro b hb
    rw [ha] at hb; cases hb
    exact ⟨(f.live _ ha).1, _, hl'.isList⟩

/-- `x.append(e)` upon one's own list -/
theorem s1_append {x : PySem.Str} {px ap cp sp : Pos} {e : Expr} {l : List Int} {n : Int} {own : Addr} (hown : F.own = some own) (hdb : (x == ("__debug__" : PySem.Str)) = false) (hx : F.env.kindOf x = some .local) (hg : g.lookup x = some (.mine l))
    (he : EV X F true g e (.int n)) (hp : plainE e = true) (hz : l.length ≤ 1000000) (hcap : ∀ y dd, y ≠ x → g.lookup y = some dd → dd.cap = true)
    (hbase : attributeBase (.Name x px) "append" F.env (eval (.Name x px) F.env) = eval (.Name x px) F.env) (hline : (ap.endLine == cp.line) = true) (hi : interactive F.env = false)
    (hs : swapsWith (.Call (.Attribute (.Name x px) "append" ap) [e] [] cp) none sp.line F.env = pure false) :
    S1 X F g (.Expr (.Call (.Attribute (.Name x px) "append" ap) [e] [] cp) sp) (.next ((x, .mine (l ++ [n])) :: g)) := fun s E I f => by
  have hse : starEach [e] F.env = [(false, eval e F.env)] := by rw [starEach_plain _ _ (by simp [hp])]; rfl
  refine wpAny_Expr (Call_method1 hbase hse hline (wpAny_mono (name_still hdb hx hg s E I f) (fun v s' h => ?_) fun _ _ x => x)) hi hs
  obtain ⟨i, rfl⟩ := h
  cases i with
  | mine hl hv ho =>
    rename_i a vs
    rw [hown] at ho
    obtain rfl := Option.some.inj ho
    obtain ⟨n0, hob⟩ := id hl
    refine ⟨"list", "list.append", PySem.F.plainAttrs_list, slot_list_append, type_list_append, hl.isList.typeIs, (fun a e => by cases e; exact ⟨_, hob, rfl⟩), ?_⟩
    refine Calls.callWith_builtin rfl (Calls.evalArgs_plain (Calls.spliced_cons (he.then I f fun w s₁ iw r I₁ f₁ => Calls.spliced_nil ?_)))
    cases iw with
    | int _ t =>
      have K := r.2.2 rfl
      have hl₁ : s₁.heap.PlainList own vs.toArray := hl.at fun o e => keeps_get K e
      refine wpAny_list_append_plain hl₁ (fun h' hl' hs' => ?_) (by rw [List.size_toArray, IntsAre.len hv]; exact Nat.le_trans hz (by decide))
      have hl'' : h'.PlainList own (vs ++ [Value.int n t]).toArray := by simpa using hl'
      have f₂ := f₁.grow hx hg hcap hs' hown hl₁ hl'' (ints_append hv (.cons n t .nil))
      have h0 := (f.live own hown).1
      refine ⟨⟨rfl, f₂⟩, ?_, fun b o hb hn e => (hs'.2 b (by rintro rfl; exact hn (.inr (.inr hown)))).trans (keeps_get K e)⟩
      exact I₁.step fun b o hb e => (hs'.2 b (by rintro rfl; exact hb h0)).trans e
end
end Mine

-- B18
namespace Mine

abbrev D.nat (n : Nat) : D := .int (n : Int)
def toI (l : List Nat) : List Int := l.map fun (n : Nat) => (n : Int)
abbrev D.nats (l : List Nat) : D := .ints (toI l)
theorem toI_nil : toI [] = [] := rfl
theorem toI_cons (n : Nat) (l : List Nat) : toI (n :: l) = (n : Int) :: toI l := rfl
theorem toI_append (l m : List Nat) : toI (l ++ m) = toI l ++ toI m := List.map_append
theorem toI_length (l : List Nat) : (toI l).length = l.length := by simp [toI]
theorem toI_get (l : List Nat) (k : Nat) : (toI l)[k]? = (l[k]?).map fun (n : Nat) => (n : Int) := by simp [toI]
theorem toI_take (l : List Nat) (k : Nat) : toI (l.take k) = (toI l).take k := by simp [toI]
theorem toI_drop (l : List Nat) (k : Nat) : toI (l.drop k) = (toI l).drop k := by simp [toI]
theorem toI_inj {l m : List Nat} (h : toI l = toI m) : l = m := by
  induction l generalizing m with
  | nil => cases m with
    | nil => rfl
    | cons b m => simp [toI] at h
  | cons a l ih => cases m with
    | nil => simp [toI] at h
    | cons b m =>
      simp only [toI_cons, List.cons.injEq, Int.natCast_inj] at h
      rw [h.1, ih h.2]

def Sub (g' g : List (PySem.Str × D)) : Prop := ∀ y d, g'.lookup y = some d → g.lookup y = some d
theorem sub_nil {g : List (PySem.Str × D)} : Sub [] g := fun y d h => by cases h
theorem sub_cons {g g' : List (PySem.Str × D)} {x : PySem.Str} {d : D} (h : g.lookup x = some d) (hs : Sub g' g) : Sub ((x, d) :: g') g := fun y d' h' => by
  rw [lookup_cons_eq] at h'
  split at h'
  · rename_i e; cases h'; rw [e]; exact h
  · exact hs y d' h'

section
variable {X : Cx} {F : Fx} {q : Bool} {g g' : List (PySem.Str × D)} {e l r : Expr} {d a b c : D} {pos : Pos} {es : List Expr} {ds : List D} {o : Out}

theorem ev_nat {i : Int} {n k : Nat} (h : i = (n : Int)) : EV X F q g (.Constant (.int i) k pos) (.nat n) := h ▸ ev_int
theorem bn_add {m n : Nat} : Bop X F .Add (.nat m) (.nat n) (.nat (m + n)) := by
  have := bop_add (X := X) (F := F) (m := m) (n := n); rwa [← Int.natCast_add] at this
theorem bn_sub {m n : Nat} (h : n ≤ m) : Bop X F .Sub (.nat m) (.nat n) (.nat (m - n)) := by
  have := bop_sub (X := X) (F := F) (m := m) (n := n); rwa [← Int.ofNat_sub h] at this
theorem bn_mul {m n : Nat} (h : m < 2 ^ 64) : Bop X F .Mult (.nat m) (.nat n) (.nat (m * n)) := by
  have := bop_mul (X := X) (F := F) (m := m) (n := n) (by simpa using h); rwa [← Int.natCast_mul] at this
theorem bn_div {m n : Nat} (h : 0 < n) (h2 : n < 1073741824) : Bop X F .FloorDiv (.nat m) (.nat n) (.nat (m / n)) := by
  have := bop_div (X := X) (F := F) (m := m) (n := n) (by omega) (by simpa using h2); rwa [Int.fdiv_eq_ediv_of_nonneg _ (by omega), ← Int.natCast_ediv] at this
theorem bn_mod {m n : Nat} (h : 0 < n) : Bop X F .Mod (.nat m) (.nat n) (.nat (m % n)) := by
  have := bop_mod (X := X) (F := F) (m := m) (n := n) (by omega); rwa [Int.fmod_eq_emod_of_nonneg _ (by omega), ← Int.natCast_emod] at this
theorem bn_pow {m n : Nat} (h : m < 2 ^ 64) (h2 : n ≤ 1000000) : Bop X F .Pow (.nat m) (.nat n) (.nat (m ^ n)) := by
  have := bop_pow (X := X) (F := F) (m := m) (n := n) (by omega) (by omega) (by simpa using h); rwa [Int.toNat_natCast, ← Int.natCast_pow] at this
theorem bn_shr {m n : Nat} : Bop X F .RShift (.nat m) (.nat n) (.nat (m >>> n)) := by
  have := bop_shr (X := X) (F := F) (m := m) (n := n) (by omega)
  rw [Int.toNat_natCast, Int.fdiv_eq_ediv_of_nonneg _ (Int.pow_nonneg (by decide)), show (2 : Int) ^ n = ((2 ^ n : Nat) : Int) by simp, ← Int.natCast_ediv, ← Nat.shiftRight_eq_div_pow] at this
  exact this
theorem bn_shl {m n : Nat} (h : m < 2 ^ 64) (h2 : n ≤ 1000000) : Bop X F .LShift (.nat m) (.nat n) (.nat (m <<< n)) := by
  have := bop_shl (X := X) (F := F) (m := m) (n := n) (by omega) (by omega) (by simpa using h)
  rw [Int.toNat_natCast, show (2 : Int) ^ n = ((2 ^ n : Nat) : Int) by simp, ← Int.natCast_mul, ← Nat.shiftLeft_eq] at this
  exact this
theorem bitAnd_N (m n : Nat) : Builtin.bitAnd (m : Int) (n : Int) = ((m &&& n : Nat) : Int) := by simp [Builtin.bitAnd]
theorem bitOr_N (m n : Nat) : Builtin.bitOr (m : Int) (n : Int) = ((m ||| n : Nat) : Int) := by
  have h1 : ∀ k : Nat, ¬ 0 ≤ Builtin.bitNot (k : Int) := fun k => by unfold Builtin.bitNot; omega
  have h2 : ∀ k : Int, Builtin.bitNot (Builtin.bitNot k) = k := fun k => by unfold Builtin.bitNot; omega
  unfold Builtin.bitOr
  rw [bitAnd_nn (h1 m) (h1 n), h2, h2, h2, Int.toNat_natCast, Int.toNat_natCast]
theorem xor_sum (m : Nat) : ∀ n : Nat, (m ^^^ n) + 2 * (m &&& n) = m + n := by
  induction m using Nat.strongRecOn with
  | _ m ih =>
    intro n
    by_cases hm : m = 0
    · subst hm; simp
    · have h := ih (m / 2) (by omega) (n / 2)
      have e1 : (m ^^^ n) / 2 = (m / 2) ^^^ (n / 2) := by simpa using Nat.xor_div_two_pow (n := 1) (a := m) (b := n)
      have e2 : (m &&& n) / 2 = (m / 2) &&& (n / 2) := by simpa using Nat.and_div_two_pow (n := 1) (a := m) (b := n)
      have e3 : (m ^^^ n) % 2 = (m % 2) ^^^ (n % 2) := by simpa using Nat.xor_mod_two_pow (n := 1) (a := m) (b := n)
      have e4 : (m &&& n) % 2 = (m % 2) &&& (n % 2) := by simpa using Nat.and_mod_two_pow (n := 1) (a := m) (b := n)
      have a1 := Nat.div_add_mod (m ^^^ n) 2
      have a2 := Nat.div_add_mod (m &&& n) 2
      rw [e1, e3] at a1
      rw [e2, e4] at a2
      rcases Nat.mod_two_eq_zero_or_one m with x | x <;> rcases Nat.mod_two_eq_zero_or_one n with y | y <;> simp only [x, y] at a1 a2 <;> simp at a1 a2 <;> omega
theorem bitXor_N (m n : Nat) : Builtin.bitXor (m : Int) (n : Int) = ((m ^^^ n : Nat) : Int) := by
  have h := xor_sum m n
  unfold Builtin.bitXor
  rw [bitOr_and, bitAnd_N]
  omega
theorem bn_and {m n : Nat} : Bop X F .BitAnd (.nat m) (.nat n) (.nat (m &&& n)) := by
  have := bop_and (X := X) (F := F) (m := m) (n := n); rwa [bitAnd_N] at this
theorem bn_or {m n : Nat} : Bop X F .BitOr (.nat m) (.nat n) (.nat (m ||| n)) := by
  have := bop_or (X := X) (F := F) (m := m) (n := n); rwa [bitOr_N] at this
theorem bn_xor {m n : Nat} : Bop X F .BitXor (.nat m) (.nat n) (.nat (m ^^^ n)) := by
  have := bop_xor (X := X) (F := F) (m := m) (n := n); rwa [bitXor_N] at this
theorem in_add {m n : Nat} : Iop X F .Add (.nat m) (.nat n) (.nat (m + n)) := by
  have := iop_add (X := X) (F := F) (m := m) (n := n); rwa [← Int.natCast_add] at this
theorem in_sub {m n : Nat} (h : n ≤ m) : Iop X F .Sub (.nat m) (.nat n) (.nat (m - n)) := by
  have := iop_sub (X := X) (F := F) (m := m) (n := n); rwa [← Int.ofNat_sub h] at this
theorem in_xor {m n : Nat} : Iop X F .BitXor (.nat m) (.nat n) (.nat (m ^^^ n)) := by
  have := iop_xor (X := X) (F := F) (m := m) (n := n); rwa [bitXor_N] at this

theorem cn_eq {m n : Nat} : Cop X F .Eq (.nat m) (.nat n) (.bool (decide (m = n))) := by
  have := cop_eq_int (X := X) (F := F) (m := m) (n := n)
  rwa [show ((m : Int) == (n : Int)) = decide (m = n) by rw [Bool.eq_iff_iff]; simp; omega] at this
theorem cn_ne {m n : Nat} : Cop X F .NotEq (.nat m) (.nat n) (.bool (decide (m ≠ n))) := by
  have := cop_ne_int (X := X) (F := F) (m := m) (n := n)
  rwa [show ((m : Int) != (n : Int)) = decide (m ≠ n) by rw [Bool.eq_iff_iff]; simp; omega] at this
theorem cn_lt {m n : Nat} : Cop X F .Lt (.nat m) (.nat n) (.bool (decide (m < n))) := by
  have := cop_lt (X := X) (F := F) (m := m) (n := n); simpa using this
theorem cn_le {m n : Nat} : Cop X F .LtE (.nat m) (.nat n) (.bool (decide (m ≤ n))) := by
  have := cop_le (X := X) (F := F) (m := m) (n := n); simpa using this
theorem cn_gt {m n : Nat} : Cop X F .Gt (.nat m) (.nat n) (.bool (decide (n < m))) := by
  have := cop_gt (X := X) (F := F) (m := m) (n := n); simpa using this
theorem cn_ge {m n : Nat} : Cop X F .GtE (.nat m) (.nat n) (.bool (decide (n ≤ m))) := by
  have := cop_ge (X := X) (F := F) (m := m) (n := n); simpa using this

theorem gn_get {l : List Nat} {k n : Nat} (hk : l[k]? = some n) (h : k < 2 ^ 63) : Gop X F "list" (.nats l) (.nat k) (.nat n) := by
  refine gop_ints (by omega) (by exact_mod_cast h) ?_
  rw [Int.toNat_natCast, toI_get, hk]; rfl
theorem items_nats (l : List Nat) : Items (.nats l) (l.map .nat) := by
  have := Items.ints (toI l)
  unfold toI at this
  rw [List.map_map] at this
  exact this
theorem items_rngN (a c n : Nat) : Items (.rng (rngL a c n)) ((List.range n).map fun k => .nat (a + k * c)) := by
  have := Items.rng (rngL a c n)
  have e : (rngL a c n).map D.int = (List.range n).map fun k => .nat (a + k * c) := by
    unfold rngL
    rw [List.map_map]
    apply List.map_congr_left
    intro k _
    show D.int _ = D.int _
    congr 1
  rw [e] at this
  exact this
theorem items_range (n : Nat) : Items (.rng (rngL 0 1 n)) ((List.range n).map .nat) := by
  have := items_rngN 0 1 n
  simpa using this
theorem truth_nat {n : Nat} : (D.nat n).truth = some (decide (n ≠ 0)) := by
  show some ((n : Int) != 0) = _
  by_cases h : n = 0 <;> simp [h]
end
end Mine

-- B19
namespace Mine

def freeOf (scope : Scope) : List PySem.Str := (scope.names.filter fun p => p.2 == .free).map (·.1)
theorem all0 {p : PySem.Str → Prop} : ∀ x ∈ ([] : List PySem.Str), p x := fun x h => by cases h
theorem all1 {p : PySem.Str → Prop} {a : PySem.Str} (h : p a) : ∀ x ∈ [a], p x := fun x hx => by rw [List.mem_singleton.mp hx]; exact h
theorem all2 {p : PySem.Str → Prop} {a b : PySem.Str} (h : p a) (h' : p b) : ∀ x ∈ [a, b], p x := fun x hx => by
  rcases List.mem_cons.mp hx with rfl | hx
  · exact h
  · rw [List.mem_singleton.mp hx]; exact h'
theorem so_mk {F : Fx} {scope : Scope} (hf : ∀ x ∈ freeOf scope, F.env.kindOf x = some .cell) (hk : scope.kind = .function := by rfl) (hn : decide (scope.names.map (·.1)).Nodup = true := by rfl) : ScopeOk F scope :=
  ⟨hk, fun p hp h => hf p.1 (List.mem_map.mpr ⟨p, List.mem_filter.mpr ⟨hp, by rw [h]; rfl⟩, rfl⟩), of_decide_eq_true hn⟩
theorem caps_nil {F : Fx} {scope : Scope} {g : List (PySem.Str × D)} : Caps F scope g [] := fun y d h => by cases h
theorem caps_cons {F : Fx} {scope : Scope} {g gc : List (PySem.Str × D)} {y : PySem.Str} {d : D} (hg : g.lookup y = some d) (hl : scope.names.lookup y = some .free) (hc : d.cap = true) (r : Caps F scope g gc) : Caps F scope g ((y, d) :: gc) := fun z dz h => by
  rw [lookup_cons_eq] at h
  split at h
  · rename_i e; subst e; cases h; exact ⟨hc, mem_of_lookup hl, hg⟩
  · exact r z dz h
theorem kc_plain {F : Fx} {scope : Scope} {C Da : Addr} {x : PySem.Str} {k : NameKind} (h : scope.names.lookup x = some k) (hk : k ≠ .free) : (compF F scope C Da).env.kindOf x = some k := by
  have gen : ∀ {names : List (PySem.Str × NameKind)} {k : NameKind}, k ≠ .free → names.lookup x = some k → (names.map fun (n, k) => if (k == NameKind.free && F.env.scope.kind == .function && F.env.kindOf n == some .cell) then (n, NameKind.cell) else (n, k)).lookup x = some k := by
    intro names k hk h
    induction names with
    | nil => cases h
    | cons p r ih =>
      obtain ⟨n, k0⟩ := p
      rw [lookup_cons_eq] at h
      simp only [List.map_cons]
      split at h
      · rename_i e'; subst e'; cases h
        rw [if_neg (by simp [hk])]
        rw [lookup_cons_eq, if_pos rfl]
      · rename_i e'
        split <;> rw [lookup_cons_eq, if_neg e'] <;> exact ih h
  exact gen hk h
theorem kc_free {F : Fx} {scope : Scope} {C Da : Addr} {x : PySem.Str} (hfn : F.env.scope.kind = .function) (hcell : F.env.kindOf x = some .cell) (h : scope.names.lookup x = some .free) : (compF F scope C Da).env.kindOf x = some .cell := by
  have gen : ∀ {names : List (PySem.Str × NameKind)}, names.lookup x = some .free → (names.map fun (n, k) => if (k == NameKind.free && F.env.scope.kind == .function && F.env.kindOf n == some .cell) then (n, NameKind.cell) else (n, k)).lookup x = some .cell := by
    intro names h
    induction names with
    | nil => cases h
    | cons p r ih =>
      obtain ⟨n, k0⟩ := p
      rw [lookup_cons_eq] at h
      simp only [List.map_cons]
      split at h
      · rename_i e'; subst e'; cases h
        rw [if_pos (by rw [hfn, hcell]; decide), lookup_cons_eq, if_pos rfl]
      · rename_i e'
        split <;> rw [lookup_cons_eq, if_neg e'] <;> exact ih h
  exact gen h
theorem kc_fn {F : Fx} {scope : Scope} {C Da : Addr} (h : scope.kind = .function := by rfl) : (compF F scope C Da).env.scope.kind = .function := h

/-- what a sequence gives, named apart -/
structure Src (α : Type) where
  to : α → D
  inv : D → α
  ok : ∀ a, inv (to a) = a
def srcN : Src Nat := ⟨.nat, fun d => match d with | .int i => i.toNat | _ => 0, fun a => Int.toNat_natCast a⟩
def srcI : Src Int := ⟨.int, fun d => match d with | .int i => i | _ => 0, fun a => rfl⟩
def srcS : Src PySem.Str := ⟨.str, fun d => match d with | .str x => x | _ => "", fun a => rfl⟩

section
variable {X : Cx} {F : Fx} {q : Bool} {g gc g' : List (PySem.Str × D)} {e l r : Expr} {d a b c : D} {pos : Pos} {es : List Expr} {ds : List D} {o : Out}

theorem EV.to {d' : D} (h : EV X F q g e d) (e' : d = d') : EV X F q g e d' := e' ▸ h
theorem S1.to {o' : Out} {st : Stmt} (h : S1 X F g st o) (e' : o = o') : S1 X F g st o' := e' ▸ h

theorem ev_compN {α : Type} (S : Src α) {l : List α} (h : α → Nat) {scope : Scope} {elt iter : Expr} {x : PySem.Str} {px : Pos} {di : D} (he : EV X F true g iter di) (hi : Items di (l.map S.to)) (so : ScopeOk F scope) (cp : Caps F scope g gc) (hz : l.length ≤ 1000000)
    (helt : ∀ C Da, ∀ a ∈ l, EV X (compF F scope C Da) true ((x, S.to a) :: gc) elt (.nat (h a)))
    (hx : scope.names.lookup x = some .local ∨ scope.names.lookup x = some .cell) (hs : ∀ v, foldedSetIterable iter F.env v = pure v) : EV X F q g (.ListComp elt [⟨.Name x px, iter, [], 0⟩] scope pos) (.nats (l.map h)) :=
  ev_comp (f := fun d => .nat (h (S.inv d))) he hi so cp (by simpa using hz) hx (fun C Da d hd => by
    obtain ⟨a, ha, rfl⟩ := List.mem_map.mp hd
    exact ⟨by rw [S.ok]; exact helt C Da a ha, rfl⟩) (by
    rw [List.map_map]
    have e : (l.map ((fun d => D.nat (h (S.inv d))) ∘ S.to)) = (toI (l.map h)).map .int := by
      unfold toI; rw [List.map_map, List.map_map]; apply List.map_congr_left; intro a _; simp [S.ok]
    rw [e]; exact .ints _) hs
theorem ev_compS {α : Type} (S : Src α) {l : List α} (h : α → PySem.Str) {scope : Scope} {elt iter : Expr} {x : PySem.Str} {px : Pos} {di : D} (he : EV X F true g iter di) (hi : Items di (l.map S.to)) (so : ScopeOk F scope) (cp : Caps F scope g gc) (hz : l.length ≤ 1000000)
    (helt : ∀ C Da, ∀ a ∈ l, EV X (compF F scope C Da) true ((x, S.to a) :: gc) elt (.str (h a)))
    (hx : scope.names.lookup x = some .local ∨ scope.names.lookup x = some .cell) (hs : ∀ v, foldedSetIterable iter F.env v = pure v) : EV X F q g (.ListComp elt [⟨.Name x px, iter, [], 0⟩] scope pos) (.strs (l.map h)) :=
  ev_comp (f := fun d => .str (h (S.inv d))) he hi so cp (by simpa using hz) hx (fun C Da d hd => by
    obtain ⟨a, ha, rfl⟩ := List.mem_map.mp hd
    exact ⟨by rw [S.ok]; exact helt C Da a ha, rfl⟩) (by
    rw [List.map_map]
    have e : (l.map ((fun d => D.str (h (S.inv d))) ∘ S.to)) = (l.map h).map .str := by
      rw [List.map_map]; apply List.map_congr_left; intro a _; simp [S.ok]
    rw [e]; exact .strs _) hs
theorem s1_compN {α : Type} (S : Src α) {l : List α} (h : α → Nat) {scope : Scope} {elt iter : Expr} {x y : PySem.Str} {px py : Pos} {pos2 : Pos} {di : D} (he : EV X F true g iter di) (hi : Items di (l.map S.to)) (so : ScopeOk F scope) (cp : Caps F scope g gc) (hz : l.length ≤ 1000000)
    (helt : ∀ C Da, ∀ a ∈ l, EV X (compF F scope C Da) true ((x, S.to a) :: gc) elt (.nat (h a)))
    (hx : scope.names.lookup x = some .local ∨ scope.names.lookup x = some .cell) (hs : ∀ v, foldedSetIterable iter F.env v = pure v)
    (hsw : swapsWith (.ListComp elt [⟨.Name x px, iter, [], 0⟩] scope pos) (some (.Name y py)) pos2.line F.env = pure true) (hy : F.env.kindOf y = some .local ∨ F.env.kindOf y = some .cell) :
    S1 X F g (.Assign [.Name y py] (.ListComp elt [⟨.Name x px, iter, [], 0⟩] scope pos) pos2) (.next ((y, .nats (l.map h)) :: g)) :=
  s1_assign_comp (f := fun d => .nat (h (S.inv d))) he hi so cp (by simpa using hz) hx (fun C Da d hd => by
    obtain ⟨a, ha, rfl⟩ := List.mem_map.mp hd
    exact ⟨by rw [S.ok]; exact helt C Da a ha, rfl⟩) (by
    rw [List.map_map]
    have e : (l.map ((fun d => D.nat (h (S.inv d))) ∘ S.to)) = (toI (l.map h)).map .int := by
      unfold toI; rw [List.map_map, List.map_map]; apply List.map_congr_left; intro a _; simp [S.ok]
    rw [e]; exact .ints _) hs hsw hy

theorem items_signs (x : PySem.Str) : Items (.str x) ((signs x).map srcS.to) := Items.str x
theorem items_natsS (l : List Nat) : Items (.nats l) (l.map srcN.to) := items_nats l
theorem items_intsS (l : List Int) : Items (.ints l) (l.map srcI.to) := Items.ints l
theorem items_rangeS (n : Nat) : Items (.rng (rngL 0 1 n)) ((List.range n).map srcN.to) := items_range n

theorem sx_end (h : Sub g' g) : SX X F g [] (.next g') := sx_post sx_nil h
theorem fl_fold {α σ : Type} {x : PySem.Str} {body : List Stmt} (mk : α → D) (G : σ → List (PySem.Str × D)) (f : σ → α → σ) (P : σ → Prop) : ∀ (l : List α) (c : σ) (g : List (PySem.Str × D)), Sub (G c) g → P c →
    (∀ c, P c → ∀ a ∈ l, P (f c a) ∧ SX X F ((x, mk a) :: G c) body (.next (G (f c a)))) → l ≠ [] → FL X F x body g (l.map mk) (.next (G (l.foldl f c)))
  | [], c, g, hs, _, _, hl => absurd rfl hl
  | [a], c, g, hs, hp, h, _ => .cons (sx_sub (h c hp a List.mem_cons_self).2 fun y d hy => by
      rw [lookup_cons_eq] at hy ⊢
      split at hy
      · rename_i e; rw [if_pos e]; exact hy
      · rename_i e; rw [if_neg e]; exact hs y d hy) (.nil fun _ _ h => h)
  | a :: b :: l, c, g, hs, hp, h, _ => .cons (sx_sub (h c hp a List.mem_cons_self).2 fun y d hy => by
      rw [lookup_cons_eq] at hy ⊢
      split at hy
      · rename_i e; rw [if_pos e]; exact hy
      · rename_i e; rw [if_neg e]; exact hs y d hy) (fl_fold mk G f P (b :: l) (f c a) _ (fun _ _ h => h) (h c hp a List.mem_cons_self).1 (fun c hp b hb => h c hp b (List.mem_cons_of_mem _ hb)) (by simp))
/-- a loop that folds a state -/
theorem s1_fold {α σ : Type} {x : PySem.Str} {px : Pos} {iter : Expr} {body : List Stmt} (mk : α → D) (G : σ → List (PySem.Str × D)) (f : σ → α → σ) (P : σ → Prop) (c0 : σ) (l : List α)
    (he : EV X F false g iter d) (hi : Items d (l.map mk)) (hx : F.env.kindOf x = some .local ∨ F.env.kindOf x = some .cell) (h0 : Sub (G c0) g) (hp : P c0)
    (hb : ∀ c, P c → ∀ a ∈ l, P (f c a) ∧ SX X F ((x, mk a) :: G c) body (.next (G (f c a))))
    (hs : ∀ v, foldedSetIterable iter F.env v = pure v) (ht : ∀ I v, letOwnedTupleGo (.Name x px) (.ref I) v = pure ()) : S1 X F g (.For (.Name x px) iter body [] pos) (.next (G (l.foldl f c0))) := by
  by_cases hl : l = []
  · subst hl
    exact S1.post (s1_for he hi hx (.nil fun _ _ h => h) hs ht) h0
  · exact s1_for he hi hx (fl_fold mk G f P l c0 g h0 hp hb hl) hs ht

theorem fl_foldP {α σ : Type} {x : PySem.Str} {body : List Stmt} (mk : α → D) (G : σ → List (PySem.Str × D)) (f : σ → α → σ) (c0 : σ) (l : List α)
    (hb : ∀ pre a, (∃ post, l = pre ++ a :: post) → SX X F ((x, mk a) :: G (pre.foldl f c0)) body (.next (G (f (pre.foldl f c0) a)))) :
    ∀ (post pre : List α) (g : List (PySem.Str × D)), l = pre ++ post → Sub (G (pre.foldl f c0)) g → FL X F x body g (post.map mk) (.next (G (l.foldl f c0)))
  | [], pre, g, hl, hs => .nil (by rw [hl, List.append_nil]; exact hs)
  | a :: post, pre, g, hl, hs => .cons (sx_sub (hb pre a ⟨post, hl⟩) fun y d hy => by
      rw [lookup_cons_eq] at hy ⊢
      split at hy
      · rename_i e; rw [if_pos e]; exact hy
      · rename_i e; rw [if_neg e]; exact hs y d hy) (fl_foldP mk G f c0 l hb post (pre ++ [a]) _ (by rw [hl]; simp) (by rw [List.foldl_append]; exact fun _ _ h => h))
theorem s1_foldP {α σ : Type} {x : PySem.Str} {px : Pos} {iter : Expr} {body : List Stmt} (mk : α → D) (G : σ → List (PySem.Str × D)) (f : σ → α → σ) (c0 : σ) (l : List α)
    (he : EV X F false g iter d) (hi : Items d (l.map mk)) (hx : F.env.kindOf x = some .local ∨ F.env.kindOf x = some .cell) (h0 : Sub (G c0) g)
    (hb : ∀ pre a, (∃ post, l = pre ++ a :: post) → SX X F ((x, mk a) :: G (pre.foldl f c0)) body (.next (G (f (pre.foldl f c0) a))))
    (hs : ∀ v, foldedSetIterable iter F.env v = pure v) (ht : ∀ I v, letOwnedTupleGo (.Name x px) (.ref I) v = pure ()) : S1 X F g (.For (.Name x px) iter body [] pos) (.next (G (l.foldl f c0))) :=
  s1_for he hi hx (fl_foldP mk G f c0 l hb l [] g rfl h0) hs ht

/-- the frame of a def's call -/
structure Df (X : Cx) (F : Fx) (fa : Addr) (n : Nat) : Prop where
  gd : Gd X
  ok : X.Ok
  kind : ∀ x, F.env.kindOf x = (namesAt X.w.params fa).lookup x
  fn : F.env.scope.kind = .function
  own : F.own = none
  lv : n ≤ F.lv
namespace Df
variable {fa : Addr} {n : Nat}
theorem k (D : Df X F fa n) {x : PySem.Str} {k : NameKind} (h : (namesAt X.w.params fa).lookup x = some k) : F.env.kindOf x = some k := (D.kind x).trans h
theorem L (D : Df X F fa n) {x : PySem.Str} (h : (namesAt X.w.params fa).lookup x = some .local) : F.env.kindOf x = some .local ∨ F.env.kindOf x = some .cell := .inl (D.k h)
theorem C (D : Df X F fa n) {x : PySem.Str} (h : (namesAt X.w.params fa).lookup x = some .cell) : F.env.kindOf x = some .local ∨ F.env.kindOf x = some .cell := .inr (D.k h)
theorem none (D : Df X F fa n) {x : PySem.Str} (h : nsIn (hd.heap_39 X.w.params) mainGlobals x = some Option.none) : X.mg x = Option.none := mg_none D.gd.T D.ok h
theorem some (D : Df X F fa n) {x : PySem.Str} {v : Value} (h : nsIn (hd.heap_39 X.w.params) mainGlobals x = Option.some (Option.some v)) : X.mg x = Option.some v := mg_some D.gd.T D.ok h
end Df
end
end Mine

-- C1
namespace Mine

def gensN : List Nat := [996825010, 642813549, 513874426, 1027748829, 705979059]
def pin (top : Nat) (c i : Nat) : Nat := c ^^^ (if (top >>> i) &&& 1 ≠ 0 then gensN[i]?.getD 0 else 0)
def pstep (chk v : Nat) : Nat := (List.range 5).foldl (pin (chk >>> 25)) (((chk &&& 33554431) <<< 5) ^^^ v)
def pmod (l : List Nat) : Nat := l.foldl pstep 1

section
variable {X : Cx} {F : Fx} {q : Bool} {g g' : List (PySem.Str × D)} {e l r : Expr} {d a b c : D} {pos : Pos} {es : List Expr} {ds : List D} {o : Out}

theorem poly_sx (K : Df X F 35 0) (l : List Nat) : SX X F [("values", .nats l)] (bodyAt X.w.params 35) (.ret (.nat (pmod l))) := by
  refine sx_cons (s1_assign (d := .nats gensN) (ev_listI (l := toI gensN) (evs_cons ev_int (evs_cons ev_int (evs_cons ev_int (evs_cons ev_int (evs_cons ev_int evs_nil))))) rfl) (K.L rfl) rfl) ?_
  refine sx_cons (s1_assign (d := .nat 1) (ev_nat rfl) (K.L rfl) rfl) ?_
  refine sx_cons (s1_fold .nat (fun c => [("chk", .nat c), ("generator", .nats gensN)]) pstep (fun _ => True) 1 l (ev_local rfl (K.k rfl) rfl) (items_nats l) (K.L rfl) (sub_cons rfl (sub_cons rfl sub_nil)) trivial ?_ (fun _ => rfl) fun _ _ => rfl) (sx_ret (s1_return (ev_local rfl (K.k rfl) rfl)))
  refine fun c _ v _ => ⟨trivial, ?_⟩
  refine sx_cons (s1_assign (d := .nat (c >>> 25)) (ev_bin (ev_local rfl (K.k rfl) rfl) (ev_nat (n := 25) rfl) bn_shr) (K.L rfl) rfl) ?_
  refine sx_cons (s1_assign (d := .nat (((c &&& 33554431) <<< 5) ^^^ v)) (ev_bin (ev_bin (ev_bin (ev_local rfl (K.k rfl) rfl) (ev_nat (n := 33554431) rfl) bn_and) (ev_nat (n := 5) rfl) (bn_shl (Nat.lt_of_le_of_lt Nat.and_le_right (by decide)) (by decide))) (ev_local rfl (K.k rfl) rfl) bn_xor) (K.L rfl) rfl) ?_
  refine sx_cons (s1_fold .nat (fun c' => [("chk", .nat c'), ("top", .nat (c >>> 25)), ("generator", .nats gensN)]) (pin (c >>> 25)) (fun _ => True) (((c &&& 33554431) <<< 5) ^^^ v) (List.range 5)
    (ev_call_t rfl (K.k rfl) (K.none rfl) rfl (by decide) (evs_cons (ev_nat (n := 5) rfl) evs_nil) rfl (by simp) (fop_range1 (n := 5) rfl rfl)) (items_range 5) (K.L rfl) (sub_cons rfl (sub_cons rfl (sub_cons rfl sub_nil))) trivial ?_ (fun _ => rfl) fun _ _ => rfl) (sx_end (sub_cons rfl (sub_cons rfl sub_nil)))
  refine fun c' _ i hi => ⟨trivial, ?_⟩
  have hi' : i < 5 := List.mem_range.mp hi
  have hgi : gensN[i]? = some (gensN[i]?.getD 0) := by
    have : i < gensN.length := hi'
    rw [List.getElem?_eq_getElem this]; rfl
  refine sx_cons (s1_aug (d := .nat (pin (c >>> 25) c' i)) (K.k rfl) rfl (ev_if (d := .nat (if ((c >>> 25) >>> i) &&& 1 ≠ 0 then gensN[i]?.getD 0 else 0)) (tv_plain (ev_bin (ev_bin (ev_local rfl (K.k rfl) rfl) (ev_local rfl (K.k rfl) rfl) bn_shr) (ev_nat (n := 1) rfl) bn_and) truth_nat fun _ => rfl)
    (fun h => (ev_sub (ev_local rfl (K.k rfl) rfl) (ev_local rfl (K.k rfl) rfl) (gn_get hgi (by omega)) getitem_list fun _ _ => rfl).to (by rw [if_pos (of_decide_eq_true h)]))
    (fun h => (ev_nat (n := 0) rfl).to (by rw [if_neg (of_decide_eq_false h)]))) in_xor) (sx_end (sub_cons rfl (sub_cons rfl (sub_cons rfl sub_nil))))

theorem poly_fop (G : Gd X) (ok : X.Ok) (hown : F.own = none) (hlv : 1 ≤ F.lv) (l : List Nat) : Fop X F false (.ref 35) [.nats l] (.nat (pmod l)) :=
  fop_def (names := ["values"]) (exd := []) (ex := []) G.T hown hlv rfl rfl rfl rfl rfl rfl rfl rfl rfl rfl (by decide) (by decide) (fun _ _ => .nil) (fun s vs _ h => by
    match vs, h with
    | [v], _ => exact .of_eq rfl) (fun x hx => by simp at hx; subst hx; exact .inl rfl) fun L => poly_sx ⟨G, ok, fun _ => rfl, rfl, rfl, Nat.zero_le _⟩ l
end
end Mine

-- C2
namespace Mine

abbrev mkS (l : List Nat) : PySem.Str := ⟨l.toArray⟩
abbrev D.txt (l : List Nat) : D := .str ⟨l.toArray⟩
def srcC : Src Nat := ⟨fun c => .str ⟨#[c]⟩, fun d => match d with | .str x => x.cps[0]?.getD 0 | _ => 0, fun a => rfl⟩
theorem signs_mk (l : List Nat) : signs (mkS l) = l.map fun c => ⟨#[c]⟩ := by simp [signs]

def hrpx (h : List Nat) : List Nat := h.map (· >>> 5) ++ [0] ++ h.map (· &&& 31)

section
variable {X : Cx} {F : Fx} {q : Bool} {g g' : List (PySem.Str × D)} {e l r : Expr} {d a b c : D} {pos : Pos} {es : List Expr} {ds : List D} {o : Out}

theorem items_txt (l : List Nat) : Items (.txt l) (l.map srcC.to) := by
  have := Items.str (mkS l)
  rw [signs_mk, List.map_map] at this
  exact this
theorem bwn_add {l m : List Nat} (hz : l.length + m.length ≤ 1000000) : Bopw X F .Add (.nats l) (.nats m) (.nats (l ++ m)) := by
  have := bopw_addI (X := X) (F := F) (l := toI l) (m := toI m) (by simpa [toI_length] using hz)
  rwa [← toI_append] at this
theorem bn_addT {l m : List Nat} (hz : l.length + m.length ≤ 1000000) : Bop X F .Add (.txt l) (.txt m) (.txt (l ++ m)) := by
  have := bop_addS (X := X) (F := F) (x := mkS l) (y := mkS m) (by simpa [PySem.Str.length] using hz)
  have e : (mkS l ++ mkS m) = mkS (l ++ m) := by
    show PySem.Str.mk (l.toArray ++ m.toArray) = _
    simp
  rwa [e] at this
theorem fn_ord {c : Nat} : Fop X F q (.builtin "ord") [srcC.to c] (.nat c) := fop_ord
theorem ev_natsLit {l : List Nat} (hs : EVs X F q g es ((toI l).map .int)) (hp : es.all plainE = true) (hz : l.length ≤ 1000000 := by decide) : EV X F q g (.List es pos) (.nats l) :=
  ev_listI hs hp (by simpa [toI_length] using hz)

theorem expand_sx (K : Df X F 40 0) (l : List Nat) (hz : l.length ≤ 1000) : SX X F [("hrp", .txt l)] (bodyAt X.w.params 40) (.ret (.nats (hrpx l))) := by
  refine sx_ret (s1_return (ev_binw (ev_binw (ev_compN srcC (fun c => c >>> 5) (gc := []) (ev_local rfl (K.k rfl) rfl) (items_txt l) (so_mk all0) caps_nil (by omega) ?_ (.inl rfl) fun _ => rfl)
    (ev_natsLit (l := [0]) (evs_cons ev_int evs_nil) rfl) (bwn_add (by simp; omega)))
    (ev_compN srcC (fun c => c &&& 31) (gc := []) (ev_local rfl (K.k rfl) rfl) (items_txt l) (so_mk all0) caps_nil (by omega) ?_ (.inl rfl) fun _ => rfl) (bwn_add (by simp; omega))))
  · refine fun C Da c _ => ev_bin (ev_call_b rfl (kc_plain rfl (by decide)) (K.none rfl) rfl (by decide) (evs_cons (ev_local rfl (kc_plain rfl (by decide)) rfl) evs_nil) rfl (by simp) fn_ord) (ev_nat (n := 5) rfl) bn_shr
  · refine fun C Da c _ => ev_bin (ev_call_b rfl (kc_plain rfl (by decide)) (K.none rfl) rfl (by decide) (evs_cons (ev_local rfl (kc_plain rfl (by decide)) rfl) evs_nil) rfl (by simp) fn_ord) (ev_nat (n := 31) rfl) bn_and

theorem expand_fop (G : Gd X) (ok : X.Ok) (hown : F.own = none) (hlv : 1 ≤ F.lv) (l : List Nat) (hz : l.length ≤ 1000) : Fop X F false (.ref 40) [.txt l] (.nats (hrpx l)) :=
  fop_def (names := ["hrp"]) (exd := []) (ex := []) G.T hown hlv rfl rfl rfl rfl rfl rfl rfl rfl rfl rfl (by decide) (by decide) (fun _ _ => .nil) (fun s vs _ h => by
    match vs, h with
    | [v], _ => exact .of_eq rfl) (fun x hx => by simp at hx; subst hx; exact .inl rfl) fun L => expand_sx ⟨G, ok, fun _ => rfl, rfl, rfl, Nat.zero_le _⟩ l hz

def encD : Option Nat → D
  | none => .none
  | some n => .nat n
def verif (h d : List Nat) : Option Nat := let c := pmod (hrpx h ++ d); if c = 1 then some 1 else if c = 734539939 then some 2 else none

theorem verify_sx (K : Df X F 47 1) (h m : List Nat) (hz : h.length ≤ 1000) (hm : m.length ≤ 1000) : SX X F [("hrp", .txt h), ("data", .nats m)] (bodyAt X.w.params 47) (.ret (encD (verif h m))) := by
  have hx : (hrpx h).length ≤ 2001 := by simp [hrpx]; omega
  refine sx_cons (s1_assign (d := .nat (pmod (hrpx h ++ m))) (ev_call_f rfl (K.k rfl) (K.some (v := .ref 35) rfl) (K.gd.T.K 35 _ rfl) rfl (evs_cons (ev_binw (ev_call_f rfl (K.k rfl) (K.some (v := .ref 40) rfl) (K.gd.T.K 40 _ rfl) rfl
    (evs_cons (ev_local rfl (K.k rfl) rfl) evs_nil) rfl (by simp) (expand_fop K.gd K.ok K.own K.lv h hz)) (ev_local rfl (K.k rfl) rfl) (bwn_add (by omega))) evs_nil) rfl (by simp) (poly_fop K.gd K.ok K.own K.lv _)) (K.L rfl) rfl) ?_
  refine sx_ret (s1_if (tv_cmp (ev_local rfl (K.k rfl) rfl) (ev_global (v := .int 1 191) (d := .nat 1) rfl (K.k rfl) (K.some rfl) fun _ _ => .int _ _) cn_eq rfl) (fun hc => ?_) fun hc => ?_)
  · have hc' := of_decide_eq_true hc
    refine sx_ret (s1_return ((ev_clsattr (mc := .type "type") K.gd.T rfl (K.k rfl) (K.some (v := .ref 24) rfl) (by rfl) (by rfl)).to ?_))
    simp [verif, hc', encD]
  · have hc' := of_decide_eq_false hc
    refine sx_ret (s1_if (tv_cmp (ev_local rfl (K.k rfl) rfl) (ev_global (v := .int 734539939 193) (d := .nat 734539939) rfl (K.k rfl) (K.some rfl) fun _ _ => .int _ _) cn_eq rfl) (fun hc => ?_) fun hc => ?_)
    · have hc2 := of_decide_eq_true hc
      refine sx_ret (s1_return ((ev_clsattr (mc := .type "type") K.gd.T rfl (K.k rfl) (K.some (v := .ref 24) rfl) (by rfl) (by rfl)).to ?_))
      simp [verif, hc2, encD]
    · have hc2 := of_decide_eq_false hc
      refine sx_ret (s1_return (ev_none.to ?_))
      simp [verif, hc', hc2, encD]
end
end Mine

-- C3
namespace Mine

def csl : List Nat := [113, 112, 122, 114, 121, 57, 120, 56, 103, 102, 50, 116, 118, 100, 119, 48, 115, 51, 106, 110, 53, 52, 107, 104, 99, 101, 54, 109, 117, 97, 55, 108]
def cs (n : Nat) : Nat := csl[n]?.getD 0
theorem cs_get {n : Nat} (h : n < 32) : csl[n]? = some (cs n) := by
  have : n < csl.length := h
  unfold cs
  rw [List.getElem?_eq_getElem this]; rfl
def chks (h m : List Nat) (k : Nat) : List Nat := (List.range 6).map fun i => ((pmod (hrpx h ++ m ++ [0, 0, 0, 0, 0, 0]) ^^^ k) >>> (5 * (5 - i))) &&& 31
def cst (e : Nat) : Nat := if e = 2 then 734539939 else 1
def enc (e : Nat) (h m : List Nat) : List Nat := h ++ [49] ++ (m ++ chks h m (cst e)).map cs
theorem chks_lt {h m : List Nat} {k : Nat} : ∀ x ∈ chks h m k, x < 32 := fun x hx => by
  obtain ⟨i, _, rfl⟩ := List.mem_map.mp hx
  exact Nat.lt_of_le_of_lt Nat.and_le_right (by decide)

section
variable {X : Cx} {F : Fx} {q : Bool} {g g' : List (PySem.Str × D)} {e l r : Expr} {d a b c : D} {pos : Pos} {es : List Expr} {ds : List D} {o : Out}

theorem hrpx_len (h : List Nat) : (hrpx h).length = 2 * h.length + 1 := by simp [hrpx]; omega

theorem verify_fop (G : Gd X) (ok : X.Ok) (hown : F.own = none) (hlv : 2 ≤ F.lv) (h m : List Nat) (hz : h.length ≤ 1000) (hm : m.length ≤ 1000) : Fop X F false (.ref 47) [.txt h, .nats m] (encD (verif h m)) :=
  fop_def (names := ["hrp", "data"]) (exd := []) (ex := []) G.T hown (by omega) rfl rfl rfl rfl rfl rfl rfl rfl rfl rfl (by decide) (by decide) (fun _ _ => .nil) (fun s vs _ h => by
    match vs, h with
    | [v, w], _ => exact .of_eq rfl) (fun x hx => by simp at hx; rcases hx with rfl | rfl <;> exact .inl rfl) fun L => verify_sx ⟨G, ok, fun _ => rfl, rfl, rfl, Nat.le_sub_of_add_le hlv⟩ h m hz hm

theorem ev_B1 {np : Pos} (G : Gd X) (ok : X.Ok) (hk : F.env.kindOf "Encoding" = some .globalImplicit) : EV X F q g (.Attribute (.Name "Encoding" np) "BECH32" pos) (.nat 1) :=
  ev_clsattr (mc := .type "type") G.T rfl hk (mg_some G.T ok (v := .ref 24) rfl) (by rfl) (by rfl)
theorem ev_B2 {np : Pos} (G : Gd X) (ok : X.Ok) (hk : F.env.kindOf "Encoding" = some .globalImplicit) : EV X F q g (.Attribute (.Name "Encoding" np) "BECH32M" pos) (.nat 2) :=
  ev_clsattr (mc := .type "type") G.T rfl hk (mg_some G.T ok (v := .ref 24) rfl) (by rfl) (by rfl)
theorem create_sx (K : Df X F 52 1) (en : Nat) (h m : List Nat) (hz : h.length ≤ 1000) (hm : m.length ≤ 1000) : SX X F [("encoding", .nat en), ("hrp", .txt h), ("data", .nats m)] (bodyAt X.w.params 52) (.ret (.nats (chks h m (cst en)))) := by
  have hx := hrpx_len h
  refine sx_cons (s1_assign (d := .nats (hrpx h ++ m)) (ev_binw (ev_call_f rfl (K.k rfl) (K.some (v := .ref 40) rfl) (K.gd.T.K 40 _ rfl) rfl
    (evs_cons (ev_local rfl (K.k rfl) rfl) evs_nil) rfl (by simp) (expand_fop K.gd K.ok K.own K.lv h hz)) (ev_local rfl (K.k rfl) rfl) (bwn_add (by omega))) (K.L rfl) rfl) ?_
  refine sx_cons (s1_assign (d := .nat (cst en)) (ev_if (tv_cmp (ev_local rfl (K.k rfl) rfl) (ev_B2 K.gd K.ok (K.k rfl)) cn_eq rfl)
    (fun hc => (ev_global (v := .int 734539939 193) (d := .nat 734539939) rfl (K.k rfl) (K.some rfl) fun _ _ => .int _ _).to (by simp [cst, of_decide_eq_true hc]))
    (fun hc => (ev_global (v := .int 1 191) (d := .nat 1) rfl (K.k rfl) (K.some rfl) fun _ _ => .int _ _).to (by simp [cst, of_decide_eq_false hc]))) (K.L rfl) rfl) ?_
  refine sx_cons (s1_assign (d := .nat (pmod (hrpx h ++ m ++ [0, 0, 0, 0, 0, 0]) ^^^ cst en)) (ev_bin (ev_call_f rfl (K.k rfl) (K.some (v := .ref 35) rfl) (K.gd.T.K 35 _ rfl) rfl
    (evs_cons (ev_binw (ev_local rfl (K.k rfl) rfl) (ev_natsLit (l := [0, 0, 0, 0, 0, 0]) (evs_cons ev_int (evs_cons ev_int (evs_cons ev_int (evs_cons ev_int (evs_cons ev_int (evs_cons ev_int evs_nil)))))) rfl) (bwn_add (by simp; omega))) evs_nil) rfl (by simp)
    (poly_fop K.gd K.ok K.own K.lv _)) (ev_local rfl (K.k rfl) rfl) bn_xor) (K.C rfl) rfl) ?_
  refine sx_ret (s1_return (ev_compN (gc := [("polymod", .nat (pmod (hrpx h ++ m ++ [0, 0, 0, 0, 0, 0]) ^^^ cst en))]) srcN (fun i => ((pmod (hrpx h ++ m ++ [0, 0, 0, 0, 0, 0]) ^^^ cst en) >>> (5 * (5 - i))) &&& 31)
    (ev_call_t rfl (K.k rfl) (K.none rfl) rfl (by decide) (evs_cons (ev_nat (n := 6) rfl) evs_nil) rfl (by simp) (fop_range1 (n := 6) rfl rfl)) (items_rangeS 6) (so_mk (all1 (K.k rfl))) (caps_cons rfl rfl rfl caps_nil) (by simp) ?_ (.inl rfl) fun _ => rfl))
  intro C Da i hi
  have hi' : i < 6 := List.mem_range.mp hi
  exact ev_bin (ev_bin (ev_cell rfl (kc_free K.fn (K.k rfl) rfl) rfl) (ev_bin (ev_nat (n := 5) rfl) (ev_bin (ev_nat (n := 5) rfl) (ev_local rfl (kc_plain rfl (by decide)) rfl) (bn_sub (by omega))) (bn_mul (by decide))) bn_shr) (ev_nat (n := 31) rfl) bn_and

theorem create_fop (G : Gd X) (ok : X.Ok) (hown : F.own = none) (hlv : 2 ≤ F.lv) (en : Nat) (h m : List Nat) (hz : h.length ≤ 1000) (hm : m.length ≤ 1000) : Fop X F false (.ref 52) [.nat en, .txt h, .nats m] (.nats (chks h m (cst en))) :=
  fop_def (names := ["encoding", "hrp", "data"]) (exd := []) (ex := []) G.T hown (by omega) rfl rfl rfl rfl rfl rfl rfl rfl rfl rfl (by decide) (by decide) (fun _ _ => .nil) (fun s vs _ h => by
    match vs, h with
    | [v, w, u], _ => exact .of_eq rfl) (fun x hx => by simp at hx; rcases hx with rfl | rfl | rfl <;> exact .inl rfl) fun L => create_sx ⟨G, ok, fun _ => rfl, rfl, rfl, Nat.le_sub_of_add_le hlv⟩ en h m hz hm

-- join of single signs
theorem join_txt (l : List Nat) : Txt.join (mkS []) (l.map fun c => mkS [c]) = mkS l := by
  have h1 := eq_of_beq (join_plain_closes (mkS []) (l.map fun c => mkS [c]))
  rw [h1]; exact join_ones l
theorem foldl_len : ∀ (l : List Nat) (n : Nat), (l.map fun c => mkS [c]).foldl (fun a (x : PySem.Str) => a + x.length + (mkS []).length) n = n + l.length
  | [], n => rfl
  | c :: l, n => by
    have ih := foldl_len l (n + (mkS [c]).length + (mkS []).length)
    simp only [List.map_cons, List.foldl_cons, List.length_cons]
    rw [ih]
    simp [PySem.Str.length]; omega
theorem joinOk_txt (l : List Nat) (h : l.length ≤ 1000000) : JoinOk (mkS []) (l.map fun c => mkS [c]) = true := by
  unfold JoinOk
  rw [List.foldl_toArray, foldl_len]
  simp [Builtin.Str.tooLong, sizeLine]; omega

theorem ev_cs {n : Nat} {np : Pos} (hv : X.mg "CHARSET" = some (.str (PySem.Str.ofString "qpzry9x8gf2tvdw0s3jn54khce6mua7l") 189)) (hk : F.env.kindOf "CHARSET" = some .globalImplicit) (hr : EV X F q g r (.nat n)) (h : n < 32)
    (hs : ∀ o i, subscripted r false o i = operate [o, i] (getItem o i)) : EV X F q g (.Subscript (.Name "CHARSET" np) r pos) (.txt [cs n]) :=
  ev_sub (T := "str") (ev_global (d := .txt csl) rfl hk hv fun _ _ => .str _ _) hr (gop_str (by omega) (by omega) (by
    rw [Int.toNat_natCast]
    have := cs_get h
    simpa using this)) getitem_str hs

theorem enc_sx (K : Df X F 57 2) (en : Nat) (h m : List Nat) (hz : h.length ≤ 1000) (hm : m.length ≤ 1000) (hlt : ∀ x ∈ m, x < 32) : SX X F [("encoding", .nat en), ("hrp", .txt h), ("data", .nats m)] (bodyAt X.w.params 57) (.ret (.txt (enc en h m))) := by
  have hc : (chks h m (cst en)).length = 6 := by simp [chks]
  have hall : ∀ x ∈ m ++ chks h m (cst en), x < 32 := fun x hx => by
    rcases List.mem_append.mp hx with hx | hx
    · exact hlt x hx
    · exact chks_lt x hx
  refine sx_cons (s1_assign (d := .nats (m ++ chks h m (cst en))) (ev_binw (ev_local rfl (K.k rfl) rfl) (ev_call_f rfl (K.k rfl) (K.some (v := .ref 52) rfl) (K.gd.T.K 52 _ rfl) rfl
    (evs_cons (ev_local rfl (K.k rfl) rfl) (evs_cons (ev_local rfl (K.k rfl) rfl) (evs_cons (ev_local rfl (K.k rfl) rfl) evs_nil))) rfl (by simp) (create_fop K.gd K.ok K.own K.lv en h m hz hm)) (bwn_add (by omega))) (K.L rfl) rfl) ?_
  refine sx_ret (s1_return (d := .txt (h ++ [49] ++ (m ++ chks h m (cst en)).map cs)) (ev_bin (ev_bin (ev_local rfl (K.k rfl) rfl) (EV.to (d := .str "1") ev_str rfl) (bn_addT (m := [49]) (by simp; omega)))
    (EV.to (ev_join (x := mkS []) (EV.to (d := .str "") ev_str rfl) (ev_compS srcN (fun n => mkS [cs n]) (gc := []) (ev_local rfl (K.k rfl) rfl) (items_natsS _) (so_mk all0) caps_nil (by simp; omega) ?_ (.inl rfl) fun _ => rfl) rfl ?_ rfl rfl) ?_) (bn_addT (by simp; omega))))
  · exact fun C Da n hn => ev_cs (K.some rfl) (kc_plain rfl (by decide)) (ev_local rfl (kc_plain rfl (by decide)) rfl) (hall n hn) fun _ _ => rfl
  · have := joinOk_txt ((m ++ chks h m (cst en)).map cs) (by simp; omega)
    rwa [List.map_map] at this
  · have := join_txt ((m ++ chks h m (cst en)).map cs)
    rw [List.map_map] at this
    exact congrArg D.str this

theorem enc_fop (G : Gd X) (ok : X.Ok) (hown : F.own = none) (hlv : 3 ≤ F.lv) (en : Nat) (h m : List Nat) (hz : h.length ≤ 1000) (hm : m.length ≤ 1000) (hlt : ∀ x ∈ m, x < 32) : Fop X F false (.ref 57) [.nat en, .txt h, .nats m] (.txt (enc en h m)) :=
  fop_def (names := ["encoding", "hrp", "data"]) (exd := []) (ex := []) G.T hown (by omega) rfl rfl rfl rfl rfl rfl rfl rfl rfl rfl (by decide) (by decide) (fun _ _ => .nil) (fun s vs _ h => by
    match vs, h with
    | [v, w, u], _ => exact .of_eq rfl) (fun x hx => by simp at hx; rcases hx with rfl | rfl | rfl <;> exact .inl rfl) fun L => enc_sx ⟨G, ok, fun _ => rfl, rfl, rfl, Nat.le_sub_of_add_le hlv⟩ en h m hz hm hlt
end
end Mine

-- C4
namespace Mine

def mv (t : Nat) : Nat := (1 <<< t) - 1
def emit (acc t : Nat) : Nat → Nat → List Nat → Nat × List Nat
  | 0, b, r => (b, r)
  | n + 1, b, r => if t ≤ b then emit acc t n (b - t) (r ++ [(acc >>> (b - t)) &&& mv t]) else (b, r)
def cacc (f t acc v : Nat) : Nat := ((acc <<< f) ||| v) &&& mv (f + t - 1)
def cstep (f t : Nat) (s : Nat × Nat × List Nat) (v : Nat) : Nat × Nat × List Nat :=
  (cacc f t s.1 v, emit (cacc f t s.1 v) t (s.2.1 + f) (s.2.1 + f) s.2.2)
def conv (f t : Nat) (pad : Bool) (l : List Nat) : Option (List Nat) :=
  if l.all (fun v => decide (v >>> f = 0)) then
    (let s := l.foldl (cstep f t) (0, 0, [])
     if pad then (if s.2.1 ≠ 0 then some (s.2.2 ++ [(s.1 <<< (t - s.2.1)) &&& mv t]) else some s.2.2)
     else if f ≤ s.2.1 ∨ (s.1 <<< (t - s.2.1)) &&& mv t ≠ 0 then none else some s.2.2)
  else none
def optD : Option (List Nat) → D
  | none => .none
  | some l => .nats l
def optM : Option (List Nat) → D
  | none => .none
  | some l => .mine (toI l)

theorem mv_lt (t : Nat) : mv t < 2 ^ t := by
  have : 0 < 2 ^ t := Nat.two_pow_pos t
  unfold mv; rw [Nat.shiftLeft_eq, Nat.one_mul]; omega
theorem emit_lt {acc t : Nat} (ht : 1 ≤ t) : ∀ (n b : Nat) (r : List Nat), b ≤ n → (emit acc t n b r).1 < t
  | 0, b, r, h => by show b < t; omega
  | n + 1, b, r, h => by
    unfold emit
    split
    · exact emit_lt ht n _ _ (by omega)
    · show b < t; omega
theorem emit_len {acc t : Nat} : ∀ (n b : Nat) (r : List Nat), (emit acc t n b r).2.length ≤ r.length + n
  | 0, b, r => Nat.le_refl _
  | n + 1, b, r => by
    unfold emit
    split
    · have := emit_len (acc := acc) (t := t) n (b - t) (r ++ [(acc >>> (b - t)) &&& mv t])
      simp only [List.length_append, List.length_cons, List.length_nil] at this
      omega
    · show r.length ≤ _; omega

section
variable {X : Cx} {F : Fx} {q : Bool} {g g' : List (PySem.Str × D)} {e l r : Expr} {d a b c : D} {pos : Pos} {es : List Expr} {ds : List D} {o : Out}

theorem tv_orL {x : Expr} {rest : List Expr} {c b : Bool} (h : TV X F q g x c) (h2 : c = false → TV X F q g (.BoolOp .Or rest pos) b) : TV X F q g (.BoolOp .Or (x :: rest) pos) (c || b) :=
  tv_or h (fun hc => by rw [hc]; exact h2 hc) fun hc => by rw [hc]; rfl
theorem tv_or1 {x : Expr} {c : Bool} (h : TV X F q g x c) : TV X F q g (.BoolOp .Or [x] pos) c :=
  tv_or h (fun hc => by rw [hc]; exact tv_or_nil) fun hc => hc
theorem tv_andL {x : Expr} {rest : List Expr} {c b : Bool} (h : TV X F q g x c) (h2 : c = true → TV X F q g (.BoolOp .And rest pos) b) : TV X F q g (.BoolOp .And (x :: rest) pos) (c && b) :=
  tv_and h (fun hc => by rw [hc]; exact h2 hc) fun hc => by rw [hc]; rfl
theorem tv_and1 {x : Expr} {c : Bool} (h : TV X F q g x c) : TV X F q g (.BoolOp .And [x] pos) c :=
  tv_and h (fun hc => by rw [hc]; exact tv_and_nil) fun hc => hc
theorem TV.to {c c' : Bool} (h : TV X F q g e c) (e' : c = c') : TV X F q g e c' := e' ▸ h

/-- the names of convertbits at work -/
def Gc (f t : Nat) (l : List Nat) (pad : Bool) (s : Nat × Nat × List Nat) : List (PySem.Str × D) :=
  [("acc", .nat s.1), ("bits", .nat s.2.1), ("ret", .mine (toI s.2.2)), ("maxv", .nat (mv t)), ("max_acc", .nat (mv (f + t - 1))), ("frombits", .nat f), ("tobits", .nat t), ("pad", .bool pad)]

theorem toI_snoc (l : List Nat) (n : Nat) : toI l ++ [(n : Int)] = toI (l ++ [n]) := by rw [toI_append]; rfl

theorem WL_emit (K : Df X F 70 0) {A : Addr} {f t : Nat} (ht : 1 ≤ t) {L : List Nat} {pad : Bool} {acc : Nat} {test : Expr} {body : List Stmt}
    (htest : ∀ b r, TV X (F.with A) false (Gc f t L pad (acc, b, r)) test (decide (t ≤ b)))
    (hbody : ∀ b r, t ≤ b → r.length ≤ 1000000 → SX X (F.with A) (Gc f t L pad (acc, b, r)) body (.next (Gc f t L pad (acc, b - t, r ++ [(acc >>> (b - t)) &&& mv t])))) :
    ∀ (n b : Nat) (r : List Nat), b ≤ n → r.length + n ≤ 1000000 → WL X (F.with A) test body n (Gc f t L pad (acc, b, r)) (.next (Gc f t L pad (acc, emit acc t n b r)))
  | 0, b, r, hb, hr => .done ((htest b r).to (decide_eq_false (by omega)))
  | n + 1, b, r, hb, hr => by
    unfold emit
    by_cases h : t ≤ b
    · rw [if_pos h]
      exact .step ((htest b r).to (decide_eq_true h)) (hbody b r h (by omega)) (WL_emit K ht htest hbody n _ _ (by omega) (by simp; omega))
    · rw [if_neg h]
      exact .done ((htest b r).to (decide_eq_false h))

theorem fl_conv {A : Addr} {f t : Nat} (ht : 1 ≤ t) (hft : f + t ≤ 20) {L : List Nat} {pad : Bool} {x : PySem.Str} {body : List Stmt}
    (hgood : ∀ s v, s.1 ≤ mv (f + t - 1) → s.2.1 < t → s.2.2.length ≤ 900000 → v >>> f = 0 → SX X (F.with A) ((x, .nat v) :: Gc f t L pad s) body (.next (Gc f t L pad (cstep f t s v))))
    (hbad : ∀ s v, v >>> f ≠ 0 → SX X (F.with A) ((x, .nat v) :: Gc f t L pad s) body (.ret .none)) :
    ∀ (l : List Nat) (s : Nat × Nat × List Nat) (g : List (PySem.Str × D)), Sub (Gc f t L pad s) g → s.1 ≤ mv (f + t - 1) → s.2.1 < t → s.2.2.length + 40 * l.length ≤ 900000 →
      FL X (F.with A) x body g (l.map .nat) (if l.all (fun v => decide (v >>> f = 0)) then .next (Gc f t L pad (l.foldl (cstep f t) s)) else .ret .none)
  | [], s, g, hs, _, _, _ => .nil hs
  | v :: l, s, g, hs, h1, h2, h3 => by
    have sub : Sub ((x, D.nat v) :: Gc f t L pad s) ((x, D.nat v) :: g) := fun y d hy => by
      rw [lookup_cons_eq] at hy ⊢
      split at hy
      · rename_i e; rw [if_pos e]; exact hy
      · rename_i e; rw [if_neg e]; exact hs y d hy
    simp only [List.length_cons] at h3
    by_cases hv : v >>> f = 0
    · simp only [List.map_cons, List.all_cons, hv, decide_true, Bool.true_and, List.foldl_cons]
      have hlen := emit_len (acc := cacc f t s.1 v) (t := t) (s.2.1 + f) (s.2.1 + f) s.2.2
      refine .cons (sx_sub (hgood s v h1 h2 (by omega) hv) sub) (fl_conv ht hft hgood hbad l _ _ (fun _ _ h => h) ?_ (emit_lt ht _ _ _ (Nat.le_refl _)) ?_)
      · exact Nat.and_le_right
      · show (emit _ _ _ _ _).2.length + _ ≤ _
        omega
    · simp only [List.map_cons, List.all_cons, hv, decide_false, Bool.false_and, Bool.false_eq_true, if_false]
      exact .stop (sx_sub (hbad s v hv) sub)

theorem mv_le {t : Nat} (h : t ≤ 20) : mv t < 2 ^ 20 := Nat.lt_of_lt_of_le (mv_lt t) (Nat.pow_le_pow_right (by decide) h)
theorem bn_shl1 {n : Nat} (h : n ≤ 1000000) : Bop X F .LShift (.nat 1) (.nat n) (.nat (1 <<< n)) := bn_shl (by decide) h
theorem one_le_shl (n : Nat) : 1 ≤ 1 <<< n := by rw [Nat.shiftLeft_eq, Nat.one_mul]; exact Nat.two_pow_pos n

theorem cap_but {x y : PySem.Str} {dd : D} {g : List (PySem.Str × D)} (h : (g.all fun p => p.2.cap || p.1 == x) = true) (hy : y ≠ x) (hl : g.lookup y = some dd) : dd.cap = true := by
  have := List.all_eq_true.mp h _ (mem_of_lookup hl)
  simp only [Bool.or_eq_true, beq_iff_eq] at this
  exact this.resolve_right hy

theorem sx_if {st : Stmt} {ss : List Stmt} {cc : Bool} {d' : D} (h : S1 X F g st (if cc then .next g' else .ret d)) (h1 : cc = true → SX X F g' ss (.ret d')) (h2 : cc = false → d = d') : SX X F g (st :: ss) (.ret d') := by
  cases cc with
  | true => exact sx_cons h (h1 rfl)
  | false => rw [← h2 rfl]; exact sx_ret h

theorem conv_sx (K : Df X F 70 0) {f t : Nat} (hf : f ≤ 10) (ht : 1 ≤ t) (ht2 : t ≤ 10) (l : List Nat) (pad : Bool) (hl : l.length ≤ 1000) :
    SX X F [("data", .nats l), ("frombits", .nat f), ("tobits", .nat t), ("pad", .bool pad)] (bodyAt X.w.params 70) (.ret (optD (conv f t pad l))) := by
  refine sx_cons (s1_assign (d := .nat 0) (ev_nat rfl) (K.L rfl) rfl) ?_
  refine sx_cons (s1_assign (d := .nat 0) (ev_nat rfl) (K.L rfl) rfl) ?_
  refine sx_own (x := "ret") (g' := [("acc", .nat 0), ("bits", .nat 0), ("data", .nats l), ("frombits", .nat f), ("tobits", .nat t), ("pad", .bool pad)]) K.own (K.k rfl) rfl ?_ (d := optM (conv f t pad l)) (fun A => ?_) ?_
  · intro y dd hy
    have key : ∀ g1 : List (PySem.Str × D), (g1.all fun p => p.2.cap && p.1 != "ret") = true → g1.lookup y = some dd → dd.cap = true ∧ y ≠ "ret" := fun g1 h1 h2 => by
      have := List.all_eq_true.mp h1 _ (mem_of_lookup h2)
      simp only [Bool.and_eq_true, bne_iff_ne, ne_eq] at this
      exact this
    have := key _ (by rfl) hy
    refine ⟨?_, this.1, this.2⟩
    exact (sub_cons rfl (sub_cons rfl (sub_cons rfl (sub_cons rfl (sub_cons rfl (sub_cons rfl sub_nil)))))) y dd hy
  · have KK : ∀ {x : PySem.Str} {k : NameKind}, (namesAt X.w.params 70).lookup x = some k → (F.with A).env.kindOf x = some k := fun h => K.k h
    have KL : ∀ {x : PySem.Str}, (namesAt X.w.params 70).lookup x = some .local → (F.with A).env.kindOf x = some .local ∨ (F.with A).env.kindOf x = some .cell := fun h => .inl (K.k h)
    refine sx_cons (s1_assign (d := .nat (mv t)) (ev_bin (ev_bin (ev_nat (n := 1) rfl) (ev_local rfl (KK rfl) rfl) (bn_shl1 (by omega))) (ev_nat (n := 1) rfl) (bn_sub (one_le_shl _))) (KL rfl) rfl) ?_
    refine sx_cons (s1_assign (d := .nat (mv (f + t - 1))) (ev_bin (ev_bin (ev_nat (n := 1) rfl) (ev_bin (ev_bin (ev_local rfl (KK rfl) rfl) (ev_local rfl (KK rfl) rfl) bn_add) (ev_nat (n := 1) rfl) (bn_sub (by omega))) (bn_shl1 (by omega))) (ev_nat (n := 1) rfl) (bn_sub (one_le_shl _))) (KL rfl) rfl) ?_
    refine sx_if (cc := l.all (fun v => decide (v >>> f = 0))) (g' := Gc f t l pad (l.foldl (cstep f t) (0, 0, []))) (d := .none) (s1_for (ev_local rfl (KK rfl) rfl) (items_nats l) (KL rfl)
      (fl_conv (f := f) (t := t) (L := l) (pad := pad) ht (by omega) ?_ ?_ l (0, 0, []) _ (sub_cons rfl (sub_cons rfl (sub_cons rfl (sub_cons rfl (sub_cons rfl (sub_cons rfl (sub_cons rfl (sub_cons rfl sub_nil)))))))) (Nat.zero_le _) ht (by simp; omega)) (fun _ => rfl) fun _ _ => rfl) (fun hall => ?_) fun hall => ?_
    · intro s v h1 h2 h3 h4
      have hm : mv (f + t - 1) < 2 ^ 20 := mv_le (by omega)
      refine sx_cons (s1_if (c := false) (o := .next ((PySem.Str.ofString "value", .nat v) :: Gc f t l pad s)) (TV.to (tv_orL (tv_cmp (ev_local rfl (KK rfl) rfl) (ev_nat (n := 0) rfl) cn_lt rfl) fun _ => tv_or1 (tv_plain (ev_bin (ev_local rfl (KK rfl) rfl) (ev_local rfl (KK rfl) rfl) bn_shr) truth_nat fun _ => rfl)) (by simp [h4])) (fun h => by cases h) fun _ => sx_nil) ?_
      refine sx_cons (s1_assign (d := .nat (cacc f t s.1 v)) (ev_bin (ev_bin (ev_bin (ev_local rfl (KK rfl) rfl) (ev_local rfl (KK rfl) rfl) (bn_shl (by omega) (by omega))) (ev_local rfl (KK rfl) rfl) bn_or) (ev_local rfl (KK rfl) rfl) bn_and) (KL rfl) rfl) ?_
      refine sx_cons (s1_aug (d := .nat (s.2.1 + f)) (KK rfl) rfl (ev_local rfl (KK rfl) rfl) in_add) ?_
      refine sx_cons (S1.sub (g' := Gc f t l pad (cacc f t s.1 v, s.2.1 + f, s.2.2)) (s1_while (WL_emit K ht ?_ ?_ _ _ _ (Nat.le_refl _) (by omega))) (sub_cons rfl (sub_cons rfl (sub_cons rfl (sub_cons rfl (sub_cons rfl (sub_cons rfl (sub_cons rfl (sub_cons rfl sub_nil))))))))) (sx_end fun _ _ h => h)
      · intro b r
        exact tv_cmp (ev_local rfl (KK rfl) rfl) (ev_local rfl (KK rfl) rfl) cn_ge rfl
      · intro b r hb hr
        refine sx_cons (s1_aug (d := .nat (b - t)) (KK rfl) rfl (ev_local rfl (KK rfl) rfl) (in_sub hb)) ?_
        refine sx_cons (s1_append (own := A) (l := toI r) (n := (((cacc f t s.1 v) >>> (b - t)) &&& mv t : Nat)) rfl rfl (KK rfl) rfl (ev_bin (ev_bin (ev_local rfl (KK rfl) rfl) (ev_local rfl (KK rfl) rfl) bn_shr) (ev_local rfl (KK rfl) rfl) bn_and) rfl (by rw [toI_length]; exact hr) ?_ rfl rfl (by unfold interactive; rw [show (F.with A).env.scope.kind = .function from K.fn]; rfl) rfl) ?_
        · exact fun y dd hy hl' => cap_but (by rfl) hy hl'
        · rw [toI_snoc]
          exact sx_end (sub_cons rfl (sub_cons rfl (sub_cons rfl (sub_cons rfl (sub_cons rfl (sub_cons rfl (sub_cons rfl (sub_cons rfl sub_nil))))))))
    · intro s v h4
      exact sx_ret (s1_if (c := true) (TV.to (tv_orL (tv_cmp (ev_local rfl (KK rfl) rfl) (ev_nat (n := 0) rfl) cn_lt rfl) fun _ => tv_or1 (tv_plain (ev_bin (ev_local rfl (KK rfl) rfl) (ev_local rfl (KK rfl) rfl) bn_shr) truth_nat fun _ => rfl)) (by simp [h4])) (fun _ => sx_ret (s1_return ev_none)) fun h => by cases h)
    · generalize hs : l.foldl (cstep f t) (0, 0, []) = s
      have hint : interactive (F.with A).env = false := by unfold interactive; rw [show (F.with A).env.scope.kind = .function from K.fn]; rfl
      have hb : s.1 ≤ mv (f + t - 1) ∧ s.2.1 < t ∧ s.2.2.length ≤ 900000 := by
        have gen : ∀ (m : List Nat) (s0 : Nat × Nat × List Nat), s0.1 ≤ mv (f + t - 1) → s0.2.1 < t → s0.2.2.length + 40 * m.length ≤ 900000 →
            (m.foldl (cstep f t) s0).1 ≤ mv (f + t - 1) ∧ (m.foldl (cstep f t) s0).2.1 < t ∧ (m.foldl (cstep f t) s0).2.2.length ≤ 900000 := by
          intro m
          induction m with
          | nil => intro s0 h1 h2 h3; simp only [List.length_nil] at h3; exact ⟨h1, h2, by simpa using h3⟩
          | cons v m ih =>
            intro s0 h1 h2 h3
            simp only [List.length_cons] at h3
            have hlen := emit_len (acc := cacc f t s0.1 v) (t := t) (s0.2.1 + f) (s0.2.1 + f) s0.2.2
            refine ih (cstep f t s0 v) Nat.and_le_right (emit_lt ht _ _ _ (Nat.le_refl _)) ?_
            show (emit _ _ _ _ _).2.length + _ ≤ _
            omega
        rw [← hs]
        exact gen l (0, 0, []) (Nat.zero_le _) ht (by simp; omega)
      obtain ⟨acc, bits, ret⟩ := s
      obtain ⟨h1, h2, h3⟩ := hb
      simp only at h1 h2 h3
      have hm : mv (f + t - 1) < 2 ^ 20 := mv_le (by omega)
      have hconv : conv f t pad l = (if pad then (if bits ≠ 0 then some (ret ++ [(acc <<< (t - bits)) &&& mv t]) else some ret) else if f ≤ bits ∨ (acc <<< (t - bits)) &&& mv t ≠ 0 then none else some ret) := by
        unfold conv; rw [if_pos hall, hs]
      rw [hconv]
      cases pad with
      | true =>
        simp only [if_true]
        by_cases hb0 : bits = 0
        · rw [if_neg (by simp [hb0])]
          refine sx_cons (g' := Gc f t l true (acc, bits, ret)) (s1_if (tv_plain (ev_local rfl (KK rfl) rfl) rfl fun _ => rfl) (fun _ => sx_cons (s1_if (c := false) ((tv_plain (ev_local rfl (KK rfl) rfl) truth_nat fun _ => rfl).to (by simp [hb0])) (fun h => by cases h) fun _ => sx_nil) sx_nil) fun h => by cases h) (sx_ret (s1_return (ev_local rfl (KK rfl) rfl)))
        · rw [if_pos hb0]
          refine sx_cons (g' := Gc f t l true (acc, bits, ret ++ [(acc <<< (t - bits)) &&& mv t])) (s1_if (tv_plain (ev_local rfl (KK rfl) rfl) rfl fun _ => rfl) (fun _ => sx_cons (s1_if (c := true) ((tv_plain (ev_local rfl (KK rfl) rfl) truth_nat fun _ => rfl).to (by simp [hb0]))
            (fun _ => sx_cons (s1_append (own := A) (l := toI ret) (n := (((acc <<< (t - bits)) &&& mv t : Nat) : Int)) rfl rfl (KK rfl) rfl (ev_bin (ev_bin (ev_local rfl (KK rfl) rfl) (ev_bin (ev_local rfl (KK rfl) rfl) (ev_local rfl (KK rfl) rfl) (bn_sub (Nat.le_of_lt h2))) (bn_shl (Nat.lt_of_le_of_lt h1 (Nat.lt_of_lt_of_le hm (by decide))) (Nat.le_trans (Nat.sub_le _ _) (by omega)))) (ev_local rfl (KK rfl) rfl) bn_and) rfl (by rw [toI_length]; omega) (fun y dd hy hl' => cap_but (by rfl) hy hl') rfl rfl hint rfl)
              (by rw [toI_snoc]; exact sx_end (sub_cons rfl (sub_cons rfl (sub_cons rfl (sub_cons rfl (sub_cons rfl (sub_cons rfl (sub_cons rfl (sub_cons rfl sub_nil)))))))))) fun h => by cases h) sx_nil) fun h => by cases h) (sx_ret (s1_return (ev_local rfl (KK rfl) rfl)))
      | false =>
        simp only [Bool.false_eq_true, if_false]
        have htest : (decide (f ≤ bits) || decide ((acc <<< (t - bits)) &&& mv t ≠ 0)) = decide (f ≤ bits ∨ (acc <<< (t - bits)) &&& mv t ≠ 0) := (Bool.decide_or _ _).symm
        by_cases hc : f ≤ bits ∨ (acc <<< (t - bits)) &&& mv t ≠ 0
        · rw [if_pos hc]
          refine sx_ret (s1_if (tv_plain (ev_local rfl (KK rfl) rfl) rfl fun _ => rfl) (fun h => by cases h) fun _ => sx_ret (s1_if (c := true) (TV.to (tv_orL (tv_cmp (ev_local rfl (KK rfl) rfl) (ev_local rfl (KK rfl) rfl) cn_ge rfl) fun _ => tv_or1 (tv_plain (ev_bin (ev_bin (ev_local rfl (KK rfl) rfl) (ev_bin (ev_local rfl (KK rfl) rfl) (ev_local rfl (KK rfl) rfl) (bn_sub (Nat.le_of_lt h2))) (bn_shl (Nat.lt_of_le_of_lt h1 (Nat.lt_of_lt_of_le hm (by decide))) (Nat.le_trans (Nat.sub_le _ _) (by omega)))) (ev_local rfl (KK rfl) rfl) bn_and) truth_nat fun _ => rfl)) (htest.trans (decide_eq_true hc)))
            (fun _ => sx_ret (s1_return ev_none)) fun h => by cases h))
        · rw [if_neg hc]
          refine sx_cons (g' := Gc f t l false (acc, bits, ret)) (s1_if (tv_plain (ev_local rfl (KK rfl) rfl) rfl fun _ => rfl) (fun h => by cases h) fun _ => sx_cons (s1_if (c := false) (TV.to (tv_orL (tv_cmp (ev_local rfl (KK rfl) rfl) (ev_local rfl (KK rfl) rfl) cn_ge rfl) fun _ => tv_or1 (tv_plain (ev_bin (ev_bin (ev_local rfl (KK rfl) rfl) (ev_bin (ev_local rfl (KK rfl) rfl) (ev_local rfl (KK rfl) rfl) (bn_sub (Nat.le_of_lt h2))) (bn_shl (Nat.lt_of_le_of_lt h1 (Nat.lt_of_lt_of_le hm (by decide))) (Nat.le_trans (Nat.sub_le _ _) (by omega)))) (ev_local rfl (KK rfl) rfl) bn_and) truth_nat fun _ => rfl)) (htest.trans (decide_eq_false hc)))
            (fun h => by cases h) fun _ => sx_nil) sx_nil) (sx_ret (s1_return (ev_local rfl (KK rfl) rfl)))
    · rw [conv, if_neg (by rw [hall]; decide)]; rfl
  · intro A hp v i
    cases hc : conv f t pad l with
    | none => rw [hc] at i; exact none_out i
    | some m => rw [hc] at i; exact mine_out i

theorem conv_binds (P : Params) {s : Shared} {ob : Obj} {fd : FuncData} (ho : objAt P 70 = some ob) (hfd : ob.data = .func fd) (vs : List Value) : True := trivial
end
end Mine

-- C5
namespace Mine

section
variable {X : Cx} {F : Fx} {q : Bool} {g g' : List (PySem.Str × D)} {e l r : Expr} {d a b c : D} {pos : Pos} {es : List Expr} {ds : List D} {o : Out}

theorem conv_fop3 (G : Gd X) (ok : X.Ok) (hown : F.own = none) (hlv : 1 ≤ F.lv) {f t : Nat} (hf : f ≤ 10) (ht : 1 ≤ t) (ht2 : t ≤ 10) (l : List Nat) (hl : l.length ≤ 1000) :
    Fop X F false (.ref 70) [.nats l, .nat f, .nat t] (optD (conv f t true l)) :=
  fop_def (names := ["data", "frombits", "tobits", "pad"]) (exd := [.bool true]) (ex := [.bool true]) G.T hown hlv rfl rfl rfl rfl rfl rfl rfl rfl rfl rfl (by decide) (by decide) (fun _ _ => .cons (.bool _) .nil) (fun s vs I h => by
    match vs, h with
    | [v, w, u], _ => exact .of_defaults (T := 63) rfl (I.K G.T 63 _ rfl) rfl rfl rfl) (fun x hx => by simp at hx; rcases hx with rfl | rfl | rfl | rfl <;> exact .inl rfl) fun L => conv_sx ⟨G, ok, fun _ => rfl, rfl, rfl, Nat.zero_le _⟩ hf ht ht2 l true hl
theorem conv_fop4 (G : Gd X) (ok : X.Ok) (hown : F.own = none) (hlv : 1 ≤ F.lv) {f t : Nat} (hf : f ≤ 10) (ht : 1 ≤ t) (ht2 : t ≤ 10) (l : List Nat) (pad : Bool) (hl : l.length ≤ 1000) :
    Fop X F false (.ref 70) [.nats l, .nat f, .nat t, .bool pad] (optD (conv f t pad l)) :=
  fop_def (names := ["data", "frombits", "tobits", "pad"]) (exd := []) (ex := []) G.T hown hlv rfl rfl rfl rfl rfl rfl rfl rfl rfl rfl (by decide) (by decide) (fun _ _ => .nil) (fun s vs I h => by
    match vs, h with
    | [v, w, u, y], _ => exact .of_defaults (T := 63) rfl (I.K G.T 63 _ rfl) rfl rfl rfl) (fun x hx => by simp at hx; rcases hx with rfl | rfl | rfl | rfl <;> exact .inl rfl) fun L => conv_sx ⟨G, ok, fun _ => rfl, rfl, rfl, Nat.zero_le _⟩ hf ht ht2 l pad hl
end
end Mine

-- C6
namespace Mine

def b8 (n : Nat) : List Nat := (List.range 8).map fun k => n / 2 ^ (7 - k) % 2
def b5 (n : Nat) : List Nat := (List.range 5).map fun k => n / 2 ^ (4 - k) % 2
def padded (l : List Nat) : List Nat := l ++ List.replicate ((5 - l.length % 5) % 5) 0
def val5 (b : List Nat) (at' : Nat) : Nat := ((List.range 5).map fun k => b[at' + k]?.getD 0 * 2 ^ (4 - k)).sum
def val8 (b : List Nat) (at' : Nat) : Nat := ((List.range 8).map fun k => b[at' + k]?.getD 0 * 2 ^ (7 - k)).sum
def lfives (l : List Nat) : List Nat := let b := padded (l.foldl (fun b n => b ++ b8 n) []); ((List.range (b.length / 5)).map (· * 5)).map (val5 b)
def locts (l : List Nat) : Option (List Nat) :=
  let b := l.foldl (fun b n => b ++ b5 n) []
  let many := b.length / 8 * 8
  if 5 ≤ b.length - many ∨ 1 ∈ b.drop many then none else some (((List.range (many / 8)).map (· * 8)).map (val8 b))
def encT (h m : List Nat) (k : Nat) : List Nat := h ++ [49] ++ (m ++ chks h m k).map cs

theorem pin_mod (top c i : Nat) : pin top c i = if (top >>> i) % 2 = 1 then c ^^^ gensN[i]?.getD 0 else c := by
  unfold pin
  rw [Nat.and_one_is_mod]
  split
  · rename_i h; rw [if_pos (by omega)]
  · rename_i h; rw [if_neg (by omega)]; simp
theorem toI_sum (l : List Nat) : (toI l).sum = ((l.sum : Nat) : Int) := by
  induction l with
  | nil => rfl
  | cons a l ih => rw [toI_cons, List.sum_cons, List.sum_cons, ih]; simp
theorem toI_rep (n k : Nat) : (List.replicate n (toI [k])).flatten = toI (List.replicate n k) := by
  induction n with
  | zero => rfl
  | succ n ih => rw [List.replicate_succ, List.flatten_cons, ih, List.replicate_succ]; rfl
theorem fold_len8 : ∀ (l b : List Nat), (l.foldl (fun b n => b ++ b8 n) b).length = b.length + 8 * l.length
  | [], b => by simp
  | n :: l, b => by rw [List.foldl_cons, fold_len8 l]; simp [b8]; omega
theorem fold_len5 : ∀ (l b : List Nat), (l.foldl (fun b n => b ++ b5 n) b).length = b.length + 5 * l.length
  | [], b => by simp
  | n :: l, b => by rw [List.foldl_cons, fold_len5 l]; simp [b5]; omega
theorem b8_lt {n x : Nat} (h : x ∈ b8 n) : x < 2 := by obtain ⟨k, _, rfl⟩ := List.mem_map.mp h; exact Nat.mod_lt _ (by decide)
theorem b5_lt {n x : Nat} (h : x ∈ b5 n) : x < 2 := by obtain ⟨k, _, rfl⟩ := List.mem_map.mp h; exact Nat.mod_lt _ (by decide)
theorem fold_lt8 : ∀ (l b : List Nat), (∀ x ∈ b, x < 2) → ∀ x ∈ l.foldl (fun b n => b ++ b8 n) b, x < 2
  | [], b, h => h
  | n :: l, b, h => fold_lt8 l _ fun x hx => (List.mem_append.mp hx).elim (h x) b8_lt
theorem fold_lt5 : ∀ (l b : List Nat), (∀ x ∈ b, x < 2) → ∀ x ∈ l.foldl (fun b n => b ++ b5 n) b, x < 2
  | [], b, h => h
  | n :: l, b, h => fold_lt5 l _ fun x hx => (List.mem_append.mp hx).elim (h x) b5_lt
theorem padded_len (l : List Nat) : (padded l).length = (l.length + 4) / 5 * 5 := by unfold padded; rw [List.length_append, List.length_replicate]; omega
theorem get_some {l : List Nat} {i : Nat} (h : i < l.length) : l[i]? = some (l[i]?.getD 0) := by rw [List.getElem?_eq_getElem h]; rfl
theorem getD_lt {l : List Nat} (h : ∀ x ∈ l, x < 2) (i : Nat) : l[i]?.getD 0 < 2 := by
  by_cases hi : i < l.length
  · rw [List.getElem?_eq_getElem hi]; exact h _ (List.getElem_mem hi)
  · rw [List.getElem?_eq_none (by omega)]; decide

section
variable {X : Cx} {F : Fx} {q : Bool} {g g' : List (PySem.Str × D)} {e l r : Expr} {d a b c : D} {pos : Pos} {es : List Expr} {ds : List D} {o : Out}

theorem items_step (n c : Nat) : Items (.rng (rngL 0 c n)) (((List.range n).map (· * c)).map srcN.to) := by
  have := items_rngN 0 c n
  have e : ((List.range n).map fun k => D.nat (0 + k * c)) = ((List.range n).map (· * c)).map srcN.to := by
    rw [List.map_map]; apply List.map_congr_left; intro k _; simp [srcN]
  rw [e] at this; exact this

theorem rest_sx (K : Df X F 91 0) (l : List Nat) : SX X F [("values", .nats l)] (bodyAt X.w.params 91) (.ret (.nat (pmod l))) := by
  refine sx_cons (s1_assign (d := .nat 1) (ev_nat rfl) (K.L rfl) rfl) ?_
  refine sx_cons (s1_fold .nat (fun c => [("rest", .nat c)]) pstep (fun _ => True) 1 l (ev_local rfl (K.k rfl) rfl) (items_nats l) (K.L rfl) (sub_cons rfl sub_nil) trivial ?_ (fun _ => rfl) fun _ _ => rfl) (sx_ret (s1_return (ev_local rfl (K.k rfl) rfl)))
  refine fun c _ v _ => ⟨trivial, ?_⟩
  refine sx_cons (s1_assign (d := .nat (c >>> 25)) (ev_bin (ev_local rfl (K.k rfl) rfl) (ev_nat (n := 25) rfl) bn_shr) (K.L rfl) rfl) ?_
  refine sx_cons (s1_assign (d := .nat (((c &&& 33554431) <<< 5) ^^^ v)) (ev_bin (ev_bin (ev_bin (ev_local rfl (K.k rfl) rfl) (ev_nat (n := 33554431) rfl) bn_and) (ev_nat (n := 5) rfl) (bn_shl (Nat.lt_of_le_of_lt Nat.and_le_right (by decide)) (by decide))) (ev_local rfl (K.k rfl) rfl) bn_xor) (K.L rfl) rfl) ?_
  refine sx_cons (s1_fold .nat (fun c' => [("rest", .nat c'), ("top", .nat (c >>> 25))]) (pin (c >>> 25)) (fun _ => True) (((c &&& 33554431) <<< 5) ^^^ v) (List.range 5)
    (ev_call_t rfl (K.k rfl) (K.none rfl) rfl (by decide) (evs_cons (ev_nat (n := 5) rfl) evs_nil) rfl (by simp) (fop_range1 (n := 5) rfl rfl)) (items_range 5) (K.L rfl) (sub_cons rfl (sub_cons rfl sub_nil)) trivial ?_ (fun _ => rfl) fun _ _ => rfl) (sx_end (sub_cons rfl sub_nil))
  refine fun c' _ i hi => ⟨trivial, ?_⟩
  have hi' : i < 5 := List.mem_range.mp hi
  have hgi : gensN[i]? = some (gensN[i]?.getD 0) := get_some hi'
  rw [pin_mod]
  refine sx_cons (g' := [("rest", .nat (if ((c >>> 25) >>> i) % 2 = 1 then c' ^^^ gensN[i]?.getD 0 else c')), ("top", .nat (c >>> 25))]) (s1_if (c := decide (((c >>> 25) >>> i) % 2 = 1)) (tv_cmp (ev_bin (ev_bin (ev_local rfl (K.k rfl) rfl) (ev_local rfl (K.k rfl) rfl) bn_shr) (ev_nat (n := 2) rfl) (bn_mod (by decide))) (ev_nat (n := 1) rfl) cn_eq rfl) (fun h => ?_) fun h => ?_) (sx_end fun _ _ h => h)
  · rw [if_pos (of_decide_eq_true h)]
    exact sx_cons (s1_assign (d := .nat (c' ^^^ gensN[i]?.getD 0)) (ev_bin (ev_local rfl (K.k rfl) rfl) (ev_sub (ev_natsLit (l := gensN) (evs_cons ev_int (evs_cons ev_int (evs_cons ev_int (evs_cons ev_int (evs_cons ev_int evs_nil))))) rfl) (ev_local rfl (K.k rfl) rfl) (gn_get hgi (by omega)) getitem_list fun _ _ => rfl) bn_xor) (K.L rfl) rfl) (sx_end (sub_cons rfl (sub_cons rfl sub_nil)))
  · rw [if_neg (of_decide_eq_false h)]
    exact sx_end (sub_cons rfl (sub_cons rfl sub_nil))

theorem rest_fop (G : Gd X) (ok : X.Ok) (hown : F.own = none) (hlv : 1 ≤ F.lv) (l : List Nat) : Fop X F false (.ref 91) [.nats l] (.nat (pmod l)) :=
  fop_def (names := ["values"]) (exd := []) (ex := []) G.T hown hlv rfl rfl rfl rfl rfl rfl rfl rfl rfl rfl (by decide) (by decide) (fun _ _ => .nil) (fun s vs _ h => by
    match vs, h with
    | [v], _ => exact .of_eq rfl) (fun x hx => by simp at hx; subst hx; exact .inl rfl) fun L => rest_sx ⟨G, ok, fun _ => rfl, rfl, rfl, Nat.zero_le _⟩ l

theorem fn_sum {l : List Nat} : Fop X F q (.builtin "sum") [.nats l] (.nat l.sum) := by
  have := fop_sum (X := X) (F := F) (q := q) (l := toI l)
  rwa [toI_sum] at this
theorem fn_len {l : List Nat} (h : l.length < 2 ^ 60) : Fop X F q (.builtin "len") [.nats l] (.nat l.length) := by
  have := fop_len_ints (X := X) (F := F) (q := q) (l := toI l) (by rw [toI_length]; exact h)
  rwa [toI_length] at this
theorem fn_range3 {b c n : Nat} (hc : 0 < c) (hc2 : c < 1000) (hb : b = n * c) (hs : b ≤ 100000) : Fop X F q (.type "range") [.nat 0, .nat b, .nat c] (.rng (rngL 0 c n)) := by
  have hn : n ≤ b := by rw [hb]; exact Nat.le_mul_of_pos_right n hc
  have hsize : Builtin.Range.rangeSize ((0 : Nat) : Int) b c = (n : Int) := by
    unfold Builtin.Range.rangeSize
    rw [if_pos (by omega)]
    by_cases h0 : n = 0
    · subst h0; simp at hb; subst hb; simp
    · have hpos : 0 < n * c := Nat.mul_pos (by omega) hc
      rw [if_pos (by omega)]
      have : ((b : Int) - (0 : Nat) - 1) / (c : Int) = ((n - 1 : Nat) : Int) := by
        have e : ((b : Int) - (0 : Nat) - 1) = ((b - 1 : Nat) : Int) := by omega
        rw [e, ← Int.natCast_ediv]
        congr 1
        subst hb
        have : n * c - 1 = (c - 1) + (n - 1) * c := by
          have e2 : n * c = (n - 1) * c + c := by rw [← Nat.succ_mul]; congr 1; omega
          omega
        rw [this, Nat.add_mul_div_right _ _ hc, Nat.div_eq_of_lt (by omega)]; omega
      rw [this]; omega
  refine fop_range3 (by omega) (by simp; omega) hsize ?_
  unfold Builtin.Range.small
  rw [hsize, if_pos (by omega)]
  simp [Builtin.Range.rangeFitsLong]
  omega
theorem bwn_rep {k n : Nat} (hz : n ≤ 1000000) : Bopw X F .Mult (.nats [k]) (.nat n) (.nats (List.replicate n k)) := by
  have := bopw_mulI (X := X) (F := F) (l := toI [k]) (n := n) (by omega) (by omega) (by simp [toI]; omega)
  rw [Int.toNat_natCast, toI_rep] at this
  exact this

/-- the octets of a list of bits: sums by place -/
theorem ev_val {scope scope2 : Scope} {B : List Nat} {w at' : Nat} {C Da : Addr} {iter2 : Expr} {np np' sp sp2 : Pos} : True := trivial

theorem fives_sx (K : Df X F 96 0) (l : List Nat) (hl : l.length ≤ 1000) : SX X F [("octets", .nats l)] (bodyAt X.w.params 96) (.ret (.nats (lfives l))) := by
  have h8 := fold_len8 l []
  have hlt := fold_lt8 l [] (by simp)
  refine sx_cons (s1_assign (d := .nats []) (ev_natsLit (l := []) evs_nil rfl) (K.C rfl) rfl) ?_
  refine sx_cons (s1_foldP .nat (fun b => [("bits", .nats b)]) (fun b n => b ++ b8 n) [] l (ev_local rfl (K.k rfl) rfl) (items_nats l) (K.C rfl) (sub_cons rfl sub_nil) ?_ (fun _ => rfl) fun _ _ => rfl) ?_
  · intro pre n ⟨post, hp⟩
    have hpl : pre.length ≤ 1000 := by rw [hp] at hl; simp at hl; omega
    have h8' := fold_len8 pre []
    refine sx_cons (s1_assign (d := .nats (pre.foldl (fun b n => b ++ b8 n) [] ++ b8 n)) (ev_binw (ev_cell rfl (K.k rfl) rfl) (ev_compN (gc := [("one", .nat n)]) srcN (fun k => n / 2 ^ (7 - k) % 2)
      (ev_call_t rfl (K.k rfl) (K.none rfl) rfl (by decide) (evs_cons (ev_nat (n := 8) rfl) evs_nil) rfl (by simp) (fop_range1 (n := 8) rfl rfl)) (items_rangeS 8) (so_mk (all1 (K.k rfl))) (caps_cons rfl rfl rfl caps_nil) (by simp) ?_ (.inl rfl) fun _ => rfl) (bwn_add (by simp at h8'; simp; omega))) (K.C rfl) rfl) (sx_end (sub_cons rfl sub_nil))
    intro C Da k hk
    have hk' : k < 8 := List.mem_range.mp hk
    exact ev_bin (ev_bin (ev_cell rfl (kc_free K.fn (K.k rfl) rfl) rfl) (ev_bin (ev_nat (n := 2) rfl) (ev_bin (ev_nat (n := 7) rfl) (ev_local rfl (kc_plain rfl (by decide)) rfl) (bn_sub (by omega))) (bn_pow (by decide) (by omega)))
      (bn_div (Nat.two_pow_pos _) (Nat.lt_of_le_of_lt (Nat.pow_le_pow_right (by decide) (show 7 - k ≤ 7 by omega)) (by decide)))) (ev_nat (n := 2) rfl) (bn_mod (by decide))
  · generalize hb : l.foldl (fun b n => b ++ b8 n) [] = B at *
    simp only [List.length_nil, Nat.zero_add] at h8
    have hp : lfives l = ((List.range ((padded B).length / 5)).map (· * 5)).map (val5 (padded B)) := by unfold lfives; rw [hb]
    have hpl := padded_len B
    have hplt : ∀ x ∈ padded B, x < 2 := fun x hx => by
      rcases List.mem_append.mp hx with hx | hx
      · exact hlt x hx
      · rw [List.eq_of_mem_replicate hx]; decide
    refine sx_cons (s1_assign (d := .nats (padded B)) (ev_binw (ev_cell rfl (K.k rfl) rfl) (ev_binw (ev_natsLit (l := [0]) (evs_cons ev_int evs_nil) rfl)
      (EV.to (d' := .nat ((5 - B.length % 5) % 5)) (ev_bin (ev_neg (ev_call_b rfl (K.k rfl) (K.none rfl) rfl (by decide) (evs_cons (ev_cell rfl (K.k rfl) rfl) evs_nil) rfl (by simp) (fn_len (by omega)))) ev_int (bop_mod (by decide))) ?_) (bwn_rep (by omega))) (bwn_add (by simp; omega))) (K.C rfl) rfl) ?_
    · congr 1
      rw [Int.fmod_eq_emod_of_nonneg _ (by decide)]
      omega
    · rw [hp]
      have hdiv : (padded B).length = (padded B).length / 5 * 5 := by omega
      refine sx_ret (s1_return (ev_compN (gc := [("bits", .nats (padded B))]) srcN (val5 (padded B)) (ev_call_t rfl (K.k rfl) (K.none rfl) rfl (by decide)
        (evs_cons (ev_nat (n := 0) rfl) (evs_cons (ev_call_b rfl (K.k rfl) (K.none rfl) rfl (by decide) (evs_cons (ev_cell rfl (K.k rfl) rfl) evs_nil) rfl (by simp) (fn_len (by omega))) (evs_cons (ev_nat (n := 5) rfl) evs_nil))) rfl (by simp)
        (fn_range3 (by decide) (by decide) hdiv (by omega))) (items_step _ 5) (so_mk (all1 (K.k rfl))) (caps_cons rfl rfl rfl caps_nil) (by simp; omega) ?_ (.inr rfl) fun _ => rfl))
      intro C Da at' hat
      have hat' : at' + 5 ≤ (padded B).length := by
        obtain ⟨j, hj, rfl⟩ := List.mem_map.mp hat
        have := List.mem_range.mp hj
        omega
      refine ev_call_b rfl (kc_plain rfl (by decide)) (K.none rfl) rfl (by decide) (evs_cons (ev_compN (gc := [("at", .nat at'), ("bits", .nats (padded B))]) srcN (fun k => (padded B)[at' + k]?.getD 0 * 2 ^ (4 - k))
        (ev_call_t rfl (kc_plain rfl (by decide)) (K.none rfl) rfl (by decide) (evs_cons (ev_nat (n := 5) rfl) evs_nil) rfl (by simp) (fop_range1 (n := 5) rfl rfl)) (items_rangeS 5)
        (so_mk (all2 (kc_plain rfl (by decide)) (kc_free K.fn (K.k rfl) rfl))) (caps_cons rfl rfl rfl (caps_cons rfl rfl rfl caps_nil)) (by simp) ?_ (.inl rfl) fun _ => rfl) evs_nil) rfl (by simp) fn_sum
      intro C2 Da2 k hk
      have hk' : k < 5 := List.mem_range.mp hk
      exact ev_bin (ev_sub (ev_cell rfl (kc_free kc_fn (kc_free K.fn (K.k rfl) rfl) rfl) rfl) (ev_bin (ev_cell rfl (kc_free kc_fn (kc_plain rfl (by decide)) rfl) rfl) (ev_local rfl (kc_plain rfl (by decide)) rfl) bn_add) (gn_get (get_some (by omega)) (by omega)) getitem_list fun _ _ => rfl)
        (ev_bin (ev_nat (n := 2) rfl) (ev_bin (ev_nat (n := 4) rfl) (ev_local rfl (kc_plain rfl (by decide)) rfl) (bn_sub (by omega))) (bn_pow (by decide) (by omega))) (bn_mul (Nat.lt_trans (getD_lt hplt _) (by decide)))
end
end Mine

-- C7
namespace Mine

section
variable {X : Cx} {F : Fx} {q : Bool} {g g' : List (PySem.Str × D)} {e l r : Expr} {d a b c : D} {pos : Pos} {es : List Expr} {ds : List D} {o : Out}

theorem fives_fop (G : Gd X) (ok : X.Ok) (hown : F.own = none) (hlv : 1 ≤ F.lv) (l : List Nat) (hl : l.length ≤ 1000) : Fop X F false (.ref 96) [.nats l] (.nats (lfives l)) :=
  fop_def (names := ["octets"]) (exd := []) (ex := []) G.T hown hlv rfl rfl rfl rfl rfl rfl rfl rfl rfl rfl (by decide) (by decide) (fun _ _ => .nil) (fun s vs _ h => by
    match vs, h with
    | [v], _ => exact .of_eq rfl) (fun x hx => by simp at hx; subst hx; exact .inl rfl) fun L => fives_sx ⟨G, ok, fun _ => rfl, rfl, rfl, Nat.zero_le _⟩ l hl

theorem cn_in {l : List Nat} {n : Nat} : Cop X F .In (.nat n) (.nats l) (.bool (decide (n ∈ l))) := by
  have := cop_in_ints (X := X) (F := F) (l := toI l) (i := n)
  have e : (((toI l).map PyData.int).any fun y => PyData.eqv y (.int n)) = decide (n ∈ l) := by
    clear this
    induction l with
    | nil => rfl
    | cons a l ih =>
      rw [toI_cons, List.map_cons, List.any_cons, ih, Bool.eq_iff_iff]
      simp only [PyData.eqv, Bool.or_eq_true, beq_iff_eq, decide_eq_true_eq, List.mem_cons]
      constructor
      · rintro (h | h)
        · left; omega
        · exact .inr h
      · rintro (h | h)
        · left; omega
        · exact .inr h
  rwa [e] at this

theorem octs_sx (K : Df X F 101 0) (l : List Nat) (hl : l.length ≤ 1000) : SX X F [("fives", .nats l)] (bodyAt X.w.params 101) (.ret (optD (locts l))) := by
  have h8 := fold_len5 l []
  have hlt := fold_lt5 l [] (by simp)
  refine sx_cons (s1_assign (d := .nats []) (ev_natsLit (l := []) evs_nil rfl) (K.C rfl) rfl) ?_
  refine sx_cons (s1_foldP .nat (fun b => [("bits", .nats b)]) (fun b n => b ++ b5 n) [] l (ev_local rfl (K.k rfl) rfl) (items_nats l) (K.C rfl) (sub_cons rfl sub_nil) ?_ (fun _ => rfl) fun _ _ => rfl) ?_
  · intro pre n ⟨post, hp⟩
    have hpl : pre.length ≤ 1000 := by rw [hp] at hl; simp at hl; omega
    have h8' := fold_len5 pre []
    refine sx_cons (s1_assign (d := .nats (pre.foldl (fun b n => b ++ b5 n) [] ++ b5 n)) (ev_binw (ev_cell rfl (K.k rfl) rfl) (ev_compN (gc := [("one", .nat n)]) srcN (fun k => n / 2 ^ (4 - k) % 2)
      (ev_call_t rfl (K.k rfl) (K.none rfl) rfl (by decide) (evs_cons (ev_nat (n := 5) rfl) evs_nil) rfl (by simp) (fop_range1 (n := 5) rfl rfl)) (items_rangeS 5) (so_mk (all1 (K.k rfl))) (caps_cons rfl rfl rfl caps_nil) (by simp) ?_ (.inl rfl) fun _ => rfl) (bwn_add (by simp at h8'; simp; omega))) (K.C rfl) rfl) (sx_end (sub_cons rfl sub_nil))
    intro C Da k hk
    have hk' : k < 5 := List.mem_range.mp hk
    exact ev_bin (ev_bin (ev_cell rfl (kc_free K.fn (K.k rfl) rfl) rfl) (ev_bin (ev_nat (n := 2) rfl) (ev_bin (ev_nat (n := 4) rfl) (ev_local rfl (kc_plain rfl (by decide)) rfl) (bn_sub (by omega))) (bn_pow (by decide) (by omega)))
      (bn_div (Nat.two_pow_pos _) (Nat.lt_of_le_of_lt (Nat.pow_le_pow_right (by decide) (show 4 - k ≤ 4 by omega)) (by decide)))) (ev_nat (n := 2) rfl) (bn_mod (by decide))
  · generalize hb : l.foldl (fun b n => b ++ b5 n) [] = B at *
    simp only [List.length_nil, Nat.zero_add] at h8
    have hp : locts l = if 5 ≤ B.length - B.length / 8 * 8 ∨ 1 ∈ B.drop (B.length / 8 * 8) then none else some (((List.range (B.length / 8 * 8 / 8)).map (· * 8)).map (val8 B)) := by unfold locts; rw [hb]
    have evlen : ∀ {pos : Pos} {np np' : Pos}, EV X F true [("bits", .nats B)] (.Call (.Name "len" np) [.Name "bits" np'] [] pos) (.nat B.length) := ev_call_b rfl (K.k rfl) (K.none rfl) rfl (by decide) (evs_cons (ev_cell rfl (K.k rfl) rfl) evs_nil) rfl (by simp) (fn_len (by omega))
    refine sx_cons (s1_assign (d := .nat (B.length / 8 * 8)) (ev_bin (ev_bin evlen.weak (ev_nat (n := 8) rfl) (bn_div (by decide) (by decide))) (ev_nat (n := 8) rfl) (bn_mul (by omega))) (K.L rfl) rfl) ?_
    generalize hm : B.length / 8 * 8 = many at *
    have hle : many ≤ B.length := by omega
    rw [hp]
    have test : ∀ (c : Bool), c = decide (5 ≤ B.length - many ∨ 1 ∈ B.drop many) → c = (decide (5 ≤ B.length - many) || decide (1 ∈ B.drop many)) := fun c h => by rw [h]; exact Bool.decide_or _ _
    refine sx_if (cc := !decide (5 ≤ B.length - many ∨ 1 ∈ B.drop many)) (g' := [("many", .nat many), ("bits", .nats B)]) (d := .none) (s1_if (c := decide (5 ≤ B.length - many ∨ 1 ∈ B.drop many)) (TV.to (tv_orL (tv_cmp (ev_bin (ev_call_b rfl (K.k rfl) (K.none rfl) rfl (by decide) (evs_cons (ev_cell rfl (K.k rfl) rfl) evs_nil) rfl (by simp) (fn_len (by omega))) (ev_local rfl (K.k rfl) rfl) (bn_sub hle)) (ev_nat (n := 5) rfl) cn_ge rfl)
      fun _ => tv_or1 (tv_cmp (ev_nat (n := 1) rfl) (EV.to (ev_sliceI (i := some (many : Int)) (j := none) (ev_cell rfl (K.k rfl) rfl) (ev_local (d := .nat many) rfl (K.k rfl) rfl) trivial (by rw [toI_length]; omega)) (d' := .nats (B.drop many)) ?_) cn_in rfl)) (test _ rfl).symm) (fun h => ?_) fun h => ?_) (fun h => ?_) fun h => ?_
    · rw [cut_drop _ (by omega), Int.toNat_natCast, ← toI_drop]
    · rw [h]; exact sx_ret (s1_return ev_none)
    · rw [h]; exact sx_nil
    · have hc : ¬ (5 ≤ B.length - many ∨ 1 ∈ B.drop many) := by simpa using h
      rw [if_neg hc]
      have hdiv : many = many / 8 * 8 := by omega
      refine sx_ret (s1_return (d := .nats (((List.range (many / 8)).map (· * 8)).map (val8 B))) (ev_compN (gc := [("bits", .nats B)]) srcN (val8 B) (ev_call_t rfl (K.k rfl) (K.none rfl) rfl (by decide)
        (evs_cons (ev_nat (n := 0) rfl) (evs_cons (ev_local rfl (K.k rfl) rfl) (evs_cons (ev_nat (n := 8) rfl) evs_nil))) rfl (by simp)
        (fn_range3 (by decide) (by decide) hdiv (by omega))) (items_step _ 8) (so_mk (all1 (K.k rfl))) (caps_cons rfl rfl rfl caps_nil) (by simp; omega) ?_ (.inr rfl) fun _ => rfl))
      intro C Da at' hat
      have hat' : at' + 8 ≤ B.length := by
        obtain ⟨j, hj, rfl⟩ := List.mem_map.mp hat
        have := List.mem_range.mp hj
        omega
      refine ev_call_b rfl (kc_plain rfl (by decide)) (K.none rfl) rfl (by decide) (evs_cons (ev_compN (gc := [("at", .nat at'), ("bits", .nats B)]) srcN (fun k => B[at' + k]?.getD 0 * 2 ^ (7 - k))
        (ev_call_t rfl (kc_plain rfl (by decide)) (K.none rfl) rfl (by decide) (evs_cons (ev_nat (n := 8) rfl) evs_nil) rfl (by simp) (fop_range1 (n := 8) rfl rfl)) (items_rangeS 8)
        (so_mk (all2 (kc_plain rfl (by decide)) (kc_free K.fn (K.k rfl) rfl))) (caps_cons rfl rfl rfl (caps_cons rfl rfl rfl caps_nil)) (by simp) ?_ (.inl rfl) fun _ => rfl) evs_nil) rfl (by simp) fn_sum
      intro C2 Da2 k hk
      have hk' : k < 8 := List.mem_range.mp hk
      exact ev_bin (ev_sub (ev_cell rfl (kc_free kc_fn (kc_free K.fn (K.k rfl) rfl) rfl) rfl) (ev_bin (ev_cell rfl (kc_free kc_fn (kc_plain rfl (by decide)) rfl) rfl) (ev_local rfl (kc_plain rfl (by decide)) rfl) bn_add) (gn_get (get_some (by omega)) (by omega)) getitem_list fun _ _ => rfl)
        (ev_bin (ev_nat (n := 2) rfl) (ev_bin (ev_nat (n := 7) rfl) (ev_local rfl (kc_plain rfl (by decide)) rfl) (bn_sub (by omega))) (bn_pow (by decide) (by omega))) (bn_mul (Nat.lt_trans (getD_lt hlt _) (by decide)))
    · have hc : (5 ≤ B.length - many ∨ 1 ∈ B.drop many) := of_decide_eq_true (by rw [Bool.not_eq_false'] at h; exact h)
      rw [if_pos hc]; rfl

theorem octs_fop (G : Gd X) (ok : X.Ok) (hown : F.own = none) (hlv : 1 ≤ F.lv) (l : List Nat) (hl : l.length ≤ 1000) : Fop X F false (.ref 101) [.nats l] (optD (locts l)) :=
  fop_def (names := ["fives"]) (exd := []) (ex := []) G.T hown hlv rfl rfl rfl rfl rfl rfl rfl rfl rfl rfl (by decide) (by decide) (fun _ _ => .nil) (fun s vs _ h => by
    match vs, h with
    | [v], _ => exact .of_eq rfl) (fun x hx => by simp at hx; subst hx; exact .inl rfl) fun L => octs_sx ⟨G, ok, fun _ => rfl, rfl, rfl, Nat.zero_le _⟩ l hl

theorem chks_alt (h m : List Nat) (k : Nat) : chks h m k = (List.range 6).map fun i => ((pmod (hrpx h ++ m ++ List.replicate 6 0) ^^^ k) >>> (25 - 5 * i)) &&& 31 := by
  unfold chks
  apply List.map_congr_left
  intro i hi
  have hi' : i < 6 := List.mem_range.mp hi
  show _ = ((pmod (hrpx h ++ m ++ [0, 0, 0, 0, 0, 0]) ^^^ k) >>> (25 - 5 * i)) &&& 31
  congr 2
  omega

theorem text_sx (K : Df X F 106 1) (h m : List Nat) (k : Nat) (hz : h.length ≤ 1000) (hm : m.length ≤ 1000) (hlt : ∀ x ∈ m, x < 32) : SX X F [("head", .txt h), ("fives", .nats m), ("constant", .nat k)] (bodyAt X.w.params 106) (.ret (.txt (encT h m k))) := by
  have hx := hrpx_len h
  have hc : (chks h m k).length = 6 := by simp [chks]
  have hall : ∀ x ∈ m ++ chks h m k, x < 32 := fun x hx => by
    rcases List.mem_append.mp hx with hx | hx
    · exact hlt x hx
    · exact chks_lt x hx
  refine sx_cons (s1_assign (d := .nats (hrpx h ++ m)) (ev_binw (ev_binw (ev_binw (ev_compN srcC (fun c => c >>> 5) (gc := []) (ev_local rfl (K.k rfl) rfl) (items_txt h) (so_mk all0) caps_nil (by omega) ?_ (.inl rfl) fun _ => rfl)
    (ev_natsLit (l := [0]) (evs_cons ev_int evs_nil) rfl) (bwn_add (by simp; omega)))
    (ev_compN srcC (fun c => c &&& 31) (gc := []) (ev_local rfl (K.k rfl) rfl) (items_txt h) (so_mk all0) caps_nil (by omega) ?_ (.inl rfl) fun _ => rfl) (bwn_add (by simp; omega))) (ev_local rfl (K.k rfl) rfl) (bwn_add (by simp; omega))) (K.L rfl) rfl) ?_
  · refine fun C Da c _ => ev_bin (ev_call_b rfl (kc_plain rfl (by decide)) (K.none rfl) rfl (by decide) (evs_cons (ev_local rfl (kc_plain rfl (by decide)) rfl) evs_nil) rfl (by simp) fn_ord) (ev_nat (n := 5) rfl) bn_shr
  · refine fun C Da c _ => ev_bin (ev_call_b rfl (kc_plain rfl (by decide)) (K.none rfl) rfl (by decide) (evs_cons (ev_local rfl (kc_plain rfl (by decide)) rfl) evs_nil) rfl (by simp) fn_ord) (ev_nat (n := 31) rfl) bn_and
  refine sx_cons (s1_assign (d := .nat (pmod (hrpx h ++ m ++ List.replicate 6 0) ^^^ k)) (ev_bin (ev_call_f rfl (K.k rfl) (K.some (v := .ref 91) rfl) (K.gd.T.K 91 _ rfl) rfl
    (evs_cons (ev_binw (ev_local rfl (K.k rfl) rfl) (ev_binw (ev_natsLit (l := [0]) (evs_cons ev_int evs_nil) rfl) (ev_nat (n := 6) rfl) (bwn_rep (by decide))) (bwn_add (by simp; omega))) evs_nil) rfl (by simp)
    (rest_fop K.gd K.ok K.own K.lv _)) (ev_local rfl (K.k rfl) rfl) bn_xor) (K.C rfl) rfl) ?_
  refine sx_cons (s1_assign (d := .txt csl) (EV.to (d := .str "qpzry9x8gf2tvdw0s3jn54khce6mua7l") ev_str rfl) (K.C rfl) rfl) ?_
  refine sx_ret (s1_return (d := .txt (h ++ [49] ++ (m ++ chks h m k).map cs)) (ev_bin (ev_bin (ev_local rfl (K.k rfl) rfl) (EV.to (d := .str "1") ev_str rfl) (bn_addT (m := [49]) (by simp; omega)))
    (EV.to (ev_join (x := mkS []) (EV.to (d := .str "") ev_str rfl) (ev_compS srcN (l := m ++ chks h m k) (fun n => mkS [cs n]) (gc := [("signs", .txt csl)]) (EV.to (d := .nats (m ++ (List.range 6).map fun i => ((pmod (hrpx h ++ m ++ List.replicate 6 0) ^^^ k) >>> (25 - 5 * i)) &&& 31)) (ev_binw (ev_local rfl (K.k rfl) rfl)
      (ev_compN (gc := [("rest", .nat (pmod (hrpx h ++ m ++ List.replicate 6 0) ^^^ k))]) srcN (fun i => ((pmod (hrpx h ++ m ++ List.replicate 6 0) ^^^ k) >>> (25 - 5 * i)) &&& 31)
        (ev_call_t rfl (K.k rfl) (K.none rfl) rfl (by decide) (evs_cons (ev_nat (n := 6) rfl) evs_nil) rfl (by simp) (fop_range1 (n := 6) rfl rfl)) (items_rangeS 6) (so_mk (all1 (K.k rfl))) (caps_cons rfl rfl rfl caps_nil) (by simp) ?_ (.inl rfl) fun _ => rfl) (bwn_add (by simp; omega))) (by rw [chks_alt]))
      (items_natsS _) (so_mk (all1 (K.k rfl))) (caps_cons rfl rfl rfl caps_nil) (by simp; omega) ?_ (.inl rfl) fun _ => rfl) rfl ?_ rfl rfl) ?_) (bn_addT (by simp; omega))))
  · intro C Da i hi
    have hi' : i < 6 := List.mem_range.mp hi
    exact ev_bin (ev_bin (ev_cell rfl (kc_free K.fn (K.k rfl) rfl) rfl) (ev_bin (ev_nat (n := 25) rfl) (ev_bin (ev_nat (n := 5) rfl) (ev_local rfl (kc_plain rfl (by decide)) rfl) (bn_mul (by decide))) (bn_sub (by omega))) bn_shr) (ev_nat (n := 31) rfl) bn_and
  · intro C Da n hn
    have := cs_get (hall n hn)
    exact ev_sub (T := "str") (ev_cell rfl (kc_free K.fn (K.k rfl) rfl) rfl) (ev_local rfl (kc_plain rfl (by decide)) rfl) (gop_str (by omega) (by have := hall n hn; omega) (by rw [Int.toNat_natCast]; simpa using this)) getitem_str fun _ _ => rfl
  · have := joinOk_txt ((m ++ chks h m k).map cs) (by simp; omega)
    rwa [List.map_map] at this
  · have := join_txt ((m ++ chks h m k).map cs)
    rw [List.map_map] at this
    exact congrArg D.str this

theorem text_fop (G : Gd X) (ok : X.Ok) (hown : F.own = none) (hlv : 2 ≤ F.lv) (h m : List Nat) (k : Nat) (hz : h.length ≤ 1000) (hm : m.length ≤ 1000) (hlt : ∀ x ∈ m, x < 32) : Fop X F false (.ref 106) [.txt h, .nats m, .nat k] (.txt (encT h m k)) :=
  fop_def (names := ["head", "fives", "constant"]) (exd := []) (ex := []) G.T hown (by omega) rfl rfl rfl rfl rfl rfl rfl rfl rfl rfl (by decide) (by decide) (fun _ _ => .nil) (fun s vs _ h => by
    match vs, h with
    | [v, w, u], _ => exact .of_eq rfl) (fun x hx => by simp at hx; rcases hx with rfl | rfl | rfl <;> exact .inl rfl) fun L => text_sx ⟨G, ok, fun _ => rfl, rfl, rfl, Nat.le_sub_of_add_le hlv⟩ h m k hz hm hlt
end
end Mine

-- C8
namespace Mine

theorem at_one (l : List Nat) (c i : Nat) : StrLaws.At (mkS l) (mkS [c]) (mkS l).length i ↔ l[i]? = some c := by
  unfold StrLaws.At Builtin.Str.subAt
  have hl : (mkS l).length = l.length := by simp [PySem.Str.length]
  have h1 : (mkS [c]).length = 1 := rfl
  rw [hl, h1]
  constructor
  · rintro ⟨h, e⟩
    have hi : i < l.length := by omega
    have e2 := eq_of_beq e
    have e3 := congrArg Array.toList e2
    simp only [List.extract_toArray, List.extract_eq_take_drop] at e3
    have : (l.drop i).take (i + 1 - i) = [l[i]] := by
      rw [show i + 1 - i = 1 by omega, List.drop_eq_getElem_cons hi]; rfl
    rw [this] at e3
    rw [List.getElem?_eq_getElem hi]
    simpa using e3
  · intro h
    have hi : i < l.length := (List.getElem?_eq_some_iff.mp h).1
    refine ⟨by omega, ?_⟩
    rw [beq_iff_eq]
    apply Array.toList_inj.mp
    simp only [List.extract_toArray, List.extract_eq_take_drop]
    rw [show i + 1 - i = 1 by omega, List.drop_eq_getElem_cons hi]
    rw [List.getElem?_eq_getElem hi] at h
    simp [Option.some.inj h]
theorem rfind_some {l : List Nat} {c p : Nat} (h : l[p]? = some c) (hn : ∀ k, p < k → l[k]? ≠ some c) : Txt.rfind (mkS l) (mkS [c]) = (p : Int) := by
  rcases rfind_whole (mkS l) (mkS [c]) with ⟨_, h2⟩ | ⟨i, h1, h2, h3⟩
  · exact absurd ((at_one l c p).mpr h) (h2 p)
  · rw [h1]
    have hi := (at_one l c i).mp h2
    congr 1
    rcases Nat.lt_trichotomy i p with hlt | he | hgt
    · exact absurd ((at_one l c p).mpr h) (h3 p hlt)
    · exact he
    · exact absurd hi (hn i hgt)
theorem rfind_none {l : List Nat} {c : Nat} (h : c ∉ l) : Txt.rfind (mkS l) (mkS [c]) = -1 := by
  rcases rfind_whole (mkS l) (mkS [c]) with ⟨h1, _⟩ | ⟨i, _, h2, _⟩
  · exact h1
  · exact absurd (List.mem_of_getElem? ((at_one l c i).mp h2)) h
theorem rfind_ge (l : List Nat) (c : Nat) : -1 ≤ Txt.rfind (mkS l) (mkS [c]) := by
  rcases rfind_whole (mkS l) (mkS [c]) with ⟨h1, _⟩ | ⟨i, h1, _⟩ <;> rw [h1] <;> omega
def ci (c : Nat) : Nat := csl.idxOf c
theorem find_ci {c : Nat} (h : c ∈ csl) : Txt.find (mkS csl) (mkS [c]) = (ci c : Int) := by
  have hlt : ci c < csl.length := List.idxOf_lt_length_of_mem h
  have hg : csl[ci c]? = some c := by rw [List.getElem?_eq_getElem hlt]; exact congrArg some (List.getElem_idxOf hlt)
  rcases find_whole (mkS csl) (mkS [c]) with ⟨_, h2⟩ | ⟨i, h1, h2, h3⟩
  · exact absurd ((at_one csl c _).mpr hg) (h2 _)
  · rw [h1]
    have hi := (at_one csl c i).mp h2
    congr 1
    rcases Nat.lt_trichotomy i (ci c) with hlt' | he | hgt
    · exfalso
      have hil : i < csl.length := (List.getElem?_eq_some_iff.mp hi).1
      have := List.not_of_lt_findIdx (p := (· == c)) (xs := csl) hlt'
      rw [List.getElem?_eq_getElem hil] at hi
      simp [Option.some.inj hi] at this
    · exact he
    · exact absurd ((at_one csl c _).mpr hg) (h3 _ hgt)

def decBad (l : List Nat) : Bool := l.any (fun c => decide (c < 33) || decide (126 < c)) || (decide (l.map lo1 ≠ l) && decide (l.map up1 ≠ l))
def dec (l : List Nat) : Option (Nat × List Nat × List Nat) :=
  if decBad l then none else
  let b := l.map lo1
  let p := Txt.rfind (mkS b) (mkS [49])
  if p < 1 ∨ p + 7 > b.length ∨ b.length > 90 then none else
  let t := b.drop (p + 1).toNat
  if !(t.all fun c => decide (c ∈ csl)) then none else
  let h := b.take p.toNat
  let d := t.map ci
  match verif h d with
  | none => none
  | some e => some (e, h, d.take (d.length - 6))
def decD : Option (Nat × List Nat × List Nat) → D
  | none => .tup [.none, .none, .none]
  | some (e, h, d) => .tup [.nat e, .txt h, .nats d]

section
variable {X : Cx} {F : Fx} {q : Bool} {g g' : List (PySem.Str × D)} {e l r : Expr} {d a b c : D} {pos : Pos} {es : List Expr} {ds : List D} {o : Out}

theorem swaps {elt : Expr} {gs : List Comprehension} {scope : Scope} {py : Pos} {y : PySem.Str} {n : Nat} (hfn : F.env.scope.kind = .function) (hk : F.env.kindOf y = some .local) (hl : (py.line == pos.line) = true)
    (hn : (scope.names.any fun x => x.1 == y && (x.2 == .local || x.2 == .cell)) = false) : swapsWith (.ListComp elt gs scope pos) (some (.Name y py)) n F.env = pure true := by
  have hb : F.env.blockKind = .function := by unfold Env.blockKind; rw [hfn]; rfl
  show (pure (F.env.blockKind == .function && F.env.kindOf y == some .local && py.line == pos.line && !(scope.names.any fun (n, k) => n == y && (k == .local || k == .cell))) : Sem Bool) = pure true
  rw [hb, hk, hl]
  have : (scope.names.any fun (n, k) => n == y && (k == .local || k == .cell)) = false := hn
  rw [this]; rfl
theorem cn_neT {l m : List Nat} : Cop X F .NotEq (.txt l) (.txt m) (.bool (decide (l ≠ m))) := by
  have := cop_ne_str (X := X) (F := F) (x := mkS l) (y := mkS m)
  have e : (mkS l != mkS m) = decide (l ≠ m) := by
    by_cases h : l = m
    · subst h; simp
    · have : mkS l ≠ mkS m := fun e => h (by
        have := congrArg (fun x : PySem.Str => x.cps.toList) e
        simpa using this)
      simp [h, this]
  rwa [e] at this
theorem cn_eqT {l m : List Nat} : Cop X F .Eq (.txt l) (.txt m) (.bool (decide (l = m))) := by
  have := cop_eq_str (X := X) (F := F) (x := mkS l) (y := mkS m)
  have e : (mkS l == mkS m) = decide (l = m) := by
    by_cases h : l = m
    · subst h; simp
    · have : mkS l ≠ mkS m := fun e => h (by
        have := congrArg (fun x : PySem.Str => x.cps.toList) e
        simpa using this)
      simp [h, this]
  rwa [e] at this
theorem cn_inT {l : List Nat} {c : Nat} : Cop X F .In (.txt [c]) (.txt l) (.bool (decide (c ∈ l))) := by
  have := cop_in_str (X := X) (F := F) (x := mkS l) (y := mkS [c])
  have e : Txt.contains (mkS l) (mkS [c]) = decide (c ∈ l) := by
    have := StrLaws.found_one (mkS l) c
    simpa [Txt.contains] using this
  rwa [e] at this
theorem fn_lenT {l : List Nat} (h : l.length < 2 ^ 60) : Fop X F q (.builtin "len") [.txt l] (.nat l.length) := by
  have := fop_len_str (X := X) (F := F) (q := q) (x := mkS l) (by simpa [PySem.Str.length] using h)
  have e : (mkS l).length = l.length := by simp [PySem.Str.length]
  rw [e] at this; exact this
theorem lowerT {l : List Nat} (h : ∀ c ∈ l, c < 128) : Txt.lower (mkS l) = mkS (l.map lo1) := by rw [lower_ascii (by simpa using h)]; simp
theorem upperT {l : List Nat} (h : ∀ c ∈ l, c < 128) : Txt.upper (mkS l) = mkS (l.map up1) := by rw [upper_ascii (by simpa using h)]; simp
theorem any_signs (l : List Nat) (p : Nat → Bool) : ((signs (mkS l)).any fun ch => p (ch.cps[0]?.getD 0)) = l.any p := by rw [signs_mk, List.any_map]; rfl
theorem all_signs (l : List Nat) (p : Nat → Bool) : ((signs (mkS l)).all fun ch => p (ch.cps[0]?.getD 0)) = l.all p := by rw [signs_mk, List.all_map]; rfl

theorem ev_sliceT {n : PySem.Str} {np p : Pos} {lo hi : Option Expr} {i j : Option Int} {m m' : List Nat} (hn : EV X F q g (.Name n np) (.txt m)) (hl : OV X F q g lo i) (hh : OV X F q g hi j) (hz : m.length ≤ 1000000) (hc : cut m i j = m') :
    EV X F q g (.Subscript (.Name n np) (.Slice lo hi none p) pos) (.txt m') := by
  have := ev_sliceS (pos := pos) (p := p) hn hl hh (by simpa [PySem.Str.length] using hz)
  have e : (mkS m).cps.toList = m := by simp
  rw [e, hc] at this
  exact this
theorem ev_none3 {p : Pos} {k k1 k2 k3 : Nat} {p1 p2 p3 : Pos} : EV X F q g (.Tuple [.Constant .none k1 p1, .Constant .none k2 p2, .Constant .none k3 p3] k p) (decD none) :=
  ev_tup (evs_cons ev_none (evs_cons ev_none (evs_cons ev_none evs_nil))) rfl

theorem dec_sx (K : Df X F 62 2) (hcode : F.env.code = .ref X.c) (l : List Nat) (hz : l.length ≤ 1000) (ha : ∀ c ∈ l, c < 128) : SX X F [("bech", .txt l)] (bodyAt X.w.params 62) (.ret (decD (dec l))) := by
  refine sx_if (cc := !decBad l) (g' := [("bech", .txt l)]) (d := decD none) (s1_if (c := decBad l) (tv_orL (tv_plain ((ev_any (p := fun ch => (fun c => decide (c < 33) || decide (126 < c)) (ch.cps[0]?.getD 0)) K.gd (K.k rfl) (K.none rfl) (ev_local rfl (K.k rfl) rfl) hcode rfl rfl (by decide) rfl rfl rfl K.lv ?_ fun _ => rfl).to (congrArg D.bool (any_signs l fun c => decide (c < 33) || decide (126 < c)))) rfl fun _ => rfl)
    fun _ => tv_or1 (tv_andL (tv_cmp ((ev_lower (ev_local rfl (K.k rfl) rfl) ?_ rfl rfl).to (congrArg D.str (lowerT ha))) (ev_local rfl (K.k rfl) rfl) cn_neT rfl) fun _ => tv_and1 (tv_cmp ((ev_upper (ev_local rfl (K.k rfl) rfl) ?_ rfl rfl).to (congrArg D.str (upperT ha))) (ev_local rfl (K.k rfl) rfl) cn_neT rfl))) (fun h => ?_) fun h => ?_) (fun h => ?_) fun h => ?_
  · intro A C code ch hch
    rw [signs_mk] at hch
    obtain ⟨c, hc, rfl⟩ := List.mem_map.mp hch
    refine ev_or2 (c := decide (c < 33)) (ev_cmp (ev_call_b rfl rfl (K.none rfl) rfl (by decide) (evs_cons (ev_local rfl rfl rfl) evs_nil) rfl (by simp) fn_ord) (ev_nat (n := 33) rfl) cn_lt rfl) (fun h => ?_) fun h => ?_
    · refine EV.to (ev_cmp (ev_call_b rfl rfl (K.none rfl) rfl (by decide) (evs_cons (ev_local rfl rfl rfl) evs_nil) rfl (by simp) fn_ord) (ev_nat (n := 126) rfl) cn_gt rfl) ?_
      have : decide (c < 33) = false := h
      simp [this]
    · have : decide (c < 33) = true := h
      simp [this]
  · rw [lowerT ha]; simp [PySem.Str.length]; omega
  · rw [upperT ha]; simp [PySem.Str.length]; omega
  · rw [h]; exact sx_ret (s1_return ev_none3)
  · rw [h]; exact sx_nil
  · have hbad : ¬ decBad l = true := by simpa using h
    rw [dec, if_neg hbad]
    generalize hb : l.map lo1 = b
    have hbl : b.length = l.length := by rw [← hb]; simp
    have hgt := rfind_ge b 49
    generalize hp : Txt.rfind (mkS b) (mkS [49]) = p at hgt
    simp only [hp]
    refine sx_cons (s1_assign (d := .txt b) (EV.to (ev_lower (ev_local rfl (K.k rfl) rfl) (by rw [lowerT ha]; simp [PySem.Str.length]; omega) rfl rfl) (by rw [lowerT ha, hb])) (K.L rfl) rfl) ?_
    refine sx_cons (s1_assign (d := .int p) (EV.to (ev_rfind (y := mkS [49]) (ev_local rfl (K.k rfl) rfl) (EV.to (d := .str "1") ev_str rfl) rfl rfl rfl) (by rw [hp])) (K.L rfl) rfl) ?_
    have hsz : ((b.length : Nat) : Int) = b.length := rfl
    refine sx_if (cc := !decide (p < 1 ∨ p + 7 > b.length ∨ b.length > 90)) (g' := [("pos", .int p), ("bech", .txt b)]) (d := decD none) (s1_if (c := decide (p < 1 ∨ p + 7 > b.length ∨ b.length > 90)) (TV.to (tv_orL (tv_cmp (ev_local rfl (K.k rfl) rfl) (ev_int (i := 1)) cop_lt rfl)
      fun _ => tv_orL (tv_cmp (ev_bin (ev_local rfl (K.k rfl) rfl) (ev_int (i := 7)) bop_add) (ev_call_b rfl (K.k rfl) (K.none rfl) rfl (by decide) (evs_cons (ev_local rfl (K.k rfl) rfl) evs_nil) rfl (by simp) (fn_lenT (by omega))) cop_gt rfl)
      fun _ => tv_or1 (tv_cmp (ev_call_b rfl (K.k rfl) (K.none rfl) rfl (by decide) (evs_cons (ev_local rfl (K.k rfl) rfl) evs_nil) rfl (by simp) (fn_lenT (by omega))) (ev_nat (n := 90) rfl) cn_gt rfl)) ?_) (fun h => ?_) fun h => ?_) (fun h => ?_) fun h => ?_
    · rw [Bool.decide_or, Bool.decide_or]
    · rw [h]; exact sx_ret (s1_return ev_none3)
    · rw [h]; exact sx_end (sub_cons rfl (sub_cons rfl sub_nil))
    · have hc : ¬ (p < 1 ∨ p + 7 > b.length ∨ b.length > 90) := of_decide_eq_false (by rw [Bool.not_eq_true'] at h; exact h)
      rw [if_neg hc]
      have hp1 : 1 ≤ p := by omega
      generalize ht : b.drop (p + 1).toNat = t
      have htl : t.length ≤ 90 := by rw [← ht, List.length_drop]; omega
      refine sx_if (cc := t.all fun c => decide (c ∈ csl)) (g' := [("pos", .int p), ("bech", .txt b)]) (d := decD none) (s1_if (c := !(t.all fun c => decide (c ∈ csl))) (tv_not (tv_plain (EV.to (ev_all (p := fun ch => (fun c => decide (c ∈ csl)) (ch.cps[0]?.getD 0)) (y := mkS t) K.gd (K.k rfl) (K.none rfl)
        (ev_sliceT (i := some (p + 1)) (j := none) (ev_local rfl (K.k rfl) rfl) (show EV X F true _ _ _ from ev_bin (ev_local rfl (K.k rfl) rfl) ev_int bop_add) trivial (by omega) (by rw [cut_drop _ (by omega), ht])) hcode rfl rfl (by decide) rfl rfl rfl K.lv ?_ fun _ => rfl) (congrArg D.bool (all_signs t fun c => decide (c ∈ csl)))) rfl fun _ => rfl)) (fun h => ?_) fun h => ?_) (fun h => ?_) fun h => ?_
      · intro A C code ch hch
        rw [signs_mk] at hch
        obtain ⟨c, hc, rfl⟩ := List.mem_map.mp hch
        exact ev_cmp (ev_local rfl rfl rfl) (ev_global (v := .str (PySem.Str.ofString "qpzry9x8gf2tvdw0s3jn54khce6mua7l") 189) (d := .txt csl) rfl rfl (K.some rfl) fun _ _ => .str _ _) cn_inT rfl
      · have : (t.all fun c => decide (c ∈ csl)) = false := by simpa using h
        rw [this]; exact sx_ret (s1_return ev_none3)
      · have : (t.all fun c => decide (c ∈ csl)) = true := by simpa using h
        rw [this]; exact sx_nil
      · rw [if_neg (by rw [h]; decide)]
        have hall : ∀ c ∈ t, c ∈ csl := fun c hc => by simpa using List.all_eq_true.mp h c hc
        have hhl : (b.take p.toNat).length ≤ 90 := by rw [List.length_take]; omega
        refine sx_cons (s1_assign (d := .txt (b.take p.toNat)) (ev_sliceT (i := none) (j := some p) (ev_local rfl (K.k rfl) rfl) trivial (show EV X F false _ _ _ from ev_local rfl (K.k rfl) rfl) (by omega) (cut_take _ (by omega))) (K.L rfl) rfl) ?_
        refine sx_cons (s1_compN (gc := []) srcC ci (ev_sliceT (i := some (p + 1)) (j := none) (ev_local rfl (K.k rfl) rfl) (show EV X F true _ _ _ from ev_bin (ev_local rfl (K.k rfl) rfl) ev_int bop_add) trivial (by omega) (by rw [cut_drop _ (by omega), ht])) (items_txt t) (so_mk all0) caps_nil (by omega) ?_ (.inl rfl) (fun _ => rfl) (swaps K.fn (K.k rfl) rfl rfl) (K.L rfl)) ?_
        · intro C Da c hc
          exact EV.to (ev_find (x := mkS csl) (y := mkS [c]) (ev_global (v := .str (PySem.Str.ofString "qpzry9x8gf2tvdw0s3jn54khce6mua7l") 189) (d := .txt csl) rfl (kc_plain rfl (by decide)) (K.some rfl) fun _ _ => .str _ _) (ev_local rfl (kc_plain rfl (by decide)) rfl) rfl rfl rfl) (by rw [find_ci (hall c hc)])
        generalize hd : t.map ci = dd
        have hdl : dd.length ≤ 90 := by rw [← hd]; simpa using htl
        generalize hh : b.take p.toNat = hr at *
        refine sx_cons (s1_assign (d := encD (verif hr dd)) (ev_call_f rfl (K.k rfl) (K.some (v := .ref 47) rfl) (K.gd.T.K 47 _ rfl) rfl (evs_cons (ev_local rfl (K.k rfl) rfl) (evs_cons (ev_local rfl (K.k rfl) rfl) evs_nil)) rfl (by simp) (verify_fop K.gd K.ok K.own K.lv hr dd (by omega) (by omega))) (K.L rfl) rfl) ?_
        cases hv : verif hr dd with
        | none => exact sx_ret (s1_if (c := true) (tv_cmp (ev_local rfl (K.k rfl) rfl) ev_none cop_is_none rfl) (fun _ => sx_ret (s1_return ev_none3)) fun h => by cases h)
        | some en =>
          refine sx_cons (g' := [("encoding", .nat en), ("data", .nats dd), ("hrp", .txt hr)]) (s1_if (c := false) (tv_cmp (ev_local rfl (K.k rfl) rfl) ev_none cop_is_none rfl) (fun h => by cases h) fun _ => sx_end (sub_cons rfl (sub_cons rfl (sub_cons rfl sub_nil)))) ?_
          refine sx_ret (s1_return (ev_tup (evs_cons (ev_local rfl (K.k rfl) rfl) (evs_cons (ev_local rfl (K.k rfl) rfl) (evs_cons (EV.to (ev_sliceI (i := none) (j := some (-6)) (ev_local rfl (K.k rfl) rfl) trivial (show EV X F false _ _ _ from ev_neg ev_int) (by rw [toI_length]; omega)) ?_) evs_nil))) rfl (by simp)))
          rw [show (-6 : Int) = -((6 : Nat) : Int) from rfl, cut_end _ (by decide), toI_length]
          exact congrArg D.ints (toI_take _ _).symm
      · rw [if_pos (by rw [h]; decide)]
    · have hc : (p < 1 ∨ p + 7 > b.length ∨ b.length > 90) := of_decide_eq_true (by rw [Bool.not_eq_false'] at h; exact h)
      rw [if_pos hc]
  · have : decBad l = true := by simpa using h
    rw [dec, if_pos this]

/-- the address of bech32_decode's own code -/
theorem dec_fop (G : Gd X) (ok : X.Ok) (hc : X.c = 61) (hown : F.own = none) (hlv : 3 ≤ F.lv) (l : List Nat) (hz : l.length ≤ 1000) (ha : ∀ c ∈ l, c < 128) : Fop X F false (.ref 62) [.txt l] (decD (dec l)) :=
  fop_def (names := ["bech"]) (exd := []) (ex := []) G.T hown (by omega) rfl rfl rfl rfl rfl rfl rfl rfl rfl rfl (by decide) (by decide) (fun _ _ => .nil) (fun s vs _ h => by
    match vs, h with
    | [v], _ => exact .of_eq rfl) (fun x hx => by simp at hx; subst hx; exact .inl rfl) fun L => dec_sx ⟨G, ok, fun _ => rfl, rfl, rfl, Nat.le_sub_of_add_le hlv⟩ (by rw [hc]; rfl) l hz ha
end
end Mine

-- C9
namespace Mine

def fin (v e : Nat) (m : List Nat) : Option (Nat × List Nat) :=
  if m.length < 2 ∨ m.length > 40 then none
  else if v > 16 then none
  else if v = 0 ∧ m.length ≠ 20 ∧ m.length ≠ 32 then none
  else if (v = 0 ∧ e ≠ 1) ∨ (v ≠ 0 ∧ e ≠ 2) then none else some (v, m)
def decode (hrp l : List Nat) : Option (Nat × List Nat) :=
  match dec l with
  | none => none
  | some (e, h, d) => if h ≠ hrp then none else
    match conv 5 8 false (d.drop 1) with
    | none => none
    | some m => fin (d[0]?.getD 0) e m
def pairD : Option (Nat × List Nat) → D
  | none => .tup [.none, .none]
  | some (v, m) => .tup [.nat v, .nats m]
def encode (h : List Nat) (v : Nat) (m : List Nat) : Option (List Nat) :=
  match conv 8 5 true m with
  | none => none
  | some f => let t := enc (if v = 0 then 1 else 2) h (v :: f); if decode h t = none then none else some t
def optT : Option (List Nat) → D
  | none => .none
  | some t => .txt t

theorem conv_len {f t : Nat} {pad : Bool} {l m : List Nat} (ht : 1 ≤ t) (hft : f + t ≤ 20) (h : conv f t pad l = some m) : m.length ≤ 40 * l.length + 1 := by
  have gen : ∀ (m : List Nat) (s0 : Nat × Nat × List Nat), s0.2.1 < t → (m.foldl (cstep f t) s0).2.2.length ≤ s0.2.2.length + 40 * m.length := by
    intro m
    induction m with
    | nil => intro s0 _; simp
    | cons v m ih =>
      intro s0 h2
      have hlen := emit_len (acc := cacc f t s0.1 v) (t := t) (s0.2.1 + f) (s0.2.1 + f) s0.2.2
      have := ih (cstep f t s0 v) (emit_lt ht _ _ _ (Nat.le_refl _))
      rw [List.foldl_cons, List.length_cons]
      have e : (cstep f t s0 v).2.2.length ≤ s0.2.2.length + (s0.2.1 + f) := hlen
      omega
  have hg := gen l (0, 0, []) ht
  unfold conv at h
  split at h
  · simp only at h
    generalize l.foldl (cstep f t) (0, 0, []) = s at *
    simp only [List.length_nil, Nat.zero_add] at hg
    split at h
    · split at h
      · cases h; simp; omega
      · cases h; omega
    · split at h
      · cases h
      · cases h; omega
  · cases h

theorem dec_len {l : List Nat} {e : Nat} {h d : List Nat} (hh : dec l = some (e, h, d)) : h.length ≤ 90 ∧ d.length ≤ 90 := by
  unfold dec at hh
  split at hh
  · cases hh
  · simp only at hh
    split at hh
    · cases hh
    · rename_i h1
      split at hh
      · cases hh
      · split at hh
        · cases hh
        · cases hh
          have hb : (l.map lo1).length ≤ 90 := by omega
          constructor
          · rw [List.length_take]; omega
          · rw [List.length_take, List.length_map, List.length_drop]; omega

section
variable {X : Cx} {F : Fx} {q : Bool} {g g' : List (PySem.Str × D)} {e l r : Expr} {d a b c : D} {pos : Pos} {es : List Expr} {ds : List D} {o : Out}

theorem ev_none2 {p : Pos} {k k1 k2 : Nat} {p1 p2 : Pos} : EV X F q g (.Tuple [.Constant .none k1 p1, .Constant .none k2 p2] k p) (pairD none) :=
  ev_tup (evs_cons ev_none (evs_cons ev_none evs_nil)) rfl
theorem cop_ne_noneT {x : PySem.Str} : Cop X F .NotEq .none (.str x) (.bool true) := fun s u v I _ hu hv E => by
  cases hu; cases hv; exact PySem.EqNone.ne_none_str ⟨.bool _, Rl.refl I⟩

/-- the last part of decode: what was read is judged -/
theorem decode_tail (K : Df X F 77 3) {v e : Nat} {dd m : List Nat} (hv : dd[0]? = some v) (hm : m.length ≤ 1000) {ss : List Stmt} (G : List (PySem.Str × D)) : True := trivial

theorem decode_sx (K : Df X F 77 3) (hc61 : X.c = 61) (hrp l : List Nat) (hz : l.length ≤ 1000) (hz2 : hrp.length ≤ 1000) (ha : ∀ c ∈ l, c < 128) : SX X F [("hrp", .txt hrp), ("addr", .txt l)] (bodyAt X.w.params 77) (.ret (pairD (decode hrp l))) := by
  cases hd : dec l with
  | none =>
    refine sx_cons (s1_unpack3 (a := .none) (b := .none) (c := .none) (EV.to (ev_call_f rfl (K.k rfl) (K.some (v := .ref 62) rfl) (K.gd.T.K 62 _ rfl) rfl (evs_cons (ev_local rfl (K.k rfl) rfl) evs_nil) rfl (by simp) (dec_fop K.gd K.ok hc61 K.own K.lv l hz ha)) (by rw [hd]; rfl)) (K.k rfl) (K.k rfl) (K.k rfl) rfl rfl) ?_
    refine sx_ret (s1_if (c := true) (tv_cmp (ev_local rfl (K.k rfl) rfl) (ev_local rfl (K.k rfl) rfl) cop_ne_noneT rfl) (fun _ => sx_ret (s1_return (EV.to ev_none2 ?_))) fun h => by cases h)
    unfold decode; rw [hd]
  | some edh =>
    obtain ⟨e, h, dd⟩ := edh
    obtain ⟨hhl, hdl⟩ := dec_len hd
    refine sx_cons (s1_unpack3 (a := .nat e) (b := .txt h) (c := .nats dd) (EV.to (ev_call_f rfl (K.k rfl) (K.some (v := .ref 62) rfl) (K.gd.T.K 62 _ rfl) rfl (evs_cons (ev_local rfl (K.k rfl) rfl) evs_nil) rfl (by simp) (dec_fop K.gd K.ok hc61 K.own K.lv l hz ha)) (by rw [hd]; rfl)) (K.k rfl) (K.k rfl) (K.k rfl) rfl rfl) ?_
    have hdec : decode hrp l = if h ≠ hrp then none else (match conv 5 8 false (dd.drop 1) with | none => none | some m => fin (dd[0]?.getD 0) e m) := by unfold decode; rw [hd]
    rw [hdec]
    refine sx_if (cc := !decide (h ≠ hrp)) (g' := [("data", .nats dd), ("encoding", .nat e)]) (d := pairD none) (s1_if (c := decide (h ≠ hrp)) (tv_cmp (ev_local rfl (K.k rfl) rfl) (ev_local rfl (K.k rfl) rfl) cn_neT rfl) (fun h => ?_) fun h => ?_) (fun hc => ?_) fun hc => ?_
    · rw [h]; exact sx_ret (s1_return ev_none2)
    · rw [h]; exact sx_end (sub_cons rfl (sub_cons rfl sub_nil))
    · have hne : ¬ h ≠ hrp := of_decide_eq_false (by rw [Bool.not_eq_true'] at hc; exact hc)
      rw [if_neg hne]
      refine sx_cons (s1_assign (d := optD (conv 5 8 false (dd.drop 1))) (ev_call_f rfl (K.k rfl) (K.some (v := .ref 70) rfl) (K.gd.T.K 70 _ rfl) rfl (evs_cons (EV.to (d' := .nats (dd.drop 1)) (ev_sliceI (i := some 1) (j := none) (ev_local rfl (K.k rfl) rfl) (show EV X F false _ _ _ from ev_int) trivial (by rw [toI_length]; omega)) ?_) (evs_cons (ev_nat (n := 5) rfl) (evs_cons (ev_nat (n := 8) rfl) (evs_cons ev_bool evs_nil)))) rfl (by simp)
        (conv_fop4 K.gd K.ok K.own (by have := K.lv; omega) (by decide) (by decide) (by decide) (dd.drop 1) false (by rw [List.length_drop]; omega))) (K.L rfl) rfl) ?_
      · rw [cut_drop _ (by decide)]; exact congrArg D.ints (toI_drop dd 1).symm
      cases hcv : conv 5 8 false (dd.drop 1) with
      | none =>
        refine sx_ret (s1_if (c := true) (tv_or (c := true) (tv_cmp (ev_local rfl (K.k rfl) rfl) ev_none cop_is_none rfl) (fun h => by cases h) fun _ => rfl) (fun _ => sx_ret (s1_return ev_none2)) fun h => by cases h)
      | some m =>
        have hml := conv_len (by decide) (by decide) hcv
        rw [List.length_drop] at hml
        simp only [optD]
        have evl : ∀ {g pos np np'}, g.lookup (PySem.Str.ofString "decoded") = some (.nats m) → EV X F false g (.Call (.Name "len" np) [.Name "decoded" np'] [] pos) (.nat m.length) := fun {g pos np np'} hg => ev_call_b rfl (K.k rfl) (K.none rfl) rfl (by decide) (evs_cons (ev_local rfl (K.k rfl) hg) evs_nil) rfl (by simp) (fn_len (by omega))
        refine sx_if (cc := !decide (m.length < 2 ∨ m.length > 40)) (g' := [("decoded", .nats m), ("data", .nats dd), ("encoding", .nat e)]) (d := pairD none) (s1_if (c := decide (m.length < 2 ∨ m.length > 40)) (TV.to (tv_orL (c := false) (tv_cmp (ev_local rfl (K.k rfl) rfl) ev_none cop_is_none rfl) fun _ => tv_orL (tv_cmp (evl rfl) (ev_nat (n := 2) rfl) cn_lt rfl) fun _ => tv_or1 (tv_cmp (evl rfl) (ev_nat (n := 40) rfl) cn_gt rfl)) ?_) (fun h => ?_) fun h => ?_) (fun hc => ?_) fun hc => ?_
        · rw [Bool.decide_or, Bool.false_or]
        · rw [h]; exact sx_ret (s1_return ev_none2)
        · rw [h]; exact sx_end (sub_cons rfl (sub_cons rfl (sub_cons rfl sub_nil)))
        · have h1 : ¬ (m.length < 2 ∨ m.length > 40) := of_decide_eq_false (by rw [Bool.not_eq_true'] at hc; exact hc)
          have hd0 : dd[0]? = some (dd[0]?.getD 0) := by
            refine get_some ?_
            by_cases h0 : 0 < dd.length
            · exact h0
            · exfalso
              have : dd = [] := List.length_eq_zero_iff.mp (by omega)
              subst this
              have e0 : conv 5 8 false (([] : List Nat).drop 1) = some [] := by decide
              rw [e0] at hcv
              cases hcv
              exact h1 (.inl (by decide))
          generalize hv : dd[0]?.getD 0 = v at *
          have evd : ∀ {g pos p1 p2 k}, g.lookup (PySem.Str.ofString "data") = some (.nats dd) → EV X F false g (.Subscript (.Name "data" p1) (.Constant (.int 0) k p2) pos) (.nat v) := fun {g pos p1 p2 k} hg => ev_sub (ev_local rfl (K.k rfl) hg) (ev_nat (n := 0) rfl) (gn_get hd0 (by decide)) getitem_list fun _ _ => rfl
          unfold fin
          rw [if_neg h1]
          refine sx_if (cc := !decide (v > 16)) (g' := [("decoded", .nats m), ("data", .nats dd), ("encoding", .nat e)]) (d := pairD none) (s1_if (c := decide (v > 16)) (tv_cmp (evd rfl) (ev_nat (n := 16) rfl) cn_gt rfl) (fun h => ?_) fun h => ?_) (fun hc => ?_) fun hc => ?_
          · rw [h]; exact sx_ret (s1_return ev_none2)
          · rw [h]; exact sx_end (sub_cons rfl (sub_cons rfl (sub_cons rfl sub_nil)))
          · rw [if_neg (of_decide_eq_false (by rw [Bool.not_eq_true'] at hc; exact hc))]
            refine sx_if (cc := !decide (v = 0 ∧ m.length ≠ 20 ∧ m.length ≠ 32)) (g' := [("decoded", .nats m), ("data", .nats dd), ("encoding", .nat e)]) (d := pairD none) (s1_if (c := decide (v = 0 ∧ m.length ≠ 20 ∧ m.length ≠ 32)) (TV.to (tv_andL (tv_cmp (evd rfl) (ev_nat (n := 0) rfl) cn_eq rfl) fun _ => tv_andL (tv_cmp (evl rfl) (ev_nat (n := 20) rfl) cn_ne rfl) fun _ => tv_and1 (tv_cmp (evl rfl) (ev_nat (n := 32) rfl) cn_ne rfl)) ?_) (fun h => ?_) fun h => ?_) (fun hc => ?_) fun hc => ?_
            · rw [Bool.decide_and, Bool.decide_and]
            · rw [h]; exact sx_ret (s1_return ev_none2)
            · rw [h]; exact sx_end (sub_cons rfl (sub_cons rfl (sub_cons rfl sub_nil)))
            · rw [if_neg (of_decide_eq_false (by rw [Bool.not_eq_true'] at hc; exact hc))]
              refine sx_if (cc := !decide ((v = 0 ∧ e ≠ 1) ∨ (v ≠ 0 ∧ e ≠ 2))) (g' := [("decoded", .nats m), ("data", .nats dd), ("encoding", .nat e)]) (d := pairD none) (s1_if (c := decide ((v = 0 ∧ e ≠ 1) ∨ (v ≠ 0 ∧ e ≠ 2))) (TV.to (tv_orL (tv_andL (tv_cmp (evd rfl) (ev_nat (n := 0) rfl) cn_eq rfl) fun _ => tv_and1 (tv_cmp (ev_local rfl (K.k rfl) rfl) (ev_B1 K.gd K.ok (K.k rfl)) cn_ne rfl))
                fun _ => tv_or1 (tv_andL (tv_cmp (evd rfl) (ev_nat (n := 0) rfl) cn_ne rfl) fun _ => tv_and1 (tv_cmp (ev_local rfl (K.k rfl) rfl) (ev_B2 K.gd K.ok (K.k rfl)) cn_ne rfl))) ?_) (fun h => ?_) fun h => ?_) (fun hc => ?_) fun hc => ?_
              · rw [Bool.decide_or, Bool.decide_and, Bool.decide_and]
              · rw [h]; exact sx_ret (s1_return ev_none2)
              · rw [h]; exact sx_end (sub_cons rfl (sub_cons rfl (sub_cons rfl sub_nil)))
              · rw [if_neg (of_decide_eq_false (by rw [Bool.not_eq_true'] at hc; exact hc))]
                exact sx_ret (s1_return (ev_tup (evs_cons (evd rfl) (evs_cons (ev_local rfl (K.k rfl) rfl) evs_nil)) rfl (by simp)))
              · rw [if_pos (of_decide_eq_true (by rw [Bool.not_eq_false'] at hc; exact hc))]
            · rw [if_pos (of_decide_eq_true (by rw [Bool.not_eq_false'] at hc; exact hc))]
          · rw [if_pos (of_decide_eq_true (by rw [Bool.not_eq_false'] at hc; exact hc))]
        · have h1 : (m.length < 2 ∨ m.length > 40) := of_decide_eq_true (by rw [Bool.not_eq_false'] at hc; exact hc)
          unfold fin; rw [if_pos h1]
    · rw [if_pos (of_decide_eq_true (by rw [Bool.not_eq_false'] at hc; exact hc))]
end
end Mine

-- C10
namespace Mine

theorem csl_lt : ∀ c ∈ csl, c < 128 := by decide
theorem cs_lt (n : Nat) : cs n < 128 := by
  unfold cs
  by_cases h : n < csl.length
  · rw [List.getElem?_eq_getElem h]; exact csl_lt _ (List.getElem_mem h)
  · rw [List.getElem?_eq_none (by omega)]; decide

section
variable {X : Cx} {F : Fx} {q : Bool} {g g' : List (PySem.Str × D)} {e l r : Expr} {d a b c : D} {pos : Pos} {es : List Expr} {ds : List D} {o : Out}

theorem decode_fop (G : Gd X) (ok : X.Ok) (hc : X.c = 61) (hown : F.own = none) (hlv : 4 ≤ F.lv) (h l : List Nat) (hz : l.length ≤ 1000) (hz2 : h.length ≤ 1000) (ha : ∀ c ∈ l, c < 128) : Fop X F false (.ref 77) [.txt h, .txt l] (pairD (decode h l)) :=
  fop_def (names := ["hrp", "addr"]) (exd := []) (ex := []) G.T hown (by omega) rfl rfl rfl rfl rfl rfl rfl rfl rfl rfl (by decide) (by decide) (fun _ _ => .nil) (fun s vs _ h => by
    match vs, h with
    | [v, w], _ => exact .of_eq rfl) (fun x hx => by simp at hx; rcases hx with rfl | rfl <;> exact .inl rfl) fun L => decode_sx ⟨G, ok, fun _ => rfl, rfl, rfl, Nat.le_sub_of_add_le hlv⟩ hc h l hz hz2 ha

theorem cop_pair_none {x : Option (Nat × List Nat)} : Cop X F .Eq (pairD x) (pairD none) (.bool (decide (x = none))) := by
  have := cop_eq (X := X) (F := F) (a := pairD x) (b := pairD none) (by cases x <;> rfl) rfl (Nat.le_trans (Nat.min_le_right _ _) (by decide))
  cases x with
  | none => exact this
  | some vm =>
    obtain ⟨v, m⟩ := vm
    have e : PyData.eqv (pairD (some (v, m))).py (pairD none).py = false := by simp [pairD, D.py, D.pyAll, PyData.eqv, PyData.eqvAll]
    rw [e] at this
    exact this

theorem encode_sx (K : Df X F 84 4) (hc61 : X.c = 61) (h m f : List Nat) (v : Nat) (hz : h.length ≤ 500) (hm : m.length ≤ 100) (ha : ∀ c ∈ h, c < 128) (hv : v < 32) (hcv : conv 8 5 true m = some f) (hfl : f.length ≤ 400) (hf : ∀ x ∈ f, x < 32) :
    SX X F [("hrp", .txt h), ("witver", .nat v), ("witprog", .nats m)] (bodyAt X.w.params 84) (.ret (optT (encode h v m))) := by
  generalize hen : (if v = 0 then 1 else 2) = en
  have he : encode h v m = if decode h (enc en h (v :: f)) = none then none else some (enc en h (v :: f)) := by
    unfold encode; rw [hcv]; simp only [hen]
  refine sx_cons (s1_assign (d := .nat en) (ev_if (c := decide (v = 0)) (tv_cmp (ev_local rfl (K.k rfl) rfl) (ev_nat (n := 0) rfl) cn_eq rfl) (fun hc => EV.to (ev_B1 K.gd K.ok (K.k rfl)) (by rw [← hen, if_pos (of_decide_eq_true hc)])) fun hc => EV.to (ev_B2 K.gd K.ok (K.k rfl)) (by rw [← hen, if_neg (of_decide_eq_false hc)])) (K.L rfl) rfl) ?_
  have hlen : (enc en h (v :: f)).length ≤ 1000 := by simp [enc, chks]; omega
  have hasc : ∀ c ∈ enc en h (v :: f), c < 128 := fun c hc => by
    unfold enc at hc
    rcases List.mem_append.mp hc with hc | hc
    · rcases List.mem_append.mp hc with hc | hc
      · exact ha c hc
      · rw [List.mem_singleton.mp hc]; decide
    · obtain ⟨x, _, rfl⟩ := List.mem_map.mp hc; exact cs_lt x
  refine sx_cons (s1_assign (d := .txt (enc en h (v :: f))) (ev_call_f rfl (K.k rfl) (K.some (v := .ref 57) rfl) (K.gd.T.K 57 _ rfl) rfl (evs_cons (ev_local rfl (K.k rfl) rfl) (evs_cons (ev_local rfl (K.k rfl) rfl) (evs_cons (ev_binw (ev_natsLit (l := [v]) (evs_cons (ev_local rfl (K.k rfl) rfl) evs_nil) rfl (by simp))
    (EV.to (d' := .nats f) (ev_call_f rfl (K.k rfl) (K.some (v := .ref 70) rfl) (K.gd.T.K 70 _ rfl) rfl (evs_cons (ev_local rfl (K.k rfl) rfl) (evs_cons (ev_nat (n := 8) rfl) (evs_cons (ev_nat (n := 5) rfl) evs_nil))) rfl (by simp) (conv_fop3 K.gd K.ok K.own (by have := K.lv; omega) (by decide) (by decide) (by decide) m (by omega))) (by rw [hcv]; rfl)) (bwn_add (by simp; omega))) evs_nil))) rfl (by simp)
    (enc_fop K.gd K.ok K.own (by have := K.lv; omega) en h (v :: f) (by omega) (by simp; omega) (fun x hx => by
      rcases List.mem_cons.mp hx with rfl | hx
      · exact hv
      · exact hf x hx))) (K.L rfl) rfl) ?_
  rw [he]
  refine sx_if (cc := !decide (decode h (enc en h (v :: f)) = none)) (g' := [("ret", .txt (enc en h (v :: f)))]) (d := .none) (s1_if (c := decide (decode h (enc en h (v :: f)) = none)) (tv_cmp (ev_call_f rfl (K.k rfl) (K.some (v := .ref 77) rfl) (K.gd.T.K 77 _ rfl) rfl (evs_cons (ev_local rfl (K.k rfl) rfl) (evs_cons (ev_local rfl (K.k rfl) rfl) evs_nil)) rfl (by simp) (decode_fop K.gd K.ok hc61 K.own K.lv h _ hlen (by omega) hasc)) ev_none2 cop_pair_none rfl) (fun h => ?_) fun h => ?_) (fun hc => ?_) fun hc => ?_
  · rw [h]; exact sx_ret (s1_return ev_none)
  · rw [h]; exact sx_end (sub_cons rfl sub_nil)
  · rw [if_neg (of_decide_eq_false (by rw [Bool.not_eq_true'] at hc; exact hc))]
    exact sx_ret (s1_return (ev_local rfl (K.k rfl) rfl))
  · rw [if_pos (of_decide_eq_true (by rw [Bool.not_eq_false'] at hc; exact hc))]; rfl

theorem encode_fop (G : Gd X) (ok : X.Ok) (hc : X.c = 61) (hown : F.own = none) (hlv : 5 ≤ F.lv) (h m f : List Nat) (v : Nat) (hz : h.length ≤ 500) (hm : m.length ≤ 100) (ha : ∀ c ∈ h, c < 128) (hv : v < 32) (hcv : conv 8 5 true m = some f) (hfl : f.length ≤ 400) (hf : ∀ x ∈ f, x < 32) :
    Fop X F false (.ref 84) [.txt h, .nat v, .nats m] (optT (encode h v m)) :=
  fop_def (names := ["hrp", "witver", "witprog"]) (exd := []) (ex := []) G.T hown (by omega) rfl rfl rfl rfl rfl rfl rfl rfl rfl rfl (by decide) (by decide) (fun _ _ => .nil) (fun s vs _ h => by
    match vs, h with
    | [v, w, u], _ => exact .of_eq rfl) (fun x hx => by simp at hx; rcases hx with rfl | rfl | rfl <;> exact .inl rfl) fun L => encode_sx ⟨G, ok, fun _ => rfl, rfl, rfl, Nat.le_sub_of_add_le hlv⟩ hc h m f v hz hm ha hv hcv hfl hf

-- convertbits([-1], 8, 5)
theorem convneg_sx (K : Df X F 70 0) : SX X F [("data", .ints [-1]), ("frombits", .nat 5), ("tobits", .nat 8), ("pad", .bool true)] (bodyAt X.w.params 70) (.ret .none) := by
  refine sx_cons (s1_assign (d := .nat 0) (ev_nat rfl) (K.L rfl) rfl) ?_
  refine sx_cons (s1_assign (d := .nat 0) (ev_nat rfl) (K.L rfl) rfl) ?_
  refine sx_own (x := "ret") (g' := [("acc", .nat 0), ("bits", .nat 0), ("data", .ints [-1]), ("frombits", .nat 5), ("tobits", .nat 8), ("pad", .bool true)]) K.own (K.k rfl) rfl ?_ (d := .none) (fun A => ?_) fun A hp v i => none_out i
  · intro y dd hy
    have key : ∀ g1 : List (PySem.Str × D), (g1.all fun p => p.2.cap && p.1 != "ret") = true → g1.lookup y = some dd → dd.cap = true ∧ y ≠ "ret" := fun g1 h1 h2 => by
      have := List.all_eq_true.mp h1 _ (mem_of_lookup h2)
      simp only [Bool.and_eq_true, bne_iff_ne, ne_eq] at this
      exact this
    have := key _ (by rfl) hy
    refine ⟨?_, this.1, this.2⟩
    exact (sub_cons rfl (sub_cons rfl (sub_cons rfl (sub_cons rfl (sub_cons rfl (sub_cons rfl sub_nil)))))) y dd hy
  · have KK : ∀ {x : PySem.Str} {k : NameKind}, (namesAt X.w.params 70).lookup x = some k → (F.with A).env.kindOf x = some k := fun h => K.k h
    have KL : ∀ {x : PySem.Str}, (namesAt X.w.params 70).lookup x = some .local → (F.with A).env.kindOf x = some .local ∨ (F.with A).env.kindOf x = some .cell := fun h => .inl (K.k h)
    refine sx_cons (s1_assign (d := .nat (mv 8)) (ev_bin (ev_bin (ev_nat (n := 1) rfl) (ev_local rfl (KK rfl) rfl) (bn_shl1 (by omega))) (ev_nat (n := 1) rfl) (bn_sub (one_le_shl _))) (KL rfl) rfl) ?_
    refine sx_cons (s1_assign (d := .nat (mv (5 + 8 - 1))) (ev_bin (ev_bin (ev_nat (n := 1) rfl) (ev_bin (ev_bin (ev_local rfl (KK rfl) rfl) (ev_local rfl (KK rfl) rfl) bn_add) (ev_nat (n := 1) rfl) (bn_sub (by omega))) (bn_shl1 (by omega))) (ev_nat (n := 1) rfl) (bn_sub (one_le_shl _))) (KL rfl) rfl) ?_
    refine sx_ret (s1_for (ev_local rfl (KK rfl) rfl) (Items.ints [-1]) (KL rfl) (.stop ?_) (fun _ => rfl) fun _ _ => rfl)
    exact sx_ret (s1_if (c := true) (tv_or (c := true) (tv_cmp (ev_local rfl (KK rfl) rfl) (ev_int (i := 0)) (cop_lt (m := -1) (n := 0)) rfl) (fun h => by cases h) fun _ => rfl) (fun _ => sx_ret (s1_return ev_none)) fun h => by cases h)
theorem convneg_fop (G : Gd X) (ok : X.Ok) (hown : F.own = none) (hlv : 1 ≤ F.lv) : Fop X F false (.ref 70) [.ints [-1], .nat 5, .nat 8] .none :=
  fop_def (names := ["data", "frombits", "tobits", "pad"]) (exd := [.bool true]) (ex := [.bool true]) G.T hown hlv rfl rfl rfl rfl rfl rfl rfl rfl rfl rfl (by decide) (by decide) (fun _ _ => .cons (.bool _) .nil) (fun s vs I h => by
    match vs, h with
    | [v, w, u], _ => exact .of_defaults (T := 63) rfl (I.K G.T 63 _ rfl) rfl rfl rfl) (fun x hx => by simp at hx; rcases hx with rfl | rfl | rfl | rfl <;> exact .inl rfl) fun L => convneg_sx ⟨G, ok, fun _ => rfl, rfl, rfl, Nat.zero_le _⟩
end
end Mine

-- MA
namespace Mine

def bitsW (k a : Nat) : List Nat := (List.range k).map fun i => a / 2 ^ (k - 1 - i) % 2
theorem bitsW_len (k a : Nat) : (bitsW k a).length = k := by simp [bitsW]
theorem bitsW_split (t b a : Nat) : bitsW (t + b) a = bitsW t (a / 2 ^ b) ++ bitsW b a := by
  unfold bitsW
  rw [List.range_add, List.map_append, List.map_map]
  congr 1
  · apply List.map_congr_left
    intro i hi
    have hi' := List.mem_range.mp hi
    show a / 2 ^ (t + b - 1 - i) % 2 = a / 2 ^ b / 2 ^ (t - 1 - i) % 2
    rw [Nat.div_div_eq_div_mul, ← Nat.pow_add]
    congr 3; omega
  · apply List.map_congr_left
    intro i hi
    have hi' := List.mem_range.mp hi
    show a / 2 ^ (t + b - 1 - (t + i)) % 2 = a / 2 ^ (b - 1 - i) % 2
    congr 3; omega
theorem bitsW_mod {k m a : Nat} (h : k ≤ m) : bitsW k (a % 2 ^ m) = bitsW k a := by
  unfold bitsW
  apply List.map_congr_left
  intro i hi
  have hi' := List.mem_range.mp hi
  rw [← Nat.toNat_testBit, ← Nat.toNat_testBit, Nat.testBit_mod_two_pow]
  have : k - 1 - i < m := by omega
  simp [this]
theorem bitsW_zero (k : Nat) : bitsW k 0 = List.replicate k 0 := by
  unfold bitsW
  apply List.ext_getElem
  · simp
  · intro i h1 h2; simp
def valB (l : List Nat) : Nat := l.foldl (fun s b => 2 * s + b) 0
theorem val_bitsW (k a : Nat) : valB (bitsW k a) = a % 2 ^ k := by
  induction k generalizing a with
  | zero => simp [valB, bitsW, Nat.mod_one]
  | succ k ih =>
    have e := bitsW_split k 1 a
    rw [e]
    unfold valB
    rw [List.foldl_append]
    have := ih (a / 2 ^ 1)
    unfold valB at this
    rw [this]
    have e1 : bitsW 1 a = [a % 2] := by simp [bitsW, List.range_succ]
    rw [e1]
    simp only [List.foldl_cons, List.foldl_nil]
    have e2 : 2 ^ (k + 1) = 2 * 2 ^ k := by rw [Nat.pow_succ, Nat.mul_comm]
    rw [e2, Nat.mod_mul, Nat.pow_one]
    omega
theorem bitsW_inj {k a b : Nat} (ha : a < 2 ^ k) (hb : b < 2 ^ k) (h : bitsW k a = bitsW k b) : a = b := by
  have := congrArg valB h
  rwa [val_bitsW, val_bitsW, Nat.mod_eq_of_lt ha, Nat.mod_eq_of_lt hb] at this
theorem flat_inj {t : Nat} (ht : 1 ≤ t) : ∀ {l m : List Nat}, (∀ x ∈ l, x < 2 ^ t) → (∀ x ∈ m, x < 2 ^ t) → l.flatMap (bitsW t) = m.flatMap (bitsW t) → l = m
  | [], [], _, _, _ => rfl
  | [], b :: m, _, _, h => by
    have := congrArg List.length h
    simp [bitsW_len] at this; omega
  | a :: l, [], _, _, h => by
    have := congrArg List.length h
    simp [bitsW_len] at this; omega
  | a :: l, b :: m, h1, h2, h => by
    simp only [List.flatMap_cons] at h
    obtain ⟨e1, e2⟩ := List.append_inj h (by rw [bitsW_len, bitsW_len])
    rw [bitsW_inj (h1 a List.mem_cons_self) (h2 b List.mem_cons_self) e1, flat_inj ht (fun x hx => h1 x (List.mem_cons_of_mem _ hx)) (fun x hx => h2 x (List.mem_cons_of_mem _ hx)) e2]
theorem flat_len (t : Nat) : ∀ l : List Nat, (l.flatMap (bitsW t)).length = t * l.length
  | [] => by simp
  | a :: l => by rw [List.flatMap_cons, List.length_append, flat_len t l, bitsW_len, List.length_cons, Nat.mul_succ]; omega
theorem foldl_flat (g : Nat → List Nat) : ∀ (l b : List Nat), l.foldl (fun b n => b ++ g n) b = b ++ l.flatMap g
  | [], b => by simp
  | a :: l, b => by rw [List.foldl_cons, foldl_flat g l, List.flatMap_cons, List.append_assoc]

theorem mv_eq (t : Nat) : mv t = 2 ^ t - 1 := by unfold mv; rw [Nat.shiftLeft_eq, Nat.one_mul]
theorem and_mv (x t : Nat) : x &&& mv t = x % 2 ^ t := by rw [mv_eq, Nat.and_two_pow_sub_one_eq_mod]

theorem emit_inv {acc t : Nat} : ∀ (n b : Nat) (r : List Nat), (∀ x ∈ r, x < 2 ^ t) →
    (emit acc t n b r).2.flatMap (bitsW t) ++ bitsW (emit acc t n b r).1 acc = r.flatMap (bitsW t) ++ bitsW b acc ∧ ∀ x ∈ (emit acc t n b r).2, x < 2 ^ t
  | 0, b, r, h => ⟨rfl, h⟩
  | n + 1, b, r, h => by
    unfold emit
    split
    · rename_i hb
      have e : (acc >>> (b - t)) &&& mv t = acc / 2 ^ (b - t) % 2 ^ t := by rw [and_mv, Nat.shiftRight_eq_div_pow]
      rw [e]
      obtain ⟨i1, i2⟩ := emit_inv (acc := acc) (t := t) n (b - t) (r ++ [acc / 2 ^ (b - t) % 2 ^ t]) (fun x hx => by
        rcases List.mem_append.mp hx with hx | hx
        · exact h x hx
        · rw [List.mem_singleton.mp hx]; exact Nat.mod_lt _ (Nat.two_pow_pos t))
      refine ⟨?_, i2⟩
      rw [i1]
      have hs := bitsW_split t (b - t) acc
      rw [show t + (b - t) = b by omega] at hs
      rw [hs]
      simp [bitsW_mod (Nat.le_refl t)]
    · exact ⟨rfl, h⟩

structure CI (t : Nat) (s : Nat × Nat × List Nat) (B : List Nat) : Prop where
  eq : s.2.2.flatMap (bitsW t) ++ bitsW s.2.1 s.1 = B
  lt : s.2.1 < t
  all : ∀ x ∈ s.2.2, x < 2 ^ t
theorem ci_step {f t : Nat} (ht : 1 ≤ t) {s : Nat × Nat × List Nat} {B : List Nat} (h : CI t s B) {v : Nat} (hv : v < 2 ^ f) : CI t (cstep f t s v) (B ++ bitsW f v) := by
  obtain ⟨acc, bits, r⟩ := s
  obtain ⟨h1, h2, h3⟩ := h
  simp only at h1 h2 h3
  have hacc : cacc f t acc v = (acc * 2 ^ f + v) % 2 ^ (f + t - 1) := by
    unfold cacc
    rw [and_mv, ← Nat.shiftLeft_add_eq_or_of_lt hv, Nat.shiftLeft_eq]
  obtain ⟨i1, i2⟩ := emit_inv (acc := cacc f t acc v) (t := t) (bits + f) (bits + f) r h3
  refine ⟨?_, emit_lt ht _ _ _ (Nat.le_refl _), i2⟩
  refine i1.trans ?_
  have hb : bitsW (bits + f) (cacc f t acc v) = bitsW bits acc ++ bitsW f v := by
    rw [hacc, bitsW_mod (by omega), bitsW_split]
    congr 1
    · congr 1
      rw [Nat.mul_comm, Nat.mul_add_div (Nat.two_pow_pos f), Nat.div_eq_of_lt hv, Nat.add_zero]
    · rw [← bitsW_mod (Nat.le_refl f), Nat.mul_comm, Nat.mul_add_mod, bitsW_mod (Nat.le_refl f)]
  rw [hb, ← List.append_assoc, h1]
theorem ci_fold {f t : Nat} (ht : 1 ≤ t) : ∀ (l : List Nat) (s : Nat × Nat × List Nat) (B : List Nat), CI t s B → (∀ x ∈ l, x < 2 ^ f) → CI t (l.foldl (cstep f t) s) (B ++ l.flatMap (bitsW f))
  | [], s, B, h, _ => by simpa using h
  | v :: l, s, B, h, hl => by
    have := ci_fold ht l _ _ (ci_step ht h (hl v List.mem_cons_self)) (fun x hx => hl x (List.mem_cons_of_mem _ hx))
    rw [List.foldl_cons, List.flatMap_cons, ← List.append_assoc]
    exact this
theorem ci_all {f t : Nat} (ht : 1 ≤ t) (l : List Nat) (hl : ∀ x ∈ l, x < 2 ^ f) : CI t (l.foldl (cstep f t) (0, 0, [])) (l.flatMap (bitsW f)) := by
  have := ci_fold ht l (0, 0, []) [] ⟨by simp [bitsW], ht, by simp⟩ hl
  simpa using this
theorem all_shr {f : Nat} {l : List Nat} (hl : ∀ x ∈ l, x < 2 ^ f) : (l.all fun v => decide (v >>> f = 0)) = true := by
  rw [List.all_eq_true]
  intro x hx
  rw [decide_eq_true_eq, Nat.shiftRight_eq_div_pow, Nat.div_eq_of_lt (hl x hx)]

-- the law's own words
theorem b8_eq (n : Nat) : b8 n = bitsW 8 n := rfl
theorem b5_eq (n : Nat) : b5 n = bitsW 5 n := rfl
theorem bitsW_lt {k a x : Nat} (h : x ∈ bitsW k a) : x < 2 := by obtain ⟨i, _, rfl⟩ := List.mem_map.mp h; exact Nat.mod_lt _ (by decide)
theorem chunk (t : Nat) (b : List Nat) : ∀ n, n * t ≤ b.length → (List.range n).flatMap (fun j => (b.drop (j * t)).take t) = b.take (n * t)
  | 0, _ => by simp
  | n + 1, h => by
    rw [List.range_succ, List.flatMap_append, chunk t b n (by rw [Nat.succ_mul] at h; omega)]
    simp only [List.flatMap_cons, List.flatMap_nil, List.append_nil]
    rw [Nat.succ_mul, List.take_add]
theorem val5_bits {b : List Nat} (hb : ∀ x ∈ b, x < 2) {at' : Nat} (h : at' + 5 ≤ b.length) : bitsW 5 (val5 b at') = (b.drop at').take 5 ∧ val5 b at' < 32 := by
  have hg : ∀ k, b[at' + k]? = (b.drop at')[k]? := fun k => by rw [List.getElem?_drop]
  have hd : ∀ x ∈ b.drop at', x < 2 := fun x hx => hb x (List.mem_of_mem_drop hx)
  have hl : 5 ≤ (b.drop at').length := by rw [List.length_drop]; omega
  unfold val5
  simp only [hg]
  generalize b.drop at' = c at *
  match c, hl, hd with
  | x0 :: x1 :: x2 :: x3 :: x4 :: r, _, hd =>
    have h0 := hd x0 (by simp)
    have h1 := hd x1 (by simp)
    have h2 := hd x2 (by simp)
    have h3 := hd x3 (by simp)
    have h4 := hd x4 (by simp)
    have e : ((List.range 5).map fun k => (x0 :: x1 :: x2 :: x3 :: x4 :: r)[k]?.getD 0 * 2 ^ (4 - k)).sum = x0 * 16 + x1 * 8 + x2 * 4 + x3 * 2 + x4 := by
      simp [List.range_succ]; omega
    rw [e]
    refine ⟨?_, by omega⟩
    simp [bitsW, List.range_succ]
    refine ⟨?_, ?_, ?_, ?_, ?_⟩ <;> omega
theorem val8_bits {b : List Nat} (hb : ∀ x ∈ b, x < 2) {at' : Nat} (h : at' + 8 ≤ b.length) : bitsW 8 (val8 b at') = (b.drop at').take 8 ∧ val8 b at' < 256 := by
  have hg : ∀ k, b[at' + k]? = (b.drop at')[k]? := fun k => by rw [List.getElem?_drop]
  have hd : ∀ x ∈ b.drop at', x < 2 := fun x hx => hb x (List.mem_of_mem_drop hx)
  have hl : 8 ≤ (b.drop at').length := by rw [List.length_drop]; omega
  unfold val8
  simp only [hg]
  generalize b.drop at' = c at *
  match c, hl, hd with
  | x0 :: x1 :: x2 :: x3 :: x4 :: x5 :: x6 :: x7 :: r, _, hd =>
    have h0 := hd x0 (by simp)
    have h1 := hd x1 (by simp)
    have h2 := hd x2 (by simp)
    have h3 := hd x3 (by simp)
    have h4 := hd x4 (by simp)
    have h5 := hd x5 (by simp)
    have h6 := hd x6 (by simp)
    have h7 := hd x7 (by simp)
    have e : ((List.range 8).map fun k => (x0 :: x1 :: x2 :: x3 :: x4 :: x5 :: x6 :: x7 :: r)[k]?.getD 0 * 2 ^ (7 - k)).sum = x0 * 128 + x1 * 64 + x2 * 32 + x3 * 16 + x4 * 8 + x5 * 4 + x6 * 2 + x7 := by
      simp [List.range_succ]; omega
    rw [e]
    refine ⟨?_, by omega⟩
    simp [bitsW, List.range_succ]
    refine ⟨?_, ?_, ?_, ?_, ?_, ?_, ?_, ?_⟩ <;> omega
theorem fives_flat {b : List Nat} (hb : ∀ x ∈ b, x < 2) (hl : b.length = b.length / 5 * 5) : (((List.range (b.length / 5)).map (· * 5)).map (val5 b)).flatMap (bitsW 5) = b ∧ ∀ x ∈ ((List.range (b.length / 5)).map (· * 5)).map (val5 b), x < 32 := by
  have hin : ∀ j ∈ List.range (b.length / 5), j * 5 + 5 ≤ b.length := fun j hj => by have := List.mem_range.mp hj; omega
  constructor
  · rw [List.map_map, List.flatMap_map]
    have : (List.range (b.length / 5)).flatMap (fun j => bitsW 5 ((val5 b ∘ (· * 5)) j)) = (List.range (b.length / 5)).flatMap (fun j => (b.drop (j * 5)).take 5) := by
      rw [List.flatMap_def, List.flatMap_def]
      congr 1
      apply List.map_congr_left
      intro j hj
      exact (val5_bits hb (hin j hj)).1
    rw [this, chunk 5 b _ (by omega), ← hl, List.take_length]
  · intro x hx
    obtain ⟨y, hy, rfl⟩ := List.mem_map.mp hx
    obtain ⟨j, hj, rfl⟩ := List.mem_map.mp hy
    exact (val5_bits hb (hin j hj)).2
theorem octs_flat {b : List Nat} (hb : ∀ x ∈ b, x < 2) {n : Nat} (hn : n * 8 ≤ b.length) : (((List.range n).map (· * 8)).map (val8 b)).flatMap (bitsW 8) = b.take (n * 8) ∧ ∀ x ∈ ((List.range n).map (· * 8)).map (val8 b), x < 256 := by
  have hin : ∀ j ∈ List.range n, j * 8 + 8 ≤ b.length := fun j hj => by have := List.mem_range.mp hj; omega
  constructor
  · rw [List.map_map, List.flatMap_map]
    have : (List.range n).flatMap (fun j => bitsW 8 ((val8 b ∘ (· * 8)) j)) = (List.range n).flatMap (fun j => (b.drop (j * 8)).take 8) := by
      rw [List.flatMap_def, List.flatMap_def]
      congr 1
      apply List.map_congr_left
      intro j hj
      exact (val8_bits hb (hin j hj)).1
    rw [this, chunk 8 b _ hn]
  · intro x hx
    obtain ⟨y, hy, rfl⟩ := List.mem_map.mp hx
    obtain ⟨j, hj, rfl⟩ := List.mem_map.mp hy
    exact (val8_bits hb (hin j hj)).2

theorem padded_lt {b : List Nat} (hb : ∀ x ∈ b, x < 2) : ∀ x ∈ padded b, x < 2 := fun x hx => by
  rcases List.mem_append.mp hx with hx | hx
  · exact hb x hx
  · rw [List.eq_of_mem_replicate hx]; decide
theorem flat_lt (t : Nat) (l : List Nat) : ∀ x ∈ l.flatMap (bitsW t), x < 2 := fun x hx => by
  obtain ⟨a, _, h⟩ := List.mem_flatMap.mp hx; exact bitsW_lt h
theorem lfives_eq (p : List Nat) : lfives p = ((List.range ((padded (p.flatMap (bitsW 8))).length / 5)).map (· * 5)).map (val5 (padded (p.flatMap (bitsW 8)))) := by
  unfold lfives
  rw [foldl_flat, List.nil_append]
  rfl
theorem lfives_flat (p : List Nat) : (lfives p).flatMap (bitsW 5) = padded (p.flatMap (bitsW 8)) := by
  rw [lfives_eq]
  exact (fives_flat (padded_lt (flat_lt 8 p)) (by have := padded_len (p.flatMap (bitsW 8)); omega)).1
theorem M1lt {p : List Nat} : ∀ x ∈ lfives p, x < 32 := by
  rw [lfives_eq]
  exact (fives_flat (padded_lt (flat_lt 8 p)) (by have := padded_len (p.flatMap (bitsW 8)); omega)).2
theorem M1len (p : List Nat) : (lfives p).length = (8 * p.length + 4) / 5 := by
  rw [lfives_eq, List.length_map, List.length_map, List.length_range, padded_len, flat_len]; omega
theorem shl_zero_bits (acc j : Nat) : bitsW j (acc * 2 ^ j) = List.replicate j 0 := by
  rw [← bitsW_mod (Nat.le_refl j), Nat.mul_mod_left, bitsW_zero]

theorem M1 {p : List Nat} (hp : ∀ x ∈ p, x < 256) : conv 8 5 true p = some (lfives p) := by
  have h := ci_all (f := 8) (t := 5) (by decide) p hp
  unfold conv
  rw [if_pos (all_shr (f := 8) hp)]
  simp only [if_true]
  generalize p.foldl (cstep 8 5) (0, 0, []) = s at *
  obtain ⟨acc, bits, r⟩ := s
  obtain ⟨h1, h2, h3⟩ := h
  simp only at h1 h2 h3 ⊢
  have hlen := congrArg List.length h1
  rw [List.length_append, flat_len, bitsW_len] at hlen
  have hf := lfives_flat p
  generalize hB : p.flatMap (bitsW 8) = B at *
  by_cases hb : bits = 0
  · rw [if_neg (by simp [hb])]
    congr 1
    refine flat_inj (t := 5) (by decide) h3 M1lt ?_
    rw [hf]
    subst hb
    have e : padded B = B := by
      unfold padded
      have : (5 - B.length % 5) % 5 = 0 := by omega
      rw [this]; simp
    rw [e, ← h1]; simp [bitsW]
  · rw [if_pos hb]
    congr 1
    have hz : (acc <<< (5 - bits)) &&& mv 5 = acc * 2 ^ (5 - bits) % 2 ^ 5 := by rw [and_mv, Nat.shiftLeft_eq]
    rw [hz]
    refine flat_inj (t := 5) (by decide) (fun x hx => ?_) M1lt ?_
    · rcases List.mem_append.mp hx with hx | hx
      · exact h3 x hx
      · rw [List.mem_singleton.mp hx]; exact Nat.mod_lt _ (by decide)
    · rw [hf, List.flatMap_append]
      simp only [List.flatMap_cons, List.flatMap_nil, List.append_nil]
      rw [bitsW_mod (Nat.le_refl 5)]
      have hs := bitsW_split bits (5 - bits) (acc * 2 ^ (5 - bits))
      rw [show bits + (5 - bits) = 5 by omega, Nat.mul_div_cancel _ (Nat.two_pow_pos _), shl_zero_bits] at hs
      rw [hs, ← List.append_assoc, h1]
      unfold padded
      have : (5 - B.length % 5) % 5 = 5 - bits := by omega
      rw [this]
theorem low_zero {acc k : Nat} (hk : k ≤ 8) (h : acc % 2 ^ k = 0) : (acc <<< (8 - k)) &&& mv 8 = 0 := by
  rw [and_mv, Nat.shiftLeft_eq]
  have : (2 : Nat) ^ 8 = 2 ^ k * 2 ^ (8 - k) := by rw [← Nat.pow_add]; congr 1; omega
  rw [this, Nat.mul_mod_mul_right, h, Nat.zero_mul]
theorem low_nonzero {acc k : Nat} (hk : k ≤ 8) (h : (acc <<< (8 - k)) &&& mv 8 = 0) : acc % 2 ^ k = 0 := by
  rw [and_mv, Nat.shiftLeft_eq] at h
  have : (2 : Nat) ^ 8 = 2 ^ k * 2 ^ (8 - k) := by rw [← Nat.pow_add]; congr 1; omega
  rw [this, Nat.mul_mod_mul_right] at h
  have := Nat.two_pow_pos (8 - k)
  rcases Nat.mul_eq_zero.mp h with h | h <;> omega
theorem valB_zeros (k : Nat) : valB (List.replicate k 0) = 0 := by
  unfold valB
  induction k with
  | zero => rfl
  | succ k ih => rw [List.replicate_succ]; simpa using ih
theorem M2 {p : List Nat} (hp : ∀ x ∈ p, x < 256) : conv 5 8 false (lfives p) = some p := by
  have h := ci_all (f := 5) (t := 8) (by decide) (lfives p) M1lt
  rw [lfives_flat] at h
  unfold conv
  rw [if_pos (all_shr (f := 5) M1lt)]
  simp only [Bool.false_eq_true, if_false]
  generalize (lfives p).foldl (cstep 5 8) (0, 0, []) = s at *
  obtain ⟨acc, bits, r⟩ := s
  obtain ⟨h1, h2, h3⟩ := h
  simp only at h1 h2 h3 ⊢
  have hlen := congrArg List.length h1
  unfold padded at hlen h1
  rw [List.length_append, List.length_append, flat_len, flat_len, bitsW_len, List.length_replicate] at hlen
  have hr : r.length = p.length := by omega
  have hbk : bits = (5 - (p.flatMap (bitsW 8)).length % 5) % 5 := by
    rw [flat_len]; omega
  obtain ⟨e1, e2⟩ := List.append_inj h1 (by rw [flat_len, flat_len, hr])
  have hrp := flat_inj (t := 8) (by decide) h3 hp e1
  have hz : acc % 2 ^ bits = 0 := by
    rw [← val_bitsW, e2, valB_zeros]
  rw [if_neg, hrp]
  rintro (h | h)
  · omega
  · exact h (low_zero (by omega) hz)
theorem M3 {d : List Nat} (hd : ∀ x ∈ d, x < 32) : conv 5 8 false d = locts d := by
  have h := ci_all (f := 5) (t := 8) (by decide) d hd
  have hl : locts d = if 5 ≤ (d.flatMap (bitsW 5)).length - (d.flatMap (bitsW 5)).length / 8 * 8 ∨ 1 ∈ (d.flatMap (bitsW 5)).drop ((d.flatMap (bitsW 5)).length / 8 * 8) then none
      else some (((List.range ((d.flatMap (bitsW 5)).length / 8 * 8 / 8)).map (· * 8)).map (val8 (d.flatMap (bitsW 5)))) := by
    unfold locts
    rw [foldl_flat, List.nil_append]
    rfl
  rw [hl]
  have hBlt := flat_lt 5 d
  unfold conv
  rw [if_pos (all_shr (f := 5) hd)]
  simp only [Bool.false_eq_true, if_false]
  generalize d.foldl (cstep 5 8) (0, 0, []) = s at *
  generalize d.flatMap (bitsW 5) = B at *
  obtain ⟨acc, bits, r⟩ := s
  obtain ⟨h1, h2, h3⟩ := h
  simp only at h1 h2 h3 ⊢
  have hlen := congrArg List.length h1
  rw [List.length_append, flat_len, bitsW_len] at hlen
  have hmany : B.length / 8 * 8 = 8 * r.length := by omega
  have hbits : B.length - B.length / 8 * 8 = bits := by omega
  have htake : B.take (B.length / 8 * 8) = r.flatMap (bitsW 8) := by rw [hmany, ← h1, ← flat_len, List.take_left]
  have hdrop : B.drop (B.length / 8 * 8) = bitsW bits acc := by rw [hmany, ← h1, ← flat_len, List.drop_left]
  have hiff : (5 ≤ bits ∨ (acc <<< (8 - bits)) &&& mv 8 ≠ 0) ↔ (5 ≤ B.length - B.length / 8 * 8 ∨ 1 ∈ B.drop (B.length / 8 * 8)) := by
    rw [hbits, hdrop]
    refine or_congr Iff.rfl ⟨fun h => ?_, fun h h0 => ?_⟩
    · apply Classical.byContradiction
      intro hn
      apply h
      apply low_zero (by omega)
      rw [← val_bitsW]
      have : bitsW bits acc = List.replicate bits 0 := by
        apply List.eq_replicate_iff.mpr
        refine ⟨bitsW_len _ _, fun x hx => ?_⟩
        have := bitsW_lt hx
        have : x ≠ 1 := fun e => hn (e ▸ hx)
        omega
      rw [this, valB_zeros]
    · have hz := low_nonzero (by omega) h0
      rw [← bitsW_mod (Nat.le_refl bits), hz, bitsW_zero] at h
      have := List.eq_of_mem_replicate h
      omega
  by_cases hc : 5 ≤ bits ∨ (acc <<< (8 - bits)) &&& mv 8 ≠ 0
  · rw [if_pos hc, if_pos (hiff.mp hc)]
  · rw [if_neg hc, if_neg (fun h => hc (hiff.mpr h))]
    congr 1
    have ho := octs_flat hBlt (n := B.length / 8 * 8 / 8) (by omega)
    refine flat_inj (t := 8) (by decide) h3 ho.2 ?_
    rw [ho.1, show B.length / 8 * 8 / 8 * 8 = B.length / 8 * 8 by omega, htake]
theorem M4 {d : List Nat} : conv 5 8 false (d ++ [32]) = none := by
  unfold conv
  rw [if_neg]
  rw [List.all_append]
  simp
end Mine

-- MB
namespace Mine

def gi (top i : Nat) : Nat := if top.testBit i then gensN[i]?.getD 0 else 0
def Gx (top : Nat) : Nat := (((gi top 0 ^^^ gi top 1) ^^^ gi top 2) ^^^ gi top 3) ^^^ gi top 4
def Az (c : Nat) : Nat := ((c &&& 33554431) <<< 5) ^^^ Gx (c >>> 25)
theorem pin_gi (top c i : Nat) : pin top c i = c ^^^ gi top i := by
  unfold pin gi
  have : ((top >>> i) &&& 1 ≠ 0) ↔ top.testBit i = true := by
    simp [Nat.testBit, Nat.and_comm]
  congr 1
  by_cases h : top.testBit i = true
  · rw [if_pos h, if_pos (this.mpr h)]
  · rw [if_neg h, if_neg (fun x => h (this.mp x))]
theorem pstep_eq (c v : Nat) : pstep c v = Az c ^^^ v := by
  unfold pstep Az Gx
  have : List.range 5 = [0, 1, 2, 3, 4] := rfl
  rw [this]
  simp only [List.foldl_cons, List.foldl_nil, pin_gi]
  ac_rfl
theorem gi_xor (a b i : Nat) : gi (a ^^^ b) i = gi a i ^^^ gi b i := by
  unfold gi
  rw [Nat.testBit_xor]
  cases a.testBit i <;> cases b.testBit i <;> simp
theorem Gx_xor (a b : Nat) : Gx (a ^^^ b) = Gx a ^^^ Gx b := by
  unfold Gx
  simp only [gi_xor]
  ac_rfl
theorem Az_xor (a b : Nat) : Az (a ^^^ b) = Az a ^^^ Az b := by
  unfold Az
  rw [Nat.shiftRight_xor_distrib, Gx_xor, Nat.and_xor_distrib_right, Nat.shiftLeft_xor_distrib]
  ac_rfl
theorem gi_lt (top i : Nat) : gi top i < 2 ^ 30 := by
  unfold gi
  split
  · have : ∀ x ∈ gensN, x < 2 ^ 30 := by decide
    by_cases h : i < gensN.length
    · rw [List.getElem?_eq_getElem h]; exact this _ (List.getElem_mem h)
    · rw [List.getElem?_eq_none (by omega)]; decide
  · decide
theorem Gx_lt (top : Nat) : Gx top < 2 ^ 30 := by
  unfold Gx
  exact Nat.xor_lt_two_pow (Nat.xor_lt_two_pow (Nat.xor_lt_two_pow (Nat.xor_lt_two_pow (gi_lt _ _) (gi_lt _ _)) (gi_lt _ _)) (gi_lt _ _)) (gi_lt _ _)
theorem Az_lt (c : Nat) : Az c < 2 ^ 30 := by
  unfold Az
  refine Nat.xor_lt_two_pow ?_ (Gx_lt _)
  rw [Nat.shiftLeft_eq]
  have : c &&& 33554431 ≤ 33554431 := Nat.and_le_right
  omega
theorem low_top : ∀ top, top < 32 → Gx top % 32 = 0 → top = 0 := by decide +kernel
theorem Az_zero {c : Nat} (hc : c < 2 ^ 30) (h : Az c = 0) : c = 0 := by
  have h5 : Az c % 2 ^ 5 = 0 := by rw [h]
  unfold Az at h5
  rw [Nat.xor_mod_two_pow, Nat.shiftLeft_eq, Nat.mul_mod_left, Nat.zero_xor, Nat.shiftRight_eq_div_pow] at h5
  have ht := low_top (c / 2 ^ 25) (by omega) h5
  unfold Az at h
  rw [Nat.shiftRight_eq_div_pow, ht] at h
  have g0 : Gx 0 = 0 := by decide +kernel
  rw [g0, Nat.xor_zero, Nat.shiftLeft_eq] at h
  have hm : c &&& 33554431 = c % 2 ^ 25 := Nat.and_two_pow_sub_one_eq_mod c 25
  rw [hm] at h
  omega
def An : Nat → Nat → Nat
  | 0, c => c
  | n + 1, c => An n (Az c)
theorem An_xor : ∀ (n a b : Nat), An n (a ^^^ b) = An n a ^^^ An n b
  | 0, _, _ => rfl
  | n + 1, a, b => by unfold An; rw [Az_xor, An_xor n]
theorem An_add : ∀ (j k c : Nat), An (j + k) c = An k (An j c)
  | 0, k, c => by rw [Nat.zero_add]; rfl
  | j + 1, k, c => by rw [Nat.succ_add]; show An (j + k) (Az c) = An k (An j (Az c)); rw [An_add j]
theorem An_zero : ∀ (n c : Nat), c < 2 ^ 30 → An n c = 0 → c = 0
  | 0, c, _, h => h
  | n + 1, c, hc, h => Az_zero hc (An_zero n (Az c) (Az_lt c) h)
theorem An_lt : ∀ (n c : Nat), c < 2 ^ 30 → An n c < 2 ^ 30
  | 0, c, h => h
  | n + 1, c, h => An_lt n (Az c) (Az_lt c)
theorem fold_diff : ∀ (q : List Nat) (a b : Nat), q.foldl pstep a ^^^ q.foldl pstep b = An q.length (a ^^^ b)
  | [], a, b => rfl
  | v :: q, a, b => by
    rw [List.foldl_cons, List.foldl_cons, fold_diff q, pstep_eq, pstep_eq, List.length_cons]
    show An q.length _ = An q.length (Az (a ^^^ b))
    rw [Az_xor]
    congr 1
    have : (Az a ^^^ v) ^^^ (Az b ^^^ v) = (Az a ^^^ Az b) ^^^ (v ^^^ v) := by ac_rfl
    rw [this, Nat.xor_self, Nat.xor_zero]
theorem pmod_sub (p q : List Nat) (x y : Nat) : pmod (p ++ [y] ++ q) = pmod (p ++ [x] ++ q) ^^^ An q.length (x ^^^ y) := by
  have h := fold_diff q (pstep (p.foldl pstep 1) x) (pstep (p.foldl pstep 1) y)
  have e1 : ∀ z, pmod (p ++ [z] ++ q) = q.foldl pstep (pstep (p.foldl pstep 1) z) := fun z => by simp [pmod]
  rw [e1, e1]
  have e2 : pstep (p.foldl pstep 1) x ^^^ pstep (p.foldl pstep 1) y = x ^^^ y := by
    rw [pstep_eq, pstep_eq]
    generalize Az (p.foldl pstep 1) = c
    have : (c ^^^ x) ^^^ (c ^^^ y) = (c ^^^ c) ^^^ (x ^^^ y) := by ac_rfl
    rw [this, Nat.xor_self, Nat.zero_xor]
  rw [e2] at h
  rw [← h]
  generalize q.foldl pstep (pstep (p.foldl pstep 1) x) = u
  generalize q.foldl pstep (pstep (p.foldl pstep 1) y) = w
  have : u ^^^ (u ^^^ w) = (u ^^^ u) ^^^ w := by ac_rfl
  rw [this, Nat.xor_self, Nat.zero_xor]

-- the table of single faults
def tab : List (List Nat) := [
  [32, 64, 96, 128, 160, 192, 224, 256, 288, 320, 352, 384, 416, 448, 480, 512, 544, 576, 608, 640, 672, 704, 736, 768, 800, 832, 864, 896, 928, 960, 992],
  [1024, 2048, 3072, 4096, 5120, 6144, 7168, 8192, 9216, 10240, 11264, 12288, 13312, 14336, 15360, 16384, 17408, 18432, 19456, 20480, 21504, 22528, 23552, 24576, 25600, 26624, 27648, 28672, 29696, 30720, 31744],
  [32768, 65536, 98304, 131072, 163840, 196608, 229376, 262144, 294912, 327680, 360448, 393216, 425984, 458752, 491520, 524288, 557056, 589824, 622592, 655360, 688128, 720896, 753664, 786432, 819200, 851968, 884736, 917504, 950272, 983040, 1015808],
  [1048576, 2097152, 3145728, 4194304, 5242880, 6291456, 7340032, 8388608, 9437184, 10485760, 11534336, 12582912, 13631488, 14680064, 15728640, 16777216, 17825792, 18874368, 19922944, 20971520, 22020096, 23068672, 24117248, 25165824, 26214400, 27262976, 28311552, 29360128, 30408704, 31457280, 32505856],
  [33554432, 67108864, 100663296, 134217728, 167772160, 201326592, 234881024, 268435456, 301989888, 335544320, 369098752, 402653184, 436207616, 469762048, 503316480, 536870912, 570425344, 603979776, 637534208, 671088640, 704643072, 738197504, 771751936, 805306368, 838860800, 872415232, 905969664, 939524096, 973078528, 1006632960, 1040187392],
  [996825010, 642813549, 490396127, 513874426, 634080840, 955357079, 60538917, 1027748829, 103310447, 454213040, 544795138, 602090023, 411663765, 95659082, 1054471160, 705979059, 293483777, 205843678, 925809516, 884308809, 266284283, 317060388, 697279126, 391532910, 742131420, 822533891, 174885041, 167200916, 849157926, 799524601, 349016395],
  [534243686, 1027569356, 585670570, 721079480, 892151262, 398834292, 135418642, 132234585, 406213695, 987679637, 621355763, 756773345, 852269191, 270796589, 267644491, 223574683, 310678525, 812387415, 800843057, 665433635, 947806021, 446087407, 88156553, 179488706, 358952612, 932032782, 677009512, 541592442, 1067442716, 494370230, 44078288],
  [69525304, 139009913, 208519233, 277265403, 346186947, 416261250, 485194682, 554529535, 623488455, 692350342, 761311934, 831244548, 900666940, 969070205, 1038485829, 312394999, 381295567, 450354062, 519242934, 35159820, 104636468, 173105269, 242597709, 865318408, 934766896, 1004185969, 1073641033, 588582387, 657576651, 727454346, 796446130],
  [583756141, 394458842, 894017463, 764759229, 257828304, 974633575, 417125130, 196754771, 695292990, 473484169, 1056154340, 640643566, 82057347, 833455924, 325512793, 368114319, 926651362, 41028693, 549020984, 946189874, 447668063, 803684584, 220998021, 508217308, 1015131825, 164114694, 721639531, 870288225, 286581260, 610106811, 110499030],
  [135469217, 270938434, 406137315, 541876868, 677345829, 812274630, 947473255, 311223336, 446692489, 44750186, 179949003, 851478188, 986947085, 585545710, 720744271, 621669456, 757003505, 892067090, 1027130803, 88182484, 223516277, 359120790, 494184247, 931203192, 1066537177, 665270586, 800334235, 399338236, 534671965, 132864958, 267928351],
  [482479578, 964959133, 625350215, 597176883, 1062879209, 438053294, 115221620, 397730159, 192343221, 774961906, 854783784, 875352924, 686743174, 229165249, 292209947, 771319518, 825977604, 343768387, 146763929, 241259757, 312695095, 937774960, 723993258, 978159537, 646941291, 63544364, 520851958, 433436034, 85440600, 542223903, 1016308677],
  [502406922, 963918644, 612770878, 578319201, 1066036331, 453789781, 117331807, 384092130, 186046696, 798031062, 845341660, 882685059, 695118729, 233344951, 270176445, 768159460, 809185774, 347936208, 156175066, 263282053, 306397839, 918906545, 725055931, 992864518, 652211724, 39440946, 531352888, 425040487, 78087533, 539074899, 1037287001],
  [1005602058, 661663252, 478178078, 510679329, 629152811, 956331829, 49295935, 1021318722, 118510408, 462436438, 543194460, 579882851, 425724521, 98591095, 1041245309, 734013860, 271609006, 212862896, 926958266, 900755589, 239089039, 314597009, 691018651, 387989478, 751860460, 810553842, 195056888, 156264135, 849355725, 773867731, 365956569],
  [211140198, 422279660, 364824458, 819124184, 1011313086, 704228916, 627839058, 866455225, 1060155615, 713979733, 639355187, 58186081, 266495751, 442278029, 382279403, 937039995, 995075613, 787571095, 577036273, 118017955, 194867653, 505656911, 313919529, 75437762, 149596324, 492072750, 297914696, 883802394, 943226748, 763803894, 554894992],
  [709253975, 109844391, 751455472, 218933870, 659222841, 192986569, 566683294, 412996092, 853248683, 504481371, 878157068, 361855890, 1071063237, 320695349, 962279266, 825198545, 459922566, 933466230, 501599009, 1008938431, 375748328, 984562200, 283730255, 699553325, 66325882, 792609162, 91757277, 616496195, 251176724, 573762532, 141865139],
  [118769179, 213396799, 195848996, 426039895, 510696524, 366802792, 315142515, 811144615, 927814588, 1021393048, 1005944451, 691916784, 774474219, 629531343, 579970260, 849783630, 900918613, 1042187889, 957005930, 734163225, 752236290, 662330406, 544086589, 50314985, 99350770, 239571926, 156489165, 463168702, 479142565, 388188545, 272043930],
  [1068636863, 804532343, 273033928, 259547335, 818575992, 546066608, 524175887, 477422990, 600244017, 864081401, 204656454, 319587657, 750690294, 1022932286, 55226241, 954822428, 123434403, 387800939, 682575316, 932253659, 136516964, 409288620, 668411155, 614304402, 456101933, 191478501, 886808666, 736488021, 341307626, 68278818, 1000587421],
  [579782315, 386509942, 898067165, 748148933, 236527214, 1000240307, 420524568, 187635082, 698471201, 472300028, 1051230039, 666422607, 87428068, 816931129, 306161554, 349874964, 911502783, 64161634, 559792585, 944600017, 449033594, 793042855, 231348492, 536198814, 1031501877, 150737640, 712168515, 862086747, 300720368, 611043885, 115674246],
  [10936417, 21849282, 32212131, 2026884, 12062181, 22251846, 32860455, 2752264, 9379689, 23370698, 29522859, 3609228, 9564909, 24802894, 31233583, 4710192, 14761809, 17480690, 28072851, 5845684, 16765653, 18110070, 28489239, 7217208, 13156441, 19088634, 25535643, 7392700, 14036445, 20818302, 26954015],
  [349965344, 699177024, 1030788192, 64860288, 385989792, 712059072, 1051534560, 88072448, 300150048, 747862336, 944731488, 115495296, 306077088, 793692608, 999474656, 150726144, 472377888, 559382080, 898331232, 187061888, 536500896, 579522240, 911655648, 230950656, 421006112, 610836288, 817140576, 236566400, 449166240, 666185664, 862528480],
  [9648560, 19297097, 28658425, 14436274, 5209602, 33174779, 23661899, 28094061, 20944861, 9100580, 1696916, 24177119, 31707247, 5675670, 12952358, 31316474, 21946442, 16493235, 6853379, 16883272, 26388472, 2616577, 11850929, 7436183, 14831143, 22480094, 29637998, 11350053, 4065685, 25903980, 18381532],
  [308753920, 617507104, 917069600, 461960768, 166707264, 1061592928, 757180768, 899009952, 670235552, 291218560, 54301312, 773667808, 1014631904, 181621440, 414475456, 1002127168, 702286144, 527783520, 219308128, 540264704, 844431104, 83730464, 379229728, 237957856, 474596576, 719363008, 948415936, 363201696, 130101920, 828927360, 588209024],
  [181314671, 361351390, 524774577, 697808277, 593039866, 1008631115, 919656740, 62876419, 158453612, 372679645, 486016946, 707321494, 551975673, 1067521608, 896512551, 100333350, 255087433, 275988472, 448633751, 745358003, 648275676, 971278957, 858402306, 105225253, 210450506, 332158203, 419623060, 802302384, 622628319, 979100014, 815088897],
  [1008714664, 707503728, 372532696, 105105897, 979110465, 745041817, 276278321, 210188242, 815330426, 648843682, 447959562, 180682299, 920337811, 552556619, 485530595, 420375213, 621914373, 858115293, 255463285, 525181764, 592601324, 895878452, 158975644, 361323903, 697736919, 1067645711, 62732455, 332043414, 802510654, 971059942, 100593998],
  [744469497, 179036923, 653545730, 356771071, 958158598, 535299588, 867677693, 672624087, 71884334, 582782764, 249773269, 1028950312, 285948625, 939486163, 463525930, 36601735, 779209854, 142974332, 618278533, 393059192, 993142913, 499546499, 832162426, 708383312, 107389353, 546500779, 214778706, 1065023151, 321209686, 902894676, 428779437],
  [420710916, 817303848, 698653484, 862855760, 712878164, 64566136, 449493372, 911786409, 793463725, 116379777, 536631941, 87483385, 472214013, 897708753, 747796693, 1051043666, 666250582, 236107386, 385956990, 231441666, 349703942, 1031574570, 611261998, 150824699, 300870911, 944404435, 559545815, 999507115, 578866863, 186930563, 305651591],
  [26372775, 28603502, 2498249, 33049820, 6956667, 4995250, 31347221, 24427921, 15128374, 12634623, 22192984, 9236813, 18783210, 20481315, 11202436, 7961355, 32182700, 30216037, 6251970, 25245655, 1269104, 3490745, 27732254, 17680026, 10464317, 12169972, 19650643, 16091718, 23584993, 21102120, 13866127],
  [843928800, 915312064, 79943968, 1057594240, 222613344, 159848000, 1003111072, 781693472, 484107968, 404307936, 710175488, 295578016, 601062720, 655402080, 358477952, 254763360, 1029846400, 966913184, 200063040, 807860960, 40611328, 111703840, 887432128, 565760832, 334858144, 389439104, 628820576, 514934976, 754719776, 675267840, 443716064],
  [630627036, 465383601, 1043049069, 905896267, 275282839, 776196602, 198527782, 997844630, 519011402, 549770791, 89279739, 243730397, 722574593, 356136812, 816623024, 645393445, 65107705, 1036704916, 408700488, 327748974, 908040114, 137641439, 765634307, 487459507, 949522543, 112409090, 589668574, 686877688, 224817444, 860740425, 383467925],
  [1050130270, 791636917, 297327851, 249230947, 810369341, 569744854, 526527112, 497143270, 590772920, 848209491, 202969357, 326843269, 770477275, 1012158512, 46393198, 970145740, 121931922, 385635449, 678159143, 923388335, 161382129, 405185050, 649139524, 611512874, 451233140, 190683551, 902442689, 715654217, 339718935, 92762108, 990959778],
  [104561291, 207803446, 173649597, 415566917, 519993038, 346544243, 312255224, 831133834, 934371841, 1038666940, 1003730487, 693048527, 796159556, 623755513, 588692082, 865120532, 900451231, 1072850210, 969482153, 727039313, 762234842, 657942887, 554439660, 35301790, 69325589, 242777512, 138610467, 450864603, 484761424, 381514221, 277220198],
  [441813183, 883626327, 788437480, 994222727, 555166264, 266974160, 364657519, 638926894, 1010878609, 314462585, 149674438, 492298921, 117598742, 704443390, 866745153, 506078300, 75476195, 713110795, 819248564, 627607259, 1060965988, 298030988, 194387763, 943678578, 577432781, 211055909, 381812122, 58574581, 422071882, 936826786, 763584285],
  [305687157, 610596323, 912039830, 449400774, 150021555, 1051572773, 748015696, 898023084, 666817753, 300043087, 64627002, 793768298, 1031248671, 187368585, 420703996, 1000175736, 698683917, 536448411, 230811630, 559167422, 862739915, 87081565, 386443304, 236701396, 472100001, 712979255, 944200002, 349341970, 116056935, 817265905, 579737220],
  [19213007, 14307518, 33520241, 27297109, 8761242, 24827371, 6291236, 30476931, 15999052, 17521213, 3043570, 7442390, 22324505, 11263848, 26146215, 20058150, 1522409, 31998104, 13462103, 9606515, 28819388, 4769229, 23981826, 14883493, 29765738, 3754523, 18637012, 21209072, 6731071, 26857294, 12379521],
  [614816224, 457840576, 1072647712, 873507488, 280359744, 794475872, 201319552, 975261792, 511969664, 560678816, 97394240, 238156480, 714384160, 360443136, 836678880, 641860800, 48717088, 1023939328, 430787296, 307408480, 922220416, 152615328, 767418432, 476271776, 952503616, 120144736, 596384384, 678690304, 215394272, 859433408, 396144672],
  [418369758, 835421589, 690246987, 856918787, 737958877, 47713942, 439869000, 917967654, 777569272, 125605555, 529745517, 94672933, 491473147, 879697328, 746638702, 1064182636, 662827954, 245737209, 373978663, 209561711, 345143473, 1035349498, 626654500, 165228618, 288809108, 940750303, 553477377, 986364745, 572877719, 184631004, 334425602],
  [1041838567, 774300622, 272618025, 239953596, 810833755, 543917426, 510833813, 479128689, 580378006, 849874879, 212942424, 314804941, 752532266, 1021667587, 50092260, 956955851, 118541612, 388964101, 691416802, 927242871, 157133712, 425884089, 662390878, 629608634, 463348061, 195162996, 901300883, 734688774, 366168033, 99390920, 1005954095]]
def okc : List Nat → List (List Nat) → Bool
  | _, [] => true
  | r, t :: ts => (r.map Az == t) && okc t ts
theorem okc_get : ∀ (ts : List (List Nat)) (r : List Nat), okc r ts = true → ∀ d t, ts[d]? = some t → t = r.map (An (d + 1))
  | [], r, _, d, t, h => by simp at h
  | u :: ts, r, h, 0, t, e => by
    unfold okc at h
    rw [Bool.and_eq_true] at h
    simp at e
    subst e
    exact (eq_of_beq h.1).symm
  | u :: ts, r, h, d + 1, t, e => by
    unfold okc at h
    rw [Bool.and_eq_true] at h
    have := okc_get ts u h.2 d t (by simpa using e)
    rw [this, ← eq_of_beq h.1, List.map_map]
    rfl
def errs : List Nat := (List.range 31).map (· + 1)
theorem tab_okc : okc errs tab = true := by decide +kernel
theorem tab_len : tab.length = 37 := by decide +kernel

/-- no two leave one rest: the rests seen so far are the bits of m -/
def okb : Nat → List Nat → Bool
  | _, [] => true
  | m, x :: xs => match Nat.testBit m (x % 59034) with
    | true => false
    | false => okb (m ||| (1 <<< (x % 59034))) xs
theorem okb_ok : ∀ (xs : List Nat) (m : Nat), okb m xs = true → xs.Nodup ∧ ∀ x ∈ xs, m.testBit (x % 59034) = false
  | [], m, _ => ⟨List.nodup_nil, by simp⟩
  | x :: xs, m, h => by
    unfold okb at h
    split at h
    · cases h
    · rename_i hx
      obtain ⟨n1, n2⟩ := okb_ok xs _ h
      have key : ∀ y ∈ xs, m.testBit (y % 59034) = false ∧ y % 59034 ≠ x % 59034 := fun y hy => by
        have := n2 y hy
        rw [Nat.testBit_or, Bool.or_eq_false_iff, Nat.one_shiftLeft, Nat.testBit_two_pow] at this
        exact ⟨this.1, fun e => by have := of_decide_eq_false this.2; omega⟩
      refine ⟨List.nodup_cons.mpr ⟨fun hm => (key x hm).2 rfl, n1⟩, fun y hy => ?_⟩
      rcases List.mem_cons.mp hy with rfl | hy
      · exact hx
      · exact (key y hy).1
def tab5 : List (List Nat) := [
  [1, 2, 3, 4, 5, 6, 7, 8, 9, 10, 11, 12, 13, 14, 15, 16, 17, 18, 19, 20, 21, 22, 23, 24, 25, 26, 27, 28, 29, 30, 31],
  [32, 64, 96, 128, 160, 192, 224, 256, 288, 320, 352, 384, 416, 448, 480, 512, 544, 576, 608, 640, 672, 704, 736, 768, 800, 832, 864, 896, 928, 960, 992],
  [1024, 2048, 3072, 4096, 5120, 6144, 7168, 8192, 9216, 10240, 11264, 12288, 13312, 14336, 15360, 16384, 17408, 18432, 19456, 20480, 21504, 22528, 23552, 24576, 25600, 26624, 27648, 28672, 29696, 30720, 31744],
  [32768, 65536, 98304, 131072, 163840, 196608, 229376, 262144, 294912, 327680, 360448, 393216, 425984, 458752, 491520, 524288, 557056, 589824, 622592, 655360, 688128, 720896, 753664, 786432, 819200, 851968, 884736, 917504, 950272, 983040, 1015808],
  [1048576, 2097152, 3145728, 4194304, 5242880, 6291456, 7340032, 8388608, 9437184, 10485760, 11534336, 12582912, 13631488, 14680064, 15728640, 16777216, 17825792, 18874368, 19922944, 20971520, 22020096, 23068672, 24117248, 25165824, 26214400, 27262976, 28311552, 29360128, 30408704, 31457280, 32505856],
  [31150781, 20087923, 15324878, 16058575, 19815026, 29854908, 1891841, 32117150, 3228451, 14194157, 17024848, 18815313, 12864492, 2989346, 32952223, 22061845, 9171368, 6432614, 28931547, 27634650, 8321383, 9908137, 21789972, 12235403, 23191606, 25704184, 5465157, 5225028, 26536185, 24985143, 10906762],
  [16695115, 32111542, 18302205, 22533733, 27879726, 12463571, 4231832, 4132330, 12694177, 30864988, 19417367, 23649167, 26633412, 8462393, 8363890, 6986708, 9708703, 25387106, 25026345, 20794801, 29618938, 13940231, 2754892, 5609022, 11217269, 29126024, 21156547, 16924763, 33357584, 15449069, 1377446],
  [2172665, 4344059, 6516226, 8664543, 10818342, 13008164, 15162333, 17329047, 19484014, 21635948, 23790997, 25976392, 28145841, 30283443, 32452682, 9762343, 11915486, 14073564, 16226341, 1098744, 3269889, 5409539, 7581178, 27041200, 29211465, 31380811, 33551282, 18393199, 20549270, 22732948, 24888941],
  [18242379, 12326838, 27938045, 23898725, 8057134, 30457299, 13035160, 6148586, 21727905, 14796380, 33004823, 20020111, 2564292, 26045497, 10172274, 11503572, 28957855, 1282146, 17156905, 29568433, 13989626, 25115143, 6906188, 15881790, 31722869, 5128584, 22551235, 27196507, 8955664, 19065837, 3453094],
  [4233413, 8466826, 12691791, 16933652, 21167057, 25383582, 29608539, 9725729, 13959140, 1398443, 5623406, 26608693, 30842096, 18298303, 22523258, 19427170, 23656359, 27877096, 32097837, 2755702, 6984883, 11222524, 15443257, 29100099, 33329286, 20789705, 25010444, 12479319, 16708498, 4152029, 8372760],
  [15077486, 30154972, 19542194, 18661777, 33214975, 13689165, 3600675, 12429067, 6010725, 24217559, 26711993, 27354778, 21460724, 7161414, 9131560, 24103734, 25811800, 10742762, 4586372, 7539367, 9771721, 29305467, 22624789, 30567485, 20216915, 1985761, 16276623, 13544876, 2670018, 16944496, 31759646],
  [15700216, 30122457, 19149089, 18072475, 33313635, 14180930, 3666618, 12002879, 5813959, 24938470, 26416926, 27583908, 21722460, 7292029, 8443013, 24004983, 25287055, 10873006, 4880470, 8227564, 9574932, 28715829, 22657997, 31027016, 20381616, 1232529, 16604777, 13282515, 2440235, 16846090, 32415218],
  [31425064, 20676976, 14943064, 15958729, 19661025, 29885369, 1540497, 31916210, 3703450, 14451138, 16974826, 18121339, 13303891, 3080971, 32538915, 22937933, 8487781, 6651965, 28967445, 28148612, 7471532, 9831156, 21594332, 12124671, 23495639, 25329807, 6095527, 4883254, 26542366, 24183366, 11436142],
  [6598131, 13196239, 11400764, 25597630, 31603533, 22007153, 19619970, 27076725, 33129862, 22311866, 19979849, 1818315, 8327992, 13821188, 11946231, 29282499, 31096112, 24611596, 18032383, 3688061, 6089614, 15801778, 9809985, 2357430, 4674885, 15377273, 9309834, 27618824, 29475835, 23868871, 17340468],
  [22164186, 3432637, 23482983, 6841683, 20600713, 6030830, 17708852, 12906127, 26664021, 15765042, 27442408, 11307996, 33470726, 10021729, 30071227, 25787454, 14372580, 29170819, 15674969, 31529325, 11742135, 30767568, 8866570, 21861041, 2072683, 24769036, 2867414, 19265506, 7849272, 17930079, 4433285],
  [3711536, 6668649, 6120281, 13313746, 15959266, 11462587, 9848203, 25348269, 28994205, 31918532, 31435764, 21622399, 24202319, 19672854, 18124070, 26555738, 28153706, 32568371, 29906435, 22942600, 23507384, 20697825, 17002705, 1572343, 3104711, 7486622, 4890286, 14474021, 14973205, 12130892, 8501372],
  [33394901, 25141635, 8532310, 8110854, 25580499, 17064581, 16380496, 14919468, 18757625, 27002543, 6395514, 9987114, 23459071, 31966633, 1725820, 29838200, 3857325, 12118779, 21330478, 29132926, 4266155, 12790269, 20887848, 19197012, 14253185, 5983703, 27712770, 23015250, 10665863, 2133713, 31268356],
  [18118197, 12078435, 28064598, 23379654, 7391475, 31257509, 13141392, 5863596, 21827225, 14759375, 32850938, 20825706, 2732127, 25529097, 9567548, 10933592, 28484461, 2005051, 17493518, 29518750, 14032299, 24782589, 7229640, 16756212, 32234433, 4710551, 22255266, 26940210, 9397511, 19095121, 3614820],
  [341763, 682790, 1006629, 63340, 376943, 695370, 1026889, 86008, 293115, 730334, 922589, 112788, 298903, 775090, 976049, 147193, 461306, 546271, 877276, 182677, 523926, 565939, 890288, 225537, 411138, 596519, 797988, 231021, 438638, 650571, 842312],
  [10936417, 21849282, 32212131, 2026884, 12062181, 22251846, 32860455, 2752264, 9379689, 23370698, 29522859, 3609228, 9564909, 24802894, 31233583, 4710192, 14761809, 17480690, 28072851, 5845684, 16765653, 18110070, 28489239, 7217208, 13156441, 19088634, 25535643, 7392700, 14036445, 20818302, 26954015],
  [301517, 603034, 895575, 451133, 162800, 1036711, 739434, 877939, 654526, 284393, 53028, 755534, 990851, 177364, 404761, 978639, 685826, 515413, 214168, 527602, 824639, 81768, 370341, 232380, 463473, 702502, 926187, 354689, 127052, 809499, 574422],
  [9648560, 19297097, 28658425, 14436274, 5209602, 33174779, 23661899, 28094061, 20944861, 9100580, 1696916, 24177119, 31707247, 5675670, 12952358, 31316474, 21946442, 16493235, 6853379, 16883272, 26388472, 2616577, 11850929, 7436183, 14831143, 22480094, 29637998, 11350053, 4065685, 25903980, 18381532],
  [5666083, 11292230, 16399205, 21806508, 18532495, 31519722, 28739273, 1964888, 4951675, 11646238, 15188029, 22103796, 17249239, 33360050, 28016017, 3135417, 7971482, 8624639, 14019804, 23292437, 20258614, 30352467, 26825072, 3288289, 6576578, 10379943, 13113220, 25071949, 19457134, 30596875, 25471528],
  [31522333, 22109491, 11641646, 3284559, 30597202, 23282556, 8633697, 6568382, 25479075, 20276365, 13998736, 5646321, 28760556, 17267394, 15172831, 13136725, 19434824, 26816102, 7983227, 16411930, 18518791, 27996201, 4967988, 11291371, 21804278, 33363928, 1960389, 10376356, 25078457, 30345623, 3143562],
  [23264671, 5594903, 20423304, 11149095, 29942456, 16728112, 27114927, 21019502, 2246385, 18211961, 7805414, 32154697, 8935894, 29358942, 14485185, 1143804, 24350307, 4467947, 19321204, 12283099, 31035716, 15610828, 26005075, 22136978, 3355917, 17078149, 6711834, 33281973, 10037802, 28215458, 13399357],
  [13147216, 25540745, 21832921, 26964242, 22277442, 2017691, 14046667, 28493325, 24795741, 3636868, 16769748, 2733855, 14756687, 28053398, 23368646, 32845114, 20820330, 7378355, 12061155, 7232552, 10928248, 32236705, 19101937, 4713271, 9402215, 29512638, 17485806, 31234597, 18089589, 5841580, 9551612],
  [824149, 893859, 78070, 1032806, 217395, 156101, 979600, 763372, 472761, 394831, 693530, 288650, 586975, 640041, 350076, 248792, 1005709, 944251, 195374, 788926, 39659, 109085, 866632, 552500, 327009, 380311, 614082, 502866, 737031, 659441, 433316],
  [26372775, 28603502, 2498249, 33049820, 6956667, 4995250, 31347221, 24427921, 15128374, 12634623, 22192984, 9236813, 18783210, 20481315, 11202436, 7961355, 32182700, 30216037, 6251970, 25245655, 1269104, 3490745, 27732254, 17680026, 10464317, 12169972, 19650643, 16091718, 23584993, 21102120, 13866127],
  [19707094, 14543237, 32595283, 28309258, 8602588, 24256143, 6203993, 31182644, 16219106, 17180337, 2789991, 7616574, 22580456, 11129275, 25519469, 20168545, 2034615, 32397028, 12771890, 10242155, 28376253, 4301294, 23926072, 15233109, 29672579, 3512784, 18427142, 21464927, 7025545, 26898138, 11983372],
  [32816570, 24738653, 9291495, 7788467, 25324041, 17804526, 16453972, 15535727, 18461653, 26506546, 6342792, 10213852, 24077414, 31629953, 1449787, 30317054, 3810372, 12051107, 21192473, 28855885, 5043191, 12662032, 20285610, 19109777, 14101035, 5958860, 28201334, 22364194, 10616216, 2898815, 30967493],
  [3267540, 6493857, 5426549, 12986466, 16249782, 10829507, 9757975, 25972932, 29199120, 32458341, 31366577, 21657766, 24879986, 19492359, 18396627, 27035016, 28139100, 33526569, 30296317, 22719978, 23819838, 20560715, 17326239, 1103180, 2166424, 7586797, 4331577, 14089518, 15148794, 11922319, 8663131],
  [13806661, 27613322, 24638671, 31069460, 17348945, 8342942, 11395547, 19966465, 31589956, 9826955, 4677326, 15384341, 3674960, 22013855, 27085786, 15814946, 2358631, 22284712, 25601517, 19612726, 33155187, 9313468, 6074617, 29489955, 18044774, 6595497, 11931628, 1830455, 13189746, 29275837, 23862008],
  [9552723, 19081135, 28501244, 14043774, 4688173, 32861649, 23375490, 28063221, 20838054, 9376346, 2019593, 24805259, 32226520, 5855268, 13146999, 31255491, 21833872, 16764012, 7212863, 17473981, 26960622, 2721298, 12076353, 7396918, 14753125, 22280601, 29506250, 10916936, 3626779, 25539559, 18116788],
  [600406, 447109, 1047507, 853034, 273788, 775855, 196601, 952404, 499970, 547537, 95111, 232574, 697640, 351995, 817069, 626817, 47575, 999940, 420690, 300203, 900605, 149038, 749432, 465109, 930179, 117328, 582406, 662783, 210345, 839290, 386860],
  [19213007, 14307518, 33520241, 27297109, 8761242, 24827371, 6291236, 30476931, 15999052, 17521213, 3043570, 7442390, 22324505, 11263848, 26146215, 20058150, 1522409, 31998104, 13462103, 9606515, 28819388, 4769229, 23981826, 14883493, 29765738, 3754523, 18637012, 21209072, 6731071, 26857294, 12379521],
  [13074054, 26106924, 21570218, 26778712, 23061214, 1491060, 13745906, 28686489, 24299039, 3925173, 16554547, 2958529, 15358535, 27490541, 23332459, 33255707, 20713373, 7679287, 11686833, 6548803, 10785733, 32354671, 19582953, 5163394, 9025284, 29398446, 17296168, 30823898, 17902428, 5769718, 10450800],
  [32557455, 24196894, 8519313, 7498549, 25338554, 16997419, 15963556, 14972771, 18136812, 26558589, 6654450, 9837654, 23516633, 31927112, 1565383, 29904870, 3704425, 12155128, 21606775, 28976339, 4910428, 13308877, 20699714, 19675269, 14479626, 6098843, 28165652, 22959024, 11442751, 3105966, 31436065]]
theorem tab5_eq : (tab.map fun r => r.map (· >>> 5)) = tab5 := eq_of_beq (by decide +kernel)
theorem tab5_all : okb 0 (0 :: tab5.flatten) = true := by decide +kernel
theorem tab5_nodup : (0 :: tab5.flatten).Nodup := (okb_ok _ _ tab5_all).1
theorem tab_row {d : Nat} (h1 : 1 ≤ d) (h2 : d ≤ 37) : tab5[d - 1]? = some (errs.map fun e => An d e >>> 5) := by
  have hlt : d - 1 < tab.length := by rw [tab_len]; omega
  have hg : tab[d - 1]? = some tab[d - 1] := List.getElem?_eq_getElem hlt
  have := okc_get tab errs tab_okc (d - 1) _ hg
  rw [← tab5_eq, List.getElem?_map, hg, this, show d - 1 + 1 = d by omega]
  simp [Function.comp_def]
theorem err_mem {e : Nat} (h1 : 1 ≤ e) (h2 : e < 32) : e ∈ errs := List.mem_map.mpr ⟨e - 1, List.mem_range.mpr (by omega), by omega⟩
theorem N1 {d e : Nat} (h1 : 1 ≤ d) (h2 : d ≤ 37) (e1 : 1 ≤ e) (e2 : e < 32) : An d e >>> 5 ≠ 0 := fun h => by
  have hn := (List.nodup_cons.mp tab5_nodup).1
  apply hn
  rw [← h]
  exact List.mem_flatten.mpr ⟨_, List.mem_of_getElem? (tab_row h1 h2), List.mem_map.mpr ⟨e, err_mem e1 e2, rfl⟩⟩
theorem N2 {d d' e e' : Nat} (h1 : 1 ≤ d) (hd : d < d') (h2 : d' ≤ 37) (e1 : 1 ≤ e) (e2 : e < 32) (e1' : 1 ≤ e') (e2' : e' < 32) : An d e >>> 5 ≠ An d' e' >>> 5 := fun h => by
  have hn := (List.nodup_cons.mp tab5_nodup).2
  rw [List.Nodup, List.pairwise_flatten] at hn
  have hp := hn.2
  have r1 := tab_row h1 (by omega)
  have r2 := tab_row (show 1 ≤ d' by omega) h2
  obtain ⟨l1, g1⟩ := List.getElem?_eq_some_iff.mp r1
  obtain ⟨l2, g2⟩ := List.getElem?_eq_some_iff.mp r2
  have := List.pairwise_iff_getElem.mp hp (d - 1) (d' - 1) l1 l2 (by omega)
  rw [g1, g2] at this
  exact this _ (List.mem_map.mpr ⟨e, err_mem e1 e2, rfl⟩) _ (List.mem_map.mpr ⟨e', err_mem e1' e2', rfl⟩) h

theorem xor_z {a b : Nat} (h : a ^^^ b = 0) : a = b := by
  have h2 : (a ^^^ b) ^^^ b = b := by rw [h, Nat.zero_xor]
  rwa [Nat.xor_assoc, Nat.xor_self, Nat.xor_zero] at h2
/-- up to three faults are seen -/
theorem one_fault {j e : Nat} (e1 : 1 ≤ e) (e2 : e < 32) : An j e ≠ 0 := fun h => by have := An_zero j e (by omega) h; omega
theorem two_faults {j j' e e' : Nat} (hj : j < j') (h2 : j' ≤ 37) (e1 : 1 ≤ e) (e2 : e < 32) (e1' : 1 ≤ e') (e2' : e' < 32) : An j e ^^^ An j' e' ≠ 0 := fun h => by
  have q : j' = (j' - j) + j := by omega
  rw [q, An_add, ← An_xor] at h
  have hl := An_lt (j' - j) e' (by omega)
  have h0 := An_zero j _ (Nat.xor_lt_two_pow (by omega) hl) h
  have he := xor_z h0
  have := N1 (d := j' - j) (e := e') (by omega) (by omega) e1' e2'
  rw [← he, Nat.shiftRight_eq_div_pow] at this
  omega
theorem three_faults {j j' j'' e e' e'' : Nat} (hj : j < j') (hj' : j' < j'') (h2 : j'' ≤ 37) (e1 : 1 ≤ e) (e2 : e < 32) (e1' : 1 ≤ e') (e2' : e' < 32) (e1'' : 1 ≤ e'') (e2'' : e'' < 32) : An j e ^^^ An j' e' ^^^ An j'' e'' ≠ 0 := fun h => by
  have q1 : j' = (j' - j) + j := by omega
  have q2 : j'' = (j'' - j) + j := by omega
  rw [q1, q2, An_add, An_add, ← An_xor, ← An_xor] at h
  have l1 := An_lt (j' - j) e' (by omega)
  have l2 := An_lt (j'' - j) e'' (by omega)
  have h0 := An_zero j _ (Nat.xor_lt_two_pow (Nat.xor_lt_two_pow (by omega) l1) l2) h
  have he : An (j' - j) e' ^^^ An (j'' - j) e'' = e := by
    have : e ^^^ (An (j' - j) e' ^^^ An (j'' - j) e'') = 0 := by rw [← h0]; ac_rfl
    exact (xor_z this).symm
  have hs := congrArg (· >>> 5) he
  simp only [Nat.shiftRight_xor_distrib] at hs
  have hz : e >>> 5 = 0 := by rw [Nat.shiftRight_eq_div_pow]; omega
  rw [hz] at hs
  exact N2 (d := j' - j) (d' := j'' - j) (by omega) (by omega) (by omega) e1' e2' e1'' e2'' (xor_z hs)
end Mine

-- MC
namespace Mine

theorem Gx0 : Gx 0 = 0 := by decide +kernel
theorem Az_small {x : Nat} (h : x < 2 ^ 25) : Az x = x * 32 := by
  unfold Az
  have hm : x &&& 33554431 = x % 2 ^ 25 := Nat.and_two_pow_sub_one_eq_mod x 25
  rw [hm, Nat.mod_eq_of_lt h, Nat.shiftRight_eq_div_pow, Nat.div_eq_of_lt h, Gx0, Nat.xor_zero, Nat.shiftLeft_eq]
theorem mul_xor {q r : Nat} (h : r < 32) : (q * 32) ^^^ r = q * 32 + r := by
  have hs := xor_sum (q * 32) r
  have h0 : (q * 32) &&& r = 0 := by
    have hr : r = r &&& 31 := by
      have : r &&& 31 = r % 2 ^ 5 := Nat.and_two_pow_sub_one_eq_mod r 5
      rw [this, Nat.mod_eq_of_lt h]
    rw [hr, Nat.and_comm r 31, ← Nat.and_assoc]
    have : (q * 32) &&& 31 = (q * 32) % 2 ^ 5 := Nat.and_two_pow_sub_one_eq_mod (q * 32) 5
    rw [this, Nat.mul_mod_left, Nat.zero_and]
  omega
theorem pstep_small {x v : Nat} (h : x < 2 ^ 25) (hv : v < 32) : pstep x v = x * 32 + v := by rw [pstep_eq, Az_small h, mul_xor hv]
theorem fold_lin : ∀ (q : List Nat) (a b : Nat), q.foldl pstep (a ^^^ b) = q.foldl pstep a ^^^ (q.map fun _ => 0).foldl pstep b
  | [], _, _ => rfl
  | v :: q, a, b => by
    rw [List.map_cons, List.foldl_cons, List.foldl_cons, List.foldl_cons, ← fold_lin q]
    congr 1
    rw [pstep_eq, pstep_eq, pstep_eq, Az_xor, Nat.xor_zero]
    ac_rfl
theorem chks_val {p : Nat} (hp : p < 2 ^ 30) : ((List.range 6).map fun i => (p >>> (5 * (5 - i))) &&& 31).foldl pstep 0 = p := by
  have hr : List.range 6 = [0, 1, 2, 3, 4, 5] := rfl
  have ha : ∀ x : Nat, x &&& 31 = x % 32 := fun x => Nat.and_two_pow_sub_one_eq_mod x 5
  rw [hr]
  simp only [List.map_cons, List.map_nil, List.foldl_cons, List.foldl_nil, ha, Nat.shiftRight_eq_div_pow]
  have e0 : pstep 0 (p / 2 ^ (5 * (5 - 0)) % 32) = p / 2 ^ 25 := by
    rw [pstep_small (by decide) (Nat.mod_lt _ (by decide))]
    omega
  have e1 : pstep (p / 2 ^ 25) (p / 2 ^ (5 * (5 - 1)) % 32) = p / 2 ^ 20 := by rw [pstep_small (by omega) (Nat.mod_lt _ (by decide))]; omega
  have e2 : pstep (p / 2 ^ 20) (p / 2 ^ (5 * (5 - 2)) % 32) = p / 2 ^ 15 := by rw [pstep_small (by omega) (Nat.mod_lt _ (by decide))]; omega
  have e3 : pstep (p / 2 ^ 15) (p / 2 ^ (5 * (5 - 3)) % 32) = p / 2 ^ 10 := by rw [pstep_small (by omega) (Nat.mod_lt _ (by decide))]; omega
  have e4 : pstep (p / 2 ^ 10) (p / 2 ^ (5 * (5 - 4)) % 32) = p / 2 ^ 5 := by rw [pstep_small (by omega) (Nat.mod_lt _ (by decide))]; omega
  have e5 : pstep (p / 2 ^ 5) (p / 2 ^ (5 * (5 - 5)) % 32) = p := by rw [pstep_small (by omega) (Nat.mod_lt _ (by decide))]; omega
  rw [e0, e1, e2, e3, e4, e5]
theorem pstep_lt {c v : Nat} (h : v < 2 ^ 30) : pstep c v < 2 ^ 30 := by rw [pstep_eq]; exact Nat.xor_lt_two_pow (Az_lt c) h
theorem pmod_chks (h m : List Nat) {k : Nat} (hk : k < 2 ^ 30) : pmod (hrpx h ++ (m ++ chks h m k)) = k := by
  have hP : pmod (hrpx h ++ m ++ [0, 0, 0, 0, 0, 0]) < 2 ^ 30 := by
    unfold pmod
    rw [show hrpx h ++ m ++ [0, 0, 0, 0, 0, 0] = (hrpx h ++ m ++ [0, 0, 0, 0, 0]) ++ [0] by simp, List.foldl_append]
    exact pstep_lt (by decide)
  have hv := chks_val (Nat.xor_lt_two_pow hP hk)
  have hz : (chks h m k).map (fun _ => 0) = [0, 0, 0, 0, 0, 0] := by unfold chks; rw [List.map_map]; rfl
  have e : pmod (hrpx h ++ (m ++ chks h m k)) = (chks h m k).foldl pstep (0 ^^^ pmod (hrpx h ++ m)) := by
    unfold pmod
    rw [← List.append_assoc, List.foldl_append, Nat.zero_xor]
  rw [e, fold_lin, hz]
  have e2 : [0, 0, 0, 0, 0, 0].foldl pstep (pmod (hrpx h ++ m)) = pmod (hrpx h ++ m ++ [0, 0, 0, 0, 0, 0]) := by
    unfold pmod
    generalize hrpx h ++ m = w
    rw [List.foldl_append]
  rw [e2]
  have e3 : (chks h m k).foldl pstep 0 = pmod (hrpx h ++ m ++ [0, 0, 0, 0, 0, 0]) ^^^ k := hv
  rw [e3]
  generalize pmod (hrpx h ++ m ++ [0, 0, 0, 0, 0, 0]) = a
  have : (a ^^^ k) ^^^ a = (a ^^^ a) ^^^ k := by ac_rfl
  rw [this, Nat.xor_self, Nat.zero_xor]

def headN : List (List Nat) := [[98, 99], [116, 98], [98, 99, 114, 116]]
theorem head_ok : ∀ h ∈ headN, 2 ≤ h.length ∧ h.length ≤ 4 ∧ ∀ c ∈ h, 33 ≤ c ∧ c ≤ 126 ∧ lo1 c = c ∧ 33 ≤ up1 c ∧ up1 c ≤ 126 ∧ lo1 (up1 c) = c ∧ up1 (up1 c) = up1 c ∧ c ≠ 49 := by decide
theorem csl_ok : ∀ c ∈ csl, 33 ≤ c ∧ c ≤ 126 ∧ lo1 c = c ∧ 33 ≤ up1 c ∧ up1 c ≤ 126 ∧ lo1 (up1 c) = c ∧ up1 (up1 c) = up1 c ∧ c ≠ 49 := by decide
theorem ci_cs : ∀ n, n < 32 → ci (cs n) = n := by decide
theorem csm {n : Nat} (h : n < 32) : cs n ∈ csl := List.mem_of_getElem? (cs_get h)

section
variable {h s : List Nat}
def txt (h s : List Nat) : List Nat := h ++ [49] ++ s.map cs
theorem txt_mem (hh : h ∈ headN) (hs : ∀ x ∈ s, x < 32) : ∀ c ∈ txt h s, 33 ≤ c ∧ c ≤ 126 ∧ lo1 c = c ∧ 33 ≤ up1 c ∧ up1 c ≤ 126 ∧ lo1 (up1 c) = c ∧ up1 (up1 c) = up1 c := fun c hc => by
  unfold txt at hc
  rcases List.mem_append.mp hc with hc | hc
  · rcases List.mem_append.mp hc with hc | hc
    · obtain ⟨a, b, c', d, e, f, g, _⟩ := (head_ok h hh).2.2 c hc; exact ⟨a, b, c', d, e, f, g⟩
    · rw [List.mem_singleton.mp hc]; decide
  · obtain ⟨x, hx, rfl⟩ := List.mem_map.mp hc
    obtain ⟨a, b, c', d, e, f, g, _⟩ := csl_ok _ (csm (hs x hx)); exact ⟨a, b, c', d, e, f, g⟩
theorem map_id {f : Nat → Nat} {l : List Nat} (h : ∀ c ∈ l, f c = c) : l.map f = l := by
  induction l with
  | nil => rfl
  | cons a l ih => rw [List.map_cons, h a List.mem_cons_self, ih fun c hc => h c (List.mem_cons_of_mem _ hc)]
theorem txt_rfind (hh : h ∈ headN) (hs : ∀ x ∈ s, x < 32) : Txt.rfind (mkS (txt h s)) (mkS [49]) = (h.length : Int) := by
  refine rfind_some (l := txt h s) (p := h.length) ?_ fun k hk e => ?_
  · unfold txt; simp
  · unfold txt at e
    rw [List.getElem?_append_right (by simp; omega)] at e
    have := List.mem_of_getElem? e
    obtain ⟨x, hx, h49⟩ := List.mem_map.mp this
    exact (csl_ok _ (csm (hs x hx))).2.2.2.2.2.2.2 h49
def afterB (b : List Nat) : Option (Nat × List Nat × List Nat) :=
  let p := Txt.rfind (mkS b) (mkS [49])
  if p < 1 ∨ p + 7 > b.length ∨ b.length > 90 then none else
  let t := b.drop (p + 1).toNat
  if !(t.all fun c => decide (c ∈ csl)) then none else
  let h := b.take p.toNat
  let d := t.map ci
  match verif h d with
  | none => none
  | some e => some (e, h, d.take (d.length - 6))
theorem dec_after (l : List Nat) : dec l = if decBad l then none else afterB (l.map lo1) := rfl
theorem after_txt (hh : h ∈ headN) (hs : ∀ x ∈ s, x < 32) (h6 : 6 ≤ s.length) (h90 : h.length + 1 + s.length ≤ 90) :
    afterB (txt h s) = match verif h s with | none => none | some e => some (e, h, s.take (s.length - 6)) := by
  have hl : (txt h s).length = h.length + 1 + s.length := by simp [txt]; omega
  have h2 := (head_ok h hh).1
  unfold afterB
  simp only [txt_rfind hh hs]
  rw [if_neg (by rw [hl]; omega)]
  have hd : (txt h s).drop ((h.length : Int) + 1).toNat = s.map cs := by
    have : ((h.length : Int) + 1).toNat = (h ++ [49]).length := by simp
    rw [this]; unfold txt; rw [List.drop_left]
  have ht : (txt h s).take (h.length : Int).toNat = h := by
    rw [Int.toNat_natCast]; unfold txt; rw [List.append_assoc, List.take_left]
  rw [hd, ht]
  have hall : ((s.map cs).all fun c => decide (c ∈ csl)) = true := by
    rw [List.all_eq_true]
    intro c hc
    obtain ⟨x, hx, rfl⟩ := List.mem_map.mp hc
    exact decide_eq_true (csm (hs x hx))
  rw [hall, if_neg (by decide)]
  have hm : (s.map cs).map ci = s := by
    rw [List.map_map]
    exact map_id fun c hc => ci_cs c (hs c hc)
  rw [hm]
theorem bad_txt (hh : h ∈ headN) (hs : ∀ x ∈ s, x < 32) : decBad (txt h s) = false := by
  have hm := txt_mem hh hs
  unfold decBad
  have e1 : (txt h s).any (fun c => decide (c < 33) || decide (126 < c)) = false := by
    rw [List.any_eq_false]
    intro c hc
    have := hm c hc
    simp; omega
  rw [e1, map_id fun c hc => (hm c hc).2.2.1]
  simp
theorem bad_up (hh : h ∈ headN) (hs : ∀ x ∈ s, x < 32) : decBad ((txt h s).map up1) = false := by
  have hm := txt_mem hh hs
  unfold decBad
  have e1 : ((txt h s).map up1).any (fun c => decide (c < 33) || decide (126 < c)) = false := by
    rw [List.any_eq_false]
    intro c hc
    obtain ⟨x, hx, rfl⟩ := List.mem_map.mp hc
    have := hm x hx
    simp; omega
  have e2 : ((txt h s).map up1).map up1 = (txt h s).map up1 := map_id fun c hc => by
    obtain ⟨x, hx, rfl⟩ := List.mem_map.mp hc
    exact (hm x hx).2.2.2.2.2.2
  rw [e1, e2]
  simp
theorem dec_txt (hh : h ∈ headN) (hs : ∀ x ∈ s, x < 32) (h6 : 6 ≤ s.length) (h90 : h.length + 1 + s.length ≤ 90) :
    dec (txt h s) = match verif h s with | none => none | some e => some (e, h, s.take (s.length - 6)) := by
  rw [dec_after, bad_txt hh hs, if_neg (by decide), map_id fun c hc => (txt_mem hh hs c hc).2.2.1, after_txt hh hs h6 h90]
theorem dec_up (hh : h ∈ headN) (hs : ∀ x ∈ s, x < 32) : dec ((txt h s).map up1) = dec (txt h s) := by
  rw [dec_after, dec_after, bad_txt hh hs, bad_up hh hs, if_neg (by decide), if_neg (by decide)]
  congr 1
  rw [List.map_map, map_id fun c hc => (txt_mem hh hs c hc).2.2.1]
  exact map_id fun c hc => (txt_mem hh hs c hc).2.2.2.2.2.1
end

def kon (v : Nat) : Nat := if v = 0 then 1 else 734539939
def kof (v : Nat) : Nat := if v = 0 then 734539939 else 1
def goodB (size v : Nat) : Bool := (decide (2 ≤ size) && decide (size ≤ 40)) && (decide (0 < v) || decide (size = 20 ∨ size = 32))

section
variable {h p : List Nat} {v : Nat}
def codeW (h p : List Nat) (v k : Nat) : List Nat := (v :: lfives p) ++ chks h (v :: lfives p) k
theorem encT_txt (h p : List Nat) (v k : Nat) : encT h (v :: lfives p) k = txt h (codeW h p v k) := rfl
theorem codeW_lt (hv : v ≤ 16) (k : Nat) : ∀ x ∈ codeW h p v k, x < 32 := fun x hx => by
  rcases List.mem_append.mp hx with hx | hx
  · rcases List.mem_cons.mp hx with rfl | hx
    · omega
    · exact M1lt x hx
  · exact chks_lt x hx
theorem chks_len (h m : List Nat) (k : Nat) : (chks h m k).length = 6 := by simp [chks]
theorem codeW_len (h p : List Nat) (v k : Nat) : (codeW h p v k).length = (8 * p.length + 4) / 5 + 7 := by
  unfold codeW; rw [List.length_append, List.length_cons, M1len, chks_len]
theorem verif_code {k : Nat} (hk : k = 1 ∨ k = 734539939) : verif h (codeW h p v k) = some (if k = 1 then 1 else 2) := by
  unfold verif codeW
  rw [pmod_chks h _ (by rcases hk with rfl | rfl <;> decide)]
  rcases hk with rfl | rfl <;> simp
theorem dec_code {k : Nat} (hh : h ∈ headN) (hl : p.length ≤ 41) (hv : v ≤ 16) (hk : k = 1 ∨ k = 734539939) : dec (encT h (v :: lfives p) k) = some (if k = 1 then 1 else 2, h, v :: lfives p) := by
  have hlen := codeW_len h p v k
  have h4 := (head_ok h hh).2.1
  rw [encT_txt, dec_txt hh (codeW_lt hv k) (by omega) (by omega), verif_code hk]
  simp only
  congr 3
  have : (codeW h p v k).length - 6 = (v :: lfives p).length := by
    rw [hlen, List.length_cons, M1len]; omega
  rw [this]; unfold codeW; rw [List.take_left]
theorem kon_ok (v : Nat) : kon v = 1 ∨ kon v = 734539939 := by unfold kon; split <;> simp
theorem kof_ok (v : Nat) : kof v = 1 ∨ kof v = 734539939 := by unfold kof; split <;> simp
theorem decode_code {k : Nat} (hh : h ∈ headN) (hp : ∀ x ∈ p, x < 256) (hl : p.length ≤ 41) (hv : v ≤ 16) (hk : k = 1 ∨ k = 734539939) : decode h (encT h (v :: lfives p) k) = fin v (if k = 1 then 1 else 2) p := by
  unfold decode
  rw [dec_code hh hl hv hk]
  simp only
  rw [if_neg (by simp)]
  have : (v :: lfives p).drop 1 = lfives p := rfl
  rw [this, M2 hp]
  rfl
theorem fin_on (hv : v ≤ 16) : fin v (if kon v = 1 then 1 else 2) p = if goodB p.length v then some (v, p) else none := by
  unfold fin kon
  by_cases hz : v = 0
  · subst hz
    simp only [if_true]
    by_cases g1 : p.length < 2 ∨ p.length > 40
    · rw [if_pos g1, if_neg]
      simp [goodB]; omega
    · rw [if_neg g1, if_neg (by decide)]
      by_cases g2 : p.length ≠ 20 ∧ p.length ≠ 32
      · rw [if_pos ⟨trivial, g2⟩, if_neg]
        simp [goodB]; omega
      · rw [if_neg (fun x => g2 x.2), if_neg (by simp), if_pos]
        simp [goodB]; omega
  · rw [if_neg hz]
    by_cases g1 : p.length < 2 ∨ p.length > 40
    · rw [if_pos g1, if_neg]
      simp [goodB]; omega
    · rw [if_neg g1, if_neg (by omega), if_neg (fun x => hz x.1), if_neg (by simp [hz]), if_pos]
      simp [goodB]; omega
theorem fin_off {e : Nat} (he : e ≠ if v = 0 then 1 else 2) (m : List Nat) : fin v e m = none := by
  unfold fin
  split
  · rfl
  · split
    · rfl
    · split
      · rfl
      · rw [if_pos]
        by_cases hz : v = 0
        · rw [if_pos hz] at he; exact .inl ⟨hz, he⟩
        · rw [if_neg hz] at he; exact .inr ⟨hz, he⟩
theorem M6 (hh : h ∈ headN) (hp : ∀ x ∈ p, x < 256) (hl : p.length ≤ 41) (hv : v ≤ 16) : decode h (encT h (v :: lfives p) (kon v)) = if goodB p.length v then some (v, p) else none := by
  rw [decode_code hh hp hl hv (kon_ok v), fin_on hv]
theorem M5 (hh : h ∈ headN) (hp : ∀ x ∈ p, x < 256) (hl : p.length ≤ 41) (hv : v ≤ 16) : encode h v p = if goodB p.length v then some (encT h (v :: lfives p) (kon v)) else none := by
  have he : enc (if v = 0 then 1 else 2) h (v :: lfives p) = encT h (v :: lfives p) (kon v) := by
    unfold enc encT cst kon
    by_cases hz : v = 0 <;> simp [hz]
  unfold encode
  rw [M1 hp]
  simp only [he]
  rw [M6 hh hp hl hv]
  by_cases hg : goodB p.length v = true
  · rw [if_pos hg, if_pos hg, if_neg (by simp)]
  · rw [if_neg hg, if_neg hg, if_pos rfl]
theorem M7 (hh : h ∈ headN) (hp : ∀ x ∈ p, x < 256) (hl : p.length ≤ 41) (hv : v ≤ 16) (hg : goodB p.length v = true) : decode h ((encT h (v :: lfives p) (kon v)).map up1) = some (v, p) := by
  have h6 := M6 hh hp hl hv
  rw [if_pos hg] at h6
  rw [← h6]
  unfold decode
  rw [encT_txt, dec_up hh (codeW_lt hv _)]
theorem M7b (hh : h ∈ headN) (hp : ∀ x ∈ p, x < 256) (hl : p.length ≤ 41) (hv : v ≤ 16) : decode [98] (encT h (v :: lfives p) (kon v)) = none := by
  unfold decode
  rw [dec_code hh hl hv (kon_ok v)]
  simp only
  rw [if_pos]
  have := (head_ok h hh).1
  intro e; rw [e] at this; simp at this
theorem M8 (hh : h ∈ headN) (hp : ∀ x ∈ p, x < 256) (hl : p.length ≤ 41) (hv : v ≤ 16) : decode h (encT h (v :: lfives p) (kof v)) = none := by
  rw [decode_code hh hp hl hv (kof_ok v)]
  apply fin_off
  unfold kof
  by_cases hz : v = 0 <;> simp [hz]
theorem M8b (hh : h ∈ headN) (hp : ∀ x ∈ p, x < 256) (hl : p.length ≤ 41) (hv : v ≤ 16) : ∃ e, dec (encT h (v :: lfives p) (kof v)) = some (e, h, v :: lfives p) :=
  ⟨_, dec_code hh hl hv (kof_ok v)⟩
theorem bad_mem {t : List Nat} {c : Nat} (hc : c ∈ t) (h : c < 33 ∨ 126 < c) : decBad t = true := by
  unfold decBad
  have : t.any (fun c => decide (c < 33) || decide (126 < c)) = true := List.any_eq_true.mpr ⟨c, hc, by simp; omega⟩
  rw [this]; rfl
theorem M10b (t : List Nat) : dec (t ++ [32]) = none := by
  rw [dec_after, if_pos (bad_mem (c := 32) (by simp) (by decide))]
theorem M10a (t : List Nat) : dec (t.take (t.length - 1) ++ [98]) = none := by
  rw [dec_after]
  split
  · rfl
  · rw [List.map_append]
    generalize (t.take (t.length - 1)).map lo1 = u
    have e : [98].map lo1 = [98] := by decide
    rw [e]
    unfold afterB
    simp only
    split
    · rfl
    · rename_i hc
      rw [if_pos]
      have hne : ((u ++ [98]).drop (Txt.rfind (mkS (u ++ [98])) (mkS [49]) + 1).toNat).all (fun c => decide (c ∈ csl)) = false := by
        rw [List.all_eq_false]
        refine ⟨98, ?_, by decide⟩
        generalize Txt.rfind (mkS (u ++ [98])) (mkS [49]) = q at *
        have hq : (q + 1).toNat ≤ u.length := by simp at hc; omega
        rw [List.drop_append_of_le_length hq]
        simp
      rw [hne]; rfl
theorem M10c (t : List Nat) : dec (t.filter (· != 49)) = none := by
  rw [dec_after]
  split
  · rfl
  · unfold afterB
    have hn : 49 ∉ (t.filter (· != 49)).map lo1 := fun hm => by
      obtain ⟨x, hx, e⟩ := List.mem_map.mp hm
      have hx2 := (List.mem_filter.mp hx).2
      have : x ≠ 49 := by simpa using hx2
      unfold lo1 at e
      split at e <;> omega
    simp only [rfind_none hn]
    rw [if_pos (by omega)]
theorem M10d (hh : h ∈ headN) {m : List Nat} {k : Nat} : dec ((encT h m k).take (h.length + 2) ++ [81] ++ (encT h m k).drop (h.length + 2)) = none := by
  rw [dec_after, if_pos]
  generalize hl : (encT h m k).take (h.length + 2) ++ [81] ++ (encT h m k).drop (h.length + 2) = l
  have h81 : 81 ∈ l := by rw [← hl]; simp
  have h98 : ∃ c ∈ l, 97 ≤ c ∧ c ≤ 122 := by
    have : ∀ h ∈ headN, ∃ c, h.head? = some c ∧ 97 ≤ c ∧ c ≤ 122 := by decide
    obtain ⟨c, hc, hr⟩ := this h hh
    refine ⟨c, ?_, hr⟩
    rw [← hl]
    cases h with
    | nil => cases hc
    | cons a r =>
      simp at hc
      subst hc
      simp [encT]
  obtain ⟨c, hc, hr⟩ := h98
  have n1 : l.map lo1 ≠ l := fun e => by
    have : ∀ x ∈ l, lo1 x = x := by
      have := List.map_inj_left (f := lo1) (g := id) (l := l)
      simpa [e] using this.mp (by rw [e]; simp)
    have := this 81 h81
    revert this; decide
  have n2 : l.map up1 ≠ l := fun e => by
    have : ∀ x ∈ l, up1 x = x := by
      have := List.map_inj_left (f := up1) (g := id) (l := l)
      simpa [e] using this.mp (by rw [e]; simp)
    have := this c hc
    unfold up1 at this
    rw [if_pos hr] at this; omega
  unfold decBad
  rw [decide_eq_true n1, decide_eq_true n2]
  simp
theorem M11 : decode h [] = none := by
  unfold decode
  have : dec [] = none := by
    rw [dec_after]
    split
    · rfl
    · unfold afterB
      have hn : 49 ∉ ([] : List Nat).map lo1 := by simp
      simp only [rfind_none hn]
      rw [if_pos (by omega)]
  rw [this]
end
end Mine

-- MD
namespace Mine

/-- the places of the turned signs -/
def place (f : Nat) (h t : List Nat) (k : Nat) : Nat :=
  let behind := h.length + 2
  let many := t.length - behind
  let wide := (many - 2) / 2
  let far := [0, 1 + f / 17 % wide, 2 + f / 17 % wide + f / 19 % wide]
  behind + (f / 11 + far[k]?.getD 0) % many
def turn (f : Nat) (h t : List Nat) (u : List Nat) (k : Nat) : List Nat :=
  u.take (place f h t k) ++ [cs ((ci (t[place f h t k]?.getD 0) + 1 + (f / 13 + k) % 31) % 32)] ++ u.drop (place f h t k + 1)
def turned (f : Nat) (h t : List Nat) : List Nat := (List.range (1 + f / 23 % 3)).foldl (turn f h t) t

/-- one sign of a word set anew -/
def upd (s : List Nat) (i y : Nat) : List Nat := s.take i ++ [y] ++ s.drop (i + 1)
theorem upd_len {s : List Nat} {i y : Nat} (h : i < s.length) : (upd s i y).length = s.length := by simp [upd]; omega
theorem upd_get {s : List Nat} {i j y : Nat} (h : i < s.length) (hj : j ≠ i) : (upd s i y)[j]? = s[j]? := by
  unfold upd
  rcases Nat.lt_or_gt_of_ne hj with hlt | hgt
  · rw [List.append_assoc, List.getElem?_append_left (by simp; omega), List.getElem?_take, if_pos hlt]
  · rw [List.getElem?_append_right (by simp; omega), List.getElem?_drop]
    congr 1
    simp; omega
theorem upd_lt {s : List Nat} {i y : Nat} (hs : ∀ x ∈ s, x < 32) (hy : y < 32) : ∀ x ∈ upd s i y, x < 32 := fun x hx => by
  rcases List.mem_append.mp hx with hx | hx
  · rcases List.mem_append.mp hx with hx | hx
    · exact hs x (List.mem_of_mem_take hx)
    · rw [List.mem_singleton.mp hx]; exact hy
  · exact hs x (List.mem_of_mem_drop hx)
theorem pmod_upd {pre s : List Nat} {i x y : Nat} (h : s[i]? = some x) : pmod (pre ++ upd s i y) = pmod (pre ++ s) ^^^ An (s.length - 1 - i) (x ^^^ y) := by
  obtain ⟨hl, hx⟩ := List.getElem?_eq_some_iff.mp h
  have e : s = s.take i ++ [x] ++ s.drop (i + 1) := by
    rw [← hx, List.append_assoc, List.singleton_append, List.getElem_cons_drop, List.take_append_drop]
  have := pmod_sub (pre ++ s.take i) (s.drop (i + 1)) x y
  have e1 : pre ++ upd s i y = pre ++ s.take i ++ [y] ++ s.drop (i + 1) := by simp [upd]
  have e2 : pre ++ s = pre ++ s.take i ++ [x] ++ s.drop (i + 1) := by
    conv => lhs; rw [e]
    simp
  rw [e1, this, ← e2, List.length_drop]
  congr 2; omega
theorem turn_txt {f : Nat} {h s u : List Nat} {k pos : Nat} (hp : place f h (txt h s) k = h.length + 1 + pos) (hs : ∀ x ∈ s, x < 32) (hlt : pos < s.length) :
    turn f h (txt h s) (txt h u) k = txt h (upd u pos ((s[pos]?.getD 0 + 1 + (f / 13 + k) % 31) % 32)) := by
  unfold turn
  rw [hp]
  have hg : (txt h s)[h.length + 1 + pos]? = some (cs (s[pos]?.getD 0)) := by
    unfold txt
    rw [List.getElem?_append_right (by simp)]
    have : h.length + 1 + pos - (h ++ [49]).length = pos := by simp
    rw [this, List.getElem?_map, List.getElem?_eq_getElem hlt]
    rfl
  have h32 : s[pos]?.getD 0 < 32 := by
    rw [List.getElem?_eq_getElem hlt]; exact hs _ (List.getElem_mem hlt)
  rw [hg]
  simp only [Option.getD_some, ci_cs _ h32]
  generalize (s[pos]?.getD 0 + 1 + (f / 13 + k) % 31) % 32 = y
  have hl : (h ++ [49]).length = h.length + 1 := by simp
  have t1 : (txt h u).take (h.length + 1 + pos) = h ++ [49] ++ (u.map cs).take pos := by
    unfold txt
    rw [← hl, List.take_length_add_append]
  have t2 : (txt h u).drop (h.length + 1 + pos + 1) = (u.map cs).drop (pos + 1) := by
    unfold txt
    rw [show h.length + 1 + pos + 1 = (h ++ [49]).length + (pos + 1) by rw [hl]; omega, List.drop_length_add_append]
  rw [t1, t2]
  unfold txt upd
  simp

theorem mod_apart {F a b m : Nat} (hab : a < b) (hb : b < m) : (F + a) % m ≠ (F + b) % m := fun e => by
  have := Nat.sub_mod_eq_zero_of_mod_eq e.symm
  rw [show F + b - (F + a) = b - a by omega, Nat.mod_eq_of_lt (by omega)] at this
  omega
theorem faults3 {j j' j'' e e' e'' : Nat} (n1 : j ≠ j') (n2 : j ≠ j'') (n3 : j' ≠ j'') (b1 : j ≤ 37) (b2 : j' ≤ 37) (b3 : j'' ≤ 37) (e1 : 1 ≤ e) (e2 : e < 32) (e1' : 1 ≤ e') (e2' : e' < 32) (e1'' : 1 ≤ e'') (e2'' : e'' < 32) : An j e ^^^ An j' e' ^^^ An j'' e'' ≠ 0 := by
  rcases Nat.lt_or_gt_of_ne n1 with h1 | h1 <;> rcases Nat.lt_or_gt_of_ne n2 with h2 | h2 <;> rcases Nat.lt_or_gt_of_ne n3 with h3 | h3
  · exact three_faults h1 h3 b3 e1 e2 e1' e2' e1'' e2''
  · intro h; exact three_faults h2 h3 b2 e1 e2 e1'' e2'' e1' e2' (by rw [← h]; ac_rfl)
  · omega
  · intro h; exact three_faults h2 h1 b2 e1'' e2'' e1 e2 e1' e2' (by rw [← h]; ac_rfl)
  · intro h; exact three_faults h1 h2 b3 e1' e2' e1 e2 e1'' e2'' (by rw [← h]; ac_rfl)
  · omega
  · intro h; exact three_faults h3 h2 b1 e1' e2' e1'' e2'' e1 e2 (by rw [← h]; ac_rfl)
  · intro h; exact three_faults h3 h1 b1 e1'' e2'' e1' e2' e1 e2 (by rw [← h]; ac_rfl)
theorem faults2 {j j' e e' : Nat} (n1 : j ≠ j') (b1 : j ≤ 37) (b2 : j' ≤ 37) (e1 : 1 ≤ e) (e2 : e < 32) (e1' : 1 ≤ e') (e2' : e' < 32) : An j e ^^^ An j' e' ≠ 0 := by
  rcases Nat.lt_or_gt_of_ne n1 with h1 | h1
  · exact two_faults h1 b2 e1 e2 e1' e2'
  · intro h; exact two_faults h1 b1 e1' e2' e1 e2 (by rw [← h]; ac_rfl)
theorem new_ne {x r : Nat} (hx : x < 32) (hr : r < 31) : 1 ≤ x ^^^ ((x + 1 + r) % 32) ∧ x ^^^ ((x + 1 + r) % 32) < 32 := by
  constructor
  · have : x ^^^ ((x + 1 + r) % 32) ≠ 0 := fun h => by
      have := xor_z h
      omega
    omega
  · exact Nat.xor_lt_two_pow (n := 5) hx (Nat.mod_lt _ (by decide))

/-- what a turned word is: another word, one to three signs away, its first sign as it was -/
theorem turned_word (f : Nat) {h s : List Nat} (hh : h ∈ headN) (hs : ∀ x ∈ s, x < 32) (hlo : 7 ≤ s.length) (hhi : s.length ≤ 39) :
    ∃ s', turned f h (txt h s) = txt h s' ∧ (∀ x ∈ s', x < 32) ∧ s'.length = s.length ∧ s'[0]? = s[0]? ∧ pmod (hrpx h ++ s') ≠ pmod (hrpx h ++ s) := by
  have htl : (txt h s).length = h.length + 1 + s.length := by simp [txt]; omega
  generalize hmany : s.length - 1 = many at *
  have hm2 : (txt h s).length - (h.length + 2) = many := by omega
  generalize hw : (many - 2) / 2 = w
  have hw0 : 0 < w := by omega
  generalize hA : f / 17 % w = a
  generalize hB : f / 19 % w = b
  have ha : a < w := by rw [← hA]; exact Nat.mod_lt _ hw0
  have hb : b < w := by rw [← hB]; exact Nat.mod_lt _ hw0
  let pos (k : Nat) : Nat := 1 + (f / 11 + [0, 1 + a, 2 + a + b][k]?.getD 0) % many
  have hplace : ∀ k, place f h (txt h s) k = h.length + 1 + pos k := fun k => by
    unfold place
    simp only [hm2, hw, hA, hB]
    show h.length + 2 + _ = h.length + 1 + (1 + _)
    omega
  have hpos : ∀ k, 1 ≤ pos k ∧ pos k < s.length := fun k => by
    have := Nat.mod_lt (f / 11 + [0, 1 + a, 2 + a + b][k]?.getD 0) (show 0 < many by omega)
    show 1 ≤ 1 + _ ∧ 1 + _ < s.length
    omega
  have p01 : pos 0 ≠ pos 1 := fun e => by
    have e' : 1 + (f / 11 + 0) % many = 1 + (f / 11 + (1 + a)) % many := e
    exact mod_apart (F := f / 11) (a := 0) (b := 1 + a) (m := many) (by omega) (by omega) (by omega)
  have p02 : pos 0 ≠ pos 2 := fun e => by
    have e' : 1 + (f / 11 + 0) % many = 1 + (f / 11 + (2 + a + b)) % many := e
    exact mod_apart (F := f / 11) (a := 0) (b := 2 + a + b) (m := many) (by omega) (by omega) (by omega)
  have p12 : pos 1 ≠ pos 2 := fun e => by
    have e' : 1 + (f / 11 + (1 + a)) % many = 1 + (f / 11 + (2 + a + b)) % many := e
    exact mod_apart (F := f / 11) (a := 1 + a) (b := 2 + a + b) (m := many) (by omega) (by omega) (by omega)
  let val (k : Nat) : Nat := (s[pos k]?.getD 0 + 1 + (f / 13 + k) % 31) % 32
  have hturn : ∀ u k, turn f h (txt h s) (txt h u) k = txt h (upd u (pos k) (val k)) := fun u k => turn_txt (hplace k) hs (hpos k).2
  have hval : ∀ k, val k < 32 := fun k => Nat.mod_lt _ (by decide)
  have hx : ∀ k, s[pos k]? = some (s[pos k]?.getD 0) := fun k => get_some (hpos k).2
  have hx32 : ∀ k, s[pos k]?.getD 0 < 32 := fun k => by
    rw [List.getElem?_eq_getElem (hpos k).2]; exact hs _ (List.getElem_mem _)
  have hne : ∀ k, 1 ≤ s[pos k]?.getD 0 ^^^ val k ∧ s[pos k]?.getD 0 ^^^ val k < 32 := fun k => new_ne (hx32 k) (Nat.mod_lt _ (by decide))
  have hj : ∀ k, s.length - 1 - pos k ≤ 37 := fun k => by have := hpos k; omega
  generalize hpre : hrpx h = pre
  have key : ∀ {z e : Nat}, e ≠ 0 → z ^^^ e ≠ z := fun {z e} he h2 => he (by
    have : z ^^^ (z ^^^ e) = z ^^^ z := by rw [h2]
    rwa [← Nat.xor_assoc, Nat.xor_self, Nat.zero_xor] at this)
  -- one sign
  have l1 := upd_len (y := val 0) (hpos 0).2
  have q1 := pmod_upd (pre := pre) (y := val 0) (hx 0)
  -- two signs
  have g1 : (upd s (pos 0) (val 0))[pos 1]? = some (s[pos 1]?.getD 0) := by rw [upd_get (hpos 0).2 (Ne.symm p01)]; exact hx 1
  have l2 : (upd (upd s (pos 0) (val 0)) (pos 1) (val 1)).length = s.length := by rw [upd_len (by rw [l1]; exact (hpos 1).2), l1]
  have q2 := pmod_upd (pre := pre) (y := val 1) g1
  rw [l1, q1] at q2
  -- three signs
  have g2 : (upd (upd s (pos 0) (val 0)) (pos 1) (val 1))[pos 2]? = some (s[pos 2]?.getD 0) := by
    rw [upd_get (by rw [l1]; exact (hpos 1).2) (Ne.symm p12), upd_get (hpos 0).2 (Ne.symm p02)]; exact hx 2
  have l3 : (upd (upd (upd s (pos 0) (val 0)) (pos 1) (val 1)) (pos 2) (val 2)).length = s.length := by rw [upd_len (by rw [l2]; exact (hpos 2).2), l2]
  have q3 := pmod_upd (pre := pre) (y := val 2) g2
  rw [l2, q2] at q3
  have z1 : (upd s (pos 0) (val 0))[0]? = s[0]? := upd_get (hpos 0).2 (by have := (hpos 0).1; omega)
  have z2 : (upd (upd s (pos 0) (val 0)) (pos 1) (val 1))[0]? = s[0]? := by rw [upd_get (by rw [l1]; exact (hpos 1).2) (by have := (hpos 1).1; omega), z1]
  have z3 : (upd (upd (upd s (pos 0) (val 0)) (pos 1) (val 1)) (pos 2) (val 2))[0]? = s[0]? := by rw [upd_get (by rw [l2]; exact (hpos 2).2) (by have := (hpos 2).1; omega), z2]
  have t1 := upd_lt (i := pos 0) hs (hval 0)
  have t2 := upd_lt (i := pos 1) t1 (hval 1)
  have t3 := upd_lt (i := pos 2) t2 (hval 2)
  have d01 : s.length - 1 - pos 0 ≠ s.length - 1 - pos 1 := by have := hpos 0; have := hpos 1; omega
  have d02 : s.length - 1 - pos 0 ≠ s.length - 1 - pos 2 := by have := hpos 0; have := hpos 2; omega
  have d12 : s.length - 1 - pos 1 ≠ s.length - 1 - pos 2 := by have := hpos 1; have := hpos 2; omega
  have hn : f / 23 % 3 = 0 ∨ f / 23 % 3 = 1 ∨ f / 23 % 3 = 2 := by omega
  unfold turned
  rcases hn with hn | hn | hn <;> rw [hn]
  · refine ⟨_, ?_, t1, l1, z1, ?_⟩
    · show turn f h (txt h s) (txt h s) 0 = _
      exact hturn s 0
    · rw [q1]
      exact key (one_fault (hne 0).1 (hne 0).2)
  · refine ⟨_, ?_, t2, l2, z2, ?_⟩
    · show turn f h (txt h s) (turn f h (txt h s) (txt h s) 0) 1 = _
      rw [hturn, hturn]
    · rw [q2, Nat.xor_assoc]
      exact key (faults2 d01 (hj 0) (hj 1) (hne 0).1 (hne 0).2 (hne 1).1 (hne 1).2)
  · refine ⟨_, ?_, t3, l3, z3, ?_⟩
    · show turn f h (txt h s) (turn f h (txt h s) (turn f h (txt h s) (txt h s) 0) 1) 2 = _
      rw [hturn, hturn, hturn]
    · rw [q3, Nat.xor_assoc, Nat.xor_assoc, ← Nat.xor_assoc (An _ _) (An _ _) (An _ _)]
      exact key (faults3 d01 d02 d12 (hj 0) (hj 1) (hj 2) (hne 0).1 (hne 0).2 (hne 1).1 (hne 1).2 (hne 2).1 (hne 2).2)

section
variable {h p : List Nat} {v : Nat}
theorem turned_dec (f : Nat) (hh : h ∈ headN) (hp : ∀ x ∈ p, x < 256) (hl : p.length ≤ 20) (hv : v ≤ 16) :
    dec (turned f h (encT h (v :: lfives p) (kon v))) = none ∨ ∃ e d, dec (turned f h (encT h (v :: lfives p) (kon v))) = some (e, h, d) ∧ d[0]? = some v ∧ e ≠ if v = 0 then 1 else 2 := by
  have hlen := codeW_len h p v (kon v)
  have h4 := (head_ok h hh).2.1
  rw [encT_txt]
  obtain ⟨s', e1, e2, e3, e4, e5⟩ := turned_word f hh (codeW_lt (h := h) (p := p) hv (kon v)) (by omega) (by omega)
  rw [e1, dec_txt hh e2 (by omega) (by omega)]
  have hk : pmod (hrpx h ++ codeW h p v (kon v)) = kon v := by
    unfold codeW
    exact pmod_chks h _ (by rcases kon_ok v with h | h <;> rw [h] <;> decide)
  rw [hk] at e5
  cases hvf : verif h s' with
  | none => exact .inl rfl
  | some e =>
    refine .inr ⟨e, _, rfl, ?_, ?_⟩
    · rw [List.getElem?_take, if_pos (by omega), e4]
      rfl
    · intro he
      apply e5
      unfold verif at hvf
      simp only at hvf
      unfold kon
      split at hvf
      · rename_i h1
        cases hvf
        by_cases hz : v = 0
        · rw [if_pos hz, h1]
        · rw [if_neg hz] at he; omega
      · split at hvf
        · rename_i h2
          cases hvf
          by_cases hz : v = 0
          · rw [if_pos hz] at he; omega
          · rw [if_neg hz, h2]
        · cases hvf
theorem M9 (f : Nat) (hh : h ∈ headN) (hp : ∀ x ∈ p, x < 256) (hl : p.length ≤ 20) (hv : v ≤ 16) : decode h (turned f h (encT h (v :: lfives p) (kon v))) = none := by
  unfold decode
  rcases turned_dec f hh hp hl hv with h0 | ⟨e, d, h0, hd, he⟩
  · rw [h0]
  · rw [h0]
    simp only
    rw [if_neg (by simp)]
    cases conv 5 8 false (d.drop 1) with
    | none => rfl
    | some m => rw [hd]; exact fin_off he m
theorem M9b (f : Nat) (hh : h ∈ headN) (hp : ∀ x ∈ p, x < 256) (hl : p.length ≤ 20) (hv : v ≤ 16) : ∀ e a b, dec (turned f h (encT h (v :: lfives p) (kon v))) = some (e, a, b) → e ≠ if v = 0 then 1 else 2 := by
  intro e a b h1
  rcases turned_dec f hh hp hl hv with h0 | ⟨e', d, h0, hd, he⟩
  · rw [h0] at h1; cases h1
  · rw [h0] at h1; cases h1; exact he
end
end Mine

-- L1
namespace Mine

section
variable {X : Cx} {F : Fx} {q : Bool} {g g' : List (PySem.Str × D)} {e l r : Expr} {d a b c : D} {pos : Pos} {es : List Expr} {ds : List D} {o : Out}

mutual
theorem eqv_refl : ∀ d : D, d.lay = true → PyData.eqv d.py d.py = true
  | .none, _ => by simp [D.py, PyData.eqv]
  | .bool _, _ => by simp [D.py, PyData.eqv]
  | .int _, _ => by simp [D.py, PyData.eqv]
  | .str x, h => by simp [D.py, PyData.eqv]
  | .ints l, h => by
    simp only [D.py, PyData.eqv]
    clear h
    induction l with
    | nil => rfl
    | cons a l ih => simp only [List.map_cons, PyData.eqvAll, PyData.eqv, beq_self_eq_true, Bool.true_and]; exact ih
  | .mine l, h => by
    simp only [D.py, PyData.eqv]
    clear h
    induction l with
    | nil => rfl
    | cons a l ih => simp only [List.map_cons, PyData.eqvAll, PyData.eqv, beq_self_eq_true, Bool.true_and]; exact ih
  | .strs l, h => by
    simp only [D.py, PyData.eqv]
    clear h
    induction l with
    | nil => rfl
    | cons a l ih => simp only [List.map_cons, PyData.eqvAll, PyData.eqv, beq_self_eq_true, Bool.true_and]; exact ih
  | .rng _, h => by simp [D.lay] at h
  | .tup ds, h => by
    simp only [D.py, PyData.eqv]
    exact eqv_reflAll ds (by simpa [D.lay] using h)
theorem eqv_reflAll : ∀ ds : List D, D.layAll ds = true → PyData.eqvAll (D.pyAll ds) (D.pyAll ds) = true
  | [], _ => by simp [D.pyAll, PyData.eqvAll]
  | d :: ds, h => by
    simp only [D.layAll, Bool.and_eq_true] at h
    simp [D.pyAll, PyData.eqvAll, eqv_refl d h.1, eqv_reflAll ds h.2]
end

theorem cop_ne_self (h : d.lay = true) (hd : d.py.depth ≤ 15) : Cop X F .NotEq d d (.bool false) := by
  have := cop_ne (X := X) (F := F) h h (Nat.le_trans (Nat.min_le_left _ _) hd)
  rwa [eqv_refl d h] at this
theorem depth_ints (l : List Int) : PyData.depthAll (l.map .int) = 0 := by
  induction l with
  | nil => simp [PyData.depthAll]
  | cons a l ih => simp [PyData.depthAll, PyData.depth, ih]
theorem strOk_lt {l : List Nat} (h : ∀ c ∈ l, c < 128) : PyData.strOk (mkS l) = true := by
  simp only [PyData.strOk, List.all_toArray, List.all_eq_true, decide_eq_true_eq]
  intro c hc; have := h c hc; omega
theorem ne_pair (x : Option (Nat × List Nat)) : Cop X F .NotEq (pairD x) (pairD x) (.bool false) :=
  cop_ne_self (by cases x <;> rfl) (by cases x <;> simp [pairD, D.py, D.pyAll, PyData.depth, PyData.depthAll, depth_ints])
theorem ne_optD (x : Option (List Nat)) : Cop X F .NotEq (optD x) (optD x) (.bool false) :=
  cop_ne_self (by cases x <;> rfl) (by cases x <;> simp [optD, D.py, PyData.depth, depth_ints])
theorem ne_optT (x : Option (List Nat)) (h : ∀ l, x = some l → ∀ c ∈ l, c < 128) : Cop X F .NotEq (optT x) (optT x) (.bool false) :=
  cop_ne_self (by cases x with | none => rfl | some l => exact strOk_lt (h l rfl)) (by cases x <;> simp [optT, D.py, PyData.depth])
theorem ne_dec0 : Cop X F .NotEq (decD none) (decD none) (.bool false) := cop_ne_self rfl (by decide)

theorem EVp.to {d' : D} (h : EVp X F q g e d) (e' : d = d') : EVp X F q g e d' := e' ▸ h
theorem EVq.to {d' : D} (h : EVq X F q g e d) (e' : d = d') : EVq X F q g e d' := e' ▸ h
theorem fn_range1 {n : Nat} (h : n ≤ 100000) : Fop X F q (.type "range") [.nat n] (.rng (rngL 0 1 n)) := by
  have hsize : Builtin.Range.rangeSize 0 (n : Int) 1 = (n : Int) := by
    unfold Builtin.Range.rangeSize
    rw [if_pos (by omega)]
    split
    · omega
    · omega
  refine fop_range1 hsize ?_
  unfold Builtin.Range.small
  rw [hsize, if_pos (by omega)]
  simp [Builtin.Range.rangeFitsLong]
  omega

-- the last rows: strange texts
theorem lawC (K : Df X F 111 5) (hc61 : X.c = 61) {h m : List Nat} {k : Nat} (hh : h ∈ headN) (hm : m.length ≤ 100) (hml : ∀ x ∈ m, x < 32) :
    SX X F [("text", .txt (encT h m k)), ("behind", .nat (h.length + 2)), ("head", .txt h)] ((bodyAt X.w.params 111).drop 27) (.ret (.bool true)) := by
  have hhl : h.length ≤ 4 ∧ ∀ c ∈ h, c < 128 := by
    have : ∀ h ∈ headN, h.length ≤ 4 ∧ ∀ c ∈ h, c < 128 := by decide
    exact this h hh
  have hasc : ∀ c ∈ encT h m k, c < 128 := fun c hc => by
    unfold encT at hc
    rcases List.mem_append.mp hc with hc | hc
    · rcases List.mem_append.mp hc with hc | hc
      · exact hhl.2 c hc
      · rw [List.mem_singleton.mp hc]; decide
    · obtain ⟨x, _, rfl⟩ := List.mem_map.mp hc; exact cs_lt x
  have hlen : (encT h m k).length ≤ 200 := by have := hhl.1; simp [encT, chks]; omega
  have hlen2 : 1 ≤ (encT h m k).length := by simp [encT]; omega
  have hd := M10d (k := k) (m := m) hh
  generalize encT h m k = t at *
  refine sx_cons (g' := [("head", .txt h)]) (s1_for (d := .tup [.txt (t.take (t.length - 1) ++ [98]), .txt (t ++ [32]), .txt (t.filter (· != 49)), .txt (t.take (h.length + 2) ++ [81] ++ t.drop (h.length + 2))])
    (ev_tup (evs_cons ?e1 (evs_pq ?e2 ?e3 (evs_cons ?e4 evs_nil))) rfl (by simp)) (.tup _ rfl) (K.L rfl) ?loop (fun _ => rfl) fun _ _ => rfl) ?rest
  case e1 =>
    exact ev_bin (ev_sliceT (i := none) (j := some (-1)) (ev_local rfl (K.k rfl) rfl) trivial (show EV X F false _ _ _ from ev_neg ev_int) (by omega) (by rw [show (-1 : Int) = -((1 : Nat) : Int) from rfl, cut_end _ (by decide)])) (EV.to (d := .str "b") (d' := .txt [98]) ev_str rfl) (bn_addT (by simp; omega))
  case e2 =>
    exact EVp.to (evp_addconst (x := mkS t) (y := mkS [32]) (ev_local rfl (K.k rfl) rfl) (by simp [PySem.Str.length]; omega)) (congrArg D.str (by show PySem.Str.mk (t.toArray ++ [32].toArray) = _; simp))
  case e3 =>
    refine EVq.to (evq_replace (x := mkS t) (y := mkS [49]) (z := mkS []) (ev_local rfl (K.k rfl) rfl) (fun _ => trivial) (by decide) (by simp [PySem.Str.length]; omega) rfl rfl (name_still rfl (K.k rfl) rfl)) (congrArg D.str ?_)
    have := replace_strikes (mkS t) 49
    have e2 : (Txt.replace (mkS t) (mkS [49]) (mkS [])).cps = (t.filter (· != 49)).toArray := by
      apply Array.toList_inj.mp
      exact this.trans (by simp)
    exact congrArg PySem.Str.mk e2
  case e4 =>
    exact ev_bin (ev_bin (ev_sliceT (i := none) (j := some ((h.length + 2 : Nat) : Int)) (ev_local rfl (K.k rfl) rfl) trivial (show EV X F false _ _ _ from ev_local rfl (K.k rfl) rfl) (by omega) (by rw [cut_take _ (by omega), Int.toNat_natCast])) (EV.to (d := .str "Q") (d' := .txt [81]) ev_str rfl) (bn_addT (by simp; omega)))
      (ev_sliceT (i := some ((h.length + 2 : Nat) : Int)) (j := none) (ev_local rfl (K.k rfl) rfl) (show EV X F false _ _ _ from ev_local rfl (K.k rfl) rfl) trivial (by omega) (by rw [cut_drop _ (by omega), Int.toNat_natCast])) (bn_addT (by simp; omega))
  case loop =>
    have st : ∀ {u : List Nat}, (∀ x ∈ u, x ∈ t) → ∀ x ∈ u, x < 128 := fun h x hx => hasc x (h x hx)
    refine .cons (g1 := [("head", .txt h)]) ?_ (.cons (g1 := [("head", .txt h)]) ?_ (.cons (g1 := [("head", .txt h)]) ?_ (.cons (g1 := [("head", .txt h)]) ?_ (.nil fun _ _ h => h))))
    · refine sx_cons (g' := [("head", .txt h)]) (s1_if (c := false) (tv_cmp (EV.to (ev_call_f rfl (K.k rfl) (K.some (v := .ref 62) rfl) (K.gd.T.K 62 _ rfl) rfl (evs_cons (ev_local rfl (K.k rfl) rfl) evs_nil) rfl (by simp) (dec_fop K.gd K.ok hc61 K.own (by have := K.lv; omega) (t.take (t.length - 1) ++ [98]) (by simp; omega) ?_)) (by rw [M10a])) ev_none3 ne_dec0 rfl) (fun h => by cases h) fun _ => sx_end (sub_cons rfl sub_nil)) sx_nil
      intro c hc
      rcases List.mem_append.mp hc with hc | hc
      · exact hasc c (List.mem_of_mem_take hc)
      · rw [List.mem_singleton.mp hc]; decide
    · refine sx_cons (g' := [("head", .txt h)]) (s1_if (c := false) (tv_cmp (EV.to (ev_call_f rfl (K.k rfl) (K.some (v := .ref 62) rfl) (K.gd.T.K 62 _ rfl) rfl (evs_cons (ev_local rfl (K.k rfl) rfl) evs_nil) rfl (by simp) (dec_fop K.gd K.ok hc61 K.own (by have := K.lv; omega) (t ++ [32]) (by simp; omega) ?_)) (by rw [M10b])) ev_none3 ne_dec0 rfl) (fun h => by cases h) fun _ => sx_end (sub_cons rfl sub_nil)) sx_nil
      intro c hc
      rcases List.mem_append.mp hc with hc | hc
      · exact hasc c hc
      · rw [List.mem_singleton.mp hc]; decide
    · refine sx_cons (g' := [("head", .txt h)]) (s1_if (c := false) (tv_cmp (EV.to (ev_call_f rfl (K.k rfl) (K.some (v := .ref 62) rfl) (K.gd.T.K 62 _ rfl) rfl (evs_cons (ev_local rfl (K.k rfl) rfl) evs_nil) rfl (by simp) (dec_fop K.gd K.ok hc61 K.own (by have := K.lv; omega) (t.filter (· != 49)) (Nat.le_trans (List.length_filter_le _ _) (by omega)) ?_)) (by rw [M10c])) ev_none3 ne_dec0 rfl) (fun h => by cases h) fun _ => sx_end (sub_cons rfl sub_nil)) sx_nil
      exact fun c hc => hasc c (List.mem_filter.mp hc).1
    · refine sx_cons (g' := [("head", .txt h)]) (s1_if (c := false) (tv_cmp (EV.to (ev_call_f rfl (K.k rfl) (K.some (v := .ref 62) rfl) (K.gd.T.K 62 _ rfl) rfl (evs_cons (ev_local rfl (K.k rfl) rfl) evs_nil) rfl (by simp) (dec_fop K.gd K.ok hc61 K.own (by have := K.lv; omega) (t.take (h.length + 2) ++ [81] ++ t.drop (h.length + 2)) (by simp; omega) ?_)) (by rw [hd])) ev_none3 ne_dec0 rfl) (fun h => by cases h) fun _ => sx_end (sub_cons rfl sub_nil)) sx_nil
      intro c hc
      rcases List.mem_append.mp hc with hc | hc
      · rcases List.mem_append.mp hc with hc | hc
        · exact hasc c (List.mem_of_mem_take hc)
        · rw [List.mem_singleton.mp hc]; decide
      · exact hasc c (List.mem_of_mem_drop hc)
  case rest =>
    refine sx_ret (s1_return (EV.to (ev_cmp (ev_call_f rfl (K.k rfl) (K.some (v := .ref 77) rfl) (K.gd.T.K 77 _ rfl) rfl (evs_cons (ev_local rfl (K.k rfl) rfl) (evs_cons (EV.to (d := .str "") (d' := .txt []) ev_str rfl) evs_nil)) rfl (by simp) (decode_fop K.gd K.ok hc61 K.own (by have := K.lv; omega) h [] (by simp) (by omega) (by simp))) ev_none2 cop_pair_none rfl) ?_))
    rw [M11]; rfl
end
end Mine

-- L2
namespace Mine

theorem cs_mem {n : Nat} (h : n < 32) : cs n ∈ csl := List.mem_of_getElem? (cs_get h)
theorem encT_len (h m : List Nat) (k : Nat) : (encT h m k).length = h.length + 1 + (m.length + 6) := by simp [encT, chks]; omega
theorem encT_get {h m : List Nat} {k i : Nat} (hml : ∀ x ∈ m, x < 32) (h1 : h.length + 1 ≤ i) (h2 : i < (encT h m k).length) : ∃ c ∈ csl, (encT h m k)[i]? = some c := by
  unfold encT at h2 ⊢
  rw [List.getElem?_append_right (by simp; omega)]
  have hlt : i - (h ++ [49]).length < ((m ++ chks h m k).map cs).length := by
    rw [List.length_append] at h2
    simp at h2 ⊢; omega
  rw [List.getElem?_eq_getElem hlt]
  refine ⟨_, ?_, rfl⟩
  rw [List.getElem_map]
  refine cs_mem ?_
  have hlt' : i - (h ++ [49]).length < (m ++ chks h m k).length := by simpa using hlt
  have hmem := List.getElem_mem hlt'
  rcases List.mem_append.mp hmem with hx | hx
  · exact hml _ hx
  · exact chks_lt _ hx
theorem encT_ascii {h m : List Nat} {k : Nat} (hh : h ∈ headN) : ∀ c ∈ encT h m k, c < 128 := fun c hc => by
  have hhl : ∀ h ∈ headN, ∀ c ∈ h, c < 128 := by decide
  unfold encT at hc
  rcases List.mem_append.mp hc with hc | hc
  · rcases List.mem_append.mp hc with hc | hc
    · exact hhl h hh c hc
    · rw [List.mem_singleton.mp hc]; decide
  · obtain ⟨x, _, rfl⟩ := List.mem_map.mp hc; exact cs_lt x
theorem idx_ci {c : Nat} (h : c ∈ csl) : ∃ rest, Builtin.Str.occurrences (mkS csl) (mkS [c]) 0 (mkS csl).length 1 = ci c :: rest := by
  have hf := find_ci h
  unfold Txt.find at hf
  cases ho : Builtin.Str.occurrences (mkS csl) (mkS [c]) 0 (mkS csl).length 1 with
  | nil => rw [ho] at hf; simp only at hf; omega
  | cons i rest =>
    rw [ho] at hf
    simp only at hf
    have : i = ci c := by omega
    exact ⟨rest, by rw [this]⟩

section
variable {X : Cx} {F : Fx} {q : Bool} {g g' : List (PySem.Str × D)} {e l r : Expr} {d a b c : D} {pos : Pos} {es : List Expr} {ds : List D} {o : Out}

theorem cop_eq_none_nat {n : Nat} : Cop X F .Eq .none (.nat n) (.bool false) := fun s u v I _ hu hv E => by
  cases hu; cases hv; exact PySem.EqNone.eq_none_int ⟨.bool _, Rl.refl I⟩

theorem lawB (K : Df X F 111 5) (hc61 : X.c = 61) {h p : List Nat} {v f kd : Nat} (hh : h ∈ headN) (hp : ∀ x ∈ p, x < 256) (hl : p.length ≤ 41) (hv : v ≤ 16) (hkd : kd = 2 → p.length ≤ 20) :
    SX X F [("text", .txt (encT h (v :: lfives p) (kon v))), ("head", .txt h), ("first", .nat f), ("version", .nat v), ("kind", .nat kd)] ((bodyAt X.w.params 111).drop 19) (.ret (.bool true)) := by
  have hhl : h.length ≤ 4 := by
    have : ∀ h ∈ headN, h.length ≤ 4 := by decide
    exact this h hh
  have hml : ∀ x ∈ v :: lfives p, x < 32 := fun x hx => by
    rcases List.mem_cons.mp hx with rfl | hx
    · omega
    · exact M1lt x hx
  have hfl := M1len p
  have htl := encT_len h (v :: lfives p) (kon v)
  have hget := fun i => encT_get (h := h) (k := kon v) (i := i) hml
  have hasc := encT_ascii (m := v :: lfives p) (k := kon v) hh
  have h9 := fun hk : kd = 2 => M9 f hh hp (hkd hk) hv
  have h9b := fun hk : kd = 2 => M9b f hh hp (hkd hk) hv
  have hC := lawC K hc61 (k := kon v) (m := v :: lfives p) hh (by simp; omega) hml
  have hm1 : (v :: lfives p).length = (lfives p).length + 1 := by simp
  generalize encT h (v :: lfives p) (kon v) = t at *
  have ht7 : h.length + 2 + 6 ≤ t.length := by omega
  have ht200 : t.length ≤ 200 := by omega
  generalize hb : h.length + 2 = b at *
  have hbm : b ≤ t.length := by omega
  refine sx_cons (s1_assign (d := .nat b) (EV.to (ev_bin (ev_call_b rfl (K.k rfl) (K.none rfl) rfl (by decide) (evs_cons (ev_local rfl (K.k rfl) rfl) evs_nil) rfl (by simp) (fn_lenT (by omega))) (ev_nat (n := 2) rfl) bn_add) (by rw [hb])) (K.L rfl) rfl) ?_
  refine sx_cons (s1_assign (d := .nat (t.length - b)) (ev_bin (ev_call_b rfl (K.k rfl) (K.none rfl) rfl (by decide) (evs_cons (ev_local rfl (K.k rfl) rfl) evs_nil) rfl (by simp) (fn_lenT (by omega))) (ev_local rfl (K.k rfl) rfl) (bn_sub hbm)) (K.L rfl) rfl) ?_
  generalize hmany : t.length - b = many
  refine sx_cons (s1_assign (d := .nat ((many - 2) / 2)) (ev_bin (ev_bin (ev_local rfl (K.k rfl) rfl) (ev_nat (n := 2) rfl) (bn_sub (by omega))) (ev_nat (n := 2) rfl) (bn_div (by decide) (by decide))) (K.L rfl) rfl) ?_
  generalize hw : (many - 2) / 2 = w
  have hw0 : 0 < w := by omega
  refine sx_cons (s1_assign (d := .nats [0, 1 + f / 17 % w, 2 + f / 17 % w + f / 19 % w]) (ev_natsLit (l := [0, 1 + f / 17 % w, 2 + f / 17 % w + f / 19 % w]) (evs_cons ev_int (evs_cons (ev_bin (ev_nat (n := 1) rfl) (ev_bin (ev_bin (ev_local rfl (K.k rfl) rfl) (ev_nat (n := 17) rfl) (bn_div (by decide) (by decide))) (ev_local rfl (K.k rfl) rfl) (bn_mod hw0)) bn_add)
    (evs_cons (ev_bin (ev_bin (ev_nat (n := 2) rfl) (ev_bin (ev_bin (ev_local rfl (K.k rfl) rfl) (ev_nat (n := 17) rfl) (bn_div (by decide) (by decide))) (ev_local rfl (K.k rfl) rfl) (bn_mod hw0)) bn_add) (ev_bin (ev_bin (ev_local rfl (K.k rfl) rfl) (ev_nat (n := 19) rfl) (bn_div (by decide) (by decide))) (ev_local rfl (K.k rfl) rfl) (bn_mod hw0)) bn_add) evs_nil))) rfl (by simp)) (K.L rfl) rfl) ?_
  generalize hfar : [0, 1 + f / 17 % w, 2 + f / 17 % w + f / 19 % w] = far
  have hfl3 : far.length = 3 := by rw [← hfar]; rfl
  refine sx_cons (s1_assign (d := .txt csl) (EV.to (d := .str "qpzry9x8gf2tvdw0s3jn54khce6mua7l") ev_str rfl) (K.L rfl) rfl) ?_
  refine sx_cons (s1_assign (d := .txt t) (ev_local rfl (K.k rfl) rfl) (K.L rfl) rfl) ?_
  have hplace : ∀ k, place f h t k = b + (f / 11 + far[k]?.getD 0) % many := fun k => by
    unfold place; simp only [hb, hmany, hw, hfar]
  refine sx_cons (g' := [("turned", .txt (turned f h t)), ("text", .txt t), ("behind", .nat b), ("head", .txt h), ("version", .nat v), ("kind", .nat kd)]) (S1.post (s1_fold .nat (fun u => [("turned", .txt u), ("text", .txt t), ("behind", .nat b), ("first", .nat f), ("far", .nats far), ("many", .nat many), ("signs", .txt csl), ("head", .txt h), ("version", .nat v), ("kind", .nat kd)])
    (turn f h t) (fun u => u.length = t.length) t (List.range (1 + f / 23 % 3)) (ev_call_t rfl (K.k rfl) (K.none rfl) rfl (by decide) (evs_cons (ev_bin (ev_nat (n := 1) rfl) (ev_bin (ev_bin (ev_local rfl (K.k rfl) rfl) (ev_nat (n := 23) rfl) (bn_div (by decide) (by decide))) (ev_nat (n := 3) rfl) (bn_mod (by decide))) bn_add) evs_nil) rfl (by simp) (fn_range1 (by have := Nat.mod_lt (f / 23) (show 0 < 3 by decide); omega))) (items_range _) (K.L rfl)
    (sub_cons rfl (sub_cons rfl (sub_cons rfl (sub_cons rfl (sub_cons rfl (sub_cons rfl (sub_cons rfl (sub_cons rfl (sub_cons rfl (sub_cons rfl sub_nil)))))))))) rfl ?loop (fun _ => rfl) fun _ _ => rfl) (sub_cons rfl (sub_cons rfl (sub_cons rfl (sub_cons rfl (sub_cons rfl (sub_cons rfl sub_nil))))))) ?rest
  case loop =>
    intro u hu k hk
    have hk3 : k < 3 := by have := List.mem_range.mp hk; have := Nat.mod_lt (f / 23) (show 0 < 3 by decide); omega
    have hpl := hplace k
    have hpr : b ≤ place f h t k ∧ place f h t k < t.length := by
      have := Nat.mod_lt (f / 11 + far[k]?.getD 0) (show 0 < many by omega)
      rw [hpl]; omega
    obtain ⟨ch, hch, hget'⟩ := hget (place f h t k) (by omega) hpr.2
    have hturn : turn f h t u k = u.take (place f h t k) ++ [cs ((ci ch + 1 + (f / 13 + k) % 31) % 32)] ++ u.drop (place f h t k + 1) := by unfold turn; rw [hget']; rfl
    rw [hturn]
    generalize place f h t k = pl at *
    refine ⟨by simp; omega, ?_⟩
    refine sx_cons (s1_assign (d := .nat pl) (EV.to (ev_bin (ev_local rfl (K.k rfl) rfl) (ev_bin (ev_bin (ev_bin (ev_local rfl (K.k rfl) rfl) (ev_nat (n := 11) rfl) (bn_div (by decide) (by decide))) (ev_sub (ev_local rfl (K.k rfl) rfl) (ev_local rfl (K.k rfl) rfl) (gn_get (get_some (by omega)) (by omega)) getitem_list fun _ _ => rfl) bn_add) (ev_local rfl (K.k rfl) rfl) (bn_mod (by omega))) bn_add) (by rw [hpl])) (K.L rfl) rfl) ?_
    obtain ⟨rst, hoc⟩ := idx_ci hch
    refine sx_cons (s1_assign (d := .nat (ci ch)) (ev_index (x := mkS csl) (y := mkS [ch]) (ev_local rfl (K.k rfl) rfl) (ev_sub (T := "str") (ev_local rfl (K.k rfl) rfl) (ev_local rfl (K.k rfl) rfl) (gop_str (by omega) (by omega) (by rw [Int.toNat_natCast]; simpa using hget')) getitem_str fun _ _ => rfl) rfl hoc rfl rfl) (K.L rfl) rfl) ?_
    have hi32 : (ci ch + 1 + (f / 13 + k) % 31) % 32 < 32 := Nat.mod_lt _ (by decide)
    have hcg := cs_get hi32
    refine sx_cons (s1_assign (d := .txt (u.take pl ++ [cs ((ci ch + 1 + (f / 13 + k) % 31) % 32)] ++ u.drop (pl + 1))) (ev_bin (ev_bin (ev_sliceT (i := none) (j := some (pl : Int)) (ev_local rfl (K.k rfl) rfl) trivial (show EV X F false _ _ _ from ev_local rfl (K.k rfl) rfl) (by omega) (by rw [cut_take _ (by omega), Int.toNat_natCast]))
      (ev_sub (T := "str") (ev_local rfl (K.k rfl) rfl) (ev_bin (ev_bin (ev_bin (ev_local rfl (K.k rfl) rfl) (ev_nat (n := 1) rfl) bn_add) (ev_bin (ev_bin (ev_bin (ev_local rfl (K.k rfl) rfl) (ev_nat (n := 13) rfl) (bn_div (by decide) (by decide))) (ev_local rfl (K.k rfl) rfl) bn_add) (ev_nat (n := 31) rfl) (bn_mod (by decide))) bn_add) (ev_nat (n := 32) rfl) (bn_mod (by decide)))
        (gop_str (by omega) (by omega) (by rw [Int.toNat_natCast]; simpa using hcg)) getitem_str fun _ _ => rfl) (bn_addT (m := [_]) (by simp; omega)))
      (ev_sliceT (i := some ((pl + 1 : Nat) : Int)) (j := none) (ev_local rfl (K.k rfl) rfl) (show EV X F false _ _ _ from ev_bin (ev_local rfl (K.k rfl) rfl) (ev_nat (n := 1) rfl) bn_add) trivial (by omega) (by rw [cut_drop _ (by omega), Int.toNat_natCast])) (bn_addT (by simp; omega))) (K.L rfl) rfl)
      (sx_end (sub_cons rfl (sub_cons rfl (sub_cons rfl (sub_cons rfl (sub_cons rfl (sub_cons rfl (sub_cons rfl (sub_cons rfl (sub_cons rfl (sub_cons rfl sub_nil)))))))))))
  case rest =>
    have hul : (turned f h t).length ≤ 1000 ∧ ∀ c ∈ turned f h t, c < 128 := by
      have gen : ∀ (ks : List Nat) (u : List Nat), u.length = t.length → (∀ c ∈ u, c < 128) → (ks.foldl (turn f h t) u).length = t.length ∧ ∀ c ∈ ks.foldl (turn f h t) u, c < 128 := by
        intro ks
        induction ks with
        | nil => intro u h1 h2; exact ⟨h1, h2⟩
        | cons k ks ih =>
          intro u h1 h2
          have hpr : place f h t k < t.length := by
            have := Nat.mod_lt (f / 11 + far[k]?.getD 0) (show 0 < many by omega)
            rw [hplace k]; omega
          rw [List.foldl_cons]
          refine ih _ ?_ ?_
          · unfold turn; simp; omega
          · intro c hc
            unfold turn at hc
            rcases List.mem_append.mp hc with hc | hc
            · rcases List.mem_append.mp hc with hc | hc
              · exact h2 c (List.mem_of_mem_take hc)
              · rw [List.mem_singleton.mp hc]; exact cs_lt _
            · exact h2 c (List.mem_of_mem_drop hc)
      have := gen (List.range (1 + f / 23 % 3)) t rfl hasc
      exact ⟨by unfold turned; omega, this.2⟩
    generalize turned f h t = u at *
    refine sx_cons (g' := [("text", .txt t), ("behind", .nat b), ("head", .txt h)]) (s1_if (c := false) (TV.to (c := decide (kd = 2) && false) (tv_andL (tv_cmp (ev_local rfl (K.k rfl) rfl) (ev_nat (n := 2) rfl) cn_eq rfl) fun hk => tv_and1 ?_) (by simp)) (fun h => by cases h) fun _ => sx_end (sub_cons rfl (sub_cons rfl (sub_cons rfl sub_nil)))) hC
    have hk2 : kd = 2 := of_decide_eq_true hk
    have hd := h9 hk2
    have hd2 := h9b hk2
    refine TV.to (c := false || false) (tv_orL ?_ fun _ => tv_or1 (tv_cmp (EV.to (ev_call_f rfl (K.k rfl) (K.some (v := .ref 77) rfl) (K.gd.T.K 77 _ rfl) rfl (evs_cons (ev_local rfl (K.k rfl) rfl) (evs_cons (ev_local rfl (K.k rfl) rfl) evs_nil)) rfl (by simp) (decode_fop K.gd K.ok hc61 K.own (by have := K.lv; omega) h u hul.1 (by omega) hul.2)) (by rw [hd])) ev_none2 (ne_pair none) rfl)) rfl
    have evif : ∀ {g} {pos p1 p2 p3 p4 p5 : Pos} {k1 k2 k3 : Nat}, g.lookup (PySem.Str.ofString "version") = some (.nat v) → EV X F false g (.IfExp (.Compare (.Name "version" p1) [.Eq] [.Constant (.int 0) k1 p2] p3) (.Constant (.int 1) k2 p4) (.Constant (.int 2) k3 p5) pos) (.nat (if v = 0 then 1 else 2)) := fun {g pos p1 p2 p3 p4 p5 k1 k2 k3} hg =>
      ev_if (c := decide (v = 0)) (tv_cmp (ev_local rfl (K.k rfl) hg) (ev_nat (n := 0) rfl) cn_eq rfl) (fun hc => EV.to (ev_nat (n := 1) rfl) (by rw [if_pos (of_decide_eq_true hc)])) fun hc => EV.to (ev_nat (n := 2) rfl) (by rw [if_neg (of_decide_eq_false hc)])
    cases hdu : dec u with
    | none =>
      exact tv_cmp (ev_sub (T := "tuple") (b := .nat 0) (d := .none) (EV.to (ev_call_f rfl (K.k rfl) (K.some (v := .ref 62) rfl) (K.gd.T.K 62 _ rfl) rfl (evs_cons (ev_local rfl (K.k rfl) rfl) evs_nil) rfl (by simp) (dec_fop K.gd K.ok hc61 K.own (by have := K.lv; omega) u hul.1 hul.2)) (by rw [hdu]; rfl)) (ev_nat (n := 0) rfl) (gop_tup (m := [.none, .none, .none]) (by decide) (by decide) rfl) getitem_tuple fun _ _ => rfl) (evif rfl) cop_eq_none_nat rfl
    | some eab =>
      obtain ⟨e, a, b'⟩ := eab
      have hne := hd2 e a b' hdu
      exact TV.to (tv_cmp (ev_sub (T := "tuple") (b := .nat 0) (d := .nat e) (EV.to (ev_call_f rfl (K.k rfl) (K.some (v := .ref 62) rfl) (K.gd.T.K 62 _ rfl) rfl (evs_cons (ev_local rfl (K.k rfl) rfl) evs_nil) rfl (by simp) (dec_fop K.gd K.ok hc61 K.own (by have := K.lv; omega) u hul.1 hul.2)) (by rw [hdu]; rfl)) (ev_nat (n := 0) rfl) (gop_tup (m := [.nat e, .txt a, .nats b']) (by decide) (by decide) rfl) getitem_tuple fun _ _ => rfl) (evif rfl) cn_eq rfl) (decide_eq_false hne)
end
end Mine

-- L3
namespace Mine

section
variable {X : Cx} {F : Fx} {q : Bool} {g g' : List (PySem.Str × D)} {e l r : Expr} {d a b c : D} {pos : Pos} {es : List Expr} {ds : List D} {o : Out}

theorem cop_isnot_none' : Cop X F .IsNot .none .none (.bool false) := cop_isnot_none
theorem tup_dec {e : Nat} {h m : List Nat} (hh : ∀ c ∈ h, c < 128) : Cop X F .NotEq (.tup [.txt h, .nats m]) (.tup [.txt h, .nats m]) (.bool false) :=
  cop_ne_self (by simp [D.lay, D.layAll, strOk_lt hh]) (by simp [D.py, D.pyAll, PyData.depth, PyData.depthAll, depth_ints])

theorem lawA (K : Df X F 111 5) (hc61 : X.c = 61) {h p ns : List Nat} {v f sz : Nat} (hh : h ∈ headN) (hp : ∀ x ∈ p, x < 256) (hl : p.length ≤ 41) (hv : v ≤ 16) (hsz : sz = p.length) (hns : ns.length ≤ 8) :
    SX X F [("head", .txt h), ("version", .nat v), ("size", .nat sz), ("program", .nats p), ("fives", .nats (lfives p)), ("numbers", .nats ns), ("first", .nat f)] ((bodyAt X.w.params 111).drop 8) (.ret (.bool true)) := by
  have hhl : h.length ≤ 4 := by
    have : ∀ h ∈ headN, h.length ≤ 4 := by decide
    exact this h hh
  have hha : ∀ c ∈ h, c < 128 := by
    have : ∀ h ∈ headN, ∀ c ∈ h, c < 128 := by decide
    exact this h hh
  have hml : ∀ x ∈ v :: lfives p, x < 32 := fun x hx => by
    rcases List.mem_cons.mp hx with rfl | hx
    · omega
    · exact M1lt x hx
  have hfl := M1len p
  have m1 := M1 hp
  have m2 := M2 hp
  have m5 := M5 hh hp hl hv
  have m6 := M6 hh hp hl hv
  have m7 := M7 hh hp hl hv
  have m7b := M7b hh hp hl hv
  have m8 := M8 hh hp hl hv
  obtain ⟨e8, m8b⟩ := M8b hh hp hl hv
  have hB := fun kd => lawB K hc61 (f := f) (kd := kd) hh hp hl hv
  have hasc := encT_ascii (m := v :: lfives p) (k := kon v) hh
  have hascw := encT_ascii (m := v :: lfives p) (k := kof v) hh
  have htl := encT_len h (v :: lfives p) (kon v)
  have htlw := encT_len h (v :: lfives p) (kof v)
  have hm1 : (v :: lfives p).length = (lfives p).length + 1 := by simp
  generalize hfv : lfives p = fv at *
  generalize ht : encT h (v :: fv) (kon v) = t at *
  -- 8
  refine sx_cons (g' := [("head", .txt h), ("version", .nat v), ("size", .nat sz), ("program", .nats p), ("fives", .nats fv), ("numbers", .nats ns), ("first", .nat f)]) (s1_if (c := false || false) (tv_orL (tv_cmp (EV.to (d' := optD (some fv)) (ev_call_f rfl (K.k rfl) (K.some (v := .ref 70) rfl) (K.gd.T.K 70 _ rfl) rfl (evs_cons (ev_local rfl (K.k rfl) rfl) (evs_cons (ev_nat (n := 8) rfl) (evs_cons (ev_nat (n := 5) rfl) evs_nil))) rfl (by simp) (conv_fop3 K.gd K.ok K.own (by have := K.lv; omega) (by decide) (by decide) (by decide) p (by omega))) (by rw [m1])) (ev_local rfl (K.k rfl) rfl) (ne_optD (some fv)) rfl)
    fun _ => tv_or1 (tv_cmp (EV.to (d' := optD (some p)) (ev_call_f rfl (K.k rfl) (K.some (v := .ref 70) rfl) (K.gd.T.K 70 _ rfl) rfl (evs_cons (ev_local rfl (K.k rfl) rfl) (evs_cons (ev_nat (n := 5) rfl) (evs_cons (ev_nat (n := 8) rfl) (evs_cons ev_bool evs_nil)))) rfl (by simp) (conv_fop4 K.gd K.ok K.own (by have := K.lv; omega) (by decide) (by decide) (by decide) fv false (by omega))) (by rw [m2])) (ev_local rfl (K.k rfl) rfl) (ne_optD (some p)) rfl)) (fun h => by cases h) fun _ => sx_nil) ?_
  -- 9
  refine sx_cons (s1_compN (gc := []) srcN (fun n => n / 7 % 32) (ev_local rfl (K.k rfl) rfl) (items_natsS ns) (so_mk all0) caps_nil (by omega) ?_ (.inl rfl) (fun _ => rfl) (swaps K.fn (K.k rfl) rfl rfl) (K.L rfl)) ?_
  · exact fun C Da n _ => ev_bin (ev_bin (ev_local rfl (kc_plain rfl (by decide)) rfl) (ev_nat (n := 7) rfl) (bn_div (by decide) (by decide))) (ev_nat (n := 32) rfl) (bn_mod (by decide))
  generalize hdr : ns.map (fun n => n / 7 % 32) = dr
  have hdl : dr.length ≤ 8 := by rw [← hdr]; simpa using hns
  have hd32 : ∀ x ∈ dr, x < 32 := fun x hx => by
    rw [← hdr] at hx
    obtain ⟨n, _, rfl⟩ := List.mem_map.mp hx
    exact Nat.mod_lt _ (by decide)
  have m3 := M3 hd32
  have m4 := M4 (d := dr)
  -- 10
  refine sx_cons (g' := [("head", .txt h), ("version", .nat v), ("size", .nat sz), ("program", .nats p), ("fives", .nats fv), ("first", .nat f)]) (s1_if (c := false || (false || false)) (tv_orL (tv_cmp (EV.to (ev_call_f rfl (K.k rfl) (K.some (v := .ref 70) rfl) (K.gd.T.K 70 _ rfl) rfl (evs_cons (ev_local rfl (K.k rfl) rfl) (evs_cons (ev_nat (n := 5) rfl) (evs_cons (ev_nat (n := 8) rfl) (evs_cons ev_bool evs_nil)))) rfl (by simp) (conv_fop4 K.gd K.ok K.own (by have := K.lv; omega) (by decide) (by decide) (by decide) dr false (by omega))) (by rw [m3]))
      (ev_call_f rfl (K.k rfl) (K.some (v := .ref 101) rfl) (K.gd.T.K 101 _ rfl) rfl (evs_cons (ev_local rfl (K.k rfl) rfl) evs_nil) rfl (by simp) (octs_fop K.gd K.ok K.own (by have := K.lv; omega) dr (by omega))) (ne_optD _) rfl)
    fun _ => tv_orL (tv_cmp (EV.to (ev_call_f rfl (K.k rfl) (K.some (v := .ref 70) rfl) (K.gd.T.K 70 _ rfl) rfl (evs_cons (ev_binw (ev_local rfl (K.k rfl) rfl) (ev_natsLit (l := [32]) (evs_cons ev_int evs_nil) rfl) (bwn_add (by simp; omega))) (evs_cons (ev_nat (n := 5) rfl) (evs_cons (ev_nat (n := 8) rfl) (evs_cons ev_bool evs_nil)))) rfl (by simp) (conv_fop4 K.gd K.ok K.own (by have := K.lv; omega) (by decide) (by decide) (by decide) (dr ++ [32]) false (by simp; omega))) (by rw [m4]; rfl)) ev_none cop_isnot_none' rfl)
    fun _ => tv_or1 (tv_cmp (ev_call_f rfl (K.k rfl) (K.some (v := .ref 70) rfl) (K.gd.T.K 70 _ rfl) rfl (evs_cons (ev_listI (l := [-1]) (evs_cons (ev_neg ev_int) evs_nil) rfl) (evs_cons (ev_nat (n := 5) rfl) (evs_cons (ev_nat (n := 8) rfl) evs_nil))) rfl (by simp) (convneg_fop K.gd K.ok K.own (by have := K.lv; omega))) ev_none cop_isnot_none' rfl)) (fun h => by cases h) fun _ => sx_end (sub_cons rfl (sub_cons rfl (sub_cons rfl (sub_cons rfl (sub_cons rfl (sub_cons rfl sub_nil))))))) ?_
  -- 11
  refine sx_cons (s1_assign (d := .bool (goodB sz v)) (ev_and2 (c := decide (2 ≤ sz) && decide (sz ≤ 40)) (ev_chain2 (ev_nat (n := 2) rfl) (ev_local rfl (K.k rfl) rfl) (ev_nat (n := 40) rfl) cn_le cn_le rfl) (fun hc => ?_) fun hc => ?_) (K.L rfl) rfl) ?_
  · have e : goodB sz v = (decide (0 < v) || decide (sz = 20 ∨ sz = 32)) := by unfold goodB; rw [hc]; rfl
    rw [e]
    refine ev_or2 (c := decide (0 < v)) (ev_cmp (ev_local rfl (K.k rfl) rfl) (ev_nat (n := 0) rfl) cn_gt rfl) (fun hc => EV.to (ev_cmp (ev_local rfl (K.k rfl) rfl) (ev_tup (ds := [.nat 20, .nat 32]) (evs_cons (ev_nat (n := 20) rfl) (evs_cons (ev_nat (n := 32) rfl) evs_nil)) rfl) (cop_in_tup rfl rfl (by simp [D.py, PyData.depth])) rfl) ?_) fun hc => ?_
    · rw [hc, Bool.false_or]
      congr 1
      simp only [D.pyAll, D.py, List.any_cons, List.any_nil, PyData.eqv, Bool.or_false]
      rw [Bool.eq_iff_iff]
      simp only [Bool.or_eq_true, beq_iff_eq, decide_eq_true_eq]
      omega
    · rw [hc, Bool.true_or]
  · unfold goodB; rw [hc]; rfl
  -- 12
  have hsz2 : goodB sz v = goodB p.length v := by rw [hsz]
  rw [hsz2]
  generalize hgd : goodB p.length v = gd at *
  refine sx_cons (s1_assign (d := .txt t) (EV.to (ev_call_f rfl (K.k rfl) (K.some (v := .ref 106) rfl) (K.gd.T.K 106 _ rfl) rfl (evs_cons (ev_local rfl (K.k rfl) rfl) (evs_cons (ev_binw (ev_natsLit (l := [v]) (evs_cons (ev_local rfl (K.k rfl) rfl) evs_nil) rfl (by simp)) (ev_local rfl (K.k rfl) rfl) (bwn_add (by simp; omega))) (evs_cons (d := .nat (kon v)) (ev_if (c := decide (v = 0)) (tv_cmp (ev_local rfl (K.k rfl) rfl) (ev_nat (n := 0) rfl) cn_eq rfl) (fun hc => EV.to (ev_nat (n := 1) rfl) (by rw [kon, if_pos (of_decide_eq_true hc)])) fun hc => EV.to (ev_nat (n := 734539939) rfl) (by rw [kon, if_neg (of_decide_eq_false hc)])) evs_nil))) rfl (by simp)
    (text_fop K.gd K.ok K.own (by have := K.lv; omega) h (v :: fv) (kon v) (by omega) (by omega) hml)) (by rw [ht])) (K.L rfl) rfl) ?_
  have htl200 : t.length ≤ 200 := by omega
  -- 13
  refine sx_cons (g' := [("text", .txt t), ("good", .bool gd), ("head", .txt h), ("version", .nat v), ("size", .nat sz), ("program", .nats p), ("fives", .nats fv), ("first", .nat f)]) (s1_if (c := false) (TV.to (c := (decide (sz ≤ 20) || decide (f / 3 % 2 = 0)) && false) (tv_andL (tv_orL (tv_cmp (ev_local rfl (K.k rfl) rfl) (ev_nat (n := 20) rfl) cn_le rfl) fun _ => tv_or1 (tv_cmp (ev_bin (ev_bin (ev_local rfl (K.k rfl) rfl) (ev_nat (n := 3) rfl) (bn_div (by decide) (by decide))) (ev_nat (n := 2) rfl) (bn_mod (by decide))) (ev_nat (n := 0) rfl) cn_eq rfl))
    fun _ => tv_and1 (tv_cmp (EV.to (ev_call_f rfl (K.k rfl) (K.some (v := .ref 84) rfl) (K.gd.T.K 84 _ rfl) rfl (evs_cons (ev_local rfl (K.k rfl) rfl) (evs_cons (ev_local rfl (K.k rfl) rfl) (evs_cons (ev_local rfl (K.k rfl) rfl) evs_nil))) rfl (by simp) (encode_fop K.gd K.ok hc61 K.own K.lv h p fv v (by omega) (by omega) hha (by omega) m1 (by omega) (fun x hx => hml x (List.mem_cons_of_mem _ hx)))) (by rw [m5]))
      (ev_if (d := optT (if gd = true then some t else none)) (c := gd) (tv_plain (ev_local rfl (K.k rfl) rfl) rfl fun _ => rfl) (fun hc => EV.to (ev_local (d := .txt t) rfl (K.k rfl) rfl) (by rw [if_pos hc]; rfl)) fun hc => EV.to ev_none (by rw [if_neg (by rw [hc]; decide)]; rfl))
      (ne_optT _ fun l hl' => by
        split at hl'
        · cases hl'; exact hasc
        · cases hl') rfl)) (by simp)) (fun h => by cases h) fun _ => sx_end (sub_cons rfl (sub_cons rfl (sub_cons rfl (sub_cons rfl (sub_cons rfl (sub_cons rfl (sub_cons rfl (sub_cons rfl sub_nil))))))))) ?_
  -- 14
  refine sx_cons (g' := [("text", .txt t), ("good", .bool gd), ("head", .txt h), ("version", .nat v), ("size", .nat sz), ("program", .nats p), ("fives", .nats fv), ("first", .nat f)]) (s1_if (c := false) (TV.to (c := (decide (sz ≤ 20) || decide (f / 3 % 2 = 1)) && false) (tv_andL (tv_orL (tv_cmp (ev_local rfl (K.k rfl) rfl) (ev_nat (n := 20) rfl) cn_le rfl) fun _ => tv_or1 (tv_cmp (ev_bin (ev_bin (ev_local rfl (K.k rfl) rfl) (ev_nat (n := 3) rfl) (bn_div (by decide) (by decide))) (ev_nat (n := 2) rfl) (bn_mod (by decide))) (ev_nat (n := 1) rfl) cn_eq rfl))
    fun _ => tv_and1 (tv_cmp (EV.to (ev_call_f rfl (K.k rfl) (K.some (v := .ref 77) rfl) (K.gd.T.K 77 _ rfl) rfl (evs_cons (ev_local rfl (K.k rfl) rfl) (evs_cons (ev_local rfl (K.k rfl) rfl) evs_nil)) rfl (by simp) (decode_fop K.gd K.ok hc61 K.own (by have := K.lv; omega) h t (by omega) (by omega) hasc)) (by rw [m6]))
      (ev_if (d := pairD (if gd = true then some (v, p) else none)) (c := gd) (tv_plain (ev_local rfl (K.k rfl) rfl) rfl fun _ => rfl) (fun hc => EV.to (ev_tup (ds := [.nat v, .nats p]) (evs_cons (ev_local rfl (K.k rfl) rfl) (evs_cons (ev_local rfl (K.k rfl) rfl) evs_nil)) rfl (by simp)) (by rw [if_pos hc]; rfl)) fun hc => EV.to ev_none2 (by rw [if_neg (by rw [hc]; decide)]))
      (ne_pair _) rfl)) (by simp)) (fun h => by cases h) fun _ => sx_nil) ?_
  -- 15
  refine sx_cons (s1_assign (d := .nat (if sz ≤ 20 then f / 5 % 3 else 3)) (ev_if (c := decide (sz ≤ 20)) (tv_cmp (ev_local rfl (K.k rfl) rfl) (ev_nat (n := 20) rfl) cn_le rfl) (fun hc => EV.to (ev_bin (ev_bin (ev_local rfl (K.k rfl) rfl) (ev_nat (n := 5) rfl) (bn_div (by decide) (by decide))) (ev_nat (n := 3) rfl) (bn_mod (by decide))) (by rw [if_pos (of_decide_eq_true hc)])) fun hc => EV.to (ev_nat (n := 3) rfl) (by rw [if_neg (of_decide_eq_false hc)])) (K.L rfl) rfl) ?_
  have hkd2 : (if sz ≤ 20 then f / 5 % 3 else 3) = 2 → p.length ≤ 20 := fun h => by
    split at h
    · omega
    · cases h
  generalize (if sz ≤ 20 then f / 5 % 3 else 3) = kd at *
  -- 16
  have hup : ∀ c ∈ t.map up1, c < 128 := fun c hc => by
    obtain ⟨x, hx, rfl⟩ := List.mem_map.mp hc
    have := hasc x hx
    unfold up1; split <;> omega
  refine sx_cons (g' := [("kind", .nat kd), ("text", .txt t), ("head", .txt h), ("version", .nat v), ("fives", .nats fv), ("first", .nat f)]) (s1_if (c := false) (TV.to (c := gd && (decide (kd = 0) && (false || false))) (tv_andL (tv_plain (ev_local rfl (K.k rfl) rfl) rfl fun _ => rfl) fun hg => tv_andL (tv_cmp (ev_local rfl (K.k rfl) rfl) (ev_nat (n := 0) rfl) cn_eq rfl)
    fun _ => tv_and1 (tv_orL (tv_cmp (EV.to (d' := pairD (some (v, p))) (ev_call_f rfl (K.k rfl) (K.some (v := .ref 77) rfl) (K.gd.T.K 77 _ rfl) rfl (evs_cons (ev_local rfl (K.k rfl) rfl) (evs_cons (EV.to (ev_upper (x := mkS t) (ev_local rfl (K.k rfl) rfl) (by rw [upperT hasc]; simp [PySem.Str.length]; omega) rfl rfl) (congrArg D.str (upperT hasc))) evs_nil)) rfl (by simp) (decode_fop K.gd K.ok hc61 K.own (by have := K.lv; omega) h (t.map up1) (by simp; omega) (by omega) hup)) (by rw [m7 hg]))
        (ev_tup (ds := [.nat v, .nats p]) (evs_cons (ev_local rfl (K.k rfl) rfl) (evs_cons (ev_local rfl (K.k rfl) rfl) evs_nil)) rfl (by simp)) (ne_pair (some (v, p))) rfl)
      fun _ => tv_or1 (tv_cmp (EV.to (d' := pairD none) (ev_call_f rfl (K.k rfl) (K.some (v := .ref 77) rfl) (K.gd.T.K 77 _ rfl) rfl (evs_cons (EV.to (d := .str "b") (d' := .txt [98]) ev_str rfl) (evs_cons (ev_local rfl (K.k rfl) rfl) evs_nil)) rfl (by simp) (decode_fop K.gd K.ok hc61 K.own (by have := K.lv; omega) [98] t (by omega) (by simp) hasc)) (by rw [m7b])) ev_none2 (ne_pair none) rfl))) (by simp)) (fun h => by cases h) fun _ => sx_end (sub_cons rfl (sub_cons rfl (sub_cons rfl (sub_cons rfl (sub_cons rfl (sub_cons rfl sub_nil))))))) ?_
  -- 17
  generalize hwr : encT h (v :: fv) (kof v) = w at *
  refine sx_cons (s1_assign (d := .txt (if kd = 1 then w else [])) (ev_if (c := decide (kd = 1)) (tv_cmp (ev_local rfl (K.k rfl) rfl) (ev_nat (n := 1) rfl) cn_eq rfl) (fun hc => EV.to (ev_call_f rfl (K.k rfl) (K.some (v := .ref 106) rfl) (K.gd.T.K 106 _ rfl) rfl (evs_cons (ev_local rfl (K.k rfl) rfl) (evs_cons (ev_binw (ev_natsLit (l := [v]) (evs_cons (ev_local rfl (K.k rfl) rfl) evs_nil) rfl (by simp)) (ev_local rfl (K.k rfl) rfl) (bwn_add (by simp; omega))) (evs_cons (d := .nat (kof v)) (ev_if (c := decide (v = 0)) (tv_cmp (ev_local rfl (K.k rfl) rfl) (ev_nat (n := 0) rfl) cn_eq rfl) (fun hc => EV.to (ev_nat (n := 734539939) rfl) (by rw [kof, if_pos (of_decide_eq_true hc)])) fun hc => EV.to (ev_nat (n := 1) rfl) (by rw [kof, if_neg (of_decide_eq_false hc)])) evs_nil))) rfl (by simp)
    (text_fop K.gd K.ok K.own (by have := K.lv; omega) h (v :: fv) (kof v) (by omega) (by omega) hml)) (by rw [if_pos (of_decide_eq_true hc)]; exact congrArg D.txt hwr)) fun hc => EV.to (d := .str "") ev_str (by rw [if_neg (of_decide_eq_false hc)]; rfl)) (K.L rfl) rfl) ?_
  -- 18
  refine sx_cons (g' := [("text", .txt t), ("head", .txt h), ("first", .nat f), ("version", .nat v), ("kind", .nat kd)]) (s1_if (c := false) (TV.to (c := decide (kd = 1) && (false || false)) (tv_andL (tv_cmp (ev_local rfl (K.k rfl) rfl) (ev_nat (n := 1) rfl) cn_eq rfl) fun hk => tv_and1 (tv_orL
      (tv_cmp (EV.to (d' := pairD none) (ev_call_f rfl (K.k rfl) (K.some (v := .ref 77) rfl) (K.gd.T.K 77 _ rfl) rfl (evs_cons (ev_local rfl (K.k rfl) rfl) (evs_cons (EV.to (d' := .txt w) (ev_local rfl (K.k rfl) rfl) (by rw [if_pos (of_decide_eq_true hk)])) evs_nil)) rfl (by simp) (decode_fop K.gd K.ok hc61 K.own (by have := K.lv; omega) h w (by omega) (by omega) hascw)) (by rw [m8])) ev_none2 (ne_pair none) rfl)
      fun _ => tv_or1 (tv_cmp (ev_tailT (a := .nat e8) (ds := [.txt h, .nats (v :: fv)]) (EV.to (ev_call_f rfl (K.k rfl) (K.some (v := .ref 62) rfl) (K.gd.T.K 62 _ rfl) rfl (evs_cons (EV.to (d' := .txt w) (ev_local rfl (K.k rfl) rfl) (by rw [if_pos (of_decide_eq_true hk)])) evs_nil) rfl (by simp) (dec_fop K.gd K.ok hc61 K.own (by have := K.lv; omega) w (by omega) hascw)) (by rw [m8b]; rfl)) (by simp))
        (ev_tup (ds := [.txt h, .nats (v :: fv)]) (evs_cons (ev_local rfl (K.k rfl) rfl) (evs_cons (ev_binw (ev_natsLit (l := [v]) (evs_cons (ev_local rfl (K.k rfl) rfl) evs_nil) rfl (by simp)) (ev_local rfl (K.k rfl) rfl) (bwn_add (by simp; omega))) evs_nil)) rfl (by simp)) (tup_dec (e := 0) hha) rfl))) (by simp)) (fun h => by cases h) fun _ => sx_end (sub_cons rfl (sub_cons rfl (sub_cons rfl (sub_cons rfl (sub_cons rfl sub_nil)))))) (hB kd hkd2)
end
end Mine

-- L4
namespace Mine

section
variable {X : Cx} {F : Fx} {q : Bool} {g g' : List (PySem.Str × D)} {e l r : Expr} {d a b c : D} {pos : Pos} {es : List Expr} {ds : List D} {o : Out}

theorem fn_abs {n : Int} : Fop X F q (.builtin "abs") [.int n] (.nat n.natAbs) := by
  have := fop_abs (X := X) (F := F) (q := q) (n := n)
  have e : (if n < 0 then -n else n) = (n.natAbs : Int) := by split <;> omega
  rwa [e] at this

theorem law0b (K : Df X F 111 5) (hc61 : X.c = 61) {h ns : List Nat} {f : Nat} (hh : h ∈ headN) (hnl : ns.length ≤ 8) :
    SX X F [("head", .txt h), ("first", .nat f), ("numbers", .nats ns)] ((bodyAt X.w.params 111).drop 3) (.ret (.bool true)) := by
  -- 3
  refine sx_cons (s1_assign (d := .nat (f / 3 % 17)) (ev_bin (ev_bin (ev_local rfl (K.k rfl) rfl) (ev_nat (n := 3) rfl) (bn_div (by decide) (by decide))) (ev_nat (n := 17) rfl) (bn_mod (by decide))) (K.L rfl) rfl) ?_
  have hv : f / 3 % 17 ≤ 16 := by omega
  generalize f / 3 % 17 = v at *
  -- 4
  have hk0 : f / 56 % 4 < 4 := Nat.mod_lt _ (by decide)
  have hk1 : f / 7 % 8 < 8 := Nat.mod_lt _ (by decide)
  have hy : f / 51 % 42 < 42 := Nat.mod_lt _ (by decide)
  generalize ek0 : f / 56 % 4 = k0 at *
  generalize ek1 : f / 7 % 8 = k1 at *
  generalize ey : f / 51 % 42 = y at *
  have hin : [32, 40, 41, y][k0]? = some ([32, 40, 41, y][k0]?.getD 0) := get_some hk0
  have hxle : [32, 40, 41, y][k0]?.getD 0 ≤ 41 := by
    have hi : ∀ x ∈ [32, 40, 41, y], x ≤ 41 := by simp; omega
    rw [List.getElem?_eq_getElem (show k0 < [32, 40, 41, y].length from hk0)]
    exact hi _ (List.getElem_mem _)
  generalize [32, 40, 41, y][k0]?.getD 0 = x at *
  have hout : [20, 2, 5, 3, 1, 0, 20, x][k1]? = some ([20, 2, 5, 3, 1, 0, 20, x][k1]?.getD 0) := get_some hk1
  have hle : [20, 2, 5, 3, 1, 0, 20, x][k1]?.getD 0 ≤ 41 := by
    have hi : ∀ z ∈ [20, 2, 5, 3, 1, 0, 20, x], z ≤ 41 := by simp; omega
    rw [List.getElem?_eq_getElem (show k1 < [20, 2, 5, 3, 1, 0, 20, x].length from hk1)]
    exact hi _ (List.getElem_mem _)
  generalize [20, 2, 5, 3, 1, 0, 20, x][k1]?.getD 0 = sz at *
  refine @sx_cons X F _ _ _ _ [("size", .nat sz), ("version", .nat v), ("head", .txt h), ("first", .nat f), ("numbers", .nats ns)] ?a4 ?r4
  case a4 =>
    refine @s1_assign X F _ _ (.nat sz) _ _ _ ?e (K.L rfl) rfl
    refine @ev_sub X F false _ _ _ (.nat sz) (.nats [20, 2, 5, 3, 1, 0, 20, x]) (.nat k1) _ "list" _ ?l ?i (gn_get hout (by omega)) getitem_list (fun _ _ => rfl)
    case i => exact EV.to (ev_bin (ev_bin (ev_local rfl (K.k rfl) rfl) (ev_nat (n := 7) rfl) (bn_div (by decide) (by decide))) (ev_nat (n := 8) rfl) (bn_mod (by decide))) (by rw [ek1])
    case l =>
      refine @ev_natsLit X F false _ _ _ [20, 2, 5, 3, 1, 0, 20, x] ?es rfl (by simp)
      refine @evs_cons X F false _ _ _ _ _ (@ev_int X F false _ _ _ _) (@evs_cons X F false _ _ _ _ _ (@ev_int X F false _ _ _ _) (@evs_cons X F false _ _ _ _ _ (@ev_int X F false _ _ _ _) (@evs_cons X F false _ _ _ _ _ (@ev_int X F false _ _ _ _) (@evs_cons X F false _ _ _ _ _ (@ev_int X F false _ _ _ _) (@evs_cons X F false _ _ _ _ _ (@ev_int X F false _ _ _ _) (@evs_cons X F false _ _ _ _ _ (@ev_int X F false _ _ _ _) (@evs_cons X F false _ _ _ _ _ ?last (@evs_nil X F false _))))))))
      refine @ev_sub X F false _ _ _ (.nat x) (.nats [32, 40, 41, y]) (.nat k0) _ "list" _ ?lb ?ib (gn_get hin (by omega)) getitem_list (fun _ _ => rfl)
      case ib => exact EV.to (ev_bin (ev_bin (ev_local rfl (K.k rfl) rfl) (ev_nat (n := 56) rfl) (bn_div (by decide) (by decide))) (ev_nat (n := 4) rfl) (bn_mod (by decide))) (by rw [ek0])
      case lb =>
        refine @ev_natsLit X F false _ _ _ [32, 40, 41, y] ?esb rfl (by simp)
        refine @evs_cons X F false _ _ _ _ _ (@ev_int X F false _ _ _ _) (@evs_cons X F false _ _ _ _ _ (@ev_int X F false _ _ _ _) (@evs_cons X F false _ _ _ _ _ (@ev_int X F false _ _ _ _) (@evs_cons X F false _ _ _ _ _ ?lastb (@evs_nil X F false _))))
        exact EV.to (ev_bin (ev_bin (ev_local rfl (K.k rfl) rfl) (ev_nat (n := 51) rfl) (bn_div (by decide) (by decide))) (ev_nat (n := 42) rfl) (bn_mod (by decide))) (by rw [ey])
  -- 5
  refine sx_cons (s1_assign (d := .nats (if 1 < ns.length then ns.drop 1 else [f])) (ev_if (c := decide (1 < ns.length)) (tv_cmp (ev_call_b rfl (K.k rfl) (K.none rfl) rfl (by decide) (evs_cons (ev_local rfl (K.k rfl) rfl) evs_nil) rfl (by simp) (fn_len (by omega))) (ev_nat (n := 1) rfl) cn_gt rfl)
    (fun hc => EV.to (ev_sliceI (i := some 1) (j := none) (ev_local rfl (K.k rfl) rfl) (show EV X F false _ _ _ from ev_int) trivial (by rw [toI_length]; omega)) (by rw [if_pos (of_decide_eq_true hc), cut_drop _ (by decide)]; exact congrArg D.ints (toI_drop ns 1).symm))
    fun hc => EV.to (ev_natsLit (l := [f]) (evs_cons (ev_local rfl (K.k rfl) rfl) evs_nil) rfl (by simp)) (by rw [if_neg (of_decide_eq_false hc)])) (K.C rfl) rfl) ?_
  have hsd : 0 < (if 1 < ns.length then ns.drop 1 else [f]).length ∧ (if 1 < ns.length then ns.drop 1 else [f]).length ≤ 8 := by
    split
    · rw [List.length_drop]; omega
    · simp
  generalize (if 1 < ns.length then ns.drop 1 else [f]) = sd at *
  -- 6
  refine sx_cons (s1_compN (gc := [("seed", .nats sd)]) srcN (fun k => (sd[k % sd.length]?.getD 0 + 37 * k) % 256) (ev_call_t rfl (K.k rfl) (K.none rfl) rfl (by decide) (evs_cons (ev_local rfl (K.k rfl) rfl) evs_nil) rfl (by simp) (fn_range1 (by omega))) (items_rangeS sz) (so_mk (all1 (K.k rfl))) (caps_cons rfl rfl rfl caps_nil) (by simp; omega) ?_ (.inl rfl) (fun _ => rfl) (swaps K.fn (K.k rfl) rfl rfl) (K.L rfl)) ?_
  · intro C Da k hk
    have := List.mem_range.mp hk
    exact ev_bin (ev_bin (ev_sub (ev_cell rfl (kc_free K.fn (K.k rfl) rfl) rfl) (ev_bin (ev_local rfl (kc_plain rfl (by decide)) rfl) (ev_call_b rfl (kc_plain rfl (by decide)) (K.none rfl) rfl (by decide) (evs_cons (ev_cell rfl (kc_free K.fn (K.k rfl) rfl) rfl) evs_nil) rfl (by simp) (fn_len (by omega))) (bn_mod hsd.1)) (gn_get (get_some (Nat.mod_lt _ hsd.1)) (by have := Nat.mod_lt k hsd.1; omega)) getitem_list fun _ _ => rfl)
      (ev_bin (ev_nat (n := 37) rfl) (ev_local rfl (kc_plain rfl (by decide)) rfl) (bn_mul (by decide))) bn_add) (ev_nat (n := 256) rfl) (bn_mod (by decide))
  have hp : ∀ x ∈ (List.range sz).map (fun k => (sd[k % sd.length]?.getD 0 + 37 * k) % 256), x < 256 := fun x hx => by
    obtain ⟨k, _, rfl⟩ := List.mem_map.mp hx; exact Nat.mod_lt _ (by decide)
  have hpl : ((List.range sz).map (fun k => (sd[k % sd.length]?.getD 0 + 37 * k) % 256)).length = sz := by simp
  generalize (List.range sz).map (fun k => (sd[k % sd.length]?.getD 0 + 37 * k) % 256) = p at *
  -- 7
  refine sx_cons (s1_assign (d := .nats (lfives p)) (ev_call_f rfl (K.k rfl) (K.some (v := .ref 96) rfl) (K.gd.T.K 96 _ rfl) rfl (evs_cons (ev_local rfl (K.k rfl) rfl) evs_nil) rfl (by simp) (fives_fop K.gd K.ok K.own (by have := K.lv; omega) p (by omega))) (K.L rfl) rfl) ?_
  exact sx_sub (lawA K hc61 (f := f) (ns := ns) hh hp (by omega) hv hpl.symm hnl) (sub_cons rfl (sub_cons rfl (sub_cons rfl (sub_cons rfl (sub_cons rfl (sub_cons rfl (sub_cons rfl sub_nil)))))))

theorem law_sx (K : Df X F 111 5) (hc61 : X.c = 61) (s : List Int) (hs : s.length ≤ 100000) :
    SX X F [("script", .ints s)] (bodyAt X.w.params 111) (.ret (.bool true)) := by
  -- 0
  refine sx_cons (s1_compN (gc := []) srcI Int.natAbs (EV.to (d' := .ints (s.take 8)) (ev_sliceI (i := none) (j := some 8) (ev_local rfl (K.k rfl) rfl) trivial (show EV X F true _ _ _ from ev_int) (by omega)) (congrArg D.ints (cut_take _ (by decide)))) (items_intsS (s.take 8)) (so_mk all0) caps_nil (by rw [List.length_take]; omega) ?_ (.inl rfl) (fun _ => rfl) (swaps K.fn (K.k rfl) rfl rfl) (K.L rfl)) ?_
  · exact fun C Da n _ => ev_call_b rfl (kc_plain rfl (by decide)) (K.none rfl) rfl (by decide) (evs_cons (ev_call_t rfl (kc_plain rfl (by decide)) (K.none rfl) rfl (by decide) (evs_cons (ev_local rfl (kc_plain rfl (by decide)) rfl) evs_nil) rfl (by simp) fop_int) evs_nil) rfl (by simp) fn_abs
  have hnl : ((s.take 8).map Int.natAbs).length ≤ 8 := by rw [List.length_map, List.length_take]; omega
  generalize (s.take 8).map Int.natAbs = ns at *
  -- 1
  refine sx_cons (s1_assign (d := .nat (ns[0]?.getD 0)) (ev_if (c := !(toI ns).isEmpty) (tv_plain (ev_local rfl (K.k rfl) rfl) (by
      show (if (toI ns).length < 2 ^ 60 then some (!(toI ns).isEmpty) else none) = _
      rw [if_pos (by rw [toI_length]; omega)]) fun _ => rfl)
    (fun hc => ev_sub (ev_local rfl (K.k rfl) rfl) (ev_nat (n := 0) rfl) (gn_get (get_some (by
      cases ns with
      | nil => cases hc
      | cons a l => simp)) (by decide)) getitem_list fun _ _ => rfl)
    fun hc => EV.to (ev_nat (n := 0) rfl) (by
      cases ns with
      | nil => rfl
      | cons a l => cases hc)) (K.L rfl) rfl) ?_
  generalize ns[0]?.getD 0 = f
  -- 2
  have hf3 : f % 3 < 3 := Nat.mod_lt _ (by decide)
  have hh : headN[f % 3]?.getD [] ∈ headN := by
    have : f % 3 < headN.length := hf3
    rw [List.getElem?_eq_getElem this]; exact List.getElem_mem this
  refine sx_cons (s1_assign (d := .txt (headN[f % 3]?.getD [])) (ev_sub (T := "list") (a := .strs [mkS [98, 99], mkS [116, 98], mkS [98, 99, 114, 116]]) (b := .nat (f % 3)) (ev_listS (l := [mkS [98, 99], mkS [116, 98], mkS [98, 99, 114, 116]]) (evs_cons (EV.to (d := .str "bc") ev_str rfl) (evs_cons (EV.to (d := .str "tb") ev_str rfl) (evs_cons (EV.to (d := .str "bcrt") ev_str rfl) evs_nil))) rfl)
    (ev_bin (ev_local rfl (K.k rfl) rfl) (ev_nat (n := 3) rfl) (bn_mod (by decide))) (gop_strs (by omega) (by omega) (by
      rw [Int.toNat_natCast]
      have : f % 3 = 0 ∨ f % 3 = 1 ∨ f % 3 = 2 := by omega
      rcases this with h | h | h <;> rw [h] <;> rfl)) getitem_list fun _ _ => rfl) (K.L rfl) rfl) ?_
  generalize headN[f % 3]?.getD [] = h at *
  have hB := law0b K hc61 (f := f) (ns := ns) hh hnl
  exact @sx_sub X F _ _ _ _ hB (sub_cons rfl (sub_cons rfl (sub_cons rfl sub_nil)))
end
end Mine

-- L5
namespace Mine

theorem law_end {w : World} {s₁ : Shared} {mean : ExcName → Option Value} {mg mb : PySem.Str → Option Value} {bm : Addr} {ob : Obj} {loose : List PySem.Str} {env : Env} {h₁ : Heap} {tk : Nat} {l : Addr} {vs : List Value} {s : List Int} {m : PySem.Str → Option Value} {ov : Option Value} {E : Value → Shared → Prop}
    (T : Top hd.view_39 loose mean mg mb s₁.heap) (KX : (hd.heap_39 w.params).In s₁.heap) (M : BMod s₁.heap mainGlobals mg bm ob) (hg : s₁.gens = #[])
    (hL : s₁.heap.IsList l vs.toArray) (hI : IntsAre vs s) (hlen : s.length ≤ 100000) (F : Fr s₁.heap s₁.heap.objs.size h₁ m) (hm : m "script" = some (.ref l))
    (hloc : env.locals = s₁.heap.objs.size) (hglob : env.globals = mainGlobals) (hbi : env.builtins = builtinsNs) (hk : ∀ x, env.kindOf x = (namesAt w.params 111).lookup x) (hfn : env.scope.kind = .function)
    (hcs : env.cells = cellsFrom (s₁.heap.objs.size + 1) (namesAt w.params 111) []) (hcell : h₁.IsCell (s₁.heap.objs.size + 1) ov) :
    wpAny (model Challenge.rw_fu0007_01.row.prog w) (callerA.deeper env) (execs (bodyAt w.params 111) env) (fun f s' => f = .ret (.bool true) ∧ OldK s₁.heap s'.heap ∧ s'.os = s₁.os ∧ AllBare s'.gens) E { s₁ with heap := h₁, toks := tk } := by
  have hmd : mg "bech32_decode" = some (.ref 62) := ns_some_of KX T.g rfl
  obtain ⟨c, P, hcode, B⟩ := based_of_top T (name := "bech32_decode") rfl hmd (KX 62 _ rfl) rfl
  have hc61 : c = 61 := by cases hcode; rfl
  let X : Cx := ⟨Challenge.rw_fu0007_01.row.prog, w, s₁.heap, c, P, fun gs os => AllBare gs ∧ os = s₁.os, mg, mb, bm, ob⟩
  have ok : X.Ok := ⟨T.g, T.b, T.nolimit, M, T.builtins⟩
  have I : Inv X { s₁ with heap := h₁, toks := tk } := ⟨ok, ⟨s₁.heap, #[], B, F.keep⟩, AllBare.of_eq hg, rfl⟩
  let Fx0 : Fx := ⟨none, callerA.deeper env, env, 5⟩
  have K : Df X Fx0 111 5 := ⟨⟨⟨KX⟩, ⟨s₁.os, fun gs os => Iff.rfl⟩⟩, ok, hk, hfn, rfl, Nat.le_refl _⟩
  have e1 : cellsFrom (s₁.heap.objs.size + 1) (namesAt w.params 111) [] = [((("seed" : PySem.Str)), s₁.heap.objs.size + 1)] := by rfl
  have f : Fits X Fx0 h₁ [("script", .ints s)] := by
    refine ⟨?_, hfn, hglob, hbi, ⟨rfl, ?_, ?_⟩, ⟨m, ?_, fun y d hy hl => ?_⟩, fun y c' hc' => ?_, fun y hy => ?_, fun x y c' hx hy => ?_, nofun⟩
    · show s₁.heap.get? env.locals = none
      rw [hloc]; exact fresh_none _
    · show callerA.depth + 1 + 5 < recursionLimit
      decide +kernel
    · show callerA.units + 3 + 16 * 5 + 16 < cLine
      decide +kernel
    · show h₁.Ns env.locals m
      rw [hloc]; exact F.ns
    · rw [lookup_cons_eq] at hy
      split at hy
      · rename_i e; subst e; cases hy
        obtain ⟨o, ho, r⟩ := hL
        exact ⟨_, hm, .ints ⟨o, F.keep _ _ ho, r⟩ hI nofun⟩
      · cases hy
    · have hc2 : env.cells.lookup y = some c' := hc'
      rw [hcs, e1, lookup_cons_eq] at hc2
      split at hc2
      · rename_i e
        subst e
        cases hc2
        refine ⟨Heap.get?_none_of_le (Nat.le_succ _), ov, hcell, fun d hd' hk' => ?_⟩
        rw [lookup_cons_eq] at hd'
        split at hd'
        · rename_i e; exact absurd e (by decide)
        · cases hd'
      · cases hc2
    · have hc2 : env.kindOf y = some .cell := hy
      rw [hk] at hc2
      have := cf_has (namesAt w.params 111) (s₁.heap.objs.size + 1) [] y (.inr (mem_of_lookup hc2))
      rw [← hcs] at this
      exact Option.isSome_iff_exists.mp this
    · have hx2 : env.cells.lookup x = some c' := hx
      have hy2 : env.cells.lookup y = some c' := hy
      rw [hcs] at hx2 hy2
      exact cf_inj _ _ [] (fun _ _ h => by cases h) (fun _ _ _ h => by cases h) x y c' hx2 hy2
  refine wpAny_mono (law_sx K hc61 s hlen _ E I f) (fun fl s' x => ?_) fun _ _ x => x
  obtain ⟨⟨v, rfl, iv⟩, r⟩ := x
  cases iv
  obtain ⟨h₀, ps, B', kk⟩ := r.1.base
  exact ⟨rfl, B'.old.step_keeps kk, r.1.ext.2, r.1.ext.1⟩
end Mine

end

open PySem PySem.W PyProof.Rows
set_option maxRecDepth 100000 in
set_option maxHeartbeats 8000000 in
theorem PySem.Challenge.cw_fu0007_01_holds : PySem.Challenge.rw_fu0007_01.Holds :=
  Mine.hd (by
  k_fill
  intro w s₀ s₁ mg mb G Y fa o pm cd doc dV kV ho hd hcd hD hmg hg args vals as hpre hlay hrd hwl hlo
  have KX := kIn_of Y
  refine Ground.open G ?_
  intro T B D TE TW
  obtain ⟨bm, ob, M⟩ := bmod_of_top T
  wrow_args hpre hlay hrd hwl hlo
  all_goals (
    first | refine callC_kw (enter_call ?_) | refine enter_call ?_
    w_top on
    w_call any ho hd hcd hD T F)
  rename_i wl hs hlay0 hL0 hr0 hl2 a1 a2 l vs a3 hL ra w1 r0 hI hr hc1 hc2 h₁ tk₁ oc hright N0 X0
  refine wpAny_mono (Mine.law_end (l := l) (vs := vs) (s := wl) (ov := _) T KX M hg hL hI ?len F ?hm rfl rfl rfl (fun _ => rfl) rfl rfl ⟨oc, (N0 _ List.mem_cons_self).1, hright⟩) (fun f s' x => ?fin) (fun _ _ x => x)
  case len =>
    have h1 : ¬ ((63 : Nat) : Int) < ((wl.length : Nat) : Int) := hc1
    omega
  case hm => rfl
  case fin =>
    obtain ⟨rfl, hold, hos, hbare⟩ := x
    refine ⟨.inl ⟨.bool true, _, _, rfl, raisesW_false (by wrow_none_raised), readsW_of_reads (.bool true), ?_, ?_⟩, hold, hos, hbare⟩
    · exact postW_of (by wrow_shape) (by wtm_val) (by str_meet; first | done | w_fin)
    · first | exact unshared_nil | exact fun h => absurd h (by decide))
